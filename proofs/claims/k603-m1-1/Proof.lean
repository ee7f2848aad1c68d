import JvmDerived
import JvmDerived.Pilot.@@N@@Statement
import JvmDerived.Pilot.@@N@@Code
set_option linter.unusedVariables false
set_option linter.unusedSimpArgs false
namespace Jvm.RoadKit
open Sem ClassFile Op Lib Jvm.Stand Jvm.Free Jvm.LawKit
section New
variable {p : Program} {l : Launch} {e : Env} {R : Room} {s : State} {m : MethodId} {args : Array Value} {below : List Frame} {meth : Method} {c : Code} {T : State} {locs : List Loc} {cells slots : Nat}
theorem retI (X : Stand p l e R s m args below meth c T locs cells slots) (hx : p.tables.exec = Jvm.exec) {pc : Nat} {Ls : Array Slot} {z : Int32} {rest : List Value} (hret : meth.sig.returnType = some .int) (hd : decode c.code pc = .ok (.ireturn, 1)) {fs : List Frame}
    (hl : ∀ (f : JFrame) (acts : List Action), f.method = m → f.locked = none → f.entered = [] → (doReturn e (T.setTop f) acts (some (.int z))).1 = T.setFrames fs) : Steps p.tables e below (T.setTop (mkF m pc Ls (.int z :: rest))) (T.setFrames fs) :=
  retOut X hx hret rfl (Or.inl ⟨rfl, Or.inl rfl, z, rfl⟩) hd hl
theorem own_lremM {g : JFrame} {target : State} (X : Stand p l e R s m args below meth c T locs cells slots) (hx : p.tables.exec = Jvm.exec) (hg : g.method = m) {x y : Int64} {rest : List Value} (hd : decode c.code g.pc = .ok (.lrem, 1)) (hs : g.stack = .long y :: .long x :: rest) (hy : y ≠ 0)
    (hr : Steps p.tables e below (T.setTop { g with pc := g.pc + 1, stack := .long (x % y) :: rest }) target) : Steps p.tables e below (T.setTop g) target := by
  have q : x - x / y * y = x % y := lrem_mod x y
  exact XS.lrem X.here hx hg hd hs hy (by rw [q]; exact hr)
theorem own_evInt {Z : State} {args : Array Value} {t : Term} {k : Int32} (h : (Jvm.Cond.eq t (.int k)).value args Z none Z [] = some true) : t.eval args Z none [] Z = some (.int k) := by
  obtain ⟨x, y, h1, h2, -, -⟩ := cmp_v (Or.inl h)
  have hy : y = .int k := Option.some.inj (h2.symm.trans (Term.int_eval k))
  subst hy
  have hx : x = .int k := by
    cases x <;> simp [Cond.value, h1, h2] at h ⊢
    exact h
  rw [h1, hx]
theorem own_selPriv {y : MethodName} {kI : Nat} (hI : (Jvm.Cond.instantiable y.cls kI).before args s = true) (hpriv : s.PrivateAt y) (hinst : (Jvm.Cond.instanceMethod y).before args s = true) (hy : y.cls ≠ "java/lang/invoke/MethodHandle" ∧ y.cls ≠ "java/lang/invoke/VarHandle") : (Jvm.Cond.selects y.cls y y).before args s = true := by
  obtain ⟨c, k, h1, h2, -, h4, -⟩ := Cond.instantiable_spec hI
  exact selects_self_of_private h1 h2 (Bool.or_eq_false_iff.mp h4).1 hpriv hinst hy
theorem own_since0 (s : State) : s.Since s.vm 0 := (State.WarmedH.refl s).since _
theorem own_irr32 (x : Int32) : ¬ (x < x) := Int32.lt_irrefl
theorem own_irr64 (x : Int64) : ¬ (x < x) := Int64.lt_irrefl
theorem own_fldInt {Z : State} {args : Array Value} {t : Term} {a : Addr} {C n d : String} {k : Int32} (ev : t.eval args Z none [] Z = some (.ref a)) (h : (Jvm.Cond.eq (.field t C n d) (.int k)).value args Z none Z [] = some true) : Fld Z Z.heap a C n d (.int k) := by
  obtain ⟨x, y, h1, h2, -, -⟩ := cmp_v (Or.inl h)
  have hy : y = .int k := Option.some.inj (h2.symm.trans (Term.int_eval k))
  subst hy
  have hx : x = .int k := by
    cases x <;> simp [Cond.value, h1, h2] at h ⊢
    exact h
  rw [fld_at ev] at h1
  exact Fld.start (hx ▸ h1)
end New
end Jvm.RoadKit
namespace Jvm.Pilot.@@N@@
open Jvm Jvm.ClassFile Sem Op Lib Jvm.Free Jvm.Stand Jvm.LawKit Jvm.RoadKit Bundle Jvm.Pilot.@@N@@.Jvm.D
abbrev mn0 : MethodName := ⟨"com/example/strict_limiter/strictlimiter/KeptWindows", "<init>", "(I)V"⟩
abbrev mn1 : MethodName := ⟨"com/example/strict_limiter/strictlimiter/KeptWindows", "add", "(JJJJ)V"⟩
abbrev mn2 : MethodName := ⟨"com/example/strict_limiter/strictlimiter/KeptWindows", "field", "(JI)J"⟩
abbrev mn3 : MethodName := ⟨"com/example/strict_limiter/strictlimiter/KeptWindows", "firstStart", "()J"⟩
abbrev mn4 : MethodName := ⟨"com/example/strict_limiter/strictlimiter/KeptWindows", "forget", "(JJJ)V"⟩
abbrev mn5 : MethodName := ⟨"com/example/strict_limiter/strictlimiter/KeptWindows", "insert", "(IJ)I"⟩
abbrev mn6 : MethodName := ⟨"com/example/strict_limiter/strictlimiter/KeptWindows", "movedToFront", "([JII)[J"⟩
abbrev mn7 : MethodName := ⟨"com/example/strict_limiter/strictlimiter/WindowRecord", "add", "([JIIJJ)V"⟩
abbrev mn8 : MethodName := ⟨"java/lang/Math", "max", "(II)I"⟩
abbrev mn9 : MethodName := ⟨"java/util/Arrays", "binarySearch", "([JIIJ)I"⟩
abbrev mn10 : MethodName := ⟨"java/util/Arrays", "binarySearch0", "([JIIJ)I"⟩
abbrev mn11 : MethodName := ⟨"java/util/Arrays", "fill", "([JIIJ)V"⟩
abbrev mn12 : MethodName := ⟨"java/util/Arrays", "rangeCheck", "(III)V"⟩
abbrev cn1 : String := "com/example/strict_limiter/strictlimiter/WindowRecord"
abbrev cn2 : String := "com/example/strict_limiter/strictlimiter/KeptWindows"
theorem wd0 {a0 : Array Value} {Z : State} (hw : ∀ d ∈ tables_1, d.before a0 Z = true) : (Jvm.Cond.constantLong "com/example/strict_limiter/strictlimiter/KeptWindowsForgetPinLaw" (7 : Nat) (4611686018427387903 : Int64)).before a0 Z = true := hw _ (List.mem_of_getElem? (i := 0) rfl)
theorem wd1 {a0 : Array Value} {Z : State} (hw : ∀ d ∈ tables_1, d.before a0 Z = true) : (Jvm.Cond.classLink "com/example/strict_limiter/strictlimiter/KeptWindowsForgetPinLaw" (9 : Nat) "com/example/strict_limiter/strictlimiter/KeptWindows").before a0 Z = true := hw _ (List.mem_of_getElem? (i := 1) rfl)
theorem wd2 {a0 : Array Value} {Z : State} (hw : ∀ d ∈ tables_1, d.before a0 Z = true) : (Jvm.Cond.instantiable "com/example/strict_limiter/strictlimiter/KeptWindows" (6 : Nat)).before a0 Z = true := hw _ (List.mem_of_getElem? (i := 2) rfl)
theorem wd3 {a0 : Array Value} {Z : State} (hw : ∀ d ∈ tables_1, d.before a0 Z = true) : (Jvm.Cond.initialized "com/example/strict_limiter/strictlimiter/KeptWindows").before a0 Z = true := hw _ (List.mem_of_getElem? (i := 3) rfl)
theorem wd4 {a0 : Array Value} {Z : State} (hw : ∀ d ∈ tables_1, d.before a0 Z = true) : (Jvm.Cond.methodLink "com/example/strict_limiter/strictlimiter/KeptWindowsForgetPinLaw" (11 : Nat) ({ cls := "com/example/strict_limiter/strictlimiter/KeptWindows", name := "<init>", desc := "(I)V" } : Jvm.MethodName)).before a0 Z = true := hw _ (List.mem_of_getElem? (i := 4) rfl)
theorem wd5 {a0 : Array Value} {Z : State} (hw : ∀ d ∈ tables_1, d.before a0 Z = true) : (Jvm.Cond.instanceMethod ({ cls := "com/example/strict_limiter/strictlimiter/KeptWindows", name := "<init>", desc := "(I)V" } : Jvm.MethodName)).before a0 Z = true := hw _ (List.mem_of_getElem? (i := 5) rfl)
theorem wd6 {a0 : Array Value} {Z : State} (hw : ∀ d ∈ tables_1, d.before a0 Z = true) : (Jvm.Cond.code ({ cls := "com/example/strict_limiter/strictlimiter/KeptWindows", name := "<init>", desc := "(I)V" } : Jvm.MethodName) prog_23_method_1_code (2 : Nat) (Option.none : Option Jvm.ClassFile.FieldType)).before a0 Z = true := hw _ (List.mem_of_getElem? (i := 6) rfl)
theorem wd7 {a0 : Array Value} {Z : State} (hw : ∀ d ∈ tables_1, d.before a0 Z = true) : (Jvm.Cond.methodLink "com/example/strict_limiter/strictlimiter/KeptWindows" (1 : Nat) ({ cls := "java/lang/Object", name := "<init>", desc := "()V" } : Jvm.MethodName)).before a0 Z = true := hw _ (List.mem_of_getElem? (i := 7) rfl)
theorem wd8 {a0 : Array Value} {Z : State} (hw : ∀ d ∈ tables_1, d.before a0 Z = true) : (Jvm.Cond.instanceMethod ({ cls := "java/lang/Object", name := "<init>", desc := "()V" } : Jvm.MethodName)).before a0 Z = true := hw _ (List.mem_of_getElem? (i := 8) rfl)
theorem wd9 {a0 : Array Value} {Z : State} (hw : ∀ d ∈ tables_1, d.before a0 Z = true) : (Jvm.Cond.code ({ cls := "java/lang/Object", name := "<init>", desc := "()V" } : Jvm.MethodName) object_method_1_code (1 : Nat) (Option.none : Option Jvm.ClassFile.FieldType)).before a0 Z = true := hw _ (List.mem_of_getElem? (i := 9) rfl)
theorem wd10 {a0 : Array Value} {Z : State} (hw : ∀ d ∈ tables_1, d.before a0 Z = true) : (Jvm.Cond.fieldLink "com/example/strict_limiter/strictlimiter/KeptWindows" (7 : Nat) "com/example/strict_limiter/strictlimiter/KeptWindows" "NONE" "[J").before a0 Z = true := hw _ (List.mem_of_getElem? (i := 10) rfl)
theorem wd11 {a0 : Array Value} {Z : State} (hw : ∀ d ∈ tables_1, d.before a0 Z = true) : (Jvm.Cond.laysStatic "com/example/strict_limiter/strictlimiter/KeptWindows" "NONE" "[J").before a0 Z = true := hw _ (List.mem_of_getElem? (i := 11) rfl)
theorem wd12 {a0 : Array Value} {Z : State} (hw : ∀ d ∈ tables_1, d.before a0 Z = true) : (Jvm.Cond.fieldLink "com/example/strict_limiter/strictlimiter/KeptWindows" (13 : Nat) "com/example/strict_limiter/strictlimiter/KeptWindows" "starts" "[J").before a0 Z = true := hw _ (List.mem_of_getElem? (i := 12) rfl)
theorem wd13 {a0 : Array Value} {Z : State} (hw : ∀ d ∈ tables_1, d.before a0 Z = true) : (Jvm.Cond.lays "com/example/strict_limiter/strictlimiter/KeptWindows" "com/example/strict_limiter/strictlimiter/KeptWindows" "starts" "[J").before a0 Z = true := hw _ (List.mem_of_getElem? (i := 13) rfl)
theorem wd14 {a0 : Array Value} {Z : State} (hw : ∀ d ∈ tables_1, d.before a0 Z = true) : (Jvm.Cond.fieldLink "com/example/strict_limiter/strictlimiter/KeptWindows" (16 : Nat) "com/example/strict_limiter/strictlimiter/KeptWindows" "records" "[J").before a0 Z = true := hw _ (List.mem_of_getElem? (i := 14) rfl)
theorem wd15 {a0 : Array Value} {Z : State} (hw : ∀ d ∈ tables_1, d.before a0 Z = true) : (Jvm.Cond.lays "com/example/strict_limiter/strictlimiter/KeptWindows" "com/example/strict_limiter/strictlimiter/KeptWindows" "records" "[J").before a0 Z = true := hw _ (List.mem_of_getElem? (i := 15) rfl)
theorem wd16 {a0 : Array Value} {Z : State} (hw : ∀ d ∈ tables_1, d.before a0 Z = true) : (Jvm.Cond.fieldLink "com/example/strict_limiter/strictlimiter/KeptWindows" (19 : Nat) "com/example/strict_limiter/strictlimiter/KeptWindows" "decidedAt" "[J").before a0 Z = true := hw _ (List.mem_of_getElem? (i := 16) rfl)
theorem wd17 {a0 : Array Value} {Z : State} (hw : ∀ d ∈ tables_1, d.before a0 Z = true) : (Jvm.Cond.lays "com/example/strict_limiter/strictlimiter/KeptWindows" "com/example/strict_limiter/strictlimiter/KeptWindows" "decidedAt" "[J").before a0 Z = true := hw _ (List.mem_of_getElem? (i := 17) rfl)
theorem wd18 {a0 : Array Value} {Z : State} (hw : ∀ d ∈ tables_1, d.before a0 Z = true) : (Jvm.Cond.fieldLink "com/example/strict_limiter/strictlimiter/KeptWindows" (22 : Nat) "com/example/strict_limiter/strictlimiter/KeptWindows" "width" "I").before a0 Z = true := hw _ (List.mem_of_getElem? (i := 18) rfl)
theorem wd19 {a0 : Array Value} {Z : State} (hw : ∀ d ∈ tables_1, d.before a0 Z = true) : (Jvm.Cond.laysFinal "com/example/strict_limiter/strictlimiter/KeptWindows" "com/example/strict_limiter/strictlimiter/KeptWindows" "width" "I").before a0 Z = true := hw _ (List.mem_of_getElem? (i := 19) rfl)
theorem wd20 {a0 : Array Value} {Z : State} (hw : ∀ d ∈ tables_1, d.before a0 Z = true) : (Jvm.Cond.methodLink "com/example/strict_limiter/strictlimiter/KeptWindowsForgetPinLaw" (14 : Nat) ({ cls := "com/example/strict_limiter/strictlimiter/KeptWindows", name := "add", desc := "(JJJJ)V" } : Jvm.MethodName)).before a0 Z = true := hw _ (List.mem_of_getElem? (i := 20) rfl)
theorem wd21 {a0 : Array Value} {Z : State} (hw : ∀ d ∈ tables_1, d.before a0 Z = true) : (Jvm.Cond.declares ({ cls := "com/example/strict_limiter/strictlimiter/KeptWindows", name := "add", desc := "(JJJJ)V" } : Jvm.MethodName)).before a0 Z = true := hw _ (List.mem_of_getElem? (i := 21) rfl)
theorem wd22 {a0 : Array Value} {Z : State} (hw : ∀ d ∈ tables_1, d.before a0 Z = true) : (Jvm.Cond.instanceMethod ({ cls := "com/example/strict_limiter/strictlimiter/KeptWindows", name := "add", desc := "(JJJJ)V" } : Jvm.MethodName)).before a0 Z = true := hw _ (List.mem_of_getElem? (i := 22) rfl)
theorem wd23 {a0 : Array Value} {Z : State} (hw : ∀ d ∈ tables_1, d.before a0 Z = true) : (Jvm.Cond.selects "com/example/strict_limiter/strictlimiter/KeptWindows" ({ cls := "com/example/strict_limiter/strictlimiter/KeptWindows", name := "add", desc := "(JJJJ)V" } : Jvm.MethodName) ({ cls := "com/example/strict_limiter/strictlimiter/KeptWindows", name := "add", desc := "(JJJJ)V" } : Jvm.MethodName)).before a0 Z = true := hw _ (List.mem_of_getElem? (i := 23) rfl)
theorem wd24 {a0 : Array Value} {Z : State} (hw : ∀ d ∈ tables_1, d.before a0 Z = true) : (Jvm.Cond.code ({ cls := "com/example/strict_limiter/strictlimiter/KeptWindows", name := "add", desc := "(JJJJ)V" } : Jvm.MethodName) prog_23_method_5_code (10 : Nat) (Option.none : Option Jvm.ClassFile.FieldType)).before a0 Z = true := hw _ (List.mem_of_getElem? (i := 24) rfl)
theorem wd25 {a0 : Array Value} {Z : State} (hw : ∀ d ∈ tables_1, d.before a0 Z = true) : (Jvm.Cond.fieldLink "com/example/strict_limiter/strictlimiter/KeptWindows" (26 : Nat) "com/example/strict_limiter/strictlimiter/KeptWindows" "first" "I").before a0 Z = true := hw _ (List.mem_of_getElem? (i := 25) rfl)
theorem wd26 {a0 : Array Value} {Z : State} (hw : ∀ d ∈ tables_1, d.before a0 Z = true) : (Jvm.Cond.lays "com/example/strict_limiter/strictlimiter/KeptWindows" "com/example/strict_limiter/strictlimiter/KeptWindows" "first" "I").before a0 Z = true := hw _ (List.mem_of_getElem? (i := 26) rfl)
theorem wd27 {a0 : Array Value} {Z : State} (hw : ∀ d ∈ tables_1, d.before a0 Z = true) : (Jvm.Cond.fieldLink "com/example/strict_limiter/strictlimiter/KeptWindows" (29 : Nat) "com/example/strict_limiter/strictlimiter/KeptWindows" "end" "I").before a0 Z = true := hw _ (List.mem_of_getElem? (i := 27) rfl)
theorem wd28 {a0 : Array Value} {Z : State} (hw : ∀ d ∈ tables_1, d.before a0 Z = true) : (Jvm.Cond.lays "com/example/strict_limiter/strictlimiter/KeptWindows" "com/example/strict_limiter/strictlimiter/KeptWindows" "end" "I").before a0 Z = true := hw _ (List.mem_of_getElem? (i := 28) rfl)
theorem wd29 {a0 : Array Value} {Z : State} (hw : ∀ d ∈ tables_1, d.before a0 Z = true) : (Jvm.Cond.methodLink "com/example/strict_limiter/strictlimiter/KeptWindows" (38 : Nat) ({ cls := "java/util/Arrays", name := "binarySearch", desc := "([JIIJ)I" } : Jvm.MethodName)).before a0 Z = true := hw _ (List.mem_of_getElem? (i := 29) rfl)
theorem wd30 {a0 : Array Value} {Z : State} (hw : ∀ d ∈ tables_1, d.before a0 Z = true) : (Jvm.Cond.static ({ cls := "java/util/Arrays", name := "binarySearch", desc := "([JIIJ)I" } : Jvm.MethodName)).before a0 Z = true := hw _ (List.mem_of_getElem? (i := 30) rfl)
theorem wd31 {a0 : Array Value} {Z : State} (hw : ∀ d ∈ tables_1, d.before a0 Z = true) : (Jvm.Cond.initialized "java/util/Arrays").before a0 Z = true := hw _ (List.mem_of_getElem? (i := 31) rfl)
theorem wd32 {a0 : Array Value} {Z : State} (hw : ∀ d ∈ tables_1, d.before a0 Z = true) : (Jvm.Cond.code ({ cls := "java/util/Arrays", name := "binarySearch", desc := "([JIIJ)I" } : Jvm.MethodName) jdk_65_method_55_code (5 : Nat) (Option.some Jvm.ClassFile.FieldType.int)).before a0 Z = true := hw _ (List.mem_of_getElem? (i := 32) rfl)
theorem wd33 {a0 : Array Value} {Z : State} (hw : ∀ d ∈ tables_1, d.before a0 Z = true) : (Jvm.Cond.methodLink "java/util/Arrays" (13 : Nat) ({ cls := "java/util/Arrays", name := "rangeCheck", desc := "(III)V" } : Jvm.MethodName)).before a0 Z = true := hw _ (List.mem_of_getElem? (i := 33) rfl)
theorem wd34 {a0 : Array Value} {Z : State} (hw : ∀ d ∈ tables_1, d.before a0 Z = true) : (Jvm.Cond.static ({ cls := "java/util/Arrays", name := "rangeCheck", desc := "(III)V" } : Jvm.MethodName)).before a0 Z = true := hw _ (List.mem_of_getElem? (i := 34) rfl)
theorem wd35 {a0 : Array Value} {Z : State} (hw : ∀ d ∈ tables_1, d.before a0 Z = true) : (Jvm.Cond.code ({ cls := "java/util/Arrays", name := "rangeCheck", desc := "(III)V" } : Jvm.MethodName) jdk_65_method_30_code (3 : Nat) (Option.none : Option Jvm.ClassFile.FieldType)).before a0 Z = true := hw _ (List.mem_of_getElem? (i := 35) rfl)
theorem wd36 {a0 : Array Value} {Z : State} (hw : ∀ d ∈ tables_1, d.before a0 Z = true) : (Jvm.Cond.methodLink "java/util/Arrays" (205 : Nat) ({ cls := "java/util/Arrays", name := "binarySearch0", desc := "([JIIJ)I" } : Jvm.MethodName)).before a0 Z = true := hw _ (List.mem_of_getElem? (i := 36) rfl)
theorem wd37 {a0 : Array Value} {Z : State} (hw : ∀ d ∈ tables_1, d.before a0 Z = true) : (Jvm.Cond.static ({ cls := "java/util/Arrays", name := "binarySearch0", desc := "([JIIJ)I" } : Jvm.MethodName)).before a0 Z = true := hw _ (List.mem_of_getElem? (i := 37) rfl)
theorem wd38 {a0 : Array Value} {Z : State} (hw : ∀ d ∈ tables_1, d.before a0 Z = true) : (Jvm.Cond.code ({ cls := "java/util/Arrays", name := "binarySearch0", desc := "([JIIJ)I" } : Jvm.MethodName) jdk_65_method_56_code (10 : Nat) (Option.some Jvm.ClassFile.FieldType.int)).before a0 Z = true := hw _ (List.mem_of_getElem? (i := 38) rfl)
theorem wd39 {a0 : Array Value} {Z : State} (hw : ∀ d ∈ tables_1, d.before a0 Z = true) : (Jvm.Cond.methodLink "com/example/strict_limiter/strictlimiter/KeptWindows" (44 : Nat) ({ cls := "com/example/strict_limiter/strictlimiter/KeptWindows", name := "insert", desc := "(IJ)I" } : Jvm.MethodName)).before a0 Z = true := hw _ (List.mem_of_getElem? (i := 39) rfl)
theorem wd40 {a0 : Array Value} {Z : State} (hw : ∀ d ∈ tables_1, d.before a0 Z = true) : (Jvm.Cond.instanceMethod ({ cls := "com/example/strict_limiter/strictlimiter/KeptWindows", name := "insert", desc := "(IJ)I" } : Jvm.MethodName)).before a0 Z = true := hw _ (List.mem_of_getElem? (i := 40) rfl)
theorem wd41 {a0 : Array Value} {Z : State} (hw : ∀ d ∈ tables_1, d.before a0 Z = true) : (Jvm.Cond.privateMethod ({ cls := "com/example/strict_limiter/strictlimiter/KeptWindows", name := "insert", desc := "(IJ)I" } : Jvm.MethodName)).before a0 Z = true := hw _ (List.mem_of_getElem? (i := 41) rfl)
theorem wd42 {a0 : Array Value} {Z : State} (hw : ∀ d ∈ tables_1, d.before a0 Z = true) : (Jvm.Cond.code ({ cls := "com/example/strict_limiter/strictlimiter/KeptWindows", name := "insert", desc := "(IJ)I" } : Jvm.MethodName) prog_23_method_7_code (7 : Nat) (Option.some Jvm.ClassFile.FieldType.int)).before a0 Z = true := hw _ (List.mem_of_getElem? (i := 42) rfl)
theorem wd43 {a0 : Array Value} {Z : State} (hw : ∀ d ∈ tables_1, d.before a0 Z = true) : (Jvm.Cond.methodLink "com/example/strict_limiter/strictlimiter/KeptWindows" (60 : Nat) ({ cls := "java/lang/Math", name := "max", desc := "(II)I" } : Jvm.MethodName)).before a0 Z = true := hw _ (List.mem_of_getElem? (i := 43) rfl)
theorem wd44 {a0 : Array Value} {Z : State} (hw : ∀ d ∈ tables_1, d.before a0 Z = true) : (Jvm.Cond.static ({ cls := "java/lang/Math", name := "max", desc := "(II)I" } : Jvm.MethodName)).before a0 Z = true := hw _ (List.mem_of_getElem? (i := 44) rfl)
theorem wd45 {a0 : Array Value} {Z : State} (hw : ∀ d ∈ tables_1, d.before a0 Z = true) : (Jvm.Cond.initialized "java/lang/Math").before a0 Z = true := hw _ (List.mem_of_getElem? (i := 45) rfl)
theorem wd46 {a0 : Array Value} {Z : State} (hw : ∀ d ∈ tables_1, d.before a0 Z = true) : (Jvm.Cond.code ({ cls := "java/lang/Math", name := "max", desc := "(II)I" } : Jvm.MethodName) jdk_29_method_65_code (2 : Nat) (Option.some Jvm.ClassFile.FieldType.int)).before a0 Z = true := hw _ (List.mem_of_getElem? (i := 46) rfl)
theorem wd47 {a0 : Array Value} {Z : State} (hw : ∀ d ∈ tables_1, d.before a0 Z = true) : (Jvm.Cond.methodLink "com/example/strict_limiter/strictlimiter/KeptWindows" (66 : Nat) ({ cls := "com/example/strict_limiter/strictlimiter/KeptWindows", name := "movedToFront", desc := "([JII)[J" } : Jvm.MethodName)).before a0 Z = true := hw _ (List.mem_of_getElem? (i := 47) rfl)
theorem wd48 {a0 : Array Value} {Z : State} (hw : ∀ d ∈ tables_1, d.before a0 Z = true) : (Jvm.Cond.instanceMethod ({ cls := "com/example/strict_limiter/strictlimiter/KeptWindows", name := "movedToFront", desc := "([JII)[J" } : Jvm.MethodName)).before a0 Z = true := hw _ (List.mem_of_getElem? (i := 48) rfl)
theorem wd49 {a0 : Array Value} {Z : State} (hw : ∀ d ∈ tables_1, d.before a0 Z = true) : (Jvm.Cond.privateMethod ({ cls := "com/example/strict_limiter/strictlimiter/KeptWindows", name := "movedToFront", desc := "([JII)[J" } : Jvm.MethodName)).before a0 Z = true := hw _ (List.mem_of_getElem? (i := 49) rfl)
theorem wd50 {a0 : Array Value} {Z : State} (hw : ∀ d ∈ tables_1, d.before a0 Z = true) : (Jvm.Cond.code ({ cls := "com/example/strict_limiter/strictlimiter/KeptWindows", name := "movedToFront", desc := "([JII)[J" } : Jvm.MethodName) prog_23_method_8_code (5 : Nat) (Option.some (Jvm.ClassFile.FieldType.array Jvm.ClassFile.FieldType.long))).before a0 Z = true := hw _ (List.mem_of_getElem? (i := 50) rfl)
theorem wd51 {a0 : Array Value} {Z : State} (hw : ∀ d ∈ tables_1, d.before a0 Z = true) : (Jvm.Cond.arrayClass Jvm.ClassFile.FieldType.long).before a0 Z = true := hw _ (List.mem_of_getElem? (i := 51) rfl)
theorem wd52 {a0 : Array Value} {Z : State} (hw : ∀ d ∈ tables_1, d.before a0 Z = true) : (Jvm.Cond.methodLink "com/example/strict_limiter/strictlimiter/KeptWindows" (54 : Nat) ({ cls := "java/lang/System", name := "arraycopy", desc := "(Ljava/lang/Object;ILjava/lang/Object;II)V" } : Jvm.MethodName)).before a0 Z = true := hw _ (List.mem_of_getElem? (i := 52) rfl)
theorem wd53 {a0 : Array Value} {Z : State} (hw : ∀ d ∈ tables_1, d.before a0 Z = true) : (Jvm.Cond.static ({ cls := "java/lang/System", name := "arraycopy", desc := "(Ljava/lang/Object;ILjava/lang/Object;II)V" } : Jvm.MethodName)).before a0 Z = true := hw _ (List.mem_of_getElem? (i := 53) rfl)
theorem wd54 {a0 : Array Value} {Z : State} (hw : ∀ d ∈ tables_1, d.before a0 Z = true) : (Jvm.Cond.initialized "java/lang/System").before a0 Z = true := hw _ (List.mem_of_getElem? (i := 54) rfl)
theorem wd55 {a0 : Array Value} {Z : State} (hw : ∀ d ∈ tables_1, d.before a0 Z = true) : (Jvm.Cond.native ({ cls := "java/lang/System", name := "arraycopy", desc := "(Ljava/lang/Object;ILjava/lang/Object;II)V" } : Jvm.MethodName)).before a0 Z = true := hw _ (List.mem_of_getElem? (i := 55) rfl)
theorem wd56 {a0 : Array Value} {Z : State} (hw : ∀ d ∈ tables_1, d.before a0 Z = true) : (Jvm.Cond.methodLink "com/example/strict_limiter/strictlimiter/KeptWindows" (70 : Nat) ({ cls := "java/util/Arrays", name := "fill", desc := "([JIIJ)V" } : Jvm.MethodName)).before a0 Z = true := hw _ (List.mem_of_getElem? (i := 56) rfl)
theorem wd57 {a0 : Array Value} {Z : State} (hw : ∀ d ∈ tables_1, d.before a0 Z = true) : (Jvm.Cond.static ({ cls := "java/util/Arrays", name := "fill", desc := "([JIIJ)V" } : Jvm.MethodName)).before a0 Z = true := hw _ (List.mem_of_getElem? (i := 57) rfl)
theorem wd58 {a0 : Array Value} {Z : State} (hw : ∀ d ∈ tables_1, d.before a0 Z = true) : (Jvm.Cond.code ({ cls := "java/util/Arrays", name := "fill", desc := "([JIIJ)V" } : Jvm.MethodName) jdk_65_method_102_code (6 : Nat) (Option.none : Option Jvm.ClassFile.FieldType)).before a0 Z = true := hw _ (List.mem_of_getElem? (i := 58) rfl)
theorem wd59 {a0 : Array Value} {Z : State} (hw : ∀ d ∈ tables_1, d.before a0 Z = true) : (Jvm.Cond.methodLink "com/example/strict_limiter/strictlimiter/KeptWindows" (48 : Nat) ({ cls := "com/example/strict_limiter/strictlimiter/WindowRecord", name := "add", desc := "([JIIJJ)V" } : Jvm.MethodName)).before a0 Z = true := hw _ (List.mem_of_getElem? (i := 59) rfl)
theorem wd60 {a0 : Array Value} {Z : State} (hw : ∀ d ∈ tables_1, d.before a0 Z = true) : (Jvm.Cond.static ({ cls := "com/example/strict_limiter/strictlimiter/WindowRecord", name := "add", desc := "([JIIJJ)V" } : Jvm.MethodName)).before a0 Z = true := hw _ (List.mem_of_getElem? (i := 60) rfl)
theorem wd61 {a0 : Array Value} {Z : State} (hw : ∀ d ∈ tables_1, d.before a0 Z = true) : (Jvm.Cond.initialized "com/example/strict_limiter/strictlimiter/WindowRecord").before a0 Z = true := hw _ (List.mem_of_getElem? (i := 61) rfl)
theorem wd62 {a0 : Array Value} {Z : State} (hw : ∀ d ∈ tables_1, d.before a0 Z = true) : (Jvm.Cond.code ({ cls := "com/example/strict_limiter/strictlimiter/WindowRecord", name := "add", desc := "([JIIJJ)V" } : Jvm.MethodName) prog_59_method_3_code (9 : Nat) (Option.none : Option Jvm.ClassFile.FieldType)).before a0 Z = true := hw _ (List.mem_of_getElem? (i := 62) rfl)
theorem wd63 {a0 : Array Value} {Z : State} (hw : ∀ d ∈ tables_1, d.before a0 Z = true) : (Jvm.Cond.constantLong "com/example/strict_limiter/strictlimiter/KeptWindowsForgetPinLaw" (18 : Nat) (2 : Int64)).before a0 Z = true := hw _ (List.mem_of_getElem? (i := 63) rfl)
theorem wd64 {a0 : Array Value} {Z : State} (hw : ∀ d ∈ tables_1, d.before a0 Z = true) : (Jvm.Cond.methodLink "com/example/strict_limiter/strictlimiter/KeptWindowsForgetPinLaw" (20 : Nat) ({ cls := "com/example/strict_limiter/strictlimiter/KeptWindows", name := "forget", desc := "(JJJ)V" } : Jvm.MethodName)).before a0 Z = true := hw _ (List.mem_of_getElem? (i := 64) rfl)
theorem wd65 {a0 : Array Value} {Z : State} (hw : ∀ d ∈ tables_1, d.before a0 Z = true) : (Jvm.Cond.declares ({ cls := "com/example/strict_limiter/strictlimiter/KeptWindows", name := "forget", desc := "(JJJ)V" } : Jvm.MethodName)).before a0 Z = true := hw _ (List.mem_of_getElem? (i := 65) rfl)
theorem wd66 {a0 : Array Value} {Z : State} (hw : ∀ d ∈ tables_1, d.before a0 Z = true) : (Jvm.Cond.instanceMethod ({ cls := "com/example/strict_limiter/strictlimiter/KeptWindows", name := "forget", desc := "(JJJ)V" } : Jvm.MethodName)).before a0 Z = true := hw _ (List.mem_of_getElem? (i := 66) rfl)
theorem wd67 {a0 : Array Value} {Z : State} (hw : ∀ d ∈ tables_1, d.before a0 Z = true) : (Jvm.Cond.selects "com/example/strict_limiter/strictlimiter/KeptWindows" ({ cls := "com/example/strict_limiter/strictlimiter/KeptWindows", name := "forget", desc := "(JJJ)V" } : Jvm.MethodName) ({ cls := "com/example/strict_limiter/strictlimiter/KeptWindows", name := "forget", desc := "(JJJ)V" } : Jvm.MethodName)).before a0 Z = true := hw _ (List.mem_of_getElem? (i := 67) rfl)
theorem wd68 {a0 : Array Value} {Z : State} (hw : ∀ d ∈ tables_1, d.before a0 Z = true) : (Jvm.Cond.code ({ cls := "com/example/strict_limiter/strictlimiter/KeptWindows", name := "forget", desc := "(JJJ)V" } : Jvm.MethodName) prog_23_method_2_code (7 : Nat) (Option.none : Option Jvm.ClassFile.FieldType)).before a0 Z = true := hw _ (List.mem_of_getElem? (i := 68) rfl)
theorem wd69 {a0 : Array Value} {Z : State} (hw : ∀ d ∈ tables_1, d.before a0 Z = true) : (Jvm.Cond.constantLong "com/example/strict_limiter/strictlimiter/KeptWindows" (32 : Nat) (1000000000 : Int64)).before a0 Z = true := hw _ (List.mem_of_getElem? (i := 69) rfl)
theorem wd70 {a0 : Array Value} {Z : State} (hw : ∀ d ∈ tables_1, d.before a0 Z = true) : (Jvm.Cond.constantLong "com/example/strict_limiter/strictlimiter/KeptWindowsForgetPinLaw" (24 : Nat) (1000000000 : Int64)).before a0 Z = true := hw _ (List.mem_of_getElem? (i := 70) rfl)
theorem wd71 {a0 : Array Value} {Z : State} (hw : ∀ d ∈ tables_1, d.before a0 Z = true) : (Jvm.Cond.methodLink "com/example/strict_limiter/strictlimiter/KeptWindowsForgetPinLaw" (30 : Nat) ({ cls := "com/example/strict_limiter/strictlimiter/KeptWindows", name := "firstStart", desc := "()J" } : Jvm.MethodName)).before a0 Z = true := hw _ (List.mem_of_getElem? (i := 71) rfl)
theorem wd72 {a0 : Array Value} {Z : State} (hw : ∀ d ∈ tables_1, d.before a0 Z = true) : (Jvm.Cond.declares ({ cls := "com/example/strict_limiter/strictlimiter/KeptWindows", name := "firstStart", desc := "()J" } : Jvm.MethodName)).before a0 Z = true := hw _ (List.mem_of_getElem? (i := 72) rfl)
theorem wd73 {a0 : Array Value} {Z : State} (hw : ∀ d ∈ tables_1, d.before a0 Z = true) : (Jvm.Cond.instanceMethod ({ cls := "com/example/strict_limiter/strictlimiter/KeptWindows", name := "firstStart", desc := "()J" } : Jvm.MethodName)).before a0 Z = true := hw _ (List.mem_of_getElem? (i := 73) rfl)
theorem wd74 {a0 : Array Value} {Z : State} (hw : ∀ d ∈ tables_1, d.before a0 Z = true) : (Jvm.Cond.selects "com/example/strict_limiter/strictlimiter/KeptWindows" ({ cls := "com/example/strict_limiter/strictlimiter/KeptWindows", name := "firstStart", desc := "()J" } : Jvm.MethodName) ({ cls := "com/example/strict_limiter/strictlimiter/KeptWindows", name := "firstStart", desc := "()J" } : Jvm.MethodName)).before a0 Z = true := hw _ (List.mem_of_getElem? (i := 74) rfl)
theorem wd75 {a0 : Array Value} {Z : State} (hw : ∀ d ∈ tables_1, d.before a0 Z = true) : (Jvm.Cond.code ({ cls := "com/example/strict_limiter/strictlimiter/KeptWindows", name := "firstStart", desc := "()J" } : Jvm.MethodName) prog_23_method_3_code (1 : Nat) (Option.some Jvm.ClassFile.FieldType.long)).before a0 Z = true := hw _ (List.mem_of_getElem? (i := 75) rfl)
theorem wd76 {a0 : Array Value} {Z : State} (hw : ∀ d ∈ tables_1, d.before a0 Z = true) : (Jvm.Cond.methodLink "com/example/strict_limiter/strictlimiter/KeptWindowsForgetPinLaw" (34 : Nat) ({ cls := "com/example/strict_limiter/strictlimiter/KeptWindows", name := "field", desc := "(JI)J" } : Jvm.MethodName)).before a0 Z = true := hw _ (List.mem_of_getElem? (i := 76) rfl)
theorem wd77 {a0 : Array Value} {Z : State} (hw : ∀ d ∈ tables_1, d.before a0 Z = true) : (Jvm.Cond.declares ({ cls := "com/example/strict_limiter/strictlimiter/KeptWindows", name := "field", desc := "(JI)J" } : Jvm.MethodName)).before a0 Z = true := hw _ (List.mem_of_getElem? (i := 77) rfl)
theorem wd78 {a0 : Array Value} {Z : State} (hw : ∀ d ∈ tables_1, d.before a0 Z = true) : (Jvm.Cond.instanceMethod ({ cls := "com/example/strict_limiter/strictlimiter/KeptWindows", name := "field", desc := "(JI)J" } : Jvm.MethodName)).before a0 Z = true := hw _ (List.mem_of_getElem? (i := 78) rfl)
theorem wd79 {a0 : Array Value} {Z : State} (hw : ∀ d ∈ tables_1, d.before a0 Z = true) : (Jvm.Cond.selects "com/example/strict_limiter/strictlimiter/KeptWindows" ({ cls := "com/example/strict_limiter/strictlimiter/KeptWindows", name := "field", desc := "(JI)J" } : Jvm.MethodName) ({ cls := "com/example/strict_limiter/strictlimiter/KeptWindows", name := "field", desc := "(JI)J" } : Jvm.MethodName)).before a0 Z = true := hw _ (List.mem_of_getElem? (i := 79) rfl)
theorem wd80 {a0 : Array Value} {Z : State} (hw : ∀ d ∈ tables_1, d.before a0 Z = true) : (Jvm.Cond.code ({ cls := "com/example/strict_limiter/strictlimiter/KeptWindows", name := "field", desc := "(JI)J" } : Jvm.MethodName) prog_23_method_4_code (5 : Nat) (Option.some Jvm.ClassFile.FieldType.long)).before a0 Z = true := hw _ (List.mem_of_getElem? (i := 80) rfl)
theorem wd81 {a0 : Array Value} {Z : State} (hw : ∀ d ∈ tables_1, d.before a0 Z = true) : (Jvm.Cond.constantLong "com/example/strict_limiter/strictlimiter/KeptWindowsForgetPinLaw" (28 : Nat) (9223372036854775807 : Int64)).before a0 Z = true := hw _ (List.mem_of_getElem? (i := 81) rfl)
theorem wd82 {a0 : Array Value} {Z : State} (hw : ∀ d ∈ tables_1, d.before a0 Z = true) : (Jvm.Cond.constantLong "com/example/strict_limiter/strictlimiter/KeptWindows" (36 : Nat) (9223372036854775807 : Int64)).before a0 Z = true := hw _ (List.mem_of_getElem? (i := 82) rfl)
theorem own_lenlt {Z : State} {args : Array Value} {t : Term} {a : Addr} {cl : Cell} {v : Value} (ev : t.eval args Z none [] Z = some (.ref a)) (ea : Z.arrayAt? a = some cl) (hl : (Term.length t).eval args Z none [] Z = some v) : cl.slots.size < 2 ^ 31 := by
  by_cases h : cl.slots.size < 2 ^ 31
  · exact h
  · simp [Term.eval, ev, ea, h] at hl
theorem own_arv0 {Z : State} {args : Array Value} {t : Term} {a : Addr} {cl : Cell} {ty : FieldType} {dv : Value} (hf : Fit Z) (ev : t.eval args Z none [] Z = some (.ref a)) (A : Arr Z Z.heap a cl ty) (hl : (Term.length t).eval args Z none [] Z = some (.int 0)) : Arv Z Z.heap a cl.cls ty (0 : Int32) [] dv := by
  obtain ⟨x, c2, e1, e2, e3⟩ := Term.length_spec hl
  cases ev.symm.trans e1
  cases (A.fin (Vm.Alike.refl _)).symm.trans e2
  have hq : cl.slots.size.toInt32 = 0 := (Value.int.inj e3).symm
  have hlt : cl.slots.size < 2 ^ 31 := own_lenlt ev e2 hl
  exact Arv.start hf A hlt hq (by decide) rfl trivial
theorem efa_prog_23_method_1_code_vv (m : MethodId) (x0 : Addr) (x1 : Int32) : entryFrame m #[(.ref x0), (.int x1)] 2 = mkF m 0 #[.val (.ref x0), .val (.int x1)] [] := by first | (simp [entryFrame, mkF, argsToLocals, Value.category]; done) | rfl
theorem pn_com_example_strict_limiter_strictlimiter_KeptWindows : plainName cn2 = true := by first | (simp [plainName, overriddenIn]; done) | decide +kernel
theorem dd_prog_23_method_1_code_0 : decode prog_23_method_1_code 0 = .ok (.aload_n 0, 1) := by decide +kernel
theorem dd_prog_23_method_1_code_1 : decode prog_23_method_1_code 1 = .ok (.invokespecial 1, 3) := by decide +kernel
theorem dd_prog_23_method_1_code_4 : decode prog_23_method_1_code 4 = .ok (.aload_n 0, 1) := by decide +kernel
theorem dd_prog_23_method_1_code_5 : decode prog_23_method_1_code 5 = .ok (.getstatic 7, 3) := by decide +kernel
theorem dd_prog_23_method_1_code_8 : decode prog_23_method_1_code 8 = .ok (.putfield 13, 3) := by decide +kernel
theorem dd_prog_23_method_1_code_11 : decode prog_23_method_1_code 11 = .ok (.aload_n 0, 1) := by decide +kernel
theorem dd_prog_23_method_1_code_12 : decode prog_23_method_1_code 12 = .ok (.getstatic 7, 3) := by decide +kernel
theorem dd_prog_23_method_1_code_15 : decode prog_23_method_1_code 15 = .ok (.putfield 16, 3) := by decide +kernel
theorem dd_prog_23_method_1_code_18 : decode prog_23_method_1_code 18 = .ok (.aload_n 0, 1) := by decide +kernel
theorem dd_prog_23_method_1_code_19 : decode prog_23_method_1_code 19 = .ok (.getstatic 7, 3) := by decide +kernel
theorem dd_prog_23_method_1_code_22 : decode prog_23_method_1_code 22 = .ok (.putfield 19, 3) := by decide +kernel
theorem dd_prog_23_method_1_code_25 : decode prog_23_method_1_code 25 = .ok (.aload_n 0, 1) := by decide +kernel
theorem dd_prog_23_method_1_code_26 : decode prog_23_method_1_code 26 = .ok (.iload_n 1, 1) := by decide +kernel
theorem dd_prog_23_method_1_code_27 : decode prog_23_method_1_code 27 = .ok (.putfield 22, 3) := by decide +kernel
theorem dd_prog_23_method_1_code_30 : decode prog_23_method_1_code 30 = .ok (.return_, 1) := by decide +kernel
def QA1 (Z : State) (o0 : Addr) (o1 : Addr) (u100 : Value) (u101 : Value) (h0 : Heap) (n0 : Nat) (v : Option Value) (h : Heap) (L : List Loc) : Prop := v = none ∧ Fr n0 L ∧ Keep h0 h [o0] ∧ Exa Z h o0 cn2 ∧ Fld Z h o0 cn2 "starts" "[J" (.ref o1) ∧ Fld Z h o0 cn2 "records" "[J" (.ref o1) ∧ Fld Z h o0 cn2 "decidedAt" "[J" (.ref o1) ∧ Fld Z h o0 cn2 "width" "I" (.int (1 : Int32)) ∧ Fld Z h o0 cn2 "first" "I" u100 ∧ Fld Z h o0 cn2 "end" "I" u101
set_option maxRecDepth 65536 in
set_option maxHeartbeats 40000000 in
theorem rmA1 (l : Launch) (Z : State) (a0 : Array Value) (hw : ∀ d ∈ tables_1, d.before a0 Z = true) (ws : List Jvm.Cond) (o0 : Addr) (o1 : Addr) (u100 : Value) (u101 : Value) (h0 : Heap) (n0 : Nat) (Z0 : n0 ≤ h0.size) (S_NONE : Sta Z h0 cn2 "NONE" "[J" (.ref o1)) (E_o0 : Exa Z h0 o0 cn2) (F_o0_starts : Fld Z h0 o0 cn2 "starts" "[J" .null) (g_o0 : n0 ≤ o0) (F_o0_records : Fld Z h0 o0 cn2 "records" "[J" .null) (F_o0_decidedAt : Fld Z h0 o0 cn2 "decidedAt" "[J" .null) (F_o0_width : Fld Z h0 o0 cn2 "width" "I" (.int (0 : Int32))) (F_o0_first : Fld Z h0 o0 cn2 "first" "I" u100) (F_o0_end : Fld Z h0 o0 cn2 "end" "I" u101) :
    MetFree l mn0 (head1 (Jvm.Cond.code mn0 prog_23_method_1_code 2 none :: ws) ({ frames := 1, cells := 0, slots := 0, locals := 12 } : Room)) (fun a U => a = #[(.ref o0), (.int (1 : Int32))] ∧ Z.Warmed39 U.vm ∧ U.heap = h0) (fun _ _ _ _ _ => True) (fun _ U oc_ U' => ∃ v L, oc_ = .returned v ∧ QA1 Z o0 o1 u100 u101 h0 n0 v U'.heap L ∧ FrameEnd U oc_ U' L ({ frames := 1, cells := 0, slots := 0, locals := 12 } : Room).cells ({ frames := 1, cells := 0, slots := 0, locals := 12 } : Room).slots) := by
  refine MetFree.of_bodySF (plainFor_of_name pn_com_example_strict_limiter_strictlimiter_KeptWindows) hisR ?_
  intro p e s m args below meth c s₁ Bd hml0 hP hK
  obtain ⟨rfl, hZ, hh⟩ := hP
  have hx := Bd.exec
  have hby := Bd.bytes
  have hml : c.maxLocals = 2 := hml0
  have hown : s.vm.findClass cn2 = some m.cls := findClass_of_methodNamed Bd.named
  have hnm := (name_of_methodNamed Bd.named Bd.method).1
  have X0 : Stand p l e ({ frames := 1, cells := 0, slots := 0, locals := 12 } : Room) s m #[(.ref o0), (.int (1 : Int32))] below meth c s₁ [] 0 0 := Stand.of_body Bd
  have e0 : s₁.heap = h0 := by rw [← hh, Bd.state]; rfl
  have N0 := Fr.nil n0
  have pre0 : ∀ t, Steps p.tables e below (s₁.setTop (mkF m 0 #[.val (.ref o0), .val (.int (1 : Int32))] [])) t → Steps p.tables e below (s₁.setTop (entryFrame m #[(.ref o0), (.int (1 : Int32))] 2)) t := fun t k => castTop (efa_prog_23_method_1_code_vv m o0 (1 : Int32)) k
  obtain ⟨T1, X1, e1, st1⟩ := initO X0 hx hZ hown (wd7 hw) (wd8 hw) (wd9 hw) e0 (g := (mkF m 1 #[.val (.ref o0), .val (.int (1 : Int32))] [(.ref o0)])) rfl (by rw [hml]; rfl) rfl (hb hby dd_prog_23_method_1_code_1) (by decide) (W := 0) (by show 2 * 0 + _ ≤ _; exact Nat.le_of_eq rfl) (by decide)
  obtain ⟨T2, X2, e2, st2⟩ := getS2 X1 hx hZ hown (host := "") (Or.inl (wd10 hw)) Via.refl e1 S_NONE (g := (mkF m 5 #[.val (.ref o0), .val (.int (1 : Int32))] [(.ref o0)])) rfl (hb hby dd_prog_23_method_1_code_5)
  obtain ⟨T3, h3, X3, e3, W3, st3⟩ := putF X2 hx hZ hown (host := "") (Or.inl (wd12 hw)) Via.refl e2 F_o0_starts E_o0 (Or.inl (wd13 hw)) (wd2 hw) (ty := (.array .long)) (by decide) rfl rfl (g := (mkF m 8 #[.val (.ref o0), .val (.int (1 : Int32))] [(.ref o1), (.ref o0)])) rfl rfl (hb hby dd_prog_23_method_1_code_8)
  have N3 := Fr.snoc X3 N0 g_o0
  have Z3 : n0 ≤ h3.size := by rw [W3.size]; exact Z0
  have K3 : Keep h0 h3 [o0] := ((Keep.refl h0 [o0]).wr W3 (Or.inl (List.mem_of_getElem? (i := 0) rfl)))
  have Fw3 := F_o0_starts.same W3
  have f4 := (S_NONE.wr W3)
  obtain ⟨T5, X5, e5, st5⟩ := getS2 X3 hx hZ hown (host := "") (Or.inl (wd10 hw)) Via.refl e3 f4 (g := (mkF m 12 #[.val (.ref o0), .val (.int (1 : Int32))] [(.ref o0)])) rfl (hb hby dd_prog_23_method_1_code_12)
  have f6 := (E_o0.wr W3)
  have f7 := (F_o0_records.other W3 (Or.inr (slot_ne (Or.inl (wd15 hw)) (Or.inl (wd13 hw)) (by decide) (t := (.array .long)) (t' := (.array .long)) (by decide) (by decide))))
  obtain ⟨T8, h8, X8, e8, W8, st8⟩ := putF X5 hx hZ hown (host := "") (Or.inl (wd14 hw)) Via.refl e5 f7 f6 (Or.inl (wd15 hw)) (wd2 hw) (ty := (.array .long)) (by decide) rfl rfl (g := (mkF m 15 #[.val (.ref o0), .val (.int (1 : Int32))] [(.ref o1), (.ref o0)])) rfl rfl (hb hby dd_prog_23_method_1_code_15)
  have N8 := Fr.snoc X8 N3 g_o0
  have Z8 : n0 ≤ h8.size := by rw [W8.size]; exact Z3
  have K8 : Keep h0 h8 [o0] := (K3.wr W8 (Or.inl (List.mem_of_getElem? (i := 0) rfl)))
  have Fw8 := f7.same W8
  have f9 := (f4.wr W8)
  obtain ⟨T10, X10, e10, st10⟩ := getS2 X8 hx hZ hown (host := "") (Or.inl (wd10 hw)) Via.refl e8 f9 (g := (mkF m 19 #[.val (.ref o0), .val (.int (1 : Int32))] [(.ref o0)])) rfl (hb hby dd_prog_23_method_1_code_19)
  have f11 := (f6.wr W8)
  have f12 := ((F_o0_decidedAt.other W3 (Or.inr (slot_ne (Or.inl (wd17 hw)) (Or.inl (wd13 hw)) (by decide) (t := (.array .long)) (t' := (.array .long)) (by decide) (by decide)))).other W8 (Or.inr (slot_ne (Or.inl (wd17 hw)) (Or.inl (wd15 hw)) (by decide) (t := (.array .long)) (t' := (.array .long)) (by decide) (by decide))))
  obtain ⟨T13, h13, X13, e13, W13, st13⟩ := putF X10 hx hZ hown (host := "") (Or.inl (wd16 hw)) Via.refl e10 f12 f11 (Or.inl (wd17 hw)) (wd2 hw) (ty := (.array .long)) (by decide) rfl rfl (g := (mkF m 22 #[.val (.ref o0), .val (.int (1 : Int32))] [(.ref o1), (.ref o0)])) rfl rfl (hb hby dd_prog_23_method_1_code_22)
  have N13 := Fr.snoc X13 N8 g_o0
  have Z13 : n0 ≤ h13.size := by rw [W13.size]; exact Z8
  have K13 : Keep h0 h13 [o0] := (K8.wr W13 (Or.inl (List.mem_of_getElem? (i := 0) rfl)))
  have Fw13 := f12.same W13
  have f14 := (f11.wr W13)
  have f15 := (((F_o0_width.other W3 (Or.inr (slot_ne (Or.inr (wd19 hw)) (Or.inl (wd13 hw)) (by decide) (t := .int) (t' := (.array .long)) (by decide) (by decide)))).other W8 (Or.inr (slot_ne (Or.inr (wd19 hw)) (Or.inl (wd15 hw)) (by decide) (t := .int) (t' := (.array .long)) (by decide) (by decide)))).other W13 (Or.inr (slot_ne (Or.inr (wd19 hw)) (Or.inl (wd17 hw)) (by decide) (t := .int) (t' := (.array .long)) (by decide) (by decide))))
  obtain ⟨T16, h16, X16, e16, W16, st16⟩ := putF X13 hx hZ hown (host := "") (Or.inl (wd18 hw)) Via.refl e13 f15 f14 (Or.inr ⟨(wd19 hw), rfl, hnm⟩) (wd2 hw) (ty := .int) (by decide) rfl rfl (g := (mkF m 27 #[.val (.ref o0), .val (.int (1 : Int32))] [(.int (1 : Int32)), (.ref o0)])) rfl rfl (hb hby dd_prog_23_method_1_code_27)
  have N16 := Fr.snoc X16 N13 g_o0
  have Z16 : n0 ≤ h16.size := by rw [W16.size]; exact Z13
  have K16 : Keep h0 h16 [o0] := (K13.wr W16 (Or.inl (List.mem_of_getElem? (i := 0) rfl)))
  have Fw16 := f15.same W16
  have f17 := (f14.wr W16)
  have f18 := (((Fw3.other W8 (Or.inr (slot_ne (Or.inl (wd13 hw)) (Or.inl (wd15 hw)) (by decide) (t := (.array .long)) (t' := (.array .long)) (by decide) (by decide)))).other W13 (Or.inr (slot_ne (Or.inl (wd13 hw)) (Or.inl (wd17 hw)) (by decide) (t := (.array .long)) (t' := (.array .long)) (by decide) (by decide)))).other W16 (Or.inr (slot_ne (Or.inl (wd13 hw)) (Or.inr (wd19 hw)) (by decide) (t := (.array .long)) (t' := .int) (by decide) (by decide))))
  have f19 := ((Fw8.other W13 (Or.inr (slot_ne (Or.inl (wd15 hw)) (Or.inl (wd17 hw)) (by decide) (t := (.array .long)) (t' := (.array .long)) (by decide) (by decide)))).other W16 (Or.inr (slot_ne (Or.inl (wd15 hw)) (Or.inr (wd19 hw)) (by decide) (t := (.array .long)) (t' := .int) (by decide) (by decide))))
  have f20 := (Fw13.other W16 (Or.inr (slot_ne (Or.inl (wd17 hw)) (Or.inr (wd19 hw)) (by decide) (t := (.array .long)) (t' := .int) (by decide) (by decide))))
  have f21 := ((((F_o0_first.other W3 (Or.inr (slot_ne (Or.inl (wd26 hw)) (Or.inl (wd13 hw)) (by decide) (t := .int) (t' := (.array .long)) (by decide) (by decide)))).other W8 (Or.inr (slot_ne (Or.inl (wd26 hw)) (Or.inl (wd15 hw)) (by decide) (t := .int) (t' := (.array .long)) (by decide) (by decide)))).other W13 (Or.inr (slot_ne (Or.inl (wd26 hw)) (Or.inl (wd17 hw)) (by decide) (t := .int) (t' := (.array .long)) (by decide) (by decide)))).other W16 (Or.inr (slot_ne (Or.inl (wd26 hw)) (Or.inr (wd19 hw)) (by decide) (t := .int) (t' := .int) (by decide) (by decide))))
  have f22 := ((((F_o0_end.other W3 (Or.inr (slot_ne (Or.inl (wd28 hw)) (Or.inl (wd13 hw)) (by decide) (t := .int) (t' := (.array .long)) (by decide) (by decide)))).other W8 (Or.inr (slot_ne (Or.inl (wd28 hw)) (Or.inl (wd15 hw)) (by decide) (t := .int) (t' := (.array .long)) (by decide) (by decide)))).other W13 (Or.inr (slot_ne (Or.inl (wd28 hw)) (Or.inl (wd17 hw)) (by decide) (t := .int) (t' := (.array .long)) (by decide) (by decide)))).other W16 (Or.inr (slot_ne (Or.inl (wd28 hw)) (Or.inr (wd19 hw)) (by decide) (t := .int) (t' := .int) (by decide) (by decide))))
  obtain ⟨lfs, lhr, lhrun, lhended, lhW, lhsame⟩ := X16.leave (v := none) (fun _ => rfl)
  refine ⟨_, _, pre0 _ ?_, lhrun, lhended, _, _, rfl, ?_, ⟨_, rfl⟩, lhW, lhsame.mono (by decide) (by decide)⟩
  · skip
    show Steps p.tables e below (s₁.setTop (mkF m 0 #[.val (.ref o0), .val (.int (1 : Int32))] [])) _
    refine XS.aloadN X0.here hx rfl (hb hby dd_prog_23_method_1_code_0) rfl rfl ?_
    show Steps p.tables e below (s₁.setTop (mkF m 1 #[.val (.ref o0), .val (.int (1 : Int32))] [(.ref o0)])) _
    refine st1 _ ?_
    show Steps p.tables e below (T1.setTop (mkF m 4 #[.val (.ref o0), .val (.int (1 : Int32))] [])) _
    refine XS.aloadN X1.here hx rfl (hb hby dd_prog_23_method_1_code_4) rfl rfl ?_
    show Steps p.tables e below (T1.setTop (mkF m 5 #[.val (.ref o0), .val (.int (1 : Int32))] [(.ref o0)])) _
    refine st2 _ ?_
    show Steps p.tables e below (T2.setTop (mkF m 8 #[.val (.ref o0), .val (.int (1 : Int32))] [(.ref o1), (.ref o0)])) _
    refine st3 _ ?_
    show Steps p.tables e below (T3.setTop (mkF m 11 #[.val (.ref o0), .val (.int (1 : Int32))] [])) _
    refine XS.aloadN X3.here hx rfl (hb hby dd_prog_23_method_1_code_11) rfl rfl ?_
    show Steps p.tables e below (T3.setTop (mkF m 12 #[.val (.ref o0), .val (.int (1 : Int32))] [(.ref o0)])) _
    refine st5 _ ?_
    show Steps p.tables e below (T5.setTop (mkF m 15 #[.val (.ref o0), .val (.int (1 : Int32))] [(.ref o1), (.ref o0)])) _
    refine st8 _ ?_
    show Steps p.tables e below (T8.setTop (mkF m 18 #[.val (.ref o0), .val (.int (1 : Int32))] [])) _
    refine XS.aloadN X8.here hx rfl (hb hby dd_prog_23_method_1_code_18) rfl rfl ?_
    show Steps p.tables e below (T8.setTop (mkF m 19 #[.val (.ref o0), .val (.int (1 : Int32))] [(.ref o0)])) _
    refine st10 _ ?_
    show Steps p.tables e below (T10.setTop (mkF m 22 #[.val (.ref o0), .val (.int (1 : Int32))] [(.ref o1), (.ref o0)])) _
    refine st13 _ ?_
    show Steps p.tables e below (T13.setTop (mkF m 25 #[.val (.ref o0), .val (.int (1 : Int32))] [])) _
    refine XS.aloadN X13.here hx rfl (hb hby dd_prog_23_method_1_code_25) rfl rfl ?_
    refine XS.iloadN X13.here hx rfl (hb hby dd_prog_23_method_1_code_26) rfl ?_
    show Steps p.tables e below (T13.setTop (mkF m 27 #[.val (.ref o0), .val (.int (1 : Int32))] [(.int (1 : Int32)), (.ref o0)])) _
    refine st16 _ ?_
    show Steps p.tables e below (T16.setTop (mkF m 30 #[.val (.ref o0), .val (.int (1 : Int32))] [])) _
    exact X16.returnOut hx Bd.returns (hb hby dd_prog_23_method_1_code_30) lhr
  · skip
    show QA1 Z o0 o1 u100 u101 h0 n0 _ T16.heap _
    rw [e16]
    exact ⟨rfl, N16, K16, f17, f18, f19, f20, Fw16, f21, f22⟩
theorem efa_prog_23_method_5_code_vvvvv (m : MethodId) (x0 : Addr) (x1 : Int64) (x2 : Int64) (x3 : Int64) (x4 : Int64) : entryFrame m #[(.ref x0), (.long x1), (.long x2), (.long x3), (.long x4)] 10 = mkF m 0 #[.val (.ref x0), .val (.long x1), .second, .val (.long x2), .second, .val (.long x3), .second, .val (.long x4), .second, .unset] [] := by first | (simp [entryFrame, mkF, argsToLocals, Value.category]; done) | rfl
theorem dd_prog_23_method_5_code_0 : decode prog_23_method_5_code 0 = .ok (.aload_n 0, 1) := by decide +kernel
theorem dd_prog_23_method_5_code_1 : decode prog_23_method_5_code 1 = .ok (.getfield 13, 3) := by decide +kernel
theorem dd_prog_23_method_5_code_4 : decode prog_23_method_5_code 4 = .ok (.aload_n 0, 1) := by decide +kernel
theorem dd_prog_23_method_5_code_5 : decode prog_23_method_5_code 5 = .ok (.getfield 26, 3) := by decide +kernel
theorem dd_prog_23_method_5_code_8 : decode prog_23_method_5_code 8 = .ok (.aload_n 0, 1) := by decide +kernel
theorem dd_prog_23_method_5_code_9 : decode prog_23_method_5_code 9 = .ok (.getfield 29, 3) := by decide +kernel
theorem dd_prog_23_method_5_code_12 : decode prog_23_method_5_code 12 = .ok (.lload_n 1, 1) := by decide +kernel
theorem dd_prog_23_method_5_code_13 : decode prog_23_method_5_code 13 = .ok (.invokestatic 38, 3) := by decide +kernel
theorem efa_jdk_65_method_55_code_vvvv (m : MethodId) (x0 : Addr) (x1 : Int32) (x2 : Int32) (x3 : Int64) : entryFrame m #[(.ref x0), (.int x1), (.int x2), (.long x3)] 5 = mkF m 0 #[.val (.ref x0), .val (.int x1), .val (.int x2), .val (.long x3), .second] [] := by first | (simp [entryFrame, mkF, argsToLocals, Value.category]; done) | rfl
theorem pn_java_util_Arrays : plainName "java/util/Arrays" = true := by first | (simp [plainName, overriddenIn]; done) | decide +kernel
theorem dd_jdk_65_method_55_code_0 : decode jdk_65_method_55_code 0 = .ok (.aload_n 0, 1) := by decide +kernel
theorem dd_jdk_65_method_55_code_1 : decode jdk_65_method_55_code 1 = .ok (.arraylength, 1) := by decide +kernel
theorem dd_jdk_65_method_55_code_2 : decode jdk_65_method_55_code 2 = .ok (.iload_n 1, 1) := by decide +kernel
theorem dd_jdk_65_method_55_code_3 : decode jdk_65_method_55_code 3 = .ok (.iload_n 2, 1) := by decide +kernel
theorem dd_jdk_65_method_55_code_4 : decode jdk_65_method_55_code 4 = .ok (.invokestatic 13, 3) := by decide +kernel
theorem efa_jdk_65_method_30_code_vvv (m : MethodId) (x0 : Int32) (x1 : Int32) (x2 : Int32) : entryFrame m #[(.int x0), (.int x1), (.int x2)] 3 = mkF m 0 #[.val (.int x0), .val (.int x1), .val (.int x2)] [] := by first | (simp [entryFrame, mkF, argsToLocals, Value.category]; done) | rfl
theorem dd_jdk_65_method_30_code_0 : decode jdk_65_method_30_code 0 = .ok (.iload_n 1, 1) := by decide +kernel
theorem dd_jdk_65_method_30_code_1 : decode jdk_65_method_30_code 1 = .ok (.iload_n 2, 1) := by decide +kernel
theorem dd_jdk_65_method_30_code_2 : decode jdk_65_method_30_code 2 = .ok (.if_icmp .le 44, 3) := by decide +kernel
theorem dd_jdk_65_method_30_code_46 : decode jdk_65_method_30_code 46 = .ok (.iload_n 1, 1) := by decide +kernel
theorem dd_jdk_65_method_30_code_47 : decode jdk_65_method_30_code 47 = .ok (.ifCond .ge 12, 3) := by decide +kernel
theorem dd_jdk_65_method_30_code_59 : decode jdk_65_method_30_code 59 = .ok (.iload_n 2, 1) := by decide +kernel
theorem dd_jdk_65_method_30_code_60 : decode jdk_65_method_30_code 60 = .ok (.iload_n 0, 1) := by decide +kernel
theorem dd_jdk_65_method_30_code_61 : decode jdk_65_method_30_code 61 = .ok (.if_icmp .le 12, 3) := by decide +kernel
theorem dd_jdk_65_method_30_code_73 : decode jdk_65_method_30_code 73 = .ok (.return_, 1) := by decide +kernel
def QA4 (Z : State)  (h0 : Heap) (n0 : Nat) (v : Option Value) (h : Heap) (L : List Loc) : Prop := v = none ∧ Fr n0 L ∧ h = h0
set_option maxRecDepth 65536 in
set_option maxHeartbeats 40000000 in
theorem rmA4 (l : Launch) (Z : State) (a0 : Array Value) (hw : ∀ d ∈ tables_1, d.before a0 Z = true) (ws : List Jvm.Cond)  (h0 : Heap) (n0 : Nat) (Z0 : n0 ≤ h0.size) :
    MetFree l mn12 (head1 (Jvm.Cond.code mn12 jdk_65_method_30_code 3 none :: ws) ({ frames := 0, cells := 0, slots := 0, locals := 0 } : Room)) (fun a U => a = #[(.int (0 : Int32)), (.int (0 : Int32)), (.int (0 : Int32))] ∧ Z.Warmed39 U.vm ∧ U.heap = h0) (fun _ _ _ _ _ => True) (fun _ U oc_ U' => ∃ v L, oc_ = .returned v ∧ QA4 Z  h0 n0 v U'.heap L ∧ FrameEnd U oc_ U' L ({ frames := 0, cells := 0, slots := 0, locals := 0 } : Room).cells ({ frames := 0, cells := 0, slots := 0, locals := 0 } : Room).slots) := by
  refine MetFree.of_bodySF (plainFor_of_name pn_java_util_Arrays) hisR ?_
  intro p e s m args below meth c s₁ Bd hml0 hP hK
  obtain ⟨rfl, hZ, hh⟩ := hP
  have hx := Bd.exec
  have hby := Bd.bytes
  have hml : c.maxLocals = 3 := hml0
  have hown : s.vm.findClass "java/util/Arrays" = some m.cls := findClass_of_methodNamed Bd.named
  have hnm := (name_of_methodNamed Bd.named Bd.method).1
  have X0 : Stand p l e ({ frames := 0, cells := 0, slots := 0, locals := 0 } : Room) s m #[(.int (0 : Int32)), (.int (0 : Int32)), (.int (0 : Int32))] below meth c s₁ [] 0 0 := Stand.of_body Bd
  have e0 : s₁.heap = h0 := by rw [← hh, Bd.state]; rfl
  have N0 := Fr.nil n0
  have pre0 : ∀ t, Steps p.tables e below (s₁.setTop (mkF m 0 #[.val (.int (0 : Int32)), .val (.int (0 : Int32)), .val (.int (0 : Int32))] [])) t → Steps p.tables e below (s₁.setTop (entryFrame m #[(.int (0 : Int32)), (.int (0 : Int32)), (.int (0 : Int32))] 3)) t := fun t k => castTop (efa_jdk_65_method_30_code_vvv m (0 : Int32) (0 : Int32) (0 : Int32)) k
  obtain ⟨lfs, lhr, lhrun, lhended, lhW, lhsame⟩ := X0.leave (v := none) (fun _ => rfl)
  refine ⟨_, _, pre0 _ ?_, lhrun, lhended, _, _, rfl, ?_, ⟨_, rfl⟩, lhW, lhsame.mono (by decide) (by decide)⟩
  · skip
    show Steps p.tables e below (s₁.setTop (mkF m 0 #[.val (.int (0 : Int32)), .val (.int (0 : Int32)), .val (.int (0 : Int32))] [])) _
    refine XS.iloadN X0.here hx rfl (hb hby dd_jdk_65_method_30_code_0) rfl ?_
    refine XS.iloadN X0.here hx rfl (hb hby dd_jdk_65_method_30_code_1) rfl ?_
    show Steps p.tables e below (s₁.setTop (mkF m 2 #[.val (.int (0 : Int32)), .val (.int (0 : Int32)), .val (.int (0 : Int32))] [(.int (0 : Int32)), (.int (0 : Int32))])) _
    refine XS.icmpYes X0.here hx rfl (pc0 := 2) (pc' := 46) rfl (hb hby dd_jdk_65_method_30_code_2) rfl (flt (by decide : ¬ ((0 : Int32) < (0 : Int32)))).2.2.2 (by decide) (by decide) ?_
    refine XS.iloadN X0.here hx rfl (hb hby dd_jdk_65_method_30_code_46) rfl ?_
    refine XS.ifYes X0.here hx rfl (pc0 := 47) (pc' := 59) rfl (hb hby dd_jdk_65_method_30_code_47) rfl ((if0 _ _).trans (flt (by decide : ¬ ((0 : Int32) < (0 : Int32)))).2.1) (by decide) (by decide) ?_
    show Steps p.tables e below (s₁.setTop (mkF m 59 #[.val (.int (0 : Int32)), .val (.int (0 : Int32)), .val (.int (0 : Int32))] [])) _
    refine XS.iloadN X0.here hx rfl (hb hby dd_jdk_65_method_30_code_59) rfl ?_
    refine XS.iloadN X0.here hx rfl (hb hby dd_jdk_65_method_30_code_60) rfl ?_
    refine XS.icmpYes X0.here hx rfl (pc0 := 61) (pc' := 73) rfl (hb hby dd_jdk_65_method_30_code_61) rfl (flt (by decide : ¬ ((0 : Int32) < (0 : Int32)))).2.2.2 (by decide) (by decide) ?_
    show Steps p.tables e below (s₁.setTop (mkF m 73 #[.val (.int (0 : Int32)), .val (.int (0 : Int32)), .val (.int (0 : Int32))] [])) _
    exact X0.returnOut hx Bd.returns (hb hby dd_jdk_65_method_30_code_73) lhr
  · skip
    show QA4 Z  h0 n0 _ s₁.heap _
    rw [e0]
    exact ⟨rfl, N0, rfl⟩
theorem pd__III_V : parseMethodDescriptor "(III)V" = some ⟨[.int, .int, .int], none⟩ := by decide +kernel
theorem dd_jdk_65_method_55_code_7 : decode jdk_65_method_55_code 7 = .ok (.aload_n 0, 1) := by decide +kernel
theorem dd_jdk_65_method_55_code_8 : decode jdk_65_method_55_code 8 = .ok (.iload_n 1, 1) := by decide +kernel
theorem dd_jdk_65_method_55_code_9 : decode jdk_65_method_55_code 9 = .ok (.iload_n 2, 1) := by decide +kernel
theorem dd_jdk_65_method_55_code_10 : decode jdk_65_method_55_code 10 = .ok (.lload_n 3, 1) := by decide +kernel
theorem dd_jdk_65_method_55_code_11 : decode jdk_65_method_55_code 11 = .ok (.invokestatic 205, 3) := by decide +kernel
theorem efa_jdk_65_method_56_code_vvvv (m : MethodId) (x0 : Addr) (x1 : Int32) (x2 : Int32) (x3 : Int64) : entryFrame m #[(.ref x0), (.int x1), (.int x2), (.long x3)] 10 = mkF m 0 #[.val (.ref x0), .val (.int x1), .val (.int x2), .val (.long x3), .second, .unset, .unset, .unset, .unset, .unset] [] := by first | (simp [entryFrame, mkF, argsToLocals, Value.category]; done) | rfl
theorem dd_jdk_65_method_56_code_0 : decode jdk_65_method_56_code 0 = .ok (.iload_n 1, 1) := by decide +kernel
theorem dd_jdk_65_method_56_code_1 : decode jdk_65_method_56_code 1 = .ok (.istore 5, 2) := by decide +kernel
theorem dd_jdk_65_method_56_code_3 : decode jdk_65_method_56_code 3 = .ok (.iload_n 2, 1) := by decide +kernel
theorem dd_jdk_65_method_56_code_4 : decode jdk_65_method_56_code 4 = .ok (.iconst 1, 1) := by decide +kernel
theorem dd_jdk_65_method_56_code_5 : decode jdk_65_method_56_code 5 = .ok (.isub, 1) := by decide +kernel
theorem dd_jdk_65_method_56_code_6 : decode jdk_65_method_56_code 6 = .ok (.istore 6, 2) := by decide +kernel
theorem dd_jdk_65_method_56_code_8 : decode jdk_65_method_56_code 8 = .ok (.iload 5, 2) := by decide +kernel
theorem dd_jdk_65_method_56_code_10 : decode jdk_65_method_56_code 10 = .ok (.iload 6, 2) := by decide +kernel
theorem dd_jdk_65_method_56_code_12 : decode jdk_65_method_56_code 12 = .ok (.if_icmp .gt 56, 3) := by decide +kernel
theorem dd_jdk_65_method_56_code_68 : decode jdk_65_method_56_code 68 = .ok (.iload 5, 2) := by decide +kernel
theorem dd_jdk_65_method_56_code_70 : decode jdk_65_method_56_code 70 = .ok (.iconst 1, 1) := by decide +kernel
theorem dd_jdk_65_method_56_code_71 : decode jdk_65_method_56_code 71 = .ok (.iadd, 1) := by decide +kernel
theorem dd_jdk_65_method_56_code_72 : decode jdk_65_method_56_code 72 = .ok (.ineg, 1) := by decide +kernel
theorem dd_jdk_65_method_56_code_73 : decode jdk_65_method_56_code 73 = .ok (.ireturn, 1) := by decide +kernel
def QA5 (Z : State) (o0 : Addr) (y1 : Int64) (h0 : Heap) (n0 : Nat) (v : Option Value) (h : Heap) (L : List Loc) : Prop := v = some (.int (-1 : Int32)) ∧ Fr n0 L ∧ h = h0
set_option maxRecDepth 65536 in
set_option maxHeartbeats 40000000 in
theorem rmA5 (l : Launch) (Z : State) (a0 : Array Value) (hw : ∀ d ∈ tables_1, d.before a0 Z = true) (ws : List Jvm.Cond) (o0 : Addr) (y1 : Int64) (h0 : Heap) (n0 : Nat) (Z0 : n0 ≤ h0.size) :
    MetFree l mn10 (head1 (Jvm.Cond.code mn10 jdk_65_method_56_code 10 (some .int) :: ws) ({ frames := 0, cells := 0, slots := 0, locals := 0 } : Room)) (fun a U => a = #[(.ref o0), (.int (0 : Int32)), (.int (0 : Int32)), (.long y1)] ∧ Z.Warmed39 U.vm ∧ U.heap = h0) (fun _ _ _ _ _ => True) (fun _ U oc_ U' => ∃ v L, oc_ = .returned v ∧ QA5 Z o0 y1 h0 n0 v U'.heap L ∧ FrameEnd U oc_ U' L ({ frames := 0, cells := 0, slots := 0, locals := 0 } : Room).cells ({ frames := 0, cells := 0, slots := 0, locals := 0 } : Room).slots) := by
  refine MetFree.of_bodySF (plainFor_of_name pn_java_util_Arrays) hisR ?_
  intro p e s m args below meth c s₁ Bd hml0 hP hK
  obtain ⟨rfl, hZ, hh⟩ := hP
  have hx := Bd.exec
  have hby := Bd.bytes
  have hml : c.maxLocals = 10 := hml0
  have hown : s.vm.findClass "java/util/Arrays" = some m.cls := findClass_of_methodNamed Bd.named
  have hnm := (name_of_methodNamed Bd.named Bd.method).1
  have X0 : Stand p l e ({ frames := 0, cells := 0, slots := 0, locals := 0 } : Room) s m #[(.ref o0), (.int (0 : Int32)), (.int (0 : Int32)), (.long y1)] below meth c s₁ [] 0 0 := Stand.of_body Bd
  have e0 : s₁.heap = h0 := by rw [← hh, Bd.state]; rfl
  have N0 := Fr.nil n0
  have pre0 : ∀ t, Steps p.tables e below (s₁.setTop (mkF m 0 #[.val (.ref o0), .val (.int (0 : Int32)), .val (.int (0 : Int32)), .val (.long y1), .second, .unset, .unset, .unset, .unset, .unset] [])) t → Steps p.tables e below (s₁.setTop (entryFrame m #[(.ref o0), (.int (0 : Int32)), (.int (0 : Int32)), (.long y1)] 10)) t := fun t k => castTop (efa_jdk_65_method_56_code_vvvv m o0 (0 : Int32) (0 : Int32) y1) k
  obtain ⟨lfs, lhr, lhrun, lhended, lhW, lhsame⟩ := X0.leave (v := some (.int (-1 : Int32))) (fun h => by rw [Bd.returns] at h; cases h)
  refine ⟨_, _, pre0 _ ?_, lhrun, lhended, _, _, rfl, ?_, ⟨_, rfl⟩, lhW, lhsame.mono (by decide) (by decide)⟩
  · skip
    show Steps p.tables e below (s₁.setTop (mkF m 0 #[.val (.ref o0), .val (.int (0 : Int32)), .val (.int (0 : Int32)), .val (.long y1), .second, .unset, .unset, .unset, .unset, .unset] [])) _
    refine XS.iloadN X0.here hx rfl (hb hby dd_jdk_65_method_56_code_0) rfl ?_
    refine XS.istore X0.here hx rfl (hb hby dd_jdk_65_method_56_code_1) rfl (l' := #[.val (.ref o0), .val (.int (0 : Int32)), .val (.int (0 : Int32)), .val (.long y1), .second, .val (.int (0 : Int32)), .unset, .unset, .unset, .unset]) rfl ?_
    show Steps p.tables e below (s₁.setTop (mkF m 3 #[.val (.ref o0), .val (.int (0 : Int32)), .val (.int (0 : Int32)), .val (.long y1), .second, .val (.int (0 : Int32)), .unset, .unset, .unset, .unset] [])) _
    refine XS.iloadN X0.here hx rfl (hb hby dd_jdk_65_method_56_code_3) rfl ?_
    refine XS.iconst X0.here hx rfl (hb hby dd_jdk_65_method_56_code_4) ?_
    refine XS.isub X0.here hx rfl (hb hby dd_jdk_65_method_56_code_5) rfl ?_
    show Steps p.tables e below (s₁.setTop (mkF m 6 #[.val (.ref o0), .val (.int (0 : Int32)), .val (.int (0 : Int32)), .val (.long y1), .second, .val (.int (0 : Int32)), .unset, .unset, .unset, .unset] [(.int (-1 : Int32))])) _
    refine XS.istore X0.here hx rfl (hb hby dd_jdk_65_method_56_code_6) rfl (l' := #[.val (.ref o0), .val (.int (0 : Int32)), .val (.int (0 : Int32)), .val (.long y1), .second, .val (.int (0 : Int32)), .val (.int (-1 : Int32)), .unset, .unset, .unset]) rfl ?_
    refine XS.iload X0.here hx rfl (hb hby dd_jdk_65_method_56_code_8) rfl ?_
    refine XS.iload X0.here hx rfl (hb hby dd_jdk_65_method_56_code_10) rfl ?_
    show Steps p.tables e below (s₁.setTop (mkF m 12 #[.val (.ref o0), .val (.int (0 : Int32)), .val (.int (0 : Int32)), .val (.long y1), .second, .val (.int (0 : Int32)), .val (.int (-1 : Int32)), .unset, .unset, .unset] [(.int (-1 : Int32)), (.int (0 : Int32))])) _
    refine XS.icmpYes X0.here hx rfl (pc0 := 12) (pc' := 68) rfl (hb hby dd_jdk_65_method_56_code_12) rfl (tlt (by decide : (-1 : Int32) < (0 : Int32))).2.2.1 (by decide) (by decide) ?_
    refine XS.iload X0.here hx rfl (hb hby dd_jdk_65_method_56_code_68) rfl ?_
    refine XS.iconst X0.here hx rfl (hb hby dd_jdk_65_method_56_code_70) ?_
    show Steps p.tables e below (s₁.setTop (mkF m 71 #[.val (.ref o0), .val (.int (0 : Int32)), .val (.int (0 : Int32)), .val (.long y1), .second, .val (.int (0 : Int32)), .val (.int (-1 : Int32)), .unset, .unset, .unset] [(.int (1 : Int32)), (.int (0 : Int32))])) _
    refine XS.iadd X0.here hx rfl (hb hby dd_jdk_65_method_56_code_71) rfl ?_
    refine XS.ineg X0.here hx rfl (hb hby dd_jdk_65_method_56_code_72) rfl ?_
    show Steps p.tables e below (s₁.setTop (mkF m 73 #[.val (.ref o0), .val (.int (0 : Int32)), .val (.int (0 : Int32)), .val (.long y1), .second, .val (.int (0 : Int32)), .val (.int (-1 : Int32)), .unset, .unset, .unset] [(.int (-1 : Int32))])) _
    exact retI X0 hx Bd.returns (hb hby dd_jdk_65_method_56_code_73) lhr
  · skip
    show QA5 Z o0 y1 h0 n0 _ s₁.heap _
    rw [e0]
    exact ⟨rfl, N0, rfl⟩
theorem pd___JIIJ_I : parseMethodDescriptor "([JIIJ)I" = some ⟨[(.array .long), .int, .int, .long], some .int⟩ := by decide +kernel
theorem dd_jdk_65_method_55_code_14 : decode jdk_65_method_55_code 14 = .ok (.ireturn, 1) := by decide +kernel
def QA3 (Z : State) (o0 : Addr) (y1 : Int64) (kk_o0 : ClassId) (h0 : Heap) (n0 : Nat) (v : Option Value) (h : Heap) (L : List Loc) : Prop := v = some (.int (-1 : Int32)) ∧ Fr n0 L ∧ h = h0
set_option maxRecDepth 65536 in
set_option maxHeartbeats 40000000 in
theorem rmA3 (l : Launch) (Z : State) (a0 : Array Value) (hw : ∀ d ∈ tables_1, d.before a0 Z = true) (ws : List Jvm.Cond) (o0 : Addr) (y1 : Int64) (kk_o0 : ClassId) (h0 : Heap) (n0 : Nat) (Z0 : n0 ≤ h0.size) (V_o0 : Arv Z h0 o0 kk_o0 .long (0 : Int32) [] (.long (0 : Int64))) :
    MetFree l mn9 (head1 (Jvm.Cond.code mn9 jdk_65_method_55_code 5 (some .int) :: ws) ({ frames := 1, cells := 0, slots := 0, locals := 21 } : Room)) (fun a U => a = #[(.ref o0), (.int (0 : Int32)), (.int (0 : Int32)), (.long y1)] ∧ Z.Warmed39 U.vm ∧ U.heap = h0) (fun _ _ _ _ _ => True) (fun _ U oc_ U' => ∃ v L, oc_ = .returned v ∧ QA3 Z o0 y1 kk_o0 h0 n0 v U'.heap L ∧ FrameEnd U oc_ U' L ({ frames := 1, cells := 0, slots := 0, locals := 21 } : Room).cells ({ frames := 1, cells := 0, slots := 0, locals := 21 } : Room).slots) := by
  refine MetFree.of_bodySF (plainFor_of_name pn_java_util_Arrays) hisR ?_
  intro p e s m args below meth c s₁ Bd hml0 hP hK
  obtain ⟨rfl, hZ, hh⟩ := hP
  have hx := Bd.exec
  have hby := Bd.bytes
  have hml : c.maxLocals = 5 := hml0
  have hown : s.vm.findClass "java/util/Arrays" = some m.cls := findClass_of_methodNamed Bd.named
  have hnm := (name_of_methodNamed Bd.named Bd.method).1
  have X0 : Stand p l e ({ frames := 1, cells := 0, slots := 0, locals := 21 } : Room) s m #[(.ref o0), (.int (0 : Int32)), (.int (0 : Int32)), (.long y1)] below meth c s₁ [] 0 0 := Stand.of_body Bd
  have e0 : s₁.heap = h0 := by rw [← hh, Bd.state]; rfl
  have N0 := Fr.nil n0
  have pre0 : ∀ t, Steps p.tables e below (s₁.setTop (mkF m 0 #[.val (.ref o0), .val (.int (0 : Int32)), .val (.int (0 : Int32)), .val (.long y1), .second] [])) t → Steps p.tables e below (s₁.setTop (entryFrame m #[(.ref o0), (.int (0 : Int32)), (.int (0 : Int32)), (.long y1)] 5)) t := fun t k => castTop (efa_jdk_65_method_55_code_vvvv m o0 (0 : Int32) (0 : Int32) y1) k
  obtain ⟨cl1, Ar1, -, S1, M1, -, -⟩ := id V_o0
  obtain ⟨_, _, ⟨T2, L2, kc2, ks2⟩, -, X2, ⟨Lc2, hQ2, l2, y2, z2⟩, st2⟩ := Jvm.LawKit.callS X0 hx (y := mn12) hown (mvT hZ (wd33 hw)) (mvT hZ (wd34 hw)) (mvT hZ (wd31 hw)) (mvT hZ (wd35 hw)) (by decide) (backOf (W := 0) (rmA4 l Z a0 hw []  h0 n0 Z0 ) hZ (wd35 hw) (wd31 hw) (by decide) (by decide)) (g := (mkF m 4 #[.val (.ref o0), .val (.int (0 : Int32)), .val (.int (0 : Int32)), .val (.long y1), .second] [(.int (0 : Int32)), (.int (0 : Int32)), (.int (0 : Int32))])) rfl (by rw [hml]; rfl) (argsL := [(.int (0 : Int32)), (.int (0 : Int32)), (.int (0 : Int32))]) (rest := []) (lenOf pd__III_V rfl) rfl (by show 2 * 0 + _ ≤ _; exact Nat.le_of_eq rfl) (hb hby dd_jdk_65_method_55_code_4) (fun _ _ => ⟨rfl, e0, (by decide : 0 + 0 ≤ _), (by decide : 0 + 0 ≤ _)⟩)
  dsimp only [Pt.U, Pt.locs, Pt.cells, Pt.slots] at X2 l2 y2 z2 st2 hQ2
  subst l2 y2 z2
  obtain ⟨rfl, Nq2, eq2⟩ := hQ2
  have N2 := Fr.app N0 Nq2
  obtain ⟨_, _, ⟨T3, L3, kc3, ks3⟩, -, X3, ⟨Lc3, hQ3, l3, y3, z3⟩, st3⟩ := Jvm.LawKit.callS X2 hx (y := mn10) hown (mvT hZ (wd36 hw)) (mvT hZ (wd37 hw)) (mvT hZ (wd31 hw)) (mvT hZ (wd38 hw)) (by decide) (backOf (W := 0) (rmA5 l Z a0 hw [] o0 y1 h0 n0 Z0 ) hZ (wd38 hw) (wd31 hw) (by decide) (by decide)) (g := (mkF m 11 #[.val (.ref o0), .val (.int (0 : Int32)), .val (.int (0 : Int32)), .val (.long y1), .second] [(.long y1), (.int (0 : Int32)), (.int (0 : Int32)), (.ref o0)])) rfl (by rw [hml]; rfl) (argsL := [(.ref o0), (.int (0 : Int32)), (.int (0 : Int32)), (.long y1)]) (rest := []) (lenOf pd___JIIJ_I rfl) rfl (by show 2 * 0 + _ ≤ _; exact Nat.le_of_eq rfl) (hb hby dd_jdk_65_method_55_code_11) (fun _ _ => ⟨rfl, eq2, (by decide : 0 + 0 ≤ _), (by decide : 0 + 0 ≤ _)⟩)
  dsimp only [Pt.U, Pt.locs, Pt.cells, Pt.slots] at X3 l3 y3 z3 st3 hQ3
  subst l3 y3 z3
  obtain ⟨rfl, Nq3, eq3⟩ := hQ3
  have N3 := Fr.app N2 Nq3
  obtain ⟨lfs, lhr, lhrun, lhended, lhW, lhsame⟩ := X3.leave (v := some (.int (-1 : Int32))) (fun h => by rw [Bd.returns] at h; cases h)
  refine ⟨_, _, pre0 _ ?_, lhrun, lhended, _, _, rfl, ?_, ⟨_, rfl⟩, lhW, lhsame.mono (by decide) (by decide)⟩
  · skip
    show Steps p.tables e below (s₁.setTop (mkF m 0 #[.val (.ref o0), .val (.int (0 : Int32)), .val (.int (0 : Int32)), .val (.long y1), .second] [])) _
    refine XS.aloadN X0.here hx rfl (hb hby dd_jdk_65_method_55_code_0) rfl rfl ?_
    refine X0.arraylength hx (by (try rw [e0]); exact Ar1.1) (State.isArrayOf_alike hZ.alike Ar1.2.1) (g := (mkF m 1 #[.val (.ref o0), .val (.int (0 : Int32)), .val (.int (0 : Int32)), .val (.long y1), .second] [(.ref o0)])) rfl rfl (hb hby dd_jdk_65_method_55_code_1) _ ?_
    rw [len_of S1 M1]
    show Steps p.tables e below (s₁.setTop (mkF m 2 #[.val (.ref o0), .val (.int (0 : Int32)), .val (.int (0 : Int32)), .val (.long y1), .second] [(.int (0 : Int32))])) _
    refine XS.iloadN X0.here hx rfl (hb hby dd_jdk_65_method_55_code_2) rfl ?_
    refine XS.iloadN X0.here hx rfl (hb hby dd_jdk_65_method_55_code_3) rfl ?_
    show Steps p.tables e below (s₁.setTop (mkF m 4 #[.val (.ref o0), .val (.int (0 : Int32)), .val (.int (0 : Int32)), .val (.long y1), .second] [(.int (0 : Int32)), (.int (0 : Int32)), (.int (0 : Int32))])) _
    refine st2 _ ?_
    show Steps p.tables e below (T2.setTop (mkF m 7 #[.val (.ref o0), .val (.int (0 : Int32)), .val (.int (0 : Int32)), .val (.long y1), .second] [])) _
    refine XS.aloadN X2.here hx rfl (hb hby dd_jdk_65_method_55_code_7) rfl rfl ?_
    refine XS.iloadN X2.here hx rfl (hb hby dd_jdk_65_method_55_code_8) rfl ?_
    refine XS.iloadN X2.here hx rfl (hb hby dd_jdk_65_method_55_code_9) rfl ?_
    show Steps p.tables e below (T2.setTop (mkF m 10 #[.val (.ref o0), .val (.int (0 : Int32)), .val (.int (0 : Int32)), .val (.long y1), .second] [(.int (0 : Int32)), (.int (0 : Int32)), (.ref o0)])) _
    refine XS.lloadN X2.here hx rfl (hb hby dd_jdk_65_method_55_code_10) rfl ?_
    show Steps p.tables e below (T2.setTop (mkF m 11 #[.val (.ref o0), .val (.int (0 : Int32)), .val (.int (0 : Int32)), .val (.long y1), .second] [(.long y1), (.int (0 : Int32)), (.int (0 : Int32)), (.ref o0)])) _
    refine st3 _ ?_
    show Steps p.tables e below (T3.setTop (mkF m 14 #[.val (.ref o0), .val (.int (0 : Int32)), .val (.int (0 : Int32)), .val (.long y1), .second] [(.int (-1 : Int32))])) _
    exact retI X3 hx Bd.returns (hb hby dd_jdk_65_method_55_code_14) lhr
  · skip
    show QA3 Z o0 y1 kk_o0 h0 n0 _ T3.heap _
    rw [eq3]
    exact ⟨rfl, N3, rfl⟩
theorem dd_prog_23_method_5_code_16 : decode prog_23_method_5_code 16 = .ok (.istore 9, 2) := by decide +kernel
theorem dd_prog_23_method_5_code_18 : decode prog_23_method_5_code 18 = .ok (.iload 9, 2) := by decide +kernel
theorem dd_prog_23_method_5_code_20 : decode prog_23_method_5_code 20 = .ok (.ifCond .ge 22, 3) := by decide +kernel
theorem dd_prog_23_method_5_code_23 : decode prog_23_method_5_code 23 = .ok (.lload 5, 2) := by decide +kernel
theorem dd_prog_23_method_5_code_25 : decode prog_23_method_5_code 25 = .ok (.lconst 0, 1) := by decide +kernel
theorem dd_prog_23_method_5_code_26 : decode prog_23_method_5_code 26 = .ok (.lcmp, 1) := by decide +kernel
theorem dd_prog_23_method_5_code_27 : decode prog_23_method_5_code 27 = .ok (.ifCond .le 15, 3) := by decide +kernel
theorem dd_prog_23_method_5_code_30 : decode prog_23_method_5_code 30 = .ok (.aload_n 0, 1) := by decide +kernel
theorem dd_prog_23_method_5_code_31 : decode prog_23_method_5_code 31 = .ok (.iload 9, 2) := by decide +kernel
theorem dd_prog_23_method_5_code_33 : decode prog_23_method_5_code 33 = .ok (.ineg, 1) := by decide +kernel
theorem dd_prog_23_method_5_code_34 : decode prog_23_method_5_code 34 = .ok (.iconst 1, 1) := by decide +kernel
theorem dd_prog_23_method_5_code_35 : decode prog_23_method_5_code 35 = .ok (.isub, 1) := by decide +kernel
theorem dd_prog_23_method_5_code_36 : decode prog_23_method_5_code 36 = .ok (.lload_n 1, 1) := by decide +kernel
theorem dd_prog_23_method_5_code_37 : decode prog_23_method_5_code 37 = .ok (.invokevirtual 44, 3) := by decide +kernel
theorem efa_prog_23_method_7_code_vvv (m : MethodId) (x0 : Addr) (x1 : Int32) (x2 : Int64) : entryFrame m #[(.ref x0), (.int x1), (.long x2)] 7 = mkF m 0 #[.val (.ref x0), .val (.int x1), .val (.long x2), .second, .unset, .unset, .unset] [] := by first | (simp [entryFrame, mkF, argsToLocals, Value.category]; done) | rfl
theorem dd_prog_23_method_7_code_0 : decode prog_23_method_7_code 0 = .ok (.iload_n 1, 1) := by decide +kernel
theorem dd_prog_23_method_7_code_1 : decode prog_23_method_7_code 1 = .ok (.istore 4, 2) := by decide +kernel
theorem dd_prog_23_method_7_code_3 : decode prog_23_method_7_code 3 = .ok (.aload_n 0, 1) := by decide +kernel
theorem dd_prog_23_method_7_code_4 : decode prog_23_method_7_code 4 = .ok (.getfield 29, 3) := by decide +kernel
theorem dd_prog_23_method_7_code_7 : decode prog_23_method_7_code 7 = .ok (.aload_n 0, 1) := by decide +kernel
theorem dd_prog_23_method_7_code_8 : decode prog_23_method_7_code 8 = .ok (.getfield 13, 3) := by decide +kernel
theorem dd_prog_23_method_7_code_11 : decode prog_23_method_7_code 11 = .ok (.arraylength, 1) := by decide +kernel
theorem dd_prog_23_method_7_code_12 : decode prog_23_method_7_code 12 = .ok (.if_icmp .ne 110, 3) := by decide +kernel
theorem dd_prog_23_method_7_code_15 : decode prog_23_method_7_code 15 = .ok (.aload_n 0, 1) := by decide +kernel
theorem dd_prog_23_method_7_code_16 : decode prog_23_method_7_code 16 = .ok (.getfield 29, 3) := by decide +kernel
theorem dd_prog_23_method_7_code_19 : decode prog_23_method_7_code 19 = .ok (.aload_n 0, 1) := by decide +kernel
theorem dd_prog_23_method_7_code_20 : decode prog_23_method_7_code 20 = .ok (.getfield 26, 3) := by decide +kernel
theorem dd_prog_23_method_7_code_23 : decode prog_23_method_7_code 23 = .ok (.isub, 1) := by decide +kernel
theorem dd_prog_23_method_7_code_24 : decode prog_23_method_7_code 24 = .ok (.istore 5, 2) := by decide +kernel
theorem dd_prog_23_method_7_code_26 : decode prog_23_method_7_code 26 = .ok (.iload 5, 2) := by decide +kernel
theorem dd_prog_23_method_7_code_28 : decode prog_23_method_7_code 28 = .ok (.aload_n 0, 1) := by decide +kernel
theorem dd_prog_23_method_7_code_29 : decode prog_23_method_7_code 29 = .ok (.getfield 13, 3) := by decide +kernel
theorem dd_prog_23_method_7_code_32 : decode prog_23_method_7_code 32 = .ok (.arraylength, 1) := by decide +kernel
theorem dd_prog_23_method_7_code_33 : decode prog_23_method_7_code 33 = .ok (.if_icmp .ne 14, 3) := by decide +kernel
theorem dd_prog_23_method_7_code_36 : decode prog_23_method_7_code 36 = .ok (.iconst 1, 1) := by decide +kernel
theorem dd_prog_23_method_7_code_37 : decode prog_23_method_7_code 37 = .ok (.iconst 2, 1) := by decide +kernel
theorem dd_prog_23_method_7_code_38 : decode prog_23_method_7_code 38 = .ok (.iload 5, 2) := by decide +kernel
theorem dd_prog_23_method_7_code_40 : decode prog_23_method_7_code 40 = .ok (.imul, 1) := by decide +kernel
theorem dd_prog_23_method_7_code_41 : decode prog_23_method_7_code 41 = .ok (.invokestatic 60, 3) := by decide +kernel
theorem efa_jdk_29_method_65_code_vv (m : MethodId) (x0 : Int32) (x1 : Int32) : entryFrame m #[(.int x0), (.int x1)] 2 = mkF m 0 #[.val (.int x0), .val (.int x1)] [] := by first | (simp [entryFrame, mkF, argsToLocals, Value.category]; done) | rfl
theorem dd_jdk_29_method_65_code_0 : decode jdk_29_method_65_code 0 = .ok (.iload_n 0, 1) := by decide +kernel
theorem dd_jdk_29_method_65_code_1 : decode jdk_29_method_65_code 1 = .ok (.iload_n 1, 1) := by decide +kernel
theorem dd_jdk_29_method_65_code_2 : decode jdk_29_method_65_code 2 = .ok (.if_icmp .lt 7, 3) := by decide +kernel
theorem dd_jdk_29_method_65_code_5 : decode jdk_29_method_65_code 5 = .ok (.iload_n 0, 1) := by decide +kernel
theorem dd_jdk_29_method_65_code_6 : decode jdk_29_method_65_code 6 = .ok (.goto 4, 3) := by decide +kernel
theorem dd_jdk_29_method_65_code_10 : decode jdk_29_method_65_code 10 = .ok (.ireturn, 1) := by decide +kernel
def QA7 (Z : State)  (h0 : Heap) (n0 : Nat) (v : Option Value) (h : Heap) (L : List Loc) : Prop := v = some (.int (1 : Int32)) ∧ Fr n0 L ∧ h = h0
set_option maxRecDepth 65536 in
set_option maxHeartbeats 40000000 in
theorem rmA7 (l : Launch) (Z : State) (a0 : Array Value) (hw : ∀ d ∈ tables_1, d.before a0 Z = true) (ws : List Jvm.Cond)  (h0 : Heap) (n0 : Nat) (Z0 : n0 ≤ h0.size) :
    MetFree l mn8 (head1 (Jvm.Cond.code mn8 jdk_29_method_65_code 2 (some .int) :: ws) ({ frames := 0, cells := 0, slots := 0, locals := 0 } : Room)) (fun a U => a = #[(.int (1 : Int32)), (.int (0 : Int32))] ∧ Z.Warmed39 U.vm ∧ U.heap = h0) (fun _ _ _ _ _ => True) (fun _ U oc_ U' => ∃ v L, oc_ = .returned v ∧ QA7 Z  h0 n0 v U'.heap L ∧ FrameEnd U oc_ U' L ({ frames := 0, cells := 0, slots := 0, locals := 0 } : Room).cells ({ frames := 0, cells := 0, slots := 0, locals := 0 } : Room).slots) := by
  refine MetFree.of_bodySF (Jvm.Free.JP.mathPlain rfl (by decide +kernel)) hisR ?_
  intro p e s m args below meth c s₁ Bd hml0 hP hK
  obtain ⟨rfl, hZ, hh⟩ := hP
  have hx := Bd.exec
  have hby := Bd.bytes
  have hml : c.maxLocals = 2 := hml0
  have hown : s.vm.findClass "java/lang/Math" = some m.cls := findClass_of_methodNamed Bd.named
  have hnm := (name_of_methodNamed Bd.named Bd.method).1
  have X0 : Stand p l e ({ frames := 0, cells := 0, slots := 0, locals := 0 } : Room) s m #[(.int (1 : Int32)), (.int (0 : Int32))] below meth c s₁ [] 0 0 := Stand.of_body Bd
  have e0 : s₁.heap = h0 := by rw [← hh, Bd.state]; rfl
  have N0 := Fr.nil n0
  have pre0 : ∀ t, Steps p.tables e below (s₁.setTop (mkF m 0 #[.val (.int (1 : Int32)), .val (.int (0 : Int32))] [])) t → Steps p.tables e below (s₁.setTop (entryFrame m #[(.int (1 : Int32)), (.int (0 : Int32))] 2)) t := fun t k => castTop (efa_jdk_29_method_65_code_vv m (1 : Int32) (0 : Int32)) k
  obtain ⟨lfs, lhr, lhrun, lhended, lhW, lhsame⟩ := X0.leave (v := some (.int (1 : Int32))) (fun h => by rw [Bd.returns] at h; cases h)
  refine ⟨_, _, pre0 _ ?_, lhrun, lhended, _, _, rfl, ?_, ⟨_, rfl⟩, lhW, lhsame.mono (by decide) (by decide)⟩
  · skip
    show Steps p.tables e below (s₁.setTop (mkF m 0 #[.val (.int (1 : Int32)), .val (.int (0 : Int32))] [])) _
    refine XS.iloadN X0.here hx rfl (hb hby dd_jdk_29_method_65_code_0) rfl ?_
    refine XS.iloadN X0.here hx rfl (hb hby dd_jdk_29_method_65_code_1) rfl ?_
    show Steps p.tables e below (s₁.setTop (mkF m 2 #[.val (.int (1 : Int32)), .val (.int (0 : Int32))] [(.int (0 : Int32)), (.int (1 : Int32))])) _
    refine XS.icmpNo X0.here hx rfl (hb hby dd_jdk_29_method_65_code_2) rfl (flt (by decide : ¬ ((1 : Int32) < (0 : Int32)))).1 ?_
    refine XS.iloadN X0.here hx rfl (hb hby dd_jdk_29_method_65_code_5) rfl ?_
    refine XS.goto X0.here hx rfl (pc0 := 6) (pc' := 10) rfl (hb hby dd_jdk_29_method_65_code_6) (by decide) (by decide) ?_
    show Steps p.tables e below (s₁.setTop (mkF m 10 #[.val (.int (1 : Int32)), .val (.int (0 : Int32))] [(.int (1 : Int32))])) _
    exact retI X0 hx Bd.returns (hb hby dd_jdk_29_method_65_code_10) lhr
  · skip
    show QA7 Z  h0 n0 _ s₁.heap _
    rw [e0]
    exact ⟨rfl, N0, rfl⟩
theorem pd__II_I : parseMethodDescriptor "(II)I" = some ⟨[.int, .int], some .int⟩ := by decide +kernel
theorem dd_prog_23_method_7_code_44 : decode prog_23_method_7_code 44 = .ok (.goto 8, 3) := by decide +kernel
theorem dd_prog_23_method_7_code_52 : decode prog_23_method_7_code 52 = .ok (.istore 6, 2) := by decide +kernel
theorem dd_prog_23_method_7_code_54 : decode prog_23_method_7_code 54 = .ok (.aload_n 0, 1) := by decide +kernel
theorem dd_prog_23_method_7_code_55 : decode prog_23_method_7_code 55 = .ok (.aload_n 0, 1) := by decide +kernel
theorem dd_prog_23_method_7_code_56 : decode prog_23_method_7_code 56 = .ok (.aload_n 0, 1) := by decide +kernel
theorem dd_prog_23_method_7_code_57 : decode prog_23_method_7_code 57 = .ok (.getfield 13, 3) := by decide +kernel
theorem dd_prog_23_method_7_code_60 : decode prog_23_method_7_code 60 = .ok (.iconst 1, 1) := by decide +kernel
theorem dd_prog_23_method_7_code_61 : decode prog_23_method_7_code 61 = .ok (.iload 6, 2) := by decide +kernel
theorem dd_prog_23_method_7_code_63 : decode prog_23_method_7_code 63 = .ok (.invokevirtual 66, 3) := by decide +kernel
theorem efa_prog_23_method_8_code_vvvv (m : MethodId) (x0 : Addr) (x1 : Addr) (x2 : Int32) (x3 : Int32) : entryFrame m #[(.ref x0), (.ref x1), (.int x2), (.int x3)] 5 = mkF m 0 #[.val (.ref x0), .val (.ref x1), .val (.int x2), .val (.int x3), .unset] [] := by first | (simp [entryFrame, mkF, argsToLocals, Value.category]; done) | rfl
theorem dd_prog_23_method_8_code_0 : decode prog_23_method_8_code 0 = .ok (.iload_n 3, 1) := by decide +kernel
theorem dd_prog_23_method_8_code_1 : decode prog_23_method_8_code 1 = .ok (.iload_n 2, 1) := by decide +kernel
theorem dd_prog_23_method_8_code_2 : decode prog_23_method_8_code 2 = .ok (.imul, 1) := by decide +kernel
theorem dd_prog_23_method_8_code_3 : decode prog_23_method_8_code 3 = .ok (.newarray .long, 2) := by decide +kernel
theorem dd_prog_23_method_8_code_5 : decode prog_23_method_8_code 5 = .ok (.astore 4, 2) := by decide +kernel
theorem dd_prog_23_method_8_code_7 : decode prog_23_method_8_code 7 = .ok (.aload_n 1, 1) := by decide +kernel
theorem dd_prog_23_method_8_code_8 : decode prog_23_method_8_code 8 = .ok (.aload_n 0, 1) := by decide +kernel
theorem dd_prog_23_method_8_code_9 : decode prog_23_method_8_code 9 = .ok (.getfield 26, 3) := by decide +kernel
theorem dd_prog_23_method_8_code_12 : decode prog_23_method_8_code 12 = .ok (.iload_n 2, 1) := by decide +kernel
theorem dd_prog_23_method_8_code_13 : decode prog_23_method_8_code 13 = .ok (.imul, 1) := by decide +kernel
theorem dd_prog_23_method_8_code_14 : decode prog_23_method_8_code 14 = .ok (.aload 4, 2) := by decide +kernel
theorem dd_prog_23_method_8_code_16 : decode prog_23_method_8_code 16 = .ok (.iconst 0, 1) := by decide +kernel
theorem dd_prog_23_method_8_code_17 : decode prog_23_method_8_code 17 = .ok (.aload_n 0, 1) := by decide +kernel
theorem dd_prog_23_method_8_code_18 : decode prog_23_method_8_code 18 = .ok (.getfield 29, 3) := by decide +kernel
theorem dd_prog_23_method_8_code_21 : decode prog_23_method_8_code 21 = .ok (.aload_n 0, 1) := by decide +kernel
theorem dd_prog_23_method_8_code_22 : decode prog_23_method_8_code 22 = .ok (.getfield 26, 3) := by decide +kernel
theorem dd_prog_23_method_8_code_25 : decode prog_23_method_8_code 25 = .ok (.isub, 1) := by decide +kernel
theorem dd_prog_23_method_8_code_26 : decode prog_23_method_8_code 26 = .ok (.iload_n 2, 1) := by decide +kernel
theorem dd_prog_23_method_8_code_27 : decode prog_23_method_8_code 27 = .ok (.imul, 1) := by decide +kernel
theorem dd_prog_23_method_8_code_28 : decode prog_23_method_8_code 28 = .ok (.invokestatic 54, 3) := by decide +kernel
theorem dd_prog_23_method_8_code_31 : decode prog_23_method_8_code 31 = .ok (.aload 4, 2) := by decide +kernel
theorem dd_prog_23_method_8_code_33 : decode prog_23_method_8_code 33 = .ok (.areturn, 1) := by decide +kernel
def QA8 (Z : State) (o0 : Addr) (o1 : Addr) (kk_o1 : ClassId) (h0 : Heap) (n0 : Nat) (v : Option Value) (h : Heap) (L : List Loc) : Prop := ∃ (b1 : Addr) (kk_b1 : ClassId), v = some (.ref b1) ∧ Fr n0 L ∧ Keep h0 h [] ∧ h0.size ≤ b1 ∧ Arv Z h b1 kk_b1 .long (1 : Int32) [(.long (0 : Int64))] (.long (0 : Int64))
set_option maxRecDepth 65536 in
set_option maxHeartbeats 40000000 in
theorem rmA8 (l : Launch) (Z : State) (a0 : Array Value) (hw : ∀ d ∈ tables_1, d.before a0 Z = true) (ws : List Jvm.Cond) (o0 : Addr) (o1 : Addr) (kk_o1 : ClassId) (h0 : Heap) (n0 : Nat) (Z0 : n0 ≤ h0.size) (F_o0_first : Fld Z h0 o0 cn2 "first" "I" (.int (0 : Int32))) (F_o0_end : Fld Z h0 o0 cn2 "end" "I" (.int (0 : Int32))) (V_o1 : Arv Z h0 o1 kk_o1 .long (0 : Int32) [] (.long (0 : Int64))) :
    MetFree l mn6 (head1 (Jvm.Cond.code mn6 prog_23_method_8_code 5 (some (.array .long)) :: ws) ({ frames := 1, cells := 1, slots := 1, locals := 36 } : Room)) (fun a U => a = #[(.ref o0), (.ref o1), (.int (1 : Int32)), (.int (1 : Int32))] ∧ Z.Warmed39 U.vm ∧ U.heap = h0) (fun _ _ _ _ _ => True) (fun _ U oc_ U' => ∃ v L, oc_ = .returned v ∧ QA8 Z o0 o1 kk_o1 h0 n0 v U'.heap L ∧ FrameEnd U oc_ U' L ({ frames := 1, cells := 1, slots := 1, locals := 36 } : Room).cells ({ frames := 1, cells := 1, slots := 1, locals := 36 } : Room).slots) := by
  refine MetFree.of_bodySF (plainFor_of_name pn_com_example_strict_limiter_strictlimiter_KeptWindows) hisR ?_
  intro p e s m args below meth c s₁ Bd hml0 hP hK
  obtain ⟨rfl, hZ, hh⟩ := hP
  have hx := Bd.exec
  have hby := Bd.bytes
  have hml : c.maxLocals = 5 := hml0
  have hown : s.vm.findClass cn2 = some m.cls := findClass_of_methodNamed Bd.named
  have hnm := (name_of_methodNamed Bd.named Bd.method).1
  have X0 : Stand p l e ({ frames := 1, cells := 1, slots := 1, locals := 36 } : Room) s m #[(.ref o0), (.ref o1), (.int (1 : Int32)), (.int (1 : Int32))] below meth c s₁ [] 0 0 := Stand.of_body Bd
  have e0 : s₁.heap = h0 := by rw [← hh, Bd.state]; rfl
  have N0 := Fr.nil n0
  have pre0 : ∀ t, Steps p.tables e below (s₁.setTop (mkF m 0 #[.val (.ref o0), .val (.ref o1), .val (.int (1 : Int32)), .val (.int (1 : Int32)), .unset] [])) t → Steps p.tables e below (s₁.setTop (entryFrame m #[(.ref o0), (.ref o1), (.int (1 : Int32)), (.int (1 : Int32))] 5)) t := fun t k => castTop (efa_prog_23_method_8_code_vvvv m o0 o1 (1 : Int32) (1 : Int32)) k
  obtain ⟨T1, h1, kk1, X1, e1, E1, A1, st1⟩ := newP X0 hx hZ (aty := .long) (wd51 hw) e0 (g := (mkF m 3 #[.val (.ref o0), .val (.ref o1), .val (.int (1 : Int32)), .val (.int (1 : Int32)), .unset] [(.int (1 : Int32))])) rfl (hb hby dd_prog_23_method_8_code_3) rfl (by decide) (cap := 1) (by decide) (by decide) (by decide) (by decide)
  obtain ⟨b1, g1⟩ : ∃ z, z = h0.size := ⟨_, rfl⟩
  rw [← g1] at A1 st1
  have ge_b1 : n0 ≤ b1 := Nat.le_trans Z0 (Nat.le_of_eq g1.symm)
  have sz_b1 : h0.size ≤ b1 := Nat.le_trans (Nat.le_refl _) (Nat.le_of_eq g1.symm)
  have Z1 : n0 ≤ h1.size := Nat.le_trans Z0 E1.1
  have K1 : Keep h0 h1 [] := ((Keep.refl h0 []).ext E1)
  have V1 : Arv Z h1 b1 kk1 .long (1 : Int32) [(.long (0 : Int64))] (.long (0 : Int64)) := (Arv.new A1 (by decide)).pad (pad_rep [] (.long (0 : Int64)) 1)
  have f2 := (F_o0_first.ext E1)
  obtain ⟨T3, X3, e3, st3⟩ := getF X1 hx hZ hown (host := "") (Or.inl (wd25 hw)) Via.refl e1 f2 (g := (mkF m 9 #[.val (.ref o0), .val (.ref o1), .val (.int (1 : Int32)), .val (.int (1 : Int32)), .val (.ref b1)] [(.ref o0), (.ref o1)])) rfl rfl (hb hby dd_prog_23_method_8_code_9)
  have f4 := (F_o0_end.ext E1)
  obtain ⟨T5, X5, e5, st5⟩ := getF X3 hx hZ hown (host := "") (Or.inl (wd27 hw)) Via.refl e3 f4 (g := (mkF m 18 #[.val (.ref o0), .val (.ref o1), .val (.int (1 : Int32)), .val (.int (1 : Int32)), .val (.ref b1)] [(.ref o0), (.int (0 : Int32)), (.ref b1), (.int (0 : Int32)), (.ref o1)])) rfl rfl (hb hby dd_prog_23_method_8_code_18)
  obtain ⟨T6, X6, e6, st6⟩ := getF X5 hx hZ hown (host := "") (Or.inl (wd25 hw)) Via.refl e5 f2 (g := (mkF m 22 #[.val (.ref o0), .val (.ref o1), .val (.int (1 : Int32)), .val (.int (1 : Int32)), .val (.ref b1)] [(.ref o0), (.int (0 : Int32)), (.int (0 : Int32)), (.ref b1), (.int (0 : Int32)), (.ref o1)])) rfl rfl (hb hby dd_prog_23_method_8_code_22)
  have f7 := (V_o1.ext E1)
  obtain ⟨T8, h8, Lq8, X8, e8, Nq8, Kq8, Vq8, st8⟩ := cpA X6 hx hZ hown (wd52 hw) (wd55 hw) (wd53 hw) (wd54 hw) e6 (us := []) f7 V1 (Or.inl ⟨rfl, rfl⟩) (by decide) (by decide) (by decide) (by first | decide | exact Nat.le_of_ble_eq_true rfl) (by first | decide | exact Nat.le_of_ble_eq_true rfl) (by rfl) (by first | decide | exact Nat.le_of_ble_eq_true rfl) N0 ge_b1 (g := (mkF m 28 #[.val (.ref o0), .val (.ref o1), .val (.int (1 : Int32)), .val (.int (1 : Int32)), .val (.ref b1)] [(.int (0 : Int32)), (.int (0 : Int32)), (.ref b1), (.int (0 : Int32)), (.ref o1)])) rfl (by rw [hml]; rfl) rfl (hb hby dd_prog_23_method_8_code_28) (by decide) (W := 0) (by show 2 * 0 + _ ≤ _; exact Nat.le_of_eq rfl) (by decide)
  have Z8 : n0 ≤ h8.size := Nat.le_trans Z1 Kq8.1
  have K8 : Keep h0 h8 [] := Keep.trans K1 Kq8 (allS (Or.inr sz_b1) all0)
  have V8 : Arv Z h8 b1 _ .long (1 : Int32) [(.long (0 : Int64))] (.long (0 : Int64)) := Vq8
  obtain ⟨lfs, lhr, lhrun, lhended, lhW, lhsame⟩ := X8.leave (v := some (.ref b1)) (fun h => by rw [Bd.returns] at h; cases h)
  refine ⟨_, _, pre0 _ ?_, lhrun, lhended, _, _, rfl, ?_, ⟨_, rfl⟩, lhW, lhsame.mono (by decide) (by decide)⟩
  · skip
    show Steps p.tables e below (s₁.setTop (mkF m 0 #[.val (.ref o0), .val (.ref o1), .val (.int (1 : Int32)), .val (.int (1 : Int32)), .unset] [])) _
    refine XS.iloadN X0.here hx rfl (hb hby dd_prog_23_method_8_code_0) rfl ?_
    refine XS.iloadN X0.here hx rfl (hb hby dd_prog_23_method_8_code_1) rfl ?_
    show Steps p.tables e below (s₁.setTop (mkF m 2 #[.val (.ref o0), .val (.ref o1), .val (.int (1 : Int32)), .val (.int (1 : Int32)), .unset] [(.int (1 : Int32)), (.int (1 : Int32))])) _
    refine XS.imul X0.here hx rfl (hb hby dd_prog_23_method_8_code_2) rfl ?_
    show Steps p.tables e below (s₁.setTop (mkF m 3 #[.val (.ref o0), .val (.ref o1), .val (.int (1 : Int32)), .val (.int (1 : Int32)), .unset] [(.int (1 : Int32))])) _
    refine st1 _ ?_
    show Steps p.tables e below (T1.setTop (mkF m 5 #[.val (.ref o0), .val (.ref o1), .val (.int (1 : Int32)), .val (.int (1 : Int32)), .unset] [(.ref b1)])) _
    refine XS.astore X1.here hx rfl (hb hby dd_prog_23_method_8_code_5) rfl rfl (l' := #[.val (.ref o0), .val (.ref o1), .val (.int (1 : Int32)), .val (.int (1 : Int32)), .val (.ref b1)]) rfl ?_
    show Steps p.tables e below (T1.setTop (mkF m 7 #[.val (.ref o0), .val (.ref o1), .val (.int (1 : Int32)), .val (.int (1 : Int32)), .val (.ref b1)] [])) _
    refine XS.aloadN X1.here hx rfl (hb hby dd_prog_23_method_8_code_7) rfl rfl ?_
    refine XS.aloadN X1.here hx rfl (hb hby dd_prog_23_method_8_code_8) rfl rfl ?_
    show Steps p.tables e below (T1.setTop (mkF m 9 #[.val (.ref o0), .val (.ref o1), .val (.int (1 : Int32)), .val (.int (1 : Int32)), .val (.ref b1)] [(.ref o0), (.ref o1)])) _
    refine st3 _ ?_
    show Steps p.tables e below (T3.setTop (mkF m 12 #[.val (.ref o0), .val (.ref o1), .val (.int (1 : Int32)), .val (.int (1 : Int32)), .val (.ref b1)] [(.int (0 : Int32)), (.ref o1)])) _
    refine XS.iloadN X3.here hx rfl (hb hby dd_prog_23_method_8_code_12) rfl ?_
    refine XS.imul X3.here hx rfl (hb hby dd_prog_23_method_8_code_13) rfl ?_
    refine XS.aload X3.here hx rfl (hb hby dd_prog_23_method_8_code_14) rfl rfl ?_
    show Steps p.tables e below (T3.setTop (mkF m 16 #[.val (.ref o0), .val (.ref o1), .val (.int (1 : Int32)), .val (.int (1 : Int32)), .val (.ref b1)] [(.ref b1), (.int (0 : Int32)), (.ref o1)])) _
    refine XS.iconst X3.here hx rfl (hb hby dd_prog_23_method_8_code_16) ?_
    refine XS.aloadN X3.here hx rfl (hb hby dd_prog_23_method_8_code_17) rfl rfl ?_
    show Steps p.tables e below (T3.setTop (mkF m 18 #[.val (.ref o0), .val (.ref o1), .val (.int (1 : Int32)), .val (.int (1 : Int32)), .val (.ref b1)] [(.ref o0), (.int (0 : Int32)), (.ref b1), (.int (0 : Int32)), (.ref o1)])) _
    refine st5 _ ?_
    show Steps p.tables e below (T5.setTop (mkF m 21 #[.val (.ref o0), .val (.ref o1), .val (.int (1 : Int32)), .val (.int (1 : Int32)), .val (.ref b1)] [(.int (0 : Int32)), (.int (0 : Int32)), (.ref b1), (.int (0 : Int32)), (.ref o1)])) _
    refine XS.aloadN X5.here hx rfl (hb hby dd_prog_23_method_8_code_21) rfl rfl ?_
    show Steps p.tables e below (T5.setTop (mkF m 22 #[.val (.ref o0), .val (.ref o1), .val (.int (1 : Int32)), .val (.int (1 : Int32)), .val (.ref b1)] [(.ref o0), (.int (0 : Int32)), (.int (0 : Int32)), (.ref b1), (.int (0 : Int32)), (.ref o1)])) _
    refine st6 _ ?_
    show Steps p.tables e below (T6.setTop (mkF m 25 #[.val (.ref o0), .val (.ref o1), .val (.int (1 : Int32)), .val (.int (1 : Int32)), .val (.ref b1)] [(.int (0 : Int32)), (.int (0 : Int32)), (.int (0 : Int32)), (.ref b1), (.int (0 : Int32)), (.ref o1)])) _
    refine XS.isub X6.here hx rfl (hb hby dd_prog_23_method_8_code_25) rfl ?_
    show Steps p.tables e below (T6.setTop (mkF m 26 #[.val (.ref o0), .val (.ref o1), .val (.int (1 : Int32)), .val (.int (1 : Int32)), .val (.ref b1)] [(.int (0 : Int32)), (.int (0 : Int32)), (.ref b1), (.int (0 : Int32)), (.ref o1)])) _
    refine XS.iloadN X6.here hx rfl (hb hby dd_prog_23_method_8_code_26) rfl ?_
    refine XS.imul X6.here hx rfl (hb hby dd_prog_23_method_8_code_27) rfl ?_
    show Steps p.tables e below (T6.setTop (mkF m 28 #[.val (.ref o0), .val (.ref o1), .val (.int (1 : Int32)), .val (.int (1 : Int32)), .val (.ref b1)] [(.int (0 : Int32)), (.int (0 : Int32)), (.ref b1), (.int (0 : Int32)), (.ref o1)])) _
    refine st8 _ ?_
    show Steps p.tables e below (T8.setTop (mkF m 31 #[.val (.ref o0), .val (.ref o1), .val (.int (1 : Int32)), .val (.int (1 : Int32)), .val (.ref b1)] [])) _
    refine XS.aload X8.here hx rfl (hb hby dd_prog_23_method_8_code_31) rfl rfl ?_
    show Steps p.tables e below (T8.setTop (mkF m 33 #[.val (.ref o0), .val (.ref o1), .val (.int (1 : Int32)), .val (.int (1 : Int32)), .val (.ref b1)] [(.ref b1)])) _
    exact retOut X8 hx Bd.returns rfl (Or.inr (Or.inr (Or.inr (Or.inr ⟨rfl, rfl, rfl⟩)))) (hb hby dd_prog_23_method_8_code_33) lhr
  · skip
    show QA8 Z o0 o1 kk_o1 h0 n0 _ T8.heap _
    rw [e8]
    exact ⟨b1, _, rfl, Nq8, K8, sz_b1, V8⟩
theorem pd___JII__J : parseMethodDescriptor "([JII)[J" = some ⟨[(.array .long), .int, .int], some (.array .long)⟩ := by decide +kernel
theorem dd_prog_23_method_7_code_66 : decode prog_23_method_7_code 66 = .ok (.putfield 13, 3) := by decide +kernel
theorem dd_prog_23_method_7_code_69 : decode prog_23_method_7_code 69 = .ok (.aload_n 0, 1) := by decide +kernel
theorem dd_prog_23_method_7_code_70 : decode prog_23_method_7_code 70 = .ok (.aload_n 0, 1) := by decide +kernel
theorem dd_prog_23_method_7_code_71 : decode prog_23_method_7_code 71 = .ok (.aload_n 0, 1) := by decide +kernel
theorem dd_prog_23_method_7_code_72 : decode prog_23_method_7_code 72 = .ok (.getfield 16, 3) := by decide +kernel
theorem dd_prog_23_method_7_code_75 : decode prog_23_method_7_code 75 = .ok (.aload_n 0, 1) := by decide +kernel
theorem dd_prog_23_method_7_code_76 : decode prog_23_method_7_code 76 = .ok (.getfield 22, 3) := by decide +kernel
theorem dd_prog_23_method_7_code_79 : decode prog_23_method_7_code 79 = .ok (.iload 6, 2) := by decide +kernel
theorem dd_prog_23_method_7_code_81 : decode prog_23_method_7_code 81 = .ok (.invokevirtual 66, 3) := by decide +kernel
theorem dd_prog_23_method_7_code_84 : decode prog_23_method_7_code 84 = .ok (.putfield 16, 3) := by decide +kernel
theorem dd_prog_23_method_7_code_87 : decode prog_23_method_7_code 87 = .ok (.aload_n 0, 1) := by decide +kernel
theorem dd_prog_23_method_7_code_88 : decode prog_23_method_7_code 88 = .ok (.aload_n 0, 1) := by decide +kernel
theorem dd_prog_23_method_7_code_89 : decode prog_23_method_7_code 89 = .ok (.aload_n 0, 1) := by decide +kernel
theorem dd_prog_23_method_7_code_90 : decode prog_23_method_7_code 90 = .ok (.getfield 19, 3) := by decide +kernel
theorem dd_prog_23_method_7_code_93 : decode prog_23_method_7_code 93 = .ok (.iconst 1, 1) := by decide +kernel
theorem dd_prog_23_method_7_code_94 : decode prog_23_method_7_code 94 = .ok (.iload 6, 2) := by decide +kernel
theorem dd_prog_23_method_7_code_96 : decode prog_23_method_7_code 96 = .ok (.invokevirtual 66, 3) := by decide +kernel
theorem dd_prog_23_method_7_code_99 : decode prog_23_method_7_code 99 = .ok (.putfield 19, 3) := by decide +kernel
theorem dd_prog_23_method_7_code_102 : decode prog_23_method_7_code 102 = .ok (.iload 4, 2) := by decide +kernel
theorem dd_prog_23_method_7_code_104 : decode prog_23_method_7_code 104 = .ok (.aload_n 0, 1) := by decide +kernel
theorem dd_prog_23_method_7_code_105 : decode prog_23_method_7_code 105 = .ok (.getfield 26, 3) := by decide +kernel
theorem dd_prog_23_method_7_code_108 : decode prog_23_method_7_code 108 = .ok (.isub, 1) := by decide +kernel
theorem dd_prog_23_method_7_code_109 : decode prog_23_method_7_code 109 = .ok (.istore 4, 2) := by decide +kernel
theorem dd_prog_23_method_7_code_111 : decode prog_23_method_7_code 111 = .ok (.aload_n 0, 1) := by decide +kernel
theorem dd_prog_23_method_7_code_112 : decode prog_23_method_7_code 112 = .ok (.iconst 0, 1) := by decide +kernel
theorem dd_prog_23_method_7_code_113 : decode prog_23_method_7_code 113 = .ok (.putfield 26, 3) := by decide +kernel
theorem dd_prog_23_method_7_code_116 : decode prog_23_method_7_code 116 = .ok (.aload_n 0, 1) := by decide +kernel
theorem dd_prog_23_method_7_code_117 : decode prog_23_method_7_code 117 = .ok (.iload 5, 2) := by decide +kernel
theorem dd_prog_23_method_7_code_119 : decode prog_23_method_7_code 119 = .ok (.putfield 29, 3) := by decide +kernel
theorem dd_prog_23_method_7_code_122 : decode prog_23_method_7_code 122 = .ok (.aload_n 0, 1) := by decide +kernel
theorem dd_prog_23_method_7_code_123 : decode prog_23_method_7_code 123 = .ok (.getfield 13, 3) := by decide +kernel
theorem dd_prog_23_method_7_code_126 : decode prog_23_method_7_code 126 = .ok (.iload 4, 2) := by decide +kernel
theorem dd_prog_23_method_7_code_128 : decode prog_23_method_7_code 128 = .ok (.aload_n 0, 1) := by decide +kernel
theorem dd_prog_23_method_7_code_129 : decode prog_23_method_7_code 129 = .ok (.getfield 13, 3) := by decide +kernel
theorem dd_prog_23_method_7_code_132 : decode prog_23_method_7_code 132 = .ok (.iload 4, 2) := by decide +kernel
theorem dd_prog_23_method_7_code_134 : decode prog_23_method_7_code 134 = .ok (.iconst 1, 1) := by decide +kernel
theorem dd_prog_23_method_7_code_135 : decode prog_23_method_7_code 135 = .ok (.iadd, 1) := by decide +kernel
theorem dd_prog_23_method_7_code_136 : decode prog_23_method_7_code 136 = .ok (.aload_n 0, 1) := by decide +kernel
theorem dd_prog_23_method_7_code_137 : decode prog_23_method_7_code 137 = .ok (.getfield 29, 3) := by decide +kernel
theorem dd_prog_23_method_7_code_140 : decode prog_23_method_7_code 140 = .ok (.iload 4, 2) := by decide +kernel
theorem dd_prog_23_method_7_code_142 : decode prog_23_method_7_code 142 = .ok (.isub, 1) := by decide +kernel
theorem dd_prog_23_method_7_code_143 : decode prog_23_method_7_code 143 = .ok (.invokestatic 54, 3) := by decide +kernel
theorem dd_prog_23_method_7_code_146 : decode prog_23_method_7_code 146 = .ok (.aload_n 0, 1) := by decide +kernel
theorem dd_prog_23_method_7_code_147 : decode prog_23_method_7_code 147 = .ok (.getfield 16, 3) := by decide +kernel
theorem dd_prog_23_method_7_code_150 : decode prog_23_method_7_code 150 = .ok (.iload 4, 2) := by decide +kernel
theorem dd_prog_23_method_7_code_152 : decode prog_23_method_7_code 152 = .ok (.aload_n 0, 1) := by decide +kernel
theorem dd_prog_23_method_7_code_153 : decode prog_23_method_7_code 153 = .ok (.getfield 22, 3) := by decide +kernel
theorem dd_prog_23_method_7_code_156 : decode prog_23_method_7_code 156 = .ok (.imul, 1) := by decide +kernel
theorem dd_prog_23_method_7_code_157 : decode prog_23_method_7_code 157 = .ok (.aload_n 0, 1) := by decide +kernel
theorem dd_prog_23_method_7_code_158 : decode prog_23_method_7_code 158 = .ok (.getfield 16, 3) := by decide +kernel
theorem dd_prog_23_method_7_code_161 : decode prog_23_method_7_code 161 = .ok (.iload 4, 2) := by decide +kernel
theorem dd_prog_23_method_7_code_163 : decode prog_23_method_7_code 163 = .ok (.iconst 1, 1) := by decide +kernel
theorem dd_prog_23_method_7_code_164 : decode prog_23_method_7_code 164 = .ok (.iadd, 1) := by decide +kernel
theorem dd_prog_23_method_7_code_165 : decode prog_23_method_7_code 165 = .ok (.aload_n 0, 1) := by decide +kernel
theorem dd_prog_23_method_7_code_166 : decode prog_23_method_7_code 166 = .ok (.getfield 22, 3) := by decide +kernel
theorem dd_prog_23_method_7_code_169 : decode prog_23_method_7_code 169 = .ok (.imul, 1) := by decide +kernel
theorem dd_prog_23_method_7_code_170 : decode prog_23_method_7_code 170 = .ok (.aload_n 0, 1) := by decide +kernel
theorem dd_prog_23_method_7_code_171 : decode prog_23_method_7_code 171 = .ok (.getfield 29, 3) := by decide +kernel
theorem dd_prog_23_method_7_code_174 : decode prog_23_method_7_code 174 = .ok (.iload 4, 2) := by decide +kernel
theorem dd_prog_23_method_7_code_176 : decode prog_23_method_7_code 176 = .ok (.isub, 1) := by decide +kernel
theorem dd_prog_23_method_7_code_177 : decode prog_23_method_7_code 177 = .ok (.aload_n 0, 1) := by decide +kernel
theorem dd_prog_23_method_7_code_178 : decode prog_23_method_7_code 178 = .ok (.getfield 22, 3) := by decide +kernel
theorem dd_prog_23_method_7_code_181 : decode prog_23_method_7_code 181 = .ok (.imul, 1) := by decide +kernel
theorem dd_prog_23_method_7_code_182 : decode prog_23_method_7_code 182 = .ok (.invokestatic 54, 3) := by decide +kernel
theorem dd_prog_23_method_7_code_185 : decode prog_23_method_7_code 185 = .ok (.aload_n 0, 1) := by decide +kernel
theorem dd_prog_23_method_7_code_186 : decode prog_23_method_7_code 186 = .ok (.getfield 19, 3) := by decide +kernel
theorem dd_prog_23_method_7_code_189 : decode prog_23_method_7_code 189 = .ok (.iload 4, 2) := by decide +kernel
theorem dd_prog_23_method_7_code_191 : decode prog_23_method_7_code 191 = .ok (.aload_n 0, 1) := by decide +kernel
theorem dd_prog_23_method_7_code_192 : decode prog_23_method_7_code 192 = .ok (.getfield 19, 3) := by decide +kernel
theorem dd_prog_23_method_7_code_195 : decode prog_23_method_7_code 195 = .ok (.iload 4, 2) := by decide +kernel
theorem dd_prog_23_method_7_code_197 : decode prog_23_method_7_code 197 = .ok (.iconst 1, 1) := by decide +kernel
theorem dd_prog_23_method_7_code_198 : decode prog_23_method_7_code 198 = .ok (.iadd, 1) := by decide +kernel
theorem dd_prog_23_method_7_code_199 : decode prog_23_method_7_code 199 = .ok (.aload_n 0, 1) := by decide +kernel
theorem dd_prog_23_method_7_code_200 : decode prog_23_method_7_code 200 = .ok (.getfield 29, 3) := by decide +kernel
theorem dd_prog_23_method_7_code_203 : decode prog_23_method_7_code 203 = .ok (.iload 4, 2) := by decide +kernel
theorem dd_prog_23_method_7_code_205 : decode prog_23_method_7_code 205 = .ok (.isub, 1) := by decide +kernel
theorem dd_prog_23_method_7_code_206 : decode prog_23_method_7_code 206 = .ok (.invokestatic 54, 3) := by decide +kernel
theorem dd_prog_23_method_7_code_209 : decode prog_23_method_7_code 209 = .ok (.aload_n 0, 1) := by decide +kernel
theorem dd_prog_23_method_7_code_210 : decode prog_23_method_7_code 210 = .ok (.getfield 13, 3) := by decide +kernel
theorem dd_prog_23_method_7_code_213 : decode prog_23_method_7_code 213 = .ok (.iload 4, 2) := by decide +kernel
theorem dd_prog_23_method_7_code_215 : decode prog_23_method_7_code 215 = .ok (.lload_n 2, 1) := by decide +kernel
theorem dd_prog_23_method_7_code_216 : decode prog_23_method_7_code 216 = .ok (.lastore, 1) := by decide +kernel
theorem dd_prog_23_method_7_code_217 : decode prog_23_method_7_code 217 = .ok (.aload_n 0, 1) := by decide +kernel
theorem dd_prog_23_method_7_code_218 : decode prog_23_method_7_code 218 = .ok (.getfield 16, 3) := by decide +kernel
theorem dd_prog_23_method_7_code_221 : decode prog_23_method_7_code 221 = .ok (.iload 4, 2) := by decide +kernel
theorem dd_prog_23_method_7_code_223 : decode prog_23_method_7_code 223 = .ok (.aload_n 0, 1) := by decide +kernel
theorem dd_prog_23_method_7_code_224 : decode prog_23_method_7_code 224 = .ok (.getfield 22, 3) := by decide +kernel
theorem dd_prog_23_method_7_code_227 : decode prog_23_method_7_code 227 = .ok (.imul, 1) := by decide +kernel
theorem dd_prog_23_method_7_code_228 : decode prog_23_method_7_code 228 = .ok (.iload 4, 2) := by decide +kernel
theorem dd_prog_23_method_7_code_230 : decode prog_23_method_7_code 230 = .ok (.iconst 1, 1) := by decide +kernel
theorem dd_prog_23_method_7_code_231 : decode prog_23_method_7_code 231 = .ok (.iadd, 1) := by decide +kernel
theorem dd_prog_23_method_7_code_232 : decode prog_23_method_7_code 232 = .ok (.aload_n 0, 1) := by decide +kernel
theorem dd_prog_23_method_7_code_233 : decode prog_23_method_7_code 233 = .ok (.getfield 22, 3) := by decide +kernel
theorem dd_prog_23_method_7_code_236 : decode prog_23_method_7_code 236 = .ok (.imul, 1) := by decide +kernel
theorem dd_prog_23_method_7_code_237 : decode prog_23_method_7_code 237 = .ok (.lconst 0, 1) := by decide +kernel
theorem dd_prog_23_method_7_code_238 : decode prog_23_method_7_code 238 = .ok (.invokestatic 70, 3) := by decide +kernel
theorem efa_jdk_65_method_102_code_vvvv (m : MethodId) (x0 : Addr) (x1 : Int32) (x2 : Int32) (x3 : Int64) : entryFrame m #[(.ref x0), (.int x1), (.int x2), (.long x3)] 6 = mkF m 0 #[.val (.ref x0), .val (.int x1), .val (.int x2), .val (.long x3), .second, .unset] [] := by first | (simp [entryFrame, mkF, argsToLocals, Value.category]; done) | rfl
theorem dd_jdk_65_method_102_code_0 : decode jdk_65_method_102_code 0 = .ok (.aload_n 0, 1) := by decide +kernel
theorem dd_jdk_65_method_102_code_1 : decode jdk_65_method_102_code 1 = .ok (.arraylength, 1) := by decide +kernel
theorem dd_jdk_65_method_102_code_2 : decode jdk_65_method_102_code 2 = .ok (.iload_n 1, 1) := by decide +kernel
theorem dd_jdk_65_method_102_code_3 : decode jdk_65_method_102_code 3 = .ok (.iload_n 2, 1) := by decide +kernel
theorem dd_jdk_65_method_102_code_4 : decode jdk_65_method_102_code 4 = .ok (.invokestatic 13, 3) := by decide +kernel
def QA12 (Z : State)  (h0 : Heap) (n0 : Nat) (v : Option Value) (h : Heap) (L : List Loc) : Prop := v = none ∧ Fr n0 L ∧ h = h0
set_option maxRecDepth 65536 in
set_option maxHeartbeats 40000000 in
theorem rmA12 (l : Launch) (Z : State) (a0 : Array Value) (hw : ∀ d ∈ tables_1, d.before a0 Z = true) (ws : List Jvm.Cond)  (h0 : Heap) (n0 : Nat) (Z0 : n0 ≤ h0.size) :
    MetFree l mn12 (head1 (Jvm.Cond.code mn12 jdk_65_method_30_code 3 none :: ws) ({ frames := 0, cells := 0, slots := 0, locals := 0 } : Room)) (fun a U => a = #[(.int (1 : Int32)), (.int (0 : Int32)), (.int (1 : Int32))] ∧ Z.Warmed39 U.vm ∧ U.heap = h0) (fun _ _ _ _ _ => True) (fun _ U oc_ U' => ∃ v L, oc_ = .returned v ∧ QA12 Z  h0 n0 v U'.heap L ∧ FrameEnd U oc_ U' L ({ frames := 0, cells := 0, slots := 0, locals := 0 } : Room).cells ({ frames := 0, cells := 0, slots := 0, locals := 0 } : Room).slots) := by
  refine MetFree.of_bodySF (plainFor_of_name pn_java_util_Arrays) hisR ?_
  intro p e s m args below meth c s₁ Bd hml0 hP hK
  obtain ⟨rfl, hZ, hh⟩ := hP
  have hx := Bd.exec
  have hby := Bd.bytes
  have hml : c.maxLocals = 3 := hml0
  have hown : s.vm.findClass "java/util/Arrays" = some m.cls := findClass_of_methodNamed Bd.named
  have hnm := (name_of_methodNamed Bd.named Bd.method).1
  have X0 : Stand p l e ({ frames := 0, cells := 0, slots := 0, locals := 0 } : Room) s m #[(.int (1 : Int32)), (.int (0 : Int32)), (.int (1 : Int32))] below meth c s₁ [] 0 0 := Stand.of_body Bd
  have e0 : s₁.heap = h0 := by rw [← hh, Bd.state]; rfl
  have N0 := Fr.nil n0
  have pre0 : ∀ t, Steps p.tables e below (s₁.setTop (mkF m 0 #[.val (.int (1 : Int32)), .val (.int (0 : Int32)), .val (.int (1 : Int32))] [])) t → Steps p.tables e below (s₁.setTop (entryFrame m #[(.int (1 : Int32)), (.int (0 : Int32)), (.int (1 : Int32))] 3)) t := fun t k => castTop (efa_jdk_65_method_30_code_vvv m (1 : Int32) (0 : Int32) (1 : Int32)) k
  obtain ⟨lfs, lhr, lhrun, lhended, lhW, lhsame⟩ := X0.leave (v := none) (fun _ => rfl)
  refine ⟨_, _, pre0 _ ?_, lhrun, lhended, _, _, rfl, ?_, ⟨_, rfl⟩, lhW, lhsame.mono (by decide) (by decide)⟩
  · skip
    show Steps p.tables e below (s₁.setTop (mkF m 0 #[.val (.int (1 : Int32)), .val (.int (0 : Int32)), .val (.int (1 : Int32))] [])) _
    refine XS.iloadN X0.here hx rfl (hb hby dd_jdk_65_method_30_code_0) rfl ?_
    refine XS.iloadN X0.here hx rfl (hb hby dd_jdk_65_method_30_code_1) rfl ?_
    show Steps p.tables e below (s₁.setTop (mkF m 2 #[.val (.int (1 : Int32)), .val (.int (0 : Int32)), .val (.int (1 : Int32))] [(.int (1 : Int32)), (.int (0 : Int32))])) _
    refine XS.icmpYes X0.here hx rfl (pc0 := 2) (pc' := 46) rfl (hb hby dd_jdk_65_method_30_code_2) rfl (flt (by decide : ¬ ((1 : Int32) < (0 : Int32)))).2.2.2 (by decide) (by decide) ?_
    refine XS.iloadN X0.here hx rfl (hb hby dd_jdk_65_method_30_code_46) rfl ?_
    refine XS.ifYes X0.here hx rfl (pc0 := 47) (pc' := 59) rfl (hb hby dd_jdk_65_method_30_code_47) rfl ((if0 _ _).trans (flt (by decide : ¬ ((0 : Int32) < (0 : Int32)))).2.1) (by decide) (by decide) ?_
    show Steps p.tables e below (s₁.setTop (mkF m 59 #[.val (.int (1 : Int32)), .val (.int (0 : Int32)), .val (.int (1 : Int32))] [])) _
    refine XS.iloadN X0.here hx rfl (hb hby dd_jdk_65_method_30_code_59) rfl ?_
    refine XS.iloadN X0.here hx rfl (hb hby dd_jdk_65_method_30_code_60) rfl ?_
    refine XS.icmpYes X0.here hx rfl (pc0 := 61) (pc' := 73) rfl (hb hby dd_jdk_65_method_30_code_61) rfl (flt (by decide : ¬ ((1 : Int32) < (1 : Int32)))).2.2.2 (by decide) (by decide) ?_
    show Steps p.tables e below (s₁.setTop (mkF m 73 #[.val (.int (1 : Int32)), .val (.int (0 : Int32)), .val (.int (1 : Int32))] [])) _
    exact X0.returnOut hx Bd.returns (hb hby dd_jdk_65_method_30_code_73) lhr
  · skip
    show QA12 Z  h0 n0 _ s₁.heap _
    rw [e0]
    exact ⟨rfl, N0, rfl⟩
theorem dd_jdk_65_method_102_code_7 : decode jdk_65_method_102_code 7 = .ok (.iload_n 1, 1) := by decide +kernel
theorem dd_jdk_65_method_102_code_8 : decode jdk_65_method_102_code 8 = .ok (.istore 5, 2) := by decide +kernel
theorem dd_jdk_65_method_102_code_10 : decode jdk_65_method_102_code 10 = .ok (.iload 5, 2) := by decide +kernel
theorem dd_jdk_65_method_102_code_12 : decode jdk_65_method_102_code 12 = .ok (.iload_n 2, 1) := by decide +kernel
theorem dd_jdk_65_method_102_code_13 : decode jdk_65_method_102_code 13 = .ok (.if_icmp .ge 14, 3) := by decide +kernel
theorem dd_jdk_65_method_102_code_16 : decode jdk_65_method_102_code 16 = .ok (.aload_n 0, 1) := by decide +kernel
theorem dd_jdk_65_method_102_code_17 : decode jdk_65_method_102_code 17 = .ok (.iload 5, 2) := by decide +kernel
theorem dd_jdk_65_method_102_code_19 : decode jdk_65_method_102_code 19 = .ok (.lload_n 3, 1) := by decide +kernel
theorem dd_jdk_65_method_102_code_20 : decode jdk_65_method_102_code 20 = .ok (.lastore, 1) := by decide +kernel
theorem dd_jdk_65_method_102_code_21 : decode jdk_65_method_102_code 21 = .ok (.iinc 5 1, 3) := by decide +kernel
theorem dd_jdk_65_method_102_code_24 : decode jdk_65_method_102_code 24 = .ok (.goto (-14), 3) := by decide +kernel
theorem dd_jdk_65_method_102_code_27 : decode jdk_65_method_102_code 27 = .ok (.return_, 1) := by decide +kernel
def QA11 (Z : State) (o0 : Addr) (kk_o0 : ClassId) (h0 : Heap) (n0 : Nat) (v : Option Value) (h : Heap) (L : List Loc) : Prop := v = none ∧ Fr n0 L ∧ Keep h0 h [o0] ∧ Arv Z h o0 kk_o0 .long (1 : Int32) [(.long (0 : Int64))] (.long (0 : Int64))
set_option maxRecDepth 65536 in
set_option maxHeartbeats 40000000 in
theorem rmA11 (l : Launch) (Z : State) (a0 : Array Value) (hw : ∀ d ∈ tables_1, d.before a0 Z = true) (ws : List Jvm.Cond) (o0 : Addr) (kk_o0 : ClassId) (h0 : Heap) (n0 : Nat) (Z0 : n0 ≤ h0.size) (V_o0 : Arv Z h0 o0 kk_o0 .long (1 : Int32) [(.long (0 : Int64))] (.long (0 : Int64))) (g_o0 : n0 ≤ o0) :
    MetFree l mn11 (head1 (Jvm.Cond.code mn11 jdk_65_method_102_code 6 none :: ws) ({ frames := 1, cells := 0, slots := 0, locals := 14 } : Room)) (fun a U => a = #[(.ref o0), (.int (0 : Int32)), (.int (1 : Int32)), (.long (0 : Int64))] ∧ Z.Warmed39 U.vm ∧ U.heap = h0) (fun _ _ _ _ _ => True) (fun _ U oc_ U' => ∃ v L, oc_ = .returned v ∧ QA11 Z o0 kk_o0 h0 n0 v U'.heap L ∧ FrameEnd U oc_ U' L ({ frames := 1, cells := 0, slots := 0, locals := 14 } : Room).cells ({ frames := 1, cells := 0, slots := 0, locals := 14 } : Room).slots) := by
  refine MetFree.of_bodySF (plainFor_of_name pn_java_util_Arrays) hisR ?_
  intro p e s m args below meth c s₁ Bd hml0 hP hK
  obtain ⟨rfl, hZ, hh⟩ := hP
  have hx := Bd.exec
  have hby := Bd.bytes
  have hml : c.maxLocals = 6 := hml0
  have hown : s.vm.findClass "java/util/Arrays" = some m.cls := findClass_of_methodNamed Bd.named
  have hnm := (name_of_methodNamed Bd.named Bd.method).1
  have X0 : Stand p l e ({ frames := 1, cells := 0, slots := 0, locals := 14 } : Room) s m #[(.ref o0), (.int (0 : Int32)), (.int (1 : Int32)), (.long (0 : Int64))] below meth c s₁ [] 0 0 := Stand.of_body Bd
  have e0 : s₁.heap = h0 := by rw [← hh, Bd.state]; rfl
  have N0 := Fr.nil n0
  have pre0 : ∀ t, Steps p.tables e below (s₁.setTop (mkF m 0 #[.val (.ref o0), .val (.int (0 : Int32)), .val (.int (1 : Int32)), .val (.long (0 : Int64)), .second, .unset] [])) t → Steps p.tables e below (s₁.setTop (entryFrame m #[(.ref o0), (.int (0 : Int32)), (.int (1 : Int32)), (.long (0 : Int64))] 6)) t := fun t k => castTop (efa_jdk_65_method_102_code_vvvv m o0 (0 : Int32) (1 : Int32) (0 : Int64)) k
  obtain ⟨cl1, Ar1, -, S1, M1, -, -⟩ := id V_o0
  obtain ⟨_, _, ⟨T2, L2, kc2, ks2⟩, -, X2, ⟨Lc2, hQ2, l2, y2, z2⟩, st2⟩ := Jvm.LawKit.callS X0 hx (y := mn12) hown (mvT hZ (wd33 hw)) (mvT hZ (wd34 hw)) (mvT hZ (wd31 hw)) (mvT hZ (wd35 hw)) (by decide) (backOf (W := 0) (rmA12 l Z a0 hw []  h0 n0 Z0 ) hZ (wd35 hw) (wd31 hw) (by decide) (by decide)) (g := (mkF m 4 #[.val (.ref o0), .val (.int (0 : Int32)), .val (.int (1 : Int32)), .val (.long (0 : Int64)), .second, .unset] [(.int (1 : Int32)), (.int (0 : Int32)), (.int (1 : Int32))])) rfl (by rw [hml]; rfl) (argsL := [(.int (1 : Int32)), (.int (0 : Int32)), (.int (1 : Int32))]) (rest := []) (lenOf pd__III_V rfl) rfl (by show 2 * 0 + _ ≤ _; exact Nat.le_of_eq rfl) (hb hby dd_jdk_65_method_102_code_4) (fun _ _ => ⟨rfl, e0, (by decide : 0 + 0 ≤ _), (by decide : 0 + 0 ≤ _)⟩)
  dsimp only [Pt.U, Pt.locs, Pt.cells, Pt.slots] at X2 l2 y2 z2 st2 hQ2
  subst l2 y2 z2
  obtain ⟨rfl, Nq2, eq2⟩ := hQ2
  have N2 := Fr.app N0 Nq2
  obtain ⟨cl3, Ar3, q3, S3, M3, HH3, GG3⟩ := id V_o0
  have hin3 : ¬ ((0 : Int32) < 0 ∨ cl3.slots.size ≤ ((0 : Int32)).toNatClampNeg) := inb_of S3 ⟨by decide, by decide⟩
  obtain ⟨T4, h4, X4, e4, W4, st4⟩ := stJ X2 hx hZ eq2 Ar3 (j := (0 : Int32)) hin3 (g := (mkF m 20 #[.val (.ref o0), .val (.int (0 : Int32)), .val (.int (1 : Int32)), .val (.long (0 : Int64)), .second, .val (.int (0 : Int32))] [(.long (0 : Int64)), (.int (0 : Int32)), (.ref o0)])) rfl rfl (hb hby dd_jdk_65_method_102_code_20)
  have N4 := Fr.snoc X4 N2 g_o0
  have Z4 : n0 ≤ h4.size := by rw [W4.size]; exact Z0
  have K4 : Keep h0 h4 [o0] := ((Keep.refl h0 [o0]).wr W4 (Or.inl (List.mem_of_getElem? (i := 0) rfl)))
  have V4 := Arv.set Ar3 q3 S3 M3 HH3 GG3 rfl W4 0 rfl (Nat.le_of_ble_eq_true rfl)
  obtain ⟨lfs, lhr, lhrun, lhended, lhW, lhsame⟩ := X4.leave (v := none) (fun _ => rfl)
  refine ⟨_, _, pre0 _ ?_, lhrun, lhended, _, _, rfl, ?_, ⟨_, rfl⟩, lhW, lhsame.mono (by decide) (by decide)⟩
  · skip
    show Steps p.tables e below (s₁.setTop (mkF m 0 #[.val (.ref o0), .val (.int (0 : Int32)), .val (.int (1 : Int32)), .val (.long (0 : Int64)), .second, .unset] [])) _
    refine XS.aloadN X0.here hx rfl (hb hby dd_jdk_65_method_102_code_0) rfl rfl ?_
    refine X0.arraylength hx (by (try rw [e0]); exact Ar1.1) (State.isArrayOf_alike hZ.alike Ar1.2.1) (g := (mkF m 1 #[.val (.ref o0), .val (.int (0 : Int32)), .val (.int (1 : Int32)), .val (.long (0 : Int64)), .second, .unset] [(.ref o0)])) rfl rfl (hb hby dd_jdk_65_method_102_code_1) _ ?_
    rw [len_of S1 M1]
    show Steps p.tables e below (s₁.setTop (mkF m 2 #[.val (.ref o0), .val (.int (0 : Int32)), .val (.int (1 : Int32)), .val (.long (0 : Int64)), .second, .unset] [(.int (1 : Int32))])) _
    refine XS.iloadN X0.here hx rfl (hb hby dd_jdk_65_method_102_code_2) rfl ?_
    refine XS.iloadN X0.here hx rfl (hb hby dd_jdk_65_method_102_code_3) rfl ?_
    show Steps p.tables e below (s₁.setTop (mkF m 4 #[.val (.ref o0), .val (.int (0 : Int32)), .val (.int (1 : Int32)), .val (.long (0 : Int64)), .second, .unset] [(.int (1 : Int32)), (.int (0 : Int32)), (.int (1 : Int32))])) _
    refine st2 _ ?_
    show Steps p.tables e below (T2.setTop (mkF m 7 #[.val (.ref o0), .val (.int (0 : Int32)), .val (.int (1 : Int32)), .val (.long (0 : Int64)), .second, .unset] [])) _
    refine XS.iloadN X2.here hx rfl (hb hby dd_jdk_65_method_102_code_7) rfl ?_
    refine XS.istore X2.here hx rfl (hb hby dd_jdk_65_method_102_code_8) rfl (l' := #[.val (.ref o0), .val (.int (0 : Int32)), .val (.int (1 : Int32)), .val (.long (0 : Int64)), .second, .val (.int (0 : Int32))]) rfl ?_
    refine XS.iload X2.here hx rfl (hb hby dd_jdk_65_method_102_code_10) rfl ?_
    show Steps p.tables e below (T2.setTop (mkF m 12 #[.val (.ref o0), .val (.int (0 : Int32)), .val (.int (1 : Int32)), .val (.long (0 : Int64)), .second, .val (.int (0 : Int32))] [(.int (0 : Int32))])) _
    refine XS.iloadN X2.here hx rfl (hb hby dd_jdk_65_method_102_code_12) rfl ?_
    refine XS.icmpNo X2.here hx rfl (hb hby dd_jdk_65_method_102_code_13) rfl (tlt (by decide : (0 : Int32) < (1 : Int32))).2.1 ?_
    refine XS.aloadN X2.here hx rfl (hb hby dd_jdk_65_method_102_code_16) rfl rfl ?_
    show Steps p.tables e below (T2.setTop (mkF m 17 #[.val (.ref o0), .val (.int (0 : Int32)), .val (.int (1 : Int32)), .val (.long (0 : Int64)), .second, .val (.int (0 : Int32))] [(.ref o0)])) _
    refine XS.iload X2.here hx rfl (hb hby dd_jdk_65_method_102_code_17) rfl ?_
    refine XS.lloadN X2.here hx rfl (hb hby dd_jdk_65_method_102_code_19) rfl ?_
    show Steps p.tables e below (T2.setTop (mkF m 20 #[.val (.ref o0), .val (.int (0 : Int32)), .val (.int (1 : Int32)), .val (.long (0 : Int64)), .second, .val (.int (0 : Int32))] [(.long (0 : Int64)), (.int (0 : Int32)), (.ref o0)])) _
    refine st4 _ ?_
    show Steps p.tables e below (T4.setTop (mkF m 21 #[.val (.ref o0), .val (.int (0 : Int32)), .val (.int (1 : Int32)), .val (.long (0 : Int64)), .second, .val (.int (0 : Int32))] [])) _
    refine XS.iinc X4.here hx rfl (hb hby dd_jdk_65_method_102_code_21) rfl (l' := #[.val (.ref o0), .val (.int (0 : Int32)), .val (.int (1 : Int32)), .val (.long (0 : Int64)), .second, .val (.int (1 : Int32))]) rfl ?_
    refine XS.goto X4.here hx rfl (pc0 := 24) (pc' := 10) rfl (hb hby dd_jdk_65_method_102_code_24) (by decide) (by decide) ?_
    refine XS.iload X4.here hx rfl (hb hby dd_jdk_65_method_102_code_10) rfl ?_
    show Steps p.tables e below (T4.setTop (mkF m 12 #[.val (.ref o0), .val (.int (0 : Int32)), .val (.int (1 : Int32)), .val (.long (0 : Int64)), .second, .val (.int (1 : Int32))] [(.int (1 : Int32))])) _
    refine XS.iloadN X4.here hx rfl (hb hby dd_jdk_65_method_102_code_12) rfl ?_
    refine XS.icmpYes X4.here hx rfl (pc0 := 13) (pc' := 27) rfl (hb hby dd_jdk_65_method_102_code_13) rfl (flt (by decide : ¬ ((1 : Int32) < (1 : Int32)))).2.1 (by decide) (by decide) ?_
    show Steps p.tables e below (T4.setTop (mkF m 27 #[.val (.ref o0), .val (.int (0 : Int32)), .val (.int (1 : Int32)), .val (.long (0 : Int64)), .second, .val (.int (1 : Int32))] [])) _
    exact X4.returnOut hx Bd.returns (hb hby dd_jdk_65_method_102_code_27) lhr
  · skip
    show QA11 Z o0 kk_o0 h0 n0 _ T4.heap _
    rw [e4]
    exact ⟨rfl, N4, K4, V4⟩
theorem pd___JIIJ_V : parseMethodDescriptor "([JIIJ)V" = some ⟨[(.array .long), .int, .int, .long], none⟩ := by decide +kernel
theorem dd_prog_23_method_7_code_241 : decode prog_23_method_7_code 241 = .ok (.aload_n 0, 1) := by decide +kernel
theorem dd_prog_23_method_7_code_242 : decode prog_23_method_7_code 242 = .ok (.dup, 1) := by decide +kernel
theorem dd_prog_23_method_7_code_243 : decode prog_23_method_7_code 243 = .ok (.getfield 29, 3) := by decide +kernel
theorem dd_prog_23_method_7_code_246 : decode prog_23_method_7_code 246 = .ok (.iconst 1, 1) := by decide +kernel
theorem dd_prog_23_method_7_code_247 : decode prog_23_method_7_code 247 = .ok (.iadd, 1) := by decide +kernel
theorem dd_prog_23_method_7_code_248 : decode prog_23_method_7_code 248 = .ok (.putfield 29, 3) := by decide +kernel
theorem dd_prog_23_method_7_code_251 : decode prog_23_method_7_code 251 = .ok (.iload 4, 2) := by decide +kernel
theorem dd_prog_23_method_7_code_253 : decode prog_23_method_7_code 253 = .ok (.ireturn, 1) := by decide +kernel
def QA6 (Z : State) (o0 : Addr) (y1 : Int64) (o2 : Addr) (kk_o2 : ClassId) (h0 : Heap) (n0 : Nat) (v : Option Value) (h : Heap) (L : List Loc) : Prop := ∃ (b10_0 : Addr) (b22_0 : Addr) (b34_0 : Addr) (kk_b10_0 : ClassId) (kk_b22_0 : ClassId) (kk_b34_0 : ClassId), v = some (.int (0 : Int32)) ∧ Fr n0 L ∧ Keep h0 h [o0] ∧ h0.size ≤ b10_0 ∧ h0.size ≤ b22_0 ∧ h0.size ≤ b34_0 ∧ b10_0 ≠ b22_0 ∧ b10_0 ≠ b34_0 ∧ b22_0 ≠ b34_0 ∧ Fld Z h o0 cn2 "end" "I" (.int (1 : Int32)) ∧ Fld Z h o0 cn2 "starts" "[J" (.ref b10_0) ∧ Fld Z h o0 cn2 "first" "I" (.int (0 : Int32)) ∧ Exa Z h o0 cn2 ∧ Arv Z h b10_0 kk_b10_0 .long (1 : Int32) [(.long y1)] (.long (0 : Int64)) ∧ Fld Z h o0 cn2 "records" "[J" (.ref b22_0) ∧ Fld Z h o0 cn2 "width" "I" (.int (1 : Int32)) ∧ Arv Z h b22_0 kk_b22_0 .long (1 : Int32) [(.long (0 : Int64))] (.long (0 : Int64)) ∧ Fld Z h o0 cn2 "decidedAt" "[J" (.ref b34_0) ∧ Arv Z h b34_0 kk_b34_0 .long (1 : Int32) [(.long (0 : Int64))] (.long (0 : Int64))
set_option maxRecDepth 65536 in
set_option maxHeartbeats 40000000 in
theorem rmA6 (l : Launch) (Z : State) (a0 : Array Value) (hw : ∀ d ∈ tables_1, d.before a0 Z = true) (ws : List Jvm.Cond) (o0 : Addr) (y1 : Int64) (o2 : Addr) (kk_o2 : ClassId) (h0 : Heap) (n0 : Nat) (Z0 : n0 ≤ h0.size) (F_o0_end : Fld Z h0 o0 cn2 "end" "I" (.int (0 : Int32))) (F_o0_starts : Fld Z h0 o0 cn2 "starts" "[J" (.ref o2)) (V_o2 : Arv Z h0 o2 kk_o2 .long (0 : Int32) [] (.long (0 : Int64))) (F_o0_first : Fld Z h0 o0 cn2 "first" "I" (.int (0 : Int32))) (E_o0 : Exa Z h0 o0 cn2) (g_o0 : n0 ≤ o0) (F_o0_records : Fld Z h0 o0 cn2 "records" "[J" (.ref o2)) (F_o0_width : Fld Z h0 o0 cn2 "width" "I" (.int (1 : Int32))) (ne_o2_o0 : o2 ≠ o0) (F_o0_decidedAt : Fld Z h0 o0 cn2 "decidedAt" "[J" (.ref o2)) :
    MetFree l mn5 (head1 (Jvm.Cond.code mn5 prog_23_method_7_code 7 (some .int) :: ws) ({ frames := 2, cells := 3, slots := 3, locals := 53 } : Room)) (fun a U => a = #[(.ref o0), (.int (0 : Int32)), (.long y1)] ∧ Z.Warmed39 U.vm ∧ U.heap = h0) (fun _ _ _ _ _ => True) (fun _ U oc_ U' => ∃ v L, oc_ = .returned v ∧ QA6 Z o0 y1 o2 kk_o2 h0 n0 v U'.heap L ∧ FrameEnd U oc_ U' L ({ frames := 2, cells := 3, slots := 3, locals := 53 } : Room).cells ({ frames := 2, cells := 3, slots := 3, locals := 53 } : Room).slots) := by
  refine MetFree.of_bodySF (plainFor_of_name pn_com_example_strict_limiter_strictlimiter_KeptWindows) hisR ?_
  intro p e s m args below meth c s₁ Bd hml0 hP hK
  obtain ⟨rfl, hZ, hh⟩ := hP
  have hx := Bd.exec
  have hby := Bd.bytes
  have hml : c.maxLocals = 7 := hml0
  have hown : s.vm.findClass cn2 = some m.cls := findClass_of_methodNamed Bd.named
  have hnm := (name_of_methodNamed Bd.named Bd.method).1
  have X0 : Stand p l e ({ frames := 2, cells := 3, slots := 3, locals := 53 } : Room) s m #[(.ref o0), (.int (0 : Int32)), (.long y1)] below meth c s₁ [] 0 0 := Stand.of_body Bd
  have e0 : s₁.heap = h0 := by rw [← hh, Bd.state]; rfl
  have N0 := Fr.nil n0
  have pre0 : ∀ t, Steps p.tables e below (s₁.setTop (mkF m 0 #[.val (.ref o0), .val (.int (0 : Int32)), .val (.long y1), .second, .unset, .unset, .unset] [])) t → Steps p.tables e below (s₁.setTop (entryFrame m #[(.ref o0), (.int (0 : Int32)), (.long y1)] 7)) t := fun t k => castTop (efa_prog_23_method_7_code_vvv m o0 (0 : Int32) y1) k
  obtain ⟨T1, X1, e1, st1⟩ := getF X0 hx hZ hown (host := "") (Or.inl (wd27 hw)) Via.refl e0 F_o0_end (g := (mkF m 4 #[.val (.ref o0), .val (.int (0 : Int32)), .val (.long y1), .second, .val (.int (0 : Int32)), .unset, .unset] [(.ref o0)])) rfl rfl (hb hby dd_prog_23_method_7_code_4)
  obtain ⟨T2, X2, e2, st2⟩ := getF X1 hx hZ hown (host := "") (Or.inl (wd12 hw)) Via.refl e1 F_o0_starts (g := (mkF m 8 #[.val (.ref o0), .val (.int (0 : Int32)), .val (.long y1), .second, .val (.int (0 : Int32)), .unset, .unset] [(.ref o0), (.int (0 : Int32))])) rfl rfl (hb hby dd_prog_23_method_7_code_8)
  obtain ⟨cl3, Ar3, -, S3, M3, -, -⟩ := id V_o2
  obtain ⟨T4, X4, e4, st4⟩ := getF X2 hx hZ hown (host := "") (Or.inl (wd27 hw)) Via.refl e2 F_o0_end (g := (mkF m 16 #[.val (.ref o0), .val (.int (0 : Int32)), .val (.long y1), .second, .val (.int (0 : Int32)), .unset, .unset] [(.ref o0)])) rfl rfl (hb hby dd_prog_23_method_7_code_16)
  obtain ⟨T5, X5, e5, st5⟩ := getF X4 hx hZ hown (host := "") (Or.inl (wd25 hw)) Via.refl e4 F_o0_first (g := (mkF m 20 #[.val (.ref o0), .val (.int (0 : Int32)), .val (.long y1), .second, .val (.int (0 : Int32)), .unset, .unset] [(.ref o0), (.int (0 : Int32))])) rfl rfl (hb hby dd_prog_23_method_7_code_20)
  obtain ⟨T6, X6, e6, st6⟩ := getF X5 hx hZ hown (host := "") (Or.inl (wd12 hw)) Via.refl e5 F_o0_starts (g := (mkF m 29 #[.val (.ref o0), .val (.int (0 : Int32)), .val (.long y1), .second, .val (.int (0 : Int32)), .val (.int (0 : Int32)), .unset] [(.ref o0), (.int (0 : Int32))])) rfl rfl (hb hby dd_prog_23_method_7_code_29)
  obtain ⟨cl7, Ar7, -, S7, M7, -, -⟩ := id V_o2
  obtain ⟨_, _, ⟨T8, L8, kc8, ks8⟩, -, X8, ⟨Lc8, hQ8, l8, y8, z8⟩, st8⟩ := Jvm.LawKit.callS X6 hx (y := mn8) hown (mvT hZ (wd43 hw)) (mvT hZ (wd44 hw)) (mvT hZ (wd45 hw)) (mvT hZ (wd46 hw)) (by decide) (backOf (W := 0) (rmA7 l Z a0 hw []  h0 n0 Z0 ) hZ (wd46 hw) (wd45 hw) (by decide) (by decide)) (g := (mkF m 41 #[.val (.ref o0), .val (.int (0 : Int32)), .val (.long y1), .second, .val (.int (0 : Int32)), .val (.int (0 : Int32)), .unset] [(.int (0 : Int32)), (.int (1 : Int32))])) rfl (by rw [hml]; rfl) (argsL := [(.int (1 : Int32)), (.int (0 : Int32))]) (rest := []) (lenOf pd__II_I rfl) rfl (by show 2 * 0 + _ ≤ _; exact Nat.le_of_eq rfl) (hb hby dd_prog_23_method_7_code_41) (fun _ _ => ⟨rfl, e6, (by decide : 0 + 0 ≤ _), (by decide : 0 + 0 ≤ _)⟩)
  dsimp only [Pt.U, Pt.locs, Pt.cells, Pt.slots] at X8 l8 y8 z8 st8 hQ8
  subst l8 y8 z8
  obtain ⟨rfl, Nq8, eq8⟩ := hQ8
  have N8 := Fr.app N0 Nq8
  obtain ⟨T9, X9, e9, st9⟩ := getF X8 hx hZ hown (host := "") (Or.inl (wd12 hw)) Via.refl eq8 F_o0_starts (g := (mkF m 57 #[.val (.ref o0), .val (.int (0 : Int32)), .val (.long y1), .second, .val (.int (0 : Int32)), .val (.int (0 : Int32)), .val (.int (1 : Int32))] [(.ref o0), (.ref o0), (.ref o0)])) rfl rfl (hb hby dd_prog_23_method_7_code_57)
  obtain ⟨cq10, q10, q10'⟩ := E_o0.cell
  obtain ⟨_, _, ⟨T10, L10, kc10, ks10⟩, -, X10, ⟨Lc10, hQ10, l10, y10, z10⟩, st10⟩ := X9.privateBack hx (y := mn6) hown (mvT hZ (wd47 hw)) (mvT hZ (wd48 hw)) (own_selPriv (mvT hZ (wd2 hw)) (Cond.privateMethod_at (mvP hZ (wd49 hw) (args := #[]))) (mvT hZ (wd48 hw)) (by decide)) (Cond.privateMethod_at (mvP hZ (wd49 hw) (args := #[]))) (mvT hZ (wd50 hw)) (by decide) (backOf (W := 1) (rmA8 l Z a0 hw [] o0 o2 _ h0 n0 Z0 F_o0_first F_o0_end V_o2) hZ (wd50 hw) (wd3 hw) (by decide) (by decide)) (g := (mkF m 63 #[.val (.ref o0), .val (.int (0 : Int32)), .val (.long y1), .second, .val (.int (0 : Int32)), .val (.int (0 : Int32)), .val (.int (1 : Int32))] [(.int (1 : Int32)), (.int (1 : Int32)), (.ref o2), (.ref o0), (.ref o0)])) rfl (by rw [hml]; rfl) (Steps.refl _) (a := o0) (by rw [e9]; exact q10) q10' (argsL := [(.ref o2), (.int (1 : Int32)), (.int (1 : Int32))]) (rest := [(.ref o0)]) (lenOf pd___JII__J rfl) rfl (by show 2 * 0 + _ ≤ _; exact Nat.le_of_eq rfl) (hb hby dd_prog_23_method_7_code_63) (fun _ _ => ⟨rfl, e9, (by decide : 0 + 1 ≤ _), (by decide : 0 + 1 ≤ _)⟩)
  dsimp only [Pt.U, Pt.locs, Pt.cells, Pt.slots] at X10 l10 y10 z10 st10 hQ10
  subst l10 y10 z10
  obtain ⟨b10_0, kv10_1, rfl, Nq10, Kq10, sz10_0, g10_0⟩ := hQ10
  have N10 := Fr.app N8 Nq10
  have Z10 : n0 ≤ T10.heap.size := Nat.le_trans Z0 Kq10.1
  have K10 : Keep h0 T10.heap [o0] := Keep.trans (Keep.refl h0 [o0]) Kq10 all0
  have ne_o0_b10_0 : o0 ≠ b10_0 := Nat.ne_of_lt (Nat.lt_of_lt_of_le F_o0_end.lt sz10_0)
  have ne_o2_b10_0 : o2 ≠ b10_0 := Nat.ne_of_lt (Nat.lt_of_lt_of_le V_o2.lt sz10_0)
  have ge_b10_0 : n0 ≤ b10_0 := Nat.le_trans Z0 sz10_0
  have sz_b10_0 : h0.size ≤ b10_0 := Nat.le_trans (Nat.le_refl _) sz10_0
  have f11 := (E_o0.keep Kq10)
  have f12 := (F_o0_starts.keep Kq10 nin0)
  obtain ⟨T13, h13, X13, e13, W13, st13⟩ := putF X10 hx hZ hown (host := "") (Or.inl (wd12 hw)) Via.refl rfl f12 f11 (Or.inl (wd13 hw)) (wd2 hw) (ty := (.array .long)) (by decide) rfl rfl (g := (mkF m 66 #[.val (.ref o0), .val (.int (0 : Int32)), .val (.long y1), .second, .val (.int (0 : Int32)), .val (.int (0 : Int32)), .val (.int (1 : Int32))] [(.ref b10_0), (.ref o0)])) rfl rfl (hb hby dd_prog_23_method_7_code_66)
  have N13 := Fr.snoc X13 N10 g_o0
  have Z13 : n0 ≤ h13.size := by rw [W13.size]; exact Z10
  have K13 : Keep h0 h13 [o0] := (K10.wr W13 (Or.inl (List.mem_of_getElem? (i := 0) rfl)))
  have Fw13 := f12.same W13
  have f14 := ((F_o0_records.keep Kq10 nin0).other W13 (Or.inr (slot_ne (Or.inl (wd15 hw)) (Or.inl (wd13 hw)) (by decide) (t := (.array .long)) (t' := (.array .long)) (by decide) (by decide))))
  obtain ⟨T15, X15, e15, st15⟩ := getF X13 hx hZ hown (host := "") (Or.inl (wd14 hw)) Via.refl e13 f14 (g := (mkF m 72 #[.val (.ref o0), .val (.int (0 : Int32)), .val (.long y1), .second, .val (.int (0 : Int32)), .val (.int (0 : Int32)), .val (.int (1 : Int32))] [(.ref o0), (.ref o0), (.ref o0)])) rfl rfl (hb hby dd_prog_23_method_7_code_72)
  have f16 := ((F_o0_width.keep Kq10 nin0).other W13 (Or.inr (slot_ne (Or.inr (wd19 hw)) (Or.inl (wd13 hw)) (by decide) (t := .int) (t' := (.array .long)) (by decide) (by decide))))
  obtain ⟨T17, X17, e17, st17⟩ := getF X15 hx hZ hown (host := "") (Or.inl (wd18 hw)) Via.refl e15 f16 (g := (mkF m 76 #[.val (.ref o0), .val (.int (0 : Int32)), .val (.long y1), .second, .val (.int (0 : Int32)), .val (.int (0 : Int32)), .val (.int (1 : Int32))] [(.ref o0), (.ref o2), (.ref o0), (.ref o0)])) rfl rfl (hb hby dd_prog_23_method_7_code_76)
  have f18 := ((F_o0_first.keep Kq10 nin0).other W13 (Or.inr (slot_ne (Or.inl (wd26 hw)) (Or.inl (wd13 hw)) (by decide) (t := .int) (t' := (.array .long)) (by decide) (by decide))))
  have f19 := ((F_o0_end.keep Kq10 nin0).other W13 (Or.inr (slot_ne (Or.inl (wd28 hw)) (Or.inl (wd13 hw)) (by decide) (t := .int) (t' := (.array .long)) (by decide) (by decide))))
  have f20 := ((V_o2.keep Kq10 nin0).other W13 ne_o2_o0)
  have f21 := (g10_0.other W13 (Ne.symm ne_o0_b10_0))
  have f23 := (f11.wr W13)
  obtain ⟨cq22, q22, q22'⟩ := f23.cell
  obtain ⟨_, _, ⟨T22, L22, kc22, ks22⟩, -, X22, ⟨Lc22, hQ22, l22, y22, z22⟩, st22⟩ := X17.privateBack hx (y := mn6) hown (mvT hZ (wd47 hw)) (mvT hZ (wd48 hw)) (own_selPriv (mvT hZ (wd2 hw)) (Cond.privateMethod_at (mvP hZ (wd49 hw) (args := #[]))) (mvT hZ (wd48 hw)) (by decide)) (Cond.privateMethod_at (mvP hZ (wd49 hw) (args := #[]))) (mvT hZ (wd50 hw)) (by decide) (backOf (W := 1) (rmA8 l Z a0 hw [] o0 o2 _ h13 n0 Z13 f18 f19 f20) hZ (wd50 hw) (wd3 hw) (by decide) (by decide)) (g := (mkF m 81 #[.val (.ref o0), .val (.int (0 : Int32)), .val (.long y1), .second, .val (.int (0 : Int32)), .val (.int (0 : Int32)), .val (.int (1 : Int32))] [(.int (1 : Int32)), (.int (1 : Int32)), (.ref o2), (.ref o0), (.ref o0)])) rfl (by rw [hml]; rfl) (Steps.refl _) (a := o0) (by rw [e17]; exact q22) q22' (argsL := [(.ref o2), (.int (1 : Int32)), (.int (1 : Int32))]) (rest := [(.ref o0)]) (lenOf pd___JII__J rfl) rfl (by show 2 * 0 + _ ≤ _; exact Nat.le_of_eq rfl) (hb hby dd_prog_23_method_7_code_81) (fun _ _ => ⟨rfl, e17, (by decide : 1 + 1 ≤ _), (by decide : 1 + 1 ≤ _)⟩)
  dsimp only [Pt.U, Pt.locs, Pt.cells, Pt.slots] at X22 l22 y22 z22 st22 hQ22
  subst l22 y22 z22
  obtain ⟨b22_0, kv22_1, rfl, Nq22, Kq22, sz22_0, g22_0⟩ := hQ22
  have N22 := Fr.app N13 Nq22
  have Z22 : n0 ≤ T22.heap.size := Nat.le_trans Z13 Kq22.1
  have K22 : Keep h0 T22.heap [o0] := Keep.trans K13 Kq22 all0
  have ne_o0_b22_0 : o0 ≠ b22_0 := Nat.ne_of_lt (Nat.lt_of_lt_of_le f19.lt sz22_0)
  have ne_o2_b22_0 : o2 ≠ b22_0 := Nat.ne_of_lt (Nat.lt_of_lt_of_le f20.lt sz22_0)
  have ne_b10_0_b22_0 : b10_0 ≠ b22_0 := Nat.ne_of_lt (Nat.lt_of_lt_of_le f21.lt sz22_0)
  have ge_b22_0 : n0 ≤ b22_0 := Nat.le_trans Z13 sz22_0
  have sz_b22_0 : h0.size ≤ b22_0 := Nat.le_trans K13.1 sz22_0
  have f24 := (f23.keep Kq22)
  have f25 := (f14.keep Kq22 nin0)
  obtain ⟨T26, h26, X26, e26, W26, st26⟩ := putF X22 hx hZ hown (host := "") (Or.inl (wd14 hw)) Via.refl rfl f25 f24 (Or.inl (wd15 hw)) (wd2 hw) (ty := (.array .long)) (by decide) rfl rfl (g := (mkF m 84 #[.val (.ref o0), .val (.int (0 : Int32)), .val (.long y1), .second, .val (.int (0 : Int32)), .val (.int (0 : Int32)), .val (.int (1 : Int32))] [(.ref b22_0), (.ref o0)])) rfl rfl (hb hby dd_prog_23_method_7_code_84)
  have N26 := Fr.snoc X26 N22 g_o0
  have Z26 : n0 ≤ h26.size := by rw [W26.size]; exact Z22
  have K26 : Keep h0 h26 [o0] := (K22.wr W26 (Or.inl (List.mem_of_getElem? (i := 0) rfl)))
  have Fw26 := f25.same W26
  have f27 := ((((F_o0_decidedAt.keep Kq10 nin0).other W13 (Or.inr (slot_ne (Or.inl (wd17 hw)) (Or.inl (wd13 hw)) (by decide) (t := (.array .long)) (t' := (.array .long)) (by decide) (by decide)))).keep Kq22 nin0).other W26 (Or.inr (slot_ne (Or.inl (wd17 hw)) (Or.inl (wd15 hw)) (by decide) (t := (.array .long)) (t' := (.array .long)) (by decide) (by decide))))
  obtain ⟨T28, X28, e28, st28⟩ := getF X26 hx hZ hown (host := "") (Or.inl (wd16 hw)) Via.refl e26 f27 (g := (mkF m 90 #[.val (.ref o0), .val (.int (0 : Int32)), .val (.long y1), .second, .val (.int (0 : Int32)), .val (.int (0 : Int32)), .val (.int (1 : Int32))] [(.ref o0), (.ref o0), (.ref o0)])) rfl rfl (hb hby dd_prog_23_method_7_code_90)
  have f29 := ((f18.keep Kq22 nin0).other W26 (Or.inr (slot_ne (Or.inl (wd26 hw)) (Or.inl (wd15 hw)) (by decide) (t := .int) (t' := (.array .long)) (by decide) (by decide))))
  have f30 := ((f19.keep Kq22 nin0).other W26 (Or.inr (slot_ne (Or.inl (wd28 hw)) (Or.inl (wd15 hw)) (by decide) (t := .int) (t' := (.array .long)) (by decide) (by decide))))
  have f31 := ((f20.keep Kq22 nin0).other W26 ne_o2_o0)
  have f32 := ((f21.keep Kq22 nin0).other W26 (Ne.symm ne_o0_b10_0))
  have f33 := (g22_0.other W26 (Ne.symm ne_o0_b22_0))
  have f35 := (f24.wr W26)
  obtain ⟨cq34, q34, q34'⟩ := f35.cell
  obtain ⟨_, _, ⟨T34, L34, kc34, ks34⟩, -, X34, ⟨Lc34, hQ34, l34, y34, z34⟩, st34⟩ := X28.privateBack hx (y := mn6) hown (mvT hZ (wd47 hw)) (mvT hZ (wd48 hw)) (own_selPriv (mvT hZ (wd2 hw)) (Cond.privateMethod_at (mvP hZ (wd49 hw) (args := #[]))) (mvT hZ (wd48 hw)) (by decide)) (Cond.privateMethod_at (mvP hZ (wd49 hw) (args := #[]))) (mvT hZ (wd50 hw)) (by decide) (backOf (W := 1) (rmA8 l Z a0 hw [] o0 o2 _ h26 n0 Z26 f29 f30 f31) hZ (wd50 hw) (wd3 hw) (by decide) (by decide)) (g := (mkF m 96 #[.val (.ref o0), .val (.int (0 : Int32)), .val (.long y1), .second, .val (.int (0 : Int32)), .val (.int (0 : Int32)), .val (.int (1 : Int32))] [(.int (1 : Int32)), (.int (1 : Int32)), (.ref o2), (.ref o0), (.ref o0)])) rfl (by rw [hml]; rfl) (Steps.refl _) (a := o0) (by rw [e28]; exact q34) q34' (argsL := [(.ref o2), (.int (1 : Int32)), (.int (1 : Int32))]) (rest := [(.ref o0)]) (lenOf pd___JII__J rfl) rfl (by show 2 * 0 + _ ≤ _; exact Nat.le_of_eq rfl) (hb hby dd_prog_23_method_7_code_96) (fun _ _ => ⟨rfl, e28, (by decide : 2 + 1 ≤ _), (by decide : 2 + 1 ≤ _)⟩)
  dsimp only [Pt.U, Pt.locs, Pt.cells, Pt.slots] at X34 l34 y34 z34 st34 hQ34
  subst l34 y34 z34
  obtain ⟨b34_0, kv34_1, rfl, Nq34, Kq34, sz34_0, g34_0⟩ := hQ34
  have N34 := Fr.app N26 Nq34
  have Z34 : n0 ≤ T34.heap.size := Nat.le_trans Z26 Kq34.1
  have K34 : Keep h0 T34.heap [o0] := Keep.trans K26 Kq34 all0
  have ne_o0_b34_0 : o0 ≠ b34_0 := Nat.ne_of_lt (Nat.lt_of_lt_of_le f30.lt sz34_0)
  have ne_o2_b34_0 : o2 ≠ b34_0 := Nat.ne_of_lt (Nat.lt_of_lt_of_le f31.lt sz34_0)
  have ne_b10_0_b34_0 : b10_0 ≠ b34_0 := Nat.ne_of_lt (Nat.lt_of_lt_of_le f32.lt sz34_0)
  have ne_b22_0_b34_0 : b22_0 ≠ b34_0 := Nat.ne_of_lt (Nat.lt_of_lt_of_le f33.lt sz34_0)
  have ge_b34_0 : n0 ≤ b34_0 := Nat.le_trans Z26 sz34_0
  have sz_b34_0 : h0.size ≤ b34_0 := Nat.le_trans K26.1 sz34_0
  have f36 := (f35.keep Kq34)
  have f37 := (f27.keep Kq34 nin0)
  obtain ⟨T38, h38, X38, e38, W38, st38⟩ := putF X34 hx hZ hown (host := "") (Or.inl (wd16 hw)) Via.refl rfl f37 f36 (Or.inl (wd17 hw)) (wd2 hw) (ty := (.array .long)) (by decide) rfl rfl (g := (mkF m 99 #[.val (.ref o0), .val (.int (0 : Int32)), .val (.long y1), .second, .val (.int (0 : Int32)), .val (.int (0 : Int32)), .val (.int (1 : Int32))] [(.ref b34_0), (.ref o0)])) rfl rfl (hb hby dd_prog_23_method_7_code_99)
  have N38 := Fr.snoc X38 N34 g_o0
  have Z38 : n0 ≤ h38.size := by rw [W38.size]; exact Z34
  have K38 : Keep h0 h38 [o0] := (K34.wr W38 (Or.inl (List.mem_of_getElem? (i := 0) rfl)))
  have Fw38 := f37.same W38
  have f39 := ((f29.keep Kq34 nin0).other W38 (Or.inr (slot_ne (Or.inl (wd26 hw)) (Or.inl (wd17 hw)) (by decide) (t := .int) (t' := (.array .long)) (by decide) (by decide))))
  obtain ⟨T40, X40, e40, st40⟩ := getF X38 hx hZ hown (host := "") (Or.inl (wd25 hw)) Via.refl e38 f39 (g := (mkF m 105 #[.val (.ref o0), .val (.int (0 : Int32)), .val (.long y1), .second, .val (.int (0 : Int32)), .val (.int (0 : Int32)), .val (.int (1 : Int32))] [(.ref o0), (.int (0 : Int32))])) rfl rfl (hb hby dd_prog_23_method_7_code_105)
  have f41 := (f36.wr W38)
  obtain ⟨T42, h42, X42, e42, W42, st42⟩ := putF X40 hx hZ hown (host := "") (Or.inl (wd25 hw)) Via.refl e40 f39 f41 (Or.inl (wd26 hw)) (wd2 hw) (ty := .int) (by decide) rfl rfl (g := (mkF m 113 #[.val (.ref o0), .val (.int (0 : Int32)), .val (.long y1), .second, .val (.int (0 : Int32)), .val (.int (0 : Int32)), .val (.int (1 : Int32))] [(.int (0 : Int32)), (.ref o0)])) rfl rfl (hb hby dd_prog_23_method_7_code_113)
  have N42 := Fr.snoc X42 N38 g_o0
  have Z42 : n0 ≤ h42.size := by rw [W42.size]; exact Z38
  have K42 : Keep h0 h42 [o0] := (K38.wr W42 (Or.inl (List.mem_of_getElem? (i := 0) rfl)))
  have Fw42 := f39.same W42
  have f43 := (f41.wr W42)
  have f44 := (((f30.keep Kq34 nin0).other W38 (Or.inr (slot_ne (Or.inl (wd28 hw)) (Or.inl (wd17 hw)) (by decide) (t := .int) (t' := (.array .long)) (by decide) (by decide)))).other W42 (Or.inr (slot_ne (Or.inl (wd28 hw)) (Or.inl (wd26 hw)) (by decide) (t := .int) (t' := .int) (by decide) (by decide))))
  obtain ⟨T45, h45, X45, e45, W45, st45⟩ := putF X42 hx hZ hown (host := "") (Or.inl (wd27 hw)) Via.refl e42 f44 f43 (Or.inl (wd28 hw)) (wd2 hw) (ty := .int) (by decide) rfl rfl (g := (mkF m 119 #[.val (.ref o0), .val (.int (0 : Int32)), .val (.long y1), .second, .val (.int (0 : Int32)), .val (.int (0 : Int32)), .val (.int (1 : Int32))] [(.int (0 : Int32)), (.ref o0)])) rfl rfl (hb hby dd_prog_23_method_7_code_119)
  have N45 := Fr.snoc X45 N42 g_o0
  have Z45 : n0 ≤ h45.size := by rw [W45.size]; exact Z42
  have K45 : Keep h0 h45 [o0] := (K42.wr W45 (Or.inl (List.mem_of_getElem? (i := 0) rfl)))
  have Fw45 := f44.same W45
  have f46 := ((((((Fw13.keep Kq22 nin0).other W26 (Or.inr (slot_ne (Or.inl (wd13 hw)) (Or.inl (wd15 hw)) (by decide) (t := (.array .long)) (t' := (.array .long)) (by decide) (by decide)))).keep Kq34 nin0).other W38 (Or.inr (slot_ne (Or.inl (wd13 hw)) (Or.inl (wd17 hw)) (by decide) (t := (.array .long)) (t' := (.array .long)) (by decide) (by decide)))).other W42 (Or.inr (slot_ne (Or.inl (wd13 hw)) (Or.inl (wd26 hw)) (by decide) (t := (.array .long)) (t' := .int) (by decide) (by decide)))).other W45 (Or.inr (slot_ne (Or.inl (wd13 hw)) (Or.inl (wd28 hw)) (by decide) (t := (.array .long)) (t' := .int) (by decide) (by decide))))
  obtain ⟨T47, X47, e47, st47⟩ := getF X45 hx hZ hown (host := "") (Or.inl (wd12 hw)) Via.refl e45 f46 (g := (mkF m 123 #[.val (.ref o0), .val (.int (0 : Int32)), .val (.long y1), .second, .val (.int (0 : Int32)), .val (.int (0 : Int32)), .val (.int (1 : Int32))] [(.ref o0)])) rfl rfl (hb hby dd_prog_23_method_7_code_123)
  obtain ⟨T48, X48, e48, st48⟩ := getF X47 hx hZ hown (host := "") (Or.inl (wd12 hw)) Via.refl e47 f46 (g := (mkF m 129 #[.val (.ref o0), .val (.int (0 : Int32)), .val (.long y1), .second, .val (.int (0 : Int32)), .val (.int (0 : Int32)), .val (.int (1 : Int32))] [(.ref o0), (.int (0 : Int32)), (.ref b10_0)])) rfl rfl (hb hby dd_prog_23_method_7_code_129)
  obtain ⟨T49, X49, e49, st49⟩ := getF X48 hx hZ hown (host := "") (Or.inl (wd27 hw)) Via.refl e48 Fw45 (g := (mkF m 137 #[.val (.ref o0), .val (.int (0 : Int32)), .val (.long y1), .second, .val (.int (0 : Int32)), .val (.int (0 : Int32)), .val (.int (1 : Int32))] [(.ref o0), (.int (1 : Int32)), (.ref b10_0), (.int (0 : Int32)), (.ref b10_0)])) rfl rfl (hb hby dd_prog_23_method_7_code_137)
  have f50 := ((((f32.keep Kq34 nin0).other W38 (Ne.symm ne_o0_b10_0)).other W42 (Ne.symm ne_o0_b10_0)).other W45 (Ne.symm ne_o0_b10_0))
  obtain ⟨T51, h51, Lq51, X51, e51, Nq51, Kq51, Vq51, st51⟩ := cpA X49 hx hZ hown (wd52 hw) (wd55 hw) (wd53 hw) (wd54 hw) e49 (us := []) f50 f50 (Or.inl ⟨rfl, rfl⟩) (by decide) (by decide) (by decide) (by first | decide | exact Nat.le_of_ble_eq_true rfl) (by first | decide | exact Nat.le_of_ble_eq_true rfl) (by rfl) (by first | decide | exact Nat.le_of_ble_eq_true rfl) N45 ge_b10_0 (g := (mkF m 143 #[.val (.ref o0), .val (.int (0 : Int32)), .val (.long y1), .second, .val (.int (0 : Int32)), .val (.int (0 : Int32)), .val (.int (1 : Int32))] [(.int (0 : Int32)), (.int (1 : Int32)), (.ref b10_0), (.int (0 : Int32)), (.ref b10_0)])) rfl (by rw [hml]; rfl) rfl (hb hby dd_prog_23_method_7_code_143) (by decide) (W := 0) (by show 2 * 0 + _ ≤ _; exact Nat.le_of_eq rfl) (by decide)
  have Z51 : n0 ≤ h51.size := Nat.le_trans Z45 Kq51.1
  have K51 : Keep h0 h51 [o0] := Keep.trans K45 Kq51 (allS (Or.inr sz_b10_0) all0)
  have V51 : Arv Z h51 b10_0 _ .long (1 : Int32) [(.long (0 : Int64))] (.long (0 : Int64)) := Vq51
  have f52 := (((((Fw26.keep Kq34 nin0).other W38 (Or.inr (slot_ne (Or.inl (wd15 hw)) (Or.inl (wd17 hw)) (by decide) (t := (.array .long)) (t' := (.array .long)) (by decide) (by decide)))).other W42 (Or.inr (slot_ne (Or.inl (wd15 hw)) (Or.inl (wd26 hw)) (by decide) (t := (.array .long)) (t' := .int) (by decide) (by decide)))).other W45 (Or.inr (slot_ne (Or.inl (wd15 hw)) (Or.inl (wd28 hw)) (by decide) (t := (.array .long)) (t' := .int) (by decide) (by decide)))).keep Kq51 (ninS ne_o0_b10_0 nin0))
  obtain ⟨T53, X53, e53, st53⟩ := getF X51 hx hZ hown (host := "") (Or.inl (wd14 hw)) Via.refl e51 f52 (g := (mkF m 147 #[.val (.ref o0), .val (.int (0 : Int32)), .val (.long y1), .second, .val (.int (0 : Int32)), .val (.int (0 : Int32)), .val (.int (1 : Int32))] [(.ref o0)])) rfl rfl (hb hby dd_prog_23_method_7_code_147)
  have f54 := (((((((f16.keep Kq22 nin0).other W26 (Or.inr (slot_ne (Or.inr (wd19 hw)) (Or.inl (wd15 hw)) (by decide) (t := .int) (t' := (.array .long)) (by decide) (by decide)))).keep Kq34 nin0).other W38 (Or.inr (slot_ne (Or.inr (wd19 hw)) (Or.inl (wd17 hw)) (by decide) (t := .int) (t' := (.array .long)) (by decide) (by decide)))).other W42 (Or.inr (slot_ne (Or.inr (wd19 hw)) (Or.inl (wd26 hw)) (by decide) (t := .int) (t' := .int) (by decide) (by decide)))).other W45 (Or.inr (slot_ne (Or.inr (wd19 hw)) (Or.inl (wd28 hw)) (by decide) (t := .int) (t' := .int) (by decide) (by decide)))).keep Kq51 (ninS ne_o0_b10_0 nin0))
  obtain ⟨T55, X55, e55, st55⟩ := getF X53 hx hZ hown (host := "") (Or.inl (wd18 hw)) Via.refl e53 f54 (g := (mkF m 153 #[.val (.ref o0), .val (.int (0 : Int32)), .val (.long y1), .second, .val (.int (0 : Int32)), .val (.int (0 : Int32)), .val (.int (1 : Int32))] [(.ref o0), (.int (0 : Int32)), (.ref b22_0)])) rfl rfl (hb hby dd_prog_23_method_7_code_153)
  obtain ⟨T56, X56, e56, st56⟩ := getF X55 hx hZ hown (host := "") (Or.inl (wd14 hw)) Via.refl e55 f52 (g := (mkF m 158 #[.val (.ref o0), .val (.int (0 : Int32)), .val (.long y1), .second, .val (.int (0 : Int32)), .val (.int (0 : Int32)), .val (.int (1 : Int32))] [(.ref o0), (.int (0 : Int32)), (.ref b22_0)])) rfl rfl (hb hby dd_prog_23_method_7_code_158)
  obtain ⟨T57, X57, e57, st57⟩ := getF X56 hx hZ hown (host := "") (Or.inl (wd18 hw)) Via.refl e56 f54 (g := (mkF m 166 #[.val (.ref o0), .val (.int (0 : Int32)), .val (.long y1), .second, .val (.int (0 : Int32)), .val (.int (0 : Int32)), .val (.int (1 : Int32))] [(.ref o0), (.int (1 : Int32)), (.ref b22_0), (.int (0 : Int32)), (.ref b22_0)])) rfl rfl (hb hby dd_prog_23_method_7_code_166)
  have f58 := (Fw45.keep Kq51 (ninS ne_o0_b10_0 nin0))
  obtain ⟨T59, X59, e59, st59⟩ := getF X57 hx hZ hown (host := "") (Or.inl (wd27 hw)) Via.refl e57 f58 (g := (mkF m 171 #[.val (.ref o0), .val (.int (0 : Int32)), .val (.long y1), .second, .val (.int (0 : Int32)), .val (.int (0 : Int32)), .val (.int (1 : Int32))] [(.ref o0), (.int (1 : Int32)), (.ref b22_0), (.int (0 : Int32)), (.ref b22_0)])) rfl rfl (hb hby dd_prog_23_method_7_code_171)
  obtain ⟨T60, X60, e60, st60⟩ := getF X59 hx hZ hown (host := "") (Or.inl (wd18 hw)) Via.refl e59 f54 (g := (mkF m 178 #[.val (.ref o0), .val (.int (0 : Int32)), .val (.long y1), .second, .val (.int (0 : Int32)), .val (.int (0 : Int32)), .val (.int (1 : Int32))] [(.ref o0), (.int (0 : Int32)), (.int (1 : Int32)), (.ref b22_0), (.int (0 : Int32)), (.ref b22_0)])) rfl rfl (hb hby dd_prog_23_method_7_code_178)
  have f61 := (((((f33.keep Kq34 nin0).other W38 (Ne.symm ne_o0_b22_0)).other W42 (Ne.symm ne_o0_b22_0)).other W45 (Ne.symm ne_o0_b22_0)).keep Kq51 (ninS (Ne.symm ne_b10_0_b22_0) nin0))
  obtain ⟨T62, h62, Lq62, X62, e62, Nq62, Kq62, Vq62, st62⟩ := cpA X60 hx hZ hown (wd52 hw) (wd55 hw) (wd53 hw) (wd54 hw) e60 (us := []) f61 f61 (Or.inl ⟨rfl, rfl⟩) (by decide) (by decide) (by decide) (by first | decide | exact Nat.le_of_ble_eq_true rfl) (by first | decide | exact Nat.le_of_ble_eq_true rfl) (by rfl) (by first | decide | exact Nat.le_of_ble_eq_true rfl) Nq51 ge_b22_0 (g := (mkF m 182 #[.val (.ref o0), .val (.int (0 : Int32)), .val (.long y1), .second, .val (.int (0 : Int32)), .val (.int (0 : Int32)), .val (.int (1 : Int32))] [(.int (0 : Int32)), (.int (1 : Int32)), (.ref b22_0), (.int (0 : Int32)), (.ref b22_0)])) rfl (by rw [hml]; rfl) rfl (hb hby dd_prog_23_method_7_code_182) (by decide) (W := 0) (by show 2 * 0 + _ ≤ _; exact Nat.le_of_eq rfl) (by decide)
  have Z62 : n0 ≤ h62.size := Nat.le_trans Z51 Kq62.1
  have K62 : Keep h0 h62 [o0] := Keep.trans K51 Kq62 (allS (Or.inr sz_b22_0) all0)
  have V62 : Arv Z h62 b22_0 _ .long (1 : Int32) [(.long (0 : Int64))] (.long (0 : Int64)) := Vq62
  have f63 := ((((Fw38.other W42 (Or.inr (slot_ne (Or.inl (wd17 hw)) (Or.inl (wd26 hw)) (by decide) (t := (.array .long)) (t' := .int) (by decide) (by decide)))).other W45 (Or.inr (slot_ne (Or.inl (wd17 hw)) (Or.inl (wd28 hw)) (by decide) (t := (.array .long)) (t' := .int) (by decide) (by decide)))).keep Kq51 (ninS ne_o0_b10_0 nin0)).keep Kq62 (ninS ne_o0_b22_0 nin0))
  obtain ⟨T64, X64, e64, st64⟩ := getF X62 hx hZ hown (host := "") (Or.inl (wd16 hw)) Via.refl e62 f63 (g := (mkF m 186 #[.val (.ref o0), .val (.int (0 : Int32)), .val (.long y1), .second, .val (.int (0 : Int32)), .val (.int (0 : Int32)), .val (.int (1 : Int32))] [(.ref o0)])) rfl rfl (hb hby dd_prog_23_method_7_code_186)
  obtain ⟨T65, X65, e65, st65⟩ := getF X64 hx hZ hown (host := "") (Or.inl (wd16 hw)) Via.refl e64 f63 (g := (mkF m 192 #[.val (.ref o0), .val (.int (0 : Int32)), .val (.long y1), .second, .val (.int (0 : Int32)), .val (.int (0 : Int32)), .val (.int (1 : Int32))] [(.ref o0), (.int (0 : Int32)), (.ref b34_0)])) rfl rfl (hb hby dd_prog_23_method_7_code_192)
  have f66 := (f58.keep Kq62 (ninS ne_o0_b22_0 nin0))
  obtain ⟨T67, X67, e67, st67⟩ := getF X65 hx hZ hown (host := "") (Or.inl (wd27 hw)) Via.refl e65 f66 (g := (mkF m 200 #[.val (.ref o0), .val (.int (0 : Int32)), .val (.long y1), .second, .val (.int (0 : Int32)), .val (.int (0 : Int32)), .val (.int (1 : Int32))] [(.ref o0), (.int (1 : Int32)), (.ref b34_0), (.int (0 : Int32)), (.ref b34_0)])) rfl rfl (hb hby dd_prog_23_method_7_code_200)
  have f68 := (((((g34_0.other W38 (Ne.symm ne_o0_b34_0)).other W42 (Ne.symm ne_o0_b34_0)).other W45 (Ne.symm ne_o0_b34_0)).keep Kq51 (ninS (Ne.symm ne_b10_0_b34_0) nin0)).keep Kq62 (ninS (Ne.symm ne_b22_0_b34_0) nin0))
  obtain ⟨T69, h69, Lq69, X69, e69, Nq69, Kq69, Vq69, st69⟩ := cpA X67 hx hZ hown (wd52 hw) (wd55 hw) (wd53 hw) (wd54 hw) e67 (us := []) f68 f68 (Or.inl ⟨rfl, rfl⟩) (by decide) (by decide) (by decide) (by first | decide | exact Nat.le_of_ble_eq_true rfl) (by first | decide | exact Nat.le_of_ble_eq_true rfl) (by rfl) (by first | decide | exact Nat.le_of_ble_eq_true rfl) Nq62 ge_b34_0 (g := (mkF m 206 #[.val (.ref o0), .val (.int (0 : Int32)), .val (.long y1), .second, .val (.int (0 : Int32)), .val (.int (0 : Int32)), .val (.int (1 : Int32))] [(.int (0 : Int32)), (.int (1 : Int32)), (.ref b34_0), (.int (0 : Int32)), (.ref b34_0)])) rfl (by rw [hml]; rfl) rfl (hb hby dd_prog_23_method_7_code_206) (by decide) (W := 0) (by show 2 * 0 + _ ≤ _; exact Nat.le_of_eq rfl) (by decide)
  have Z69 : n0 ≤ h69.size := Nat.le_trans Z62 Kq69.1
  have K69 : Keep h0 h69 [o0] := Keep.trans K62 Kq69 (allS (Or.inr sz_b34_0) all0)
  have V69 : Arv Z h69 b34_0 _ .long (1 : Int32) [(.long (0 : Int64))] (.long (0 : Int64)) := Vq69
  have f70 := (((f46.keep Kq51 (ninS ne_o0_b10_0 nin0)).keep Kq62 (ninS ne_o0_b22_0 nin0)).keep Kq69 (ninS ne_o0_b34_0 nin0))
  obtain ⟨T71, X71, e71, st71⟩ := getF X69 hx hZ hown (host := "") (Or.inl (wd12 hw)) Via.refl e69 f70 (g := (mkF m 210 #[.val (.ref o0), .val (.int (0 : Int32)), .val (.long y1), .second, .val (.int (0 : Int32)), .val (.int (0 : Int32)), .val (.int (1 : Int32))] [(.ref o0)])) rfl rfl (hb hby dd_prog_23_method_7_code_210)
  have f72 := ((V51.keep Kq62 (ninS ne_b10_0_b22_0 nin0)).keep Kq69 (ninS ne_b10_0_b34_0 nin0))
  obtain ⟨cl73, Ar73, q73, S73, M73, HH73, GG73⟩ := id f72
  have hin73 : ¬ ((0 : Int32) < 0 ∨ cl73.slots.size ≤ ((0 : Int32)).toNatClampNeg) := inb_of S73 ⟨by decide, by decide⟩
  obtain ⟨T74, h74, X74, e74, W74, st74⟩ := stJ X71 hx hZ e71 Ar73 (j := (0 : Int32)) hin73 (g := (mkF m 216 #[.val (.ref o0), .val (.int (0 : Int32)), .val (.long y1), .second, .val (.int (0 : Int32)), .val (.int (0 : Int32)), .val (.int (1 : Int32))] [(.long y1), (.int (0 : Int32)), (.ref b10_0)])) rfl rfl (hb hby dd_prog_23_method_7_code_216)
  have N74 := Fr.snoc X74 Nq69 ge_b10_0
  have Z74 : n0 ≤ h74.size := by rw [W74.size]; exact Z69
  have K74 : Keep h0 h74 [o0] := (K69.wr W74 (Or.inr sz_b10_0))
  have V74 := Arv.set Ar73 q73 S73 M73 HH73 GG73 rfl W74 0 rfl (Nat.le_of_ble_eq_true rfl)
  have f75 := (((f52.keep Kq62 (ninS ne_o0_b22_0 nin0)).keep Kq69 (ninS ne_o0_b34_0 nin0)).other W74 (Or.inl ne_o0_b10_0))
  obtain ⟨T76, X76, e76, st76⟩ := getF X74 hx hZ hown (host := "") (Or.inl (wd14 hw)) Via.refl e74 f75 (g := (mkF m 218 #[.val (.ref o0), .val (.int (0 : Int32)), .val (.long y1), .second, .val (.int (0 : Int32)), .val (.int (0 : Int32)), .val (.int (1 : Int32))] [(.ref o0)])) rfl rfl (hb hby dd_prog_23_method_7_code_218)
  have f77 := (((f54.keep Kq62 (ninS ne_o0_b22_0 nin0)).keep Kq69 (ninS ne_o0_b34_0 nin0)).other W74 (Or.inl ne_o0_b10_0))
  obtain ⟨T78, X78, e78, st78⟩ := getF X76 hx hZ hown (host := "") (Or.inl (wd18 hw)) Via.refl e76 f77 (g := (mkF m 224 #[.val (.ref o0), .val (.int (0 : Int32)), .val (.long y1), .second, .val (.int (0 : Int32)), .val (.int (0 : Int32)), .val (.int (1 : Int32))] [(.ref o0), (.int (0 : Int32)), (.ref b22_0)])) rfl rfl (hb hby dd_prog_23_method_7_code_224)
  obtain ⟨T79, X79, e79, st79⟩ := getF X78 hx hZ hown (host := "") (Or.inl (wd18 hw)) Via.refl e78 f77 (g := (mkF m 233 #[.val (.ref o0), .val (.int (0 : Int32)), .val (.long y1), .second, .val (.int (0 : Int32)), .val (.int (0 : Int32)), .val (.int (1 : Int32))] [(.ref o0), (.int (1 : Int32)), (.int (0 : Int32)), (.ref b22_0)])) rfl rfl (hb hby dd_prog_23_method_7_code_233)
  have f80 := ((V62.keep Kq69 (ninS ne_b22_0_b34_0 nin0)).other W74 (Ne.symm ne_b10_0_b22_0))
  obtain ⟨_, _, ⟨T81, L81, kc81, ks81⟩, -, X81, ⟨Lc81, hQ81, l81, y81, z81⟩, st81⟩ := Jvm.LawKit.callS X79 hx (y := mn11) hown (mvT hZ (wd56 hw)) (mvT hZ (wd57 hw)) (mvT hZ (wd31 hw)) (mvT hZ (wd58 hw)) (by decide) (backOf (W := 0) (rmA11 l Z a0 hw [] b22_0 _ h74 n0 Z74 f80 ge_b22_0) hZ (wd58 hw) (wd31 hw) (by decide) (by decide)) (g := (mkF m 238 #[.val (.ref o0), .val (.int (0 : Int32)), .val (.long y1), .second, .val (.int (0 : Int32)), .val (.int (0 : Int32)), .val (.int (1 : Int32))] [(.long (0 : Int64)), (.int (1 : Int32)), (.int (0 : Int32)), (.ref b22_0)])) rfl (by rw [hml]; rfl) (argsL := [(.ref b22_0), (.int (0 : Int32)), (.int (1 : Int32)), (.long (0 : Int64))]) (rest := []) (lenOf pd___JIIJ_V rfl) rfl (by show 2 * 0 + _ ≤ _; exact Nat.le_of_eq rfl) (hb hby dd_prog_23_method_7_code_238) (fun _ _ => ⟨rfl, e79, (by decide : 3 + 0 ≤ _), (by decide : 3 + 0 ≤ _)⟩)
  dsimp only [Pt.U, Pt.locs, Pt.cells, Pt.slots] at X81 l81 y81 z81 st81 hQ81
  subst l81 y81 z81
  obtain ⟨rfl, Nq81, Kq81, g81_0⟩ := hQ81
  have N81 := Fr.app N74 Nq81
  have Z81 : n0 ≤ T81.heap.size := Nat.le_trans Z74 Kq81.1
  have K81 : Keep h0 T81.heap [o0] := Keep.trans K74 Kq81 (allS (Or.inr sz_b22_0) all0)
  have f82 := (((f66.keep Kq69 (ninS ne_o0_b34_0 nin0)).other W74 (Or.inl ne_o0_b10_0)).keep Kq81 (ninS ne_o0_b22_0 nin0))
  obtain ⟨T83, X83, e83, st83⟩ := getF X81 hx hZ hown (host := "") (Or.inl (wd27 hw)) Via.refl rfl f82 (g := (mkF m 243 #[.val (.ref o0), .val (.int (0 : Int32)), .val (.long y1), .second, .val (.int (0 : Int32)), .val (.int (0 : Int32)), .val (.int (1 : Int32))] [(.ref o0), (.ref o0)])) rfl rfl (hb hby dd_prog_23_method_7_code_243)
  have f84 := ((((((f43.wr W45).keep Kq51).keep Kq62).keep Kq69).wr W74).keep Kq81)
  obtain ⟨T85, h85, X85, e85, W85, st85⟩ := putF X83 hx hZ hown (host := "") (Or.inl (wd27 hw)) Via.refl e83 f82 f84 (Or.inl (wd28 hw)) (wd2 hw) (ty := .int) (by decide) rfl rfl (g := (mkF m 248 #[.val (.ref o0), .val (.int (0 : Int32)), .val (.long y1), .second, .val (.int (0 : Int32)), .val (.int (0 : Int32)), .val (.int (1 : Int32))] [(.int (1 : Int32)), (.ref o0)])) rfl rfl (hb hby dd_prog_23_method_7_code_248)
  have N85 := Fr.snoc X85 N81 g_o0
  have Z85 : n0 ≤ h85.size := by rw [W85.size]; exact Z81
  have K85 : Keep h0 h85 [o0] := (K81.wr W85 (Or.inl (List.mem_of_getElem? (i := 0) rfl)))
  have Fw85 := f82.same W85
  have f86 := (((f70.other W74 (Or.inl ne_o0_b10_0)).keep Kq81 (ninS ne_o0_b22_0 nin0)).other W85 (Or.inr (slot_ne (Or.inl (wd13 hw)) (Or.inl (wd28 hw)) (by decide) (t := (.array .long)) (t' := .int) (by decide) (by decide))))
  have f87 := (((((((Fw42.other W45 (Or.inr (slot_ne (Or.inl (wd26 hw)) (Or.inl (wd28 hw)) (by decide) (t := .int) (t' := .int) (by decide) (by decide)))).keep Kq51 (ninS ne_o0_b10_0 nin0)).keep Kq62 (ninS ne_o0_b22_0 nin0)).keep Kq69 (ninS ne_o0_b34_0 nin0)).other W74 (Or.inl ne_o0_b10_0)).keep Kq81 (ninS ne_o0_b22_0 nin0)).other W85 (Or.inr (slot_ne (Or.inl (wd26 hw)) (Or.inl (wd28 hw)) (by decide) (t := .int) (t' := .int) (by decide) (by decide))))
  have f88 := (f84.wr W85)
  have f89 := ((V74.keep Kq81 (ninS ne_b10_0_b22_0 nin0)).other W85 (Ne.symm ne_o0_b10_0))
  have f90 := ((f75.keep Kq81 (ninS ne_o0_b22_0 nin0)).other W85 (Or.inr (slot_ne (Or.inl (wd15 hw)) (Or.inl (wd28 hw)) (by decide) (t := (.array .long)) (t' := .int) (by decide) (by decide))))
  have f91 := ((f77.keep Kq81 (ninS ne_o0_b22_0 nin0)).other W85 (Or.inr (slot_ne (Or.inr (wd19 hw)) (Or.inl (wd28 hw)) (by decide) (t := .int) (t' := .int) (by decide) (by decide))))
  have f92 := (g81_0.other W85 (Ne.symm ne_o0_b22_0))
  have f93 := ((((f63.keep Kq69 (ninS ne_o0_b34_0 nin0)).other W74 (Or.inl ne_o0_b10_0)).keep Kq81 (ninS ne_o0_b22_0 nin0)).other W85 (Or.inr (slot_ne (Or.inl (wd17 hw)) (Or.inl (wd28 hw)) (by decide) (t := (.array .long)) (t' := .int) (by decide) (by decide))))
  have f94 := (((V69.other W74 (Ne.symm ne_b10_0_b34_0)).keep Kq81 (ninS (Ne.symm ne_b22_0_b34_0) nin0)).other W85 (Ne.symm ne_o0_b34_0))
  obtain ⟨lfs, lhr, lhrun, lhended, lhW, lhsame⟩ := X85.leave (v := some (.int (0 : Int32))) (fun h => by rw [Bd.returns] at h; cases h)
  refine ⟨_, _, pre0 _ ?_, lhrun, lhended, _, _, rfl, ?_, ⟨_, rfl⟩, lhW, lhsame.mono (by decide) (by decide)⟩
  · skip
    show Steps p.tables e below (s₁.setTop (mkF m 0 #[.val (.ref o0), .val (.int (0 : Int32)), .val (.long y1), .second, .unset, .unset, .unset] [])) _
    refine XS.iloadN X0.here hx rfl (hb hby dd_prog_23_method_7_code_0) rfl ?_
    refine XS.istore X0.here hx rfl (hb hby dd_prog_23_method_7_code_1) rfl (l' := #[.val (.ref o0), .val (.int (0 : Int32)), .val (.long y1), .second, .val (.int (0 : Int32)), .unset, .unset]) rfl ?_
    show Steps p.tables e below (s₁.setTop (mkF m 3 #[.val (.ref o0), .val (.int (0 : Int32)), .val (.long y1), .second, .val (.int (0 : Int32)), .unset, .unset] [])) _
    refine XS.aloadN X0.here hx rfl (hb hby dd_prog_23_method_7_code_3) rfl rfl ?_
    show Steps p.tables e below (s₁.setTop (mkF m 4 #[.val (.ref o0), .val (.int (0 : Int32)), .val (.long y1), .second, .val (.int (0 : Int32)), .unset, .unset] [(.ref o0)])) _
    refine st1 _ ?_
    show Steps p.tables e below (T1.setTop (mkF m 7 #[.val (.ref o0), .val (.int (0 : Int32)), .val (.long y1), .second, .val (.int (0 : Int32)), .unset, .unset] [(.int (0 : Int32))])) _
    refine XS.aloadN X1.here hx rfl (hb hby dd_prog_23_method_7_code_7) rfl rfl ?_
    show Steps p.tables e below (T1.setTop (mkF m 8 #[.val (.ref o0), .val (.int (0 : Int32)), .val (.long y1), .second, .val (.int (0 : Int32)), .unset, .unset] [(.ref o0), (.int (0 : Int32))])) _
    refine st2 _ ?_
    show Steps p.tables e below (T2.setTop (mkF m 11 #[.val (.ref o0), .val (.int (0 : Int32)), .val (.long y1), .second, .val (.int (0 : Int32)), .unset, .unset] [(.ref o2), (.int (0 : Int32))])) _
    refine X2.arraylength hx (by (try rw [e2]); exact Ar3.1) (State.isArrayOf_alike hZ.alike Ar3.2.1) (g := (mkF m 11 #[.val (.ref o0), .val (.int (0 : Int32)), .val (.long y1), .second, .val (.int (0 : Int32)), .unset, .unset] [(.ref o2), (.int (0 : Int32))])) rfl rfl (hb hby dd_prog_23_method_7_code_11) _ ?_
    rw [len_of S3 M3]
    refine XS.icmpNo X2.here hx rfl (hb hby dd_prog_23_method_7_code_12) rfl (teq (by decide : (0 : Int32) = (0 : Int32))).2 ?_
    show Steps p.tables e below (T2.setTop (mkF m 15 #[.val (.ref o0), .val (.int (0 : Int32)), .val (.long y1), .second, .val (.int (0 : Int32)), .unset, .unset] [])) _
    refine XS.aloadN X2.here hx rfl (hb hby dd_prog_23_method_7_code_15) rfl rfl ?_
    show Steps p.tables e below (T2.setTop (mkF m 16 #[.val (.ref o0), .val (.int (0 : Int32)), .val (.long y1), .second, .val (.int (0 : Int32)), .unset, .unset] [(.ref o0)])) _
    refine st4 _ ?_
    show Steps p.tables e below (T4.setTop (mkF m 19 #[.val (.ref o0), .val (.int (0 : Int32)), .val (.long y1), .second, .val (.int (0 : Int32)), .unset, .unset] [(.int (0 : Int32))])) _
    refine XS.aloadN X4.here hx rfl (hb hby dd_prog_23_method_7_code_19) rfl rfl ?_
    show Steps p.tables e below (T4.setTop (mkF m 20 #[.val (.ref o0), .val (.int (0 : Int32)), .val (.long y1), .second, .val (.int (0 : Int32)), .unset, .unset] [(.ref o0), (.int (0 : Int32))])) _
    refine st5 _ ?_
    show Steps p.tables e below (T5.setTop (mkF m 23 #[.val (.ref o0), .val (.int (0 : Int32)), .val (.long y1), .second, .val (.int (0 : Int32)), .unset, .unset] [(.int (0 : Int32)), (.int (0 : Int32))])) _
    refine XS.isub X5.here hx rfl (hb hby dd_prog_23_method_7_code_23) rfl ?_
    refine XS.istore X5.here hx rfl (hb hby dd_prog_23_method_7_code_24) rfl (l' := #[.val (.ref o0), .val (.int (0 : Int32)), .val (.long y1), .second, .val (.int (0 : Int32)), .val (.int (0 : Int32)), .unset]) rfl ?_
    show Steps p.tables e below (T5.setTop (mkF m 26 #[.val (.ref o0), .val (.int (0 : Int32)), .val (.long y1), .second, .val (.int (0 : Int32)), .val (.int (0 : Int32)), .unset] [])) _
    refine XS.iload X5.here hx rfl (hb hby dd_prog_23_method_7_code_26) rfl ?_
    refine XS.aloadN X5.here hx rfl (hb hby dd_prog_23_method_7_code_28) rfl rfl ?_
    show Steps p.tables e below (T5.setTop (mkF m 29 #[.val (.ref o0), .val (.int (0 : Int32)), .val (.long y1), .second, .val (.int (0 : Int32)), .val (.int (0 : Int32)), .unset] [(.ref o0), (.int (0 : Int32))])) _
    refine st6 _ ?_
    show Steps p.tables e below (T6.setTop (mkF m 32 #[.val (.ref o0), .val (.int (0 : Int32)), .val (.long y1), .second, .val (.int (0 : Int32)), .val (.int (0 : Int32)), .unset] [(.ref o2), (.int (0 : Int32))])) _
    refine X6.arraylength hx (by (try rw [e6]); exact Ar7.1) (State.isArrayOf_alike hZ.alike Ar7.2.1) (g := (mkF m 32 #[.val (.ref o0), .val (.int (0 : Int32)), .val (.long y1), .second, .val (.int (0 : Int32)), .val (.int (0 : Int32)), .unset] [(.ref o2), (.int (0 : Int32))])) rfl rfl (hb hby dd_prog_23_method_7_code_32) _ ?_
    rw [len_of S7 M7]
    refine XS.icmpNo X6.here hx rfl (hb hby dd_prog_23_method_7_code_33) rfl (teq (by decide : (0 : Int32) = (0 : Int32))).2 ?_
    refine XS.iconst X6.here hx rfl (hb hby dd_prog_23_method_7_code_36) ?_
    show Steps p.tables e below (T6.setTop (mkF m 37 #[.val (.ref o0), .val (.int (0 : Int32)), .val (.long y1), .second, .val (.int (0 : Int32)), .val (.int (0 : Int32)), .unset] [(.int (1 : Int32))])) _
    refine XS.iconst X6.here hx rfl (hb hby dd_prog_23_method_7_code_37) ?_
    refine XS.iload X6.here hx rfl (hb hby dd_prog_23_method_7_code_38) rfl ?_
    refine XS.imul X6.here hx rfl (hb hby dd_prog_23_method_7_code_40) rfl ?_
    show Steps p.tables e below (T6.setTop (mkF m 41 #[.val (.ref o0), .val (.int (0 : Int32)), .val (.long y1), .second, .val (.int (0 : Int32)), .val (.int (0 : Int32)), .unset] [(.int (0 : Int32)), (.int (1 : Int32))])) _
    refine st8 _ ?_
    show Steps p.tables e below (T8.setTop (mkF m 44 #[.val (.ref o0), .val (.int (0 : Int32)), .val (.long y1), .second, .val (.int (0 : Int32)), .val (.int (0 : Int32)), .unset] [(.int (1 : Int32))])) _
    refine XS.goto X8.here hx rfl (pc0 := 44) (pc' := 52) rfl (hb hby dd_prog_23_method_7_code_44) (by decide) (by decide) ?_
    refine XS.istore X8.here hx rfl (hb hby dd_prog_23_method_7_code_52) rfl (l' := #[.val (.ref o0), .val (.int (0 : Int32)), .val (.long y1), .second, .val (.int (0 : Int32)), .val (.int (0 : Int32)), .val (.int (1 : Int32))]) rfl ?_
    show Steps p.tables e below (T8.setTop (mkF m 54 #[.val (.ref o0), .val (.int (0 : Int32)), .val (.long y1), .second, .val (.int (0 : Int32)), .val (.int (0 : Int32)), .val (.int (1 : Int32))] [])) _
    refine XS.aloadN X8.here hx rfl (hb hby dd_prog_23_method_7_code_54) rfl rfl ?_
    refine XS.aloadN X8.here hx rfl (hb hby dd_prog_23_method_7_code_55) rfl rfl ?_
    refine XS.aloadN X8.here hx rfl (hb hby dd_prog_23_method_7_code_56) rfl rfl ?_
    show Steps p.tables e below (T8.setTop (mkF m 57 #[.val (.ref o0), .val (.int (0 : Int32)), .val (.long y1), .second, .val (.int (0 : Int32)), .val (.int (0 : Int32)), .val (.int (1 : Int32))] [(.ref o0), (.ref o0), (.ref o0)])) _
    refine st9 _ ?_
    show Steps p.tables e below (T9.setTop (mkF m 60 #[.val (.ref o0), .val (.int (0 : Int32)), .val (.long y1), .second, .val (.int (0 : Int32)), .val (.int (0 : Int32)), .val (.int (1 : Int32))] [(.ref o2), (.ref o0), (.ref o0)])) _
    refine XS.iconst X9.here hx rfl (hb hby dd_prog_23_method_7_code_60) ?_
    refine XS.iload X9.here hx rfl (hb hby dd_prog_23_method_7_code_61) rfl ?_
    show Steps p.tables e below (T9.setTop (mkF m 63 #[.val (.ref o0), .val (.int (0 : Int32)), .val (.long y1), .second, .val (.int (0 : Int32)), .val (.int (0 : Int32)), .val (.int (1 : Int32))] [(.int (1 : Int32)), (.int (1 : Int32)), (.ref o2), (.ref o0), (.ref o0)])) _
    refine st10.trans ?_
    show Steps p.tables e below (T10.setTop (mkF m 66 #[.val (.ref o0), .val (.int (0 : Int32)), .val (.long y1), .second, .val (.int (0 : Int32)), .val (.int (0 : Int32)), .val (.int (1 : Int32))] [(.ref b10_0), (.ref o0)])) _
    refine st13 _ ?_
    show Steps p.tables e below (T13.setTop (mkF m 69 #[.val (.ref o0), .val (.int (0 : Int32)), .val (.long y1), .second, .val (.int (0 : Int32)), .val (.int (0 : Int32)), .val (.int (1 : Int32))] [])) _
    refine XS.aloadN X13.here hx rfl (hb hby dd_prog_23_method_7_code_69) rfl rfl ?_
    show Steps p.tables e below (T13.setTop (mkF m 70 #[.val (.ref o0), .val (.int (0 : Int32)), .val (.long y1), .second, .val (.int (0 : Int32)), .val (.int (0 : Int32)), .val (.int (1 : Int32))] [(.ref o0)])) _
    refine XS.aloadN X13.here hx rfl (hb hby dd_prog_23_method_7_code_70) rfl rfl ?_
    refine XS.aloadN X13.here hx rfl (hb hby dd_prog_23_method_7_code_71) rfl rfl ?_
    show Steps p.tables e below (T13.setTop (mkF m 72 #[.val (.ref o0), .val (.int (0 : Int32)), .val (.long y1), .second, .val (.int (0 : Int32)), .val (.int (0 : Int32)), .val (.int (1 : Int32))] [(.ref o0), (.ref o0), (.ref o0)])) _
    refine st15 _ ?_
    show Steps p.tables e below (T15.setTop (mkF m 75 #[.val (.ref o0), .val (.int (0 : Int32)), .val (.long y1), .second, .val (.int (0 : Int32)), .val (.int (0 : Int32)), .val (.int (1 : Int32))] [(.ref o2), (.ref o0), (.ref o0)])) _
    refine XS.aloadN X15.here hx rfl (hb hby dd_prog_23_method_7_code_75) rfl rfl ?_
    show Steps p.tables e below (T15.setTop (mkF m 76 #[.val (.ref o0), .val (.int (0 : Int32)), .val (.long y1), .second, .val (.int (0 : Int32)), .val (.int (0 : Int32)), .val (.int (1 : Int32))] [(.ref o0), (.ref o2), (.ref o0), (.ref o0)])) _
    refine st17 _ ?_
    show Steps p.tables e below (T17.setTop (mkF m 79 #[.val (.ref o0), .val (.int (0 : Int32)), .val (.long y1), .second, .val (.int (0 : Int32)), .val (.int (0 : Int32)), .val (.int (1 : Int32))] [(.int (1 : Int32)), (.ref o2), (.ref o0), (.ref o0)])) _
    refine XS.iload X17.here hx rfl (hb hby dd_prog_23_method_7_code_79) rfl ?_
    show Steps p.tables e below (T17.setTop (mkF m 81 #[.val (.ref o0), .val (.int (0 : Int32)), .val (.long y1), .second, .val (.int (0 : Int32)), .val (.int (0 : Int32)), .val (.int (1 : Int32))] [(.int (1 : Int32)), (.int (1 : Int32)), (.ref o2), (.ref o0), (.ref o0)])) _
    refine st22.trans ?_
    show Steps p.tables e below (T22.setTop (mkF m 84 #[.val (.ref o0), .val (.int (0 : Int32)), .val (.long y1), .second, .val (.int (0 : Int32)), .val (.int (0 : Int32)), .val (.int (1 : Int32))] [(.ref b22_0), (.ref o0)])) _
    refine st26 _ ?_
    show Steps p.tables e below (T26.setTop (mkF m 87 #[.val (.ref o0), .val (.int (0 : Int32)), .val (.long y1), .second, .val (.int (0 : Int32)), .val (.int (0 : Int32)), .val (.int (1 : Int32))] [])) _
    refine XS.aloadN X26.here hx rfl (hb hby dd_prog_23_method_7_code_87) rfl rfl ?_
    show Steps p.tables e below (T26.setTop (mkF m 88 #[.val (.ref o0), .val (.int (0 : Int32)), .val (.long y1), .second, .val (.int (0 : Int32)), .val (.int (0 : Int32)), .val (.int (1 : Int32))] [(.ref o0)])) _
    refine XS.aloadN X26.here hx rfl (hb hby dd_prog_23_method_7_code_88) rfl rfl ?_
    refine XS.aloadN X26.here hx rfl (hb hby dd_prog_23_method_7_code_89) rfl rfl ?_
    show Steps p.tables e below (T26.setTop (mkF m 90 #[.val (.ref o0), .val (.int (0 : Int32)), .val (.long y1), .second, .val (.int (0 : Int32)), .val (.int (0 : Int32)), .val (.int (1 : Int32))] [(.ref o0), (.ref o0), (.ref o0)])) _
    refine st28 _ ?_
    show Steps p.tables e below (T28.setTop (mkF m 93 #[.val (.ref o0), .val (.int (0 : Int32)), .val (.long y1), .second, .val (.int (0 : Int32)), .val (.int (0 : Int32)), .val (.int (1 : Int32))] [(.ref o2), (.ref o0), (.ref o0)])) _
    refine XS.iconst X28.here hx rfl (hb hby dd_prog_23_method_7_code_93) ?_
    refine XS.iload X28.here hx rfl (hb hby dd_prog_23_method_7_code_94) rfl ?_
    show Steps p.tables e below (T28.setTop (mkF m 96 #[.val (.ref o0), .val (.int (0 : Int32)), .val (.long y1), .second, .val (.int (0 : Int32)), .val (.int (0 : Int32)), .val (.int (1 : Int32))] [(.int (1 : Int32)), (.int (1 : Int32)), (.ref o2), (.ref o0), (.ref o0)])) _
    refine st34.trans ?_
    show Steps p.tables e below (T34.setTop (mkF m 99 #[.val (.ref o0), .val (.int (0 : Int32)), .val (.long y1), .second, .val (.int (0 : Int32)), .val (.int (0 : Int32)), .val (.int (1 : Int32))] [(.ref b34_0), (.ref o0)])) _
    refine st38 _ ?_
    show Steps p.tables e below (T38.setTop (mkF m 102 #[.val (.ref o0), .val (.int (0 : Int32)), .val (.long y1), .second, .val (.int (0 : Int32)), .val (.int (0 : Int32)), .val (.int (1 : Int32))] [])) _
    refine XS.iload X38.here hx rfl (hb hby dd_prog_23_method_7_code_102) rfl ?_
    refine XS.aloadN X38.here hx rfl (hb hby dd_prog_23_method_7_code_104) rfl rfl ?_
    show Steps p.tables e below (T38.setTop (mkF m 105 #[.val (.ref o0), .val (.int (0 : Int32)), .val (.long y1), .second, .val (.int (0 : Int32)), .val (.int (0 : Int32)), .val (.int (1 : Int32))] [(.ref o0), (.int (0 : Int32))])) _
    refine st40 _ ?_
    show Steps p.tables e below (T40.setTop (mkF m 108 #[.val (.ref o0), .val (.int (0 : Int32)), .val (.long y1), .second, .val (.int (0 : Int32)), .val (.int (0 : Int32)), .val (.int (1 : Int32))] [(.int (0 : Int32)), (.int (0 : Int32))])) _
    refine XS.isub X40.here hx rfl (hb hby dd_prog_23_method_7_code_108) rfl ?_
    refine XS.istore X40.here hx rfl (hb hby dd_prog_23_method_7_code_109) rfl (l' := #[.val (.ref o0), .val (.int (0 : Int32)), .val (.long y1), .second, .val (.int (0 : Int32)), .val (.int (0 : Int32)), .val (.int (1 : Int32))]) rfl ?_
    show Steps p.tables e below (T40.setTop (mkF m 111 #[.val (.ref o0), .val (.int (0 : Int32)), .val (.long y1), .second, .val (.int (0 : Int32)), .val (.int (0 : Int32)), .val (.int (1 : Int32))] [])) _
    refine XS.aloadN X40.here hx rfl (hb hby dd_prog_23_method_7_code_111) rfl rfl ?_
    refine XS.iconst X40.here hx rfl (hb hby dd_prog_23_method_7_code_112) ?_
    show Steps p.tables e below (T40.setTop (mkF m 113 #[.val (.ref o0), .val (.int (0 : Int32)), .val (.long y1), .second, .val (.int (0 : Int32)), .val (.int (0 : Int32)), .val (.int (1 : Int32))] [(.int (0 : Int32)), (.ref o0)])) _
    refine st42 _ ?_
    show Steps p.tables e below (T42.setTop (mkF m 116 #[.val (.ref o0), .val (.int (0 : Int32)), .val (.long y1), .second, .val (.int (0 : Int32)), .val (.int (0 : Int32)), .val (.int (1 : Int32))] [])) _
    refine XS.aloadN X42.here hx rfl (hb hby dd_prog_23_method_7_code_116) rfl rfl ?_
    refine XS.iload X42.here hx rfl (hb hby dd_prog_23_method_7_code_117) rfl ?_
    show Steps p.tables e below (T42.setTop (mkF m 119 #[.val (.ref o0), .val (.int (0 : Int32)), .val (.long y1), .second, .val (.int (0 : Int32)), .val (.int (0 : Int32)), .val (.int (1 : Int32))] [(.int (0 : Int32)), (.ref o0)])) _
    refine st45 _ ?_
    show Steps p.tables e below (T45.setTop (mkF m 122 #[.val (.ref o0), .val (.int (0 : Int32)), .val (.long y1), .second, .val (.int (0 : Int32)), .val (.int (0 : Int32)), .val (.int (1 : Int32))] [])) _
    refine XS.aloadN X45.here hx rfl (hb hby dd_prog_23_method_7_code_122) rfl rfl ?_
    show Steps p.tables e below (T45.setTop (mkF m 123 #[.val (.ref o0), .val (.int (0 : Int32)), .val (.long y1), .second, .val (.int (0 : Int32)), .val (.int (0 : Int32)), .val (.int (1 : Int32))] [(.ref o0)])) _
    refine st47 _ ?_
    show Steps p.tables e below (T47.setTop (mkF m 126 #[.val (.ref o0), .val (.int (0 : Int32)), .val (.long y1), .second, .val (.int (0 : Int32)), .val (.int (0 : Int32)), .val (.int (1 : Int32))] [(.ref b10_0)])) _
    refine XS.iload X47.here hx rfl (hb hby dd_prog_23_method_7_code_126) rfl ?_
    show Steps p.tables e below (T47.setTop (mkF m 128 #[.val (.ref o0), .val (.int (0 : Int32)), .val (.long y1), .second, .val (.int (0 : Int32)), .val (.int (0 : Int32)), .val (.int (1 : Int32))] [(.int (0 : Int32)), (.ref b10_0)])) _
    refine XS.aloadN X47.here hx rfl (hb hby dd_prog_23_method_7_code_128) rfl rfl ?_
    show Steps p.tables e below (T47.setTop (mkF m 129 #[.val (.ref o0), .val (.int (0 : Int32)), .val (.long y1), .second, .val (.int (0 : Int32)), .val (.int (0 : Int32)), .val (.int (1 : Int32))] [(.ref o0), (.int (0 : Int32)), (.ref b10_0)])) _
    refine st48 _ ?_
    show Steps p.tables e below (T48.setTop (mkF m 132 #[.val (.ref o0), .val (.int (0 : Int32)), .val (.long y1), .second, .val (.int (0 : Int32)), .val (.int (0 : Int32)), .val (.int (1 : Int32))] [(.ref b10_0), (.int (0 : Int32)), (.ref b10_0)])) _
    refine XS.iload X48.here hx rfl (hb hby dd_prog_23_method_7_code_132) rfl ?_
    show Steps p.tables e below (T48.setTop (mkF m 134 #[.val (.ref o0), .val (.int (0 : Int32)), .val (.long y1), .second, .val (.int (0 : Int32)), .val (.int (0 : Int32)), .val (.int (1 : Int32))] [(.int (0 : Int32)), (.ref b10_0), (.int (0 : Int32)), (.ref b10_0)])) _
    refine XS.iconst X48.here hx rfl (hb hby dd_prog_23_method_7_code_134) ?_
    refine XS.iadd X48.here hx rfl (hb hby dd_prog_23_method_7_code_135) rfl ?_
    refine XS.aloadN X48.here hx rfl (hb hby dd_prog_23_method_7_code_136) rfl rfl ?_
    show Steps p.tables e below (T48.setTop (mkF m 137 #[.val (.ref o0), .val (.int (0 : Int32)), .val (.long y1), .second, .val (.int (0 : Int32)), .val (.int (0 : Int32)), .val (.int (1 : Int32))] [(.ref o0), (.int (1 : Int32)), (.ref b10_0), (.int (0 : Int32)), (.ref b10_0)])) _
    refine st49 _ ?_
    show Steps p.tables e below (T49.setTop (mkF m 140 #[.val (.ref o0), .val (.int (0 : Int32)), .val (.long y1), .second, .val (.int (0 : Int32)), .val (.int (0 : Int32)), .val (.int (1 : Int32))] [(.int (0 : Int32)), (.int (1 : Int32)), (.ref b10_0), (.int (0 : Int32)), (.ref b10_0)])) _
    refine XS.iload X49.here hx rfl (hb hby dd_prog_23_method_7_code_140) rfl ?_
    refine XS.isub X49.here hx rfl (hb hby dd_prog_23_method_7_code_142) rfl ?_
    show Steps p.tables e below (T49.setTop (mkF m 143 #[.val (.ref o0), .val (.int (0 : Int32)), .val (.long y1), .second, .val (.int (0 : Int32)), .val (.int (0 : Int32)), .val (.int (1 : Int32))] [(.int (0 : Int32)), (.int (1 : Int32)), (.ref b10_0), (.int (0 : Int32)), (.ref b10_0)])) _
    refine st51 _ ?_
    show Steps p.tables e below (T51.setTop (mkF m 146 #[.val (.ref o0), .val (.int (0 : Int32)), .val (.long y1), .second, .val (.int (0 : Int32)), .val (.int (0 : Int32)), .val (.int (1 : Int32))] [])) _
    refine XS.aloadN X51.here hx rfl (hb hby dd_prog_23_method_7_code_146) rfl rfl ?_
    show Steps p.tables e below (T51.setTop (mkF m 147 #[.val (.ref o0), .val (.int (0 : Int32)), .val (.long y1), .second, .val (.int (0 : Int32)), .val (.int (0 : Int32)), .val (.int (1 : Int32))] [(.ref o0)])) _
    refine st53 _ ?_
    show Steps p.tables e below (T53.setTop (mkF m 150 #[.val (.ref o0), .val (.int (0 : Int32)), .val (.long y1), .second, .val (.int (0 : Int32)), .val (.int (0 : Int32)), .val (.int (1 : Int32))] [(.ref b22_0)])) _
    refine XS.iload X53.here hx rfl (hb hby dd_prog_23_method_7_code_150) rfl ?_
    refine XS.aloadN X53.here hx rfl (hb hby dd_prog_23_method_7_code_152) rfl rfl ?_
    show Steps p.tables e below (T53.setTop (mkF m 153 #[.val (.ref o0), .val (.int (0 : Int32)), .val (.long y1), .second, .val (.int (0 : Int32)), .val (.int (0 : Int32)), .val (.int (1 : Int32))] [(.ref o0), (.int (0 : Int32)), (.ref b22_0)])) _
    refine st55 _ ?_
    show Steps p.tables e below (T55.setTop (mkF m 156 #[.val (.ref o0), .val (.int (0 : Int32)), .val (.long y1), .second, .val (.int (0 : Int32)), .val (.int (0 : Int32)), .val (.int (1 : Int32))] [(.int (1 : Int32)), (.int (0 : Int32)), (.ref b22_0)])) _
    refine XS.imul X55.here hx rfl (hb hby dd_prog_23_method_7_code_156) rfl ?_
    refine XS.aloadN X55.here hx rfl (hb hby dd_prog_23_method_7_code_157) rfl rfl ?_
    show Steps p.tables e below (T55.setTop (mkF m 158 #[.val (.ref o0), .val (.int (0 : Int32)), .val (.long y1), .second, .val (.int (0 : Int32)), .val (.int (0 : Int32)), .val (.int (1 : Int32))] [(.ref o0), (.int (0 : Int32)), (.ref b22_0)])) _
    refine st56 _ ?_
    show Steps p.tables e below (T56.setTop (mkF m 161 #[.val (.ref o0), .val (.int (0 : Int32)), .val (.long y1), .second, .val (.int (0 : Int32)), .val (.int (0 : Int32)), .val (.int (1 : Int32))] [(.ref b22_0), (.int (0 : Int32)), (.ref b22_0)])) _
    refine XS.iload X56.here hx rfl (hb hby dd_prog_23_method_7_code_161) rfl ?_
    refine XS.iconst X56.here hx rfl (hb hby dd_prog_23_method_7_code_163) ?_
    refine XS.iadd X56.here hx rfl (hb hby dd_prog_23_method_7_code_164) rfl ?_
    show Steps p.tables e below (T56.setTop (mkF m 165 #[.val (.ref o0), .val (.int (0 : Int32)), .val (.long y1), .second, .val (.int (0 : Int32)), .val (.int (0 : Int32)), .val (.int (1 : Int32))] [(.int (1 : Int32)), (.ref b22_0), (.int (0 : Int32)), (.ref b22_0)])) _
    refine XS.aloadN X56.here hx rfl (hb hby dd_prog_23_method_7_code_165) rfl rfl ?_
    show Steps p.tables e below (T56.setTop (mkF m 166 #[.val (.ref o0), .val (.int (0 : Int32)), .val (.long y1), .second, .val (.int (0 : Int32)), .val (.int (0 : Int32)), .val (.int (1 : Int32))] [(.ref o0), (.int (1 : Int32)), (.ref b22_0), (.int (0 : Int32)), (.ref b22_0)])) _
    refine st57 _ ?_
    show Steps p.tables e below (T57.setTop (mkF m 169 #[.val (.ref o0), .val (.int (0 : Int32)), .val (.long y1), .second, .val (.int (0 : Int32)), .val (.int (0 : Int32)), .val (.int (1 : Int32))] [(.int (1 : Int32)), (.int (1 : Int32)), (.ref b22_0), (.int (0 : Int32)), (.ref b22_0)])) _
    refine XS.imul X57.here hx rfl (hb hby dd_prog_23_method_7_code_169) rfl ?_
    show Steps p.tables e below (T57.setTop (mkF m 170 #[.val (.ref o0), .val (.int (0 : Int32)), .val (.long y1), .second, .val (.int (0 : Int32)), .val (.int (0 : Int32)), .val (.int (1 : Int32))] [(.int (1 : Int32)), (.ref b22_0), (.int (0 : Int32)), (.ref b22_0)])) _
    refine XS.aloadN X57.here hx rfl (hb hby dd_prog_23_method_7_code_170) rfl rfl ?_
    show Steps p.tables e below (T57.setTop (mkF m 171 #[.val (.ref o0), .val (.int (0 : Int32)), .val (.long y1), .second, .val (.int (0 : Int32)), .val (.int (0 : Int32)), .val (.int (1 : Int32))] [(.ref o0), (.int (1 : Int32)), (.ref b22_0), (.int (0 : Int32)), (.ref b22_0)])) _
    refine st59 _ ?_
    show Steps p.tables e below (T59.setTop (mkF m 174 #[.val (.ref o0), .val (.int (0 : Int32)), .val (.long y1), .second, .val (.int (0 : Int32)), .val (.int (0 : Int32)), .val (.int (1 : Int32))] [(.int (0 : Int32)), (.int (1 : Int32)), (.ref b22_0), (.int (0 : Int32)), (.ref b22_0)])) _
    refine XS.iload X59.here hx rfl (hb hby dd_prog_23_method_7_code_174) rfl ?_
    show Steps p.tables e below (T59.setTop (mkF m 176 #[.val (.ref o0), .val (.int (0 : Int32)), .val (.long y1), .second, .val (.int (0 : Int32)), .val (.int (0 : Int32)), .val (.int (1 : Int32))] [(.int (0 : Int32)), (.int (0 : Int32)), (.int (1 : Int32)), (.ref b22_0), (.int (0 : Int32)), (.ref b22_0)])) _
    refine XS.isub X59.here hx rfl (hb hby dd_prog_23_method_7_code_176) rfl ?_
    refine XS.aloadN X59.here hx rfl (hb hby dd_prog_23_method_7_code_177) rfl rfl ?_
    show Steps p.tables e below (T59.setTop (mkF m 178 #[.val (.ref o0), .val (.int (0 : Int32)), .val (.long y1), .second, .val (.int (0 : Int32)), .val (.int (0 : Int32)), .val (.int (1 : Int32))] [(.ref o0), (.int (0 : Int32)), (.int (1 : Int32)), (.ref b22_0), (.int (0 : Int32)), (.ref b22_0)])) _
    refine st60 _ ?_
    show Steps p.tables e below (T60.setTop (mkF m 181 #[.val (.ref o0), .val (.int (0 : Int32)), .val (.long y1), .second, .val (.int (0 : Int32)), .val (.int (0 : Int32)), .val (.int (1 : Int32))] [(.int (1 : Int32)), (.int (0 : Int32)), (.int (1 : Int32)), (.ref b22_0), (.int (0 : Int32)), (.ref b22_0)])) _
    refine XS.imul X60.here hx rfl (hb hby dd_prog_23_method_7_code_181) rfl ?_
    show Steps p.tables e below (T60.setTop (mkF m 182 #[.val (.ref o0), .val (.int (0 : Int32)), .val (.long y1), .second, .val (.int (0 : Int32)), .val (.int (0 : Int32)), .val (.int (1 : Int32))] [(.int (0 : Int32)), (.int (1 : Int32)), (.ref b22_0), (.int (0 : Int32)), (.ref b22_0)])) _
    refine st62 _ ?_
    show Steps p.tables e below (T62.setTop (mkF m 185 #[.val (.ref o0), .val (.int (0 : Int32)), .val (.long y1), .second, .val (.int (0 : Int32)), .val (.int (0 : Int32)), .val (.int (1 : Int32))] [])) _
    refine XS.aloadN X62.here hx rfl (hb hby dd_prog_23_method_7_code_185) rfl rfl ?_
    show Steps p.tables e below (T62.setTop (mkF m 186 #[.val (.ref o0), .val (.int (0 : Int32)), .val (.long y1), .second, .val (.int (0 : Int32)), .val (.int (0 : Int32)), .val (.int (1 : Int32))] [(.ref o0)])) _
    refine st64 _ ?_
    show Steps p.tables e below (T64.setTop (mkF m 189 #[.val (.ref o0), .val (.int (0 : Int32)), .val (.long y1), .second, .val (.int (0 : Int32)), .val (.int (0 : Int32)), .val (.int (1 : Int32))] [(.ref b34_0)])) _
    refine XS.iload X64.here hx rfl (hb hby dd_prog_23_method_7_code_189) rfl ?_
    refine XS.aloadN X64.here hx rfl (hb hby dd_prog_23_method_7_code_191) rfl rfl ?_
    show Steps p.tables e below (T64.setTop (mkF m 192 #[.val (.ref o0), .val (.int (0 : Int32)), .val (.long y1), .second, .val (.int (0 : Int32)), .val (.int (0 : Int32)), .val (.int (1 : Int32))] [(.ref o0), (.int (0 : Int32)), (.ref b34_0)])) _
    refine st65 _ ?_
    show Steps p.tables e below (T65.setTop (mkF m 195 #[.val (.ref o0), .val (.int (0 : Int32)), .val (.long y1), .second, .val (.int (0 : Int32)), .val (.int (0 : Int32)), .val (.int (1 : Int32))] [(.ref b34_0), (.int (0 : Int32)), (.ref b34_0)])) _
    refine XS.iload X65.here hx rfl (hb hby dd_prog_23_method_7_code_195) rfl ?_
    refine XS.iconst X65.here hx rfl (hb hby dd_prog_23_method_7_code_197) ?_
    show Steps p.tables e below (T65.setTop (mkF m 198 #[.val (.ref o0), .val (.int (0 : Int32)), .val (.long y1), .second, .val (.int (0 : Int32)), .val (.int (0 : Int32)), .val (.int (1 : Int32))] [(.int (1 : Int32)), (.int (0 : Int32)), (.ref b34_0), (.int (0 : Int32)), (.ref b34_0)])) _
    refine XS.iadd X65.here hx rfl (hb hby dd_prog_23_method_7_code_198) rfl ?_
    refine XS.aloadN X65.here hx rfl (hb hby dd_prog_23_method_7_code_199) rfl rfl ?_
    show Steps p.tables e below (T65.setTop (mkF m 200 #[.val (.ref o0), .val (.int (0 : Int32)), .val (.long y1), .second, .val (.int (0 : Int32)), .val (.int (0 : Int32)), .val (.int (1 : Int32))] [(.ref o0), (.int (1 : Int32)), (.ref b34_0), (.int (0 : Int32)), (.ref b34_0)])) _
    refine st67 _ ?_
    show Steps p.tables e below (T67.setTop (mkF m 203 #[.val (.ref o0), .val (.int (0 : Int32)), .val (.long y1), .second, .val (.int (0 : Int32)), .val (.int (0 : Int32)), .val (.int (1 : Int32))] [(.int (0 : Int32)), (.int (1 : Int32)), (.ref b34_0), (.int (0 : Int32)), (.ref b34_0)])) _
    refine XS.iload X67.here hx rfl (hb hby dd_prog_23_method_7_code_203) rfl ?_
    refine XS.isub X67.here hx rfl (hb hby dd_prog_23_method_7_code_205) rfl ?_
    show Steps p.tables e below (T67.setTop (mkF m 206 #[.val (.ref o0), .val (.int (0 : Int32)), .val (.long y1), .second, .val (.int (0 : Int32)), .val (.int (0 : Int32)), .val (.int (1 : Int32))] [(.int (0 : Int32)), (.int (1 : Int32)), (.ref b34_0), (.int (0 : Int32)), (.ref b34_0)])) _
    refine st69 _ ?_
    show Steps p.tables e below (T69.setTop (mkF m 209 #[.val (.ref o0), .val (.int (0 : Int32)), .val (.long y1), .second, .val (.int (0 : Int32)), .val (.int (0 : Int32)), .val (.int (1 : Int32))] [])) _
    refine XS.aloadN X69.here hx rfl (hb hby dd_prog_23_method_7_code_209) rfl rfl ?_
    show Steps p.tables e below (T69.setTop (mkF m 210 #[.val (.ref o0), .val (.int (0 : Int32)), .val (.long y1), .second, .val (.int (0 : Int32)), .val (.int (0 : Int32)), .val (.int (1 : Int32))] [(.ref o0)])) _
    refine st71 _ ?_
    show Steps p.tables e below (T71.setTop (mkF m 213 #[.val (.ref o0), .val (.int (0 : Int32)), .val (.long y1), .second, .val (.int (0 : Int32)), .val (.int (0 : Int32)), .val (.int (1 : Int32))] [(.ref b10_0)])) _
    refine XS.iload X71.here hx rfl (hb hby dd_prog_23_method_7_code_213) rfl ?_
    show Steps p.tables e below (T71.setTop (mkF m 215 #[.val (.ref o0), .val (.int (0 : Int32)), .val (.long y1), .second, .val (.int (0 : Int32)), .val (.int (0 : Int32)), .val (.int (1 : Int32))] [(.int (0 : Int32)), (.ref b10_0)])) _
    refine XS.lloadN X71.here hx rfl (hb hby dd_prog_23_method_7_code_215) rfl ?_
    show Steps p.tables e below (T71.setTop (mkF m 216 #[.val (.ref o0), .val (.int (0 : Int32)), .val (.long y1), .second, .val (.int (0 : Int32)), .val (.int (0 : Int32)), .val (.int (1 : Int32))] [(.long y1), (.int (0 : Int32)), (.ref b10_0)])) _
    refine st74 _ ?_
    show Steps p.tables e below (T74.setTop (mkF m 217 #[.val (.ref o0), .val (.int (0 : Int32)), .val (.long y1), .second, .val (.int (0 : Int32)), .val (.int (0 : Int32)), .val (.int (1 : Int32))] [])) _
    refine XS.aloadN X74.here hx rfl (hb hby dd_prog_23_method_7_code_217) rfl rfl ?_
    show Steps p.tables e below (T74.setTop (mkF m 218 #[.val (.ref o0), .val (.int (0 : Int32)), .val (.long y1), .second, .val (.int (0 : Int32)), .val (.int (0 : Int32)), .val (.int (1 : Int32))] [(.ref o0)])) _
    refine st76 _ ?_
    show Steps p.tables e below (T76.setTop (mkF m 221 #[.val (.ref o0), .val (.int (0 : Int32)), .val (.long y1), .second, .val (.int (0 : Int32)), .val (.int (0 : Int32)), .val (.int (1 : Int32))] [(.ref b22_0)])) _
    refine XS.iload X76.here hx rfl (hb hby dd_prog_23_method_7_code_221) rfl ?_
    refine XS.aloadN X76.here hx rfl (hb hby dd_prog_23_method_7_code_223) rfl rfl ?_
    show Steps p.tables e below (T76.setTop (mkF m 224 #[.val (.ref o0), .val (.int (0 : Int32)), .val (.long y1), .second, .val (.int (0 : Int32)), .val (.int (0 : Int32)), .val (.int (1 : Int32))] [(.ref o0), (.int (0 : Int32)), (.ref b22_0)])) _
    refine st78 _ ?_
    show Steps p.tables e below (T78.setTop (mkF m 227 #[.val (.ref o0), .val (.int (0 : Int32)), .val (.long y1), .second, .val (.int (0 : Int32)), .val (.int (0 : Int32)), .val (.int (1 : Int32))] [(.int (1 : Int32)), (.int (0 : Int32)), (.ref b22_0)])) _
    refine XS.imul X78.here hx rfl (hb hby dd_prog_23_method_7_code_227) rfl ?_
    refine XS.iload X78.here hx rfl (hb hby dd_prog_23_method_7_code_228) rfl ?_
    show Steps p.tables e below (T78.setTop (mkF m 230 #[.val (.ref o0), .val (.int (0 : Int32)), .val (.long y1), .second, .val (.int (0 : Int32)), .val (.int (0 : Int32)), .val (.int (1 : Int32))] [(.int (0 : Int32)), (.int (0 : Int32)), (.ref b22_0)])) _
    refine XS.iconst X78.here hx rfl (hb hby dd_prog_23_method_7_code_230) ?_
    refine XS.iadd X78.here hx rfl (hb hby dd_prog_23_method_7_code_231) rfl ?_
    refine XS.aloadN X78.here hx rfl (hb hby dd_prog_23_method_7_code_232) rfl rfl ?_
    show Steps p.tables e below (T78.setTop (mkF m 233 #[.val (.ref o0), .val (.int (0 : Int32)), .val (.long y1), .second, .val (.int (0 : Int32)), .val (.int (0 : Int32)), .val (.int (1 : Int32))] [(.ref o0), (.int (1 : Int32)), (.int (0 : Int32)), (.ref b22_0)])) _
    refine st79 _ ?_
    show Steps p.tables e below (T79.setTop (mkF m 236 #[.val (.ref o0), .val (.int (0 : Int32)), .val (.long y1), .second, .val (.int (0 : Int32)), .val (.int (0 : Int32)), .val (.int (1 : Int32))] [(.int (1 : Int32)), (.int (1 : Int32)), (.int (0 : Int32)), (.ref b22_0)])) _
    refine XS.imul X79.here hx rfl (hb hby dd_prog_23_method_7_code_236) rfl ?_
    refine XS.lconst X79.here hx rfl (hb hby dd_prog_23_method_7_code_237) ?_
    show Steps p.tables e below (T79.setTop (mkF m 238 #[.val (.ref o0), .val (.int (0 : Int32)), .val (.long y1), .second, .val (.int (0 : Int32)), .val (.int (0 : Int32)), .val (.int (1 : Int32))] [(.long (0 : Int64)), (.int (1 : Int32)), (.int (0 : Int32)), (.ref b22_0)])) _
    refine st81 _ ?_
    show Steps p.tables e below (T81.setTop (mkF m 241 #[.val (.ref o0), .val (.int (0 : Int32)), .val (.long y1), .second, .val (.int (0 : Int32)), .val (.int (0 : Int32)), .val (.int (1 : Int32))] [])) _
    refine XS.aloadN X81.here hx rfl (hb hby dd_prog_23_method_7_code_241) rfl rfl ?_
    refine XS.dup X81.here hx rfl (hb hby dd_prog_23_method_7_code_242) rfl rfl ?_
    show Steps p.tables e below (T81.setTop (mkF m 243 #[.val (.ref o0), .val (.int (0 : Int32)), .val (.long y1), .second, .val (.int (0 : Int32)), .val (.int (0 : Int32)), .val (.int (1 : Int32))] [(.ref o0), (.ref o0)])) _
    refine st83 _ ?_
    show Steps p.tables e below (T83.setTop (mkF m 246 #[.val (.ref o0), .val (.int (0 : Int32)), .val (.long y1), .second, .val (.int (0 : Int32)), .val (.int (0 : Int32)), .val (.int (1 : Int32))] [(.int (0 : Int32)), (.ref o0)])) _
    refine XS.iconst X83.here hx rfl (hb hby dd_prog_23_method_7_code_246) ?_
    refine XS.iadd X83.here hx rfl (hb hby dd_prog_23_method_7_code_247) rfl ?_
    show Steps p.tables e below (T83.setTop (mkF m 248 #[.val (.ref o0), .val (.int (0 : Int32)), .val (.long y1), .second, .val (.int (0 : Int32)), .val (.int (0 : Int32)), .val (.int (1 : Int32))] [(.int (1 : Int32)), (.ref o0)])) _
    refine st85 _ ?_
    show Steps p.tables e below (T85.setTop (mkF m 251 #[.val (.ref o0), .val (.int (0 : Int32)), .val (.long y1), .second, .val (.int (0 : Int32)), .val (.int (0 : Int32)), .val (.int (1 : Int32))] [])) _
    refine XS.iload X85.here hx rfl (hb hby dd_prog_23_method_7_code_251) rfl ?_
    show Steps p.tables e below (T85.setTop (mkF m 253 #[.val (.ref o0), .val (.int (0 : Int32)), .val (.long y1), .second, .val (.int (0 : Int32)), .val (.int (0 : Int32)), .val (.int (1 : Int32))] [(.int (0 : Int32))])) _
    exact retI X85 hx Bd.returns (hb hby dd_prog_23_method_7_code_253) lhr
  · skip
    show QA6 Z o0 y1 o2 kk_o2 h0 n0 _ T85.heap _
    rw [e85]
    exact ⟨b10_0, b22_0, b34_0, _, _, _, rfl, N85, K85, sz_b10_0, sz_b22_0, sz_b34_0, ne_b10_0_b22_0, ne_b10_0_b34_0, ne_b22_0_b34_0, Fw85, f86, f87, f88, f89, f90, f91, f92, f93, f94⟩
theorem pd__IJ_I : parseMethodDescriptor "(IJ)I" = some ⟨[.int, .long], some .int⟩ := by decide +kernel
theorem dd_prog_23_method_5_code_40 : decode prog_23_method_5_code 40 = .ok (.istore 9, 2) := by decide +kernel
theorem dd_prog_23_method_5_code_42 : decode prog_23_method_5_code 42 = .ok (.iload 9, 2) := by decide +kernel
theorem dd_prog_23_method_5_code_44 : decode prog_23_method_5_code 44 = .ok (.ifCond .lt 33, 3) := by decide +kernel
theorem dd_prog_23_method_5_code_47 : decode prog_23_method_5_code 47 = .ok (.aload_n 0, 1) := by decide +kernel
theorem dd_prog_23_method_5_code_48 : decode prog_23_method_5_code 48 = .ok (.getfield 16, 3) := by decide +kernel
theorem dd_prog_23_method_5_code_51 : decode prog_23_method_5_code 51 = .ok (.iload 9, 2) := by decide +kernel
theorem dd_prog_23_method_5_code_53 : decode prog_23_method_5_code 53 = .ok (.aload_n 0, 1) := by decide +kernel
theorem dd_prog_23_method_5_code_54 : decode prog_23_method_5_code 54 = .ok (.getfield 22, 3) := by decide +kernel
theorem dd_prog_23_method_5_code_57 : decode prog_23_method_5_code 57 = .ok (.imul, 1) := by decide +kernel
theorem dd_prog_23_method_5_code_58 : decode prog_23_method_5_code 58 = .ok (.aload_n 0, 1) := by decide +kernel
theorem dd_prog_23_method_5_code_59 : decode prog_23_method_5_code 59 = .ok (.getfield 22, 3) := by decide +kernel
theorem dd_prog_23_method_5_code_62 : decode prog_23_method_5_code 62 = .ok (.lload_n 3, 1) := by decide +kernel
theorem dd_prog_23_method_5_code_63 : decode prog_23_method_5_code 63 = .ok (.lload 5, 2) := by decide +kernel
theorem dd_prog_23_method_5_code_65 : decode prog_23_method_5_code 65 = .ok (.invokestatic 48, 3) := by decide +kernel
theorem efa_prog_59_method_3_code_vvvvv (m : MethodId) (x0 : Addr) (x1 : Int32) (x2 : Int32) (x3 : Int64) (x4 : Int64) : entryFrame m #[(.ref x0), (.int x1), (.int x2), (.long x3), (.long x4)] 9 = mkF m 0 #[.val (.ref x0), .val (.int x1), .val (.int x2), .val (.long x3), .second, .val (.long x4), .second, .unset, .unset] [] := by first | (simp [entryFrame, mkF, argsToLocals, Value.category]; done) | rfl
theorem pn_com_example_strict_limiter_strictlimiter_WindowRecord : plainName cn1 = true := by first | (simp [plainName, overriddenIn]; done) | decide +kernel
theorem dd_prog_59_method_3_code_0 : decode prog_59_method_3_code 0 = .ok (.aload_n 0, 1) := by decide +kernel
theorem dd_prog_59_method_3_code_1 : decode prog_59_method_3_code 1 = .ok (.iload_n 1, 1) := by decide +kernel
theorem dd_prog_59_method_3_code_2 : decode prog_59_method_3_code 2 = .ok (.iconst 0, 1) := by decide +kernel
theorem dd_prog_59_method_3_code_3 : decode prog_59_method_3_code 3 = .ok (.iadd, 1) := by decide +kernel
theorem dd_prog_59_method_3_code_4 : decode prog_59_method_3_code 4 = .ok (.laload, 1) := by decide +kernel
theorem dd_prog_59_method_3_code_5 : decode prog_59_method_3_code 5 = .ok (.lstore 7, 2) := by decide +kernel
theorem dd_prog_59_method_3_code_7 : decode prog_59_method_3_code 7 = .ok (.aload_n 0, 1) := by decide +kernel
theorem dd_prog_59_method_3_code_8 : decode prog_59_method_3_code 8 = .ok (.iload_n 1, 1) := by decide +kernel
theorem dd_prog_59_method_3_code_9 : decode prog_59_method_3_code 9 = .ok (.iconst 0, 1) := by decide +kernel
theorem dd_prog_59_method_3_code_10 : decode prog_59_method_3_code 10 = .ok (.iadd, 1) := by decide +kernel
theorem dd_prog_59_method_3_code_11 : decode prog_59_method_3_code 11 = .ok (.lload 7, 2) := by decide +kernel
theorem dd_prog_59_method_3_code_13 : decode prog_59_method_3_code 13 = .ok (.lload 5, 2) := by decide +kernel
theorem dd_prog_59_method_3_code_15 : decode prog_59_method_3_code 15 = .ok (.ladd, 1) := by decide +kernel
theorem dd_prog_59_method_3_code_16 : decode prog_59_method_3_code 16 = .ok (.lastore, 1) := by decide +kernel
theorem dd_prog_59_method_3_code_17 : decode prog_59_method_3_code 17 = .ok (.iload_n 2, 1) := by decide +kernel
theorem dd_prog_59_method_3_code_18 : decode prog_59_method_3_code 18 = .ok (.iconst 4, 1) := by decide +kernel
theorem dd_prog_59_method_3_code_19 : decode prog_59_method_3_code 19 = .ok (.if_icmp .ne 10, 3) := by decide +kernel
theorem dd_prog_59_method_3_code_29 : decode prog_59_method_3_code 29 = .ok (.return_, 1) := by decide +kernel
def QA13 (Z : State) (o0 : Addr) (kk_o0 : ClassId) (h0 : Heap) (n0 : Nat) (v : Option Value) (h : Heap) (L : List Loc) : Prop := v = none ∧ Fr n0 L ∧ Keep h0 h [o0] ∧ Arv Z h o0 kk_o0 .long (1 : Int32) [(.long (1 : Int64))] (.long (0 : Int64))
set_option maxRecDepth 65536 in
set_option maxHeartbeats 40000000 in
theorem rmA13 (l : Launch) (Z : State) (a0 : Array Value) (hw : ∀ d ∈ tables_1, d.before a0 Z = true) (ws : List Jvm.Cond) (o0 : Addr) (kk_o0 : ClassId) (h0 : Heap) (n0 : Nat) (Z0 : n0 ≤ h0.size) (V_o0 : Arv Z h0 o0 kk_o0 .long (1 : Int32) [(.long (0 : Int64))] (.long (0 : Int64))) (g_o0 : n0 ≤ o0) :
    MetFree l mn7 (head1 (Jvm.Cond.code mn7 prog_59_method_3_code 9 none :: ws) ({ frames := 0, cells := 0, slots := 0, locals := 0 } : Room)) (fun a U => a = #[(.ref o0), (.int (0 : Int32)), (.int (1 : Int32)), (.long (0 : Int64)), (.long (1 : Int64))] ∧ Z.Warmed39 U.vm ∧ U.heap = h0) (fun _ _ _ _ _ => True) (fun _ U oc_ U' => ∃ v L, oc_ = .returned v ∧ QA13 Z o0 kk_o0 h0 n0 v U'.heap L ∧ FrameEnd U oc_ U' L ({ frames := 0, cells := 0, slots := 0, locals := 0 } : Room).cells ({ frames := 0, cells := 0, slots := 0, locals := 0 } : Room).slots) := by
  refine MetFree.of_bodySF (plainFor_of_name pn_com_example_strict_limiter_strictlimiter_WindowRecord) hisR ?_
  intro p e s m args below meth c s₁ Bd hml0 hP hK
  obtain ⟨rfl, hZ, hh⟩ := hP
  have hx := Bd.exec
  have hby := Bd.bytes
  have hml : c.maxLocals = 9 := hml0
  have hown : s.vm.findClass cn1 = some m.cls := findClass_of_methodNamed Bd.named
  have hnm := (name_of_methodNamed Bd.named Bd.method).1
  have X0 : Stand p l e ({ frames := 0, cells := 0, slots := 0, locals := 0 } : Room) s m #[(.ref o0), (.int (0 : Int32)), (.int (1 : Int32)), (.long (0 : Int64)), (.long (1 : Int64))] below meth c s₁ [] 0 0 := Stand.of_body Bd
  have e0 : s₁.heap = h0 := by rw [← hh, Bd.state]; rfl
  have N0 := Fr.nil n0
  have pre0 : ∀ t, Steps p.tables e below (s₁.setTop (mkF m 0 #[.val (.ref o0), .val (.int (0 : Int32)), .val (.int (1 : Int32)), .val (.long (0 : Int64)), .second, .val (.long (1 : Int64)), .second, .unset, .unset] [])) t → Steps p.tables e below (s₁.setTop (entryFrame m #[(.ref o0), (.int (0 : Int32)), (.int (1 : Int32)), (.long (0 : Int64)), (.long (1 : Int64))] 9)) t := fun t k => castTop (efa_prog_59_method_3_code_vvvvv m o0 (0 : Int32) (1 : Int32) (0 : Int64) (1 : Int64)) k
  obtain ⟨cl1, Ar1, q1, S1, M1, HH1, GG1⟩ := id V_o0
  have hin1 : ¬ ((0 : Int32) < 0 ∨ cl1.slots.size ≤ ((0 : Int32)).toNatClampNeg) := inb_of S1 ⟨by decide, by decide⟩
  have hat1 : cl1.slots[((0 : Int32)).toNatClampNeg]? = some (.long (0 : Int64)) := Has.at HH1 hin1 rfl
  obtain ⟨cl2, Ar2, q2, S2, M2, HH2, GG2⟩ := id V_o0
  have hin2 : ¬ ((0 : Int32) < 0 ∨ cl2.slots.size ≤ ((0 : Int32)).toNatClampNeg) := inb_of S2 ⟨by decide, by decide⟩
  obtain ⟨T3, h3, X3, e3, W3, st3⟩ := stJ X0 hx hZ e0 Ar2 (j := (0 : Int32)) hin2 (g := (mkF m 16 #[.val (.ref o0), .val (.int (0 : Int32)), .val (.int (1 : Int32)), .val (.long (0 : Int64)), .second, .val (.long (1 : Int64)), .second, .val (.long (0 : Int64)), .second] [(.long (1 : Int64)), (.int (0 : Int32)), (.ref o0)])) rfl rfl (hb hby dd_prog_59_method_3_code_16)
  have N3 := Fr.snoc X3 N0 g_o0
  have Z3 : n0 ≤ h3.size := by rw [W3.size]; exact Z0
  have K3 : Keep h0 h3 [o0] := ((Keep.refl h0 [o0]).wr W3 (Or.inl (List.mem_of_getElem? (i := 0) rfl)))
  have V3 := Arv.set Ar2 q2 S2 M2 HH2 GG2 rfl W3 0 rfl (Nat.le_of_ble_eq_true rfl)
  obtain ⟨lfs, lhr, lhrun, lhended, lhW, lhsame⟩ := X3.leave (v := none) (fun _ => rfl)
  refine ⟨_, _, pre0 _ ?_, lhrun, lhended, _, _, rfl, ?_, ⟨_, rfl⟩, lhW, lhsame.mono (by decide) (by decide)⟩
  · skip
    show Steps p.tables e below (s₁.setTop (mkF m 0 #[.val (.ref o0), .val (.int (0 : Int32)), .val (.int (1 : Int32)), .val (.long (0 : Int64)), .second, .val (.long (1 : Int64)), .second, .unset, .unset] [])) _
    refine XS.aloadN X0.here hx rfl (hb hby dd_prog_59_method_3_code_0) rfl rfl ?_
    refine XS.iloadN X0.here hx rfl (hb hby dd_prog_59_method_3_code_1) rfl ?_
    show Steps p.tables e below (s₁.setTop (mkF m 2 #[.val (.ref o0), .val (.int (0 : Int32)), .val (.int (1 : Int32)), .val (.long (0 : Int64)), .second, .val (.long (1 : Int64)), .second, .unset, .unset] [(.int (0 : Int32)), (.ref o0)])) _
    refine XS.iconst X0.here hx rfl (hb hby dd_prog_59_method_3_code_2) ?_
    refine XS.iadd X0.here hx rfl (hb hby dd_prog_59_method_3_code_3) rfl ?_
    refine X0.laload hx (j := (0 : Int32)) (v := (.long (0 : Int64))) (by (try rw [e0]); exact Ar1.1) (State.isArrayOf_alike hZ.alike Ar1.2.1) Ar1.2.2 hin1 hat1 (g := (mkF m 4 #[.val (.ref o0), .val (.int (0 : Int32)), .val (.int (1 : Int32)), .val (.long (0 : Int64)), .second, .val (.long (1 : Int64)), .second, .unset, .unset] [(.int (0 : Int32)), (.ref o0)])) rfl rfl (hb hby dd_prog_59_method_3_code_4) _ ?_
    show Steps p.tables e below (s₁.setTop (mkF m 5 #[.val (.ref o0), .val (.int (0 : Int32)), .val (.int (1 : Int32)), .val (.long (0 : Int64)), .second, .val (.long (1 : Int64)), .second, .unset, .unset] [(.long (0 : Int64))])) _
    refine XS.lstore X0.here hx rfl (hb hby dd_prog_59_method_3_code_5) rfl (l' := #[.val (.ref o0), .val (.int (0 : Int32)), .val (.int (1 : Int32)), .val (.long (0 : Int64)), .second, .val (.long (1 : Int64)), .second, .val (.long (0 : Int64)), .second]) rfl ?_
    refine XS.aloadN X0.here hx rfl (hb hby dd_prog_59_method_3_code_7) rfl rfl ?_
    refine XS.iloadN X0.here hx rfl (hb hby dd_prog_59_method_3_code_8) rfl ?_
    show Steps p.tables e below (s₁.setTop (mkF m 9 #[.val (.ref o0), .val (.int (0 : Int32)), .val (.int (1 : Int32)), .val (.long (0 : Int64)), .second, .val (.long (1 : Int64)), .second, .val (.long (0 : Int64)), .second] [(.int (0 : Int32)), (.ref o0)])) _
    refine XS.iconst X0.here hx rfl (hb hby dd_prog_59_method_3_code_9) ?_
    refine XS.iadd X0.here hx rfl (hb hby dd_prog_59_method_3_code_10) rfl ?_
    refine XS.lload X0.here hx rfl (hb hby dd_prog_59_method_3_code_11) rfl ?_
    show Steps p.tables e below (s₁.setTop (mkF m 13 #[.val (.ref o0), .val (.int (0 : Int32)), .val (.int (1 : Int32)), .val (.long (0 : Int64)), .second, .val (.long (1 : Int64)), .second, .val (.long (0 : Int64)), .second] [(.long (0 : Int64)), (.int (0 : Int32)), (.ref o0)])) _
    refine XS.lload X0.here hx rfl (hb hby dd_prog_59_method_3_code_13) rfl ?_
    refine XS.ladd X0.here hx rfl (hb hby dd_prog_59_method_3_code_15) rfl ?_
    show Steps p.tables e below (s₁.setTop (mkF m 16 #[.val (.ref o0), .val (.int (0 : Int32)), .val (.int (1 : Int32)), .val (.long (0 : Int64)), .second, .val (.long (1 : Int64)), .second, .val (.long (0 : Int64)), .second] [(.long (1 : Int64)), (.int (0 : Int32)), (.ref o0)])) _
    refine st3 _ ?_
    show Steps p.tables e below (T3.setTop (mkF m 17 #[.val (.ref o0), .val (.int (0 : Int32)), .val (.int (1 : Int32)), .val (.long (0 : Int64)), .second, .val (.long (1 : Int64)), .second, .val (.long (0 : Int64)), .second] [])) _
    refine XS.iloadN X3.here hx rfl (hb hby dd_prog_59_method_3_code_17) rfl ?_
    refine XS.iconst X3.here hx rfl (hb hby dd_prog_59_method_3_code_18) ?_
    refine XS.icmpYes X3.here hx rfl (pc0 := 19) (pc' := 29) rfl (hb hby dd_prog_59_method_3_code_19) rfl (feq (by decide : ¬ ((1 : Int32) = (4 : Int32)))).2 (by decide) (by decide) ?_
    show Steps p.tables e below (T3.setTop (mkF m 29 #[.val (.ref o0), .val (.int (0 : Int32)), .val (.int (1 : Int32)), .val (.long (0 : Int64)), .second, .val (.long (1 : Int64)), .second, .val (.long (0 : Int64)), .second] [])) _
    exact X3.returnOut hx Bd.returns (hb hby dd_prog_59_method_3_code_29) lhr
  · skip
    show QA13 Z o0 kk_o0 h0 n0 _ T3.heap _
    rw [e3]
    exact ⟨rfl, N3, K3, V3⟩
theorem pd___JIIJJ_V : parseMethodDescriptor "([JIIJJ)V" = some ⟨[(.array .long), .int, .int, .long, .long], none⟩ := by decide +kernel
theorem dd_prog_23_method_5_code_68 : decode prog_23_method_5_code 68 = .ok (.aload_n 0, 1) := by decide +kernel
theorem dd_prog_23_method_5_code_69 : decode prog_23_method_5_code 69 = .ok (.getfield 19, 3) := by decide +kernel
theorem dd_prog_23_method_5_code_72 : decode prog_23_method_5_code 72 = .ok (.iload 9, 2) := by decide +kernel
theorem dd_prog_23_method_5_code_74 : decode prog_23_method_5_code 74 = .ok (.lload 7, 2) := by decide +kernel
theorem dd_prog_23_method_5_code_76 : decode prog_23_method_5_code 76 = .ok (.lastore, 1) := by decide +kernel
theorem dd_prog_23_method_5_code_77 : decode prog_23_method_5_code 77 = .ok (.return_, 1) := by decide +kernel
def QA2 (Z : State) (o0 : Addr) (y1 : Int64) (y2 : Int64) (o3 : Addr) (kk_o3 : ClassId) (h0 : Heap) (n0 : Nat) (v : Option Value) (h : Heap) (L : List Loc) : Prop := ∃ (b5_0 : Addr) (b5_1 : Addr) (b5_2 : Addr) (kk_b5_0 : ClassId) (kk_b5_1 : ClassId) (kk_b5_2 : ClassId), v = none ∧ Fr n0 L ∧ Keep h0 h [o0] ∧ h0.size ≤ b5_0 ∧ h0.size ≤ b5_1 ∧ h0.size ≤ b5_2 ∧ b5_0 ≠ b5_1 ∧ b5_0 ≠ b5_2 ∧ b5_1 ≠ b5_2 ∧ Fld Z h o0 cn2 "starts" "[J" (.ref b5_0) ∧ Fld Z h o0 cn2 "first" "I" (.int (0 : Int32)) ∧ Fld Z h o0 cn2 "end" "I" (.int (1 : Int32)) ∧ Fld Z h o0 cn2 "records" "[J" (.ref b5_1) ∧ Fld Z h o0 cn2 "width" "I" (.int (1 : Int32)) ∧ Fld Z h o0 cn2 "decidedAt" "[J" (.ref b5_2) ∧ Exa Z h o0 cn2 ∧ Arv Z h b5_0 kk_b5_0 .long (1 : Int32) [(.long y1)] (.long (0 : Int64)) ∧ Arv Z h b5_1 kk_b5_1 .long (1 : Int32) [(.long (1 : Int64))] (.long (0 : Int64)) ∧ Arv Z h b5_2 kk_b5_2 .long (1 : Int32) [(.long y2)] (.long (0 : Int64))
set_option maxRecDepth 65536 in
set_option maxHeartbeats 40000000 in
theorem rmA2 (l : Launch) (Z : State) (a0 : Array Value) (hw : ∀ d ∈ tables_1, d.before a0 Z = true) (ws : List Jvm.Cond) (o0 : Addr) (y1 : Int64) (y2 : Int64) (o3 : Addr) (kk_o3 : ClassId) (h0 : Heap) (n0 : Nat) (Z0 : n0 ≤ h0.size) (F_o0_starts : Fld Z h0 o0 cn2 "starts" "[J" (.ref o3)) (F_o0_first : Fld Z h0 o0 cn2 "first" "I" (.int (0 : Int32))) (F_o0_end : Fld Z h0 o0 cn2 "end" "I" (.int (0 : Int32))) (V_o3 : Arv Z h0 o3 kk_o3 .long (0 : Int32) [] (.long (0 : Int64))) (F_o0_records : Fld Z h0 o0 cn2 "records" "[J" (.ref o3)) (F_o0_width : Fld Z h0 o0 cn2 "width" "I" (.int (1 : Int32))) (F_o0_decidedAt : Fld Z h0 o0 cn2 "decidedAt" "[J" (.ref o3)) (E_o0 : Exa Z h0 o0 cn2) (g_o0 : n0 ≤ o0) (ne_o3_o0 : o3 ≠ o0) :
    MetFree l mn1 (head1 (Jvm.Cond.code mn1 prog_23_method_5_code 10 none :: ws) ({ frames := 3, cells := 3, slots := 3, locals := 71 } : Room)) (fun a U => a = #[(.ref o0), (.long y1), (.long (0 : Int64)), (.long (1 : Int64)), (.long y2)] ∧ Z.Warmed39 U.vm ∧ U.heap = h0) (fun _ _ _ _ _ => True) (fun _ U oc_ U' => ∃ v L, oc_ = .returned v ∧ QA2 Z o0 y1 y2 o3 kk_o3 h0 n0 v U'.heap L ∧ FrameEnd U oc_ U' L ({ frames := 3, cells := 3, slots := 3, locals := 71 } : Room).cells ({ frames := 3, cells := 3, slots := 3, locals := 71 } : Room).slots) := by
  refine MetFree.of_bodySF (plainFor_of_name pn_com_example_strict_limiter_strictlimiter_KeptWindows) hisR ?_
  intro p e s m args below meth c s₁ Bd hml0 hP hK
  obtain ⟨rfl, hZ, hh⟩ := hP
  have hx := Bd.exec
  have hby := Bd.bytes
  have hml : c.maxLocals = 10 := hml0
  have hown : s.vm.findClass cn2 = some m.cls := findClass_of_methodNamed Bd.named
  have hnm := (name_of_methodNamed Bd.named Bd.method).1
  have X0 : Stand p l e ({ frames := 3, cells := 3, slots := 3, locals := 71 } : Room) s m #[(.ref o0), (.long y1), (.long (0 : Int64)), (.long (1 : Int64)), (.long y2)] below meth c s₁ [] 0 0 := Stand.of_body Bd
  have e0 : s₁.heap = h0 := by rw [← hh, Bd.state]; rfl
  have N0 := Fr.nil n0
  have pre0 : ∀ t, Steps p.tables e below (s₁.setTop (mkF m 0 #[.val (.ref o0), .val (.long y1), .second, .val (.long (0 : Int64)), .second, .val (.long (1 : Int64)), .second, .val (.long y2), .second, .unset] [])) t → Steps p.tables e below (s₁.setTop (entryFrame m #[(.ref o0), (.long y1), (.long (0 : Int64)), (.long (1 : Int64)), (.long y2)] 10)) t := fun t k => castTop (efa_prog_23_method_5_code_vvvvv m o0 y1 (0 : Int64) (1 : Int64) y2) k
  obtain ⟨T1, X1, e1, st1⟩ := getF X0 hx hZ hown (host := "") (Or.inl (wd12 hw)) Via.refl e0 F_o0_starts (g := (mkF m 1 #[.val (.ref o0), .val (.long y1), .second, .val (.long (0 : Int64)), .second, .val (.long (1 : Int64)), .second, .val (.long y2), .second, .unset] [(.ref o0)])) rfl rfl (hb hby dd_prog_23_method_5_code_1)
  obtain ⟨T2, X2, e2, st2⟩ := getF X1 hx hZ hown (host := "") (Or.inl (wd25 hw)) Via.refl e1 F_o0_first (g := (mkF m 5 #[.val (.ref o0), .val (.long y1), .second, .val (.long (0 : Int64)), .second, .val (.long (1 : Int64)), .second, .val (.long y2), .second, .unset] [(.ref o0), (.ref o3)])) rfl rfl (hb hby dd_prog_23_method_5_code_5)
  obtain ⟨T3, X3, e3, st3⟩ := getF X2 hx hZ hown (host := "") (Or.inl (wd27 hw)) Via.refl e2 F_o0_end (g := (mkF m 9 #[.val (.ref o0), .val (.long y1), .second, .val (.long (0 : Int64)), .second, .val (.long (1 : Int64)), .second, .val (.long y2), .second, .unset] [(.ref o0), (.int (0 : Int32)), (.ref o3)])) rfl rfl (hb hby dd_prog_23_method_5_code_9)
  obtain ⟨_, _, ⟨T4, L4, kc4, ks4⟩, -, X4, ⟨Lc4, hQ4, l4, y4, z4⟩, st4⟩ := Jvm.LawKit.callS X3 hx (y := mn9) hown (mvT hZ (wd29 hw)) (mvT hZ (wd30 hw)) (mvT hZ (wd31 hw)) (mvT hZ (wd32 hw)) (by decide) (backOf (W := 0) (rmA3 l Z a0 hw [] o3 y1 _ h0 n0 Z0 V_o3) hZ (wd32 hw) (wd31 hw) (by decide) (by decide)) (g := (mkF m 13 #[.val (.ref o0), .val (.long y1), .second, .val (.long (0 : Int64)), .second, .val (.long (1 : Int64)), .second, .val (.long y2), .second, .unset] [(.long y1), (.int (0 : Int32)), (.int (0 : Int32)), (.ref o3)])) rfl (by rw [hml]; rfl) (argsL := [(.ref o3), (.int (0 : Int32)), (.int (0 : Int32)), (.long y1)]) (rest := []) (lenOf pd___JIIJ_I rfl) rfl (by show 2 * 0 + _ ≤ _; exact Nat.le_of_eq rfl) (hb hby dd_prog_23_method_5_code_13) (fun _ _ => ⟨rfl, e3, (by decide : 0 + 0 ≤ _), (by decide : 0 + 0 ≤ _)⟩)
  dsimp only [Pt.U, Pt.locs, Pt.cells, Pt.slots] at X4 l4 y4 z4 st4 hQ4
  subst l4 y4 z4
  obtain ⟨rfl, Nq4, eq4⟩ := hQ4
  have N4 := Fr.app N0 Nq4
  obtain ⟨cq5, q5, q5'⟩ := E_o0.cell
  obtain ⟨_, _, ⟨T5, L5, kc5, ks5⟩, -, X5, ⟨Lc5, hQ5, l5, y5, z5⟩, st5⟩ := X4.privateBack hx (y := mn5) hown (mvT hZ (wd39 hw)) (mvT hZ (wd40 hw)) (own_selPriv (mvT hZ (wd2 hw)) (Cond.privateMethod_at (mvP hZ (wd41 hw) (args := #[]))) (mvT hZ (wd40 hw)) (by decide)) (Cond.privateMethod_at (mvP hZ (wd41 hw) (args := #[]))) (mvT hZ (wd42 hw)) (by decide) (backOf (W := 0) (rmA6 l Z a0 hw [] o0 y1 o3 _ h0 n0 Z0 F_o0_end F_o0_starts V_o3 F_o0_first E_o0 g_o0 F_o0_records F_o0_width ne_o3_o0 F_o0_decidedAt) hZ (wd42 hw) (wd3 hw) (by decide) (by decide)) (g := (mkF m 37 #[.val (.ref o0), .val (.long y1), .second, .val (.long (0 : Int64)), .second, .val (.long (1 : Int64)), .second, .val (.long y2), .second, .val (.int (-1 : Int32))] [(.long y1), (.int (0 : Int32)), (.ref o0)])) rfl (by rw [hml]; rfl) (Steps.refl _) (a := o0) (by rw [eq4]; exact q5) q5' (argsL := [(.int (0 : Int32)), (.long y1)]) (rest := []) (lenOf pd__IJ_I rfl) rfl (by show 2 * 0 + _ ≤ _; exact Nat.le_of_eq rfl) (hb hby dd_prog_23_method_5_code_37) (fun _ _ => ⟨rfl, eq4, (by decide : 0 + 3 ≤ _), (by decide : 0 + 3 ≤ _)⟩)
  dsimp only [Pt.U, Pt.locs, Pt.cells, Pt.slots] at X5 l5 y5 z5 st5 hQ5
  subst l5 y5 z5
  obtain ⟨b5_0, b5_1, b5_2, kv5_3, kv5_4, kv5_5, rfl, Nq5, Kq5, sz5_0, sz5_1, sz5_2, g5_0, g5_1, g5_2, g5_3, g5_4, g5_5, g5_6, g5_7, g5_8, g5_9, g5_10, g5_11, g5_12⟩ := hQ5
  have N5 := Fr.app N4 Nq5
  have Z5 : n0 ≤ T5.heap.size := Nat.le_trans Z0 Kq5.1
  have K5 : Keep h0 T5.heap [o0] := Keep.trans (Keep.refl h0 [o0]) Kq5 (allS (Or.inl (List.mem_of_getElem? (i := 0) rfl)) all0)
  have ne_o0_b5_0 : o0 ≠ b5_0 := Nat.ne_of_lt (Nat.lt_of_lt_of_le F_o0_starts.lt sz5_0)
  have ne_o3_b5_0 : o3 ≠ b5_0 := Nat.ne_of_lt (Nat.lt_of_lt_of_le V_o3.lt sz5_0)
  have ge_b5_0 : n0 ≤ b5_0 := Nat.le_trans Z0 sz5_0
  have sz_b5_0 : h0.size ≤ b5_0 := Nat.le_trans (Nat.le_refl _) sz5_0
  have ne_o0_b5_1 : o0 ≠ b5_1 := Nat.ne_of_lt (Nat.lt_of_lt_of_le F_o0_starts.lt sz5_1)
  have ne_o3_b5_1 : o3 ≠ b5_1 := Nat.ne_of_lt (Nat.lt_of_lt_of_le V_o3.lt sz5_1)
  have ge_b5_1 : n0 ≤ b5_1 := Nat.le_trans Z0 sz5_1
  have sz_b5_1 : h0.size ≤ b5_1 := Nat.le_trans (Nat.le_refl _) sz5_1
  have ne_o0_b5_2 : o0 ≠ b5_2 := Nat.ne_of_lt (Nat.lt_of_lt_of_le F_o0_starts.lt sz5_2)
  have ne_o3_b5_2 : o3 ≠ b5_2 := Nat.ne_of_lt (Nat.lt_of_lt_of_le V_o3.lt sz5_2)
  have ge_b5_2 : n0 ≤ b5_2 := Nat.le_trans Z0 sz5_2
  have sz_b5_2 : h0.size ≤ b5_2 := Nat.le_trans (Nat.le_refl _) sz5_2
  obtain ⟨T6, X6, e6, st6⟩ := getF X5 hx hZ hown (host := "") (Or.inl (wd14 hw)) Via.refl rfl g5_8 (g := (mkF m 48 #[.val (.ref o0), .val (.long y1), .second, .val (.long (0 : Int64)), .second, .val (.long (1 : Int64)), .second, .val (.long y2), .second, .val (.int (0 : Int32))] [(.ref o0)])) rfl rfl (hb hby dd_prog_23_method_5_code_48)
  obtain ⟨T7, X7, e7, st7⟩ := getF X6 hx hZ hown (host := "") (Or.inl (wd18 hw)) Via.refl e6 g5_9 (g := (mkF m 54 #[.val (.ref o0), .val (.long y1), .second, .val (.long (0 : Int64)), .second, .val (.long (1 : Int64)), .second, .val (.long y2), .second, .val (.int (0 : Int32))] [(.ref o0), (.int (0 : Int32)), (.ref b5_1)])) rfl rfl (hb hby dd_prog_23_method_5_code_54)
  obtain ⟨T8, X8, e8, st8⟩ := getF X7 hx hZ hown (host := "") (Or.inl (wd18 hw)) Via.refl e7 g5_9 (g := (mkF m 59 #[.val (.ref o0), .val (.long y1), .second, .val (.long (0 : Int64)), .second, .val (.long (1 : Int64)), .second, .val (.long y2), .second, .val (.int (0 : Int32))] [(.ref o0), (.int (0 : Int32)), (.ref b5_1)])) rfl rfl (hb hby dd_prog_23_method_5_code_59)
  obtain ⟨_, _, ⟨T9, L9, kc9, ks9⟩, -, X9, ⟨Lc9, hQ9, l9, y9, z9⟩, st9⟩ := Jvm.LawKit.callS X8 hx (y := mn7) hown (mvT hZ (wd59 hw)) (mvT hZ (wd60 hw)) (mvT hZ (wd61 hw)) (mvT hZ (wd62 hw)) (by decide) (backOf (W := 0) (rmA13 l Z a0 hw [] b5_1 _ T5.heap n0 Z5 g5_10 ge_b5_1) hZ (wd62 hw) (wd61 hw) (by decide) (by decide)) (g := (mkF m 65 #[.val (.ref o0), .val (.long y1), .second, .val (.long (0 : Int64)), .second, .val (.long (1 : Int64)), .second, .val (.long y2), .second, .val (.int (0 : Int32))] [(.long (1 : Int64)), (.long (0 : Int64)), (.int (1 : Int32)), (.int (0 : Int32)), (.ref b5_1)])) rfl (by rw [hml]; rfl) (argsL := [(.ref b5_1), (.int (0 : Int32)), (.int (1 : Int32)), (.long (0 : Int64)), (.long (1 : Int64))]) (rest := []) (lenOf pd___JIIJJ_V rfl) rfl (by show 2 * 0 + _ ≤ _; exact Nat.le_of_eq rfl) (hb hby dd_prog_23_method_5_code_65) (fun _ _ => ⟨rfl, e8, (by decide : 3 + 0 ≤ _), (by decide : 3 + 0 ≤ _)⟩)
  dsimp only [Pt.U, Pt.locs, Pt.cells, Pt.slots] at X9 l9 y9 z9 st9 hQ9
  subst l9 y9 z9
  obtain ⟨rfl, Nq9, Kq9, g9_0⟩ := hQ9
  have N9 := Fr.app N5 Nq9
  have Z9 : n0 ≤ T9.heap.size := Nat.le_trans Z5 Kq9.1
  have K9 : Keep h0 T9.heap [o0] := Keep.trans K5 Kq9 (allS (Or.inr sz_b5_1) all0)
  have f10 := (g5_11.keep Kq9 (ninS ne_o0_b5_1 nin0))
  obtain ⟨T11, X11, e11, st11⟩ := getF X9 hx hZ hown (host := "") (Or.inl (wd16 hw)) Via.refl rfl f10 (g := (mkF m 69 #[.val (.ref o0), .val (.long y1), .second, .val (.long (0 : Int64)), .second, .val (.long (1 : Int64)), .second, .val (.long y2), .second, .val (.int (0 : Int32))] [(.ref o0)])) rfl rfl (hb hby dd_prog_23_method_5_code_69)
  have f12 := (g5_12.keep Kq9 (ninS (Ne.symm g5_2) nin0))
  obtain ⟨cl13, Ar13, q13, S13, M13, HH13, GG13⟩ := id f12
  have hin13 : ¬ ((0 : Int32) < 0 ∨ cl13.slots.size ≤ ((0 : Int32)).toNatClampNeg) := inb_of S13 ⟨by decide, by decide⟩
  obtain ⟨T14, h14, X14, e14, W14, st14⟩ := stJ X11 hx hZ e11 Ar13 (j := (0 : Int32)) hin13 (g := (mkF m 76 #[.val (.ref o0), .val (.long y1), .second, .val (.long (0 : Int64)), .second, .val (.long (1 : Int64)), .second, .val (.long y2), .second, .val (.int (0 : Int32))] [(.long y2), (.int (0 : Int32)), (.ref b5_2)])) rfl rfl (hb hby dd_prog_23_method_5_code_76)
  have N14 := Fr.snoc X14 N9 ge_b5_2
  have Z14 : n0 ≤ h14.size := by rw [W14.size]; exact Z9
  have K14 : Keep h0 h14 [o0] := (K9.wr W14 (Or.inr sz_b5_2))
  have V14 := Arv.set Ar13 q13 S13 M13 HH13 GG13 rfl W14 0 rfl (Nat.le_of_ble_eq_true rfl)
  have f15 := ((g5_4.keep Kq9 (ninS ne_o0_b5_1 nin0)).other W14 (Or.inl ne_o0_b5_2))
  have f16 := ((g5_5.keep Kq9 (ninS ne_o0_b5_1 nin0)).other W14 (Or.inl ne_o0_b5_2))
  have f17 := ((g5_3.keep Kq9 (ninS ne_o0_b5_1 nin0)).other W14 (Or.inl ne_o0_b5_2))
  have f18 := ((g5_8.keep Kq9 (ninS ne_o0_b5_1 nin0)).other W14 (Or.inl ne_o0_b5_2))
  have f19 := ((g5_9.keep Kq9 (ninS ne_o0_b5_1 nin0)).other W14 (Or.inl ne_o0_b5_2))
  have f20 := (f10.other W14 (Or.inl ne_o0_b5_2))
  have f21 := ((g5_6.keep Kq9).wr W14)
  have f22 := ((g5_7.keep Kq9 (ninS g5_0 nin0)).other W14 g5_1)
  have f23 := (g9_0.other W14 g5_2)
  obtain ⟨lfs, lhr, lhrun, lhended, lhW, lhsame⟩ := X14.leave (v := none) (fun _ => rfl)
  refine ⟨_, _, pre0 _ ?_, lhrun, lhended, _, _, rfl, ?_, ⟨_, rfl⟩, lhW, lhsame.mono (by decide) (by decide)⟩
  · skip
    show Steps p.tables e below (s₁.setTop (mkF m 0 #[.val (.ref o0), .val (.long y1), .second, .val (.long (0 : Int64)), .second, .val (.long (1 : Int64)), .second, .val (.long y2), .second, .unset] [])) _
    refine XS.aloadN X0.here hx rfl (hb hby dd_prog_23_method_5_code_0) rfl rfl ?_
    show Steps p.tables e below (s₁.setTop (mkF m 1 #[.val (.ref o0), .val (.long y1), .second, .val (.long (0 : Int64)), .second, .val (.long (1 : Int64)), .second, .val (.long y2), .second, .unset] [(.ref o0)])) _
    refine st1 _ ?_
    show Steps p.tables e below (T1.setTop (mkF m 4 #[.val (.ref o0), .val (.long y1), .second, .val (.long (0 : Int64)), .second, .val (.long (1 : Int64)), .second, .val (.long y2), .second, .unset] [(.ref o3)])) _
    refine XS.aloadN X1.here hx rfl (hb hby dd_prog_23_method_5_code_4) rfl rfl ?_
    show Steps p.tables e below (T1.setTop (mkF m 5 #[.val (.ref o0), .val (.long y1), .second, .val (.long (0 : Int64)), .second, .val (.long (1 : Int64)), .second, .val (.long y2), .second, .unset] [(.ref o0), (.ref o3)])) _
    refine st2 _ ?_
    show Steps p.tables e below (T2.setTop (mkF m 8 #[.val (.ref o0), .val (.long y1), .second, .val (.long (0 : Int64)), .second, .val (.long (1 : Int64)), .second, .val (.long y2), .second, .unset] [(.int (0 : Int32)), (.ref o3)])) _
    refine XS.aloadN X2.here hx rfl (hb hby dd_prog_23_method_5_code_8) rfl rfl ?_
    show Steps p.tables e below (T2.setTop (mkF m 9 #[.val (.ref o0), .val (.long y1), .second, .val (.long (0 : Int64)), .second, .val (.long (1 : Int64)), .second, .val (.long y2), .second, .unset] [(.ref o0), (.int (0 : Int32)), (.ref o3)])) _
    refine st3 _ ?_
    show Steps p.tables e below (T3.setTop (mkF m 12 #[.val (.ref o0), .val (.long y1), .second, .val (.long (0 : Int64)), .second, .val (.long (1 : Int64)), .second, .val (.long y2), .second, .unset] [(.int (0 : Int32)), (.int (0 : Int32)), (.ref o3)])) _
    refine XS.lloadN X3.here hx rfl (hb hby dd_prog_23_method_5_code_12) rfl ?_
    show Steps p.tables e below (T3.setTop (mkF m 13 #[.val (.ref o0), .val (.long y1), .second, .val (.long (0 : Int64)), .second, .val (.long (1 : Int64)), .second, .val (.long y2), .second, .unset] [(.long y1), (.int (0 : Int32)), (.int (0 : Int32)), (.ref o3)])) _
    refine st4 _ ?_
    show Steps p.tables e below (T4.setTop (mkF m 16 #[.val (.ref o0), .val (.long y1), .second, .val (.long (0 : Int64)), .second, .val (.long (1 : Int64)), .second, .val (.long y2), .second, .unset] [(.int (-1 : Int32))])) _
    refine XS.istore X4.here hx rfl (hb hby dd_prog_23_method_5_code_16) rfl (l' := #[.val (.ref o0), .val (.long y1), .second, .val (.long (0 : Int64)), .second, .val (.long (1 : Int64)), .second, .val (.long y2), .second, .val (.int (-1 : Int32))]) rfl ?_
    refine XS.iload X4.here hx rfl (hb hby dd_prog_23_method_5_code_18) rfl ?_
    refine XS.ifNo X4.here hx rfl (hb hby dd_prog_23_method_5_code_20) rfl ((if0 _ _).trans (tlt (by decide : (-1 : Int32) < (0 : Int32))).2.1) ?_
    show Steps p.tables e below (T4.setTop (mkF m 23 #[.val (.ref o0), .val (.long y1), .second, .val (.long (0 : Int64)), .second, .val (.long (1 : Int64)), .second, .val (.long y2), .second, .val (.int (-1 : Int32))] [])) _
    refine XS.lload X4.here hx rfl (hb hby dd_prog_23_method_5_code_23) rfl ?_
    refine XS.lconst X4.here hx rfl (hb hby dd_prog_23_method_5_code_25) ?_
    refine XS.lcmp X4.here hx rfl (hb hby dd_prog_23_method_5_code_26) rfl ?_
    show Steps p.tables e below (T4.setTop (mkF m 27 #[.val (.ref o0), .val (.long y1), .second, .val (.long (0 : Int64)), .second, .val (.long (1 : Int64)), .second, .val (.long y2), .second, .val (.int (-1 : Int32))] [(.int (lcmpW (1 : Int64) (0 : Int64)))])) _
    refine XS.ifNo X4.here hx rfl (hb hby dd_prog_23_method_5_code_27) rfl ((if0 _ _).trans (tlt ((lw_gt (1 : Int64) (0 : Int64)).mpr (by decide : (0 : Int64) < (1 : Int64)))).2.2.2) ?_
    refine XS.aloadN X4.here hx rfl (hb hby dd_prog_23_method_5_code_30) rfl rfl ?_
    refine XS.iload X4.here hx rfl (hb hby dd_prog_23_method_5_code_31) rfl ?_
    show Steps p.tables e below (T4.setTop (mkF m 33 #[.val (.ref o0), .val (.long y1), .second, .val (.long (0 : Int64)), .second, .val (.long (1 : Int64)), .second, .val (.long y2), .second, .val (.int (-1 : Int32))] [(.int (-1 : Int32)), (.ref o0)])) _
    refine XS.ineg X4.here hx rfl (hb hby dd_prog_23_method_5_code_33) rfl ?_
    refine XS.iconst X4.here hx rfl (hb hby dd_prog_23_method_5_code_34) ?_
    refine XS.isub X4.here hx rfl (hb hby dd_prog_23_method_5_code_35) rfl ?_
    show Steps p.tables e below (T4.setTop (mkF m 36 #[.val (.ref o0), .val (.long y1), .second, .val (.long (0 : Int64)), .second, .val (.long (1 : Int64)), .second, .val (.long y2), .second, .val (.int (-1 : Int32))] [(.int (0 : Int32)), (.ref o0)])) _
    refine XS.lloadN X4.here hx rfl (hb hby dd_prog_23_method_5_code_36) rfl ?_
    show Steps p.tables e below (T4.setTop (mkF m 37 #[.val (.ref o0), .val (.long y1), .second, .val (.long (0 : Int64)), .second, .val (.long (1 : Int64)), .second, .val (.long y2), .second, .val (.int (-1 : Int32))] [(.long y1), (.int (0 : Int32)), (.ref o0)])) _
    refine st5.trans ?_
    show Steps p.tables e below (T5.setTop (mkF m 40 #[.val (.ref o0), .val (.long y1), .second, .val (.long (0 : Int64)), .second, .val (.long (1 : Int64)), .second, .val (.long y2), .second, .val (.int (-1 : Int32))] [(.int (0 : Int32))])) _
    refine XS.istore X5.here hx rfl (hb hby dd_prog_23_method_5_code_40) rfl (l' := #[.val (.ref o0), .val (.long y1), .second, .val (.long (0 : Int64)), .second, .val (.long (1 : Int64)), .second, .val (.long y2), .second, .val (.int (0 : Int32))]) rfl ?_
    show Steps p.tables e below (T5.setTop (mkF m 42 #[.val (.ref o0), .val (.long y1), .second, .val (.long (0 : Int64)), .second, .val (.long (1 : Int64)), .second, .val (.long y2), .second, .val (.int (0 : Int32))] [])) _
    refine XS.iload X5.here hx rfl (hb hby dd_prog_23_method_5_code_42) rfl ?_
    refine XS.ifNo X5.here hx rfl (hb hby dd_prog_23_method_5_code_44) rfl ((if0 _ _).trans (flt (by decide : ¬ ((0 : Int32) < (0 : Int32)))).1) ?_
    refine XS.aloadN X5.here hx rfl (hb hby dd_prog_23_method_5_code_47) rfl rfl ?_
    show Steps p.tables e below (T5.setTop (mkF m 48 #[.val (.ref o0), .val (.long y1), .second, .val (.long (0 : Int64)), .second, .val (.long (1 : Int64)), .second, .val (.long y2), .second, .val (.int (0 : Int32))] [(.ref o0)])) _
    refine st6 _ ?_
    show Steps p.tables e below (T6.setTop (mkF m 51 #[.val (.ref o0), .val (.long y1), .second, .val (.long (0 : Int64)), .second, .val (.long (1 : Int64)), .second, .val (.long y2), .second, .val (.int (0 : Int32))] [(.ref b5_1)])) _
    refine XS.iload X6.here hx rfl (hb hby dd_prog_23_method_5_code_51) rfl ?_
    refine XS.aloadN X6.here hx rfl (hb hby dd_prog_23_method_5_code_53) rfl rfl ?_
    show Steps p.tables e below (T6.setTop (mkF m 54 #[.val (.ref o0), .val (.long y1), .second, .val (.long (0 : Int64)), .second, .val (.long (1 : Int64)), .second, .val (.long y2), .second, .val (.int (0 : Int32))] [(.ref o0), (.int (0 : Int32)), (.ref b5_1)])) _
    refine st7 _ ?_
    show Steps p.tables e below (T7.setTop (mkF m 57 #[.val (.ref o0), .val (.long y1), .second, .val (.long (0 : Int64)), .second, .val (.long (1 : Int64)), .second, .val (.long y2), .second, .val (.int (0 : Int32))] [(.int (1 : Int32)), (.int (0 : Int32)), (.ref b5_1)])) _
    refine XS.imul X7.here hx rfl (hb hby dd_prog_23_method_5_code_57) rfl ?_
    refine XS.aloadN X7.here hx rfl (hb hby dd_prog_23_method_5_code_58) rfl rfl ?_
    show Steps p.tables e below (T7.setTop (mkF m 59 #[.val (.ref o0), .val (.long y1), .second, .val (.long (0 : Int64)), .second, .val (.long (1 : Int64)), .second, .val (.long y2), .second, .val (.int (0 : Int32))] [(.ref o0), (.int (0 : Int32)), (.ref b5_1)])) _
    refine st8 _ ?_
    show Steps p.tables e below (T8.setTop (mkF m 62 #[.val (.ref o0), .val (.long y1), .second, .val (.long (0 : Int64)), .second, .val (.long (1 : Int64)), .second, .val (.long y2), .second, .val (.int (0 : Int32))] [(.int (1 : Int32)), (.int (0 : Int32)), (.ref b5_1)])) _
    refine XS.lloadN X8.here hx rfl (hb hby dd_prog_23_method_5_code_62) rfl ?_
    refine XS.lload X8.here hx rfl (hb hby dd_prog_23_method_5_code_63) rfl ?_
    show Steps p.tables e below (T8.setTop (mkF m 65 #[.val (.ref o0), .val (.long y1), .second, .val (.long (0 : Int64)), .second, .val (.long (1 : Int64)), .second, .val (.long y2), .second, .val (.int (0 : Int32))] [(.long (1 : Int64)), (.long (0 : Int64)), (.int (1 : Int32)), (.int (0 : Int32)), (.ref b5_1)])) _
    refine st9 _ ?_
    show Steps p.tables e below (T9.setTop (mkF m 68 #[.val (.ref o0), .val (.long y1), .second, .val (.long (0 : Int64)), .second, .val (.long (1 : Int64)), .second, .val (.long y2), .second, .val (.int (0 : Int32))] [])) _
    refine XS.aloadN X9.here hx rfl (hb hby dd_prog_23_method_5_code_68) rfl rfl ?_
    show Steps p.tables e below (T9.setTop (mkF m 69 #[.val (.ref o0), .val (.long y1), .second, .val (.long (0 : Int64)), .second, .val (.long (1 : Int64)), .second, .val (.long y2), .second, .val (.int (0 : Int32))] [(.ref o0)])) _
    refine st11 _ ?_
    show Steps p.tables e below (T11.setTop (mkF m 72 #[.val (.ref o0), .val (.long y1), .second, .val (.long (0 : Int64)), .second, .val (.long (1 : Int64)), .second, .val (.long y2), .second, .val (.int (0 : Int32))] [(.ref b5_2)])) _
    refine XS.iload X11.here hx rfl (hb hby dd_prog_23_method_5_code_72) rfl ?_
    refine XS.lload X11.here hx rfl (hb hby dd_prog_23_method_5_code_74) rfl ?_
    show Steps p.tables e below (T11.setTop (mkF m 76 #[.val (.ref o0), .val (.long y1), .second, .val (.long (0 : Int64)), .second, .val (.long (1 : Int64)), .second, .val (.long y2), .second, .val (.int (0 : Int32))] [(.long y2), (.int (0 : Int32)), (.ref b5_2)])) _
    refine st14 _ ?_
    show Steps p.tables e below (T14.setTop (mkF m 77 #[.val (.ref o0), .val (.long y1), .second, .val (.long (0 : Int64)), .second, .val (.long (1 : Int64)), .second, .val (.long y2), .second, .val (.int (0 : Int32))] [])) _
    exact X14.returnOut hx Bd.returns (hb hby dd_prog_23_method_5_code_77) lhr
  · skip
    show QA2 Z o0 y1 y2 o3 kk_o3 h0 n0 _ T14.heap _
    rw [e14]
    exact ⟨b5_0, b5_1, b5_2, _, _, _, rfl, N14, K14, sz_b5_0, sz_b5_1, sz_b5_2, g5_0, g5_1, g5_2, f15, f16, f17, f18, f19, f20, f21, f22, f23, V14⟩
theorem dd_jdk_65_method_56_code_15 : decode jdk_65_method_56_code 15 = .ok (.iload 5, 2) := by decide +kernel
theorem dd_jdk_65_method_56_code_17 : decode jdk_65_method_56_code 17 = .ok (.iload 6, 2) := by decide +kernel
theorem dd_jdk_65_method_56_code_19 : decode jdk_65_method_56_code 19 = .ok (.iadd, 1) := by decide +kernel
theorem dd_jdk_65_method_56_code_20 : decode jdk_65_method_56_code 20 = .ok (.iconst 1, 1) := by decide +kernel
theorem dd_jdk_65_method_56_code_21 : decode jdk_65_method_56_code 21 = .ok (.iushr, 1) := by decide +kernel
theorem dd_jdk_65_method_56_code_22 : decode jdk_65_method_56_code 22 = .ok (.istore 7, 2) := by decide +kernel
theorem dd_jdk_65_method_56_code_24 : decode jdk_65_method_56_code 24 = .ok (.aload_n 0, 1) := by decide +kernel
theorem dd_jdk_65_method_56_code_25 : decode jdk_65_method_56_code 25 = .ok (.iload 7, 2) := by decide +kernel
theorem dd_jdk_65_method_56_code_27 : decode jdk_65_method_56_code 27 = .ok (.laload, 1) := by decide +kernel
theorem dd_jdk_65_method_56_code_28 : decode jdk_65_method_56_code 28 = .ok (.lstore 8, 2) := by decide +kernel
theorem dd_jdk_65_method_56_code_30 : decode jdk_65_method_56_code 30 = .ok (.lload 8, 2) := by decide +kernel
theorem dd_jdk_65_method_56_code_32 : decode jdk_65_method_56_code 32 = .ok (.lload_n 3, 1) := by decide +kernel
theorem dd_jdk_65_method_56_code_33 : decode jdk_65_method_56_code 33 = .ok (.lcmp, 1) := by decide +kernel
theorem dd_jdk_65_method_56_code_34 : decode jdk_65_method_56_code 34 = .ok (.ifCond .ge 12, 3) := by decide +kernel
theorem dd_jdk_65_method_56_code_37 : decode jdk_65_method_56_code 37 = .ok (.iload 7, 2) := by decide +kernel
theorem dd_jdk_65_method_56_code_39 : decode jdk_65_method_56_code 39 = .ok (.iconst 1, 1) := by decide +kernel
theorem dd_jdk_65_method_56_code_40 : decode jdk_65_method_56_code 40 = .ok (.iadd, 1) := by decide +kernel
theorem dd_jdk_65_method_56_code_41 : decode jdk_65_method_56_code 41 = .ok (.istore 5, 2) := by decide +kernel
theorem dd_jdk_65_method_56_code_43 : decode jdk_65_method_56_code 43 = .ok (.goto 22, 3) := by decide +kernel
theorem dd_jdk_65_method_56_code_65 : decode jdk_65_method_56_code 65 = .ok (.goto (-57), 3) := by decide +kernel
def QA17 (Z : State) (o0 : Addr) (y1 : Int64) (y2 : Int64) (kk_o0 : ClassId) (h0 : Heap) (n0 : Nat) (v : Option Value) (h : Heap) (L : List Loc) : Prop := v = some (.int (-2 : Int32)) ∧ Fr n0 L ∧ h = h0
set_option maxRecDepth 65536 in
set_option maxHeartbeats 40000000 in
theorem rmA17 (l : Launch) (Z : State) (a0 : Array Value) (hw : ∀ d ∈ tables_1, d.before a0 Z = true) (ws : List Jvm.Cond) (o0 : Addr) (y1 : Int64) (y2 : Int64) (kk_o0 : ClassId) (h0 : Heap) (n0 : Nat) (Z0 : n0 ≤ h0.size) (V_o0 : Arv Z h0 o0 kk_o0 .long (1 : Int32) [(.long y2)] (.long (0 : Int64))) (hq1 : y2 < y1) :
    MetFree l mn10 (head1 (Jvm.Cond.code mn10 jdk_65_method_56_code 10 (some .int) :: ws) ({ frames := 0, cells := 0, slots := 0, locals := 0 } : Room)) (fun a U => a = #[(.ref o0), (.int (0 : Int32)), (.int (1 : Int32)), (.long y1)] ∧ Z.Warmed39 U.vm ∧ U.heap = h0) (fun _ _ _ _ _ => True) (fun _ U oc_ U' => ∃ v L, oc_ = .returned v ∧ QA17 Z o0 y1 y2 kk_o0 h0 n0 v U'.heap L ∧ FrameEnd U oc_ U' L ({ frames := 0, cells := 0, slots := 0, locals := 0 } : Room).cells ({ frames := 0, cells := 0, slots := 0, locals := 0 } : Room).slots) := by
  refine MetFree.of_bodySF (plainFor_of_name pn_java_util_Arrays) hisR ?_
  intro p e s m args below meth c s₁ Bd hml0 hP hK
  obtain ⟨rfl, hZ, hh⟩ := hP
  have hx := Bd.exec
  have hby := Bd.bytes
  have hml : c.maxLocals = 10 := hml0
  have hown : s.vm.findClass "java/util/Arrays" = some m.cls := findClass_of_methodNamed Bd.named
  have hnm := (name_of_methodNamed Bd.named Bd.method).1
  have X0 : Stand p l e ({ frames := 0, cells := 0, slots := 0, locals := 0 } : Room) s m #[(.ref o0), (.int (0 : Int32)), (.int (1 : Int32)), (.long y1)] below meth c s₁ [] 0 0 := Stand.of_body Bd
  have e0 : s₁.heap = h0 := by rw [← hh, Bd.state]; rfl
  have N0 := Fr.nil n0
  have pre0 : ∀ t, Steps p.tables e below (s₁.setTop (mkF m 0 #[.val (.ref o0), .val (.int (0 : Int32)), .val (.int (1 : Int32)), .val (.long y1), .second, .unset, .unset, .unset, .unset, .unset] [])) t → Steps p.tables e below (s₁.setTop (entryFrame m #[(.ref o0), (.int (0 : Int32)), (.int (1 : Int32)), (.long y1)] 10)) t := fun t k => castTop (efa_jdk_65_method_56_code_vvvv m o0 (0 : Int32) (1 : Int32) y1) k
  obtain ⟨cl1, Ar1, q1, S1, M1, HH1, GG1⟩ := id V_o0
  have hin1 : ¬ ((0 : Int32) < 0 ∨ cl1.slots.size ≤ ((0 : Int32)).toNatClampNeg) := inb_of S1 ⟨by decide, by decide⟩
  have hat1 : cl1.slots[((0 : Int32)).toNatClampNeg]? = some (.long y2) := Has.at HH1 hin1 rfl
  obtain ⟨lfs, lhr, lhrun, lhended, lhW, lhsame⟩ := X0.leave (v := some (.int (-2 : Int32))) (fun h => by rw [Bd.returns] at h; cases h)
  refine ⟨_, _, pre0 _ ?_, lhrun, lhended, _, _, rfl, ?_, ⟨_, rfl⟩, lhW, lhsame.mono (by decide) (by decide)⟩
  · skip
    show Steps p.tables e below (s₁.setTop (mkF m 0 #[.val (.ref o0), .val (.int (0 : Int32)), .val (.int (1 : Int32)), .val (.long y1), .second, .unset, .unset, .unset, .unset, .unset] [])) _
    refine XS.iloadN X0.here hx rfl (hb hby dd_jdk_65_method_56_code_0) rfl ?_
    refine XS.istore X0.here hx rfl (hb hby dd_jdk_65_method_56_code_1) rfl (l' := #[.val (.ref o0), .val (.int (0 : Int32)), .val (.int (1 : Int32)), .val (.long y1), .second, .val (.int (0 : Int32)), .unset, .unset, .unset, .unset]) rfl ?_
    show Steps p.tables e below (s₁.setTop (mkF m 3 #[.val (.ref o0), .val (.int (0 : Int32)), .val (.int (1 : Int32)), .val (.long y1), .second, .val (.int (0 : Int32)), .unset, .unset, .unset, .unset] [])) _
    refine XS.iloadN X0.here hx rfl (hb hby dd_jdk_65_method_56_code_3) rfl ?_
    refine XS.iconst X0.here hx rfl (hb hby dd_jdk_65_method_56_code_4) ?_
    refine XS.isub X0.here hx rfl (hb hby dd_jdk_65_method_56_code_5) rfl ?_
    show Steps p.tables e below (s₁.setTop (mkF m 6 #[.val (.ref o0), .val (.int (0 : Int32)), .val (.int (1 : Int32)), .val (.long y1), .second, .val (.int (0 : Int32)), .unset, .unset, .unset, .unset] [(.int (0 : Int32))])) _
    refine XS.istore X0.here hx rfl (hb hby dd_jdk_65_method_56_code_6) rfl (l' := #[.val (.ref o0), .val (.int (0 : Int32)), .val (.int (1 : Int32)), .val (.long y1), .second, .val (.int (0 : Int32)), .val (.int (0 : Int32)), .unset, .unset, .unset]) rfl ?_
    refine XS.iload X0.here hx rfl (hb hby dd_jdk_65_method_56_code_8) rfl ?_
    refine XS.iload X0.here hx rfl (hb hby dd_jdk_65_method_56_code_10) rfl ?_
    show Steps p.tables e below (s₁.setTop (mkF m 12 #[.val (.ref o0), .val (.int (0 : Int32)), .val (.int (1 : Int32)), .val (.long y1), .second, .val (.int (0 : Int32)), .val (.int (0 : Int32)), .unset, .unset, .unset] [(.int (0 : Int32)), (.int (0 : Int32))])) _
    refine XS.icmpNo X0.here hx rfl (hb hby dd_jdk_65_method_56_code_12) rfl (flt (by decide : ¬ ((0 : Int32) < (0 : Int32)))).2.2.1 ?_
    refine XS.iload X0.here hx rfl (hb hby dd_jdk_65_method_56_code_15) rfl ?_
    refine XS.iload X0.here hx rfl (hb hby dd_jdk_65_method_56_code_17) rfl ?_
    show Steps p.tables e below (s₁.setTop (mkF m 19 #[.val (.ref o0), .val (.int (0 : Int32)), .val (.int (1 : Int32)), .val (.long y1), .second, .val (.int (0 : Int32)), .val (.int (0 : Int32)), .unset, .unset, .unset] [(.int (0 : Int32)), (.int (0 : Int32))])) _
    refine XS.iadd X0.here hx rfl (hb hby dd_jdk_65_method_56_code_19) rfl ?_
    refine XS.iconst X0.here hx rfl (hb hby dd_jdk_65_method_56_code_20) ?_
    refine XS.iushr X0.here hx rfl (hb hby dd_jdk_65_method_56_code_21) rfl ?_
    show Steps p.tables e below (s₁.setTop (mkF m 22 #[.val (.ref o0), .val (.int (0 : Int32)), .val (.int (1 : Int32)), .val (.long y1), .second, .val (.int (0 : Int32)), .val (.int (0 : Int32)), .unset, .unset, .unset] [(.int (0 : Int32))])) _
    refine XS.istore X0.here hx rfl (hb hby dd_jdk_65_method_56_code_22) rfl (l' := #[.val (.ref o0), .val (.int (0 : Int32)), .val (.int (1 : Int32)), .val (.long y1), .second, .val (.int (0 : Int32)), .val (.int (0 : Int32)), .val (.int (0 : Int32)), .unset, .unset]) rfl ?_
    refine XS.aloadN X0.here hx rfl (hb hby dd_jdk_65_method_56_code_24) rfl rfl ?_
    refine XS.iload X0.here hx rfl (hb hby dd_jdk_65_method_56_code_25) rfl ?_
    show Steps p.tables e below (s₁.setTop (mkF m 27 #[.val (.ref o0), .val (.int (0 : Int32)), .val (.int (1 : Int32)), .val (.long y1), .second, .val (.int (0 : Int32)), .val (.int (0 : Int32)), .val (.int (0 : Int32)), .unset, .unset] [(.int (0 : Int32)), (.ref o0)])) _
    refine X0.laload hx (j := (0 : Int32)) (v := (.long y2)) (by (try rw [e0]); exact Ar1.1) (State.isArrayOf_alike hZ.alike Ar1.2.1) Ar1.2.2 hin1 hat1 (g := (mkF m 27 #[.val (.ref o0), .val (.int (0 : Int32)), .val (.int (1 : Int32)), .val (.long y1), .second, .val (.int (0 : Int32)), .val (.int (0 : Int32)), .val (.int (0 : Int32)), .unset, .unset] [(.int (0 : Int32)), (.ref o0)])) rfl rfl (hb hby dd_jdk_65_method_56_code_27) _ ?_
    refine XS.lstore X0.here hx rfl (hb hby dd_jdk_65_method_56_code_28) rfl (l' := #[.val (.ref o0), .val (.int (0 : Int32)), .val (.int (1 : Int32)), .val (.long y1), .second, .val (.int (0 : Int32)), .val (.int (0 : Int32)), .val (.int (0 : Int32)), .val (.long y2), .second]) rfl ?_
    refine XS.lload X0.here hx rfl (hb hby dd_jdk_65_method_56_code_30) rfl ?_
    show Steps p.tables e below (s₁.setTop (mkF m 32 #[.val (.ref o0), .val (.int (0 : Int32)), .val (.int (1 : Int32)), .val (.long y1), .second, .val (.int (0 : Int32)), .val (.int (0 : Int32)), .val (.int (0 : Int32)), .val (.long y2), .second] [(.long y2)])) _
    refine XS.lloadN X0.here hx rfl (hb hby dd_jdk_65_method_56_code_32) rfl ?_
    refine XS.lcmp X0.here hx rfl (hb hby dd_jdk_65_method_56_code_33) rfl ?_
    refine XS.ifNo X0.here hx rfl (hb hby dd_jdk_65_method_56_code_34) rfl ((if0 _ _).trans (tlt ((lw_lt y2 y1).mpr hq1)).2.1) ?_
    show Steps p.tables e below (s₁.setTop (mkF m 37 #[.val (.ref o0), .val (.int (0 : Int32)), .val (.int (1 : Int32)), .val (.long y1), .second, .val (.int (0 : Int32)), .val (.int (0 : Int32)), .val (.int (0 : Int32)), .val (.long y2), .second] [])) _
    refine XS.iload X0.here hx rfl (hb hby dd_jdk_65_method_56_code_37) rfl ?_
    refine XS.iconst X0.here hx rfl (hb hby dd_jdk_65_method_56_code_39) ?_
    refine XS.iadd X0.here hx rfl (hb hby dd_jdk_65_method_56_code_40) rfl ?_
    show Steps p.tables e below (s₁.setTop (mkF m 41 #[.val (.ref o0), .val (.int (0 : Int32)), .val (.int (1 : Int32)), .val (.long y1), .second, .val (.int (0 : Int32)), .val (.int (0 : Int32)), .val (.int (0 : Int32)), .val (.long y2), .second] [(.int (1 : Int32))])) _
    refine XS.istore X0.here hx rfl (hb hby dd_jdk_65_method_56_code_41) rfl (l' := #[.val (.ref o0), .val (.int (0 : Int32)), .val (.int (1 : Int32)), .val (.long y1), .second, .val (.int (1 : Int32)), .val (.int (0 : Int32)), .val (.int (0 : Int32)), .val (.long y2), .second]) rfl ?_
    refine XS.goto X0.here hx rfl (pc0 := 43) (pc' := 65) rfl (hb hby dd_jdk_65_method_56_code_43) (by decide) (by decide) ?_
    refine XS.goto X0.here hx rfl (pc0 := 65) (pc' := 8) rfl (hb hby dd_jdk_65_method_56_code_65) (by decide) (by decide) ?_
    show Steps p.tables e below (s₁.setTop (mkF m 8 #[.val (.ref o0), .val (.int (0 : Int32)), .val (.int (1 : Int32)), .val (.long y1), .second, .val (.int (1 : Int32)), .val (.int (0 : Int32)), .val (.int (0 : Int32)), .val (.long y2), .second] [])) _
    refine XS.iload X0.here hx rfl (hb hby dd_jdk_65_method_56_code_8) rfl ?_
    refine XS.iload X0.here hx rfl (hb hby dd_jdk_65_method_56_code_10) rfl ?_
    refine XS.icmpYes X0.here hx rfl (pc0 := 12) (pc' := 68) rfl (hb hby dd_jdk_65_method_56_code_12) rfl (tlt (by decide : (0 : Int32) < (1 : Int32))).2.2.1 (by decide) (by decide) ?_
    show Steps p.tables e below (s₁.setTop (mkF m 68 #[.val (.ref o0), .val (.int (0 : Int32)), .val (.int (1 : Int32)), .val (.long y1), .second, .val (.int (1 : Int32)), .val (.int (0 : Int32)), .val (.int (0 : Int32)), .val (.long y2), .second] [])) _
    refine XS.iload X0.here hx rfl (hb hby dd_jdk_65_method_56_code_68) rfl ?_
    refine XS.iconst X0.here hx rfl (hb hby dd_jdk_65_method_56_code_70) ?_
    refine XS.iadd X0.here hx rfl (hb hby dd_jdk_65_method_56_code_71) rfl ?_
    show Steps p.tables e below (s₁.setTop (mkF m 72 #[.val (.ref o0), .val (.int (0 : Int32)), .val (.int (1 : Int32)), .val (.long y1), .second, .val (.int (1 : Int32)), .val (.int (0 : Int32)), .val (.int (0 : Int32)), .val (.long y2), .second] [(.int (2 : Int32))])) _
    refine XS.ineg X0.here hx rfl (hb hby dd_jdk_65_method_56_code_72) rfl ?_
    show Steps p.tables e below (s₁.setTop (mkF m 73 #[.val (.ref o0), .val (.int (0 : Int32)), .val (.int (1 : Int32)), .val (.long y1), .second, .val (.int (1 : Int32)), .val (.int (0 : Int32)), .val (.int (0 : Int32)), .val (.long y2), .second] [(.int (-2 : Int32))])) _
    exact retI X0 hx Bd.returns (hb hby dd_jdk_65_method_56_code_73) lhr
  · skip
    show QA17 Z o0 y1 y2 kk_o0 h0 n0 _ s₁.heap _
    rw [e0]
    exact ⟨rfl, N0, rfl⟩
def QA15 (Z : State) (o0 : Addr) (y1 : Int64) (y2 : Int64) (kk_o0 : ClassId) (h0 : Heap) (n0 : Nat) (v : Option Value) (h : Heap) (L : List Loc) : Prop := v = some (.int (-2 : Int32)) ∧ Fr n0 L ∧ h = h0
set_option maxRecDepth 65536 in
set_option maxHeartbeats 40000000 in
theorem rmA15 (l : Launch) (Z : State) (a0 : Array Value) (hw : ∀ d ∈ tables_1, d.before a0 Z = true) (ws : List Jvm.Cond) (o0 : Addr) (y1 : Int64) (y2 : Int64) (kk_o0 : ClassId) (h0 : Heap) (n0 : Nat) (Z0 : n0 ≤ h0.size) (V_o0 : Arv Z h0 o0 kk_o0 .long (1 : Int32) [(.long y2)] (.long (0 : Int64))) (hq1 : y2 < y1) :
    MetFree l mn9 (head1 (Jvm.Cond.code mn9 jdk_65_method_55_code 5 (some .int) :: ws) ({ frames := 1, cells := 0, slots := 0, locals := 21 } : Room)) (fun a U => a = #[(.ref o0), (.int (0 : Int32)), (.int (1 : Int32)), (.long y1)] ∧ Z.Warmed39 U.vm ∧ U.heap = h0) (fun _ _ _ _ _ => True) (fun _ U oc_ U' => ∃ v L, oc_ = .returned v ∧ QA15 Z o0 y1 y2 kk_o0 h0 n0 v U'.heap L ∧ FrameEnd U oc_ U' L ({ frames := 1, cells := 0, slots := 0, locals := 21 } : Room).cells ({ frames := 1, cells := 0, slots := 0, locals := 21 } : Room).slots) := by
  refine MetFree.of_bodySF (plainFor_of_name pn_java_util_Arrays) hisR ?_
  intro p e s m args below meth c s₁ Bd hml0 hP hK
  obtain ⟨rfl, hZ, hh⟩ := hP
  have hx := Bd.exec
  have hby := Bd.bytes
  have hml : c.maxLocals = 5 := hml0
  have hown : s.vm.findClass "java/util/Arrays" = some m.cls := findClass_of_methodNamed Bd.named
  have hnm := (name_of_methodNamed Bd.named Bd.method).1
  have X0 : Stand p l e ({ frames := 1, cells := 0, slots := 0, locals := 21 } : Room) s m #[(.ref o0), (.int (0 : Int32)), (.int (1 : Int32)), (.long y1)] below meth c s₁ [] 0 0 := Stand.of_body Bd
  have e0 : s₁.heap = h0 := by rw [← hh, Bd.state]; rfl
  have N0 := Fr.nil n0
  have pre0 : ∀ t, Steps p.tables e below (s₁.setTop (mkF m 0 #[.val (.ref o0), .val (.int (0 : Int32)), .val (.int (1 : Int32)), .val (.long y1), .second] [])) t → Steps p.tables e below (s₁.setTop (entryFrame m #[(.ref o0), (.int (0 : Int32)), (.int (1 : Int32)), (.long y1)] 5)) t := fun t k => castTop (efa_jdk_65_method_55_code_vvvv m o0 (0 : Int32) (1 : Int32) y1) k
  obtain ⟨cl1, Ar1, -, S1, M1, -, -⟩ := id V_o0
  obtain ⟨_, _, ⟨T2, L2, kc2, ks2⟩, -, X2, ⟨Lc2, hQ2, l2, y2, z2⟩, st2⟩ := Jvm.LawKit.callS X0 hx (y := mn12) hown (mvT hZ (wd33 hw)) (mvT hZ (wd34 hw)) (mvT hZ (wd31 hw)) (mvT hZ (wd35 hw)) (by decide) (backOf (W := 0) (rmA12 l Z a0 hw []  h0 n0 Z0 ) hZ (wd35 hw) (wd31 hw) (by decide) (by decide)) (g := (mkF m 4 #[.val (.ref o0), .val (.int (0 : Int32)), .val (.int (1 : Int32)), .val (.long y1), .second] [(.int (1 : Int32)), (.int (0 : Int32)), (.int (1 : Int32))])) rfl (by rw [hml]; rfl) (argsL := [(.int (1 : Int32)), (.int (0 : Int32)), (.int (1 : Int32))]) (rest := []) (lenOf pd__III_V rfl) rfl (by show 2 * 0 + _ ≤ _; exact Nat.le_of_eq rfl) (hb hby dd_jdk_65_method_55_code_4) (fun _ _ => ⟨rfl, e0, (by decide : 0 + 0 ≤ _), (by decide : 0 + 0 ≤ _)⟩)
  dsimp only [Pt.U, Pt.locs, Pt.cells, Pt.slots] at X2 l2 y2 z2 st2 hQ2
  subst l2 y2 z2
  obtain ⟨rfl, Nq2, eq2⟩ := hQ2
  have N2 := Fr.app N0 Nq2
  obtain ⟨_, _, ⟨T3, L3, kc3, ks3⟩, -, X3, ⟨Lc3, hQ3, l3, y3, z3⟩, st3⟩ := Jvm.LawKit.callS X2 hx (y := mn10) hown (mvT hZ (wd36 hw)) (mvT hZ (wd37 hw)) (mvT hZ (wd31 hw)) (mvT hZ (wd38 hw)) (by decide) (backOf (W := 0) (rmA17 l Z a0 hw [] o0 y1 y2 _ h0 n0 Z0 V_o0 hq1) hZ (wd38 hw) (wd31 hw) (by decide) (by decide)) (g := (mkF m 11 #[.val (.ref o0), .val (.int (0 : Int32)), .val (.int (1 : Int32)), .val (.long y1), .second] [(.long y1), (.int (1 : Int32)), (.int (0 : Int32)), (.ref o0)])) rfl (by rw [hml]; rfl) (argsL := [(.ref o0), (.int (0 : Int32)), (.int (1 : Int32)), (.long y1)]) (rest := []) (lenOf pd___JIIJ_I rfl) rfl (by show 2 * 0 + _ ≤ _; exact Nat.le_of_eq rfl) (hb hby dd_jdk_65_method_55_code_11) (fun _ _ => ⟨rfl, eq2, (by decide : 0 + 0 ≤ _), (by decide : 0 + 0 ≤ _)⟩)
  dsimp only [Pt.U, Pt.locs, Pt.cells, Pt.slots] at X3 l3 y3 z3 st3 hQ3
  subst l3 y3 z3
  obtain ⟨rfl, Nq3, eq3⟩ := hQ3
  have N3 := Fr.app N2 Nq3
  obtain ⟨lfs, lhr, lhrun, lhended, lhW, lhsame⟩ := X3.leave (v := some (.int (-2 : Int32))) (fun h => by rw [Bd.returns] at h; cases h)
  refine ⟨_, _, pre0 _ ?_, lhrun, lhended, _, _, rfl, ?_, ⟨_, rfl⟩, lhW, lhsame.mono (by decide) (by decide)⟩
  · skip
    show Steps p.tables e below (s₁.setTop (mkF m 0 #[.val (.ref o0), .val (.int (0 : Int32)), .val (.int (1 : Int32)), .val (.long y1), .second] [])) _
    refine XS.aloadN X0.here hx rfl (hb hby dd_jdk_65_method_55_code_0) rfl rfl ?_
    refine X0.arraylength hx (by (try rw [e0]); exact Ar1.1) (State.isArrayOf_alike hZ.alike Ar1.2.1) (g := (mkF m 1 #[.val (.ref o0), .val (.int (0 : Int32)), .val (.int (1 : Int32)), .val (.long y1), .second] [(.ref o0)])) rfl rfl (hb hby dd_jdk_65_method_55_code_1) _ ?_
    rw [len_of S1 M1]
    show Steps p.tables e below (s₁.setTop (mkF m 2 #[.val (.ref o0), .val (.int (0 : Int32)), .val (.int (1 : Int32)), .val (.long y1), .second] [(.int (1 : Int32))])) _
    refine XS.iloadN X0.here hx rfl (hb hby dd_jdk_65_method_55_code_2) rfl ?_
    refine XS.iloadN X0.here hx rfl (hb hby dd_jdk_65_method_55_code_3) rfl ?_
    show Steps p.tables e below (s₁.setTop (mkF m 4 #[.val (.ref o0), .val (.int (0 : Int32)), .val (.int (1 : Int32)), .val (.long y1), .second] [(.int (1 : Int32)), (.int (0 : Int32)), (.int (1 : Int32))])) _
    refine st2 _ ?_
    show Steps p.tables e below (T2.setTop (mkF m 7 #[.val (.ref o0), .val (.int (0 : Int32)), .val (.int (1 : Int32)), .val (.long y1), .second] [])) _
    refine XS.aloadN X2.here hx rfl (hb hby dd_jdk_65_method_55_code_7) rfl rfl ?_
    refine XS.iloadN X2.here hx rfl (hb hby dd_jdk_65_method_55_code_8) rfl ?_
    refine XS.iloadN X2.here hx rfl (hb hby dd_jdk_65_method_55_code_9) rfl ?_
    show Steps p.tables e below (T2.setTop (mkF m 10 #[.val (.ref o0), .val (.int (0 : Int32)), .val (.int (1 : Int32)), .val (.long y1), .second] [(.int (1 : Int32)), (.int (0 : Int32)), (.ref o0)])) _
    refine XS.lloadN X2.here hx rfl (hb hby dd_jdk_65_method_55_code_10) rfl ?_
    show Steps p.tables e below (T2.setTop (mkF m 11 #[.val (.ref o0), .val (.int (0 : Int32)), .val (.int (1 : Int32)), .val (.long y1), .second] [(.long y1), (.int (1 : Int32)), (.int (0 : Int32)), (.ref o0)])) _
    refine st3 _ ?_
    show Steps p.tables e below (T3.setTop (mkF m 14 #[.val (.ref o0), .val (.int (0 : Int32)), .val (.int (1 : Int32)), .val (.long y1), .second] [(.int (-2 : Int32))])) _
    exact retI X3 hx Bd.returns (hb hby dd_jdk_65_method_55_code_14) lhr
  · skip
    show QA15 Z o0 y1 y2 kk_o0 h0 n0 _ T3.heap _
    rw [eq3]
    exact ⟨rfl, N3, rfl⟩
theorem dd_jdk_29_method_65_code_9 : decode jdk_29_method_65_code 9 = .ok (.iload_n 1, 1) := by decide +kernel
def QA19 (Z : State)  (h0 : Heap) (n0 : Nat) (v : Option Value) (h : Heap) (L : List Loc) : Prop := v = some (.int (2 : Int32)) ∧ Fr n0 L ∧ h = h0
set_option maxRecDepth 65536 in
set_option maxHeartbeats 40000000 in
theorem rmA19 (l : Launch) (Z : State) (a0 : Array Value) (hw : ∀ d ∈ tables_1, d.before a0 Z = true) (ws : List Jvm.Cond)  (h0 : Heap) (n0 : Nat) (Z0 : n0 ≤ h0.size) :
    MetFree l mn8 (head1 (Jvm.Cond.code mn8 jdk_29_method_65_code 2 (some .int) :: ws) ({ frames := 0, cells := 0, slots := 0, locals := 0 } : Room)) (fun a U => a = #[(.int (1 : Int32)), (.int (2 : Int32))] ∧ Z.Warmed39 U.vm ∧ U.heap = h0) (fun _ _ _ _ _ => True) (fun _ U oc_ U' => ∃ v L, oc_ = .returned v ∧ QA19 Z  h0 n0 v U'.heap L ∧ FrameEnd U oc_ U' L ({ frames := 0, cells := 0, slots := 0, locals := 0 } : Room).cells ({ frames := 0, cells := 0, slots := 0, locals := 0 } : Room).slots) := by
  refine MetFree.of_bodySF (Jvm.Free.JP.mathPlain rfl (by decide +kernel)) hisR ?_
  intro p e s m args below meth c s₁ Bd hml0 hP hK
  obtain ⟨rfl, hZ, hh⟩ := hP
  have hx := Bd.exec
  have hby := Bd.bytes
  have hml : c.maxLocals = 2 := hml0
  have hown : s.vm.findClass "java/lang/Math" = some m.cls := findClass_of_methodNamed Bd.named
  have hnm := (name_of_methodNamed Bd.named Bd.method).1
  have X0 : Stand p l e ({ frames := 0, cells := 0, slots := 0, locals := 0 } : Room) s m #[(.int (1 : Int32)), (.int (2 : Int32))] below meth c s₁ [] 0 0 := Stand.of_body Bd
  have e0 : s₁.heap = h0 := by rw [← hh, Bd.state]; rfl
  have N0 := Fr.nil n0
  have pre0 : ∀ t, Steps p.tables e below (s₁.setTop (mkF m 0 #[.val (.int (1 : Int32)), .val (.int (2 : Int32))] [])) t → Steps p.tables e below (s₁.setTop (entryFrame m #[(.int (1 : Int32)), (.int (2 : Int32))] 2)) t := fun t k => castTop (efa_jdk_29_method_65_code_vv m (1 : Int32) (2 : Int32)) k
  obtain ⟨lfs, lhr, lhrun, lhended, lhW, lhsame⟩ := X0.leave (v := some (.int (2 : Int32))) (fun h => by rw [Bd.returns] at h; cases h)
  refine ⟨_, _, pre0 _ ?_, lhrun, lhended, _, _, rfl, ?_, ⟨_, rfl⟩, lhW, lhsame.mono (by decide) (by decide)⟩
  · skip
    show Steps p.tables e below (s₁.setTop (mkF m 0 #[.val (.int (1 : Int32)), .val (.int (2 : Int32))] [])) _
    refine XS.iloadN X0.here hx rfl (hb hby dd_jdk_29_method_65_code_0) rfl ?_
    refine XS.iloadN X0.here hx rfl (hb hby dd_jdk_29_method_65_code_1) rfl ?_
    show Steps p.tables e below (s₁.setTop (mkF m 2 #[.val (.int (1 : Int32)), .val (.int (2 : Int32))] [(.int (2 : Int32)), (.int (1 : Int32))])) _
    refine XS.icmpYes X0.here hx rfl (pc0 := 2) (pc' := 9) rfl (hb hby dd_jdk_29_method_65_code_2) rfl (tlt (by decide : (1 : Int32) < (2 : Int32))).1 (by decide) (by decide) ?_
    refine XS.iloadN X0.here hx rfl (hb hby dd_jdk_29_method_65_code_9) rfl ?_
    show Steps p.tables e below (s₁.setTop (mkF m 10 #[.val (.int (1 : Int32)), .val (.int (2 : Int32))] [(.int (2 : Int32))])) _
    exact retI X0 hx Bd.returns (hb hby dd_jdk_29_method_65_code_10) lhr
  · skip
    show QA19 Z  h0 n0 _ s₁.heap _
    rw [e0]
    exact ⟨rfl, N0, rfl⟩
def QA20 (Z : State) (o0 : Addr) (o1 : Addr) (y2 : Int64) (kk_o1 : ClassId) (h0 : Heap) (n0 : Nat) (v : Option Value) (h : Heap) (L : List Loc) : Prop := ∃ (b1 : Addr) (kk_b1 : ClassId), v = some (.ref b1) ∧ Fr n0 L ∧ Keep h0 h [] ∧ h0.size ≤ b1 ∧ Arv Z h b1 kk_b1 .long (2 : Int32) [(.long y2), (.long (0 : Int64))] (.long (0 : Int64))
set_option maxRecDepth 65536 in
set_option maxHeartbeats 40000000 in
theorem rmA20 (l : Launch) (Z : State) (a0 : Array Value) (hw : ∀ d ∈ tables_1, d.before a0 Z = true) (ws : List Jvm.Cond) (o0 : Addr) (o1 : Addr) (y2 : Int64) (kk_o1 : ClassId) (h0 : Heap) (n0 : Nat) (Z0 : n0 ≤ h0.size) (F_o0_first : Fld Z h0 o0 cn2 "first" "I" (.int (0 : Int32))) (F_o0_end : Fld Z h0 o0 cn2 "end" "I" (.int (1 : Int32))) (V_o1 : Arv Z h0 o1 kk_o1 .long (1 : Int32) [(.long y2)] (.long (0 : Int64))) :
    MetFree l mn6 (head1 (Jvm.Cond.code mn6 prog_23_method_8_code 5 (some (.array .long)) :: ws) ({ frames := 1, cells := 1, slots := 2, locals := 36 } : Room)) (fun a U => a = #[(.ref o0), (.ref o1), (.int (1 : Int32)), (.int (2 : Int32))] ∧ Z.Warmed39 U.vm ∧ U.heap = h0) (fun _ _ _ _ _ => True) (fun _ U oc_ U' => ∃ v L, oc_ = .returned v ∧ QA20 Z o0 o1 y2 kk_o1 h0 n0 v U'.heap L ∧ FrameEnd U oc_ U' L ({ frames := 1, cells := 1, slots := 2, locals := 36 } : Room).cells ({ frames := 1, cells := 1, slots := 2, locals := 36 } : Room).slots) := by
  refine MetFree.of_bodySF (plainFor_of_name pn_com_example_strict_limiter_strictlimiter_KeptWindows) hisR ?_
  intro p e s m args below meth c s₁ Bd hml0 hP hK
  obtain ⟨rfl, hZ, hh⟩ := hP
  have hx := Bd.exec
  have hby := Bd.bytes
  have hml : c.maxLocals = 5 := hml0
  have hown : s.vm.findClass cn2 = some m.cls := findClass_of_methodNamed Bd.named
  have hnm := (name_of_methodNamed Bd.named Bd.method).1
  have X0 : Stand p l e ({ frames := 1, cells := 1, slots := 2, locals := 36 } : Room) s m #[(.ref o0), (.ref o1), (.int (1 : Int32)), (.int (2 : Int32))] below meth c s₁ [] 0 0 := Stand.of_body Bd
  have e0 : s₁.heap = h0 := by rw [← hh, Bd.state]; rfl
  have N0 := Fr.nil n0
  have pre0 : ∀ t, Steps p.tables e below (s₁.setTop (mkF m 0 #[.val (.ref o0), .val (.ref o1), .val (.int (1 : Int32)), .val (.int (2 : Int32)), .unset] [])) t → Steps p.tables e below (s₁.setTop (entryFrame m #[(.ref o0), (.ref o1), (.int (1 : Int32)), (.int (2 : Int32))] 5)) t := fun t k => castTop (efa_prog_23_method_8_code_vvvv m o0 o1 (1 : Int32) (2 : Int32)) k
  obtain ⟨T1, h1, kk1, X1, e1, E1, A1, st1⟩ := newP X0 hx hZ (aty := .long) (wd51 hw) e0 (g := (mkF m 3 #[.val (.ref o0), .val (.ref o1), .val (.int (1 : Int32)), .val (.int (2 : Int32)), .unset] [(.int (2 : Int32))])) rfl (hb hby dd_prog_23_method_8_code_3) rfl (by decide) (cap := 2) (by decide) (by decide) (by decide) (by decide)
  obtain ⟨b1, g1⟩ : ∃ z, z = h0.size := ⟨_, rfl⟩
  rw [← g1] at A1 st1
  have ge_b1 : n0 ≤ b1 := Nat.le_trans Z0 (Nat.le_of_eq g1.symm)
  have sz_b1 : h0.size ≤ b1 := Nat.le_trans (Nat.le_refl _) (Nat.le_of_eq g1.symm)
  have Z1 : n0 ≤ h1.size := Nat.le_trans Z0 E1.1
  have K1 : Keep h0 h1 [] := ((Keep.refl h0 []).ext E1)
  have V1 : Arv Z h1 b1 kk1 .long (2 : Int32) [(.long (0 : Int64)), (.long (0 : Int64))] (.long (0 : Int64)) := (Arv.new A1 (by decide)).pad (pad_rep [] (.long (0 : Int64)) 2)
  have f2 := (F_o0_first.ext E1)
  obtain ⟨T3, X3, e3, st3⟩ := getF X1 hx hZ hown (host := "") (Or.inl (wd25 hw)) Via.refl e1 f2 (g := (mkF m 9 #[.val (.ref o0), .val (.ref o1), .val (.int (1 : Int32)), .val (.int (2 : Int32)), .val (.ref b1)] [(.ref o0), (.ref o1)])) rfl rfl (hb hby dd_prog_23_method_8_code_9)
  have f4 := (F_o0_end.ext E1)
  obtain ⟨T5, X5, e5, st5⟩ := getF X3 hx hZ hown (host := "") (Or.inl (wd27 hw)) Via.refl e3 f4 (g := (mkF m 18 #[.val (.ref o0), .val (.ref o1), .val (.int (1 : Int32)), .val (.int (2 : Int32)), .val (.ref b1)] [(.ref o0), (.int (0 : Int32)), (.ref b1), (.int (0 : Int32)), (.ref o1)])) rfl rfl (hb hby dd_prog_23_method_8_code_18)
  obtain ⟨T6, X6, e6, st6⟩ := getF X5 hx hZ hown (host := "") (Or.inl (wd25 hw)) Via.refl e5 f2 (g := (mkF m 22 #[.val (.ref o0), .val (.ref o1), .val (.int (1 : Int32)), .val (.int (2 : Int32)), .val (.ref b1)] [(.ref o0), (.int (1 : Int32)), (.int (0 : Int32)), (.ref b1), (.int (0 : Int32)), (.ref o1)])) rfl rfl (hb hby dd_prog_23_method_8_code_22)
  have f7 := (V_o1.ext E1)
  obtain ⟨T8, h8, Lq8, X8, e8, Nq8, Kq8, Vq8, st8⟩ := cpA X6 hx hZ hown (wd52 hw) (wd55 hw) (wd53 hw) (wd54 hw) e6 (us := [(.long y2)]) f7 V1 (Or.inl ⟨rfl, rfl⟩) (by decide) (by decide) (by decide) (by first | decide | exact Nat.le_of_ble_eq_true rfl) (by first | decide | exact Nat.le_of_ble_eq_true rfl) (by rfl) (by first | decide | exact Nat.le_of_ble_eq_true rfl) N0 ge_b1 (g := (mkF m 28 #[.val (.ref o0), .val (.ref o1), .val (.int (1 : Int32)), .val (.int (2 : Int32)), .val (.ref b1)] [(.int (1 : Int32)), (.int (0 : Int32)), (.ref b1), (.int (0 : Int32)), (.ref o1)])) rfl (by rw [hml]; rfl) rfl (hb hby dd_prog_23_method_8_code_28) (by decide) (W := 0) (by show 2 * 0 + _ ≤ _; exact Nat.le_of_eq rfl) (by decide)
  have Z8 : n0 ≤ h8.size := Nat.le_trans Z1 Kq8.1
  have K8 : Keep h0 h8 [] := Keep.trans K1 Kq8 (allS (Or.inr sz_b1) all0)
  have V8 : Arv Z h8 b1 _ .long (2 : Int32) [(.long y2), (.long (0 : Int64))] (.long (0 : Int64)) := Vq8
  obtain ⟨lfs, lhr, lhrun, lhended, lhW, lhsame⟩ := X8.leave (v := some (.ref b1)) (fun h => by rw [Bd.returns] at h; cases h)
  refine ⟨_, _, pre0 _ ?_, lhrun, lhended, _, _, rfl, ?_, ⟨_, rfl⟩, lhW, lhsame.mono (by decide) (by decide)⟩
  · skip
    show Steps p.tables e below (s₁.setTop (mkF m 0 #[.val (.ref o0), .val (.ref o1), .val (.int (1 : Int32)), .val (.int (2 : Int32)), .unset] [])) _
    refine XS.iloadN X0.here hx rfl (hb hby dd_prog_23_method_8_code_0) rfl ?_
    refine XS.iloadN X0.here hx rfl (hb hby dd_prog_23_method_8_code_1) rfl ?_
    show Steps p.tables e below (s₁.setTop (mkF m 2 #[.val (.ref o0), .val (.ref o1), .val (.int (1 : Int32)), .val (.int (2 : Int32)), .unset] [(.int (1 : Int32)), (.int (2 : Int32))])) _
    refine XS.imul X0.here hx rfl (hb hby dd_prog_23_method_8_code_2) rfl ?_
    show Steps p.tables e below (s₁.setTop (mkF m 3 #[.val (.ref o0), .val (.ref o1), .val (.int (1 : Int32)), .val (.int (2 : Int32)), .unset] [(.int (2 : Int32))])) _
    refine st1 _ ?_
    show Steps p.tables e below (T1.setTop (mkF m 5 #[.val (.ref o0), .val (.ref o1), .val (.int (1 : Int32)), .val (.int (2 : Int32)), .unset] [(.ref b1)])) _
    refine XS.astore X1.here hx rfl (hb hby dd_prog_23_method_8_code_5) rfl rfl (l' := #[.val (.ref o0), .val (.ref o1), .val (.int (1 : Int32)), .val (.int (2 : Int32)), .val (.ref b1)]) rfl ?_
    show Steps p.tables e below (T1.setTop (mkF m 7 #[.val (.ref o0), .val (.ref o1), .val (.int (1 : Int32)), .val (.int (2 : Int32)), .val (.ref b1)] [])) _
    refine XS.aloadN X1.here hx rfl (hb hby dd_prog_23_method_8_code_7) rfl rfl ?_
    refine XS.aloadN X1.here hx rfl (hb hby dd_prog_23_method_8_code_8) rfl rfl ?_
    show Steps p.tables e below (T1.setTop (mkF m 9 #[.val (.ref o0), .val (.ref o1), .val (.int (1 : Int32)), .val (.int (2 : Int32)), .val (.ref b1)] [(.ref o0), (.ref o1)])) _
    refine st3 _ ?_
    show Steps p.tables e below (T3.setTop (mkF m 12 #[.val (.ref o0), .val (.ref o1), .val (.int (1 : Int32)), .val (.int (2 : Int32)), .val (.ref b1)] [(.int (0 : Int32)), (.ref o1)])) _
    refine XS.iloadN X3.here hx rfl (hb hby dd_prog_23_method_8_code_12) rfl ?_
    refine XS.imul X3.here hx rfl (hb hby dd_prog_23_method_8_code_13) rfl ?_
    refine XS.aload X3.here hx rfl (hb hby dd_prog_23_method_8_code_14) rfl rfl ?_
    show Steps p.tables e below (T3.setTop (mkF m 16 #[.val (.ref o0), .val (.ref o1), .val (.int (1 : Int32)), .val (.int (2 : Int32)), .val (.ref b1)] [(.ref b1), (.int (0 : Int32)), (.ref o1)])) _
    refine XS.iconst X3.here hx rfl (hb hby dd_prog_23_method_8_code_16) ?_
    refine XS.aloadN X3.here hx rfl (hb hby dd_prog_23_method_8_code_17) rfl rfl ?_
    show Steps p.tables e below (T3.setTop (mkF m 18 #[.val (.ref o0), .val (.ref o1), .val (.int (1 : Int32)), .val (.int (2 : Int32)), .val (.ref b1)] [(.ref o0), (.int (0 : Int32)), (.ref b1), (.int (0 : Int32)), (.ref o1)])) _
    refine st5 _ ?_
    show Steps p.tables e below (T5.setTop (mkF m 21 #[.val (.ref o0), .val (.ref o1), .val (.int (1 : Int32)), .val (.int (2 : Int32)), .val (.ref b1)] [(.int (1 : Int32)), (.int (0 : Int32)), (.ref b1), (.int (0 : Int32)), (.ref o1)])) _
    refine XS.aloadN X5.here hx rfl (hb hby dd_prog_23_method_8_code_21) rfl rfl ?_
    show Steps p.tables e below (T5.setTop (mkF m 22 #[.val (.ref o0), .val (.ref o1), .val (.int (1 : Int32)), .val (.int (2 : Int32)), .val (.ref b1)] [(.ref o0), (.int (1 : Int32)), (.int (0 : Int32)), (.ref b1), (.int (0 : Int32)), (.ref o1)])) _
    refine st6 _ ?_
    show Steps p.tables e below (T6.setTop (mkF m 25 #[.val (.ref o0), .val (.ref o1), .val (.int (1 : Int32)), .val (.int (2 : Int32)), .val (.ref b1)] [(.int (0 : Int32)), (.int (1 : Int32)), (.int (0 : Int32)), (.ref b1), (.int (0 : Int32)), (.ref o1)])) _
    refine XS.isub X6.here hx rfl (hb hby dd_prog_23_method_8_code_25) rfl ?_
    show Steps p.tables e below (T6.setTop (mkF m 26 #[.val (.ref o0), .val (.ref o1), .val (.int (1 : Int32)), .val (.int (2 : Int32)), .val (.ref b1)] [(.int (1 : Int32)), (.int (0 : Int32)), (.ref b1), (.int (0 : Int32)), (.ref o1)])) _
    refine XS.iloadN X6.here hx rfl (hb hby dd_prog_23_method_8_code_26) rfl ?_
    refine XS.imul X6.here hx rfl (hb hby dd_prog_23_method_8_code_27) rfl ?_
    show Steps p.tables e below (T6.setTop (mkF m 28 #[.val (.ref o0), .val (.ref o1), .val (.int (1 : Int32)), .val (.int (2 : Int32)), .val (.ref b1)] [(.int (1 : Int32)), (.int (0 : Int32)), (.ref b1), (.int (0 : Int32)), (.ref o1)])) _
    refine st8 _ ?_
    show Steps p.tables e below (T8.setTop (mkF m 31 #[.val (.ref o0), .val (.ref o1), .val (.int (1 : Int32)), .val (.int (2 : Int32)), .val (.ref b1)] [])) _
    refine XS.aload X8.here hx rfl (hb hby dd_prog_23_method_8_code_31) rfl rfl ?_
    show Steps p.tables e below (T8.setTop (mkF m 33 #[.val (.ref o0), .val (.ref o1), .val (.int (1 : Int32)), .val (.int (2 : Int32)), .val (.ref b1)] [(.ref b1)])) _
    exact retOut X8 hx Bd.returns rfl (Or.inr (Or.inr (Or.inr (Or.inr ⟨rfl, rfl, rfl⟩)))) (hb hby dd_prog_23_method_8_code_33) lhr
  · skip
    show QA20 Z o0 o1 y2 kk_o1 h0 n0 _ T8.heap _
    rw [e8]
    exact ⟨b1, _, rfl, Nq8, K8, sz_b1, V8⟩
def QA21 (Z : State) (o0 : Addr) (o1 : Addr) (kk_o1 : ClassId) (h0 : Heap) (n0 : Nat) (v : Option Value) (h : Heap) (L : List Loc) : Prop := ∃ (b1 : Addr) (kk_b1 : ClassId), v = some (.ref b1) ∧ Fr n0 L ∧ Keep h0 h [] ∧ h0.size ≤ b1 ∧ Arv Z h b1 kk_b1 .long (2 : Int32) [(.long (1 : Int64)), (.long (0 : Int64))] (.long (0 : Int64))
set_option maxRecDepth 65536 in
set_option maxHeartbeats 40000000 in
theorem rmA21 (l : Launch) (Z : State) (a0 : Array Value) (hw : ∀ d ∈ tables_1, d.before a0 Z = true) (ws : List Jvm.Cond) (o0 : Addr) (o1 : Addr) (kk_o1 : ClassId) (h0 : Heap) (n0 : Nat) (Z0 : n0 ≤ h0.size) (F_o0_first : Fld Z h0 o0 cn2 "first" "I" (.int (0 : Int32))) (F_o0_end : Fld Z h0 o0 cn2 "end" "I" (.int (1 : Int32))) (V_o1 : Arv Z h0 o1 kk_o1 .long (1 : Int32) [(.long (1 : Int64))] (.long (0 : Int64))) :
    MetFree l mn6 (head1 (Jvm.Cond.code mn6 prog_23_method_8_code 5 (some (.array .long)) :: ws) ({ frames := 1, cells := 1, slots := 2, locals := 36 } : Room)) (fun a U => a = #[(.ref o0), (.ref o1), (.int (1 : Int32)), (.int (2 : Int32))] ∧ Z.Warmed39 U.vm ∧ U.heap = h0) (fun _ _ _ _ _ => True) (fun _ U oc_ U' => ∃ v L, oc_ = .returned v ∧ QA21 Z o0 o1 kk_o1 h0 n0 v U'.heap L ∧ FrameEnd U oc_ U' L ({ frames := 1, cells := 1, slots := 2, locals := 36 } : Room).cells ({ frames := 1, cells := 1, slots := 2, locals := 36 } : Room).slots) := by
  refine MetFree.of_bodySF (plainFor_of_name pn_com_example_strict_limiter_strictlimiter_KeptWindows) hisR ?_
  intro p e s m args below meth c s₁ Bd hml0 hP hK
  obtain ⟨rfl, hZ, hh⟩ := hP
  have hx := Bd.exec
  have hby := Bd.bytes
  have hml : c.maxLocals = 5 := hml0
  have hown : s.vm.findClass cn2 = some m.cls := findClass_of_methodNamed Bd.named
  have hnm := (name_of_methodNamed Bd.named Bd.method).1
  have X0 : Stand p l e ({ frames := 1, cells := 1, slots := 2, locals := 36 } : Room) s m #[(.ref o0), (.ref o1), (.int (1 : Int32)), (.int (2 : Int32))] below meth c s₁ [] 0 0 := Stand.of_body Bd
  have e0 : s₁.heap = h0 := by rw [← hh, Bd.state]; rfl
  have N0 := Fr.nil n0
  have pre0 : ∀ t, Steps p.tables e below (s₁.setTop (mkF m 0 #[.val (.ref o0), .val (.ref o1), .val (.int (1 : Int32)), .val (.int (2 : Int32)), .unset] [])) t → Steps p.tables e below (s₁.setTop (entryFrame m #[(.ref o0), (.ref o1), (.int (1 : Int32)), (.int (2 : Int32))] 5)) t := fun t k => castTop (efa_prog_23_method_8_code_vvvv m o0 o1 (1 : Int32) (2 : Int32)) k
  obtain ⟨T1, h1, kk1, X1, e1, E1, A1, st1⟩ := newP X0 hx hZ (aty := .long) (wd51 hw) e0 (g := (mkF m 3 #[.val (.ref o0), .val (.ref o1), .val (.int (1 : Int32)), .val (.int (2 : Int32)), .unset] [(.int (2 : Int32))])) rfl (hb hby dd_prog_23_method_8_code_3) rfl (by decide) (cap := 2) (by decide) (by decide) (by decide) (by decide)
  obtain ⟨b1, g1⟩ : ∃ z, z = h0.size := ⟨_, rfl⟩
  rw [← g1] at A1 st1
  have ge_b1 : n0 ≤ b1 := Nat.le_trans Z0 (Nat.le_of_eq g1.symm)
  have sz_b1 : h0.size ≤ b1 := Nat.le_trans (Nat.le_refl _) (Nat.le_of_eq g1.symm)
  have Z1 : n0 ≤ h1.size := Nat.le_trans Z0 E1.1
  have K1 : Keep h0 h1 [] := ((Keep.refl h0 []).ext E1)
  have V1 : Arv Z h1 b1 kk1 .long (2 : Int32) [(.long (0 : Int64)), (.long (0 : Int64))] (.long (0 : Int64)) := (Arv.new A1 (by decide)).pad (pad_rep [] (.long (0 : Int64)) 2)
  have f2 := (F_o0_first.ext E1)
  obtain ⟨T3, X3, e3, st3⟩ := getF X1 hx hZ hown (host := "") (Or.inl (wd25 hw)) Via.refl e1 f2 (g := (mkF m 9 #[.val (.ref o0), .val (.ref o1), .val (.int (1 : Int32)), .val (.int (2 : Int32)), .val (.ref b1)] [(.ref o0), (.ref o1)])) rfl rfl (hb hby dd_prog_23_method_8_code_9)
  have f4 := (F_o0_end.ext E1)
  obtain ⟨T5, X5, e5, st5⟩ := getF X3 hx hZ hown (host := "") (Or.inl (wd27 hw)) Via.refl e3 f4 (g := (mkF m 18 #[.val (.ref o0), .val (.ref o1), .val (.int (1 : Int32)), .val (.int (2 : Int32)), .val (.ref b1)] [(.ref o0), (.int (0 : Int32)), (.ref b1), (.int (0 : Int32)), (.ref o1)])) rfl rfl (hb hby dd_prog_23_method_8_code_18)
  obtain ⟨T6, X6, e6, st6⟩ := getF X5 hx hZ hown (host := "") (Or.inl (wd25 hw)) Via.refl e5 f2 (g := (mkF m 22 #[.val (.ref o0), .val (.ref o1), .val (.int (1 : Int32)), .val (.int (2 : Int32)), .val (.ref b1)] [(.ref o0), (.int (1 : Int32)), (.int (0 : Int32)), (.ref b1), (.int (0 : Int32)), (.ref o1)])) rfl rfl (hb hby dd_prog_23_method_8_code_22)
  have f7 := (V_o1.ext E1)
  obtain ⟨T8, h8, Lq8, X8, e8, Nq8, Kq8, Vq8, st8⟩ := cpA X6 hx hZ hown (wd52 hw) (wd55 hw) (wd53 hw) (wd54 hw) e6 (us := [(.long (1 : Int64))]) f7 V1 (Or.inl ⟨rfl, rfl⟩) (by decide) (by decide) (by decide) (by first | decide | exact Nat.le_of_ble_eq_true rfl) (by first | decide | exact Nat.le_of_ble_eq_true rfl) (by rfl) (by first | decide | exact Nat.le_of_ble_eq_true rfl) N0 ge_b1 (g := (mkF m 28 #[.val (.ref o0), .val (.ref o1), .val (.int (1 : Int32)), .val (.int (2 : Int32)), .val (.ref b1)] [(.int (1 : Int32)), (.int (0 : Int32)), (.ref b1), (.int (0 : Int32)), (.ref o1)])) rfl (by rw [hml]; rfl) rfl (hb hby dd_prog_23_method_8_code_28) (by decide) (W := 0) (by show 2 * 0 + _ ≤ _; exact Nat.le_of_eq rfl) (by decide)
  have Z8 : n0 ≤ h8.size := Nat.le_trans Z1 Kq8.1
  have K8 : Keep h0 h8 [] := Keep.trans K1 Kq8 (allS (Or.inr sz_b1) all0)
  have V8 : Arv Z h8 b1 _ .long (2 : Int32) [(.long (1 : Int64)), (.long (0 : Int64))] (.long (0 : Int64)) := Vq8
  obtain ⟨lfs, lhr, lhrun, lhended, lhW, lhsame⟩ := X8.leave (v := some (.ref b1)) (fun h => by rw [Bd.returns] at h; cases h)
  refine ⟨_, _, pre0 _ ?_, lhrun, lhended, _, _, rfl, ?_, ⟨_, rfl⟩, lhW, lhsame.mono (by decide) (by decide)⟩
  · skip
    show Steps p.tables e below (s₁.setTop (mkF m 0 #[.val (.ref o0), .val (.ref o1), .val (.int (1 : Int32)), .val (.int (2 : Int32)), .unset] [])) _
    refine XS.iloadN X0.here hx rfl (hb hby dd_prog_23_method_8_code_0) rfl ?_
    refine XS.iloadN X0.here hx rfl (hb hby dd_prog_23_method_8_code_1) rfl ?_
    show Steps p.tables e below (s₁.setTop (mkF m 2 #[.val (.ref o0), .val (.ref o1), .val (.int (1 : Int32)), .val (.int (2 : Int32)), .unset] [(.int (1 : Int32)), (.int (2 : Int32))])) _
    refine XS.imul X0.here hx rfl (hb hby dd_prog_23_method_8_code_2) rfl ?_
    show Steps p.tables e below (s₁.setTop (mkF m 3 #[.val (.ref o0), .val (.ref o1), .val (.int (1 : Int32)), .val (.int (2 : Int32)), .unset] [(.int (2 : Int32))])) _
    refine st1 _ ?_
    show Steps p.tables e below (T1.setTop (mkF m 5 #[.val (.ref o0), .val (.ref o1), .val (.int (1 : Int32)), .val (.int (2 : Int32)), .unset] [(.ref b1)])) _
    refine XS.astore X1.here hx rfl (hb hby dd_prog_23_method_8_code_5) rfl rfl (l' := #[.val (.ref o0), .val (.ref o1), .val (.int (1 : Int32)), .val (.int (2 : Int32)), .val (.ref b1)]) rfl ?_
    show Steps p.tables e below (T1.setTop (mkF m 7 #[.val (.ref o0), .val (.ref o1), .val (.int (1 : Int32)), .val (.int (2 : Int32)), .val (.ref b1)] [])) _
    refine XS.aloadN X1.here hx rfl (hb hby dd_prog_23_method_8_code_7) rfl rfl ?_
    refine XS.aloadN X1.here hx rfl (hb hby dd_prog_23_method_8_code_8) rfl rfl ?_
    show Steps p.tables e below (T1.setTop (mkF m 9 #[.val (.ref o0), .val (.ref o1), .val (.int (1 : Int32)), .val (.int (2 : Int32)), .val (.ref b1)] [(.ref o0), (.ref o1)])) _
    refine st3 _ ?_
    show Steps p.tables e below (T3.setTop (mkF m 12 #[.val (.ref o0), .val (.ref o1), .val (.int (1 : Int32)), .val (.int (2 : Int32)), .val (.ref b1)] [(.int (0 : Int32)), (.ref o1)])) _
    refine XS.iloadN X3.here hx rfl (hb hby dd_prog_23_method_8_code_12) rfl ?_
    refine XS.imul X3.here hx rfl (hb hby dd_prog_23_method_8_code_13) rfl ?_
    refine XS.aload X3.here hx rfl (hb hby dd_prog_23_method_8_code_14) rfl rfl ?_
    show Steps p.tables e below (T3.setTop (mkF m 16 #[.val (.ref o0), .val (.ref o1), .val (.int (1 : Int32)), .val (.int (2 : Int32)), .val (.ref b1)] [(.ref b1), (.int (0 : Int32)), (.ref o1)])) _
    refine XS.iconst X3.here hx rfl (hb hby dd_prog_23_method_8_code_16) ?_
    refine XS.aloadN X3.here hx rfl (hb hby dd_prog_23_method_8_code_17) rfl rfl ?_
    show Steps p.tables e below (T3.setTop (mkF m 18 #[.val (.ref o0), .val (.ref o1), .val (.int (1 : Int32)), .val (.int (2 : Int32)), .val (.ref b1)] [(.ref o0), (.int (0 : Int32)), (.ref b1), (.int (0 : Int32)), (.ref o1)])) _
    refine st5 _ ?_
    show Steps p.tables e below (T5.setTop (mkF m 21 #[.val (.ref o0), .val (.ref o1), .val (.int (1 : Int32)), .val (.int (2 : Int32)), .val (.ref b1)] [(.int (1 : Int32)), (.int (0 : Int32)), (.ref b1), (.int (0 : Int32)), (.ref o1)])) _
    refine XS.aloadN X5.here hx rfl (hb hby dd_prog_23_method_8_code_21) rfl rfl ?_
    show Steps p.tables e below (T5.setTop (mkF m 22 #[.val (.ref o0), .val (.ref o1), .val (.int (1 : Int32)), .val (.int (2 : Int32)), .val (.ref b1)] [(.ref o0), (.int (1 : Int32)), (.int (0 : Int32)), (.ref b1), (.int (0 : Int32)), (.ref o1)])) _
    refine st6 _ ?_
    show Steps p.tables e below (T6.setTop (mkF m 25 #[.val (.ref o0), .val (.ref o1), .val (.int (1 : Int32)), .val (.int (2 : Int32)), .val (.ref b1)] [(.int (0 : Int32)), (.int (1 : Int32)), (.int (0 : Int32)), (.ref b1), (.int (0 : Int32)), (.ref o1)])) _
    refine XS.isub X6.here hx rfl (hb hby dd_prog_23_method_8_code_25) rfl ?_
    show Steps p.tables e below (T6.setTop (mkF m 26 #[.val (.ref o0), .val (.ref o1), .val (.int (1 : Int32)), .val (.int (2 : Int32)), .val (.ref b1)] [(.int (1 : Int32)), (.int (0 : Int32)), (.ref b1), (.int (0 : Int32)), (.ref o1)])) _
    refine XS.iloadN X6.here hx rfl (hb hby dd_prog_23_method_8_code_26) rfl ?_
    refine XS.imul X6.here hx rfl (hb hby dd_prog_23_method_8_code_27) rfl ?_
    show Steps p.tables e below (T6.setTop (mkF m 28 #[.val (.ref o0), .val (.ref o1), .val (.int (1 : Int32)), .val (.int (2 : Int32)), .val (.ref b1)] [(.int (1 : Int32)), (.int (0 : Int32)), (.ref b1), (.int (0 : Int32)), (.ref o1)])) _
    refine st8 _ ?_
    show Steps p.tables e below (T8.setTop (mkF m 31 #[.val (.ref o0), .val (.ref o1), .val (.int (1 : Int32)), .val (.int (2 : Int32)), .val (.ref b1)] [])) _
    refine XS.aload X8.here hx rfl (hb hby dd_prog_23_method_8_code_31) rfl rfl ?_
    show Steps p.tables e below (T8.setTop (mkF m 33 #[.val (.ref o0), .val (.ref o1), .val (.int (1 : Int32)), .val (.int (2 : Int32)), .val (.ref b1)] [(.ref b1)])) _
    exact retOut X8 hx Bd.returns rfl (Or.inr (Or.inr (Or.inr (Or.inr ⟨rfl, rfl, rfl⟩)))) (hb hby dd_prog_23_method_8_code_33) lhr
  · skip
    show QA21 Z o0 o1 kk_o1 h0 n0 _ T8.heap _
    rw [e8]
    exact ⟨b1, _, rfl, Nq8, K8, sz_b1, V8⟩
def QA24 (Z : State)  (h0 : Heap) (n0 : Nat) (v : Option Value) (h : Heap) (L : List Loc) : Prop := v = none ∧ Fr n0 L ∧ h = h0
set_option maxRecDepth 65536 in
set_option maxHeartbeats 40000000 in
theorem rmA24 (l : Launch) (Z : State) (a0 : Array Value) (hw : ∀ d ∈ tables_1, d.before a0 Z = true) (ws : List Jvm.Cond)  (h0 : Heap) (n0 : Nat) (Z0 : n0 ≤ h0.size) :
    MetFree l mn12 (head1 (Jvm.Cond.code mn12 jdk_65_method_30_code 3 none :: ws) ({ frames := 0, cells := 0, slots := 0, locals := 0 } : Room)) (fun a U => a = #[(.int (2 : Int32)), (.int (1 : Int32)), (.int (2 : Int32))] ∧ Z.Warmed39 U.vm ∧ U.heap = h0) (fun _ _ _ _ _ => True) (fun _ U oc_ U' => ∃ v L, oc_ = .returned v ∧ QA24 Z  h0 n0 v U'.heap L ∧ FrameEnd U oc_ U' L ({ frames := 0, cells := 0, slots := 0, locals := 0 } : Room).cells ({ frames := 0, cells := 0, slots := 0, locals := 0 } : Room).slots) := by
  refine MetFree.of_bodySF (plainFor_of_name pn_java_util_Arrays) hisR ?_
  intro p e s m args below meth c s₁ Bd hml0 hP hK
  obtain ⟨rfl, hZ, hh⟩ := hP
  have hx := Bd.exec
  have hby := Bd.bytes
  have hml : c.maxLocals = 3 := hml0
  have hown : s.vm.findClass "java/util/Arrays" = some m.cls := findClass_of_methodNamed Bd.named
  have hnm := (name_of_methodNamed Bd.named Bd.method).1
  have X0 : Stand p l e ({ frames := 0, cells := 0, slots := 0, locals := 0 } : Room) s m #[(.int (2 : Int32)), (.int (1 : Int32)), (.int (2 : Int32))] below meth c s₁ [] 0 0 := Stand.of_body Bd
  have e0 : s₁.heap = h0 := by rw [← hh, Bd.state]; rfl
  have N0 := Fr.nil n0
  have pre0 : ∀ t, Steps p.tables e below (s₁.setTop (mkF m 0 #[.val (.int (2 : Int32)), .val (.int (1 : Int32)), .val (.int (2 : Int32))] [])) t → Steps p.tables e below (s₁.setTop (entryFrame m #[(.int (2 : Int32)), (.int (1 : Int32)), (.int (2 : Int32))] 3)) t := fun t k => castTop (efa_jdk_65_method_30_code_vvv m (2 : Int32) (1 : Int32) (2 : Int32)) k
  obtain ⟨lfs, lhr, lhrun, lhended, lhW, lhsame⟩ := X0.leave (v := none) (fun _ => rfl)
  refine ⟨_, _, pre0 _ ?_, lhrun, lhended, _, _, rfl, ?_, ⟨_, rfl⟩, lhW, lhsame.mono (by decide) (by decide)⟩
  · skip
    show Steps p.tables e below (s₁.setTop (mkF m 0 #[.val (.int (2 : Int32)), .val (.int (1 : Int32)), .val (.int (2 : Int32))] [])) _
    refine XS.iloadN X0.here hx rfl (hb hby dd_jdk_65_method_30_code_0) rfl ?_
    refine XS.iloadN X0.here hx rfl (hb hby dd_jdk_65_method_30_code_1) rfl ?_
    show Steps p.tables e below (s₁.setTop (mkF m 2 #[.val (.int (2 : Int32)), .val (.int (1 : Int32)), .val (.int (2 : Int32))] [(.int (2 : Int32)), (.int (1 : Int32))])) _
    refine XS.icmpYes X0.here hx rfl (pc0 := 2) (pc' := 46) rfl (hb hby dd_jdk_65_method_30_code_2) rfl (flt (by decide : ¬ ((2 : Int32) < (1 : Int32)))).2.2.2 (by decide) (by decide) ?_
    refine XS.iloadN X0.here hx rfl (hb hby dd_jdk_65_method_30_code_46) rfl ?_
    refine XS.ifYes X0.here hx rfl (pc0 := 47) (pc' := 59) rfl (hb hby dd_jdk_65_method_30_code_47) rfl ((if0 _ _).trans (flt (by decide : ¬ ((1 : Int32) < (0 : Int32)))).2.1) (by decide) (by decide) ?_
    show Steps p.tables e below (s₁.setTop (mkF m 59 #[.val (.int (2 : Int32)), .val (.int (1 : Int32)), .val (.int (2 : Int32))] [])) _
    refine XS.iloadN X0.here hx rfl (hb hby dd_jdk_65_method_30_code_59) rfl ?_
    refine XS.iloadN X0.here hx rfl (hb hby dd_jdk_65_method_30_code_60) rfl ?_
    refine XS.icmpYes X0.here hx rfl (pc0 := 61) (pc' := 73) rfl (hb hby dd_jdk_65_method_30_code_61) rfl (flt (by decide : ¬ ((2 : Int32) < (2 : Int32)))).2.2.2 (by decide) (by decide) ?_
    show Steps p.tables e below (s₁.setTop (mkF m 73 #[.val (.int (2 : Int32)), .val (.int (1 : Int32)), .val (.int (2 : Int32))] [])) _
    exact X0.returnOut hx Bd.returns (hb hby dd_jdk_65_method_30_code_73) lhr
  · skip
    show QA24 Z  h0 n0 _ s₁.heap _
    rw [e0]
    exact ⟨rfl, N0, rfl⟩
def QA23 (Z : State) (o0 : Addr) (kk_o0 : ClassId) (h0 : Heap) (n0 : Nat) (v : Option Value) (h : Heap) (L : List Loc) : Prop := v = none ∧ Fr n0 L ∧ Keep h0 h [o0] ∧ Arv Z h o0 kk_o0 .long (2 : Int32) [(.long (1 : Int64)), (.long (0 : Int64))] (.long (0 : Int64))
set_option maxRecDepth 65536 in
set_option maxHeartbeats 40000000 in
theorem rmA23 (l : Launch) (Z : State) (a0 : Array Value) (hw : ∀ d ∈ tables_1, d.before a0 Z = true) (ws : List Jvm.Cond) (o0 : Addr) (kk_o0 : ClassId) (h0 : Heap) (n0 : Nat) (Z0 : n0 ≤ h0.size) (V_o0 : Arv Z h0 o0 kk_o0 .long (2 : Int32) [(.long (1 : Int64)), (.long (0 : Int64))] (.long (0 : Int64))) (g_o0 : n0 ≤ o0) :
    MetFree l mn11 (head1 (Jvm.Cond.code mn11 jdk_65_method_102_code 6 none :: ws) ({ frames := 1, cells := 0, slots := 0, locals := 14 } : Room)) (fun a U => a = #[(.ref o0), (.int (1 : Int32)), (.int (2 : Int32)), (.long (0 : Int64))] ∧ Z.Warmed39 U.vm ∧ U.heap = h0) (fun _ _ _ _ _ => True) (fun _ U oc_ U' => ∃ v L, oc_ = .returned v ∧ QA23 Z o0 kk_o0 h0 n0 v U'.heap L ∧ FrameEnd U oc_ U' L ({ frames := 1, cells := 0, slots := 0, locals := 14 } : Room).cells ({ frames := 1, cells := 0, slots := 0, locals := 14 } : Room).slots) := by
  refine MetFree.of_bodySF (plainFor_of_name pn_java_util_Arrays) hisR ?_
  intro p e s m args below meth c s₁ Bd hml0 hP hK
  obtain ⟨rfl, hZ, hh⟩ := hP
  have hx := Bd.exec
  have hby := Bd.bytes
  have hml : c.maxLocals = 6 := hml0
  have hown : s.vm.findClass "java/util/Arrays" = some m.cls := findClass_of_methodNamed Bd.named
  have hnm := (name_of_methodNamed Bd.named Bd.method).1
  have X0 : Stand p l e ({ frames := 1, cells := 0, slots := 0, locals := 14 } : Room) s m #[(.ref o0), (.int (1 : Int32)), (.int (2 : Int32)), (.long (0 : Int64))] below meth c s₁ [] 0 0 := Stand.of_body Bd
  have e0 : s₁.heap = h0 := by rw [← hh, Bd.state]; rfl
  have N0 := Fr.nil n0
  have pre0 : ∀ t, Steps p.tables e below (s₁.setTop (mkF m 0 #[.val (.ref o0), .val (.int (1 : Int32)), .val (.int (2 : Int32)), .val (.long (0 : Int64)), .second, .unset] [])) t → Steps p.tables e below (s₁.setTop (entryFrame m #[(.ref o0), (.int (1 : Int32)), (.int (2 : Int32)), (.long (0 : Int64))] 6)) t := fun t k => castTop (efa_jdk_65_method_102_code_vvvv m o0 (1 : Int32) (2 : Int32) (0 : Int64)) k
  obtain ⟨cl1, Ar1, -, S1, M1, -, -⟩ := id V_o0
  obtain ⟨_, _, ⟨T2, L2, kc2, ks2⟩, -, X2, ⟨Lc2, hQ2, l2, y2, z2⟩, st2⟩ := Jvm.LawKit.callS X0 hx (y := mn12) hown (mvT hZ (wd33 hw)) (mvT hZ (wd34 hw)) (mvT hZ (wd31 hw)) (mvT hZ (wd35 hw)) (by decide) (backOf (W := 0) (rmA24 l Z a0 hw []  h0 n0 Z0 ) hZ (wd35 hw) (wd31 hw) (by decide) (by decide)) (g := (mkF m 4 #[.val (.ref o0), .val (.int (1 : Int32)), .val (.int (2 : Int32)), .val (.long (0 : Int64)), .second, .unset] [(.int (2 : Int32)), (.int (1 : Int32)), (.int (2 : Int32))])) rfl (by rw [hml]; rfl) (argsL := [(.int (2 : Int32)), (.int (1 : Int32)), (.int (2 : Int32))]) (rest := []) (lenOf pd__III_V rfl) rfl (by show 2 * 0 + _ ≤ _; exact Nat.le_of_eq rfl) (hb hby dd_jdk_65_method_102_code_4) (fun _ _ => ⟨rfl, e0, (by decide : 0 + 0 ≤ _), (by decide : 0 + 0 ≤ _)⟩)
  dsimp only [Pt.U, Pt.locs, Pt.cells, Pt.slots] at X2 l2 y2 z2 st2 hQ2
  subst l2 y2 z2
  obtain ⟨rfl, Nq2, eq2⟩ := hQ2
  have N2 := Fr.app N0 Nq2
  obtain ⟨cl3, Ar3, q3, S3, M3, HH3, GG3⟩ := id V_o0
  have hin3 : ¬ ((1 : Int32) < 0 ∨ cl3.slots.size ≤ ((1 : Int32)).toNatClampNeg) := inb_of S3 ⟨by decide, by decide⟩
  obtain ⟨T4, h4, X4, e4, W4, st4⟩ := stJ X2 hx hZ eq2 Ar3 (j := (1 : Int32)) hin3 (g := (mkF m 20 #[.val (.ref o0), .val (.int (1 : Int32)), .val (.int (2 : Int32)), .val (.long (0 : Int64)), .second, .val (.int (1 : Int32))] [(.long (0 : Int64)), (.int (1 : Int32)), (.ref o0)])) rfl rfl (hb hby dd_jdk_65_method_102_code_20)
  have N4 := Fr.snoc X4 N2 g_o0
  have Z4 : n0 ≤ h4.size := by rw [W4.size]; exact Z0
  have K4 : Keep h0 h4 [o0] := ((Keep.refl h0 [o0]).wr W4 (Or.inl (List.mem_of_getElem? (i := 0) rfl)))
  have V4 := Arv.set Ar3 q3 S3 M3 HH3 GG3 rfl W4 1 rfl (Nat.le_of_ble_eq_true rfl)
  obtain ⟨lfs, lhr, lhrun, lhended, lhW, lhsame⟩ := X4.leave (v := none) (fun _ => rfl)
  refine ⟨_, _, pre0 _ ?_, lhrun, lhended, _, _, rfl, ?_, ⟨_, rfl⟩, lhW, lhsame.mono (by decide) (by decide)⟩
  · skip
    show Steps p.tables e below (s₁.setTop (mkF m 0 #[.val (.ref o0), .val (.int (1 : Int32)), .val (.int (2 : Int32)), .val (.long (0 : Int64)), .second, .unset] [])) _
    refine XS.aloadN X0.here hx rfl (hb hby dd_jdk_65_method_102_code_0) rfl rfl ?_
    refine X0.arraylength hx (by (try rw [e0]); exact Ar1.1) (State.isArrayOf_alike hZ.alike Ar1.2.1) (g := (mkF m 1 #[.val (.ref o0), .val (.int (1 : Int32)), .val (.int (2 : Int32)), .val (.long (0 : Int64)), .second, .unset] [(.ref o0)])) rfl rfl (hb hby dd_jdk_65_method_102_code_1) _ ?_
    rw [len_of S1 M1]
    show Steps p.tables e below (s₁.setTop (mkF m 2 #[.val (.ref o0), .val (.int (1 : Int32)), .val (.int (2 : Int32)), .val (.long (0 : Int64)), .second, .unset] [(.int (2 : Int32))])) _
    refine XS.iloadN X0.here hx rfl (hb hby dd_jdk_65_method_102_code_2) rfl ?_
    refine XS.iloadN X0.here hx rfl (hb hby dd_jdk_65_method_102_code_3) rfl ?_
    show Steps p.tables e below (s₁.setTop (mkF m 4 #[.val (.ref o0), .val (.int (1 : Int32)), .val (.int (2 : Int32)), .val (.long (0 : Int64)), .second, .unset] [(.int (2 : Int32)), (.int (1 : Int32)), (.int (2 : Int32))])) _
    refine st2 _ ?_
    show Steps p.tables e below (T2.setTop (mkF m 7 #[.val (.ref o0), .val (.int (1 : Int32)), .val (.int (2 : Int32)), .val (.long (0 : Int64)), .second, .unset] [])) _
    refine XS.iloadN X2.here hx rfl (hb hby dd_jdk_65_method_102_code_7) rfl ?_
    refine XS.istore X2.here hx rfl (hb hby dd_jdk_65_method_102_code_8) rfl (l' := #[.val (.ref o0), .val (.int (1 : Int32)), .val (.int (2 : Int32)), .val (.long (0 : Int64)), .second, .val (.int (1 : Int32))]) rfl ?_
    refine XS.iload X2.here hx rfl (hb hby dd_jdk_65_method_102_code_10) rfl ?_
    show Steps p.tables e below (T2.setTop (mkF m 12 #[.val (.ref o0), .val (.int (1 : Int32)), .val (.int (2 : Int32)), .val (.long (0 : Int64)), .second, .val (.int (1 : Int32))] [(.int (1 : Int32))])) _
    refine XS.iloadN X2.here hx rfl (hb hby dd_jdk_65_method_102_code_12) rfl ?_
    refine XS.icmpNo X2.here hx rfl (hb hby dd_jdk_65_method_102_code_13) rfl (tlt (by decide : (1 : Int32) < (2 : Int32))).2.1 ?_
    refine XS.aloadN X2.here hx rfl (hb hby dd_jdk_65_method_102_code_16) rfl rfl ?_
    show Steps p.tables e below (T2.setTop (mkF m 17 #[.val (.ref o0), .val (.int (1 : Int32)), .val (.int (2 : Int32)), .val (.long (0 : Int64)), .second, .val (.int (1 : Int32))] [(.ref o0)])) _
    refine XS.iload X2.here hx rfl (hb hby dd_jdk_65_method_102_code_17) rfl ?_
    refine XS.lloadN X2.here hx rfl (hb hby dd_jdk_65_method_102_code_19) rfl ?_
    show Steps p.tables e below (T2.setTop (mkF m 20 #[.val (.ref o0), .val (.int (1 : Int32)), .val (.int (2 : Int32)), .val (.long (0 : Int64)), .second, .val (.int (1 : Int32))] [(.long (0 : Int64)), (.int (1 : Int32)), (.ref o0)])) _
    refine st4 _ ?_
    show Steps p.tables e below (T4.setTop (mkF m 21 #[.val (.ref o0), .val (.int (1 : Int32)), .val (.int (2 : Int32)), .val (.long (0 : Int64)), .second, .val (.int (1 : Int32))] [])) _
    refine XS.iinc X4.here hx rfl (hb hby dd_jdk_65_method_102_code_21) rfl (l' := #[.val (.ref o0), .val (.int (1 : Int32)), .val (.int (2 : Int32)), .val (.long (0 : Int64)), .second, .val (.int (2 : Int32))]) rfl ?_
    refine XS.goto X4.here hx rfl (pc0 := 24) (pc' := 10) rfl (hb hby dd_jdk_65_method_102_code_24) (by decide) (by decide) ?_
    refine XS.iload X4.here hx rfl (hb hby dd_jdk_65_method_102_code_10) rfl ?_
    show Steps p.tables e below (T4.setTop (mkF m 12 #[.val (.ref o0), .val (.int (1 : Int32)), .val (.int (2 : Int32)), .val (.long (0 : Int64)), .second, .val (.int (2 : Int32))] [(.int (2 : Int32))])) _
    refine XS.iloadN X4.here hx rfl (hb hby dd_jdk_65_method_102_code_12) rfl ?_
    refine XS.icmpYes X4.here hx rfl (pc0 := 13) (pc' := 27) rfl (hb hby dd_jdk_65_method_102_code_13) rfl (flt (by decide : ¬ ((2 : Int32) < (2 : Int32)))).2.1 (by decide) (by decide) ?_
    show Steps p.tables e below (T4.setTop (mkF m 27 #[.val (.ref o0), .val (.int (1 : Int32)), .val (.int (2 : Int32)), .val (.long (0 : Int64)), .second, .val (.int (2 : Int32))] [])) _
    exact X4.returnOut hx Bd.returns (hb hby dd_jdk_65_method_102_code_27) lhr
  · skip
    show QA23 Z o0 kk_o0 h0 n0 _ T4.heap _
    rw [e4]
    exact ⟨rfl, N4, K4, V4⟩
def QA18 (Z : State) (o0 : Addr) (y1 : Int64) (o2 : Addr) (y3 : Int64) (kk_o2 : ClassId) (o4 : Addr) (kk_o4 : ClassId) (o5 : Addr) (y6 : Int64) (kk_o5 : ClassId) (h0 : Heap) (n0 : Nat) (v : Option Value) (h : Heap) (L : List Loc) : Prop := ∃ (b10_0 : Addr) (b23_0 : Addr) (b37_0 : Addr) (kk_b10_0 : ClassId) (kk_b23_0 : ClassId) (kk_b37_0 : ClassId), v = some (.int (1 : Int32)) ∧ Fr n0 L ∧ Keep h0 h [o0] ∧ h0.size ≤ b10_0 ∧ h0.size ≤ b23_0 ∧ h0.size ≤ b37_0 ∧ b10_0 ≠ b23_0 ∧ b10_0 ≠ b37_0 ∧ b23_0 ≠ b37_0 ∧ Fld Z h o0 cn2 "end" "I" (.int (2 : Int32)) ∧ Fld Z h o0 cn2 "starts" "[J" (.ref b10_0) ∧ Fld Z h o0 cn2 "first" "I" (.int (0 : Int32)) ∧ Exa Z h o0 cn2 ∧ Arv Z h b10_0 kk_b10_0 .long (2 : Int32) [(.long y3), (.long y1)] (.long (0 : Int64)) ∧ Fld Z h o0 cn2 "records" "[J" (.ref b23_0) ∧ Fld Z h o0 cn2 "width" "I" (.int (1 : Int32)) ∧ Arv Z h b23_0 kk_b23_0 .long (2 : Int32) [(.long (1 : Int64)), (.long (0 : Int64))] (.long (0 : Int64)) ∧ Fld Z h o0 cn2 "decidedAt" "[J" (.ref b37_0) ∧ Arv Z h b37_0 kk_b37_0 .long (2 : Int32) [(.long y6), (.long (0 : Int64))] (.long (0 : Int64))
set_option maxRecDepth 65536 in
set_option maxHeartbeats 40000000 in
theorem rmA18 (l : Launch) (Z : State) (a0 : Array Value) (hw : ∀ d ∈ tables_1, d.before a0 Z = true) (ws : List Jvm.Cond) (o0 : Addr) (y1 : Int64) (o2 : Addr) (y3 : Int64) (kk_o2 : ClassId) (o4 : Addr) (kk_o4 : ClassId) (o5 : Addr) (y6 : Int64) (kk_o5 : ClassId) (h0 : Heap) (n0 : Nat) (Z0 : n0 ≤ h0.size) (F_o0_end : Fld Z h0 o0 cn2 "end" "I" (.int (1 : Int32))) (F_o0_starts : Fld Z h0 o0 cn2 "starts" "[J" (.ref o2)) (V_o2 : Arv Z h0 o2 kk_o2 .long (1 : Int32) [(.long y3)] (.long (0 : Int64))) (F_o0_first : Fld Z h0 o0 cn2 "first" "I" (.int (0 : Int32))) (E_o0 : Exa Z h0 o0 cn2) (g_o0 : n0 ≤ o0) (F_o0_records : Fld Z h0 o0 cn2 "records" "[J" (.ref o4)) (F_o0_width : Fld Z h0 o0 cn2 "width" "I" (.int (1 : Int32))) (V_o4 : Arv Z h0 o4 kk_o4 .long (1 : Int32) [(.long (1 : Int64))] (.long (0 : Int64))) (ne_o4_o0 : o4 ≠ o0) (ne_o2_o0 : o2 ≠ o0) (F_o0_decidedAt : Fld Z h0 o0 cn2 "decidedAt" "[J" (.ref o5)) (V_o5 : Arv Z h0 o5 kk_o5 .long (1 : Int32) [(.long y6)] (.long (0 : Int64))) (ne_o5_o0 : o5 ≠ o0) :
    MetFree l mn5 (head1 (Jvm.Cond.code mn5 prog_23_method_7_code 7 (some .int) :: ws) ({ frames := 2, cells := 3, slots := 6, locals := 53 } : Room)) (fun a U => a = #[(.ref o0), (.int (1 : Int32)), (.long y1)] ∧ Z.Warmed39 U.vm ∧ U.heap = h0) (fun _ _ _ _ _ => True) (fun _ U oc_ U' => ∃ v L, oc_ = .returned v ∧ QA18 Z o0 y1 o2 y3 kk_o2 o4 kk_o4 o5 y6 kk_o5 h0 n0 v U'.heap L ∧ FrameEnd U oc_ U' L ({ frames := 2, cells := 3, slots := 6, locals := 53 } : Room).cells ({ frames := 2, cells := 3, slots := 6, locals := 53 } : Room).slots) := by
  refine MetFree.of_bodySF (plainFor_of_name pn_com_example_strict_limiter_strictlimiter_KeptWindows) hisR ?_
  intro p e s m args below meth c s₁ Bd hml0 hP hK
  obtain ⟨rfl, hZ, hh⟩ := hP
  have hx := Bd.exec
  have hby := Bd.bytes
  have hml : c.maxLocals = 7 := hml0
  have hown : s.vm.findClass cn2 = some m.cls := findClass_of_methodNamed Bd.named
  have hnm := (name_of_methodNamed Bd.named Bd.method).1
  have X0 : Stand p l e ({ frames := 2, cells := 3, slots := 6, locals := 53 } : Room) s m #[(.ref o0), (.int (1 : Int32)), (.long y1)] below meth c s₁ [] 0 0 := Stand.of_body Bd
  have e0 : s₁.heap = h0 := by rw [← hh, Bd.state]; rfl
  have N0 := Fr.nil n0
  have pre0 : ∀ t, Steps p.tables e below (s₁.setTop (mkF m 0 #[.val (.ref o0), .val (.int (1 : Int32)), .val (.long y1), .second, .unset, .unset, .unset] [])) t → Steps p.tables e below (s₁.setTop (entryFrame m #[(.ref o0), (.int (1 : Int32)), (.long y1)] 7)) t := fun t k => castTop (efa_prog_23_method_7_code_vvv m o0 (1 : Int32) y1) k
  obtain ⟨T1, X1, e1, st1⟩ := getF X0 hx hZ hown (host := "") (Or.inl (wd27 hw)) Via.refl e0 F_o0_end (g := (mkF m 4 #[.val (.ref o0), .val (.int (1 : Int32)), .val (.long y1), .second, .val (.int (1 : Int32)), .unset, .unset] [(.ref o0)])) rfl rfl (hb hby dd_prog_23_method_7_code_4)
  obtain ⟨T2, X2, e2, st2⟩ := getF X1 hx hZ hown (host := "") (Or.inl (wd12 hw)) Via.refl e1 F_o0_starts (g := (mkF m 8 #[.val (.ref o0), .val (.int (1 : Int32)), .val (.long y1), .second, .val (.int (1 : Int32)), .unset, .unset] [(.ref o0), (.int (1 : Int32))])) rfl rfl (hb hby dd_prog_23_method_7_code_8)
  obtain ⟨cl3, Ar3, -, S3, M3, -, -⟩ := id V_o2
  obtain ⟨T4, X4, e4, st4⟩ := getF X2 hx hZ hown (host := "") (Or.inl (wd27 hw)) Via.refl e2 F_o0_end (g := (mkF m 16 #[.val (.ref o0), .val (.int (1 : Int32)), .val (.long y1), .second, .val (.int (1 : Int32)), .unset, .unset] [(.ref o0)])) rfl rfl (hb hby dd_prog_23_method_7_code_16)
  obtain ⟨T5, X5, e5, st5⟩ := getF X4 hx hZ hown (host := "") (Or.inl (wd25 hw)) Via.refl e4 F_o0_first (g := (mkF m 20 #[.val (.ref o0), .val (.int (1 : Int32)), .val (.long y1), .second, .val (.int (1 : Int32)), .unset, .unset] [(.ref o0), (.int (1 : Int32))])) rfl rfl (hb hby dd_prog_23_method_7_code_20)
  obtain ⟨T6, X6, e6, st6⟩ := getF X5 hx hZ hown (host := "") (Or.inl (wd12 hw)) Via.refl e5 F_o0_starts (g := (mkF m 29 #[.val (.ref o0), .val (.int (1 : Int32)), .val (.long y1), .second, .val (.int (1 : Int32)), .val (.int (1 : Int32)), .unset] [(.ref o0), (.int (1 : Int32))])) rfl rfl (hb hby dd_prog_23_method_7_code_29)
  obtain ⟨cl7, Ar7, -, S7, M7, -, -⟩ := id V_o2
  obtain ⟨_, _, ⟨T8, L8, kc8, ks8⟩, -, X8, ⟨Lc8, hQ8, l8, y8, z8⟩, st8⟩ := Jvm.LawKit.callS X6 hx (y := mn8) hown (mvT hZ (wd43 hw)) (mvT hZ (wd44 hw)) (mvT hZ (wd45 hw)) (mvT hZ (wd46 hw)) (by decide) (backOf (W := 0) (rmA19 l Z a0 hw []  h0 n0 Z0 ) hZ (wd46 hw) (wd45 hw) (by decide) (by decide)) (g := (mkF m 41 #[.val (.ref o0), .val (.int (1 : Int32)), .val (.long y1), .second, .val (.int (1 : Int32)), .val (.int (1 : Int32)), .unset] [(.int (2 : Int32)), (.int (1 : Int32))])) rfl (by rw [hml]; rfl) (argsL := [(.int (1 : Int32)), (.int (2 : Int32))]) (rest := []) (lenOf pd__II_I rfl) rfl (by show 2 * 0 + _ ≤ _; exact Nat.le_of_eq rfl) (hb hby dd_prog_23_method_7_code_41) (fun _ _ => ⟨rfl, e6, (by decide : 0 + 0 ≤ _), (by decide : 0 + 0 ≤ _)⟩)
  dsimp only [Pt.U, Pt.locs, Pt.cells, Pt.slots] at X8 l8 y8 z8 st8 hQ8
  subst l8 y8 z8
  obtain ⟨rfl, Nq8, eq8⟩ := hQ8
  have N8 := Fr.app N0 Nq8
  obtain ⟨T9, X9, e9, st9⟩ := getF X8 hx hZ hown (host := "") (Or.inl (wd12 hw)) Via.refl eq8 F_o0_starts (g := (mkF m 57 #[.val (.ref o0), .val (.int (1 : Int32)), .val (.long y1), .second, .val (.int (1 : Int32)), .val (.int (1 : Int32)), .val (.int (2 : Int32))] [(.ref o0), (.ref o0), (.ref o0)])) rfl rfl (hb hby dd_prog_23_method_7_code_57)
  obtain ⟨cq10, q10, q10'⟩ := E_o0.cell
  obtain ⟨_, _, ⟨T10, L10, kc10, ks10⟩, -, X10, ⟨Lc10, hQ10, l10, y10, z10⟩, st10⟩ := X9.privateBack hx (y := mn6) hown (mvT hZ (wd47 hw)) (mvT hZ (wd48 hw)) (own_selPriv (mvT hZ (wd2 hw)) (Cond.privateMethod_at (mvP hZ (wd49 hw) (args := #[]))) (mvT hZ (wd48 hw)) (by decide)) (Cond.privateMethod_at (mvP hZ (wd49 hw) (args := #[]))) (mvT hZ (wd50 hw)) (by decide) (backOf (W := 1) (rmA20 l Z a0 hw [] o0 o2 y3 _ h0 n0 Z0 F_o0_first F_o0_end V_o2) hZ (wd50 hw) (wd3 hw) (by decide) (by decide)) (g := (mkF m 63 #[.val (.ref o0), .val (.int (1 : Int32)), .val (.long y1), .second, .val (.int (1 : Int32)), .val (.int (1 : Int32)), .val (.int (2 : Int32))] [(.int (2 : Int32)), (.int (1 : Int32)), (.ref o2), (.ref o0), (.ref o0)])) rfl (by rw [hml]; rfl) (Steps.refl _) (a := o0) (by rw [e9]; exact q10) q10' (argsL := [(.ref o2), (.int (1 : Int32)), (.int (2 : Int32))]) (rest := [(.ref o0)]) (lenOf pd___JII__J rfl) rfl (by show 2 * 0 + _ ≤ _; exact Nat.le_of_eq rfl) (hb hby dd_prog_23_method_7_code_63) (fun _ _ => ⟨rfl, e9, (by decide : 0 + 1 ≤ _), (by decide : 0 + 2 ≤ _)⟩)
  dsimp only [Pt.U, Pt.locs, Pt.cells, Pt.slots] at X10 l10 y10 z10 st10 hQ10
  subst l10 y10 z10
  obtain ⟨b10_0, kv10_1, rfl, Nq10, Kq10, sz10_0, g10_0⟩ := hQ10
  have N10 := Fr.app N8 Nq10
  have Z10 : n0 ≤ T10.heap.size := Nat.le_trans Z0 Kq10.1
  have K10 : Keep h0 T10.heap [o0] := Keep.trans (Keep.refl h0 [o0]) Kq10 all0
  have ne_o0_b10_0 : o0 ≠ b10_0 := Nat.ne_of_lt (Nat.lt_of_lt_of_le F_o0_end.lt sz10_0)
  have ne_o2_b10_0 : o2 ≠ b10_0 := Nat.ne_of_lt (Nat.lt_of_lt_of_le V_o2.lt sz10_0)
  have ge_b10_0 : n0 ≤ b10_0 := Nat.le_trans Z0 sz10_0
  have sz_b10_0 : h0.size ≤ b10_0 := Nat.le_trans (Nat.le_refl _) sz10_0
  have f11 := (E_o0.keep Kq10)
  have f12 := (F_o0_starts.keep Kq10 nin0)
  obtain ⟨T13, h13, X13, e13, W13, st13⟩ := putF X10 hx hZ hown (host := "") (Or.inl (wd12 hw)) Via.refl rfl f12 f11 (Or.inl (wd13 hw)) (wd2 hw) (ty := (.array .long)) (by decide) rfl rfl (g := (mkF m 66 #[.val (.ref o0), .val (.int (1 : Int32)), .val (.long y1), .second, .val (.int (1 : Int32)), .val (.int (1 : Int32)), .val (.int (2 : Int32))] [(.ref b10_0), (.ref o0)])) rfl rfl (hb hby dd_prog_23_method_7_code_66)
  have N13 := Fr.snoc X13 N10 g_o0
  have Z13 : n0 ≤ h13.size := by rw [W13.size]; exact Z10
  have K13 : Keep h0 h13 [o0] := (K10.wr W13 (Or.inl (List.mem_of_getElem? (i := 0) rfl)))
  have Fw13 := f12.same W13
  have f14 := ((F_o0_records.keep Kq10 nin0).other W13 (Or.inr (slot_ne (Or.inl (wd15 hw)) (Or.inl (wd13 hw)) (by decide) (t := (.array .long)) (t' := (.array .long)) (by decide) (by decide))))
  obtain ⟨T15, X15, e15, st15⟩ := getF X13 hx hZ hown (host := "") (Or.inl (wd14 hw)) Via.refl e13 f14 (g := (mkF m 72 #[.val (.ref o0), .val (.int (1 : Int32)), .val (.long y1), .second, .val (.int (1 : Int32)), .val (.int (1 : Int32)), .val (.int (2 : Int32))] [(.ref o0), (.ref o0), (.ref o0)])) rfl rfl (hb hby dd_prog_23_method_7_code_72)
  have f16 := ((F_o0_width.keep Kq10 nin0).other W13 (Or.inr (slot_ne (Or.inr (wd19 hw)) (Or.inl (wd13 hw)) (by decide) (t := .int) (t' := (.array .long)) (by decide) (by decide))))
  obtain ⟨T17, X17, e17, st17⟩ := getF X15 hx hZ hown (host := "") (Or.inl (wd18 hw)) Via.refl e15 f16 (g := (mkF m 76 #[.val (.ref o0), .val (.int (1 : Int32)), .val (.long y1), .second, .val (.int (1 : Int32)), .val (.int (1 : Int32)), .val (.int (2 : Int32))] [(.ref o0), (.ref o4), (.ref o0), (.ref o0)])) rfl rfl (hb hby dd_prog_23_method_7_code_76)
  have f18 := ((F_o0_first.keep Kq10 nin0).other W13 (Or.inr (slot_ne (Or.inl (wd26 hw)) (Or.inl (wd13 hw)) (by decide) (t := .int) (t' := (.array .long)) (by decide) (by decide))))
  have f19 := ((F_o0_end.keep Kq10 nin0).other W13 (Or.inr (slot_ne (Or.inl (wd28 hw)) (Or.inl (wd13 hw)) (by decide) (t := .int) (t' := (.array .long)) (by decide) (by decide))))
  have f20 := ((V_o4.keep Kq10 nin0).other W13 ne_o4_o0)
  have f21 := ((V_o2.keep Kq10 nin0).other W13 ne_o2_o0)
  have f22 := (g10_0.other W13 (Ne.symm ne_o0_b10_0))
  have f24 := (f11.wr W13)
  obtain ⟨cq23, q23, q23'⟩ := f24.cell
  obtain ⟨_, _, ⟨T23, L23, kc23, ks23⟩, -, X23, ⟨Lc23, hQ23, l23, y23, z23⟩, st23⟩ := X17.privateBack hx (y := mn6) hown (mvT hZ (wd47 hw)) (mvT hZ (wd48 hw)) (own_selPriv (mvT hZ (wd2 hw)) (Cond.privateMethod_at (mvP hZ (wd49 hw) (args := #[]))) (mvT hZ (wd48 hw)) (by decide)) (Cond.privateMethod_at (mvP hZ (wd49 hw) (args := #[]))) (mvT hZ (wd50 hw)) (by decide) (backOf (W := 1) (rmA21 l Z a0 hw [] o0 o4 _ h13 n0 Z13 f18 f19 f20) hZ (wd50 hw) (wd3 hw) (by decide) (by decide)) (g := (mkF m 81 #[.val (.ref o0), .val (.int (1 : Int32)), .val (.long y1), .second, .val (.int (1 : Int32)), .val (.int (1 : Int32)), .val (.int (2 : Int32))] [(.int (2 : Int32)), (.int (1 : Int32)), (.ref o4), (.ref o0), (.ref o0)])) rfl (by rw [hml]; rfl) (Steps.refl _) (a := o0) (by rw [e17]; exact q23) q23' (argsL := [(.ref o4), (.int (1 : Int32)), (.int (2 : Int32))]) (rest := [(.ref o0)]) (lenOf pd___JII__J rfl) rfl (by show 2 * 0 + _ ≤ _; exact Nat.le_of_eq rfl) (hb hby dd_prog_23_method_7_code_81) (fun _ _ => ⟨rfl, e17, (by decide : 1 + 1 ≤ _), (by decide : 2 + 2 ≤ _)⟩)
  dsimp only [Pt.U, Pt.locs, Pt.cells, Pt.slots] at X23 l23 y23 z23 st23 hQ23
  subst l23 y23 z23
  obtain ⟨b23_0, kv23_1, rfl, Nq23, Kq23, sz23_0, g23_0⟩ := hQ23
  have N23 := Fr.app N13 Nq23
  have Z23 : n0 ≤ T23.heap.size := Nat.le_trans Z13 Kq23.1
  have K23 : Keep h0 T23.heap [o0] := Keep.trans K13 Kq23 all0
  have ne_o0_b23_0 : o0 ≠ b23_0 := Nat.ne_of_lt (Nat.lt_of_lt_of_le f19.lt sz23_0)
  have ne_o2_b23_0 : o2 ≠ b23_0 := Nat.ne_of_lt (Nat.lt_of_lt_of_le f21.lt sz23_0)
  have ne_b10_0_b23_0 : b10_0 ≠ b23_0 := Nat.ne_of_lt (Nat.lt_of_lt_of_le f22.lt sz23_0)
  have ne_o4_b23_0 : o4 ≠ b23_0 := Nat.ne_of_lt (Nat.lt_of_lt_of_le f20.lt sz23_0)
  have ge_b23_0 : n0 ≤ b23_0 := Nat.le_trans Z13 sz23_0
  have sz_b23_0 : h0.size ≤ b23_0 := Nat.le_trans K13.1 sz23_0
  have f25 := (f24.keep Kq23)
  have f26 := (f14.keep Kq23 nin0)
  obtain ⟨T27, h27, X27, e27, W27, st27⟩ := putF X23 hx hZ hown (host := "") (Or.inl (wd14 hw)) Via.refl rfl f26 f25 (Or.inl (wd15 hw)) (wd2 hw) (ty := (.array .long)) (by decide) rfl rfl (g := (mkF m 84 #[.val (.ref o0), .val (.int (1 : Int32)), .val (.long y1), .second, .val (.int (1 : Int32)), .val (.int (1 : Int32)), .val (.int (2 : Int32))] [(.ref b23_0), (.ref o0)])) rfl rfl (hb hby dd_prog_23_method_7_code_84)
  have N27 := Fr.snoc X27 N23 g_o0
  have Z27 : n0 ≤ h27.size := by rw [W27.size]; exact Z23
  have K27 : Keep h0 h27 [o0] := (K23.wr W27 (Or.inl (List.mem_of_getElem? (i := 0) rfl)))
  have Fw27 := f26.same W27
  have f28 := ((((F_o0_decidedAt.keep Kq10 nin0).other W13 (Or.inr (slot_ne (Or.inl (wd17 hw)) (Or.inl (wd13 hw)) (by decide) (t := (.array .long)) (t' := (.array .long)) (by decide) (by decide)))).keep Kq23 nin0).other W27 (Or.inr (slot_ne (Or.inl (wd17 hw)) (Or.inl (wd15 hw)) (by decide) (t := (.array .long)) (t' := (.array .long)) (by decide) (by decide))))
  obtain ⟨T29, X29, e29, st29⟩ := getF X27 hx hZ hown (host := "") (Or.inl (wd16 hw)) Via.refl e27 f28 (g := (mkF m 90 #[.val (.ref o0), .val (.int (1 : Int32)), .val (.long y1), .second, .val (.int (1 : Int32)), .val (.int (1 : Int32)), .val (.int (2 : Int32))] [(.ref o0), (.ref o0), (.ref o0)])) rfl rfl (hb hby dd_prog_23_method_7_code_90)
  have f30 := ((f18.keep Kq23 nin0).other W27 (Or.inr (slot_ne (Or.inl (wd26 hw)) (Or.inl (wd15 hw)) (by decide) (t := .int) (t' := (.array .long)) (by decide) (by decide))))
  have f31 := ((f19.keep Kq23 nin0).other W27 (Or.inr (slot_ne (Or.inl (wd28 hw)) (Or.inl (wd15 hw)) (by decide) (t := .int) (t' := (.array .long)) (by decide) (by decide))))
  have f32 := ((((V_o5.keep Kq10 nin0).other W13 ne_o5_o0).keep Kq23 nin0).other W27 ne_o5_o0)
  have f33 := ((f21.keep Kq23 nin0).other W27 ne_o2_o0)
  have f34 := ((f22.keep Kq23 nin0).other W27 (Ne.symm ne_o0_b10_0))
  have f35 := ((f20.keep Kq23 nin0).other W27 ne_o4_o0)
  have f36 := (g23_0.other W27 (Ne.symm ne_o0_b23_0))
  have f38 := (f25.wr W27)
  obtain ⟨cq37, q37, q37'⟩ := f38.cell
  obtain ⟨_, _, ⟨T37, L37, kc37, ks37⟩, -, X37, ⟨Lc37, hQ37, l37, y37, z37⟩, st37⟩ := X29.privateBack hx (y := mn6) hown (mvT hZ (wd47 hw)) (mvT hZ (wd48 hw)) (own_selPriv (mvT hZ (wd2 hw)) (Cond.privateMethod_at (mvP hZ (wd49 hw) (args := #[]))) (mvT hZ (wd48 hw)) (by decide)) (Cond.privateMethod_at (mvP hZ (wd49 hw) (args := #[]))) (mvT hZ (wd50 hw)) (by decide) (backOf (W := 1) (rmA20 l Z a0 hw [] o0 o5 y6 _ h27 n0 Z27 f30 f31 f32) hZ (wd50 hw) (wd3 hw) (by decide) (by decide)) (g := (mkF m 96 #[.val (.ref o0), .val (.int (1 : Int32)), .val (.long y1), .second, .val (.int (1 : Int32)), .val (.int (1 : Int32)), .val (.int (2 : Int32))] [(.int (2 : Int32)), (.int (1 : Int32)), (.ref o5), (.ref o0), (.ref o0)])) rfl (by rw [hml]; rfl) (Steps.refl _) (a := o0) (by rw [e29]; exact q37) q37' (argsL := [(.ref o5), (.int (1 : Int32)), (.int (2 : Int32))]) (rest := [(.ref o0)]) (lenOf pd___JII__J rfl) rfl (by show 2 * 0 + _ ≤ _; exact Nat.le_of_eq rfl) (hb hby dd_prog_23_method_7_code_96) (fun _ _ => ⟨rfl, e29, (by decide : 2 + 1 ≤ _), (by decide : 4 + 2 ≤ _)⟩)
  dsimp only [Pt.U, Pt.locs, Pt.cells, Pt.slots] at X37 l37 y37 z37 st37 hQ37
  subst l37 y37 z37
  obtain ⟨b37_0, kv37_1, rfl, Nq37, Kq37, sz37_0, g37_0⟩ := hQ37
  have N37 := Fr.app N27 Nq37
  have Z37 : n0 ≤ T37.heap.size := Nat.le_trans Z27 Kq37.1
  have K37 : Keep h0 T37.heap [o0] := Keep.trans K27 Kq37 all0
  have ne_o0_b37_0 : o0 ≠ b37_0 := Nat.ne_of_lt (Nat.lt_of_lt_of_le f31.lt sz37_0)
  have ne_o2_b37_0 : o2 ≠ b37_0 := Nat.ne_of_lt (Nat.lt_of_lt_of_le f33.lt sz37_0)
  have ne_b10_0_b37_0 : b10_0 ≠ b37_0 := Nat.ne_of_lt (Nat.lt_of_lt_of_le f34.lt sz37_0)
  have ne_o4_b37_0 : o4 ≠ b37_0 := Nat.ne_of_lt (Nat.lt_of_lt_of_le f35.lt sz37_0)
  have ne_b23_0_b37_0 : b23_0 ≠ b37_0 := Nat.ne_of_lt (Nat.lt_of_lt_of_le f36.lt sz37_0)
  have ne_o5_b37_0 : o5 ≠ b37_0 := Nat.ne_of_lt (Nat.lt_of_lt_of_le f32.lt sz37_0)
  have ge_b37_0 : n0 ≤ b37_0 := Nat.le_trans Z27 sz37_0
  have sz_b37_0 : h0.size ≤ b37_0 := Nat.le_trans K27.1 sz37_0
  have f39 := (f38.keep Kq37)
  have f40 := (f28.keep Kq37 nin0)
  obtain ⟨T41, h41, X41, e41, W41, st41⟩ := putF X37 hx hZ hown (host := "") (Or.inl (wd16 hw)) Via.refl rfl f40 f39 (Or.inl (wd17 hw)) (wd2 hw) (ty := (.array .long)) (by decide) rfl rfl (g := (mkF m 99 #[.val (.ref o0), .val (.int (1 : Int32)), .val (.long y1), .second, .val (.int (1 : Int32)), .val (.int (1 : Int32)), .val (.int (2 : Int32))] [(.ref b37_0), (.ref o0)])) rfl rfl (hb hby dd_prog_23_method_7_code_99)
  have N41 := Fr.snoc X41 N37 g_o0
  have Z41 : n0 ≤ h41.size := by rw [W41.size]; exact Z37
  have K41 : Keep h0 h41 [o0] := (K37.wr W41 (Or.inl (List.mem_of_getElem? (i := 0) rfl)))
  have Fw41 := f40.same W41
  have f42 := ((f30.keep Kq37 nin0).other W41 (Or.inr (slot_ne (Or.inl (wd26 hw)) (Or.inl (wd17 hw)) (by decide) (t := .int) (t' := (.array .long)) (by decide) (by decide))))
  obtain ⟨T43, X43, e43, st43⟩ := getF X41 hx hZ hown (host := "") (Or.inl (wd25 hw)) Via.refl e41 f42 (g := (mkF m 105 #[.val (.ref o0), .val (.int (1 : Int32)), .val (.long y1), .second, .val (.int (1 : Int32)), .val (.int (1 : Int32)), .val (.int (2 : Int32))] [(.ref o0), (.int (1 : Int32))])) rfl rfl (hb hby dd_prog_23_method_7_code_105)
  have f44 := (f39.wr W41)
  obtain ⟨T45, h45, X45, e45, W45, st45⟩ := putF X43 hx hZ hown (host := "") (Or.inl (wd25 hw)) Via.refl e43 f42 f44 (Or.inl (wd26 hw)) (wd2 hw) (ty := .int) (by decide) rfl rfl (g := (mkF m 113 #[.val (.ref o0), .val (.int (1 : Int32)), .val (.long y1), .second, .val (.int (1 : Int32)), .val (.int (1 : Int32)), .val (.int (2 : Int32))] [(.int (0 : Int32)), (.ref o0)])) rfl rfl (hb hby dd_prog_23_method_7_code_113)
  have N45 := Fr.snoc X45 N41 g_o0
  have Z45 : n0 ≤ h45.size := by rw [W45.size]; exact Z41
  have K45 : Keep h0 h45 [o0] := (K41.wr W45 (Or.inl (List.mem_of_getElem? (i := 0) rfl)))
  have Fw45 := f42.same W45
  have f46 := (f44.wr W45)
  have f47 := (((f31.keep Kq37 nin0).other W41 (Or.inr (slot_ne (Or.inl (wd28 hw)) (Or.inl (wd17 hw)) (by decide) (t := .int) (t' := (.array .long)) (by decide) (by decide)))).other W45 (Or.inr (slot_ne (Or.inl (wd28 hw)) (Or.inl (wd26 hw)) (by decide) (t := .int) (t' := .int) (by decide) (by decide))))
  obtain ⟨T48, h48, X48, e48, W48, st48⟩ := putF X45 hx hZ hown (host := "") (Or.inl (wd27 hw)) Via.refl e45 f47 f46 (Or.inl (wd28 hw)) (wd2 hw) (ty := .int) (by decide) rfl rfl (g := (mkF m 119 #[.val (.ref o0), .val (.int (1 : Int32)), .val (.long y1), .second, .val (.int (1 : Int32)), .val (.int (1 : Int32)), .val (.int (2 : Int32))] [(.int (1 : Int32)), (.ref o0)])) rfl rfl (hb hby dd_prog_23_method_7_code_119)
  have N48 := Fr.snoc X48 N45 g_o0
  have Z48 : n0 ≤ h48.size := by rw [W48.size]; exact Z45
  have K48 : Keep h0 h48 [o0] := (K45.wr W48 (Or.inl (List.mem_of_getElem? (i := 0) rfl)))
  have Fw48 := f47.same W48
  have f49 := ((((((Fw13.keep Kq23 nin0).other W27 (Or.inr (slot_ne (Or.inl (wd13 hw)) (Or.inl (wd15 hw)) (by decide) (t := (.array .long)) (t' := (.array .long)) (by decide) (by decide)))).keep Kq37 nin0).other W41 (Or.inr (slot_ne (Or.inl (wd13 hw)) (Or.inl (wd17 hw)) (by decide) (t := (.array .long)) (t' := (.array .long)) (by decide) (by decide)))).other W45 (Or.inr (slot_ne (Or.inl (wd13 hw)) (Or.inl (wd26 hw)) (by decide) (t := (.array .long)) (t' := .int) (by decide) (by decide)))).other W48 (Or.inr (slot_ne (Or.inl (wd13 hw)) (Or.inl (wd28 hw)) (by decide) (t := (.array .long)) (t' := .int) (by decide) (by decide))))
  obtain ⟨T50, X50, e50, st50⟩ := getF X48 hx hZ hown (host := "") (Or.inl (wd12 hw)) Via.refl e48 f49 (g := (mkF m 123 #[.val (.ref o0), .val (.int (1 : Int32)), .val (.long y1), .second, .val (.int (1 : Int32)), .val (.int (1 : Int32)), .val (.int (2 : Int32))] [(.ref o0)])) rfl rfl (hb hby dd_prog_23_method_7_code_123)
  obtain ⟨T51, X51, e51, st51⟩ := getF X50 hx hZ hown (host := "") (Or.inl (wd12 hw)) Via.refl e50 f49 (g := (mkF m 129 #[.val (.ref o0), .val (.int (1 : Int32)), .val (.long y1), .second, .val (.int (1 : Int32)), .val (.int (1 : Int32)), .val (.int (2 : Int32))] [(.ref o0), (.int (1 : Int32)), (.ref b10_0)])) rfl rfl (hb hby dd_prog_23_method_7_code_129)
  obtain ⟨T52, X52, e52, st52⟩ := getF X51 hx hZ hown (host := "") (Or.inl (wd27 hw)) Via.refl e51 Fw48 (g := (mkF m 137 #[.val (.ref o0), .val (.int (1 : Int32)), .val (.long y1), .second, .val (.int (1 : Int32)), .val (.int (1 : Int32)), .val (.int (2 : Int32))] [(.ref o0), (.int (2 : Int32)), (.ref b10_0), (.int (1 : Int32)), (.ref b10_0)])) rfl rfl (hb hby dd_prog_23_method_7_code_137)
  have f53 := ((((f34.keep Kq37 nin0).other W41 (Ne.symm ne_o0_b10_0)).other W45 (Ne.symm ne_o0_b10_0)).other W48 (Ne.symm ne_o0_b10_0))
  obtain ⟨T54, h54, Lq54, X54, e54, Nq54, Kq54, Vq54, st54⟩ := cpA X52 hx hZ hown (wd52 hw) (wd55 hw) (wd53 hw) (wd54 hw) e52 (us := []) f53 f53 (Or.inl ⟨rfl, rfl⟩) (by decide) (by decide) (by decide) (by first | decide | exact Nat.le_of_ble_eq_true rfl) (by first | decide | exact Nat.le_of_ble_eq_true rfl) (by rfl) (by first | decide | exact Nat.le_of_ble_eq_true rfl) N48 ge_b10_0 (g := (mkF m 143 #[.val (.ref o0), .val (.int (1 : Int32)), .val (.long y1), .second, .val (.int (1 : Int32)), .val (.int (1 : Int32)), .val (.int (2 : Int32))] [(.int (0 : Int32)), (.int (2 : Int32)), (.ref b10_0), (.int (1 : Int32)), (.ref b10_0)])) rfl (by rw [hml]; rfl) rfl (hb hby dd_prog_23_method_7_code_143) (by decide) (W := 0) (by show 2 * 0 + _ ≤ _; exact Nat.le_of_eq rfl) (by decide)
  have Z54 : n0 ≤ h54.size := Nat.le_trans Z48 Kq54.1
  have K54 : Keep h0 h54 [o0] := Keep.trans K48 Kq54 (allS (Or.inr sz_b10_0) all0)
  have V54 : Arv Z h54 b10_0 _ .long (2 : Int32) [(.long y3), (.long (0 : Int64))] (.long (0 : Int64)) := Vq54
  have f55 := (((((Fw27.keep Kq37 nin0).other W41 (Or.inr (slot_ne (Or.inl (wd15 hw)) (Or.inl (wd17 hw)) (by decide) (t := (.array .long)) (t' := (.array .long)) (by decide) (by decide)))).other W45 (Or.inr (slot_ne (Or.inl (wd15 hw)) (Or.inl (wd26 hw)) (by decide) (t := (.array .long)) (t' := .int) (by decide) (by decide)))).other W48 (Or.inr (slot_ne (Or.inl (wd15 hw)) (Or.inl (wd28 hw)) (by decide) (t := (.array .long)) (t' := .int) (by decide) (by decide)))).keep Kq54 (ninS ne_o0_b10_0 nin0))
  obtain ⟨T56, X56, e56, st56⟩ := getF X54 hx hZ hown (host := "") (Or.inl (wd14 hw)) Via.refl e54 f55 (g := (mkF m 147 #[.val (.ref o0), .val (.int (1 : Int32)), .val (.long y1), .second, .val (.int (1 : Int32)), .val (.int (1 : Int32)), .val (.int (2 : Int32))] [(.ref o0)])) rfl rfl (hb hby dd_prog_23_method_7_code_147)
  have f57 := (((((((f16.keep Kq23 nin0).other W27 (Or.inr (slot_ne (Or.inr (wd19 hw)) (Or.inl (wd15 hw)) (by decide) (t := .int) (t' := (.array .long)) (by decide) (by decide)))).keep Kq37 nin0).other W41 (Or.inr (slot_ne (Or.inr (wd19 hw)) (Or.inl (wd17 hw)) (by decide) (t := .int) (t' := (.array .long)) (by decide) (by decide)))).other W45 (Or.inr (slot_ne (Or.inr (wd19 hw)) (Or.inl (wd26 hw)) (by decide) (t := .int) (t' := .int) (by decide) (by decide)))).other W48 (Or.inr (slot_ne (Or.inr (wd19 hw)) (Or.inl (wd28 hw)) (by decide) (t := .int) (t' := .int) (by decide) (by decide)))).keep Kq54 (ninS ne_o0_b10_0 nin0))
  obtain ⟨T58, X58, e58, st58⟩ := getF X56 hx hZ hown (host := "") (Or.inl (wd18 hw)) Via.refl e56 f57 (g := (mkF m 153 #[.val (.ref o0), .val (.int (1 : Int32)), .val (.long y1), .second, .val (.int (1 : Int32)), .val (.int (1 : Int32)), .val (.int (2 : Int32))] [(.ref o0), (.int (1 : Int32)), (.ref b23_0)])) rfl rfl (hb hby dd_prog_23_method_7_code_153)
  obtain ⟨T59, X59, e59, st59⟩ := getF X58 hx hZ hown (host := "") (Or.inl (wd14 hw)) Via.refl e58 f55 (g := (mkF m 158 #[.val (.ref o0), .val (.int (1 : Int32)), .val (.long y1), .second, .val (.int (1 : Int32)), .val (.int (1 : Int32)), .val (.int (2 : Int32))] [(.ref o0), (.int (1 : Int32)), (.ref b23_0)])) rfl rfl (hb hby dd_prog_23_method_7_code_158)
  obtain ⟨T60, X60, e60, st60⟩ := getF X59 hx hZ hown (host := "") (Or.inl (wd18 hw)) Via.refl e59 f57 (g := (mkF m 166 #[.val (.ref o0), .val (.int (1 : Int32)), .val (.long y1), .second, .val (.int (1 : Int32)), .val (.int (1 : Int32)), .val (.int (2 : Int32))] [(.ref o0), (.int (2 : Int32)), (.ref b23_0), (.int (1 : Int32)), (.ref b23_0)])) rfl rfl (hb hby dd_prog_23_method_7_code_166)
  have f61 := (Fw48.keep Kq54 (ninS ne_o0_b10_0 nin0))
  obtain ⟨T62, X62, e62, st62⟩ := getF X60 hx hZ hown (host := "") (Or.inl (wd27 hw)) Via.refl e60 f61 (g := (mkF m 171 #[.val (.ref o0), .val (.int (1 : Int32)), .val (.long y1), .second, .val (.int (1 : Int32)), .val (.int (1 : Int32)), .val (.int (2 : Int32))] [(.ref o0), (.int (2 : Int32)), (.ref b23_0), (.int (1 : Int32)), (.ref b23_0)])) rfl rfl (hb hby dd_prog_23_method_7_code_171)
  obtain ⟨T63, X63, e63, st63⟩ := getF X62 hx hZ hown (host := "") (Or.inl (wd18 hw)) Via.refl e62 f57 (g := (mkF m 178 #[.val (.ref o0), .val (.int (1 : Int32)), .val (.long y1), .second, .val (.int (1 : Int32)), .val (.int (1 : Int32)), .val (.int (2 : Int32))] [(.ref o0), (.int (0 : Int32)), (.int (2 : Int32)), (.ref b23_0), (.int (1 : Int32)), (.ref b23_0)])) rfl rfl (hb hby dd_prog_23_method_7_code_178)
  have f64 := (((((f36.keep Kq37 nin0).other W41 (Ne.symm ne_o0_b23_0)).other W45 (Ne.symm ne_o0_b23_0)).other W48 (Ne.symm ne_o0_b23_0)).keep Kq54 (ninS (Ne.symm ne_b10_0_b23_0) nin0))
  obtain ⟨T65, h65, Lq65, X65, e65, Nq65, Kq65, Vq65, st65⟩ := cpA X63 hx hZ hown (wd52 hw) (wd55 hw) (wd53 hw) (wd54 hw) e63 (us := []) f64 f64 (Or.inl ⟨rfl, rfl⟩) (by decide) (by decide) (by decide) (by first | decide | exact Nat.le_of_ble_eq_true rfl) (by first | decide | exact Nat.le_of_ble_eq_true rfl) (by rfl) (by first | decide | exact Nat.le_of_ble_eq_true rfl) Nq54 ge_b23_0 (g := (mkF m 182 #[.val (.ref o0), .val (.int (1 : Int32)), .val (.long y1), .second, .val (.int (1 : Int32)), .val (.int (1 : Int32)), .val (.int (2 : Int32))] [(.int (0 : Int32)), (.int (2 : Int32)), (.ref b23_0), (.int (1 : Int32)), (.ref b23_0)])) rfl (by rw [hml]; rfl) rfl (hb hby dd_prog_23_method_7_code_182) (by decide) (W := 0) (by show 2 * 0 + _ ≤ _; exact Nat.le_of_eq rfl) (by decide)
  have Z65 : n0 ≤ h65.size := Nat.le_trans Z54 Kq65.1
  have K65 : Keep h0 h65 [o0] := Keep.trans K54 Kq65 (allS (Or.inr sz_b23_0) all0)
  have V65 : Arv Z h65 b23_0 _ .long (2 : Int32) [(.long (1 : Int64)), (.long (0 : Int64))] (.long (0 : Int64)) := Vq65
  have f66 := ((((Fw41.other W45 (Or.inr (slot_ne (Or.inl (wd17 hw)) (Or.inl (wd26 hw)) (by decide) (t := (.array .long)) (t' := .int) (by decide) (by decide)))).other W48 (Or.inr (slot_ne (Or.inl (wd17 hw)) (Or.inl (wd28 hw)) (by decide) (t := (.array .long)) (t' := .int) (by decide) (by decide)))).keep Kq54 (ninS ne_o0_b10_0 nin0)).keep Kq65 (ninS ne_o0_b23_0 nin0))
  obtain ⟨T67, X67, e67, st67⟩ := getF X65 hx hZ hown (host := "") (Or.inl (wd16 hw)) Via.refl e65 f66 (g := (mkF m 186 #[.val (.ref o0), .val (.int (1 : Int32)), .val (.long y1), .second, .val (.int (1 : Int32)), .val (.int (1 : Int32)), .val (.int (2 : Int32))] [(.ref o0)])) rfl rfl (hb hby dd_prog_23_method_7_code_186)
  obtain ⟨T68, X68, e68, st68⟩ := getF X67 hx hZ hown (host := "") (Or.inl (wd16 hw)) Via.refl e67 f66 (g := (mkF m 192 #[.val (.ref o0), .val (.int (1 : Int32)), .val (.long y1), .second, .val (.int (1 : Int32)), .val (.int (1 : Int32)), .val (.int (2 : Int32))] [(.ref o0), (.int (1 : Int32)), (.ref b37_0)])) rfl rfl (hb hby dd_prog_23_method_7_code_192)
  have f69 := (f61.keep Kq65 (ninS ne_o0_b23_0 nin0))
  obtain ⟨T70, X70, e70, st70⟩ := getF X68 hx hZ hown (host := "") (Or.inl (wd27 hw)) Via.refl e68 f69 (g := (mkF m 200 #[.val (.ref o0), .val (.int (1 : Int32)), .val (.long y1), .second, .val (.int (1 : Int32)), .val (.int (1 : Int32)), .val (.int (2 : Int32))] [(.ref o0), (.int (2 : Int32)), (.ref b37_0), (.int (1 : Int32)), (.ref b37_0)])) rfl rfl (hb hby dd_prog_23_method_7_code_200)
  have f71 := (((((g37_0.other W41 (Ne.symm ne_o0_b37_0)).other W45 (Ne.symm ne_o0_b37_0)).other W48 (Ne.symm ne_o0_b37_0)).keep Kq54 (ninS (Ne.symm ne_b10_0_b37_0) nin0)).keep Kq65 (ninS (Ne.symm ne_b23_0_b37_0) nin0))
  obtain ⟨T72, h72, Lq72, X72, e72, Nq72, Kq72, Vq72, st72⟩ := cpA X70 hx hZ hown (wd52 hw) (wd55 hw) (wd53 hw) (wd54 hw) e70 (us := []) f71 f71 (Or.inl ⟨rfl, rfl⟩) (by decide) (by decide) (by decide) (by first | decide | exact Nat.le_of_ble_eq_true rfl) (by first | decide | exact Nat.le_of_ble_eq_true rfl) (by rfl) (by first | decide | exact Nat.le_of_ble_eq_true rfl) Nq65 ge_b37_0 (g := (mkF m 206 #[.val (.ref o0), .val (.int (1 : Int32)), .val (.long y1), .second, .val (.int (1 : Int32)), .val (.int (1 : Int32)), .val (.int (2 : Int32))] [(.int (0 : Int32)), (.int (2 : Int32)), (.ref b37_0), (.int (1 : Int32)), (.ref b37_0)])) rfl (by rw [hml]; rfl) rfl (hb hby dd_prog_23_method_7_code_206) (by decide) (W := 0) (by show 2 * 0 + _ ≤ _; exact Nat.le_of_eq rfl) (by decide)
  have Z72 : n0 ≤ h72.size := Nat.le_trans Z65 Kq72.1
  have K72 : Keep h0 h72 [o0] := Keep.trans K65 Kq72 (allS (Or.inr sz_b37_0) all0)
  have V72 : Arv Z h72 b37_0 _ .long (2 : Int32) [(.long y6), (.long (0 : Int64))] (.long (0 : Int64)) := Vq72
  have f73 := (((f49.keep Kq54 (ninS ne_o0_b10_0 nin0)).keep Kq65 (ninS ne_o0_b23_0 nin0)).keep Kq72 (ninS ne_o0_b37_0 nin0))
  obtain ⟨T74, X74, e74, st74⟩ := getF X72 hx hZ hown (host := "") (Or.inl (wd12 hw)) Via.refl e72 f73 (g := (mkF m 210 #[.val (.ref o0), .val (.int (1 : Int32)), .val (.long y1), .second, .val (.int (1 : Int32)), .val (.int (1 : Int32)), .val (.int (2 : Int32))] [(.ref o0)])) rfl rfl (hb hby dd_prog_23_method_7_code_210)
  have f75 := ((V54.keep Kq65 (ninS ne_b10_0_b23_0 nin0)).keep Kq72 (ninS ne_b10_0_b37_0 nin0))
  obtain ⟨cl76, Ar76, q76, S76, M76, HH76, GG76⟩ := id f75
  have hin76 : ¬ ((1 : Int32) < 0 ∨ cl76.slots.size ≤ ((1 : Int32)).toNatClampNeg) := inb_of S76 ⟨by decide, by decide⟩
  obtain ⟨T77, h77, X77, e77, W77, st77⟩ := stJ X74 hx hZ e74 Ar76 (j := (1 : Int32)) hin76 (g := (mkF m 216 #[.val (.ref o0), .val (.int (1 : Int32)), .val (.long y1), .second, .val (.int (1 : Int32)), .val (.int (1 : Int32)), .val (.int (2 : Int32))] [(.long y1), (.int (1 : Int32)), (.ref b10_0)])) rfl rfl (hb hby dd_prog_23_method_7_code_216)
  have N77 := Fr.snoc X77 Nq72 ge_b10_0
  have Z77 : n0 ≤ h77.size := by rw [W77.size]; exact Z72
  have K77 : Keep h0 h77 [o0] := (K72.wr W77 (Or.inr sz_b10_0))
  have V77 := Arv.set Ar76 q76 S76 M76 HH76 GG76 rfl W77 1 rfl (Nat.le_of_ble_eq_true rfl)
  have f78 := (((f55.keep Kq65 (ninS ne_o0_b23_0 nin0)).keep Kq72 (ninS ne_o0_b37_0 nin0)).other W77 (Or.inl ne_o0_b10_0))
  obtain ⟨T79, X79, e79, st79⟩ := getF X77 hx hZ hown (host := "") (Or.inl (wd14 hw)) Via.refl e77 f78 (g := (mkF m 218 #[.val (.ref o0), .val (.int (1 : Int32)), .val (.long y1), .second, .val (.int (1 : Int32)), .val (.int (1 : Int32)), .val (.int (2 : Int32))] [(.ref o0)])) rfl rfl (hb hby dd_prog_23_method_7_code_218)
  have f80 := (((f57.keep Kq65 (ninS ne_o0_b23_0 nin0)).keep Kq72 (ninS ne_o0_b37_0 nin0)).other W77 (Or.inl ne_o0_b10_0))
  obtain ⟨T81, X81, e81, st81⟩ := getF X79 hx hZ hown (host := "") (Or.inl (wd18 hw)) Via.refl e79 f80 (g := (mkF m 224 #[.val (.ref o0), .val (.int (1 : Int32)), .val (.long y1), .second, .val (.int (1 : Int32)), .val (.int (1 : Int32)), .val (.int (2 : Int32))] [(.ref o0), (.int (1 : Int32)), (.ref b23_0)])) rfl rfl (hb hby dd_prog_23_method_7_code_224)
  obtain ⟨T82, X82, e82, st82⟩ := getF X81 hx hZ hown (host := "") (Or.inl (wd18 hw)) Via.refl e81 f80 (g := (mkF m 233 #[.val (.ref o0), .val (.int (1 : Int32)), .val (.long y1), .second, .val (.int (1 : Int32)), .val (.int (1 : Int32)), .val (.int (2 : Int32))] [(.ref o0), (.int (2 : Int32)), (.int (1 : Int32)), (.ref b23_0)])) rfl rfl (hb hby dd_prog_23_method_7_code_233)
  have f83 := ((V65.keep Kq72 (ninS ne_b23_0_b37_0 nin0)).other W77 (Ne.symm ne_b10_0_b23_0))
  obtain ⟨_, _, ⟨T84, L84, kc84, ks84⟩, -, X84, ⟨Lc84, hQ84, l84, y84, z84⟩, st84⟩ := Jvm.LawKit.callS X82 hx (y := mn11) hown (mvT hZ (wd56 hw)) (mvT hZ (wd57 hw)) (mvT hZ (wd31 hw)) (mvT hZ (wd58 hw)) (by decide) (backOf (W := 0) (rmA23 l Z a0 hw [] b23_0 _ h77 n0 Z77 f83 ge_b23_0) hZ (wd58 hw) (wd31 hw) (by decide) (by decide)) (g := (mkF m 238 #[.val (.ref o0), .val (.int (1 : Int32)), .val (.long y1), .second, .val (.int (1 : Int32)), .val (.int (1 : Int32)), .val (.int (2 : Int32))] [(.long (0 : Int64)), (.int (2 : Int32)), (.int (1 : Int32)), (.ref b23_0)])) rfl (by rw [hml]; rfl) (argsL := [(.ref b23_0), (.int (1 : Int32)), (.int (2 : Int32)), (.long (0 : Int64))]) (rest := []) (lenOf pd___JIIJ_V rfl) rfl (by show 2 * 0 + _ ≤ _; exact Nat.le_of_eq rfl) (hb hby dd_prog_23_method_7_code_238) (fun _ _ => ⟨rfl, e82, (by decide : 3 + 0 ≤ _), (by decide : 6 + 0 ≤ _)⟩)
  dsimp only [Pt.U, Pt.locs, Pt.cells, Pt.slots] at X84 l84 y84 z84 st84 hQ84
  subst l84 y84 z84
  obtain ⟨rfl, Nq84, Kq84, g84_0⟩ := hQ84
  have N84 := Fr.app N77 Nq84
  have Z84 : n0 ≤ T84.heap.size := Nat.le_trans Z77 Kq84.1
  have K84 : Keep h0 T84.heap [o0] := Keep.trans K77 Kq84 (allS (Or.inr sz_b23_0) all0)
  have f85 := (((f69.keep Kq72 (ninS ne_o0_b37_0 nin0)).other W77 (Or.inl ne_o0_b10_0)).keep Kq84 (ninS ne_o0_b23_0 nin0))
  obtain ⟨T86, X86, e86, st86⟩ := getF X84 hx hZ hown (host := "") (Or.inl (wd27 hw)) Via.refl rfl f85 (g := (mkF m 243 #[.val (.ref o0), .val (.int (1 : Int32)), .val (.long y1), .second, .val (.int (1 : Int32)), .val (.int (1 : Int32)), .val (.int (2 : Int32))] [(.ref o0), (.ref o0)])) rfl rfl (hb hby dd_prog_23_method_7_code_243)
  have f87 := ((((((f46.wr W48).keep Kq54).keep Kq65).keep Kq72).wr W77).keep Kq84)
  obtain ⟨T88, h88, X88, e88, W88, st88⟩ := putF X86 hx hZ hown (host := "") (Or.inl (wd27 hw)) Via.refl e86 f85 f87 (Or.inl (wd28 hw)) (wd2 hw) (ty := .int) (by decide) rfl rfl (g := (mkF m 248 #[.val (.ref o0), .val (.int (1 : Int32)), .val (.long y1), .second, .val (.int (1 : Int32)), .val (.int (1 : Int32)), .val (.int (2 : Int32))] [(.int (2 : Int32)), (.ref o0)])) rfl rfl (hb hby dd_prog_23_method_7_code_248)
  have N88 := Fr.snoc X88 N84 g_o0
  have Z88 : n0 ≤ h88.size := by rw [W88.size]; exact Z84
  have K88 : Keep h0 h88 [o0] := (K84.wr W88 (Or.inl (List.mem_of_getElem? (i := 0) rfl)))
  have Fw88 := f85.same W88
  have f89 := (((f73.other W77 (Or.inl ne_o0_b10_0)).keep Kq84 (ninS ne_o0_b23_0 nin0)).other W88 (Or.inr (slot_ne (Or.inl (wd13 hw)) (Or.inl (wd28 hw)) (by decide) (t := (.array .long)) (t' := .int) (by decide) (by decide))))
  have f90 := (((((((Fw45.other W48 (Or.inr (slot_ne (Or.inl (wd26 hw)) (Or.inl (wd28 hw)) (by decide) (t := .int) (t' := .int) (by decide) (by decide)))).keep Kq54 (ninS ne_o0_b10_0 nin0)).keep Kq65 (ninS ne_o0_b23_0 nin0)).keep Kq72 (ninS ne_o0_b37_0 nin0)).other W77 (Or.inl ne_o0_b10_0)).keep Kq84 (ninS ne_o0_b23_0 nin0)).other W88 (Or.inr (slot_ne (Or.inl (wd26 hw)) (Or.inl (wd28 hw)) (by decide) (t := .int) (t' := .int) (by decide) (by decide))))
  have f91 := (f87.wr W88)
  have f92 := ((V77.keep Kq84 (ninS ne_b10_0_b23_0 nin0)).other W88 (Ne.symm ne_o0_b10_0))
  have f93 := ((f78.keep Kq84 (ninS ne_o0_b23_0 nin0)).other W88 (Or.inr (slot_ne (Or.inl (wd15 hw)) (Or.inl (wd28 hw)) (by decide) (t := (.array .long)) (t' := .int) (by decide) (by decide))))
  have f94 := ((f80.keep Kq84 (ninS ne_o0_b23_0 nin0)).other W88 (Or.inr (slot_ne (Or.inr (wd19 hw)) (Or.inl (wd28 hw)) (by decide) (t := .int) (t' := .int) (by decide) (by decide))))
  have f95 := (g84_0.other W88 (Ne.symm ne_o0_b23_0))
  have f96 := ((((f66.keep Kq72 (ninS ne_o0_b37_0 nin0)).other W77 (Or.inl ne_o0_b10_0)).keep Kq84 (ninS ne_o0_b23_0 nin0)).other W88 (Or.inr (slot_ne (Or.inl (wd17 hw)) (Or.inl (wd28 hw)) (by decide) (t := (.array .long)) (t' := .int) (by decide) (by decide))))
  have f97 := (((V72.other W77 (Ne.symm ne_b10_0_b37_0)).keep Kq84 (ninS (Ne.symm ne_b23_0_b37_0) nin0)).other W88 (Ne.symm ne_o0_b37_0))
  obtain ⟨lfs, lhr, lhrun, lhended, lhW, lhsame⟩ := X88.leave (v := some (.int (1 : Int32))) (fun h => by rw [Bd.returns] at h; cases h)
  refine ⟨_, _, pre0 _ ?_, lhrun, lhended, _, _, rfl, ?_, ⟨_, rfl⟩, lhW, lhsame.mono (by decide) (by decide)⟩
  · skip
    show Steps p.tables e below (s₁.setTop (mkF m 0 #[.val (.ref o0), .val (.int (1 : Int32)), .val (.long y1), .second, .unset, .unset, .unset] [])) _
    refine XS.iloadN X0.here hx rfl (hb hby dd_prog_23_method_7_code_0) rfl ?_
    refine XS.istore X0.here hx rfl (hb hby dd_prog_23_method_7_code_1) rfl (l' := #[.val (.ref o0), .val (.int (1 : Int32)), .val (.long y1), .second, .val (.int (1 : Int32)), .unset, .unset]) rfl ?_
    show Steps p.tables e below (s₁.setTop (mkF m 3 #[.val (.ref o0), .val (.int (1 : Int32)), .val (.long y1), .second, .val (.int (1 : Int32)), .unset, .unset] [])) _
    refine XS.aloadN X0.here hx rfl (hb hby dd_prog_23_method_7_code_3) rfl rfl ?_
    show Steps p.tables e below (s₁.setTop (mkF m 4 #[.val (.ref o0), .val (.int (1 : Int32)), .val (.long y1), .second, .val (.int (1 : Int32)), .unset, .unset] [(.ref o0)])) _
    refine st1 _ ?_
    show Steps p.tables e below (T1.setTop (mkF m 7 #[.val (.ref o0), .val (.int (1 : Int32)), .val (.long y1), .second, .val (.int (1 : Int32)), .unset, .unset] [(.int (1 : Int32))])) _
    refine XS.aloadN X1.here hx rfl (hb hby dd_prog_23_method_7_code_7) rfl rfl ?_
    show Steps p.tables e below (T1.setTop (mkF m 8 #[.val (.ref o0), .val (.int (1 : Int32)), .val (.long y1), .second, .val (.int (1 : Int32)), .unset, .unset] [(.ref o0), (.int (1 : Int32))])) _
    refine st2 _ ?_
    show Steps p.tables e below (T2.setTop (mkF m 11 #[.val (.ref o0), .val (.int (1 : Int32)), .val (.long y1), .second, .val (.int (1 : Int32)), .unset, .unset] [(.ref o2), (.int (1 : Int32))])) _
    refine X2.arraylength hx (by (try rw [e2]); exact Ar3.1) (State.isArrayOf_alike hZ.alike Ar3.2.1) (g := (mkF m 11 #[.val (.ref o0), .val (.int (1 : Int32)), .val (.long y1), .second, .val (.int (1 : Int32)), .unset, .unset] [(.ref o2), (.int (1 : Int32))])) rfl rfl (hb hby dd_prog_23_method_7_code_11) _ ?_
    rw [len_of S3 M3]
    refine XS.icmpNo X2.here hx rfl (hb hby dd_prog_23_method_7_code_12) rfl (teq (by decide : (1 : Int32) = (1 : Int32))).2 ?_
    show Steps p.tables e below (T2.setTop (mkF m 15 #[.val (.ref o0), .val (.int (1 : Int32)), .val (.long y1), .second, .val (.int (1 : Int32)), .unset, .unset] [])) _
    refine XS.aloadN X2.here hx rfl (hb hby dd_prog_23_method_7_code_15) rfl rfl ?_
    show Steps p.tables e below (T2.setTop (mkF m 16 #[.val (.ref o0), .val (.int (1 : Int32)), .val (.long y1), .second, .val (.int (1 : Int32)), .unset, .unset] [(.ref o0)])) _
    refine st4 _ ?_
    show Steps p.tables e below (T4.setTop (mkF m 19 #[.val (.ref o0), .val (.int (1 : Int32)), .val (.long y1), .second, .val (.int (1 : Int32)), .unset, .unset] [(.int (1 : Int32))])) _
    refine XS.aloadN X4.here hx rfl (hb hby dd_prog_23_method_7_code_19) rfl rfl ?_
    show Steps p.tables e below (T4.setTop (mkF m 20 #[.val (.ref o0), .val (.int (1 : Int32)), .val (.long y1), .second, .val (.int (1 : Int32)), .unset, .unset] [(.ref o0), (.int (1 : Int32))])) _
    refine st5 _ ?_
    show Steps p.tables e below (T5.setTop (mkF m 23 #[.val (.ref o0), .val (.int (1 : Int32)), .val (.long y1), .second, .val (.int (1 : Int32)), .unset, .unset] [(.int (0 : Int32)), (.int (1 : Int32))])) _
    refine XS.isub X5.here hx rfl (hb hby dd_prog_23_method_7_code_23) rfl ?_
    refine XS.istore X5.here hx rfl (hb hby dd_prog_23_method_7_code_24) rfl (l' := #[.val (.ref o0), .val (.int (1 : Int32)), .val (.long y1), .second, .val (.int (1 : Int32)), .val (.int (1 : Int32)), .unset]) rfl ?_
    show Steps p.tables e below (T5.setTop (mkF m 26 #[.val (.ref o0), .val (.int (1 : Int32)), .val (.long y1), .second, .val (.int (1 : Int32)), .val (.int (1 : Int32)), .unset] [])) _
    refine XS.iload X5.here hx rfl (hb hby dd_prog_23_method_7_code_26) rfl ?_
    refine XS.aloadN X5.here hx rfl (hb hby dd_prog_23_method_7_code_28) rfl rfl ?_
    show Steps p.tables e below (T5.setTop (mkF m 29 #[.val (.ref o0), .val (.int (1 : Int32)), .val (.long y1), .second, .val (.int (1 : Int32)), .val (.int (1 : Int32)), .unset] [(.ref o0), (.int (1 : Int32))])) _
    refine st6 _ ?_
    show Steps p.tables e below (T6.setTop (mkF m 32 #[.val (.ref o0), .val (.int (1 : Int32)), .val (.long y1), .second, .val (.int (1 : Int32)), .val (.int (1 : Int32)), .unset] [(.ref o2), (.int (1 : Int32))])) _
    refine X6.arraylength hx (by (try rw [e6]); exact Ar7.1) (State.isArrayOf_alike hZ.alike Ar7.2.1) (g := (mkF m 32 #[.val (.ref o0), .val (.int (1 : Int32)), .val (.long y1), .second, .val (.int (1 : Int32)), .val (.int (1 : Int32)), .unset] [(.ref o2), (.int (1 : Int32))])) rfl rfl (hb hby dd_prog_23_method_7_code_32) _ ?_
    rw [len_of S7 M7]
    refine XS.icmpNo X6.here hx rfl (hb hby dd_prog_23_method_7_code_33) rfl (teq (by decide : (1 : Int32) = (1 : Int32))).2 ?_
    refine XS.iconst X6.here hx rfl (hb hby dd_prog_23_method_7_code_36) ?_
    show Steps p.tables e below (T6.setTop (mkF m 37 #[.val (.ref o0), .val (.int (1 : Int32)), .val (.long y1), .second, .val (.int (1 : Int32)), .val (.int (1 : Int32)), .unset] [(.int (1 : Int32))])) _
    refine XS.iconst X6.here hx rfl (hb hby dd_prog_23_method_7_code_37) ?_
    refine XS.iload X6.here hx rfl (hb hby dd_prog_23_method_7_code_38) rfl ?_
    refine XS.imul X6.here hx rfl (hb hby dd_prog_23_method_7_code_40) rfl ?_
    show Steps p.tables e below (T6.setTop (mkF m 41 #[.val (.ref o0), .val (.int (1 : Int32)), .val (.long y1), .second, .val (.int (1 : Int32)), .val (.int (1 : Int32)), .unset] [(.int (2 : Int32)), (.int (1 : Int32))])) _
    refine st8 _ ?_
    show Steps p.tables e below (T8.setTop (mkF m 44 #[.val (.ref o0), .val (.int (1 : Int32)), .val (.long y1), .second, .val (.int (1 : Int32)), .val (.int (1 : Int32)), .unset] [(.int (2 : Int32))])) _
    refine XS.goto X8.here hx rfl (pc0 := 44) (pc' := 52) rfl (hb hby dd_prog_23_method_7_code_44) (by decide) (by decide) ?_
    refine XS.istore X8.here hx rfl (hb hby dd_prog_23_method_7_code_52) rfl (l' := #[.val (.ref o0), .val (.int (1 : Int32)), .val (.long y1), .second, .val (.int (1 : Int32)), .val (.int (1 : Int32)), .val (.int (2 : Int32))]) rfl ?_
    show Steps p.tables e below (T8.setTop (mkF m 54 #[.val (.ref o0), .val (.int (1 : Int32)), .val (.long y1), .second, .val (.int (1 : Int32)), .val (.int (1 : Int32)), .val (.int (2 : Int32))] [])) _
    refine XS.aloadN X8.here hx rfl (hb hby dd_prog_23_method_7_code_54) rfl rfl ?_
    refine XS.aloadN X8.here hx rfl (hb hby dd_prog_23_method_7_code_55) rfl rfl ?_
    refine XS.aloadN X8.here hx rfl (hb hby dd_prog_23_method_7_code_56) rfl rfl ?_
    show Steps p.tables e below (T8.setTop (mkF m 57 #[.val (.ref o0), .val (.int (1 : Int32)), .val (.long y1), .second, .val (.int (1 : Int32)), .val (.int (1 : Int32)), .val (.int (2 : Int32))] [(.ref o0), (.ref o0), (.ref o0)])) _
    refine st9 _ ?_
    show Steps p.tables e below (T9.setTop (mkF m 60 #[.val (.ref o0), .val (.int (1 : Int32)), .val (.long y1), .second, .val (.int (1 : Int32)), .val (.int (1 : Int32)), .val (.int (2 : Int32))] [(.ref o2), (.ref o0), (.ref o0)])) _
    refine XS.iconst X9.here hx rfl (hb hby dd_prog_23_method_7_code_60) ?_
    refine XS.iload X9.here hx rfl (hb hby dd_prog_23_method_7_code_61) rfl ?_
    show Steps p.tables e below (T9.setTop (mkF m 63 #[.val (.ref o0), .val (.int (1 : Int32)), .val (.long y1), .second, .val (.int (1 : Int32)), .val (.int (1 : Int32)), .val (.int (2 : Int32))] [(.int (2 : Int32)), (.int (1 : Int32)), (.ref o2), (.ref o0), (.ref o0)])) _
    refine st10.trans ?_
    show Steps p.tables e below (T10.setTop (mkF m 66 #[.val (.ref o0), .val (.int (1 : Int32)), .val (.long y1), .second, .val (.int (1 : Int32)), .val (.int (1 : Int32)), .val (.int (2 : Int32))] [(.ref b10_0), (.ref o0)])) _
    refine st13 _ ?_
    show Steps p.tables e below (T13.setTop (mkF m 69 #[.val (.ref o0), .val (.int (1 : Int32)), .val (.long y1), .second, .val (.int (1 : Int32)), .val (.int (1 : Int32)), .val (.int (2 : Int32))] [])) _
    refine XS.aloadN X13.here hx rfl (hb hby dd_prog_23_method_7_code_69) rfl rfl ?_
    show Steps p.tables e below (T13.setTop (mkF m 70 #[.val (.ref o0), .val (.int (1 : Int32)), .val (.long y1), .second, .val (.int (1 : Int32)), .val (.int (1 : Int32)), .val (.int (2 : Int32))] [(.ref o0)])) _
    refine XS.aloadN X13.here hx rfl (hb hby dd_prog_23_method_7_code_70) rfl rfl ?_
    refine XS.aloadN X13.here hx rfl (hb hby dd_prog_23_method_7_code_71) rfl rfl ?_
    show Steps p.tables e below (T13.setTop (mkF m 72 #[.val (.ref o0), .val (.int (1 : Int32)), .val (.long y1), .second, .val (.int (1 : Int32)), .val (.int (1 : Int32)), .val (.int (2 : Int32))] [(.ref o0), (.ref o0), (.ref o0)])) _
    refine st15 _ ?_
    show Steps p.tables e below (T15.setTop (mkF m 75 #[.val (.ref o0), .val (.int (1 : Int32)), .val (.long y1), .second, .val (.int (1 : Int32)), .val (.int (1 : Int32)), .val (.int (2 : Int32))] [(.ref o4), (.ref o0), (.ref o0)])) _
    refine XS.aloadN X15.here hx rfl (hb hby dd_prog_23_method_7_code_75) rfl rfl ?_
    show Steps p.tables e below (T15.setTop (mkF m 76 #[.val (.ref o0), .val (.int (1 : Int32)), .val (.long y1), .second, .val (.int (1 : Int32)), .val (.int (1 : Int32)), .val (.int (2 : Int32))] [(.ref o0), (.ref o4), (.ref o0), (.ref o0)])) _
    refine st17 _ ?_
    show Steps p.tables e below (T17.setTop (mkF m 79 #[.val (.ref o0), .val (.int (1 : Int32)), .val (.long y1), .second, .val (.int (1 : Int32)), .val (.int (1 : Int32)), .val (.int (2 : Int32))] [(.int (1 : Int32)), (.ref o4), (.ref o0), (.ref o0)])) _
    refine XS.iload X17.here hx rfl (hb hby dd_prog_23_method_7_code_79) rfl ?_
    show Steps p.tables e below (T17.setTop (mkF m 81 #[.val (.ref o0), .val (.int (1 : Int32)), .val (.long y1), .second, .val (.int (1 : Int32)), .val (.int (1 : Int32)), .val (.int (2 : Int32))] [(.int (2 : Int32)), (.int (1 : Int32)), (.ref o4), (.ref o0), (.ref o0)])) _
    refine st23.trans ?_
    show Steps p.tables e below (T23.setTop (mkF m 84 #[.val (.ref o0), .val (.int (1 : Int32)), .val (.long y1), .second, .val (.int (1 : Int32)), .val (.int (1 : Int32)), .val (.int (2 : Int32))] [(.ref b23_0), (.ref o0)])) _
    refine st27 _ ?_
    show Steps p.tables e below (T27.setTop (mkF m 87 #[.val (.ref o0), .val (.int (1 : Int32)), .val (.long y1), .second, .val (.int (1 : Int32)), .val (.int (1 : Int32)), .val (.int (2 : Int32))] [])) _
    refine XS.aloadN X27.here hx rfl (hb hby dd_prog_23_method_7_code_87) rfl rfl ?_
    show Steps p.tables e below (T27.setTop (mkF m 88 #[.val (.ref o0), .val (.int (1 : Int32)), .val (.long y1), .second, .val (.int (1 : Int32)), .val (.int (1 : Int32)), .val (.int (2 : Int32))] [(.ref o0)])) _
    refine XS.aloadN X27.here hx rfl (hb hby dd_prog_23_method_7_code_88) rfl rfl ?_
    refine XS.aloadN X27.here hx rfl (hb hby dd_prog_23_method_7_code_89) rfl rfl ?_
    show Steps p.tables e below (T27.setTop (mkF m 90 #[.val (.ref o0), .val (.int (1 : Int32)), .val (.long y1), .second, .val (.int (1 : Int32)), .val (.int (1 : Int32)), .val (.int (2 : Int32))] [(.ref o0), (.ref o0), (.ref o0)])) _
    refine st29 _ ?_
    show Steps p.tables e below (T29.setTop (mkF m 93 #[.val (.ref o0), .val (.int (1 : Int32)), .val (.long y1), .second, .val (.int (1 : Int32)), .val (.int (1 : Int32)), .val (.int (2 : Int32))] [(.ref o5), (.ref o0), (.ref o0)])) _
    refine XS.iconst X29.here hx rfl (hb hby dd_prog_23_method_7_code_93) ?_
    refine XS.iload X29.here hx rfl (hb hby dd_prog_23_method_7_code_94) rfl ?_
    show Steps p.tables e below (T29.setTop (mkF m 96 #[.val (.ref o0), .val (.int (1 : Int32)), .val (.long y1), .second, .val (.int (1 : Int32)), .val (.int (1 : Int32)), .val (.int (2 : Int32))] [(.int (2 : Int32)), (.int (1 : Int32)), (.ref o5), (.ref o0), (.ref o0)])) _
    refine st37.trans ?_
    show Steps p.tables e below (T37.setTop (mkF m 99 #[.val (.ref o0), .val (.int (1 : Int32)), .val (.long y1), .second, .val (.int (1 : Int32)), .val (.int (1 : Int32)), .val (.int (2 : Int32))] [(.ref b37_0), (.ref o0)])) _
    refine st41 _ ?_
    show Steps p.tables e below (T41.setTop (mkF m 102 #[.val (.ref o0), .val (.int (1 : Int32)), .val (.long y1), .second, .val (.int (1 : Int32)), .val (.int (1 : Int32)), .val (.int (2 : Int32))] [])) _
    refine XS.iload X41.here hx rfl (hb hby dd_prog_23_method_7_code_102) rfl ?_
    refine XS.aloadN X41.here hx rfl (hb hby dd_prog_23_method_7_code_104) rfl rfl ?_
    show Steps p.tables e below (T41.setTop (mkF m 105 #[.val (.ref o0), .val (.int (1 : Int32)), .val (.long y1), .second, .val (.int (1 : Int32)), .val (.int (1 : Int32)), .val (.int (2 : Int32))] [(.ref o0), (.int (1 : Int32))])) _
    refine st43 _ ?_
    show Steps p.tables e below (T43.setTop (mkF m 108 #[.val (.ref o0), .val (.int (1 : Int32)), .val (.long y1), .second, .val (.int (1 : Int32)), .val (.int (1 : Int32)), .val (.int (2 : Int32))] [(.int (0 : Int32)), (.int (1 : Int32))])) _
    refine XS.isub X43.here hx rfl (hb hby dd_prog_23_method_7_code_108) rfl ?_
    refine XS.istore X43.here hx rfl (hb hby dd_prog_23_method_7_code_109) rfl (l' := #[.val (.ref o0), .val (.int (1 : Int32)), .val (.long y1), .second, .val (.int (1 : Int32)), .val (.int (1 : Int32)), .val (.int (2 : Int32))]) rfl ?_
    show Steps p.tables e below (T43.setTop (mkF m 111 #[.val (.ref o0), .val (.int (1 : Int32)), .val (.long y1), .second, .val (.int (1 : Int32)), .val (.int (1 : Int32)), .val (.int (2 : Int32))] [])) _
    refine XS.aloadN X43.here hx rfl (hb hby dd_prog_23_method_7_code_111) rfl rfl ?_
    refine XS.iconst X43.here hx rfl (hb hby dd_prog_23_method_7_code_112) ?_
    show Steps p.tables e below (T43.setTop (mkF m 113 #[.val (.ref o0), .val (.int (1 : Int32)), .val (.long y1), .second, .val (.int (1 : Int32)), .val (.int (1 : Int32)), .val (.int (2 : Int32))] [(.int (0 : Int32)), (.ref o0)])) _
    refine st45 _ ?_
    show Steps p.tables e below (T45.setTop (mkF m 116 #[.val (.ref o0), .val (.int (1 : Int32)), .val (.long y1), .second, .val (.int (1 : Int32)), .val (.int (1 : Int32)), .val (.int (2 : Int32))] [])) _
    refine XS.aloadN X45.here hx rfl (hb hby dd_prog_23_method_7_code_116) rfl rfl ?_
    refine XS.iload X45.here hx rfl (hb hby dd_prog_23_method_7_code_117) rfl ?_
    show Steps p.tables e below (T45.setTop (mkF m 119 #[.val (.ref o0), .val (.int (1 : Int32)), .val (.long y1), .second, .val (.int (1 : Int32)), .val (.int (1 : Int32)), .val (.int (2 : Int32))] [(.int (1 : Int32)), (.ref o0)])) _
    refine st48 _ ?_
    show Steps p.tables e below (T48.setTop (mkF m 122 #[.val (.ref o0), .val (.int (1 : Int32)), .val (.long y1), .second, .val (.int (1 : Int32)), .val (.int (1 : Int32)), .val (.int (2 : Int32))] [])) _
    refine XS.aloadN X48.here hx rfl (hb hby dd_prog_23_method_7_code_122) rfl rfl ?_
    show Steps p.tables e below (T48.setTop (mkF m 123 #[.val (.ref o0), .val (.int (1 : Int32)), .val (.long y1), .second, .val (.int (1 : Int32)), .val (.int (1 : Int32)), .val (.int (2 : Int32))] [(.ref o0)])) _
    refine st50 _ ?_
    show Steps p.tables e below (T50.setTop (mkF m 126 #[.val (.ref o0), .val (.int (1 : Int32)), .val (.long y1), .second, .val (.int (1 : Int32)), .val (.int (1 : Int32)), .val (.int (2 : Int32))] [(.ref b10_0)])) _
    refine XS.iload X50.here hx rfl (hb hby dd_prog_23_method_7_code_126) rfl ?_
    show Steps p.tables e below (T50.setTop (mkF m 128 #[.val (.ref o0), .val (.int (1 : Int32)), .val (.long y1), .second, .val (.int (1 : Int32)), .val (.int (1 : Int32)), .val (.int (2 : Int32))] [(.int (1 : Int32)), (.ref b10_0)])) _
    refine XS.aloadN X50.here hx rfl (hb hby dd_prog_23_method_7_code_128) rfl rfl ?_
    show Steps p.tables e below (T50.setTop (mkF m 129 #[.val (.ref o0), .val (.int (1 : Int32)), .val (.long y1), .second, .val (.int (1 : Int32)), .val (.int (1 : Int32)), .val (.int (2 : Int32))] [(.ref o0), (.int (1 : Int32)), (.ref b10_0)])) _
    refine st51 _ ?_
    show Steps p.tables e below (T51.setTop (mkF m 132 #[.val (.ref o0), .val (.int (1 : Int32)), .val (.long y1), .second, .val (.int (1 : Int32)), .val (.int (1 : Int32)), .val (.int (2 : Int32))] [(.ref b10_0), (.int (1 : Int32)), (.ref b10_0)])) _
    refine XS.iload X51.here hx rfl (hb hby dd_prog_23_method_7_code_132) rfl ?_
    show Steps p.tables e below (T51.setTop (mkF m 134 #[.val (.ref o0), .val (.int (1 : Int32)), .val (.long y1), .second, .val (.int (1 : Int32)), .val (.int (1 : Int32)), .val (.int (2 : Int32))] [(.int (1 : Int32)), (.ref b10_0), (.int (1 : Int32)), (.ref b10_0)])) _
    refine XS.iconst X51.here hx rfl (hb hby dd_prog_23_method_7_code_134) ?_
    refine XS.iadd X51.here hx rfl (hb hby dd_prog_23_method_7_code_135) rfl ?_
    refine XS.aloadN X51.here hx rfl (hb hby dd_prog_23_method_7_code_136) rfl rfl ?_
    show Steps p.tables e below (T51.setTop (mkF m 137 #[.val (.ref o0), .val (.int (1 : Int32)), .val (.long y1), .second, .val (.int (1 : Int32)), .val (.int (1 : Int32)), .val (.int (2 : Int32))] [(.ref o0), (.int (2 : Int32)), (.ref b10_0), (.int (1 : Int32)), (.ref b10_0)])) _
    refine st52 _ ?_
    show Steps p.tables e below (T52.setTop (mkF m 140 #[.val (.ref o0), .val (.int (1 : Int32)), .val (.long y1), .second, .val (.int (1 : Int32)), .val (.int (1 : Int32)), .val (.int (2 : Int32))] [(.int (1 : Int32)), (.int (2 : Int32)), (.ref b10_0), (.int (1 : Int32)), (.ref b10_0)])) _
    refine XS.iload X52.here hx rfl (hb hby dd_prog_23_method_7_code_140) rfl ?_
    refine XS.isub X52.here hx rfl (hb hby dd_prog_23_method_7_code_142) rfl ?_
    show Steps p.tables e below (T52.setTop (mkF m 143 #[.val (.ref o0), .val (.int (1 : Int32)), .val (.long y1), .second, .val (.int (1 : Int32)), .val (.int (1 : Int32)), .val (.int (2 : Int32))] [(.int (0 : Int32)), (.int (2 : Int32)), (.ref b10_0), (.int (1 : Int32)), (.ref b10_0)])) _
    refine st54 _ ?_
    show Steps p.tables e below (T54.setTop (mkF m 146 #[.val (.ref o0), .val (.int (1 : Int32)), .val (.long y1), .second, .val (.int (1 : Int32)), .val (.int (1 : Int32)), .val (.int (2 : Int32))] [])) _
    refine XS.aloadN X54.here hx rfl (hb hby dd_prog_23_method_7_code_146) rfl rfl ?_
    show Steps p.tables e below (T54.setTop (mkF m 147 #[.val (.ref o0), .val (.int (1 : Int32)), .val (.long y1), .second, .val (.int (1 : Int32)), .val (.int (1 : Int32)), .val (.int (2 : Int32))] [(.ref o0)])) _
    refine st56 _ ?_
    show Steps p.tables e below (T56.setTop (mkF m 150 #[.val (.ref o0), .val (.int (1 : Int32)), .val (.long y1), .second, .val (.int (1 : Int32)), .val (.int (1 : Int32)), .val (.int (2 : Int32))] [(.ref b23_0)])) _
    refine XS.iload X56.here hx rfl (hb hby dd_prog_23_method_7_code_150) rfl ?_
    refine XS.aloadN X56.here hx rfl (hb hby dd_prog_23_method_7_code_152) rfl rfl ?_
    show Steps p.tables e below (T56.setTop (mkF m 153 #[.val (.ref o0), .val (.int (1 : Int32)), .val (.long y1), .second, .val (.int (1 : Int32)), .val (.int (1 : Int32)), .val (.int (2 : Int32))] [(.ref o0), (.int (1 : Int32)), (.ref b23_0)])) _
    refine st58 _ ?_
    show Steps p.tables e below (T58.setTop (mkF m 156 #[.val (.ref o0), .val (.int (1 : Int32)), .val (.long y1), .second, .val (.int (1 : Int32)), .val (.int (1 : Int32)), .val (.int (2 : Int32))] [(.int (1 : Int32)), (.int (1 : Int32)), (.ref b23_0)])) _
    refine XS.imul X58.here hx rfl (hb hby dd_prog_23_method_7_code_156) rfl ?_
    refine XS.aloadN X58.here hx rfl (hb hby dd_prog_23_method_7_code_157) rfl rfl ?_
    show Steps p.tables e below (T58.setTop (mkF m 158 #[.val (.ref o0), .val (.int (1 : Int32)), .val (.long y1), .second, .val (.int (1 : Int32)), .val (.int (1 : Int32)), .val (.int (2 : Int32))] [(.ref o0), (.int (1 : Int32)), (.ref b23_0)])) _
    refine st59 _ ?_
    show Steps p.tables e below (T59.setTop (mkF m 161 #[.val (.ref o0), .val (.int (1 : Int32)), .val (.long y1), .second, .val (.int (1 : Int32)), .val (.int (1 : Int32)), .val (.int (2 : Int32))] [(.ref b23_0), (.int (1 : Int32)), (.ref b23_0)])) _
    refine XS.iload X59.here hx rfl (hb hby dd_prog_23_method_7_code_161) rfl ?_
    refine XS.iconst X59.here hx rfl (hb hby dd_prog_23_method_7_code_163) ?_
    refine XS.iadd X59.here hx rfl (hb hby dd_prog_23_method_7_code_164) rfl ?_
    show Steps p.tables e below (T59.setTop (mkF m 165 #[.val (.ref o0), .val (.int (1 : Int32)), .val (.long y1), .second, .val (.int (1 : Int32)), .val (.int (1 : Int32)), .val (.int (2 : Int32))] [(.int (2 : Int32)), (.ref b23_0), (.int (1 : Int32)), (.ref b23_0)])) _
    refine XS.aloadN X59.here hx rfl (hb hby dd_prog_23_method_7_code_165) rfl rfl ?_
    show Steps p.tables e below (T59.setTop (mkF m 166 #[.val (.ref o0), .val (.int (1 : Int32)), .val (.long y1), .second, .val (.int (1 : Int32)), .val (.int (1 : Int32)), .val (.int (2 : Int32))] [(.ref o0), (.int (2 : Int32)), (.ref b23_0), (.int (1 : Int32)), (.ref b23_0)])) _
    refine st60 _ ?_
    show Steps p.tables e below (T60.setTop (mkF m 169 #[.val (.ref o0), .val (.int (1 : Int32)), .val (.long y1), .second, .val (.int (1 : Int32)), .val (.int (1 : Int32)), .val (.int (2 : Int32))] [(.int (1 : Int32)), (.int (2 : Int32)), (.ref b23_0), (.int (1 : Int32)), (.ref b23_0)])) _
    refine XS.imul X60.here hx rfl (hb hby dd_prog_23_method_7_code_169) rfl ?_
    show Steps p.tables e below (T60.setTop (mkF m 170 #[.val (.ref o0), .val (.int (1 : Int32)), .val (.long y1), .second, .val (.int (1 : Int32)), .val (.int (1 : Int32)), .val (.int (2 : Int32))] [(.int (2 : Int32)), (.ref b23_0), (.int (1 : Int32)), (.ref b23_0)])) _
    refine XS.aloadN X60.here hx rfl (hb hby dd_prog_23_method_7_code_170) rfl rfl ?_
    show Steps p.tables e below (T60.setTop (mkF m 171 #[.val (.ref o0), .val (.int (1 : Int32)), .val (.long y1), .second, .val (.int (1 : Int32)), .val (.int (1 : Int32)), .val (.int (2 : Int32))] [(.ref o0), (.int (2 : Int32)), (.ref b23_0), (.int (1 : Int32)), (.ref b23_0)])) _
    refine st62 _ ?_
    show Steps p.tables e below (T62.setTop (mkF m 174 #[.val (.ref o0), .val (.int (1 : Int32)), .val (.long y1), .second, .val (.int (1 : Int32)), .val (.int (1 : Int32)), .val (.int (2 : Int32))] [(.int (1 : Int32)), (.int (2 : Int32)), (.ref b23_0), (.int (1 : Int32)), (.ref b23_0)])) _
    refine XS.iload X62.here hx rfl (hb hby dd_prog_23_method_7_code_174) rfl ?_
    show Steps p.tables e below (T62.setTop (mkF m 176 #[.val (.ref o0), .val (.int (1 : Int32)), .val (.long y1), .second, .val (.int (1 : Int32)), .val (.int (1 : Int32)), .val (.int (2 : Int32))] [(.int (1 : Int32)), (.int (1 : Int32)), (.int (2 : Int32)), (.ref b23_0), (.int (1 : Int32)), (.ref b23_0)])) _
    refine XS.isub X62.here hx rfl (hb hby dd_prog_23_method_7_code_176) rfl ?_
    refine XS.aloadN X62.here hx rfl (hb hby dd_prog_23_method_7_code_177) rfl rfl ?_
    show Steps p.tables e below (T62.setTop (mkF m 178 #[.val (.ref o0), .val (.int (1 : Int32)), .val (.long y1), .second, .val (.int (1 : Int32)), .val (.int (1 : Int32)), .val (.int (2 : Int32))] [(.ref o0), (.int (0 : Int32)), (.int (2 : Int32)), (.ref b23_0), (.int (1 : Int32)), (.ref b23_0)])) _
    refine st63 _ ?_
    show Steps p.tables e below (T63.setTop (mkF m 181 #[.val (.ref o0), .val (.int (1 : Int32)), .val (.long y1), .second, .val (.int (1 : Int32)), .val (.int (1 : Int32)), .val (.int (2 : Int32))] [(.int (1 : Int32)), (.int (0 : Int32)), (.int (2 : Int32)), (.ref b23_0), (.int (1 : Int32)), (.ref b23_0)])) _
    refine XS.imul X63.here hx rfl (hb hby dd_prog_23_method_7_code_181) rfl ?_
    show Steps p.tables e below (T63.setTop (mkF m 182 #[.val (.ref o0), .val (.int (1 : Int32)), .val (.long y1), .second, .val (.int (1 : Int32)), .val (.int (1 : Int32)), .val (.int (2 : Int32))] [(.int (0 : Int32)), (.int (2 : Int32)), (.ref b23_0), (.int (1 : Int32)), (.ref b23_0)])) _
    refine st65 _ ?_
    show Steps p.tables e below (T65.setTop (mkF m 185 #[.val (.ref o0), .val (.int (1 : Int32)), .val (.long y1), .second, .val (.int (1 : Int32)), .val (.int (1 : Int32)), .val (.int (2 : Int32))] [])) _
    refine XS.aloadN X65.here hx rfl (hb hby dd_prog_23_method_7_code_185) rfl rfl ?_
    show Steps p.tables e below (T65.setTop (mkF m 186 #[.val (.ref o0), .val (.int (1 : Int32)), .val (.long y1), .second, .val (.int (1 : Int32)), .val (.int (1 : Int32)), .val (.int (2 : Int32))] [(.ref o0)])) _
    refine st67 _ ?_
    show Steps p.tables e below (T67.setTop (mkF m 189 #[.val (.ref o0), .val (.int (1 : Int32)), .val (.long y1), .second, .val (.int (1 : Int32)), .val (.int (1 : Int32)), .val (.int (2 : Int32))] [(.ref b37_0)])) _
    refine XS.iload X67.here hx rfl (hb hby dd_prog_23_method_7_code_189) rfl ?_
    refine XS.aloadN X67.here hx rfl (hb hby dd_prog_23_method_7_code_191) rfl rfl ?_
    show Steps p.tables e below (T67.setTop (mkF m 192 #[.val (.ref o0), .val (.int (1 : Int32)), .val (.long y1), .second, .val (.int (1 : Int32)), .val (.int (1 : Int32)), .val (.int (2 : Int32))] [(.ref o0), (.int (1 : Int32)), (.ref b37_0)])) _
    refine st68 _ ?_
    show Steps p.tables e below (T68.setTop (mkF m 195 #[.val (.ref o0), .val (.int (1 : Int32)), .val (.long y1), .second, .val (.int (1 : Int32)), .val (.int (1 : Int32)), .val (.int (2 : Int32))] [(.ref b37_0), (.int (1 : Int32)), (.ref b37_0)])) _
    refine XS.iload X68.here hx rfl (hb hby dd_prog_23_method_7_code_195) rfl ?_
    refine XS.iconst X68.here hx rfl (hb hby dd_prog_23_method_7_code_197) ?_
    show Steps p.tables e below (T68.setTop (mkF m 198 #[.val (.ref o0), .val (.int (1 : Int32)), .val (.long y1), .second, .val (.int (1 : Int32)), .val (.int (1 : Int32)), .val (.int (2 : Int32))] [(.int (1 : Int32)), (.int (1 : Int32)), (.ref b37_0), (.int (1 : Int32)), (.ref b37_0)])) _
    refine XS.iadd X68.here hx rfl (hb hby dd_prog_23_method_7_code_198) rfl ?_
    refine XS.aloadN X68.here hx rfl (hb hby dd_prog_23_method_7_code_199) rfl rfl ?_
    show Steps p.tables e below (T68.setTop (mkF m 200 #[.val (.ref o0), .val (.int (1 : Int32)), .val (.long y1), .second, .val (.int (1 : Int32)), .val (.int (1 : Int32)), .val (.int (2 : Int32))] [(.ref o0), (.int (2 : Int32)), (.ref b37_0), (.int (1 : Int32)), (.ref b37_0)])) _
    refine st70 _ ?_
    show Steps p.tables e below (T70.setTop (mkF m 203 #[.val (.ref o0), .val (.int (1 : Int32)), .val (.long y1), .second, .val (.int (1 : Int32)), .val (.int (1 : Int32)), .val (.int (2 : Int32))] [(.int (1 : Int32)), (.int (2 : Int32)), (.ref b37_0), (.int (1 : Int32)), (.ref b37_0)])) _
    refine XS.iload X70.here hx rfl (hb hby dd_prog_23_method_7_code_203) rfl ?_
    refine XS.isub X70.here hx rfl (hb hby dd_prog_23_method_7_code_205) rfl ?_
    show Steps p.tables e below (T70.setTop (mkF m 206 #[.val (.ref o0), .val (.int (1 : Int32)), .val (.long y1), .second, .val (.int (1 : Int32)), .val (.int (1 : Int32)), .val (.int (2 : Int32))] [(.int (0 : Int32)), (.int (2 : Int32)), (.ref b37_0), (.int (1 : Int32)), (.ref b37_0)])) _
    refine st72 _ ?_
    show Steps p.tables e below (T72.setTop (mkF m 209 #[.val (.ref o0), .val (.int (1 : Int32)), .val (.long y1), .second, .val (.int (1 : Int32)), .val (.int (1 : Int32)), .val (.int (2 : Int32))] [])) _
    refine XS.aloadN X72.here hx rfl (hb hby dd_prog_23_method_7_code_209) rfl rfl ?_
    show Steps p.tables e below (T72.setTop (mkF m 210 #[.val (.ref o0), .val (.int (1 : Int32)), .val (.long y1), .second, .val (.int (1 : Int32)), .val (.int (1 : Int32)), .val (.int (2 : Int32))] [(.ref o0)])) _
    refine st74 _ ?_
    show Steps p.tables e below (T74.setTop (mkF m 213 #[.val (.ref o0), .val (.int (1 : Int32)), .val (.long y1), .second, .val (.int (1 : Int32)), .val (.int (1 : Int32)), .val (.int (2 : Int32))] [(.ref b10_0)])) _
    refine XS.iload X74.here hx rfl (hb hby dd_prog_23_method_7_code_213) rfl ?_
    show Steps p.tables e below (T74.setTop (mkF m 215 #[.val (.ref o0), .val (.int (1 : Int32)), .val (.long y1), .second, .val (.int (1 : Int32)), .val (.int (1 : Int32)), .val (.int (2 : Int32))] [(.int (1 : Int32)), (.ref b10_0)])) _
    refine XS.lloadN X74.here hx rfl (hb hby dd_prog_23_method_7_code_215) rfl ?_
    show Steps p.tables e below (T74.setTop (mkF m 216 #[.val (.ref o0), .val (.int (1 : Int32)), .val (.long y1), .second, .val (.int (1 : Int32)), .val (.int (1 : Int32)), .val (.int (2 : Int32))] [(.long y1), (.int (1 : Int32)), (.ref b10_0)])) _
    refine st77 _ ?_
    show Steps p.tables e below (T77.setTop (mkF m 217 #[.val (.ref o0), .val (.int (1 : Int32)), .val (.long y1), .second, .val (.int (1 : Int32)), .val (.int (1 : Int32)), .val (.int (2 : Int32))] [])) _
    refine XS.aloadN X77.here hx rfl (hb hby dd_prog_23_method_7_code_217) rfl rfl ?_
    show Steps p.tables e below (T77.setTop (mkF m 218 #[.val (.ref o0), .val (.int (1 : Int32)), .val (.long y1), .second, .val (.int (1 : Int32)), .val (.int (1 : Int32)), .val (.int (2 : Int32))] [(.ref o0)])) _
    refine st79 _ ?_
    show Steps p.tables e below (T79.setTop (mkF m 221 #[.val (.ref o0), .val (.int (1 : Int32)), .val (.long y1), .second, .val (.int (1 : Int32)), .val (.int (1 : Int32)), .val (.int (2 : Int32))] [(.ref b23_0)])) _
    refine XS.iload X79.here hx rfl (hb hby dd_prog_23_method_7_code_221) rfl ?_
    refine XS.aloadN X79.here hx rfl (hb hby dd_prog_23_method_7_code_223) rfl rfl ?_
    show Steps p.tables e below (T79.setTop (mkF m 224 #[.val (.ref o0), .val (.int (1 : Int32)), .val (.long y1), .second, .val (.int (1 : Int32)), .val (.int (1 : Int32)), .val (.int (2 : Int32))] [(.ref o0), (.int (1 : Int32)), (.ref b23_0)])) _
    refine st81 _ ?_
    show Steps p.tables e below (T81.setTop (mkF m 227 #[.val (.ref o0), .val (.int (1 : Int32)), .val (.long y1), .second, .val (.int (1 : Int32)), .val (.int (1 : Int32)), .val (.int (2 : Int32))] [(.int (1 : Int32)), (.int (1 : Int32)), (.ref b23_0)])) _
    refine XS.imul X81.here hx rfl (hb hby dd_prog_23_method_7_code_227) rfl ?_
    refine XS.iload X81.here hx rfl (hb hby dd_prog_23_method_7_code_228) rfl ?_
    show Steps p.tables e below (T81.setTop (mkF m 230 #[.val (.ref o0), .val (.int (1 : Int32)), .val (.long y1), .second, .val (.int (1 : Int32)), .val (.int (1 : Int32)), .val (.int (2 : Int32))] [(.int (1 : Int32)), (.int (1 : Int32)), (.ref b23_0)])) _
    refine XS.iconst X81.here hx rfl (hb hby dd_prog_23_method_7_code_230) ?_
    refine XS.iadd X81.here hx rfl (hb hby dd_prog_23_method_7_code_231) rfl ?_
    refine XS.aloadN X81.here hx rfl (hb hby dd_prog_23_method_7_code_232) rfl rfl ?_
    show Steps p.tables e below (T81.setTop (mkF m 233 #[.val (.ref o0), .val (.int (1 : Int32)), .val (.long y1), .second, .val (.int (1 : Int32)), .val (.int (1 : Int32)), .val (.int (2 : Int32))] [(.ref o0), (.int (2 : Int32)), (.int (1 : Int32)), (.ref b23_0)])) _
    refine st82 _ ?_
    show Steps p.tables e below (T82.setTop (mkF m 236 #[.val (.ref o0), .val (.int (1 : Int32)), .val (.long y1), .second, .val (.int (1 : Int32)), .val (.int (1 : Int32)), .val (.int (2 : Int32))] [(.int (1 : Int32)), (.int (2 : Int32)), (.int (1 : Int32)), (.ref b23_0)])) _
    refine XS.imul X82.here hx rfl (hb hby dd_prog_23_method_7_code_236) rfl ?_
    refine XS.lconst X82.here hx rfl (hb hby dd_prog_23_method_7_code_237) ?_
    show Steps p.tables e below (T82.setTop (mkF m 238 #[.val (.ref o0), .val (.int (1 : Int32)), .val (.long y1), .second, .val (.int (1 : Int32)), .val (.int (1 : Int32)), .val (.int (2 : Int32))] [(.long (0 : Int64)), (.int (2 : Int32)), (.int (1 : Int32)), (.ref b23_0)])) _
    refine st84 _ ?_
    show Steps p.tables e below (T84.setTop (mkF m 241 #[.val (.ref o0), .val (.int (1 : Int32)), .val (.long y1), .second, .val (.int (1 : Int32)), .val (.int (1 : Int32)), .val (.int (2 : Int32))] [])) _
    refine XS.aloadN X84.here hx rfl (hb hby dd_prog_23_method_7_code_241) rfl rfl ?_
    refine XS.dup X84.here hx rfl (hb hby dd_prog_23_method_7_code_242) rfl rfl ?_
    show Steps p.tables e below (T84.setTop (mkF m 243 #[.val (.ref o0), .val (.int (1 : Int32)), .val (.long y1), .second, .val (.int (1 : Int32)), .val (.int (1 : Int32)), .val (.int (2 : Int32))] [(.ref o0), (.ref o0)])) _
    refine st86 _ ?_
    show Steps p.tables e below (T86.setTop (mkF m 246 #[.val (.ref o0), .val (.int (1 : Int32)), .val (.long y1), .second, .val (.int (1 : Int32)), .val (.int (1 : Int32)), .val (.int (2 : Int32))] [(.int (1 : Int32)), (.ref o0)])) _
    refine XS.iconst X86.here hx rfl (hb hby dd_prog_23_method_7_code_246) ?_
    refine XS.iadd X86.here hx rfl (hb hby dd_prog_23_method_7_code_247) rfl ?_
    show Steps p.tables e below (T86.setTop (mkF m 248 #[.val (.ref o0), .val (.int (1 : Int32)), .val (.long y1), .second, .val (.int (1 : Int32)), .val (.int (1 : Int32)), .val (.int (2 : Int32))] [(.int (2 : Int32)), (.ref o0)])) _
    refine st88 _ ?_
    show Steps p.tables e below (T88.setTop (mkF m 251 #[.val (.ref o0), .val (.int (1 : Int32)), .val (.long y1), .second, .val (.int (1 : Int32)), .val (.int (1 : Int32)), .val (.int (2 : Int32))] [])) _
    refine XS.iload X88.here hx rfl (hb hby dd_prog_23_method_7_code_251) rfl ?_
    show Steps p.tables e below (T88.setTop (mkF m 253 #[.val (.ref o0), .val (.int (1 : Int32)), .val (.long y1), .second, .val (.int (1 : Int32)), .val (.int (1 : Int32)), .val (.int (2 : Int32))] [(.int (1 : Int32))])) _
    exact retI X88 hx Bd.returns (hb hby dd_prog_23_method_7_code_253) lhr
  · skip
    show QA18 Z o0 y1 o2 y3 kk_o2 o4 kk_o4 o5 y6 kk_o5 h0 n0 _ T88.heap _
    rw [e88]
    exact ⟨b10_0, b23_0, b37_0, _, _, _, rfl, N88, K88, sz_b10_0, sz_b23_0, sz_b37_0, ne_b10_0_b23_0, ne_b10_0_b37_0, ne_b23_0_b37_0, Fw88, f89, f90, f91, f92, f93, f94, f95, f96, f97⟩
def QA25 (Z : State) (o0 : Addr) (kk_o0 : ClassId) (h0 : Heap) (n0 : Nat) (v : Option Value) (h : Heap) (L : List Loc) : Prop := v = none ∧ Fr n0 L ∧ Keep h0 h [o0] ∧ Arv Z h o0 kk_o0 .long (2 : Int32) [(.long (1 : Int64)), (.long (2 : Int64))] (.long (0 : Int64))
set_option maxRecDepth 65536 in
set_option maxHeartbeats 40000000 in
theorem rmA25 (l : Launch) (Z : State) (a0 : Array Value) (hw : ∀ d ∈ tables_1, d.before a0 Z = true) (ws : List Jvm.Cond) (o0 : Addr) (kk_o0 : ClassId) (h0 : Heap) (n0 : Nat) (Z0 : n0 ≤ h0.size) (V_o0 : Arv Z h0 o0 kk_o0 .long (2 : Int32) [(.long (1 : Int64)), (.long (0 : Int64))] (.long (0 : Int64))) (g_o0 : n0 ≤ o0) :
    MetFree l mn7 (head1 (Jvm.Cond.code mn7 prog_59_method_3_code 9 none :: ws) ({ frames := 0, cells := 0, slots := 0, locals := 0 } : Room)) (fun a U => a = #[(.ref o0), (.int (1 : Int32)), (.int (1 : Int32)), (.long (0 : Int64)), (.long (2 : Int64))] ∧ Z.Warmed39 U.vm ∧ U.heap = h0) (fun _ _ _ _ _ => True) (fun _ U oc_ U' => ∃ v L, oc_ = .returned v ∧ QA25 Z o0 kk_o0 h0 n0 v U'.heap L ∧ FrameEnd U oc_ U' L ({ frames := 0, cells := 0, slots := 0, locals := 0 } : Room).cells ({ frames := 0, cells := 0, slots := 0, locals := 0 } : Room).slots) := by
  refine MetFree.of_bodySF (plainFor_of_name pn_com_example_strict_limiter_strictlimiter_WindowRecord) hisR ?_
  intro p e s m args below meth c s₁ Bd hml0 hP hK
  obtain ⟨rfl, hZ, hh⟩ := hP
  have hx := Bd.exec
  have hby := Bd.bytes
  have hml : c.maxLocals = 9 := hml0
  have hown : s.vm.findClass cn1 = some m.cls := findClass_of_methodNamed Bd.named
  have hnm := (name_of_methodNamed Bd.named Bd.method).1
  have X0 : Stand p l e ({ frames := 0, cells := 0, slots := 0, locals := 0 } : Room) s m #[(.ref o0), (.int (1 : Int32)), (.int (1 : Int32)), (.long (0 : Int64)), (.long (2 : Int64))] below meth c s₁ [] 0 0 := Stand.of_body Bd
  have e0 : s₁.heap = h0 := by rw [← hh, Bd.state]; rfl
  have N0 := Fr.nil n0
  have pre0 : ∀ t, Steps p.tables e below (s₁.setTop (mkF m 0 #[.val (.ref o0), .val (.int (1 : Int32)), .val (.int (1 : Int32)), .val (.long (0 : Int64)), .second, .val (.long (2 : Int64)), .second, .unset, .unset] [])) t → Steps p.tables e below (s₁.setTop (entryFrame m #[(.ref o0), (.int (1 : Int32)), (.int (1 : Int32)), (.long (0 : Int64)), (.long (2 : Int64))] 9)) t := fun t k => castTop (efa_prog_59_method_3_code_vvvvv m o0 (1 : Int32) (1 : Int32) (0 : Int64) (2 : Int64)) k
  obtain ⟨cl1, Ar1, q1, S1, M1, HH1, GG1⟩ := id V_o0
  have hin1 : ¬ ((1 : Int32) < 0 ∨ cl1.slots.size ≤ ((1 : Int32)).toNatClampNeg) := inb_of S1 ⟨by decide, by decide⟩
  have hat1 : cl1.slots[((1 : Int32)).toNatClampNeg]? = some (.long (0 : Int64)) := Has.at HH1 hin1 rfl
  obtain ⟨cl2, Ar2, q2, S2, M2, HH2, GG2⟩ := id V_o0
  have hin2 : ¬ ((1 : Int32) < 0 ∨ cl2.slots.size ≤ ((1 : Int32)).toNatClampNeg) := inb_of S2 ⟨by decide, by decide⟩
  obtain ⟨T3, h3, X3, e3, W3, st3⟩ := stJ X0 hx hZ e0 Ar2 (j := (1 : Int32)) hin2 (g := (mkF m 16 #[.val (.ref o0), .val (.int (1 : Int32)), .val (.int (1 : Int32)), .val (.long (0 : Int64)), .second, .val (.long (2 : Int64)), .second, .val (.long (0 : Int64)), .second] [(.long (2 : Int64)), (.int (1 : Int32)), (.ref o0)])) rfl rfl (hb hby dd_prog_59_method_3_code_16)
  have N3 := Fr.snoc X3 N0 g_o0
  have Z3 : n0 ≤ h3.size := by rw [W3.size]; exact Z0
  have K3 : Keep h0 h3 [o0] := ((Keep.refl h0 [o0]).wr W3 (Or.inl (List.mem_of_getElem? (i := 0) rfl)))
  have V3 := Arv.set Ar2 q2 S2 M2 HH2 GG2 rfl W3 1 rfl (Nat.le_of_ble_eq_true rfl)
  obtain ⟨lfs, lhr, lhrun, lhended, lhW, lhsame⟩ := X3.leave (v := none) (fun _ => rfl)
  refine ⟨_, _, pre0 _ ?_, lhrun, lhended, _, _, rfl, ?_, ⟨_, rfl⟩, lhW, lhsame.mono (by decide) (by decide)⟩
  · skip
    show Steps p.tables e below (s₁.setTop (mkF m 0 #[.val (.ref o0), .val (.int (1 : Int32)), .val (.int (1 : Int32)), .val (.long (0 : Int64)), .second, .val (.long (2 : Int64)), .second, .unset, .unset] [])) _
    refine XS.aloadN X0.here hx rfl (hb hby dd_prog_59_method_3_code_0) rfl rfl ?_
    refine XS.iloadN X0.here hx rfl (hb hby dd_prog_59_method_3_code_1) rfl ?_
    show Steps p.tables e below (s₁.setTop (mkF m 2 #[.val (.ref o0), .val (.int (1 : Int32)), .val (.int (1 : Int32)), .val (.long (0 : Int64)), .second, .val (.long (2 : Int64)), .second, .unset, .unset] [(.int (1 : Int32)), (.ref o0)])) _
    refine XS.iconst X0.here hx rfl (hb hby dd_prog_59_method_3_code_2) ?_
    refine XS.iadd X0.here hx rfl (hb hby dd_prog_59_method_3_code_3) rfl ?_
    refine X0.laload hx (j := (1 : Int32)) (v := (.long (0 : Int64))) (by (try rw [e0]); exact Ar1.1) (State.isArrayOf_alike hZ.alike Ar1.2.1) Ar1.2.2 hin1 hat1 (g := (mkF m 4 #[.val (.ref o0), .val (.int (1 : Int32)), .val (.int (1 : Int32)), .val (.long (0 : Int64)), .second, .val (.long (2 : Int64)), .second, .unset, .unset] [(.int (1 : Int32)), (.ref o0)])) rfl rfl (hb hby dd_prog_59_method_3_code_4) _ ?_
    show Steps p.tables e below (s₁.setTop (mkF m 5 #[.val (.ref o0), .val (.int (1 : Int32)), .val (.int (1 : Int32)), .val (.long (0 : Int64)), .second, .val (.long (2 : Int64)), .second, .unset, .unset] [(.long (0 : Int64))])) _
    refine XS.lstore X0.here hx rfl (hb hby dd_prog_59_method_3_code_5) rfl (l' := #[.val (.ref o0), .val (.int (1 : Int32)), .val (.int (1 : Int32)), .val (.long (0 : Int64)), .second, .val (.long (2 : Int64)), .second, .val (.long (0 : Int64)), .second]) rfl ?_
    refine XS.aloadN X0.here hx rfl (hb hby dd_prog_59_method_3_code_7) rfl rfl ?_
    refine XS.iloadN X0.here hx rfl (hb hby dd_prog_59_method_3_code_8) rfl ?_
    show Steps p.tables e below (s₁.setTop (mkF m 9 #[.val (.ref o0), .val (.int (1 : Int32)), .val (.int (1 : Int32)), .val (.long (0 : Int64)), .second, .val (.long (2 : Int64)), .second, .val (.long (0 : Int64)), .second] [(.int (1 : Int32)), (.ref o0)])) _
    refine XS.iconst X0.here hx rfl (hb hby dd_prog_59_method_3_code_9) ?_
    refine XS.iadd X0.here hx rfl (hb hby dd_prog_59_method_3_code_10) rfl ?_
    refine XS.lload X0.here hx rfl (hb hby dd_prog_59_method_3_code_11) rfl ?_
    show Steps p.tables e below (s₁.setTop (mkF m 13 #[.val (.ref o0), .val (.int (1 : Int32)), .val (.int (1 : Int32)), .val (.long (0 : Int64)), .second, .val (.long (2 : Int64)), .second, .val (.long (0 : Int64)), .second] [(.long (0 : Int64)), (.int (1 : Int32)), (.ref o0)])) _
    refine XS.lload X0.here hx rfl (hb hby dd_prog_59_method_3_code_13) rfl ?_
    refine XS.ladd X0.here hx rfl (hb hby dd_prog_59_method_3_code_15) rfl ?_
    show Steps p.tables e below (s₁.setTop (mkF m 16 #[.val (.ref o0), .val (.int (1 : Int32)), .val (.int (1 : Int32)), .val (.long (0 : Int64)), .second, .val (.long (2 : Int64)), .second, .val (.long (0 : Int64)), .second] [(.long (2 : Int64)), (.int (1 : Int32)), (.ref o0)])) _
    refine st3 _ ?_
    show Steps p.tables e below (T3.setTop (mkF m 17 #[.val (.ref o0), .val (.int (1 : Int32)), .val (.int (1 : Int32)), .val (.long (0 : Int64)), .second, .val (.long (2 : Int64)), .second, .val (.long (0 : Int64)), .second] [])) _
    refine XS.iloadN X3.here hx rfl (hb hby dd_prog_59_method_3_code_17) rfl ?_
    refine XS.iconst X3.here hx rfl (hb hby dd_prog_59_method_3_code_18) ?_
    refine XS.icmpYes X3.here hx rfl (pc0 := 19) (pc' := 29) rfl (hb hby dd_prog_59_method_3_code_19) rfl (feq (by decide : ¬ ((1 : Int32) = (4 : Int32)))).2 (by decide) (by decide) ?_
    show Steps p.tables e below (T3.setTop (mkF m 29 #[.val (.ref o0), .val (.int (1 : Int32)), .val (.int (1 : Int32)), .val (.long (0 : Int64)), .second, .val (.long (2 : Int64)), .second, .val (.long (0 : Int64)), .second] [])) _
    exact X3.returnOut hx Bd.returns (hb hby dd_prog_59_method_3_code_29) lhr
  · skip
    show QA25 Z o0 kk_o0 h0 n0 _ T3.heap _
    rw [e3]
    exact ⟨rfl, N3, K3, V3⟩
def QA14 (Z : State) (o0 : Addr) (y1 : Int64) (y2 : Int64) (o3 : Addr) (y4 : Int64) (kk_o3 : ClassId) (o5 : Addr) (kk_o5 : ClassId) (o6 : Addr) (y7 : Int64) (kk_o6 : ClassId) (h0 : Heap) (n0 : Nat) (v : Option Value) (h : Heap) (L : List Loc) : Prop := ∃ (b5_0 : Addr) (b5_1 : Addr) (b5_2 : Addr) (kk_b5_0 : ClassId) (kk_b5_1 : ClassId) (kk_b5_2 : ClassId), v = none ∧ Fr n0 L ∧ Keep h0 h [o0] ∧ h0.size ≤ b5_0 ∧ h0.size ≤ b5_1 ∧ h0.size ≤ b5_2 ∧ b5_0 ≠ b5_1 ∧ b5_0 ≠ b5_2 ∧ b5_1 ≠ b5_2 ∧ Fld Z h o0 cn2 "starts" "[J" (.ref b5_0) ∧ Fld Z h o0 cn2 "first" "I" (.int (0 : Int32)) ∧ Fld Z h o0 cn2 "end" "I" (.int (2 : Int32)) ∧ Fld Z h o0 cn2 "records" "[J" (.ref b5_1) ∧ Fld Z h o0 cn2 "width" "I" (.int (1 : Int32)) ∧ Fld Z h o0 cn2 "decidedAt" "[J" (.ref b5_2) ∧ Exa Z h o0 cn2 ∧ Arv Z h b5_0 kk_b5_0 .long (2 : Int32) [(.long y4), (.long y1)] (.long (0 : Int64)) ∧ Arv Z h b5_1 kk_b5_1 .long (2 : Int32) [(.long (1 : Int64)), (.long (2 : Int64))] (.long (0 : Int64)) ∧ Arv Z h b5_2 kk_b5_2 .long (2 : Int32) [(.long y7), (.long y2)] (.long (0 : Int64))
set_option maxRecDepth 65536 in
set_option maxHeartbeats 40000000 in
theorem rmA14 (l : Launch) (Z : State) (a0 : Array Value) (hw : ∀ d ∈ tables_1, d.before a0 Z = true) (ws : List Jvm.Cond) (o0 : Addr) (y1 : Int64) (y2 : Int64) (o3 : Addr) (y4 : Int64) (kk_o3 : ClassId) (o5 : Addr) (kk_o5 : ClassId) (o6 : Addr) (y7 : Int64) (kk_o6 : ClassId) (h0 : Heap) (n0 : Nat) (Z0 : n0 ≤ h0.size) (F_o0_starts : Fld Z h0 o0 cn2 "starts" "[J" (.ref o3)) (F_o0_first : Fld Z h0 o0 cn2 "first" "I" (.int (0 : Int32))) (F_o0_end : Fld Z h0 o0 cn2 "end" "I" (.int (1 : Int32))) (V_o3 : Arv Z h0 o3 kk_o3 .long (1 : Int32) [(.long y4)] (.long (0 : Int64))) (hq4 : y4 < y1) (F_o0_records : Fld Z h0 o0 cn2 "records" "[J" (.ref o5)) (F_o0_width : Fld Z h0 o0 cn2 "width" "I" (.int (1 : Int32))) (V_o5 : Arv Z h0 o5 kk_o5 .long (1 : Int32) [(.long (1 : Int64))] (.long (0 : Int64))) (F_o0_decidedAt : Fld Z h0 o0 cn2 "decidedAt" "[J" (.ref o6)) (V_o6 : Arv Z h0 o6 kk_o6 .long (1 : Int32) [(.long y7)] (.long (0 : Int64))) (E_o0 : Exa Z h0 o0 cn2) (g_o0 : n0 ≤ o0) (ne_o5_o0 : o5 ≠ o0) (ne_o3_o0 : o3 ≠ o0) (ne_o6_o0 : o6 ≠ o0) :
    MetFree l mn1 (head1 (Jvm.Cond.code mn1 prog_23_method_5_code 10 none :: ws) ({ frames := 3, cells := 3, slots := 6, locals := 71 } : Room)) (fun a U => a = #[(.ref o0), (.long y1), (.long (0 : Int64)), (.long (2 : Int64)), (.long y2)] ∧ Z.Warmed39 U.vm ∧ U.heap = h0) (fun _ _ _ _ _ => True) (fun _ U oc_ U' => ∃ v L, oc_ = .returned v ∧ QA14 Z o0 y1 y2 o3 y4 kk_o3 o5 kk_o5 o6 y7 kk_o6 h0 n0 v U'.heap L ∧ FrameEnd U oc_ U' L ({ frames := 3, cells := 3, slots := 6, locals := 71 } : Room).cells ({ frames := 3, cells := 3, slots := 6, locals := 71 } : Room).slots) := by
  refine MetFree.of_bodySF (plainFor_of_name pn_com_example_strict_limiter_strictlimiter_KeptWindows) hisR ?_
  intro p e s m args below meth c s₁ Bd hml0 hP hK
  obtain ⟨rfl, hZ, hh⟩ := hP
  have hx := Bd.exec
  have hby := Bd.bytes
  have hml : c.maxLocals = 10 := hml0
  have hown : s.vm.findClass cn2 = some m.cls := findClass_of_methodNamed Bd.named
  have hnm := (name_of_methodNamed Bd.named Bd.method).1
  have X0 : Stand p l e ({ frames := 3, cells := 3, slots := 6, locals := 71 } : Room) s m #[(.ref o0), (.long y1), (.long (0 : Int64)), (.long (2 : Int64)), (.long y2)] below meth c s₁ [] 0 0 := Stand.of_body Bd
  have e0 : s₁.heap = h0 := by rw [← hh, Bd.state]; rfl
  have N0 := Fr.nil n0
  have pre0 : ∀ t, Steps p.tables e below (s₁.setTop (mkF m 0 #[.val (.ref o0), .val (.long y1), .second, .val (.long (0 : Int64)), .second, .val (.long (2 : Int64)), .second, .val (.long y2), .second, .unset] [])) t → Steps p.tables e below (s₁.setTop (entryFrame m #[(.ref o0), (.long y1), (.long (0 : Int64)), (.long (2 : Int64)), (.long y2)] 10)) t := fun t k => castTop (efa_prog_23_method_5_code_vvvvv m o0 y1 (0 : Int64) (2 : Int64) y2) k
  obtain ⟨T1, X1, e1, st1⟩ := getF X0 hx hZ hown (host := "") (Or.inl (wd12 hw)) Via.refl e0 F_o0_starts (g := (mkF m 1 #[.val (.ref o0), .val (.long y1), .second, .val (.long (0 : Int64)), .second, .val (.long (2 : Int64)), .second, .val (.long y2), .second, .unset] [(.ref o0)])) rfl rfl (hb hby dd_prog_23_method_5_code_1)
  obtain ⟨T2, X2, e2, st2⟩ := getF X1 hx hZ hown (host := "") (Or.inl (wd25 hw)) Via.refl e1 F_o0_first (g := (mkF m 5 #[.val (.ref o0), .val (.long y1), .second, .val (.long (0 : Int64)), .second, .val (.long (2 : Int64)), .second, .val (.long y2), .second, .unset] [(.ref o0), (.ref o3)])) rfl rfl (hb hby dd_prog_23_method_5_code_5)
  obtain ⟨T3, X3, e3, st3⟩ := getF X2 hx hZ hown (host := "") (Or.inl (wd27 hw)) Via.refl e2 F_o0_end (g := (mkF m 9 #[.val (.ref o0), .val (.long y1), .second, .val (.long (0 : Int64)), .second, .val (.long (2 : Int64)), .second, .val (.long y2), .second, .unset] [(.ref o0), (.int (0 : Int32)), (.ref o3)])) rfl rfl (hb hby dd_prog_23_method_5_code_9)
  obtain ⟨_, _, ⟨T4, L4, kc4, ks4⟩, -, X4, ⟨Lc4, hQ4, l4, y4, z4⟩, st4⟩ := Jvm.LawKit.callS X3 hx (y := mn9) hown (mvT hZ (wd29 hw)) (mvT hZ (wd30 hw)) (mvT hZ (wd31 hw)) (mvT hZ (wd32 hw)) (by decide) (backOf (W := 0) (rmA15 l Z a0 hw [] o3 y1 y4 _ h0 n0 Z0 V_o3 hq4) hZ (wd32 hw) (wd31 hw) (by decide) (by decide)) (g := (mkF m 13 #[.val (.ref o0), .val (.long y1), .second, .val (.long (0 : Int64)), .second, .val (.long (2 : Int64)), .second, .val (.long y2), .second, .unset] [(.long y1), (.int (1 : Int32)), (.int (0 : Int32)), (.ref o3)])) rfl (by rw [hml]; rfl) (argsL := [(.ref o3), (.int (0 : Int32)), (.int (1 : Int32)), (.long y1)]) (rest := []) (lenOf pd___JIIJ_I rfl) rfl (by show 2 * 0 + _ ≤ _; exact Nat.le_of_eq rfl) (hb hby dd_prog_23_method_5_code_13) (fun _ _ => ⟨rfl, e3, (by decide : 0 + 0 ≤ _), (by decide : 0 + 0 ≤ _)⟩)
  dsimp only [Pt.U, Pt.locs, Pt.cells, Pt.slots] at X4 l4 y4 z4 st4 hQ4
  subst l4 y4 z4
  obtain ⟨rfl, Nq4, eq4⟩ := hQ4
  have N4 := Fr.app N0 Nq4
  obtain ⟨cq5, q5, q5'⟩ := E_o0.cell
  obtain ⟨_, _, ⟨T5, L5, kc5, ks5⟩, -, X5, ⟨Lc5, hQ5, l5, y5, z5⟩, st5⟩ := X4.privateBack hx (y := mn5) hown (mvT hZ (wd39 hw)) (mvT hZ (wd40 hw)) (own_selPriv (mvT hZ (wd2 hw)) (Cond.privateMethod_at (mvP hZ (wd41 hw) (args := #[]))) (mvT hZ (wd40 hw)) (by decide)) (Cond.privateMethod_at (mvP hZ (wd41 hw) (args := #[]))) (mvT hZ (wd42 hw)) (by decide) (backOf (W := 0) (rmA18 l Z a0 hw [] o0 y1 o3 y4 _ o5 _ o6 y7 _ h0 n0 Z0 F_o0_end F_o0_starts V_o3 F_o0_first E_o0 g_o0 F_o0_records F_o0_width V_o5 ne_o5_o0 ne_o3_o0 F_o0_decidedAt V_o6 ne_o6_o0) hZ (wd42 hw) (wd3 hw) (by decide) (by decide)) (g := (mkF m 37 #[.val (.ref o0), .val (.long y1), .second, .val (.long (0 : Int64)), .second, .val (.long (2 : Int64)), .second, .val (.long y2), .second, .val (.int (-2 : Int32))] [(.long y1), (.int (1 : Int32)), (.ref o0)])) rfl (by rw [hml]; rfl) (Steps.refl _) (a := o0) (by rw [eq4]; exact q5) q5' (argsL := [(.int (1 : Int32)), (.long y1)]) (rest := []) (lenOf pd__IJ_I rfl) rfl (by show 2 * 0 + _ ≤ _; exact Nat.le_of_eq rfl) (hb hby dd_prog_23_method_5_code_37) (fun _ _ => ⟨rfl, eq4, (by decide : 0 + 3 ≤ _), (by decide : 0 + 6 ≤ _)⟩)
  dsimp only [Pt.U, Pt.locs, Pt.cells, Pt.slots] at X5 l5 y5 z5 st5 hQ5
  subst l5 y5 z5
  obtain ⟨b5_0, b5_1, b5_2, kv5_3, kv5_4, kv5_5, rfl, Nq5, Kq5, sz5_0, sz5_1, sz5_2, g5_0, g5_1, g5_2, g5_3, g5_4, g5_5, g5_6, g5_7, g5_8, g5_9, g5_10, g5_11, g5_12⟩ := hQ5
  have N5 := Fr.app N4 Nq5
  have Z5 : n0 ≤ T5.heap.size := Nat.le_trans Z0 Kq5.1
  have K5 : Keep h0 T5.heap [o0] := Keep.trans (Keep.refl h0 [o0]) Kq5 (allS (Or.inl (List.mem_of_getElem? (i := 0) rfl)) all0)
  have ne_o0_b5_0 : o0 ≠ b5_0 := Nat.ne_of_lt (Nat.lt_of_lt_of_le F_o0_starts.lt sz5_0)
  have ne_o3_b5_0 : o3 ≠ b5_0 := Nat.ne_of_lt (Nat.lt_of_lt_of_le V_o3.lt sz5_0)
  have ne_o5_b5_0 : o5 ≠ b5_0 := Nat.ne_of_lt (Nat.lt_of_lt_of_le V_o5.lt sz5_0)
  have ne_o6_b5_0 : o6 ≠ b5_0 := Nat.ne_of_lt (Nat.lt_of_lt_of_le V_o6.lt sz5_0)
  have ge_b5_0 : n0 ≤ b5_0 := Nat.le_trans Z0 sz5_0
  have sz_b5_0 : h0.size ≤ b5_0 := Nat.le_trans (Nat.le_refl _) sz5_0
  have ne_o0_b5_1 : o0 ≠ b5_1 := Nat.ne_of_lt (Nat.lt_of_lt_of_le F_o0_starts.lt sz5_1)
  have ne_o3_b5_1 : o3 ≠ b5_1 := Nat.ne_of_lt (Nat.lt_of_lt_of_le V_o3.lt sz5_1)
  have ne_o5_b5_1 : o5 ≠ b5_1 := Nat.ne_of_lt (Nat.lt_of_lt_of_le V_o5.lt sz5_1)
  have ne_o6_b5_1 : o6 ≠ b5_1 := Nat.ne_of_lt (Nat.lt_of_lt_of_le V_o6.lt sz5_1)
  have ge_b5_1 : n0 ≤ b5_1 := Nat.le_trans Z0 sz5_1
  have sz_b5_1 : h0.size ≤ b5_1 := Nat.le_trans (Nat.le_refl _) sz5_1
  have ne_o0_b5_2 : o0 ≠ b5_2 := Nat.ne_of_lt (Nat.lt_of_lt_of_le F_o0_starts.lt sz5_2)
  have ne_o3_b5_2 : o3 ≠ b5_2 := Nat.ne_of_lt (Nat.lt_of_lt_of_le V_o3.lt sz5_2)
  have ne_o5_b5_2 : o5 ≠ b5_2 := Nat.ne_of_lt (Nat.lt_of_lt_of_le V_o5.lt sz5_2)
  have ne_o6_b5_2 : o6 ≠ b5_2 := Nat.ne_of_lt (Nat.lt_of_lt_of_le V_o6.lt sz5_2)
  have ge_b5_2 : n0 ≤ b5_2 := Nat.le_trans Z0 sz5_2
  have sz_b5_2 : h0.size ≤ b5_2 := Nat.le_trans (Nat.le_refl _) sz5_2
  obtain ⟨T6, X6, e6, st6⟩ := getF X5 hx hZ hown (host := "") (Or.inl (wd14 hw)) Via.refl rfl g5_8 (g := (mkF m 48 #[.val (.ref o0), .val (.long y1), .second, .val (.long (0 : Int64)), .second, .val (.long (2 : Int64)), .second, .val (.long y2), .second, .val (.int (1 : Int32))] [(.ref o0)])) rfl rfl (hb hby dd_prog_23_method_5_code_48)
  obtain ⟨T7, X7, e7, st7⟩ := getF X6 hx hZ hown (host := "") (Or.inl (wd18 hw)) Via.refl e6 g5_9 (g := (mkF m 54 #[.val (.ref o0), .val (.long y1), .second, .val (.long (0 : Int64)), .second, .val (.long (2 : Int64)), .second, .val (.long y2), .second, .val (.int (1 : Int32))] [(.ref o0), (.int (1 : Int32)), (.ref b5_1)])) rfl rfl (hb hby dd_prog_23_method_5_code_54)
  obtain ⟨T8, X8, e8, st8⟩ := getF X7 hx hZ hown (host := "") (Or.inl (wd18 hw)) Via.refl e7 g5_9 (g := (mkF m 59 #[.val (.ref o0), .val (.long y1), .second, .val (.long (0 : Int64)), .second, .val (.long (2 : Int64)), .second, .val (.long y2), .second, .val (.int (1 : Int32))] [(.ref o0), (.int (1 : Int32)), (.ref b5_1)])) rfl rfl (hb hby dd_prog_23_method_5_code_59)
  obtain ⟨_, _, ⟨T9, L9, kc9, ks9⟩, -, X9, ⟨Lc9, hQ9, l9, y9, z9⟩, st9⟩ := Jvm.LawKit.callS X8 hx (y := mn7) hown (mvT hZ (wd59 hw)) (mvT hZ (wd60 hw)) (mvT hZ (wd61 hw)) (mvT hZ (wd62 hw)) (by decide) (backOf (W := 0) (rmA25 l Z a0 hw [] b5_1 _ T5.heap n0 Z5 g5_10 ge_b5_1) hZ (wd62 hw) (wd61 hw) (by decide) (by decide)) (g := (mkF m 65 #[.val (.ref o0), .val (.long y1), .second, .val (.long (0 : Int64)), .second, .val (.long (2 : Int64)), .second, .val (.long y2), .second, .val (.int (1 : Int32))] [(.long (2 : Int64)), (.long (0 : Int64)), (.int (1 : Int32)), (.int (1 : Int32)), (.ref b5_1)])) rfl (by rw [hml]; rfl) (argsL := [(.ref b5_1), (.int (1 : Int32)), (.int (1 : Int32)), (.long (0 : Int64)), (.long (2 : Int64))]) (rest := []) (lenOf pd___JIIJJ_V rfl) rfl (by show 2 * 0 + _ ≤ _; exact Nat.le_of_eq rfl) (hb hby dd_prog_23_method_5_code_65) (fun _ _ => ⟨rfl, e8, (by decide : 3 + 0 ≤ _), (by decide : 6 + 0 ≤ _)⟩)
  dsimp only [Pt.U, Pt.locs, Pt.cells, Pt.slots] at X9 l9 y9 z9 st9 hQ9
  subst l9 y9 z9
  obtain ⟨rfl, Nq9, Kq9, g9_0⟩ := hQ9
  have N9 := Fr.app N5 Nq9
  have Z9 : n0 ≤ T9.heap.size := Nat.le_trans Z5 Kq9.1
  have K9 : Keep h0 T9.heap [o0] := Keep.trans K5 Kq9 (allS (Or.inr sz_b5_1) all0)
  have f10 := (g5_11.keep Kq9 (ninS ne_o0_b5_1 nin0))
  obtain ⟨T11, X11, e11, st11⟩ := getF X9 hx hZ hown (host := "") (Or.inl (wd16 hw)) Via.refl rfl f10 (g := (mkF m 69 #[.val (.ref o0), .val (.long y1), .second, .val (.long (0 : Int64)), .second, .val (.long (2 : Int64)), .second, .val (.long y2), .second, .val (.int (1 : Int32))] [(.ref o0)])) rfl rfl (hb hby dd_prog_23_method_5_code_69)
  have f12 := (g5_12.keep Kq9 (ninS (Ne.symm g5_2) nin0))
  obtain ⟨cl13, Ar13, q13, S13, M13, HH13, GG13⟩ := id f12
  have hin13 : ¬ ((1 : Int32) < 0 ∨ cl13.slots.size ≤ ((1 : Int32)).toNatClampNeg) := inb_of S13 ⟨by decide, by decide⟩
  obtain ⟨T14, h14, X14, e14, W14, st14⟩ := stJ X11 hx hZ e11 Ar13 (j := (1 : Int32)) hin13 (g := (mkF m 76 #[.val (.ref o0), .val (.long y1), .second, .val (.long (0 : Int64)), .second, .val (.long (2 : Int64)), .second, .val (.long y2), .second, .val (.int (1 : Int32))] [(.long y2), (.int (1 : Int32)), (.ref b5_2)])) rfl rfl (hb hby dd_prog_23_method_5_code_76)
  have N14 := Fr.snoc X14 N9 ge_b5_2
  have Z14 : n0 ≤ h14.size := by rw [W14.size]; exact Z9
  have K14 : Keep h0 h14 [o0] := (K9.wr W14 (Or.inr sz_b5_2))
  have V14 := Arv.set Ar13 q13 S13 M13 HH13 GG13 rfl W14 1 rfl (Nat.le_of_ble_eq_true rfl)
  have f15 := ((g5_4.keep Kq9 (ninS ne_o0_b5_1 nin0)).other W14 (Or.inl ne_o0_b5_2))
  have f16 := ((g5_5.keep Kq9 (ninS ne_o0_b5_1 nin0)).other W14 (Or.inl ne_o0_b5_2))
  have f17 := ((g5_3.keep Kq9 (ninS ne_o0_b5_1 nin0)).other W14 (Or.inl ne_o0_b5_2))
  have f18 := ((g5_8.keep Kq9 (ninS ne_o0_b5_1 nin0)).other W14 (Or.inl ne_o0_b5_2))
  have f19 := ((g5_9.keep Kq9 (ninS ne_o0_b5_1 nin0)).other W14 (Or.inl ne_o0_b5_2))
  have f20 := (f10.other W14 (Or.inl ne_o0_b5_2))
  have f21 := ((g5_6.keep Kq9).wr W14)
  have f22 := ((g5_7.keep Kq9 (ninS g5_0 nin0)).other W14 g5_1)
  have f23 := (g9_0.other W14 g5_2)
  obtain ⟨lfs, lhr, lhrun, lhended, lhW, lhsame⟩ := X14.leave (v := none) (fun _ => rfl)
  refine ⟨_, _, pre0 _ ?_, lhrun, lhended, _, _, rfl, ?_, ⟨_, rfl⟩, lhW, lhsame.mono (by decide) (by decide)⟩
  · skip
    show Steps p.tables e below (s₁.setTop (mkF m 0 #[.val (.ref o0), .val (.long y1), .second, .val (.long (0 : Int64)), .second, .val (.long (2 : Int64)), .second, .val (.long y2), .second, .unset] [])) _
    refine XS.aloadN X0.here hx rfl (hb hby dd_prog_23_method_5_code_0) rfl rfl ?_
    show Steps p.tables e below (s₁.setTop (mkF m 1 #[.val (.ref o0), .val (.long y1), .second, .val (.long (0 : Int64)), .second, .val (.long (2 : Int64)), .second, .val (.long y2), .second, .unset] [(.ref o0)])) _
    refine st1 _ ?_
    show Steps p.tables e below (T1.setTop (mkF m 4 #[.val (.ref o0), .val (.long y1), .second, .val (.long (0 : Int64)), .second, .val (.long (2 : Int64)), .second, .val (.long y2), .second, .unset] [(.ref o3)])) _
    refine XS.aloadN X1.here hx rfl (hb hby dd_prog_23_method_5_code_4) rfl rfl ?_
    show Steps p.tables e below (T1.setTop (mkF m 5 #[.val (.ref o0), .val (.long y1), .second, .val (.long (0 : Int64)), .second, .val (.long (2 : Int64)), .second, .val (.long y2), .second, .unset] [(.ref o0), (.ref o3)])) _
    refine st2 _ ?_
    show Steps p.tables e below (T2.setTop (mkF m 8 #[.val (.ref o0), .val (.long y1), .second, .val (.long (0 : Int64)), .second, .val (.long (2 : Int64)), .second, .val (.long y2), .second, .unset] [(.int (0 : Int32)), (.ref o3)])) _
    refine XS.aloadN X2.here hx rfl (hb hby dd_prog_23_method_5_code_8) rfl rfl ?_
    show Steps p.tables e below (T2.setTop (mkF m 9 #[.val (.ref o0), .val (.long y1), .second, .val (.long (0 : Int64)), .second, .val (.long (2 : Int64)), .second, .val (.long y2), .second, .unset] [(.ref o0), (.int (0 : Int32)), (.ref o3)])) _
    refine st3 _ ?_
    show Steps p.tables e below (T3.setTop (mkF m 12 #[.val (.ref o0), .val (.long y1), .second, .val (.long (0 : Int64)), .second, .val (.long (2 : Int64)), .second, .val (.long y2), .second, .unset] [(.int (1 : Int32)), (.int (0 : Int32)), (.ref o3)])) _
    refine XS.lloadN X3.here hx rfl (hb hby dd_prog_23_method_5_code_12) rfl ?_
    show Steps p.tables e below (T3.setTop (mkF m 13 #[.val (.ref o0), .val (.long y1), .second, .val (.long (0 : Int64)), .second, .val (.long (2 : Int64)), .second, .val (.long y2), .second, .unset] [(.long y1), (.int (1 : Int32)), (.int (0 : Int32)), (.ref o3)])) _
    refine st4 _ ?_
    show Steps p.tables e below (T4.setTop (mkF m 16 #[.val (.ref o0), .val (.long y1), .second, .val (.long (0 : Int64)), .second, .val (.long (2 : Int64)), .second, .val (.long y2), .second, .unset] [(.int (-2 : Int32))])) _
    refine XS.istore X4.here hx rfl (hb hby dd_prog_23_method_5_code_16) rfl (l' := #[.val (.ref o0), .val (.long y1), .second, .val (.long (0 : Int64)), .second, .val (.long (2 : Int64)), .second, .val (.long y2), .second, .val (.int (-2 : Int32))]) rfl ?_
    refine XS.iload X4.here hx rfl (hb hby dd_prog_23_method_5_code_18) rfl ?_
    refine XS.ifNo X4.here hx rfl (hb hby dd_prog_23_method_5_code_20) rfl ((if0 _ _).trans (tlt (by decide : (-2 : Int32) < (0 : Int32))).2.1) ?_
    show Steps p.tables e below (T4.setTop (mkF m 23 #[.val (.ref o0), .val (.long y1), .second, .val (.long (0 : Int64)), .second, .val (.long (2 : Int64)), .second, .val (.long y2), .second, .val (.int (-2 : Int32))] [])) _
    refine XS.lload X4.here hx rfl (hb hby dd_prog_23_method_5_code_23) rfl ?_
    refine XS.lconst X4.here hx rfl (hb hby dd_prog_23_method_5_code_25) ?_
    refine XS.lcmp X4.here hx rfl (hb hby dd_prog_23_method_5_code_26) rfl ?_
    show Steps p.tables e below (T4.setTop (mkF m 27 #[.val (.ref o0), .val (.long y1), .second, .val (.long (0 : Int64)), .second, .val (.long (2 : Int64)), .second, .val (.long y2), .second, .val (.int (-2 : Int32))] [(.int (lcmpW (2 : Int64) (0 : Int64)))])) _
    refine XS.ifNo X4.here hx rfl (hb hby dd_prog_23_method_5_code_27) rfl ((if0 _ _).trans (tlt ((lw_gt (2 : Int64) (0 : Int64)).mpr (by decide : (0 : Int64) < (2 : Int64)))).2.2.2) ?_
    refine XS.aloadN X4.here hx rfl (hb hby dd_prog_23_method_5_code_30) rfl rfl ?_
    refine XS.iload X4.here hx rfl (hb hby dd_prog_23_method_5_code_31) rfl ?_
    show Steps p.tables e below (T4.setTop (mkF m 33 #[.val (.ref o0), .val (.long y1), .second, .val (.long (0 : Int64)), .second, .val (.long (2 : Int64)), .second, .val (.long y2), .second, .val (.int (-2 : Int32))] [(.int (-2 : Int32)), (.ref o0)])) _
    refine XS.ineg X4.here hx rfl (hb hby dd_prog_23_method_5_code_33) rfl ?_
    refine XS.iconst X4.here hx rfl (hb hby dd_prog_23_method_5_code_34) ?_
    refine XS.isub X4.here hx rfl (hb hby dd_prog_23_method_5_code_35) rfl ?_
    show Steps p.tables e below (T4.setTop (mkF m 36 #[.val (.ref o0), .val (.long y1), .second, .val (.long (0 : Int64)), .second, .val (.long (2 : Int64)), .second, .val (.long y2), .second, .val (.int (-2 : Int32))] [(.int (1 : Int32)), (.ref o0)])) _
    refine XS.lloadN X4.here hx rfl (hb hby dd_prog_23_method_5_code_36) rfl ?_
    show Steps p.tables e below (T4.setTop (mkF m 37 #[.val (.ref o0), .val (.long y1), .second, .val (.long (0 : Int64)), .second, .val (.long (2 : Int64)), .second, .val (.long y2), .second, .val (.int (-2 : Int32))] [(.long y1), (.int (1 : Int32)), (.ref o0)])) _
    refine st5.trans ?_
    show Steps p.tables e below (T5.setTop (mkF m 40 #[.val (.ref o0), .val (.long y1), .second, .val (.long (0 : Int64)), .second, .val (.long (2 : Int64)), .second, .val (.long y2), .second, .val (.int (-2 : Int32))] [(.int (1 : Int32))])) _
    refine XS.istore X5.here hx rfl (hb hby dd_prog_23_method_5_code_40) rfl (l' := #[.val (.ref o0), .val (.long y1), .second, .val (.long (0 : Int64)), .second, .val (.long (2 : Int64)), .second, .val (.long y2), .second, .val (.int (1 : Int32))]) rfl ?_
    show Steps p.tables e below (T5.setTop (mkF m 42 #[.val (.ref o0), .val (.long y1), .second, .val (.long (0 : Int64)), .second, .val (.long (2 : Int64)), .second, .val (.long y2), .second, .val (.int (1 : Int32))] [])) _
    refine XS.iload X5.here hx rfl (hb hby dd_prog_23_method_5_code_42) rfl ?_
    refine XS.ifNo X5.here hx rfl (hb hby dd_prog_23_method_5_code_44) rfl ((if0 _ _).trans (flt (by decide : ¬ ((1 : Int32) < (0 : Int32)))).1) ?_
    refine XS.aloadN X5.here hx rfl (hb hby dd_prog_23_method_5_code_47) rfl rfl ?_
    show Steps p.tables e below (T5.setTop (mkF m 48 #[.val (.ref o0), .val (.long y1), .second, .val (.long (0 : Int64)), .second, .val (.long (2 : Int64)), .second, .val (.long y2), .second, .val (.int (1 : Int32))] [(.ref o0)])) _
    refine st6 _ ?_
    show Steps p.tables e below (T6.setTop (mkF m 51 #[.val (.ref o0), .val (.long y1), .second, .val (.long (0 : Int64)), .second, .val (.long (2 : Int64)), .second, .val (.long y2), .second, .val (.int (1 : Int32))] [(.ref b5_1)])) _
    refine XS.iload X6.here hx rfl (hb hby dd_prog_23_method_5_code_51) rfl ?_
    refine XS.aloadN X6.here hx rfl (hb hby dd_prog_23_method_5_code_53) rfl rfl ?_
    show Steps p.tables e below (T6.setTop (mkF m 54 #[.val (.ref o0), .val (.long y1), .second, .val (.long (0 : Int64)), .second, .val (.long (2 : Int64)), .second, .val (.long y2), .second, .val (.int (1 : Int32))] [(.ref o0), (.int (1 : Int32)), (.ref b5_1)])) _
    refine st7 _ ?_
    show Steps p.tables e below (T7.setTop (mkF m 57 #[.val (.ref o0), .val (.long y1), .second, .val (.long (0 : Int64)), .second, .val (.long (2 : Int64)), .second, .val (.long y2), .second, .val (.int (1 : Int32))] [(.int (1 : Int32)), (.int (1 : Int32)), (.ref b5_1)])) _
    refine XS.imul X7.here hx rfl (hb hby dd_prog_23_method_5_code_57) rfl ?_
    refine XS.aloadN X7.here hx rfl (hb hby dd_prog_23_method_5_code_58) rfl rfl ?_
    show Steps p.tables e below (T7.setTop (mkF m 59 #[.val (.ref o0), .val (.long y1), .second, .val (.long (0 : Int64)), .second, .val (.long (2 : Int64)), .second, .val (.long y2), .second, .val (.int (1 : Int32))] [(.ref o0), (.int (1 : Int32)), (.ref b5_1)])) _
    refine st8 _ ?_
    show Steps p.tables e below (T8.setTop (mkF m 62 #[.val (.ref o0), .val (.long y1), .second, .val (.long (0 : Int64)), .second, .val (.long (2 : Int64)), .second, .val (.long y2), .second, .val (.int (1 : Int32))] [(.int (1 : Int32)), (.int (1 : Int32)), (.ref b5_1)])) _
    refine XS.lloadN X8.here hx rfl (hb hby dd_prog_23_method_5_code_62) rfl ?_
    refine XS.lload X8.here hx rfl (hb hby dd_prog_23_method_5_code_63) rfl ?_
    show Steps p.tables e below (T8.setTop (mkF m 65 #[.val (.ref o0), .val (.long y1), .second, .val (.long (0 : Int64)), .second, .val (.long (2 : Int64)), .second, .val (.long y2), .second, .val (.int (1 : Int32))] [(.long (2 : Int64)), (.long (0 : Int64)), (.int (1 : Int32)), (.int (1 : Int32)), (.ref b5_1)])) _
    refine st9 _ ?_
    show Steps p.tables e below (T9.setTop (mkF m 68 #[.val (.ref o0), .val (.long y1), .second, .val (.long (0 : Int64)), .second, .val (.long (2 : Int64)), .second, .val (.long y2), .second, .val (.int (1 : Int32))] [])) _
    refine XS.aloadN X9.here hx rfl (hb hby dd_prog_23_method_5_code_68) rfl rfl ?_
    show Steps p.tables e below (T9.setTop (mkF m 69 #[.val (.ref o0), .val (.long y1), .second, .val (.long (0 : Int64)), .second, .val (.long (2 : Int64)), .second, .val (.long y2), .second, .val (.int (1 : Int32))] [(.ref o0)])) _
    refine st11 _ ?_
    show Steps p.tables e below (T11.setTop (mkF m 72 #[.val (.ref o0), .val (.long y1), .second, .val (.long (0 : Int64)), .second, .val (.long (2 : Int64)), .second, .val (.long y2), .second, .val (.int (1 : Int32))] [(.ref b5_2)])) _
    refine XS.iload X11.here hx rfl (hb hby dd_prog_23_method_5_code_72) rfl ?_
    refine XS.lload X11.here hx rfl (hb hby dd_prog_23_method_5_code_74) rfl ?_
    show Steps p.tables e below (T11.setTop (mkF m 76 #[.val (.ref o0), .val (.long y1), .second, .val (.long (0 : Int64)), .second, .val (.long (2 : Int64)), .second, .val (.long y2), .second, .val (.int (1 : Int32))] [(.long y2), (.int (1 : Int32)), (.ref b5_2)])) _
    refine st14 _ ?_
    show Steps p.tables e below (T14.setTop (mkF m 77 #[.val (.ref o0), .val (.long y1), .second, .val (.long (0 : Int64)), .second, .val (.long (2 : Int64)), .second, .val (.long y2), .second, .val (.int (1 : Int32))] [])) _
    exact X14.returnOut hx Bd.returns (hb hby dd_prog_23_method_5_code_77) lhr
  · skip
    show QA14 Z o0 y1 y2 o3 y4 kk_o3 o5 kk_o5 o6 y7 kk_o6 h0 n0 _ T14.heap _
    rw [e14]
    exact ⟨b5_0, b5_1, b5_2, _, _, _, rfl, N14, K14, sz_b5_0, sz_b5_1, sz_b5_2, g5_0, g5_1, g5_2, f15, f16, f17, f18, f19, f20, f21, f22, f23, V14⟩
theorem efa_prog_23_method_2_code_vvvv (m : MethodId) (x0 : Addr) (x1 : Int64) (x2 : Int64) (x3 : Int64) : entryFrame m #[(.ref x0), (.long x1), (.long x2), (.long x3)] 7 = mkF m 0 #[.val (.ref x0), .val (.long x1), .second, .val (.long x2), .second, .val (.long x3), .second] [] := by first | (simp [entryFrame, mkF, argsToLocals, Value.category]; done) | rfl
theorem dd_prog_23_method_2_code_0 : decode prog_23_method_2_code 0 = .ok (.aload_n 0, 1) := by decide +kernel
theorem dd_prog_23_method_2_code_1 : decode prog_23_method_2_code 1 = .ok (.getfield 26, 3) := by decide +kernel
theorem dd_prog_23_method_2_code_4 : decode prog_23_method_2_code 4 = .ok (.aload_n 0, 1) := by decide +kernel
theorem dd_prog_23_method_2_code_5 : decode prog_23_method_2_code 5 = .ok (.getfield 29, 3) := by decide +kernel
theorem dd_prog_23_method_2_code_8 : decode prog_23_method_2_code 8 = .ok (.if_icmp .ge 51, 3) := by decide +kernel
theorem dd_prog_23_method_2_code_11 : decode prog_23_method_2_code 11 = .ok (.aload_n 0, 1) := by decide +kernel
theorem dd_prog_23_method_2_code_12 : decode prog_23_method_2_code 12 = .ok (.getfield 13, 3) := by decide +kernel
theorem dd_prog_23_method_2_code_15 : decode prog_23_method_2_code 15 = .ok (.aload_n 0, 1) := by decide +kernel
theorem dd_prog_23_method_2_code_16 : decode prog_23_method_2_code 16 = .ok (.getfield 26, 3) := by decide +kernel
theorem dd_prog_23_method_2_code_19 : decode prog_23_method_2_code 19 = .ok (.laload, 1) := by decide +kernel
theorem dd_prog_23_method_2_code_20 : decode prog_23_method_2_code 20 = .ok (.ldc2_w 32, 3) := by decide +kernel
theorem dd_prog_23_method_2_code_23 : decode prog_23_method_2_code 23 = .ok (.ldiv, 1) := by decide +kernel
theorem dd_prog_23_method_2_code_24 : decode prog_23_method_2_code 24 = .ok (.lload_n 1, 1) := by decide +kernel
theorem dd_prog_23_method_2_code_25 : decode prog_23_method_2_code 25 = .ok (.lcmp, 1) := by decide +kernel
theorem dd_prog_23_method_2_code_26 : decode prog_23_method_2_code 26 = .ok (.ifCond .gt 33, 3) := by decide +kernel
theorem dd_prog_23_method_2_code_59 : decode prog_23_method_2_code 59 = .ok (.return_, 1) := by decide +kernel
def QA26 (Z : State) (o0 : Addr) (y1 : Int64) (y2 : Int64) (y3 : Int64) (o4 : Addr) (y5 : Int64) (y6 : Int64) (kk_o4 : ClassId) (h0 : Heap) (n0 : Nat) (v : Option Value) (h : Heap) (L : List Loc) : Prop := v = none ∧ Fr n0 L ∧ h = h0
set_option maxRecDepth 65536 in
set_option maxHeartbeats 40000000 in
theorem rmA26 (l : Launch) (Z : State) (a0 : Array Value) (hw : ∀ d ∈ tables_1, d.before a0 Z = true) (ws : List Jvm.Cond) (o0 : Addr) (y1 : Int64) (y2 : Int64) (y3 : Int64) (o4 : Addr) (y5 : Int64) (y6 : Int64) (kk_o4 : ClassId) (h0 : Heap) (n0 : Nat) (Z0 : n0 ≤ h0.size) (F_o0_first : Fld Z h0 o0 cn2 "first" "I" (.int (0 : Int32))) (F_o0_end : Fld Z h0 o0 cn2 "end" "I" (.int (2 : Int32))) (F_o0_starts : Fld Z h0 o0 cn2 "starts" "[J" (.ref o4)) (V_o4 : Arv Z h0 o4 kk_o4 .long (2 : Int32) [(.long y5), (.long y6)] (.long (0 : Int64))) (hq4 : y1 < (y5 / (1000000000 : Int64))) :
    MetFree l mn4 (head1 (Jvm.Cond.code mn4 prog_23_method_2_code 7 none :: ws) ({ frames := 0, cells := 0, slots := 0, locals := 0 } : Room)) (fun a U => a = #[(.ref o0), (.long y1), (.long y2), (.long y3)] ∧ Z.Warmed39 U.vm ∧ U.heap = h0) (fun _ _ _ _ _ => True) (fun _ U oc_ U' => ∃ v L, oc_ = .returned v ∧ QA26 Z o0 y1 y2 y3 o4 y5 y6 kk_o4 h0 n0 v U'.heap L ∧ FrameEnd U oc_ U' L ({ frames := 0, cells := 0, slots := 0, locals := 0 } : Room).cells ({ frames := 0, cells := 0, slots := 0, locals := 0 } : Room).slots) := by
  refine MetFree.of_bodySF (plainFor_of_name pn_com_example_strict_limiter_strictlimiter_KeptWindows) hisR ?_
  intro p e s m args below meth c s₁ Bd hml0 hP hK
  obtain ⟨rfl, hZ, hh⟩ := hP
  have hx := Bd.exec
  have hby := Bd.bytes
  have hml : c.maxLocals = 7 := hml0
  have hown : s.vm.findClass cn2 = some m.cls := findClass_of_methodNamed Bd.named
  have hnm := (name_of_methodNamed Bd.named Bd.method).1
  have X0 : Stand p l e ({ frames := 0, cells := 0, slots := 0, locals := 0 } : Room) s m #[(.ref o0), (.long y1), (.long y2), (.long y3)] below meth c s₁ [] 0 0 := Stand.of_body Bd
  have e0 : s₁.heap = h0 := by rw [← hh, Bd.state]; rfl
  have N0 := Fr.nil n0
  have pre0 : ∀ t, Steps p.tables e below (s₁.setTop (mkF m 0 #[.val (.ref o0), .val (.long y1), .second, .val (.long y2), .second, .val (.long y3), .second] [])) t → Steps p.tables e below (s₁.setTop (entryFrame m #[(.ref o0), (.long y1), (.long y2), (.long y3)] 7)) t := fun t k => castTop (efa_prog_23_method_2_code_vvvv m o0 y1 y2 y3) k
  obtain ⟨T1, X1, e1, st1⟩ := getF X0 hx hZ hown (host := "") (Or.inl (wd25 hw)) Via.refl e0 F_o0_first (g := (mkF m 1 #[.val (.ref o0), .val (.long y1), .second, .val (.long y2), .second, .val (.long y3), .second] [(.ref o0)])) rfl rfl (hb hby dd_prog_23_method_2_code_1)
  obtain ⟨T2, X2, e2, st2⟩ := getF X1 hx hZ hown (host := "") (Or.inl (wd27 hw)) Via.refl e1 F_o0_end (g := (mkF m 5 #[.val (.ref o0), .val (.long y1), .second, .val (.long y2), .second, .val (.long y3), .second] [(.ref o0), (.int (0 : Int32))])) rfl rfl (hb hby dd_prog_23_method_2_code_5)
  obtain ⟨T3, X3, e3, st3⟩ := getF X2 hx hZ hown (host := "") (Or.inl (wd12 hw)) Via.refl e2 F_o0_starts (g := (mkF m 12 #[.val (.ref o0), .val (.long y1), .second, .val (.long y2), .second, .val (.long y3), .second] [(.ref o0)])) rfl rfl (hb hby dd_prog_23_method_2_code_12)
  obtain ⟨T4, X4, e4, st4⟩ := getF X3 hx hZ hown (host := "") (Or.inl (wd25 hw)) Via.refl e3 F_o0_first (g := (mkF m 16 #[.val (.ref o0), .val (.long y1), .second, .val (.long y2), .second, .val (.long y3), .second] [(.ref o0), (.ref o4)])) rfl rfl (hb hby dd_prog_23_method_2_code_16)
  obtain ⟨cl5, Ar5, q5, S5, M5, HH5, GG5⟩ := id V_o4
  have hin5 : ¬ ((0 : Int32) < 0 ∨ cl5.slots.size ≤ ((0 : Int32)).toNatClampNeg) := inb_of S5 ⟨by decide, by decide⟩
  have hat5 : cl5.slots[((0 : Int32)).toNatClampNeg]? = some (.long y5) := Has.at HH5 hin5 rfl
  obtain ⟨lfs, lhr, lhrun, lhended, lhW, lhsame⟩ := X4.leave (v := none) (fun _ => rfl)
  refine ⟨_, _, pre0 _ ?_, lhrun, lhended, _, _, rfl, ?_, ⟨_, rfl⟩, lhW, lhsame.mono (by decide) (by decide)⟩
  · skip
    show Steps p.tables e below (s₁.setTop (mkF m 0 #[.val (.ref o0), .val (.long y1), .second, .val (.long y2), .second, .val (.long y3), .second] [])) _
    refine XS.aloadN X0.here hx rfl (hb hby dd_prog_23_method_2_code_0) rfl rfl ?_
    show Steps p.tables e below (s₁.setTop (mkF m 1 #[.val (.ref o0), .val (.long y1), .second, .val (.long y2), .second, .val (.long y3), .second] [(.ref o0)])) _
    refine st1 _ ?_
    show Steps p.tables e below (T1.setTop (mkF m 4 #[.val (.ref o0), .val (.long y1), .second, .val (.long y2), .second, .val (.long y3), .second] [(.int (0 : Int32))])) _
    refine XS.aloadN X1.here hx rfl (hb hby dd_prog_23_method_2_code_4) rfl rfl ?_
    show Steps p.tables e below (T1.setTop (mkF m 5 #[.val (.ref o0), .val (.long y1), .second, .val (.long y2), .second, .val (.long y3), .second] [(.ref o0), (.int (0 : Int32))])) _
    refine st2 _ ?_
    show Steps p.tables e below (T2.setTop (mkF m 8 #[.val (.ref o0), .val (.long y1), .second, .val (.long y2), .second, .val (.long y3), .second] [(.int (2 : Int32)), (.int (0 : Int32))])) _
    refine XS.icmpNo X2.here hx rfl (hb hby dd_prog_23_method_2_code_8) rfl (tlt (by decide : (0 : Int32) < (2 : Int32))).2.1 ?_
    show Steps p.tables e below (T2.setTop (mkF m 11 #[.val (.ref o0), .val (.long y1), .second, .val (.long y2), .second, .val (.long y3), .second] [])) _
    refine XS.aloadN X2.here hx rfl (hb hby dd_prog_23_method_2_code_11) rfl rfl ?_
    show Steps p.tables e below (T2.setTop (mkF m 12 #[.val (.ref o0), .val (.long y1), .second, .val (.long y2), .second, .val (.long y3), .second] [(.ref o0)])) _
    refine st3 _ ?_
    show Steps p.tables e below (T3.setTop (mkF m 15 #[.val (.ref o0), .val (.long y1), .second, .val (.long y2), .second, .val (.long y3), .second] [(.ref o4)])) _
    refine XS.aloadN X3.here hx rfl (hb hby dd_prog_23_method_2_code_15) rfl rfl ?_
    show Steps p.tables e below (T3.setTop (mkF m 16 #[.val (.ref o0), .val (.long y1), .second, .val (.long y2), .second, .val (.long y3), .second] [(.ref o0), (.ref o4)])) _
    refine st4 _ ?_
    show Steps p.tables e below (T4.setTop (mkF m 19 #[.val (.ref o0), .val (.long y1), .second, .val (.long y2), .second, .val (.long y3), .second] [(.int (0 : Int32)), (.ref o4)])) _
    refine X4.laload hx (j := (0 : Int32)) (v := (.long y5)) (by (try rw [e4]); exact Ar5.1) (State.isArrayOf_alike hZ.alike Ar5.2.1) Ar5.2.2 hin5 hat5 (g := (mkF m 19 #[.val (.ref o0), .val (.long y1), .second, .val (.long y2), .second, .val (.long y3), .second] [(.int (0 : Int32)), (.ref o4)])) rfl rfl (hb hby dd_prog_23_method_2_code_19) _ ?_
    refine X4.ldc2Long hx hown (mvT hZ (wd69 hw)) (g := (mkF m 20 #[.val (.ref o0), .val (.long y1), .second, .val (.long y2), .second, .val (.long y3), .second] [(.long y5)])) rfl (hb hby dd_prog_23_method_2_code_20) _ ?_
    show Steps p.tables e below (T4.setTop (mkF m 23 #[.val (.ref o0), .val (.long y1), .second, .val (.long y2), .second, .val (.long y3), .second] [(.long (1000000000 : Int64)), (.long y5)])) _
    refine XS.ldiv X4.here hx rfl (hb hby dd_prog_23_method_2_code_23) rfl (by decide) ?_
    refine XS.lloadN X4.here hx rfl (hb hby dd_prog_23_method_2_code_24) rfl ?_
    refine XS.lcmp X4.here hx rfl (hb hby dd_prog_23_method_2_code_25) rfl ?_
    show Steps p.tables e below (T4.setTop (mkF m 26 #[.val (.ref o0), .val (.long y1), .second, .val (.long y2), .second, .val (.long y3), .second] [(.int (lcmpW (y5 / (1000000000 : Int64)) y1))])) _
    refine XS.ifYes X4.here hx rfl (pc0 := 26) (pc' := 59) rfl (hb hby dd_prog_23_method_2_code_26) rfl ((if0 _ _).trans (tlt ((lw_gt (y5 / (1000000000 : Int64)) y1).mpr hq4)).2.2.1) (by decide) (by decide) ?_
    show Steps p.tables e below (T4.setTop (mkF m 59 #[.val (.ref o0), .val (.long y1), .second, .val (.long y2), .second, .val (.long y3), .second] [])) _
    exact X4.returnOut hx Bd.returns (hb hby dd_prog_23_method_2_code_59) lhr
  · skip
    show QA26 Z o0 y1 y2 y3 o4 y5 y6 kk_o4 h0 n0 _ T4.heap _
    rw [e4]
    exact ⟨rfl, N0, rfl⟩
theorem efa_prog_23_method_3_code_v (m : MethodId) (x0 : Addr) : entryFrame m #[(.ref x0)] 1 = mkF m 0 #[.val (.ref x0)] [] := by first | (simp [entryFrame, mkF, argsToLocals, Value.category]; done) | rfl
theorem dd_prog_23_method_3_code_0 : decode prog_23_method_3_code 0 = .ok (.aload_n 0, 1) := by decide +kernel
theorem dd_prog_23_method_3_code_1 : decode prog_23_method_3_code 1 = .ok (.getfield 26, 3) := by decide +kernel
theorem dd_prog_23_method_3_code_4 : decode prog_23_method_3_code 4 = .ok (.aload_n 0, 1) := by decide +kernel
theorem dd_prog_23_method_3_code_5 : decode prog_23_method_3_code 5 = .ok (.getfield 29, 3) := by decide +kernel
theorem dd_prog_23_method_3_code_8 : decode prog_23_method_3_code 8 = .ok (.if_icmp .ge 15, 3) := by decide +kernel
theorem dd_prog_23_method_3_code_11 : decode prog_23_method_3_code 11 = .ok (.aload_n 0, 1) := by decide +kernel
theorem dd_prog_23_method_3_code_12 : decode prog_23_method_3_code 12 = .ok (.getfield 13, 3) := by decide +kernel
theorem dd_prog_23_method_3_code_15 : decode prog_23_method_3_code 15 = .ok (.aload_n 0, 1) := by decide +kernel
theorem dd_prog_23_method_3_code_16 : decode prog_23_method_3_code 16 = .ok (.getfield 26, 3) := by decide +kernel
theorem dd_prog_23_method_3_code_19 : decode prog_23_method_3_code 19 = .ok (.laload, 1) := by decide +kernel
theorem dd_prog_23_method_3_code_20 : decode prog_23_method_3_code 20 = .ok (.goto 6, 3) := by decide +kernel
theorem dd_prog_23_method_3_code_26 : decode prog_23_method_3_code 26 = .ok (.lreturn, 1) := by decide +kernel
def QA27 (Z : State) (o0 : Addr) (o1 : Addr) (y2 : Int64) (y3 : Int64) (kk_o1 : ClassId) (h0 : Heap) (n0 : Nat) (v : Option Value) (h : Heap) (L : List Loc) : Prop := v = some (.long y2) ∧ Fr n0 L ∧ h = h0
set_option maxRecDepth 65536 in
set_option maxHeartbeats 40000000 in
theorem rmA27 (l : Launch) (Z : State) (a0 : Array Value) (hw : ∀ d ∈ tables_1, d.before a0 Z = true) (ws : List Jvm.Cond) (o0 : Addr) (o1 : Addr) (y2 : Int64) (y3 : Int64) (kk_o1 : ClassId) (h0 : Heap) (n0 : Nat) (Z0 : n0 ≤ h0.size) (F_o0_first : Fld Z h0 o0 cn2 "first" "I" (.int (0 : Int32))) (F_o0_end : Fld Z h0 o0 cn2 "end" "I" (.int (2 : Int32))) (F_o0_starts : Fld Z h0 o0 cn2 "starts" "[J" (.ref o1)) (V_o1 : Arv Z h0 o1 kk_o1 .long (2 : Int32) [(.long y2), (.long y3)] (.long (0 : Int64))) :
    MetFree l mn3 (head1 (Jvm.Cond.code mn3 prog_23_method_3_code 1 (some .long) :: ws) ({ frames := 0, cells := 0, slots := 0, locals := 0 } : Room)) (fun a U => a = #[(.ref o0)] ∧ Z.Warmed39 U.vm ∧ U.heap = h0) (fun _ _ _ _ _ => True) (fun _ U oc_ U' => ∃ v L, oc_ = .returned v ∧ QA27 Z o0 o1 y2 y3 kk_o1 h0 n0 v U'.heap L ∧ FrameEnd U oc_ U' L ({ frames := 0, cells := 0, slots := 0, locals := 0 } : Room).cells ({ frames := 0, cells := 0, slots := 0, locals := 0 } : Room).slots) := by
  refine MetFree.of_bodySF (plainFor_of_name pn_com_example_strict_limiter_strictlimiter_KeptWindows) hisR ?_
  intro p e s m args below meth c s₁ Bd hml0 hP hK
  obtain ⟨rfl, hZ, hh⟩ := hP
  have hx := Bd.exec
  have hby := Bd.bytes
  have hml : c.maxLocals = 1 := hml0
  have hown : s.vm.findClass cn2 = some m.cls := findClass_of_methodNamed Bd.named
  have hnm := (name_of_methodNamed Bd.named Bd.method).1
  have X0 : Stand p l e ({ frames := 0, cells := 0, slots := 0, locals := 0 } : Room) s m #[(.ref o0)] below meth c s₁ [] 0 0 := Stand.of_body Bd
  have e0 : s₁.heap = h0 := by rw [← hh, Bd.state]; rfl
  have N0 := Fr.nil n0
  have pre0 : ∀ t, Steps p.tables e below (s₁.setTop (mkF m 0 #[.val (.ref o0)] [])) t → Steps p.tables e below (s₁.setTop (entryFrame m #[(.ref o0)] 1)) t := fun t k => castTop (efa_prog_23_method_3_code_v m o0) k
  obtain ⟨T1, X1, e1, st1⟩ := getF X0 hx hZ hown (host := "") (Or.inl (wd25 hw)) Via.refl e0 F_o0_first (g := (mkF m 1 #[.val (.ref o0)] [(.ref o0)])) rfl rfl (hb hby dd_prog_23_method_3_code_1)
  obtain ⟨T2, X2, e2, st2⟩ := getF X1 hx hZ hown (host := "") (Or.inl (wd27 hw)) Via.refl e1 F_o0_end (g := (mkF m 5 #[.val (.ref o0)] [(.ref o0), (.int (0 : Int32))])) rfl rfl (hb hby dd_prog_23_method_3_code_5)
  obtain ⟨T3, X3, e3, st3⟩ := getF X2 hx hZ hown (host := "") (Or.inl (wd12 hw)) Via.refl e2 F_o0_starts (g := (mkF m 12 #[.val (.ref o0)] [(.ref o0)])) rfl rfl (hb hby dd_prog_23_method_3_code_12)
  obtain ⟨T4, X4, e4, st4⟩ := getF X3 hx hZ hown (host := "") (Or.inl (wd25 hw)) Via.refl e3 F_o0_first (g := (mkF m 16 #[.val (.ref o0)] [(.ref o0), (.ref o1)])) rfl rfl (hb hby dd_prog_23_method_3_code_16)
  obtain ⟨cl5, Ar5, q5, S5, M5, HH5, GG5⟩ := id V_o1
  have hin5 : ¬ ((0 : Int32) < 0 ∨ cl5.slots.size ≤ ((0 : Int32)).toNatClampNeg) := inb_of S5 ⟨by decide, by decide⟩
  have hat5 : cl5.slots[((0 : Int32)).toNatClampNeg]? = some (.long y2) := Has.at HH5 hin5 rfl
  obtain ⟨lfs, lhr, lhrun, lhended, lhW, lhsame⟩ := X4.leave (v := some (.long y2)) (fun h => by rw [Bd.returns] at h; cases h)
  refine ⟨_, _, pre0 _ ?_, lhrun, lhended, _, _, rfl, ?_, ⟨_, rfl⟩, lhW, lhsame.mono (by decide) (by decide)⟩
  · skip
    show Steps p.tables e below (s₁.setTop (mkF m 0 #[.val (.ref o0)] [])) _
    refine XS.aloadN X0.here hx rfl (hb hby dd_prog_23_method_3_code_0) rfl rfl ?_
    show Steps p.tables e below (s₁.setTop (mkF m 1 #[.val (.ref o0)] [(.ref o0)])) _
    refine st1 _ ?_
    show Steps p.tables e below (T1.setTop (mkF m 4 #[.val (.ref o0)] [(.int (0 : Int32))])) _
    refine XS.aloadN X1.here hx rfl (hb hby dd_prog_23_method_3_code_4) rfl rfl ?_
    show Steps p.tables e below (T1.setTop (mkF m 5 #[.val (.ref o0)] [(.ref o0), (.int (0 : Int32))])) _
    refine st2 _ ?_
    show Steps p.tables e below (T2.setTop (mkF m 8 #[.val (.ref o0)] [(.int (2 : Int32)), (.int (0 : Int32))])) _
    refine XS.icmpNo X2.here hx rfl (hb hby dd_prog_23_method_3_code_8) rfl (tlt (by decide : (0 : Int32) < (2 : Int32))).2.1 ?_
    show Steps p.tables e below (T2.setTop (mkF m 11 #[.val (.ref o0)] [])) _
    refine XS.aloadN X2.here hx rfl (hb hby dd_prog_23_method_3_code_11) rfl rfl ?_
    show Steps p.tables e below (T2.setTop (mkF m 12 #[.val (.ref o0)] [(.ref o0)])) _
    refine st3 _ ?_
    show Steps p.tables e below (T3.setTop (mkF m 15 #[.val (.ref o0)] [(.ref o1)])) _
    refine XS.aloadN X3.here hx rfl (hb hby dd_prog_23_method_3_code_15) rfl rfl ?_
    show Steps p.tables e below (T3.setTop (mkF m 16 #[.val (.ref o0)] [(.ref o0), (.ref o1)])) _
    refine st4 _ ?_
    show Steps p.tables e below (T4.setTop (mkF m 19 #[.val (.ref o0)] [(.int (0 : Int32)), (.ref o1)])) _
    refine X4.laload hx (j := (0 : Int32)) (v := (.long y2)) (by (try rw [e4]); exact Ar5.1) (State.isArrayOf_alike hZ.alike Ar5.2.1) Ar5.2.2 hin5 hat5 (g := (mkF m 19 #[.val (.ref o0)] [(.int (0 : Int32)), (.ref o1)])) rfl rfl (hb hby dd_prog_23_method_3_code_19) _ ?_
    refine XS.goto X4.here hx rfl (pc0 := 20) (pc' := 26) rfl (hb hby dd_prog_23_method_3_code_20) (by decide) (by decide) ?_
    show Steps p.tables e below (T4.setTop (mkF m 26 #[.val (.ref o0)] [(.long y2)])) _
    exact retOut X4 hx Bd.returns rfl (Or.inr (Or.inl ⟨rfl, rfl, _, rfl⟩)) (hb hby dd_prog_23_method_3_code_26) lhr
  · skip
    show QA27 Z o0 o1 y2 y3 kk_o1 h0 n0 _ T4.heap _
    rw [e4]
    exact ⟨rfl, N0, rfl⟩
theorem efa_prog_23_method_4_code_vvv (m : MethodId) (x0 : Addr) (x1 : Int64) (x2 : Int32) : entryFrame m #[(.ref x0), (.long x1), (.int x2)] 5 = mkF m 0 #[.val (.ref x0), .val (.long x1), .second, .val (.int x2), .unset] [] := by first | (simp [entryFrame, mkF, argsToLocals, Value.category]; done) | rfl
theorem dd_prog_23_method_4_code_0 : decode prog_23_method_4_code 0 = .ok (.aload_n 0, 1) := by decide +kernel
theorem dd_prog_23_method_4_code_1 : decode prog_23_method_4_code 1 = .ok (.getfield 13, 3) := by decide +kernel
theorem dd_prog_23_method_4_code_4 : decode prog_23_method_4_code 4 = .ok (.aload_n 0, 1) := by decide +kernel
theorem dd_prog_23_method_4_code_5 : decode prog_23_method_4_code 5 = .ok (.getfield 26, 3) := by decide +kernel
theorem dd_prog_23_method_4_code_8 : decode prog_23_method_4_code 8 = .ok (.aload_n 0, 1) := by decide +kernel
theorem dd_prog_23_method_4_code_9 : decode prog_23_method_4_code 9 = .ok (.getfield 29, 3) := by decide +kernel
theorem dd_prog_23_method_4_code_12 : decode prog_23_method_4_code 12 = .ok (.lload_n 1, 1) := by decide +kernel
theorem dd_prog_23_method_4_code_13 : decode prog_23_method_4_code 13 = .ok (.invokestatic 38, 3) := by decide +kernel
def QA30 (Z : State)  (h0 : Heap) (n0 : Nat) (v : Option Value) (h : Heap) (L : List Loc) : Prop := v = none ∧ Fr n0 L ∧ h = h0
set_option maxRecDepth 65536 in
set_option maxHeartbeats 40000000 in
theorem rmA30 (l : Launch) (Z : State) (a0 : Array Value) (hw : ∀ d ∈ tables_1, d.before a0 Z = true) (ws : List Jvm.Cond)  (h0 : Heap) (n0 : Nat) (Z0 : n0 ≤ h0.size) :
    MetFree l mn12 (head1 (Jvm.Cond.code mn12 jdk_65_method_30_code 3 none :: ws) ({ frames := 0, cells := 0, slots := 0, locals := 0 } : Room)) (fun a U => a = #[(.int (2 : Int32)), (.int (0 : Int32)), (.int (2 : Int32))] ∧ Z.Warmed39 U.vm ∧ U.heap = h0) (fun _ _ _ _ _ => True) (fun _ U oc_ U' => ∃ v L, oc_ = .returned v ∧ QA30 Z  h0 n0 v U'.heap L ∧ FrameEnd U oc_ U' L ({ frames := 0, cells := 0, slots := 0, locals := 0 } : Room).cells ({ frames := 0, cells := 0, slots := 0, locals := 0 } : Room).slots) := by
  refine MetFree.of_bodySF (plainFor_of_name pn_java_util_Arrays) hisR ?_
  intro p e s m args below meth c s₁ Bd hml0 hP hK
  obtain ⟨rfl, hZ, hh⟩ := hP
  have hx := Bd.exec
  have hby := Bd.bytes
  have hml : c.maxLocals = 3 := hml0
  have hown : s.vm.findClass "java/util/Arrays" = some m.cls := findClass_of_methodNamed Bd.named
  have hnm := (name_of_methodNamed Bd.named Bd.method).1
  have X0 : Stand p l e ({ frames := 0, cells := 0, slots := 0, locals := 0 } : Room) s m #[(.int (2 : Int32)), (.int (0 : Int32)), (.int (2 : Int32))] below meth c s₁ [] 0 0 := Stand.of_body Bd
  have e0 : s₁.heap = h0 := by rw [← hh, Bd.state]; rfl
  have N0 := Fr.nil n0
  have pre0 : ∀ t, Steps p.tables e below (s₁.setTop (mkF m 0 #[.val (.int (2 : Int32)), .val (.int (0 : Int32)), .val (.int (2 : Int32))] [])) t → Steps p.tables e below (s₁.setTop (entryFrame m #[(.int (2 : Int32)), (.int (0 : Int32)), (.int (2 : Int32))] 3)) t := fun t k => castTop (efa_jdk_65_method_30_code_vvv m (2 : Int32) (0 : Int32) (2 : Int32)) k
  obtain ⟨lfs, lhr, lhrun, lhended, lhW, lhsame⟩ := X0.leave (v := none) (fun _ => rfl)
  refine ⟨_, _, pre0 _ ?_, lhrun, lhended, _, _, rfl, ?_, ⟨_, rfl⟩, lhW, lhsame.mono (by decide) (by decide)⟩
  · skip
    show Steps p.tables e below (s₁.setTop (mkF m 0 #[.val (.int (2 : Int32)), .val (.int (0 : Int32)), .val (.int (2 : Int32))] [])) _
    refine XS.iloadN X0.here hx rfl (hb hby dd_jdk_65_method_30_code_0) rfl ?_
    refine XS.iloadN X0.here hx rfl (hb hby dd_jdk_65_method_30_code_1) rfl ?_
    show Steps p.tables e below (s₁.setTop (mkF m 2 #[.val (.int (2 : Int32)), .val (.int (0 : Int32)), .val (.int (2 : Int32))] [(.int (2 : Int32)), (.int (0 : Int32))])) _
    refine XS.icmpYes X0.here hx rfl (pc0 := 2) (pc' := 46) rfl (hb hby dd_jdk_65_method_30_code_2) rfl (flt (by decide : ¬ ((2 : Int32) < (0 : Int32)))).2.2.2 (by decide) (by decide) ?_
    refine XS.iloadN X0.here hx rfl (hb hby dd_jdk_65_method_30_code_46) rfl ?_
    refine XS.ifYes X0.here hx rfl (pc0 := 47) (pc' := 59) rfl (hb hby dd_jdk_65_method_30_code_47) rfl ((if0 _ _).trans (flt (by decide : ¬ ((0 : Int32) < (0 : Int32)))).2.1) (by decide) (by decide) ?_
    show Steps p.tables e below (s₁.setTop (mkF m 59 #[.val (.int (2 : Int32)), .val (.int (0 : Int32)), .val (.int (2 : Int32))] [])) _
    refine XS.iloadN X0.here hx rfl (hb hby dd_jdk_65_method_30_code_59) rfl ?_
    refine XS.iloadN X0.here hx rfl (hb hby dd_jdk_65_method_30_code_60) rfl ?_
    refine XS.icmpYes X0.here hx rfl (pc0 := 61) (pc' := 73) rfl (hb hby dd_jdk_65_method_30_code_61) rfl (flt (by decide : ¬ ((2 : Int32) < (2 : Int32)))).2.2.2 (by decide) (by decide) ?_
    show Steps p.tables e below (s₁.setTop (mkF m 73 #[.val (.int (2 : Int32)), .val (.int (0 : Int32)), .val (.int (2 : Int32))] [])) _
    exact X0.returnOut hx Bd.returns (hb hby dd_jdk_65_method_30_code_73) lhr
  · skip
    show QA30 Z  h0 n0 _ s₁.heap _
    rw [e0]
    exact ⟨rfl, N0, rfl⟩
theorem dd_jdk_65_method_56_code_46 : decode jdk_65_method_56_code 46 = .ok (.lload 8, 2) := by decide +kernel
theorem dd_jdk_65_method_56_code_48 : decode jdk_65_method_56_code 48 = .ok (.lload_n 3, 1) := by decide +kernel
theorem dd_jdk_65_method_56_code_49 : decode jdk_65_method_56_code 49 = .ok (.lcmp, 1) := by decide +kernel
theorem dd_jdk_65_method_56_code_50 : decode jdk_65_method_56_code 50 = .ok (.ifCond .le 12, 3) := by decide +kernel
theorem dd_jdk_65_method_56_code_62 : decode jdk_65_method_56_code 62 = .ok (.iload 7, 2) := by decide +kernel
theorem dd_jdk_65_method_56_code_64 : decode jdk_65_method_56_code 64 = .ok (.ireturn, 1) := by decide +kernel
def QA31 (Z : State) (o0 : Addr) (y1 : Int64) (y2 : Int64) (kk_o0 : ClassId) (h0 : Heap) (n0 : Nat) (v : Option Value) (h : Heap) (L : List Loc) : Prop := v = some (.int (0 : Int32)) ∧ Fr n0 L ∧ h = h0
set_option maxRecDepth 65536 in
set_option maxHeartbeats 40000000 in
theorem rmA31 (l : Launch) (Z : State) (a0 : Array Value) (hw : ∀ d ∈ tables_1, d.before a0 Z = true) (ws : List Jvm.Cond) (o0 : Addr) (y1 : Int64) (y2 : Int64) (kk_o0 : ClassId) (h0 : Heap) (n0 : Nat) (Z0 : n0 ≤ h0.size) (V_o0 : Arv Z h0 o0 kk_o0 .long (2 : Int32) [(.long y1), (.long y2)] (.long (0 : Int64))) :
    MetFree l mn10 (head1 (Jvm.Cond.code mn10 jdk_65_method_56_code 10 (some .int) :: ws) ({ frames := 0, cells := 0, slots := 0, locals := 0 } : Room)) (fun a U => a = #[(.ref o0), (.int (0 : Int32)), (.int (2 : Int32)), (.long y1)] ∧ Z.Warmed39 U.vm ∧ U.heap = h0) (fun _ _ _ _ _ => True) (fun _ U oc_ U' => ∃ v L, oc_ = .returned v ∧ QA31 Z o0 y1 y2 kk_o0 h0 n0 v U'.heap L ∧ FrameEnd U oc_ U' L ({ frames := 0, cells := 0, slots := 0, locals := 0 } : Room).cells ({ frames := 0, cells := 0, slots := 0, locals := 0 } : Room).slots) := by
  refine MetFree.of_bodySF (plainFor_of_name pn_java_util_Arrays) hisR ?_
  intro p e s m args below meth c s₁ Bd hml0 hP hK
  obtain ⟨rfl, hZ, hh⟩ := hP
  have hx := Bd.exec
  have hby := Bd.bytes
  have hml : c.maxLocals = 10 := hml0
  have hown : s.vm.findClass "java/util/Arrays" = some m.cls := findClass_of_methodNamed Bd.named
  have hnm := (name_of_methodNamed Bd.named Bd.method).1
  have X0 : Stand p l e ({ frames := 0, cells := 0, slots := 0, locals := 0 } : Room) s m #[(.ref o0), (.int (0 : Int32)), (.int (2 : Int32)), (.long y1)] below meth c s₁ [] 0 0 := Stand.of_body Bd
  have e0 : s₁.heap = h0 := by rw [← hh, Bd.state]; rfl
  have N0 := Fr.nil n0
  have pre0 : ∀ t, Steps p.tables e below (s₁.setTop (mkF m 0 #[.val (.ref o0), .val (.int (0 : Int32)), .val (.int (2 : Int32)), .val (.long y1), .second, .unset, .unset, .unset, .unset, .unset] [])) t → Steps p.tables e below (s₁.setTop (entryFrame m #[(.ref o0), (.int (0 : Int32)), (.int (2 : Int32)), (.long y1)] 10)) t := fun t k => castTop (efa_jdk_65_method_56_code_vvvv m o0 (0 : Int32) (2 : Int32) y1) k
  obtain ⟨cl1, Ar1, q1, S1, M1, HH1, GG1⟩ := id V_o0
  have hin1 : ¬ ((0 : Int32) < 0 ∨ cl1.slots.size ≤ ((0 : Int32)).toNatClampNeg) := inb_of S1 ⟨by decide, by decide⟩
  have hat1 : cl1.slots[((0 : Int32)).toNatClampNeg]? = some (.long y1) := Has.at HH1 hin1 rfl
  obtain ⟨lfs, lhr, lhrun, lhended, lhW, lhsame⟩ := X0.leave (v := some (.int (0 : Int32))) (fun h => by rw [Bd.returns] at h; cases h)
  refine ⟨_, _, pre0 _ ?_, lhrun, lhended, _, _, rfl, ?_, ⟨_, rfl⟩, lhW, lhsame.mono (by decide) (by decide)⟩
  · skip
    show Steps p.tables e below (s₁.setTop (mkF m 0 #[.val (.ref o0), .val (.int (0 : Int32)), .val (.int (2 : Int32)), .val (.long y1), .second, .unset, .unset, .unset, .unset, .unset] [])) _
    refine XS.iloadN X0.here hx rfl (hb hby dd_jdk_65_method_56_code_0) rfl ?_
    refine XS.istore X0.here hx rfl (hb hby dd_jdk_65_method_56_code_1) rfl (l' := #[.val (.ref o0), .val (.int (0 : Int32)), .val (.int (2 : Int32)), .val (.long y1), .second, .val (.int (0 : Int32)), .unset, .unset, .unset, .unset]) rfl ?_
    show Steps p.tables e below (s₁.setTop (mkF m 3 #[.val (.ref o0), .val (.int (0 : Int32)), .val (.int (2 : Int32)), .val (.long y1), .second, .val (.int (0 : Int32)), .unset, .unset, .unset, .unset] [])) _
    refine XS.iloadN X0.here hx rfl (hb hby dd_jdk_65_method_56_code_3) rfl ?_
    refine XS.iconst X0.here hx rfl (hb hby dd_jdk_65_method_56_code_4) ?_
    refine XS.isub X0.here hx rfl (hb hby dd_jdk_65_method_56_code_5) rfl ?_
    show Steps p.tables e below (s₁.setTop (mkF m 6 #[.val (.ref o0), .val (.int (0 : Int32)), .val (.int (2 : Int32)), .val (.long y1), .second, .val (.int (0 : Int32)), .unset, .unset, .unset, .unset] [(.int (1 : Int32))])) _
    refine XS.istore X0.here hx rfl (hb hby dd_jdk_65_method_56_code_6) rfl (l' := #[.val (.ref o0), .val (.int (0 : Int32)), .val (.int (2 : Int32)), .val (.long y1), .second, .val (.int (0 : Int32)), .val (.int (1 : Int32)), .unset, .unset, .unset]) rfl ?_
    refine XS.iload X0.here hx rfl (hb hby dd_jdk_65_method_56_code_8) rfl ?_
    refine XS.iload X0.here hx rfl (hb hby dd_jdk_65_method_56_code_10) rfl ?_
    show Steps p.tables e below (s₁.setTop (mkF m 12 #[.val (.ref o0), .val (.int (0 : Int32)), .val (.int (2 : Int32)), .val (.long y1), .second, .val (.int (0 : Int32)), .val (.int (1 : Int32)), .unset, .unset, .unset] [(.int (1 : Int32)), (.int (0 : Int32))])) _
    refine XS.icmpNo X0.here hx rfl (hb hby dd_jdk_65_method_56_code_12) rfl (flt (by decide : ¬ ((1 : Int32) < (0 : Int32)))).2.2.1 ?_
    refine XS.iload X0.here hx rfl (hb hby dd_jdk_65_method_56_code_15) rfl ?_
    refine XS.iload X0.here hx rfl (hb hby dd_jdk_65_method_56_code_17) rfl ?_
    show Steps p.tables e below (s₁.setTop (mkF m 19 #[.val (.ref o0), .val (.int (0 : Int32)), .val (.int (2 : Int32)), .val (.long y1), .second, .val (.int (0 : Int32)), .val (.int (1 : Int32)), .unset, .unset, .unset] [(.int (1 : Int32)), (.int (0 : Int32))])) _
    refine XS.iadd X0.here hx rfl (hb hby dd_jdk_65_method_56_code_19) rfl ?_
    refine XS.iconst X0.here hx rfl (hb hby dd_jdk_65_method_56_code_20) ?_
    refine XS.iushr X0.here hx rfl (hb hby dd_jdk_65_method_56_code_21) rfl ?_
    show Steps p.tables e below (s₁.setTop (mkF m 22 #[.val (.ref o0), .val (.int (0 : Int32)), .val (.int (2 : Int32)), .val (.long y1), .second, .val (.int (0 : Int32)), .val (.int (1 : Int32)), .unset, .unset, .unset] [(.int (0 : Int32))])) _
    refine XS.istore X0.here hx rfl (hb hby dd_jdk_65_method_56_code_22) rfl (l' := #[.val (.ref o0), .val (.int (0 : Int32)), .val (.int (2 : Int32)), .val (.long y1), .second, .val (.int (0 : Int32)), .val (.int (1 : Int32)), .val (.int (0 : Int32)), .unset, .unset]) rfl ?_
    refine XS.aloadN X0.here hx rfl (hb hby dd_jdk_65_method_56_code_24) rfl rfl ?_
    refine XS.iload X0.here hx rfl (hb hby dd_jdk_65_method_56_code_25) rfl ?_
    show Steps p.tables e below (s₁.setTop (mkF m 27 #[.val (.ref o0), .val (.int (0 : Int32)), .val (.int (2 : Int32)), .val (.long y1), .second, .val (.int (0 : Int32)), .val (.int (1 : Int32)), .val (.int (0 : Int32)), .unset, .unset] [(.int (0 : Int32)), (.ref o0)])) _
    refine X0.laload hx (j := (0 : Int32)) (v := (.long y1)) (by (try rw [e0]); exact Ar1.1) (State.isArrayOf_alike hZ.alike Ar1.2.1) Ar1.2.2 hin1 hat1 (g := (mkF m 27 #[.val (.ref o0), .val (.int (0 : Int32)), .val (.int (2 : Int32)), .val (.long y1), .second, .val (.int (0 : Int32)), .val (.int (1 : Int32)), .val (.int (0 : Int32)), .unset, .unset] [(.int (0 : Int32)), (.ref o0)])) rfl rfl (hb hby dd_jdk_65_method_56_code_27) _ ?_
    refine XS.lstore X0.here hx rfl (hb hby dd_jdk_65_method_56_code_28) rfl (l' := #[.val (.ref o0), .val (.int (0 : Int32)), .val (.int (2 : Int32)), .val (.long y1), .second, .val (.int (0 : Int32)), .val (.int (1 : Int32)), .val (.int (0 : Int32)), .val (.long y1), .second]) rfl ?_
    refine XS.lload X0.here hx rfl (hb hby dd_jdk_65_method_56_code_30) rfl ?_
    show Steps p.tables e below (s₁.setTop (mkF m 32 #[.val (.ref o0), .val (.int (0 : Int32)), .val (.int (2 : Int32)), .val (.long y1), .second, .val (.int (0 : Int32)), .val (.int (1 : Int32)), .val (.int (0 : Int32)), .val (.long y1), .second] [(.long y1)])) _
    refine XS.lloadN X0.here hx rfl (hb hby dd_jdk_65_method_56_code_32) rfl ?_
    refine XS.lcmp X0.here hx rfl (hb hby dd_jdk_65_method_56_code_33) rfl ?_
    refine XS.ifYes X0.here hx rfl (pc0 := 34) (pc' := 46) rfl (hb hby dd_jdk_65_method_56_code_34) rfl ((if0 _ _).trans (flt (fun q => (own_irr64 y1) ((lw_lt y1 y1).mp q))).2.1) (by decide) (by decide) ?_
    show Steps p.tables e below (s₁.setTop (mkF m 46 #[.val (.ref o0), .val (.int (0 : Int32)), .val (.int (2 : Int32)), .val (.long y1), .second, .val (.int (0 : Int32)), .val (.int (1 : Int32)), .val (.int (0 : Int32)), .val (.long y1), .second] [])) _
    refine XS.lload X0.here hx rfl (hb hby dd_jdk_65_method_56_code_46) rfl ?_
    refine XS.lloadN X0.here hx rfl (hb hby dd_jdk_65_method_56_code_48) rfl ?_
    refine XS.lcmp X0.here hx rfl (hb hby dd_jdk_65_method_56_code_49) rfl ?_
    show Steps p.tables e below (s₁.setTop (mkF m 50 #[.val (.ref o0), .val (.int (0 : Int32)), .val (.int (2 : Int32)), .val (.long y1), .second, .val (.int (0 : Int32)), .val (.int (1 : Int32)), .val (.int (0 : Int32)), .val (.long y1), .second] [(.int (lcmpW y1 y1))])) _
    refine XS.ifYes X0.here hx rfl (pc0 := 50) (pc' := 62) rfl (hb hby dd_jdk_65_method_56_code_50) rfl ((if0 _ _).trans (flt (fun q => (own_irr64 y1) ((lw_gt y1 y1).mp q))).2.2.2) (by decide) (by decide) ?_
    refine XS.iload X0.here hx rfl (hb hby dd_jdk_65_method_56_code_62) rfl ?_
    show Steps p.tables e below (s₁.setTop (mkF m 64 #[.val (.ref o0), .val (.int (0 : Int32)), .val (.int (2 : Int32)), .val (.long y1), .second, .val (.int (0 : Int32)), .val (.int (1 : Int32)), .val (.int (0 : Int32)), .val (.long y1), .second] [(.int (0 : Int32))])) _
    exact retI X0 hx Bd.returns (hb hby dd_jdk_65_method_56_code_64) lhr
  · skip
    show QA31 Z o0 y1 y2 kk_o0 h0 n0 _ s₁.heap _
    rw [e0]
    exact ⟨rfl, N0, rfl⟩
def QA29 (Z : State) (o0 : Addr) (y1 : Int64) (y2 : Int64) (kk_o0 : ClassId) (h0 : Heap) (n0 : Nat) (v : Option Value) (h : Heap) (L : List Loc) : Prop := v = some (.int (0 : Int32)) ∧ Fr n0 L ∧ h = h0
set_option maxRecDepth 65536 in
set_option maxHeartbeats 40000000 in
theorem rmA29 (l : Launch) (Z : State) (a0 : Array Value) (hw : ∀ d ∈ tables_1, d.before a0 Z = true) (ws : List Jvm.Cond) (o0 : Addr) (y1 : Int64) (y2 : Int64) (kk_o0 : ClassId) (h0 : Heap) (n0 : Nat) (Z0 : n0 ≤ h0.size) (V_o0 : Arv Z h0 o0 kk_o0 .long (2 : Int32) [(.long y1), (.long y2)] (.long (0 : Int64))) :
    MetFree l mn9 (head1 (Jvm.Cond.code mn9 jdk_65_method_55_code 5 (some .int) :: ws) ({ frames := 1, cells := 0, slots := 0, locals := 21 } : Room)) (fun a U => a = #[(.ref o0), (.int (0 : Int32)), (.int (2 : Int32)), (.long y1)] ∧ Z.Warmed39 U.vm ∧ U.heap = h0) (fun _ _ _ _ _ => True) (fun _ U oc_ U' => ∃ v L, oc_ = .returned v ∧ QA29 Z o0 y1 y2 kk_o0 h0 n0 v U'.heap L ∧ FrameEnd U oc_ U' L ({ frames := 1, cells := 0, slots := 0, locals := 21 } : Room).cells ({ frames := 1, cells := 0, slots := 0, locals := 21 } : Room).slots) := by
  refine MetFree.of_bodySF (plainFor_of_name pn_java_util_Arrays) hisR ?_
  intro p e s m args below meth c s₁ Bd hml0 hP hK
  obtain ⟨rfl, hZ, hh⟩ := hP
  have hx := Bd.exec
  have hby := Bd.bytes
  have hml : c.maxLocals = 5 := hml0
  have hown : s.vm.findClass "java/util/Arrays" = some m.cls := findClass_of_methodNamed Bd.named
  have hnm := (name_of_methodNamed Bd.named Bd.method).1
  have X0 : Stand p l e ({ frames := 1, cells := 0, slots := 0, locals := 21 } : Room) s m #[(.ref o0), (.int (0 : Int32)), (.int (2 : Int32)), (.long y1)] below meth c s₁ [] 0 0 := Stand.of_body Bd
  have e0 : s₁.heap = h0 := by rw [← hh, Bd.state]; rfl
  have N0 := Fr.nil n0
  have pre0 : ∀ t, Steps p.tables e below (s₁.setTop (mkF m 0 #[.val (.ref o0), .val (.int (0 : Int32)), .val (.int (2 : Int32)), .val (.long y1), .second] [])) t → Steps p.tables e below (s₁.setTop (entryFrame m #[(.ref o0), (.int (0 : Int32)), (.int (2 : Int32)), (.long y1)] 5)) t := fun t k => castTop (efa_jdk_65_method_55_code_vvvv m o0 (0 : Int32) (2 : Int32) y1) k
  obtain ⟨cl1, Ar1, -, S1, M1, -, -⟩ := id V_o0
  obtain ⟨_, _, ⟨T2, L2, kc2, ks2⟩, -, X2, ⟨Lc2, hQ2, l2, y2, z2⟩, st2⟩ := Jvm.LawKit.callS X0 hx (y := mn12) hown (mvT hZ (wd33 hw)) (mvT hZ (wd34 hw)) (mvT hZ (wd31 hw)) (mvT hZ (wd35 hw)) (by decide) (backOf (W := 0) (rmA30 l Z a0 hw []  h0 n0 Z0 ) hZ (wd35 hw) (wd31 hw) (by decide) (by decide)) (g := (mkF m 4 #[.val (.ref o0), .val (.int (0 : Int32)), .val (.int (2 : Int32)), .val (.long y1), .second] [(.int (2 : Int32)), (.int (0 : Int32)), (.int (2 : Int32))])) rfl (by rw [hml]; rfl) (argsL := [(.int (2 : Int32)), (.int (0 : Int32)), (.int (2 : Int32))]) (rest := []) (lenOf pd__III_V rfl) rfl (by show 2 * 0 + _ ≤ _; exact Nat.le_of_eq rfl) (hb hby dd_jdk_65_method_55_code_4) (fun _ _ => ⟨rfl, e0, (by decide : 0 + 0 ≤ _), (by decide : 0 + 0 ≤ _)⟩)
  dsimp only [Pt.U, Pt.locs, Pt.cells, Pt.slots] at X2 l2 y2 z2 st2 hQ2
  subst l2 y2 z2
  obtain ⟨rfl, Nq2, eq2⟩ := hQ2
  have N2 := Fr.app N0 Nq2
  obtain ⟨_, _, ⟨T3, L3, kc3, ks3⟩, -, X3, ⟨Lc3, hQ3, l3, y3, z3⟩, st3⟩ := Jvm.LawKit.callS X2 hx (y := mn10) hown (mvT hZ (wd36 hw)) (mvT hZ (wd37 hw)) (mvT hZ (wd31 hw)) (mvT hZ (wd38 hw)) (by decide) (backOf (W := 0) (rmA31 l Z a0 hw [] o0 y1 y2 _ h0 n0 Z0 V_o0) hZ (wd38 hw) (wd31 hw) (by decide) (by decide)) (g := (mkF m 11 #[.val (.ref o0), .val (.int (0 : Int32)), .val (.int (2 : Int32)), .val (.long y1), .second] [(.long y1), (.int (2 : Int32)), (.int (0 : Int32)), (.ref o0)])) rfl (by rw [hml]; rfl) (argsL := [(.ref o0), (.int (0 : Int32)), (.int (2 : Int32)), (.long y1)]) (rest := []) (lenOf pd___JIIJ_I rfl) rfl (by show 2 * 0 + _ ≤ _; exact Nat.le_of_eq rfl) (hb hby dd_jdk_65_method_55_code_11) (fun _ _ => ⟨rfl, eq2, (by decide : 0 + 0 ≤ _), (by decide : 0 + 0 ≤ _)⟩)
  dsimp only [Pt.U, Pt.locs, Pt.cells, Pt.slots] at X3 l3 y3 z3 st3 hQ3
  subst l3 y3 z3
  obtain ⟨rfl, Nq3, eq3⟩ := hQ3
  have N3 := Fr.app N2 Nq3
  obtain ⟨lfs, lhr, lhrun, lhended, lhW, lhsame⟩ := X3.leave (v := some (.int (0 : Int32))) (fun h => by rw [Bd.returns] at h; cases h)
  refine ⟨_, _, pre0 _ ?_, lhrun, lhended, _, _, rfl, ?_, ⟨_, rfl⟩, lhW, lhsame.mono (by decide) (by decide)⟩
  · skip
    show Steps p.tables e below (s₁.setTop (mkF m 0 #[.val (.ref o0), .val (.int (0 : Int32)), .val (.int (2 : Int32)), .val (.long y1), .second] [])) _
    refine XS.aloadN X0.here hx rfl (hb hby dd_jdk_65_method_55_code_0) rfl rfl ?_
    refine X0.arraylength hx (by (try rw [e0]); exact Ar1.1) (State.isArrayOf_alike hZ.alike Ar1.2.1) (g := (mkF m 1 #[.val (.ref o0), .val (.int (0 : Int32)), .val (.int (2 : Int32)), .val (.long y1), .second] [(.ref o0)])) rfl rfl (hb hby dd_jdk_65_method_55_code_1) _ ?_
    rw [len_of S1 M1]
    show Steps p.tables e below (s₁.setTop (mkF m 2 #[.val (.ref o0), .val (.int (0 : Int32)), .val (.int (2 : Int32)), .val (.long y1), .second] [(.int (2 : Int32))])) _
    refine XS.iloadN X0.here hx rfl (hb hby dd_jdk_65_method_55_code_2) rfl ?_
    refine XS.iloadN X0.here hx rfl (hb hby dd_jdk_65_method_55_code_3) rfl ?_
    show Steps p.tables e below (s₁.setTop (mkF m 4 #[.val (.ref o0), .val (.int (0 : Int32)), .val (.int (2 : Int32)), .val (.long y1), .second] [(.int (2 : Int32)), (.int (0 : Int32)), (.int (2 : Int32))])) _
    refine st2 _ ?_
    show Steps p.tables e below (T2.setTop (mkF m 7 #[.val (.ref o0), .val (.int (0 : Int32)), .val (.int (2 : Int32)), .val (.long y1), .second] [])) _
    refine XS.aloadN X2.here hx rfl (hb hby dd_jdk_65_method_55_code_7) rfl rfl ?_
    refine XS.iloadN X2.here hx rfl (hb hby dd_jdk_65_method_55_code_8) rfl ?_
    refine XS.iloadN X2.here hx rfl (hb hby dd_jdk_65_method_55_code_9) rfl ?_
    show Steps p.tables e below (T2.setTop (mkF m 10 #[.val (.ref o0), .val (.int (0 : Int32)), .val (.int (2 : Int32)), .val (.long y1), .second] [(.int (2 : Int32)), (.int (0 : Int32)), (.ref o0)])) _
    refine XS.lloadN X2.here hx rfl (hb hby dd_jdk_65_method_55_code_10) rfl ?_
    show Steps p.tables e below (T2.setTop (mkF m 11 #[.val (.ref o0), .val (.int (0 : Int32)), .val (.int (2 : Int32)), .val (.long y1), .second] [(.long y1), (.int (2 : Int32)), (.int (0 : Int32)), (.ref o0)])) _
    refine st3 _ ?_
    show Steps p.tables e below (T3.setTop (mkF m 14 #[.val (.ref o0), .val (.int (0 : Int32)), .val (.int (2 : Int32)), .val (.long y1), .second] [(.int (0 : Int32))])) _
    exact retI X3 hx Bd.returns (hb hby dd_jdk_65_method_55_code_14) lhr
  · skip
    show QA29 Z o0 y1 y2 kk_o0 h0 n0 _ T3.heap _
    rw [eq3]
    exact ⟨rfl, N3, rfl⟩
theorem dd_prog_23_method_4_code_16 : decode prog_23_method_4_code 16 = .ok (.istore 4, 2) := by decide +kernel
theorem dd_prog_23_method_4_code_18 : decode prog_23_method_4_code 18 = .ok (.iload 4, 2) := by decide +kernel
theorem dd_prog_23_method_4_code_20 : decode prog_23_method_4_code 20 = .ok (.ifCond .lt 20, 3) := by decide +kernel
theorem dd_prog_23_method_4_code_23 : decode prog_23_method_4_code 23 = .ok (.aload_n 0, 1) := by decide +kernel
theorem dd_prog_23_method_4_code_24 : decode prog_23_method_4_code 24 = .ok (.getfield 16, 3) := by decide +kernel
theorem dd_prog_23_method_4_code_27 : decode prog_23_method_4_code 27 = .ok (.iload 4, 2) := by decide +kernel
theorem dd_prog_23_method_4_code_29 : decode prog_23_method_4_code 29 = .ok (.aload_n 0, 1) := by decide +kernel
theorem dd_prog_23_method_4_code_30 : decode prog_23_method_4_code 30 = .ok (.getfield 22, 3) := by decide +kernel
theorem dd_prog_23_method_4_code_33 : decode prog_23_method_4_code 33 = .ok (.imul, 1) := by decide +kernel
theorem dd_prog_23_method_4_code_34 : decode prog_23_method_4_code 34 = .ok (.iload_n 3, 1) := by decide +kernel
theorem dd_prog_23_method_4_code_35 : decode prog_23_method_4_code 35 = .ok (.iadd, 1) := by decide +kernel
theorem dd_prog_23_method_4_code_36 : decode prog_23_method_4_code 36 = .ok (.laload, 1) := by decide +kernel
theorem dd_prog_23_method_4_code_37 : decode prog_23_method_4_code 37 = .ok (.goto 4, 3) := by decide +kernel
theorem dd_prog_23_method_4_code_41 : decode prog_23_method_4_code 41 = .ok (.lreturn, 1) := by decide +kernel
def QA28 (Z : State) (o0 : Addr) (y1 : Int64) (o2 : Addr) (y3 : Int64) (kk_o2 : ClassId) (o4 : Addr) (kk_o4 : ClassId) (h0 : Heap) (n0 : Nat) (v : Option Value) (h : Heap) (L : List Loc) : Prop := v = some (.long (1 : Int64)) ∧ Fr n0 L ∧ h = h0
set_option maxRecDepth 65536 in
set_option maxHeartbeats 40000000 in
theorem rmA28 (l : Launch) (Z : State) (a0 : Array Value) (hw : ∀ d ∈ tables_1, d.before a0 Z = true) (ws : List Jvm.Cond) (o0 : Addr) (y1 : Int64) (o2 : Addr) (y3 : Int64) (kk_o2 : ClassId) (o4 : Addr) (kk_o4 : ClassId) (h0 : Heap) (n0 : Nat) (Z0 : n0 ≤ h0.size) (F_o0_starts : Fld Z h0 o0 cn2 "starts" "[J" (.ref o2)) (F_o0_first : Fld Z h0 o0 cn2 "first" "I" (.int (0 : Int32))) (F_o0_end : Fld Z h0 o0 cn2 "end" "I" (.int (2 : Int32))) (V_o2 : Arv Z h0 o2 kk_o2 .long (2 : Int32) [(.long y1), (.long y3)] (.long (0 : Int64))) (F_o0_records : Fld Z h0 o0 cn2 "records" "[J" (.ref o4)) (F_o0_width : Fld Z h0 o0 cn2 "width" "I" (.int (1 : Int32))) (V_o4 : Arv Z h0 o4 kk_o4 .long (2 : Int32) [(.long (1 : Int64)), (.long (2 : Int64))] (.long (0 : Int64))) :
    MetFree l mn2 (head1 (Jvm.Cond.code mn2 prog_23_method_4_code 5 (some .long) :: ws) ({ frames := 2, cells := 0, slots := 0, locals := 37 } : Room)) (fun a U => a = #[(.ref o0), (.long y1), (.int (0 : Int32))] ∧ Z.Warmed39 U.vm ∧ U.heap = h0) (fun _ _ _ _ _ => True) (fun _ U oc_ U' => ∃ v L, oc_ = .returned v ∧ QA28 Z o0 y1 o2 y3 kk_o2 o4 kk_o4 h0 n0 v U'.heap L ∧ FrameEnd U oc_ U' L ({ frames := 2, cells := 0, slots := 0, locals := 37 } : Room).cells ({ frames := 2, cells := 0, slots := 0, locals := 37 } : Room).slots) := by
  refine MetFree.of_bodySF (plainFor_of_name pn_com_example_strict_limiter_strictlimiter_KeptWindows) hisR ?_
  intro p e s m args below meth c s₁ Bd hml0 hP hK
  obtain ⟨rfl, hZ, hh⟩ := hP
  have hx := Bd.exec
  have hby := Bd.bytes
  have hml : c.maxLocals = 5 := hml0
  have hown : s.vm.findClass cn2 = some m.cls := findClass_of_methodNamed Bd.named
  have hnm := (name_of_methodNamed Bd.named Bd.method).1
  have X0 : Stand p l e ({ frames := 2, cells := 0, slots := 0, locals := 37 } : Room) s m #[(.ref o0), (.long y1), (.int (0 : Int32))] below meth c s₁ [] 0 0 := Stand.of_body Bd
  have e0 : s₁.heap = h0 := by rw [← hh, Bd.state]; rfl
  have N0 := Fr.nil n0
  have pre0 : ∀ t, Steps p.tables e below (s₁.setTop (mkF m 0 #[.val (.ref o0), .val (.long y1), .second, .val (.int (0 : Int32)), .unset] [])) t → Steps p.tables e below (s₁.setTop (entryFrame m #[(.ref o0), (.long y1), (.int (0 : Int32))] 5)) t := fun t k => castTop (efa_prog_23_method_4_code_vvv m o0 y1 (0 : Int32)) k
  obtain ⟨T1, X1, e1, st1⟩ := getF X0 hx hZ hown (host := "") (Or.inl (wd12 hw)) Via.refl e0 F_o0_starts (g := (mkF m 1 #[.val (.ref o0), .val (.long y1), .second, .val (.int (0 : Int32)), .unset] [(.ref o0)])) rfl rfl (hb hby dd_prog_23_method_4_code_1)
  obtain ⟨T2, X2, e2, st2⟩ := getF X1 hx hZ hown (host := "") (Or.inl (wd25 hw)) Via.refl e1 F_o0_first (g := (mkF m 5 #[.val (.ref o0), .val (.long y1), .second, .val (.int (0 : Int32)), .unset] [(.ref o0), (.ref o2)])) rfl rfl (hb hby dd_prog_23_method_4_code_5)
  obtain ⟨T3, X3, e3, st3⟩ := getF X2 hx hZ hown (host := "") (Or.inl (wd27 hw)) Via.refl e2 F_o0_end (g := (mkF m 9 #[.val (.ref o0), .val (.long y1), .second, .val (.int (0 : Int32)), .unset] [(.ref o0), (.int (0 : Int32)), (.ref o2)])) rfl rfl (hb hby dd_prog_23_method_4_code_9)
  obtain ⟨_, _, ⟨T4, L4, kc4, ks4⟩, -, X4, ⟨Lc4, hQ4, l4, y4, z4⟩, st4⟩ := Jvm.LawKit.callS X3 hx (y := mn9) hown (mvT hZ (wd29 hw)) (mvT hZ (wd30 hw)) (mvT hZ (wd31 hw)) (mvT hZ (wd32 hw)) (by decide) (backOf (W := 0) (rmA29 l Z a0 hw [] o2 y1 y3 _ h0 n0 Z0 V_o2) hZ (wd32 hw) (wd31 hw) (by decide) (by decide)) (g := (mkF m 13 #[.val (.ref o0), .val (.long y1), .second, .val (.int (0 : Int32)), .unset] [(.long y1), (.int (2 : Int32)), (.int (0 : Int32)), (.ref o2)])) rfl (by rw [hml]; rfl) (argsL := [(.ref o2), (.int (0 : Int32)), (.int (2 : Int32)), (.long y1)]) (rest := []) (lenOf pd___JIIJ_I rfl) rfl (by show 2 * 0 + _ ≤ _; exact Nat.le_of_eq rfl) (hb hby dd_prog_23_method_4_code_13) (fun _ _ => ⟨rfl, e3, (by decide : 0 + 0 ≤ _), (by decide : 0 + 0 ≤ _)⟩)
  dsimp only [Pt.U, Pt.locs, Pt.cells, Pt.slots] at X4 l4 y4 z4 st4 hQ4
  subst l4 y4 z4
  obtain ⟨rfl, Nq4, eq4⟩ := hQ4
  have N4 := Fr.app N0 Nq4
  obtain ⟨T5, X5, e5, st5⟩ := getF X4 hx hZ hown (host := "") (Or.inl (wd14 hw)) Via.refl eq4 F_o0_records (g := (mkF m 24 #[.val (.ref o0), .val (.long y1), .second, .val (.int (0 : Int32)), .val (.int (0 : Int32))] [(.ref o0)])) rfl rfl (hb hby dd_prog_23_method_4_code_24)
  obtain ⟨T6, X6, e6, st6⟩ := getF X5 hx hZ hown (host := "") (Or.inl (wd18 hw)) Via.refl e5 F_o0_width (g := (mkF m 30 #[.val (.ref o0), .val (.long y1), .second, .val (.int (0 : Int32)), .val (.int (0 : Int32))] [(.ref o0), (.int (0 : Int32)), (.ref o4)])) rfl rfl (hb hby dd_prog_23_method_4_code_30)
  obtain ⟨cl7, Ar7, q7, S7, M7, HH7, GG7⟩ := id V_o4
  have hin7 : ¬ ((0 : Int32) < 0 ∨ cl7.slots.size ≤ ((0 : Int32)).toNatClampNeg) := inb_of S7 ⟨by decide, by decide⟩
  have hat7 : cl7.slots[((0 : Int32)).toNatClampNeg]? = some (.long (1 : Int64)) := Has.at HH7 hin7 rfl
  obtain ⟨lfs, lhr, lhrun, lhended, lhW, lhsame⟩ := X6.leave (v := some (.long (1 : Int64))) (fun h => by rw [Bd.returns] at h; cases h)
  refine ⟨_, _, pre0 _ ?_, lhrun, lhended, _, _, rfl, ?_, ⟨_, rfl⟩, lhW, lhsame.mono (by decide) (by decide)⟩
  · skip
    show Steps p.tables e below (s₁.setTop (mkF m 0 #[.val (.ref o0), .val (.long y1), .second, .val (.int (0 : Int32)), .unset] [])) _
    refine XS.aloadN X0.here hx rfl (hb hby dd_prog_23_method_4_code_0) rfl rfl ?_
    show Steps p.tables e below (s₁.setTop (mkF m 1 #[.val (.ref o0), .val (.long y1), .second, .val (.int (0 : Int32)), .unset] [(.ref o0)])) _
    refine st1 _ ?_
    show Steps p.tables e below (T1.setTop (mkF m 4 #[.val (.ref o0), .val (.long y1), .second, .val (.int (0 : Int32)), .unset] [(.ref o2)])) _
    refine XS.aloadN X1.here hx rfl (hb hby dd_prog_23_method_4_code_4) rfl rfl ?_
    show Steps p.tables e below (T1.setTop (mkF m 5 #[.val (.ref o0), .val (.long y1), .second, .val (.int (0 : Int32)), .unset] [(.ref o0), (.ref o2)])) _
    refine st2 _ ?_
    show Steps p.tables e below (T2.setTop (mkF m 8 #[.val (.ref o0), .val (.long y1), .second, .val (.int (0 : Int32)), .unset] [(.int (0 : Int32)), (.ref o2)])) _
    refine XS.aloadN X2.here hx rfl (hb hby dd_prog_23_method_4_code_8) rfl rfl ?_
    show Steps p.tables e below (T2.setTop (mkF m 9 #[.val (.ref o0), .val (.long y1), .second, .val (.int (0 : Int32)), .unset] [(.ref o0), (.int (0 : Int32)), (.ref o2)])) _
    refine st3 _ ?_
    show Steps p.tables e below (T3.setTop (mkF m 12 #[.val (.ref o0), .val (.long y1), .second, .val (.int (0 : Int32)), .unset] [(.int (2 : Int32)), (.int (0 : Int32)), (.ref o2)])) _
    refine XS.lloadN X3.here hx rfl (hb hby dd_prog_23_method_4_code_12) rfl ?_
    show Steps p.tables e below (T3.setTop (mkF m 13 #[.val (.ref o0), .val (.long y1), .second, .val (.int (0 : Int32)), .unset] [(.long y1), (.int (2 : Int32)), (.int (0 : Int32)), (.ref o2)])) _
    refine st4 _ ?_
    show Steps p.tables e below (T4.setTop (mkF m 16 #[.val (.ref o0), .val (.long y1), .second, .val (.int (0 : Int32)), .unset] [(.int (0 : Int32))])) _
    refine XS.istore X4.here hx rfl (hb hby dd_prog_23_method_4_code_16) rfl (l' := #[.val (.ref o0), .val (.long y1), .second, .val (.int (0 : Int32)), .val (.int (0 : Int32))]) rfl ?_
    refine XS.iload X4.here hx rfl (hb hby dd_prog_23_method_4_code_18) rfl ?_
    refine XS.ifNo X4.here hx rfl (hb hby dd_prog_23_method_4_code_20) rfl ((if0 _ _).trans (flt (by decide : ¬ ((0 : Int32) < (0 : Int32)))).1) ?_
    show Steps p.tables e below (T4.setTop (mkF m 23 #[.val (.ref o0), .val (.long y1), .second, .val (.int (0 : Int32)), .val (.int (0 : Int32))] [])) _
    refine XS.aloadN X4.here hx rfl (hb hby dd_prog_23_method_4_code_23) rfl rfl ?_
    show Steps p.tables e below (T4.setTop (mkF m 24 #[.val (.ref o0), .val (.long y1), .second, .val (.int (0 : Int32)), .val (.int (0 : Int32))] [(.ref o0)])) _
    refine st5 _ ?_
    show Steps p.tables e below (T5.setTop (mkF m 27 #[.val (.ref o0), .val (.long y1), .second, .val (.int (0 : Int32)), .val (.int (0 : Int32))] [(.ref o4)])) _
    refine XS.iload X5.here hx rfl (hb hby dd_prog_23_method_4_code_27) rfl ?_
    show Steps p.tables e below (T5.setTop (mkF m 29 #[.val (.ref o0), .val (.long y1), .second, .val (.int (0 : Int32)), .val (.int (0 : Int32))] [(.int (0 : Int32)), (.ref o4)])) _
    refine XS.aloadN X5.here hx rfl (hb hby dd_prog_23_method_4_code_29) rfl rfl ?_
    show Steps p.tables e below (T5.setTop (mkF m 30 #[.val (.ref o0), .val (.long y1), .second, .val (.int (0 : Int32)), .val (.int (0 : Int32))] [(.ref o0), (.int (0 : Int32)), (.ref o4)])) _
    refine st6 _ ?_
    show Steps p.tables e below (T6.setTop (mkF m 33 #[.val (.ref o0), .val (.long y1), .second, .val (.int (0 : Int32)), .val (.int (0 : Int32))] [(.int (1 : Int32)), (.int (0 : Int32)), (.ref o4)])) _
    refine XS.imul X6.here hx rfl (hb hby dd_prog_23_method_4_code_33) rfl ?_
    show Steps p.tables e below (T6.setTop (mkF m 34 #[.val (.ref o0), .val (.long y1), .second, .val (.int (0 : Int32)), .val (.int (0 : Int32))] [(.int (0 : Int32)), (.ref o4)])) _
    refine XS.iloadN X6.here hx rfl (hb hby dd_prog_23_method_4_code_34) rfl ?_
    refine XS.iadd X6.here hx rfl (hb hby dd_prog_23_method_4_code_35) rfl ?_
    refine X6.laload hx (j := (0 : Int32)) (v := (.long (1 : Int64))) (by (try rw [e6]); exact Ar7.1) (State.isArrayOf_alike hZ.alike Ar7.2.1) Ar7.2.2 hin7 hat7 (g := (mkF m 36 #[.val (.ref o0), .val (.long y1), .second, .val (.int (0 : Int32)), .val (.int (0 : Int32))] [(.int (0 : Int32)), (.ref o4)])) rfl rfl (hb hby dd_prog_23_method_4_code_36) _ ?_
    show Steps p.tables e below (T6.setTop (mkF m 37 #[.val (.ref o0), .val (.long y1), .second, .val (.int (0 : Int32)), .val (.int (0 : Int32))] [(.long (1 : Int64))])) _
    refine XS.goto X6.here hx rfl (pc0 := 37) (pc' := 41) rfl (hb hby dd_prog_23_method_4_code_37) (by decide) (by decide) ?_
    show Steps p.tables e below (T6.setTop (mkF m 41 #[.val (.ref o0), .val (.long y1), .second, .val (.int (0 : Int32)), .val (.int (0 : Int32))] [(.long (1 : Int64))])) _
    exact retOut X6 hx Bd.returns rfl (Or.inr (Or.inl ⟨rfl, rfl, _, rfl⟩)) (hb hby dd_prog_23_method_4_code_41) lhr
  · skip
    show QA28 Z o0 y1 o2 y3 kk_o2 o4 kk_o4 h0 n0 _ T6.heap _
    rw [e6]
    exact ⟨rfl, N4, rfl⟩
def QA35 (Z : State) (o0 : Addr) (y1 : Int64) (y2 : Int64) (kk_o0 : ClassId) (h0 : Heap) (n0 : Nat) (v : Option Value) (h : Heap) (L : List Loc) : Prop := v = some (.int (1 : Int32)) ∧ Fr n0 L ∧ h = h0
set_option maxRecDepth 65536 in
set_option maxHeartbeats 40000000 in
theorem rmA35 (l : Launch) (Z : State) (a0 : Array Value) (hw : ∀ d ∈ tables_1, d.before a0 Z = true) (ws : List Jvm.Cond) (o0 : Addr) (y1 : Int64) (y2 : Int64) (kk_o0 : ClassId) (h0 : Heap) (n0 : Nat) (Z0 : n0 ≤ h0.size) (V_o0 : Arv Z h0 o0 kk_o0 .long (2 : Int32) [(.long y2), (.long y1)] (.long (0 : Int64))) (hq1 : y2 < y1) :
    MetFree l mn10 (head1 (Jvm.Cond.code mn10 jdk_65_method_56_code 10 (some .int) :: ws) ({ frames := 0, cells := 0, slots := 0, locals := 0 } : Room)) (fun a U => a = #[(.ref o0), (.int (0 : Int32)), (.int (2 : Int32)), (.long y1)] ∧ Z.Warmed39 U.vm ∧ U.heap = h0) (fun _ _ _ _ _ => True) (fun _ U oc_ U' => ∃ v L, oc_ = .returned v ∧ QA35 Z o0 y1 y2 kk_o0 h0 n0 v U'.heap L ∧ FrameEnd U oc_ U' L ({ frames := 0, cells := 0, slots := 0, locals := 0 } : Room).cells ({ frames := 0, cells := 0, slots := 0, locals := 0 } : Room).slots) := by
  refine MetFree.of_bodySF (plainFor_of_name pn_java_util_Arrays) hisR ?_
  intro p e s m args below meth c s₁ Bd hml0 hP hK
  obtain ⟨rfl, hZ, hh⟩ := hP
  have hx := Bd.exec
  have hby := Bd.bytes
  have hml : c.maxLocals = 10 := hml0
  have hown : s.vm.findClass "java/util/Arrays" = some m.cls := findClass_of_methodNamed Bd.named
  have hnm := (name_of_methodNamed Bd.named Bd.method).1
  have X0 : Stand p l e ({ frames := 0, cells := 0, slots := 0, locals := 0 } : Room) s m #[(.ref o0), (.int (0 : Int32)), (.int (2 : Int32)), (.long y1)] below meth c s₁ [] 0 0 := Stand.of_body Bd
  have e0 : s₁.heap = h0 := by rw [← hh, Bd.state]; rfl
  have N0 := Fr.nil n0
  have pre0 : ∀ t, Steps p.tables e below (s₁.setTop (mkF m 0 #[.val (.ref o0), .val (.int (0 : Int32)), .val (.int (2 : Int32)), .val (.long y1), .second, .unset, .unset, .unset, .unset, .unset] [])) t → Steps p.tables e below (s₁.setTop (entryFrame m #[(.ref o0), (.int (0 : Int32)), (.int (2 : Int32)), (.long y1)] 10)) t := fun t k => castTop (efa_jdk_65_method_56_code_vvvv m o0 (0 : Int32) (2 : Int32) y1) k
  obtain ⟨cl1, Ar1, q1, S1, M1, HH1, GG1⟩ := id V_o0
  have hin1 : ¬ ((0 : Int32) < 0 ∨ cl1.slots.size ≤ ((0 : Int32)).toNatClampNeg) := inb_of S1 ⟨by decide, by decide⟩
  have hat1 : cl1.slots[((0 : Int32)).toNatClampNeg]? = some (.long y2) := Has.at HH1 hin1 rfl
  obtain ⟨cl2, Ar2, q2, S2, M2, HH2, GG2⟩ := id V_o0
  have hin2 : ¬ ((1 : Int32) < 0 ∨ cl2.slots.size ≤ ((1 : Int32)).toNatClampNeg) := inb_of S2 ⟨by decide, by decide⟩
  have hat2 : cl2.slots[((1 : Int32)).toNatClampNeg]? = some (.long y1) := Has.at HH2 hin2 rfl
  obtain ⟨lfs, lhr, lhrun, lhended, lhW, lhsame⟩ := X0.leave (v := some (.int (1 : Int32))) (fun h => by rw [Bd.returns] at h; cases h)
  refine ⟨_, _, pre0 _ ?_, lhrun, lhended, _, _, rfl, ?_, ⟨_, rfl⟩, lhW, lhsame.mono (by decide) (by decide)⟩
  · skip
    show Steps p.tables e below (s₁.setTop (mkF m 0 #[.val (.ref o0), .val (.int (0 : Int32)), .val (.int (2 : Int32)), .val (.long y1), .second, .unset, .unset, .unset, .unset, .unset] [])) _
    refine XS.iloadN X0.here hx rfl (hb hby dd_jdk_65_method_56_code_0) rfl ?_
    refine XS.istore X0.here hx rfl (hb hby dd_jdk_65_method_56_code_1) rfl (l' := #[.val (.ref o0), .val (.int (0 : Int32)), .val (.int (2 : Int32)), .val (.long y1), .second, .val (.int (0 : Int32)), .unset, .unset, .unset, .unset]) rfl ?_
    show Steps p.tables e below (s₁.setTop (mkF m 3 #[.val (.ref o0), .val (.int (0 : Int32)), .val (.int (2 : Int32)), .val (.long y1), .second, .val (.int (0 : Int32)), .unset, .unset, .unset, .unset] [])) _
    refine XS.iloadN X0.here hx rfl (hb hby dd_jdk_65_method_56_code_3) rfl ?_
    refine XS.iconst X0.here hx rfl (hb hby dd_jdk_65_method_56_code_4) ?_
    refine XS.isub X0.here hx rfl (hb hby dd_jdk_65_method_56_code_5) rfl ?_
    show Steps p.tables e below (s₁.setTop (mkF m 6 #[.val (.ref o0), .val (.int (0 : Int32)), .val (.int (2 : Int32)), .val (.long y1), .second, .val (.int (0 : Int32)), .unset, .unset, .unset, .unset] [(.int (1 : Int32))])) _
    refine XS.istore X0.here hx rfl (hb hby dd_jdk_65_method_56_code_6) rfl (l' := #[.val (.ref o0), .val (.int (0 : Int32)), .val (.int (2 : Int32)), .val (.long y1), .second, .val (.int (0 : Int32)), .val (.int (1 : Int32)), .unset, .unset, .unset]) rfl ?_
    refine XS.iload X0.here hx rfl (hb hby dd_jdk_65_method_56_code_8) rfl ?_
    refine XS.iload X0.here hx rfl (hb hby dd_jdk_65_method_56_code_10) rfl ?_
    show Steps p.tables e below (s₁.setTop (mkF m 12 #[.val (.ref o0), .val (.int (0 : Int32)), .val (.int (2 : Int32)), .val (.long y1), .second, .val (.int (0 : Int32)), .val (.int (1 : Int32)), .unset, .unset, .unset] [(.int (1 : Int32)), (.int (0 : Int32))])) _
    refine XS.icmpNo X0.here hx rfl (hb hby dd_jdk_65_method_56_code_12) rfl (flt (by decide : ¬ ((1 : Int32) < (0 : Int32)))).2.2.1 ?_
    refine XS.iload X0.here hx rfl (hb hby dd_jdk_65_method_56_code_15) rfl ?_
    refine XS.iload X0.here hx rfl (hb hby dd_jdk_65_method_56_code_17) rfl ?_
    show Steps p.tables e below (s₁.setTop (mkF m 19 #[.val (.ref o0), .val (.int (0 : Int32)), .val (.int (2 : Int32)), .val (.long y1), .second, .val (.int (0 : Int32)), .val (.int (1 : Int32)), .unset, .unset, .unset] [(.int (1 : Int32)), (.int (0 : Int32))])) _
    refine XS.iadd X0.here hx rfl (hb hby dd_jdk_65_method_56_code_19) rfl ?_
    refine XS.iconst X0.here hx rfl (hb hby dd_jdk_65_method_56_code_20) ?_
    refine XS.iushr X0.here hx rfl (hb hby dd_jdk_65_method_56_code_21) rfl ?_
    show Steps p.tables e below (s₁.setTop (mkF m 22 #[.val (.ref o0), .val (.int (0 : Int32)), .val (.int (2 : Int32)), .val (.long y1), .second, .val (.int (0 : Int32)), .val (.int (1 : Int32)), .unset, .unset, .unset] [(.int (0 : Int32))])) _
    refine XS.istore X0.here hx rfl (hb hby dd_jdk_65_method_56_code_22) rfl (l' := #[.val (.ref o0), .val (.int (0 : Int32)), .val (.int (2 : Int32)), .val (.long y1), .second, .val (.int (0 : Int32)), .val (.int (1 : Int32)), .val (.int (0 : Int32)), .unset, .unset]) rfl ?_
    refine XS.aloadN X0.here hx rfl (hb hby dd_jdk_65_method_56_code_24) rfl rfl ?_
    refine XS.iload X0.here hx rfl (hb hby dd_jdk_65_method_56_code_25) rfl ?_
    show Steps p.tables e below (s₁.setTop (mkF m 27 #[.val (.ref o0), .val (.int (0 : Int32)), .val (.int (2 : Int32)), .val (.long y1), .second, .val (.int (0 : Int32)), .val (.int (1 : Int32)), .val (.int (0 : Int32)), .unset, .unset] [(.int (0 : Int32)), (.ref o0)])) _
    refine X0.laload hx (j := (0 : Int32)) (v := (.long y2)) (by (try rw [e0]); exact Ar1.1) (State.isArrayOf_alike hZ.alike Ar1.2.1) Ar1.2.2 hin1 hat1 (g := (mkF m 27 #[.val (.ref o0), .val (.int (0 : Int32)), .val (.int (2 : Int32)), .val (.long y1), .second, .val (.int (0 : Int32)), .val (.int (1 : Int32)), .val (.int (0 : Int32)), .unset, .unset] [(.int (0 : Int32)), (.ref o0)])) rfl rfl (hb hby dd_jdk_65_method_56_code_27) _ ?_
    refine XS.lstore X0.here hx rfl (hb hby dd_jdk_65_method_56_code_28) rfl (l' := #[.val (.ref o0), .val (.int (0 : Int32)), .val (.int (2 : Int32)), .val (.long y1), .second, .val (.int (0 : Int32)), .val (.int (1 : Int32)), .val (.int (0 : Int32)), .val (.long y2), .second]) rfl ?_
    refine XS.lload X0.here hx rfl (hb hby dd_jdk_65_method_56_code_30) rfl ?_
    show Steps p.tables e below (s₁.setTop (mkF m 32 #[.val (.ref o0), .val (.int (0 : Int32)), .val (.int (2 : Int32)), .val (.long y1), .second, .val (.int (0 : Int32)), .val (.int (1 : Int32)), .val (.int (0 : Int32)), .val (.long y2), .second] [(.long y2)])) _
    refine XS.lloadN X0.here hx rfl (hb hby dd_jdk_65_method_56_code_32) rfl ?_
    refine XS.lcmp X0.here hx rfl (hb hby dd_jdk_65_method_56_code_33) rfl ?_
    refine XS.ifNo X0.here hx rfl (hb hby dd_jdk_65_method_56_code_34) rfl ((if0 _ _).trans (tlt ((lw_lt y2 y1).mpr hq1)).2.1) ?_
    show Steps p.tables e below (s₁.setTop (mkF m 37 #[.val (.ref o0), .val (.int (0 : Int32)), .val (.int (2 : Int32)), .val (.long y1), .second, .val (.int (0 : Int32)), .val (.int (1 : Int32)), .val (.int (0 : Int32)), .val (.long y2), .second] [])) _
    refine XS.iload X0.here hx rfl (hb hby dd_jdk_65_method_56_code_37) rfl ?_
    refine XS.iconst X0.here hx rfl (hb hby dd_jdk_65_method_56_code_39) ?_
    refine XS.iadd X0.here hx rfl (hb hby dd_jdk_65_method_56_code_40) rfl ?_
    show Steps p.tables e below (s₁.setTop (mkF m 41 #[.val (.ref o0), .val (.int (0 : Int32)), .val (.int (2 : Int32)), .val (.long y1), .second, .val (.int (0 : Int32)), .val (.int (1 : Int32)), .val (.int (0 : Int32)), .val (.long y2), .second] [(.int (1 : Int32))])) _
    refine XS.istore X0.here hx rfl (hb hby dd_jdk_65_method_56_code_41) rfl (l' := #[.val (.ref o0), .val (.int (0 : Int32)), .val (.int (2 : Int32)), .val (.long y1), .second, .val (.int (1 : Int32)), .val (.int (1 : Int32)), .val (.int (0 : Int32)), .val (.long y2), .second]) rfl ?_
    refine XS.goto X0.here hx rfl (pc0 := 43) (pc' := 65) rfl (hb hby dd_jdk_65_method_56_code_43) (by decide) (by decide) ?_
    refine XS.goto X0.here hx rfl (pc0 := 65) (pc' := 8) rfl (hb hby dd_jdk_65_method_56_code_65) (by decide) (by decide) ?_
    show Steps p.tables e below (s₁.setTop (mkF m 8 #[.val (.ref o0), .val (.int (0 : Int32)), .val (.int (2 : Int32)), .val (.long y1), .second, .val (.int (1 : Int32)), .val (.int (1 : Int32)), .val (.int (0 : Int32)), .val (.long y2), .second] [])) _
    refine XS.iload X0.here hx rfl (hb hby dd_jdk_65_method_56_code_8) rfl ?_
    refine XS.iload X0.here hx rfl (hb hby dd_jdk_65_method_56_code_10) rfl ?_
    refine XS.icmpNo X0.here hx rfl (hb hby dd_jdk_65_method_56_code_12) rfl (flt (by decide : ¬ ((1 : Int32) < (1 : Int32)))).2.2.1 ?_
    show Steps p.tables e below (s₁.setTop (mkF m 15 #[.val (.ref o0), .val (.int (0 : Int32)), .val (.int (2 : Int32)), .val (.long y1), .second, .val (.int (1 : Int32)), .val (.int (1 : Int32)), .val (.int (0 : Int32)), .val (.long y2), .second] [])) _
    refine XS.iload X0.here hx rfl (hb hby dd_jdk_65_method_56_code_15) rfl ?_
    refine XS.iload X0.here hx rfl (hb hby dd_jdk_65_method_56_code_17) rfl ?_
    refine XS.iadd X0.here hx rfl (hb hby dd_jdk_65_method_56_code_19) rfl ?_
    show Steps p.tables e below (s₁.setTop (mkF m 20 #[.val (.ref o0), .val (.int (0 : Int32)), .val (.int (2 : Int32)), .val (.long y1), .second, .val (.int (1 : Int32)), .val (.int (1 : Int32)), .val (.int (0 : Int32)), .val (.long y2), .second] [(.int (2 : Int32))])) _
    refine XS.iconst X0.here hx rfl (hb hby dd_jdk_65_method_56_code_20) ?_
    refine XS.iushr X0.here hx rfl (hb hby dd_jdk_65_method_56_code_21) rfl ?_
    refine XS.istore X0.here hx rfl (hb hby dd_jdk_65_method_56_code_22) rfl (l' := #[.val (.ref o0), .val (.int (0 : Int32)), .val (.int (2 : Int32)), .val (.long y1), .second, .val (.int (1 : Int32)), .val (.int (1 : Int32)), .val (.int (1 : Int32)), .val (.long y2), .second]) rfl ?_
    show Steps p.tables e below (s₁.setTop (mkF m 24 #[.val (.ref o0), .val (.int (0 : Int32)), .val (.int (2 : Int32)), .val (.long y1), .second, .val (.int (1 : Int32)), .val (.int (1 : Int32)), .val (.int (1 : Int32)), .val (.long y2), .second] [])) _
    refine XS.aloadN X0.here hx rfl (hb hby dd_jdk_65_method_56_code_24) rfl rfl ?_
    refine XS.iload X0.here hx rfl (hb hby dd_jdk_65_method_56_code_25) rfl ?_
    refine X0.laload hx (j := (1 : Int32)) (v := (.long y1)) (by (try rw [e0]); exact Ar2.1) (State.isArrayOf_alike hZ.alike Ar2.2.1) Ar2.2.2 hin2 hat2 (g := (mkF m 27 #[.val (.ref o0), .val (.int (0 : Int32)), .val (.int (2 : Int32)), .val (.long y1), .second, .val (.int (1 : Int32)), .val (.int (1 : Int32)), .val (.int (1 : Int32)), .val (.long y2), .second] [(.int (1 : Int32)), (.ref o0)])) rfl rfl (hb hby dd_jdk_65_method_56_code_27) _ ?_
    show Steps p.tables e below (s₁.setTop (mkF m 28 #[.val (.ref o0), .val (.int (0 : Int32)), .val (.int (2 : Int32)), .val (.long y1), .second, .val (.int (1 : Int32)), .val (.int (1 : Int32)), .val (.int (1 : Int32)), .val (.long y2), .second] [(.long y1)])) _
    refine XS.lstore X0.here hx rfl (hb hby dd_jdk_65_method_56_code_28) rfl (l' := #[.val (.ref o0), .val (.int (0 : Int32)), .val (.int (2 : Int32)), .val (.long y1), .second, .val (.int (1 : Int32)), .val (.int (1 : Int32)), .val (.int (1 : Int32)), .val (.long y1), .second]) rfl ?_
    refine XS.lload X0.here hx rfl (hb hby dd_jdk_65_method_56_code_30) rfl ?_
    refine XS.lloadN X0.here hx rfl (hb hby dd_jdk_65_method_56_code_32) rfl ?_
    show Steps p.tables e below (s₁.setTop (mkF m 33 #[.val (.ref o0), .val (.int (0 : Int32)), .val (.int (2 : Int32)), .val (.long y1), .second, .val (.int (1 : Int32)), .val (.int (1 : Int32)), .val (.int (1 : Int32)), .val (.long y1), .second] [(.long y1), (.long y1)])) _
    refine XS.lcmp X0.here hx rfl (hb hby dd_jdk_65_method_56_code_33) rfl ?_
    refine XS.ifYes X0.here hx rfl (pc0 := 34) (pc' := 46) rfl (hb hby dd_jdk_65_method_56_code_34) rfl ((if0 _ _).trans (flt (fun q => (own_irr64 y1) ((lw_lt y1 y1).mp q))).2.1) (by decide) (by decide) ?_
    refine XS.lload X0.here hx rfl (hb hby dd_jdk_65_method_56_code_46) rfl ?_
    show Steps p.tables e below (s₁.setTop (mkF m 48 #[.val (.ref o0), .val (.int (0 : Int32)), .val (.int (2 : Int32)), .val (.long y1), .second, .val (.int (1 : Int32)), .val (.int (1 : Int32)), .val (.int (1 : Int32)), .val (.long y1), .second] [(.long y1)])) _
    refine XS.lloadN X0.here hx rfl (hb hby dd_jdk_65_method_56_code_48) rfl ?_
    refine XS.lcmp X0.here hx rfl (hb hby dd_jdk_65_method_56_code_49) rfl ?_
    refine XS.ifYes X0.here hx rfl (pc0 := 50) (pc' := 62) rfl (hb hby dd_jdk_65_method_56_code_50) rfl ((if0 _ _).trans (flt (fun q => (own_irr64 y1) ((lw_gt y1 y1).mp q))).2.2.2) (by decide) (by decide) ?_
    show Steps p.tables e below (s₁.setTop (mkF m 62 #[.val (.ref o0), .val (.int (0 : Int32)), .val (.int (2 : Int32)), .val (.long y1), .second, .val (.int (1 : Int32)), .val (.int (1 : Int32)), .val (.int (1 : Int32)), .val (.long y1), .second] [])) _
    refine XS.iload X0.here hx rfl (hb hby dd_jdk_65_method_56_code_62) rfl ?_
    show Steps p.tables e below (s₁.setTop (mkF m 64 #[.val (.ref o0), .val (.int (0 : Int32)), .val (.int (2 : Int32)), .val (.long y1), .second, .val (.int (1 : Int32)), .val (.int (1 : Int32)), .val (.int (1 : Int32)), .val (.long y1), .second] [(.int (1 : Int32))])) _
    exact retI X0 hx Bd.returns (hb hby dd_jdk_65_method_56_code_64) lhr
  · skip
    show QA35 Z o0 y1 y2 kk_o0 h0 n0 _ s₁.heap _
    rw [e0]
    exact ⟨rfl, N0, rfl⟩
def QA33 (Z : State) (o0 : Addr) (y1 : Int64) (y2 : Int64) (kk_o0 : ClassId) (h0 : Heap) (n0 : Nat) (v : Option Value) (h : Heap) (L : List Loc) : Prop := v = some (.int (1 : Int32)) ∧ Fr n0 L ∧ h = h0
set_option maxRecDepth 65536 in
set_option maxHeartbeats 40000000 in
theorem rmA33 (l : Launch) (Z : State) (a0 : Array Value) (hw : ∀ d ∈ tables_1, d.before a0 Z = true) (ws : List Jvm.Cond) (o0 : Addr) (y1 : Int64) (y2 : Int64) (kk_o0 : ClassId) (h0 : Heap) (n0 : Nat) (Z0 : n0 ≤ h0.size) (V_o0 : Arv Z h0 o0 kk_o0 .long (2 : Int32) [(.long y2), (.long y1)] (.long (0 : Int64))) (hq1 : y2 < y1) :
    MetFree l mn9 (head1 (Jvm.Cond.code mn9 jdk_65_method_55_code 5 (some .int) :: ws) ({ frames := 1, cells := 0, slots := 0, locals := 21 } : Room)) (fun a U => a = #[(.ref o0), (.int (0 : Int32)), (.int (2 : Int32)), (.long y1)] ∧ Z.Warmed39 U.vm ∧ U.heap = h0) (fun _ _ _ _ _ => True) (fun _ U oc_ U' => ∃ v L, oc_ = .returned v ∧ QA33 Z o0 y1 y2 kk_o0 h0 n0 v U'.heap L ∧ FrameEnd U oc_ U' L ({ frames := 1, cells := 0, slots := 0, locals := 21 } : Room).cells ({ frames := 1, cells := 0, slots := 0, locals := 21 } : Room).slots) := by
  refine MetFree.of_bodySF (plainFor_of_name pn_java_util_Arrays) hisR ?_
  intro p e s m args below meth c s₁ Bd hml0 hP hK
  obtain ⟨rfl, hZ, hh⟩ := hP
  have hx := Bd.exec
  have hby := Bd.bytes
  have hml : c.maxLocals = 5 := hml0
  have hown : s.vm.findClass "java/util/Arrays" = some m.cls := findClass_of_methodNamed Bd.named
  have hnm := (name_of_methodNamed Bd.named Bd.method).1
  have X0 : Stand p l e ({ frames := 1, cells := 0, slots := 0, locals := 21 } : Room) s m #[(.ref o0), (.int (0 : Int32)), (.int (2 : Int32)), (.long y1)] below meth c s₁ [] 0 0 := Stand.of_body Bd
  have e0 : s₁.heap = h0 := by rw [← hh, Bd.state]; rfl
  have N0 := Fr.nil n0
  have pre0 : ∀ t, Steps p.tables e below (s₁.setTop (mkF m 0 #[.val (.ref o0), .val (.int (0 : Int32)), .val (.int (2 : Int32)), .val (.long y1), .second] [])) t → Steps p.tables e below (s₁.setTop (entryFrame m #[(.ref o0), (.int (0 : Int32)), (.int (2 : Int32)), (.long y1)] 5)) t := fun t k => castTop (efa_jdk_65_method_55_code_vvvv m o0 (0 : Int32) (2 : Int32) y1) k
  obtain ⟨cl1, Ar1, -, S1, M1, -, -⟩ := id V_o0
  obtain ⟨_, _, ⟨T2, L2, kc2, ks2⟩, -, X2, ⟨Lc2, hQ2, l2, y2, z2⟩, st2⟩ := Jvm.LawKit.callS X0 hx (y := mn12) hown (mvT hZ (wd33 hw)) (mvT hZ (wd34 hw)) (mvT hZ (wd31 hw)) (mvT hZ (wd35 hw)) (by decide) (backOf (W := 0) (rmA30 l Z a0 hw []  h0 n0 Z0 ) hZ (wd35 hw) (wd31 hw) (by decide) (by decide)) (g := (mkF m 4 #[.val (.ref o0), .val (.int (0 : Int32)), .val (.int (2 : Int32)), .val (.long y1), .second] [(.int (2 : Int32)), (.int (0 : Int32)), (.int (2 : Int32))])) rfl (by rw [hml]; rfl) (argsL := [(.int (2 : Int32)), (.int (0 : Int32)), (.int (2 : Int32))]) (rest := []) (lenOf pd__III_V rfl) rfl (by show 2 * 0 + _ ≤ _; exact Nat.le_of_eq rfl) (hb hby dd_jdk_65_method_55_code_4) (fun _ _ => ⟨rfl, e0, (by decide : 0 + 0 ≤ _), (by decide : 0 + 0 ≤ _)⟩)
  dsimp only [Pt.U, Pt.locs, Pt.cells, Pt.slots] at X2 l2 y2 z2 st2 hQ2
  subst l2 y2 z2
  obtain ⟨rfl, Nq2, eq2⟩ := hQ2
  have N2 := Fr.app N0 Nq2
  obtain ⟨_, _, ⟨T3, L3, kc3, ks3⟩, -, X3, ⟨Lc3, hQ3, l3, y3, z3⟩, st3⟩ := Jvm.LawKit.callS X2 hx (y := mn10) hown (mvT hZ (wd36 hw)) (mvT hZ (wd37 hw)) (mvT hZ (wd31 hw)) (mvT hZ (wd38 hw)) (by decide) (backOf (W := 0) (rmA35 l Z a0 hw [] o0 y1 y2 _ h0 n0 Z0 V_o0 hq1) hZ (wd38 hw) (wd31 hw) (by decide) (by decide)) (g := (mkF m 11 #[.val (.ref o0), .val (.int (0 : Int32)), .val (.int (2 : Int32)), .val (.long y1), .second] [(.long y1), (.int (2 : Int32)), (.int (0 : Int32)), (.ref o0)])) rfl (by rw [hml]; rfl) (argsL := [(.ref o0), (.int (0 : Int32)), (.int (2 : Int32)), (.long y1)]) (rest := []) (lenOf pd___JIIJ_I rfl) rfl (by show 2 * 0 + _ ≤ _; exact Nat.le_of_eq rfl) (hb hby dd_jdk_65_method_55_code_11) (fun _ _ => ⟨rfl, eq2, (by decide : 0 + 0 ≤ _), (by decide : 0 + 0 ≤ _)⟩)
  dsimp only [Pt.U, Pt.locs, Pt.cells, Pt.slots] at X3 l3 y3 z3 st3 hQ3
  subst l3 y3 z3
  obtain ⟨rfl, Nq3, eq3⟩ := hQ3
  have N3 := Fr.app N2 Nq3
  obtain ⟨lfs, lhr, lhrun, lhended, lhW, lhsame⟩ := X3.leave (v := some (.int (1 : Int32))) (fun h => by rw [Bd.returns] at h; cases h)
  refine ⟨_, _, pre0 _ ?_, lhrun, lhended, _, _, rfl, ?_, ⟨_, rfl⟩, lhW, lhsame.mono (by decide) (by decide)⟩
  · skip
    show Steps p.tables e below (s₁.setTop (mkF m 0 #[.val (.ref o0), .val (.int (0 : Int32)), .val (.int (2 : Int32)), .val (.long y1), .second] [])) _
    refine XS.aloadN X0.here hx rfl (hb hby dd_jdk_65_method_55_code_0) rfl rfl ?_
    refine X0.arraylength hx (by (try rw [e0]); exact Ar1.1) (State.isArrayOf_alike hZ.alike Ar1.2.1) (g := (mkF m 1 #[.val (.ref o0), .val (.int (0 : Int32)), .val (.int (2 : Int32)), .val (.long y1), .second] [(.ref o0)])) rfl rfl (hb hby dd_jdk_65_method_55_code_1) _ ?_
    rw [len_of S1 M1]
    show Steps p.tables e below (s₁.setTop (mkF m 2 #[.val (.ref o0), .val (.int (0 : Int32)), .val (.int (2 : Int32)), .val (.long y1), .second] [(.int (2 : Int32))])) _
    refine XS.iloadN X0.here hx rfl (hb hby dd_jdk_65_method_55_code_2) rfl ?_
    refine XS.iloadN X0.here hx rfl (hb hby dd_jdk_65_method_55_code_3) rfl ?_
    show Steps p.tables e below (s₁.setTop (mkF m 4 #[.val (.ref o0), .val (.int (0 : Int32)), .val (.int (2 : Int32)), .val (.long y1), .second] [(.int (2 : Int32)), (.int (0 : Int32)), (.int (2 : Int32))])) _
    refine st2 _ ?_
    show Steps p.tables e below (T2.setTop (mkF m 7 #[.val (.ref o0), .val (.int (0 : Int32)), .val (.int (2 : Int32)), .val (.long y1), .second] [])) _
    refine XS.aloadN X2.here hx rfl (hb hby dd_jdk_65_method_55_code_7) rfl rfl ?_
    refine XS.iloadN X2.here hx rfl (hb hby dd_jdk_65_method_55_code_8) rfl ?_
    refine XS.iloadN X2.here hx rfl (hb hby dd_jdk_65_method_55_code_9) rfl ?_
    show Steps p.tables e below (T2.setTop (mkF m 10 #[.val (.ref o0), .val (.int (0 : Int32)), .val (.int (2 : Int32)), .val (.long y1), .second] [(.int (2 : Int32)), (.int (0 : Int32)), (.ref o0)])) _
    refine XS.lloadN X2.here hx rfl (hb hby dd_jdk_65_method_55_code_10) rfl ?_
    show Steps p.tables e below (T2.setTop (mkF m 11 #[.val (.ref o0), .val (.int (0 : Int32)), .val (.int (2 : Int32)), .val (.long y1), .second] [(.long y1), (.int (2 : Int32)), (.int (0 : Int32)), (.ref o0)])) _
    refine st3 _ ?_
    show Steps p.tables e below (T3.setTop (mkF m 14 #[.val (.ref o0), .val (.int (0 : Int32)), .val (.int (2 : Int32)), .val (.long y1), .second] [(.int (1 : Int32))])) _
    exact retI X3 hx Bd.returns (hb hby dd_jdk_65_method_55_code_14) lhr
  · skip
    show QA33 Z o0 y1 y2 kk_o0 h0 n0 _ T3.heap _
    rw [eq3]
    exact ⟨rfl, N3, rfl⟩
def QA32 (Z : State) (o0 : Addr) (y1 : Int64) (o2 : Addr) (y3 : Int64) (kk_o2 : ClassId) (o4 : Addr) (kk_o4 : ClassId) (h0 : Heap) (n0 : Nat) (v : Option Value) (h : Heap) (L : List Loc) : Prop := v = some (.long (2 : Int64)) ∧ Fr n0 L ∧ h = h0
set_option maxRecDepth 65536 in
set_option maxHeartbeats 40000000 in
theorem rmA32 (l : Launch) (Z : State) (a0 : Array Value) (hw : ∀ d ∈ tables_1, d.before a0 Z = true) (ws : List Jvm.Cond) (o0 : Addr) (y1 : Int64) (o2 : Addr) (y3 : Int64) (kk_o2 : ClassId) (o4 : Addr) (kk_o4 : ClassId) (h0 : Heap) (n0 : Nat) (Z0 : n0 ≤ h0.size) (F_o0_starts : Fld Z h0 o0 cn2 "starts" "[J" (.ref o2)) (F_o0_first : Fld Z h0 o0 cn2 "first" "I" (.int (0 : Int32))) (F_o0_end : Fld Z h0 o0 cn2 "end" "I" (.int (2 : Int32))) (V_o2 : Arv Z h0 o2 kk_o2 .long (2 : Int32) [(.long y3), (.long y1)] (.long (0 : Int64))) (hq4 : y3 < y1) (F_o0_records : Fld Z h0 o0 cn2 "records" "[J" (.ref o4)) (F_o0_width : Fld Z h0 o0 cn2 "width" "I" (.int (1 : Int32))) (V_o4 : Arv Z h0 o4 kk_o4 .long (2 : Int32) [(.long (1 : Int64)), (.long (2 : Int64))] (.long (0 : Int64))) :
    MetFree l mn2 (head1 (Jvm.Cond.code mn2 prog_23_method_4_code 5 (some .long) :: ws) ({ frames := 2, cells := 0, slots := 0, locals := 37 } : Room)) (fun a U => a = #[(.ref o0), (.long y1), (.int (0 : Int32))] ∧ Z.Warmed39 U.vm ∧ U.heap = h0) (fun _ _ _ _ _ => True) (fun _ U oc_ U' => ∃ v L, oc_ = .returned v ∧ QA32 Z o0 y1 o2 y3 kk_o2 o4 kk_o4 h0 n0 v U'.heap L ∧ FrameEnd U oc_ U' L ({ frames := 2, cells := 0, slots := 0, locals := 37 } : Room).cells ({ frames := 2, cells := 0, slots := 0, locals := 37 } : Room).slots) := by
  refine MetFree.of_bodySF (plainFor_of_name pn_com_example_strict_limiter_strictlimiter_KeptWindows) hisR ?_
  intro p e s m args below meth c s₁ Bd hml0 hP hK
  obtain ⟨rfl, hZ, hh⟩ := hP
  have hx := Bd.exec
  have hby := Bd.bytes
  have hml : c.maxLocals = 5 := hml0
  have hown : s.vm.findClass cn2 = some m.cls := findClass_of_methodNamed Bd.named
  have hnm := (name_of_methodNamed Bd.named Bd.method).1
  have X0 : Stand p l e ({ frames := 2, cells := 0, slots := 0, locals := 37 } : Room) s m #[(.ref o0), (.long y1), (.int (0 : Int32))] below meth c s₁ [] 0 0 := Stand.of_body Bd
  have e0 : s₁.heap = h0 := by rw [← hh, Bd.state]; rfl
  have N0 := Fr.nil n0
  have pre0 : ∀ t, Steps p.tables e below (s₁.setTop (mkF m 0 #[.val (.ref o0), .val (.long y1), .second, .val (.int (0 : Int32)), .unset] [])) t → Steps p.tables e below (s₁.setTop (entryFrame m #[(.ref o0), (.long y1), (.int (0 : Int32))] 5)) t := fun t k => castTop (efa_prog_23_method_4_code_vvv m o0 y1 (0 : Int32)) k
  obtain ⟨T1, X1, e1, st1⟩ := getF X0 hx hZ hown (host := "") (Or.inl (wd12 hw)) Via.refl e0 F_o0_starts (g := (mkF m 1 #[.val (.ref o0), .val (.long y1), .second, .val (.int (0 : Int32)), .unset] [(.ref o0)])) rfl rfl (hb hby dd_prog_23_method_4_code_1)
  obtain ⟨T2, X2, e2, st2⟩ := getF X1 hx hZ hown (host := "") (Or.inl (wd25 hw)) Via.refl e1 F_o0_first (g := (mkF m 5 #[.val (.ref o0), .val (.long y1), .second, .val (.int (0 : Int32)), .unset] [(.ref o0), (.ref o2)])) rfl rfl (hb hby dd_prog_23_method_4_code_5)
  obtain ⟨T3, X3, e3, st3⟩ := getF X2 hx hZ hown (host := "") (Or.inl (wd27 hw)) Via.refl e2 F_o0_end (g := (mkF m 9 #[.val (.ref o0), .val (.long y1), .second, .val (.int (0 : Int32)), .unset] [(.ref o0), (.int (0 : Int32)), (.ref o2)])) rfl rfl (hb hby dd_prog_23_method_4_code_9)
  obtain ⟨_, _, ⟨T4, L4, kc4, ks4⟩, -, X4, ⟨Lc4, hQ4, l4, y4, z4⟩, st4⟩ := Jvm.LawKit.callS X3 hx (y := mn9) hown (mvT hZ (wd29 hw)) (mvT hZ (wd30 hw)) (mvT hZ (wd31 hw)) (mvT hZ (wd32 hw)) (by decide) (backOf (W := 0) (rmA33 l Z a0 hw [] o2 y1 y3 _ h0 n0 Z0 V_o2 hq4) hZ (wd32 hw) (wd31 hw) (by decide) (by decide)) (g := (mkF m 13 #[.val (.ref o0), .val (.long y1), .second, .val (.int (0 : Int32)), .unset] [(.long y1), (.int (2 : Int32)), (.int (0 : Int32)), (.ref o2)])) rfl (by rw [hml]; rfl) (argsL := [(.ref o2), (.int (0 : Int32)), (.int (2 : Int32)), (.long y1)]) (rest := []) (lenOf pd___JIIJ_I rfl) rfl (by show 2 * 0 + _ ≤ _; exact Nat.le_of_eq rfl) (hb hby dd_prog_23_method_4_code_13) (fun _ _ => ⟨rfl, e3, (by decide : 0 + 0 ≤ _), (by decide : 0 + 0 ≤ _)⟩)
  dsimp only [Pt.U, Pt.locs, Pt.cells, Pt.slots] at X4 l4 y4 z4 st4 hQ4
  subst l4 y4 z4
  obtain ⟨rfl, Nq4, eq4⟩ := hQ4
  have N4 := Fr.app N0 Nq4
  obtain ⟨T5, X5, e5, st5⟩ := getF X4 hx hZ hown (host := "") (Or.inl (wd14 hw)) Via.refl eq4 F_o0_records (g := (mkF m 24 #[.val (.ref o0), .val (.long y1), .second, .val (.int (0 : Int32)), .val (.int (1 : Int32))] [(.ref o0)])) rfl rfl (hb hby dd_prog_23_method_4_code_24)
  obtain ⟨T6, X6, e6, st6⟩ := getF X5 hx hZ hown (host := "") (Or.inl (wd18 hw)) Via.refl e5 F_o0_width (g := (mkF m 30 #[.val (.ref o0), .val (.long y1), .second, .val (.int (0 : Int32)), .val (.int (1 : Int32))] [(.ref o0), (.int (1 : Int32)), (.ref o4)])) rfl rfl (hb hby dd_prog_23_method_4_code_30)
  obtain ⟨cl7, Ar7, q7, S7, M7, HH7, GG7⟩ := id V_o4
  have hin7 : ¬ ((1 : Int32) < 0 ∨ cl7.slots.size ≤ ((1 : Int32)).toNatClampNeg) := inb_of S7 ⟨by decide, by decide⟩
  have hat7 : cl7.slots[((1 : Int32)).toNatClampNeg]? = some (.long (2 : Int64)) := Has.at HH7 hin7 rfl
  obtain ⟨lfs, lhr, lhrun, lhended, lhW, lhsame⟩ := X6.leave (v := some (.long (2 : Int64))) (fun h => by rw [Bd.returns] at h; cases h)
  refine ⟨_, _, pre0 _ ?_, lhrun, lhended, _, _, rfl, ?_, ⟨_, rfl⟩, lhW, lhsame.mono (by decide) (by decide)⟩
  · skip
    show Steps p.tables e below (s₁.setTop (mkF m 0 #[.val (.ref o0), .val (.long y1), .second, .val (.int (0 : Int32)), .unset] [])) _
    refine XS.aloadN X0.here hx rfl (hb hby dd_prog_23_method_4_code_0) rfl rfl ?_
    show Steps p.tables e below (s₁.setTop (mkF m 1 #[.val (.ref o0), .val (.long y1), .second, .val (.int (0 : Int32)), .unset] [(.ref o0)])) _
    refine st1 _ ?_
    show Steps p.tables e below (T1.setTop (mkF m 4 #[.val (.ref o0), .val (.long y1), .second, .val (.int (0 : Int32)), .unset] [(.ref o2)])) _
    refine XS.aloadN X1.here hx rfl (hb hby dd_prog_23_method_4_code_4) rfl rfl ?_
    show Steps p.tables e below (T1.setTop (mkF m 5 #[.val (.ref o0), .val (.long y1), .second, .val (.int (0 : Int32)), .unset] [(.ref o0), (.ref o2)])) _
    refine st2 _ ?_
    show Steps p.tables e below (T2.setTop (mkF m 8 #[.val (.ref o0), .val (.long y1), .second, .val (.int (0 : Int32)), .unset] [(.int (0 : Int32)), (.ref o2)])) _
    refine XS.aloadN X2.here hx rfl (hb hby dd_prog_23_method_4_code_8) rfl rfl ?_
    show Steps p.tables e below (T2.setTop (mkF m 9 #[.val (.ref o0), .val (.long y1), .second, .val (.int (0 : Int32)), .unset] [(.ref o0), (.int (0 : Int32)), (.ref o2)])) _
    refine st3 _ ?_
    show Steps p.tables e below (T3.setTop (mkF m 12 #[.val (.ref o0), .val (.long y1), .second, .val (.int (0 : Int32)), .unset] [(.int (2 : Int32)), (.int (0 : Int32)), (.ref o2)])) _
    refine XS.lloadN X3.here hx rfl (hb hby dd_prog_23_method_4_code_12) rfl ?_
    show Steps p.tables e below (T3.setTop (mkF m 13 #[.val (.ref o0), .val (.long y1), .second, .val (.int (0 : Int32)), .unset] [(.long y1), (.int (2 : Int32)), (.int (0 : Int32)), (.ref o2)])) _
    refine st4 _ ?_
    show Steps p.tables e below (T4.setTop (mkF m 16 #[.val (.ref o0), .val (.long y1), .second, .val (.int (0 : Int32)), .unset] [(.int (1 : Int32))])) _
    refine XS.istore X4.here hx rfl (hb hby dd_prog_23_method_4_code_16) rfl (l' := #[.val (.ref o0), .val (.long y1), .second, .val (.int (0 : Int32)), .val (.int (1 : Int32))]) rfl ?_
    refine XS.iload X4.here hx rfl (hb hby dd_prog_23_method_4_code_18) rfl ?_
    refine XS.ifNo X4.here hx rfl (hb hby dd_prog_23_method_4_code_20) rfl ((if0 _ _).trans (flt (by decide : ¬ ((1 : Int32) < (0 : Int32)))).1) ?_
    show Steps p.tables e below (T4.setTop (mkF m 23 #[.val (.ref o0), .val (.long y1), .second, .val (.int (0 : Int32)), .val (.int (1 : Int32))] [])) _
    refine XS.aloadN X4.here hx rfl (hb hby dd_prog_23_method_4_code_23) rfl rfl ?_
    show Steps p.tables e below (T4.setTop (mkF m 24 #[.val (.ref o0), .val (.long y1), .second, .val (.int (0 : Int32)), .val (.int (1 : Int32))] [(.ref o0)])) _
    refine st5 _ ?_
    show Steps p.tables e below (T5.setTop (mkF m 27 #[.val (.ref o0), .val (.long y1), .second, .val (.int (0 : Int32)), .val (.int (1 : Int32))] [(.ref o4)])) _
    refine XS.iload X5.here hx rfl (hb hby dd_prog_23_method_4_code_27) rfl ?_
    show Steps p.tables e below (T5.setTop (mkF m 29 #[.val (.ref o0), .val (.long y1), .second, .val (.int (0 : Int32)), .val (.int (1 : Int32))] [(.int (1 : Int32)), (.ref o4)])) _
    refine XS.aloadN X5.here hx rfl (hb hby dd_prog_23_method_4_code_29) rfl rfl ?_
    show Steps p.tables e below (T5.setTop (mkF m 30 #[.val (.ref o0), .val (.long y1), .second, .val (.int (0 : Int32)), .val (.int (1 : Int32))] [(.ref o0), (.int (1 : Int32)), (.ref o4)])) _
    refine st6 _ ?_
    show Steps p.tables e below (T6.setTop (mkF m 33 #[.val (.ref o0), .val (.long y1), .second, .val (.int (0 : Int32)), .val (.int (1 : Int32))] [(.int (1 : Int32)), (.int (1 : Int32)), (.ref o4)])) _
    refine XS.imul X6.here hx rfl (hb hby dd_prog_23_method_4_code_33) rfl ?_
    show Steps p.tables e below (T6.setTop (mkF m 34 #[.val (.ref o0), .val (.long y1), .second, .val (.int (0 : Int32)), .val (.int (1 : Int32))] [(.int (1 : Int32)), (.ref o4)])) _
    refine XS.iloadN X6.here hx rfl (hb hby dd_prog_23_method_4_code_34) rfl ?_
    refine XS.iadd X6.here hx rfl (hb hby dd_prog_23_method_4_code_35) rfl ?_
    refine X6.laload hx (j := (1 : Int32)) (v := (.long (2 : Int64))) (by (try rw [e6]); exact Ar7.1) (State.isArrayOf_alike hZ.alike Ar7.2.1) Ar7.2.2 hin7 hat7 (g := (mkF m 36 #[.val (.ref o0), .val (.long y1), .second, .val (.int (0 : Int32)), .val (.int (1 : Int32))] [(.int (1 : Int32)), (.ref o4)])) rfl rfl (hb hby dd_prog_23_method_4_code_36) _ ?_
    show Steps p.tables e below (T6.setTop (mkF m 37 #[.val (.ref o0), .val (.long y1), .second, .val (.int (0 : Int32)), .val (.int (1 : Int32))] [(.long (2 : Int64))])) _
    refine XS.goto X6.here hx rfl (pc0 := 37) (pc' := 41) rfl (hb hby dd_prog_23_method_4_code_37) (by decide) (by decide) ?_
    show Steps p.tables e below (T6.setTop (mkF m 41 #[.val (.ref o0), .val (.long y1), .second, .val (.int (0 : Int32)), .val (.int (1 : Int32))] [(.long (2 : Int64))])) _
    exact retOut X6 hx Bd.returns rfl (Or.inr (Or.inl ⟨rfl, rfl, _, rfl⟩)) (hb hby dd_prog_23_method_4_code_41) lhr
  · skip
    show QA32 Z o0 y1 o2 y3 kk_o2 o4 kk_o4 h0 n0 _ T6.heap _
    rw [e6]
    exact ⟨rfl, N4, rfl⟩
theorem dd_prog_23_method_2_code_29 : decode prog_23_method_2_code 29 = .ok (.lload_n 3, 1) := by decide +kernel
theorem dd_prog_23_method_2_code_30 : decode prog_23_method_2_code 30 = .ok (.aload_n 0, 1) := by decide +kernel
theorem dd_prog_23_method_2_code_31 : decode prog_23_method_2_code 31 = .ok (.getfield 19, 3) := by decide +kernel
theorem dd_prog_23_method_2_code_34 : decode prog_23_method_2_code 34 = .ok (.aload_n 0, 1) := by decide +kernel
theorem dd_prog_23_method_2_code_35 : decode prog_23_method_2_code 35 = .ok (.getfield 26, 3) := by decide +kernel
theorem dd_prog_23_method_2_code_38 : decode prog_23_method_2_code 38 = .ok (.laload, 1) := by decide +kernel
theorem dd_prog_23_method_2_code_39 : decode prog_23_method_2_code 39 = .ok (.lsub, 1) := by decide +kernel
theorem dd_prog_23_method_2_code_40 : decode prog_23_method_2_code 40 = .ok (.lload 5, 2) := by decide +kernel
theorem dd_prog_23_method_2_code_42 : decode prog_23_method_2_code 42 = .ok (.lcmp, 1) := by decide +kernel
theorem dd_prog_23_method_2_code_43 : decode prog_23_method_2_code 43 = .ok (.ifCond .lt 16, 3) := by decide +kernel
def QA36 (Z : State) (o0 : Addr) (y1 : Int64) (y2 : Int64) (y3 : Int64) (o4 : Addr) (y5 : Int64) (y6 : Int64) (kk_o4 : ClassId) (o7 : Addr) (y8 : Int64) (y9 : Int64) (kk_o7 : ClassId) (h0 : Heap) (n0 : Nat) (v : Option Value) (h : Heap) (L : List Loc) : Prop := v = none ∧ Fr n0 L ∧ h = h0
set_option maxRecDepth 65536 in
set_option maxHeartbeats 40000000 in
theorem rmA36 (l : Launch) (Z : State) (a0 : Array Value) (hw : ∀ d ∈ tables_1, d.before a0 Z = true) (ws : List Jvm.Cond) (o0 : Addr) (y1 : Int64) (y2 : Int64) (y3 : Int64) (o4 : Addr) (y5 : Int64) (y6 : Int64) (kk_o4 : ClassId) (o7 : Addr) (y8 : Int64) (y9 : Int64) (kk_o7 : ClassId) (h0 : Heap) (n0 : Nat) (Z0 : n0 ≤ h0.size) (F_o0_first : Fld Z h0 o0 cn2 "first" "I" (.int (0 : Int32))) (F_o0_end : Fld Z h0 o0 cn2 "end" "I" (.int (2 : Int32))) (F_o0_starts : Fld Z h0 o0 cn2 "starts" "[J" (.ref o4)) (V_o4 : Arv Z h0 o4 kk_o4 .long (2 : Int32) [(.long y5), (.long y6)] (.long (0 : Int64))) (hq4 : ¬ (y1 < (y5 / (1000000000 : Int64)))) (F_o0_decidedAt : Fld Z h0 o0 cn2 "decidedAt" "[J" (.ref o7)) (V_o7 : Arv Z h0 o7 kk_o7 .long (2 : Int32) [(.long y8), (.long y9)] (.long (0 : Int64))) (hq7 : (y2 - y8) < y3) :
    MetFree l mn4 (head1 (Jvm.Cond.code mn4 prog_23_method_2_code 7 none :: ws) ({ frames := 0, cells := 0, slots := 0, locals := 0 } : Room)) (fun a U => a = #[(.ref o0), (.long y1), (.long y2), (.long y3)] ∧ Z.Warmed39 U.vm ∧ U.heap = h0) (fun _ _ _ _ _ => True) (fun _ U oc_ U' => ∃ v L, oc_ = .returned v ∧ QA36 Z o0 y1 y2 y3 o4 y5 y6 kk_o4 o7 y8 y9 kk_o7 h0 n0 v U'.heap L ∧ FrameEnd U oc_ U' L ({ frames := 0, cells := 0, slots := 0, locals := 0 } : Room).cells ({ frames := 0, cells := 0, slots := 0, locals := 0 } : Room).slots) := by
  refine MetFree.of_bodySF (plainFor_of_name pn_com_example_strict_limiter_strictlimiter_KeptWindows) hisR ?_
  intro p e s m args below meth c s₁ Bd hml0 hP hK
  obtain ⟨rfl, hZ, hh⟩ := hP
  have hx := Bd.exec
  have hby := Bd.bytes
  have hml : c.maxLocals = 7 := hml0
  have hown : s.vm.findClass cn2 = some m.cls := findClass_of_methodNamed Bd.named
  have hnm := (name_of_methodNamed Bd.named Bd.method).1
  have X0 : Stand p l e ({ frames := 0, cells := 0, slots := 0, locals := 0 } : Room) s m #[(.ref o0), (.long y1), (.long y2), (.long y3)] below meth c s₁ [] 0 0 := Stand.of_body Bd
  have e0 : s₁.heap = h0 := by rw [← hh, Bd.state]; rfl
  have N0 := Fr.nil n0
  have pre0 : ∀ t, Steps p.tables e below (s₁.setTop (mkF m 0 #[.val (.ref o0), .val (.long y1), .second, .val (.long y2), .second, .val (.long y3), .second] [])) t → Steps p.tables e below (s₁.setTop (entryFrame m #[(.ref o0), (.long y1), (.long y2), (.long y3)] 7)) t := fun t k => castTop (efa_prog_23_method_2_code_vvvv m o0 y1 y2 y3) k
  obtain ⟨T1, X1, e1, st1⟩ := getF X0 hx hZ hown (host := "") (Or.inl (wd25 hw)) Via.refl e0 F_o0_first (g := (mkF m 1 #[.val (.ref o0), .val (.long y1), .second, .val (.long y2), .second, .val (.long y3), .second] [(.ref o0)])) rfl rfl (hb hby dd_prog_23_method_2_code_1)
  obtain ⟨T2, X2, e2, st2⟩ := getF X1 hx hZ hown (host := "") (Or.inl (wd27 hw)) Via.refl e1 F_o0_end (g := (mkF m 5 #[.val (.ref o0), .val (.long y1), .second, .val (.long y2), .second, .val (.long y3), .second] [(.ref o0), (.int (0 : Int32))])) rfl rfl (hb hby dd_prog_23_method_2_code_5)
  obtain ⟨T3, X3, e3, st3⟩ := getF X2 hx hZ hown (host := "") (Or.inl (wd12 hw)) Via.refl e2 F_o0_starts (g := (mkF m 12 #[.val (.ref o0), .val (.long y1), .second, .val (.long y2), .second, .val (.long y3), .second] [(.ref o0)])) rfl rfl (hb hby dd_prog_23_method_2_code_12)
  obtain ⟨T4, X4, e4, st4⟩ := getF X3 hx hZ hown (host := "") (Or.inl (wd25 hw)) Via.refl e3 F_o0_first (g := (mkF m 16 #[.val (.ref o0), .val (.long y1), .second, .val (.long y2), .second, .val (.long y3), .second] [(.ref o0), (.ref o4)])) rfl rfl (hb hby dd_prog_23_method_2_code_16)
  obtain ⟨cl5, Ar5, q5, S5, M5, HH5, GG5⟩ := id V_o4
  have hin5 : ¬ ((0 : Int32) < 0 ∨ cl5.slots.size ≤ ((0 : Int32)).toNatClampNeg) := inb_of S5 ⟨by decide, by decide⟩
  have hat5 : cl5.slots[((0 : Int32)).toNatClampNeg]? = some (.long y5) := Has.at HH5 hin5 rfl
  obtain ⟨T6, X6, e6, st6⟩ := getF X4 hx hZ hown (host := "") (Or.inl (wd16 hw)) Via.refl e4 F_o0_decidedAt (g := (mkF m 31 #[.val (.ref o0), .val (.long y1), .second, .val (.long y2), .second, .val (.long y3), .second] [(.ref o0), (.long y2)])) rfl rfl (hb hby dd_prog_23_method_2_code_31)
  obtain ⟨T7, X7, e7, st7⟩ := getF X6 hx hZ hown (host := "") (Or.inl (wd25 hw)) Via.refl e6 F_o0_first (g := (mkF m 35 #[.val (.ref o0), .val (.long y1), .second, .val (.long y2), .second, .val (.long y3), .second] [(.ref o0), (.ref o7), (.long y2)])) rfl rfl (hb hby dd_prog_23_method_2_code_35)
  obtain ⟨cl8, Ar8, q8, S8, M8, HH8, GG8⟩ := id V_o7
  have hin8 : ¬ ((0 : Int32) < 0 ∨ cl8.slots.size ≤ ((0 : Int32)).toNatClampNeg) := inb_of S8 ⟨by decide, by decide⟩
  have hat8 : cl8.slots[((0 : Int32)).toNatClampNeg]? = some (.long y8) := Has.at HH8 hin8 rfl
  obtain ⟨lfs, lhr, lhrun, lhended, lhW, lhsame⟩ := X7.leave (v := none) (fun _ => rfl)
  refine ⟨_, _, pre0 _ ?_, lhrun, lhended, _, _, rfl, ?_, ⟨_, rfl⟩, lhW, lhsame.mono (by decide) (by decide)⟩
  · skip
    show Steps p.tables e below (s₁.setTop (mkF m 0 #[.val (.ref o0), .val (.long y1), .second, .val (.long y2), .second, .val (.long y3), .second] [])) _
    refine XS.aloadN X0.here hx rfl (hb hby dd_prog_23_method_2_code_0) rfl rfl ?_
    show Steps p.tables e below (s₁.setTop (mkF m 1 #[.val (.ref o0), .val (.long y1), .second, .val (.long y2), .second, .val (.long y3), .second] [(.ref o0)])) _
    refine st1 _ ?_
    show Steps p.tables e below (T1.setTop (mkF m 4 #[.val (.ref o0), .val (.long y1), .second, .val (.long y2), .second, .val (.long y3), .second] [(.int (0 : Int32))])) _
    refine XS.aloadN X1.here hx rfl (hb hby dd_prog_23_method_2_code_4) rfl rfl ?_
    show Steps p.tables e below (T1.setTop (mkF m 5 #[.val (.ref o0), .val (.long y1), .second, .val (.long y2), .second, .val (.long y3), .second] [(.ref o0), (.int (0 : Int32))])) _
    refine st2 _ ?_
    show Steps p.tables e below (T2.setTop (mkF m 8 #[.val (.ref o0), .val (.long y1), .second, .val (.long y2), .second, .val (.long y3), .second] [(.int (2 : Int32)), (.int (0 : Int32))])) _
    refine XS.icmpNo X2.here hx rfl (hb hby dd_prog_23_method_2_code_8) rfl (tlt (by decide : (0 : Int32) < (2 : Int32))).2.1 ?_
    show Steps p.tables e below (T2.setTop (mkF m 11 #[.val (.ref o0), .val (.long y1), .second, .val (.long y2), .second, .val (.long y3), .second] [])) _
    refine XS.aloadN X2.here hx rfl (hb hby dd_prog_23_method_2_code_11) rfl rfl ?_
    show Steps p.tables e below (T2.setTop (mkF m 12 #[.val (.ref o0), .val (.long y1), .second, .val (.long y2), .second, .val (.long y3), .second] [(.ref o0)])) _
    refine st3 _ ?_
    show Steps p.tables e below (T3.setTop (mkF m 15 #[.val (.ref o0), .val (.long y1), .second, .val (.long y2), .second, .val (.long y3), .second] [(.ref o4)])) _
    refine XS.aloadN X3.here hx rfl (hb hby dd_prog_23_method_2_code_15) rfl rfl ?_
    show Steps p.tables e below (T3.setTop (mkF m 16 #[.val (.ref o0), .val (.long y1), .second, .val (.long y2), .second, .val (.long y3), .second] [(.ref o0), (.ref o4)])) _
    refine st4 _ ?_
    show Steps p.tables e below (T4.setTop (mkF m 19 #[.val (.ref o0), .val (.long y1), .second, .val (.long y2), .second, .val (.long y3), .second] [(.int (0 : Int32)), (.ref o4)])) _
    refine X4.laload hx (j := (0 : Int32)) (v := (.long y5)) (by (try rw [e4]); exact Ar5.1) (State.isArrayOf_alike hZ.alike Ar5.2.1) Ar5.2.2 hin5 hat5 (g := (mkF m 19 #[.val (.ref o0), .val (.long y1), .second, .val (.long y2), .second, .val (.long y3), .second] [(.int (0 : Int32)), (.ref o4)])) rfl rfl (hb hby dd_prog_23_method_2_code_19) _ ?_
    refine X4.ldc2Long hx hown (mvT hZ (wd69 hw)) (g := (mkF m 20 #[.val (.ref o0), .val (.long y1), .second, .val (.long y2), .second, .val (.long y3), .second] [(.long y5)])) rfl (hb hby dd_prog_23_method_2_code_20) _ ?_
    show Steps p.tables e below (T4.setTop (mkF m 23 #[.val (.ref o0), .val (.long y1), .second, .val (.long y2), .second, .val (.long y3), .second] [(.long (1000000000 : Int64)), (.long y5)])) _
    refine XS.ldiv X4.here hx rfl (hb hby dd_prog_23_method_2_code_23) rfl (by decide) ?_
    refine XS.lloadN X4.here hx rfl (hb hby dd_prog_23_method_2_code_24) rfl ?_
    refine XS.lcmp X4.here hx rfl (hb hby dd_prog_23_method_2_code_25) rfl ?_
    show Steps p.tables e below (T4.setTop (mkF m 26 #[.val (.ref o0), .val (.long y1), .second, .val (.long y2), .second, .val (.long y3), .second] [(.int (lcmpW (y5 / (1000000000 : Int64)) y1))])) _
    refine XS.ifNo X4.here hx rfl (hb hby dd_prog_23_method_2_code_26) rfl ((if0 _ _).trans (flt (fun q => hq4 ((lw_gt (y5 / (1000000000 : Int64)) y1).mp q))).2.2.1) ?_
    refine XS.lloadN X4.here hx rfl (hb hby dd_prog_23_method_2_code_29) rfl ?_
    refine XS.aloadN X4.here hx rfl (hb hby dd_prog_23_method_2_code_30) rfl rfl ?_
    show Steps p.tables e below (T4.setTop (mkF m 31 #[.val (.ref o0), .val (.long y1), .second, .val (.long y2), .second, .val (.long y3), .second] [(.ref o0), (.long y2)])) _
    refine st6 _ ?_
    show Steps p.tables e below (T6.setTop (mkF m 34 #[.val (.ref o0), .val (.long y1), .second, .val (.long y2), .second, .val (.long y3), .second] [(.ref o7), (.long y2)])) _
    refine XS.aloadN X6.here hx rfl (hb hby dd_prog_23_method_2_code_34) rfl rfl ?_
    show Steps p.tables e below (T6.setTop (mkF m 35 #[.val (.ref o0), .val (.long y1), .second, .val (.long y2), .second, .val (.long y3), .second] [(.ref o0), (.ref o7), (.long y2)])) _
    refine st7 _ ?_
    show Steps p.tables e below (T7.setTop (mkF m 38 #[.val (.ref o0), .val (.long y1), .second, .val (.long y2), .second, .val (.long y3), .second] [(.int (0 : Int32)), (.ref o7), (.long y2)])) _
    refine X7.laload hx (j := (0 : Int32)) (v := (.long y8)) (by (try rw [e7]); exact Ar8.1) (State.isArrayOf_alike hZ.alike Ar8.2.1) Ar8.2.2 hin8 hat8 (g := (mkF m 38 #[.val (.ref o0), .val (.long y1), .second, .val (.long y2), .second, .val (.long y3), .second] [(.int (0 : Int32)), (.ref o7), (.long y2)])) rfl rfl (hb hby dd_prog_23_method_2_code_38) _ ?_
    refine XS.lsub X7.here hx rfl (hb hby dd_prog_23_method_2_code_39) rfl ?_
    refine XS.lload X7.here hx rfl (hb hby dd_prog_23_method_2_code_40) rfl ?_
    show Steps p.tables e below (T7.setTop (mkF m 42 #[.val (.ref o0), .val (.long y1), .second, .val (.long y2), .second, .val (.long y3), .second] [(.long y3), (.long (y2 - y8))])) _
    refine XS.lcmp X7.here hx rfl (hb hby dd_prog_23_method_2_code_42) rfl ?_
    refine XS.ifYes X7.here hx rfl (pc0 := 43) (pc' := 59) rfl (hb hby dd_prog_23_method_2_code_43) rfl ((if0 _ _).trans (tlt ((lw_lt (y2 - y8) y3).mpr hq7)).1) (by decide) (by decide) ?_
    show Steps p.tables e below (T7.setTop (mkF m 59 #[.val (.ref o0), .val (.long y1), .second, .val (.long y2), .second, .val (.long y3), .second] [])) _
    exact X7.returnOut hx Bd.returns (hb hby dd_prog_23_method_2_code_59) lhr
  · skip
    show QA36 Z o0 y1 y2 y3 o4 y5 y6 kk_o4 o7 y8 y9 kk_o7 h0 n0 _ T7.heap _
    rw [e7]
    exact ⟨rfl, N0, rfl⟩
theorem dd_prog_23_method_2_code_46 : decode prog_23_method_2_code 46 = .ok (.aload_n 0, 1) := by decide +kernel
theorem dd_prog_23_method_2_code_47 : decode prog_23_method_2_code 47 = .ok (.dup, 1) := by decide +kernel
theorem dd_prog_23_method_2_code_48 : decode prog_23_method_2_code 48 = .ok (.getfield 26, 3) := by decide +kernel
theorem dd_prog_23_method_2_code_51 : decode prog_23_method_2_code 51 = .ok (.iconst 1, 1) := by decide +kernel
theorem dd_prog_23_method_2_code_52 : decode prog_23_method_2_code 52 = .ok (.iadd, 1) := by decide +kernel
theorem dd_prog_23_method_2_code_53 : decode prog_23_method_2_code 53 = .ok (.putfield 26, 3) := by decide +kernel
theorem dd_prog_23_method_2_code_56 : decode prog_23_method_2_code 56 = .ok (.goto (-56), 3) := by decide +kernel
def QA46 (Z : State) (o0 : Addr) (y1 : Int64) (y2 : Int64) (y3 : Int64) (o4 : Addr) (y5 : Int64) (y6 : Int64) (kk_o4 : ClassId) (o7 : Addr) (y8 : Int64) (y9 : Int64) (kk_o7 : ClassId) (u100 : Value) (u101 : Value) (h0 : Heap) (n0 : Nat) (v : Option Value) (h : Heap) (L : List Loc) : Prop := v = none ∧ Fr n0 L ∧ Keep h0 h [o0] ∧ Fld Z h o0 cn2 "first" "I" (.int (1 : Int32)) ∧ Fld Z h o0 cn2 "end" "I" (.int (2 : Int32)) ∧ Fld Z h o0 cn2 "starts" "[J" (.ref o4) ∧ Fld Z h o0 cn2 "decidedAt" "[J" (.ref o7) ∧ Exa Z h o0 cn2 ∧ Fld Z h o0 cn2 "records" "[J" u100 ∧ Fld Z h o0 cn2 "width" "I" u101
set_option maxRecDepth 65536 in
set_option maxHeartbeats 40000000 in
theorem rmA46 (l : Launch) (Z : State) (a0 : Array Value) (hw : ∀ d ∈ tables_1, d.before a0 Z = true) (ws : List Jvm.Cond) (o0 : Addr) (y1 : Int64) (y2 : Int64) (y3 : Int64) (o4 : Addr) (y5 : Int64) (y6 : Int64) (kk_o4 : ClassId) (o7 : Addr) (y8 : Int64) (y9 : Int64) (kk_o7 : ClassId) (u100 : Value) (u101 : Value) (h0 : Heap) (n0 : Nat) (Z0 : n0 ≤ h0.size) (F_o0_first : Fld Z h0 o0 cn2 "first" "I" (.int (0 : Int32))) (F_o0_end : Fld Z h0 o0 cn2 "end" "I" (.int (2 : Int32))) (F_o0_starts : Fld Z h0 o0 cn2 "starts" "[J" (.ref o4)) (V_o4 : Arv Z h0 o4 kk_o4 .long (2 : Int32) [(.long y5), (.long y6)] (.long (0 : Int64))) (hq4 : ¬ (y1 < (y5 / (1000000000 : Int64)))) (F_o0_decidedAt : Fld Z h0 o0 cn2 "decidedAt" "[J" (.ref o7)) (V_o7 : Arv Z h0 o7 kk_o7 .long (2 : Int32) [(.long y8), (.long y9)] (.long (0 : Int64))) (hq7 : ¬ ((y2 - y8) < y3)) (E_o0 : Exa Z h0 o0 cn2) (g_o0 : n0 ≤ o0) (ne_o4_o0 : o4 ≠ o0) (hq11 : y1 < (y6 / (1000000000 : Int64))) (F_o0_records : Fld Z h0 o0 cn2 "records" "[J" u100) (F_o0_width : Fld Z h0 o0 cn2 "width" "I" u101) :
    MetFree l mn4 (head1 (Jvm.Cond.code mn4 prog_23_method_2_code 7 none :: ws) ({ frames := 0, cells := 0, slots := 0, locals := 0 } : Room)) (fun a U => a = #[(.ref o0), (.long y1), (.long y2), (.long y3)] ∧ Z.Warmed39 U.vm ∧ U.heap = h0) (fun _ _ _ _ _ => True) (fun _ U oc_ U' => ∃ v L, oc_ = .returned v ∧ QA46 Z o0 y1 y2 y3 o4 y5 y6 kk_o4 o7 y8 y9 kk_o7 u100 u101 h0 n0 v U'.heap L ∧ FrameEnd U oc_ U' L ({ frames := 0, cells := 0, slots := 0, locals := 0 } : Room).cells ({ frames := 0, cells := 0, slots := 0, locals := 0 } : Room).slots) := by
  refine MetFree.of_bodySF (plainFor_of_name pn_com_example_strict_limiter_strictlimiter_KeptWindows) hisR ?_
  intro p e s m args below meth c s₁ Bd hml0 hP hK
  obtain ⟨rfl, hZ, hh⟩ := hP
  have hx := Bd.exec
  have hby := Bd.bytes
  have hml : c.maxLocals = 7 := hml0
  have hown : s.vm.findClass cn2 = some m.cls := findClass_of_methodNamed Bd.named
  have hnm := (name_of_methodNamed Bd.named Bd.method).1
  have X0 : Stand p l e ({ frames := 0, cells := 0, slots := 0, locals := 0 } : Room) s m #[(.ref o0), (.long y1), (.long y2), (.long y3)] below meth c s₁ [] 0 0 := Stand.of_body Bd
  have e0 : s₁.heap = h0 := by rw [← hh, Bd.state]; rfl
  have N0 := Fr.nil n0
  have pre0 : ∀ t, Steps p.tables e below (s₁.setTop (mkF m 0 #[.val (.ref o0), .val (.long y1), .second, .val (.long y2), .second, .val (.long y3), .second] [])) t → Steps p.tables e below (s₁.setTop (entryFrame m #[(.ref o0), (.long y1), (.long y2), (.long y3)] 7)) t := fun t k => castTop (efa_prog_23_method_2_code_vvvv m o0 y1 y2 y3) k
  obtain ⟨T1, X1, e1, st1⟩ := getF X0 hx hZ hown (host := "") (Or.inl (wd25 hw)) Via.refl e0 F_o0_first (g := (mkF m 1 #[.val (.ref o0), .val (.long y1), .second, .val (.long y2), .second, .val (.long y3), .second] [(.ref o0)])) rfl rfl (hb hby dd_prog_23_method_2_code_1)
  obtain ⟨T2, X2, e2, st2⟩ := getF X1 hx hZ hown (host := "") (Or.inl (wd27 hw)) Via.refl e1 F_o0_end (g := (mkF m 5 #[.val (.ref o0), .val (.long y1), .second, .val (.long y2), .second, .val (.long y3), .second] [(.ref o0), (.int (0 : Int32))])) rfl rfl (hb hby dd_prog_23_method_2_code_5)
  obtain ⟨T3, X3, e3, st3⟩ := getF X2 hx hZ hown (host := "") (Or.inl (wd12 hw)) Via.refl e2 F_o0_starts (g := (mkF m 12 #[.val (.ref o0), .val (.long y1), .second, .val (.long y2), .second, .val (.long y3), .second] [(.ref o0)])) rfl rfl (hb hby dd_prog_23_method_2_code_12)
  obtain ⟨T4, X4, e4, st4⟩ := getF X3 hx hZ hown (host := "") (Or.inl (wd25 hw)) Via.refl e3 F_o0_first (g := (mkF m 16 #[.val (.ref o0), .val (.long y1), .second, .val (.long y2), .second, .val (.long y3), .second] [(.ref o0), (.ref o4)])) rfl rfl (hb hby dd_prog_23_method_2_code_16)
  obtain ⟨cl5, Ar5, q5, S5, M5, HH5, GG5⟩ := id V_o4
  have hin5 : ¬ ((0 : Int32) < 0 ∨ cl5.slots.size ≤ ((0 : Int32)).toNatClampNeg) := inb_of S5 ⟨by decide, by decide⟩
  have hat5 : cl5.slots[((0 : Int32)).toNatClampNeg]? = some (.long y5) := Has.at HH5 hin5 rfl
  obtain ⟨T6, X6, e6, st6⟩ := getF X4 hx hZ hown (host := "") (Or.inl (wd16 hw)) Via.refl e4 F_o0_decidedAt (g := (mkF m 31 #[.val (.ref o0), .val (.long y1), .second, .val (.long y2), .second, .val (.long y3), .second] [(.ref o0), (.long y2)])) rfl rfl (hb hby dd_prog_23_method_2_code_31)
  obtain ⟨T7, X7, e7, st7⟩ := getF X6 hx hZ hown (host := "") (Or.inl (wd25 hw)) Via.refl e6 F_o0_first (g := (mkF m 35 #[.val (.ref o0), .val (.long y1), .second, .val (.long y2), .second, .val (.long y3), .second] [(.ref o0), (.ref o7), (.long y2)])) rfl rfl (hb hby dd_prog_23_method_2_code_35)
  obtain ⟨cl8, Ar8, q8, S8, M8, HH8, GG8⟩ := id V_o7
  have hin8 : ¬ ((0 : Int32) < 0 ∨ cl8.slots.size ≤ ((0 : Int32)).toNatClampNeg) := inb_of S8 ⟨by decide, by decide⟩
  have hat8 : cl8.slots[((0 : Int32)).toNatClampNeg]? = some (.long y8) := Has.at HH8 hin8 rfl
  obtain ⟨T9, X9, e9, st9⟩ := getF X7 hx hZ hown (host := "") (Or.inl (wd25 hw)) Via.refl e7 F_o0_first (g := (mkF m 48 #[.val (.ref o0), .val (.long y1), .second, .val (.long y2), .second, .val (.long y3), .second] [(.ref o0), (.ref o0)])) rfl rfl (hb hby dd_prog_23_method_2_code_48)
  obtain ⟨T10, h10, X10, e10, W10, st10⟩ := putF X9 hx hZ hown (host := "") (Or.inl (wd25 hw)) Via.refl e9 F_o0_first E_o0 (Or.inl (wd26 hw)) (wd2 hw) (ty := .int) (by decide) rfl rfl (g := (mkF m 53 #[.val (.ref o0), .val (.long y1), .second, .val (.long y2), .second, .val (.long y3), .second] [(.int (1 : Int32)), (.ref o0)])) rfl rfl (hb hby dd_prog_23_method_2_code_53)
  have N10 := Fr.snoc X10 N0 g_o0
  have Z10 : n0 ≤ h10.size := by rw [W10.size]; exact Z0
  have K10 : Keep h0 h10 [o0] := ((Keep.refl h0 [o0]).wr W10 (Or.inl (List.mem_of_getElem? (i := 0) rfl)))
  have Fw10 := F_o0_first.same W10
  obtain ⟨T11, X11, e11, st11⟩ := getF X10 hx hZ hown (host := "") (Or.inl (wd25 hw)) Via.refl e10 Fw10 (g := (mkF m 1 #[.val (.ref o0), .val (.long y1), .second, .val (.long y2), .second, .val (.long y3), .second] [(.ref o0)])) rfl rfl (hb hby dd_prog_23_method_2_code_1)
  have f12 := (F_o0_end.other W10 (Or.inr (slot_ne (Or.inl (wd28 hw)) (Or.inl (wd26 hw)) (by decide) (t := .int) (t' := .int) (by decide) (by decide))))
  obtain ⟨T13, X13, e13, st13⟩ := getF X11 hx hZ hown (host := "") (Or.inl (wd27 hw)) Via.refl e11 f12 (g := (mkF m 5 #[.val (.ref o0), .val (.long y1), .second, .val (.long y2), .second, .val (.long y3), .second] [(.ref o0), (.int (1 : Int32))])) rfl rfl (hb hby dd_prog_23_method_2_code_5)
  have f14 := (F_o0_starts.other W10 (Or.inr (slot_ne (Or.inl (wd13 hw)) (Or.inl (wd26 hw)) (by decide) (t := (.array .long)) (t' := .int) (by decide) (by decide))))
  obtain ⟨T15, X15, e15, st15⟩ := getF X13 hx hZ hown (host := "") (Or.inl (wd12 hw)) Via.refl e13 f14 (g := (mkF m 12 #[.val (.ref o0), .val (.long y1), .second, .val (.long y2), .second, .val (.long y3), .second] [(.ref o0)])) rfl rfl (hb hby dd_prog_23_method_2_code_12)
  obtain ⟨T16, X16, e16, st16⟩ := getF X15 hx hZ hown (host := "") (Or.inl (wd25 hw)) Via.refl e15 Fw10 (g := (mkF m 16 #[.val (.ref o0), .val (.long y1), .second, .val (.long y2), .second, .val (.long y3), .second] [(.ref o0), (.ref o4)])) rfl rfl (hb hby dd_prog_23_method_2_code_16)
  have f17 := (V_o4.other W10 ne_o4_o0)
  obtain ⟨cl18, Ar18, q18, S18, M18, HH18, GG18⟩ := id f17
  have hin18 : ¬ ((1 : Int32) < 0 ∨ cl18.slots.size ≤ ((1 : Int32)).toNatClampNeg) := inb_of S18 ⟨by decide, by decide⟩
  have hat18 : cl18.slots[((1 : Int32)).toNatClampNeg]? = some (.long y6) := Has.at HH18 hin18 rfl
  have f19 := (F_o0_decidedAt.other W10 (Or.inr (slot_ne (Or.inl (wd17 hw)) (Or.inl (wd26 hw)) (by decide) (t := (.array .long)) (t' := .int) (by decide) (by decide))))
  have f20 := (E_o0.wr W10)
  have f21 := (F_o0_records.other W10 (Or.inr (slot_ne (Or.inl (wd15 hw)) (Or.inl (wd26 hw)) (by decide) (t := (.array .long)) (t' := .int) (by decide) (by decide))))
  have f22 := (F_o0_width.other W10 (Or.inr (slot_ne (Or.inr (wd19 hw)) (Or.inl (wd26 hw)) (by decide) (t := .int) (t' := .int) (by decide) (by decide))))
  obtain ⟨lfs, lhr, lhrun, lhended, lhW, lhsame⟩ := X16.leave (v := none) (fun _ => rfl)
  refine ⟨_, _, pre0 _ ?_, lhrun, lhended, _, _, rfl, ?_, ⟨_, rfl⟩, lhW, lhsame.mono (by decide) (by decide)⟩
  · skip
    show Steps p.tables e below (s₁.setTop (mkF m 0 #[.val (.ref o0), .val (.long y1), .second, .val (.long y2), .second, .val (.long y3), .second] [])) _
    refine XS.aloadN X0.here hx rfl (hb hby dd_prog_23_method_2_code_0) rfl rfl ?_
    show Steps p.tables e below (s₁.setTop (mkF m 1 #[.val (.ref o0), .val (.long y1), .second, .val (.long y2), .second, .val (.long y3), .second] [(.ref o0)])) _
    refine st1 _ ?_
    show Steps p.tables e below (T1.setTop (mkF m 4 #[.val (.ref o0), .val (.long y1), .second, .val (.long y2), .second, .val (.long y3), .second] [(.int (0 : Int32))])) _
    refine XS.aloadN X1.here hx rfl (hb hby dd_prog_23_method_2_code_4) rfl rfl ?_
    show Steps p.tables e below (T1.setTop (mkF m 5 #[.val (.ref o0), .val (.long y1), .second, .val (.long y2), .second, .val (.long y3), .second] [(.ref o0), (.int (0 : Int32))])) _
    refine st2 _ ?_
    show Steps p.tables e below (T2.setTop (mkF m 8 #[.val (.ref o0), .val (.long y1), .second, .val (.long y2), .second, .val (.long y3), .second] [(.int (2 : Int32)), (.int (0 : Int32))])) _
    refine XS.icmpNo X2.here hx rfl (hb hby dd_prog_23_method_2_code_8) rfl (tlt (by decide : (0 : Int32) < (2 : Int32))).2.1 ?_
    show Steps p.tables e below (T2.setTop (mkF m 11 #[.val (.ref o0), .val (.long y1), .second, .val (.long y2), .second, .val (.long y3), .second] [])) _
    refine XS.aloadN X2.here hx rfl (hb hby dd_prog_23_method_2_code_11) rfl rfl ?_
    show Steps p.tables e below (T2.setTop (mkF m 12 #[.val (.ref o0), .val (.long y1), .second, .val (.long y2), .second, .val (.long y3), .second] [(.ref o0)])) _
    refine st3 _ ?_
    show Steps p.tables e below (T3.setTop (mkF m 15 #[.val (.ref o0), .val (.long y1), .second, .val (.long y2), .second, .val (.long y3), .second] [(.ref o4)])) _
    refine XS.aloadN X3.here hx rfl (hb hby dd_prog_23_method_2_code_15) rfl rfl ?_
    show Steps p.tables e below (T3.setTop (mkF m 16 #[.val (.ref o0), .val (.long y1), .second, .val (.long y2), .second, .val (.long y3), .second] [(.ref o0), (.ref o4)])) _
    refine st4 _ ?_
    show Steps p.tables e below (T4.setTop (mkF m 19 #[.val (.ref o0), .val (.long y1), .second, .val (.long y2), .second, .val (.long y3), .second] [(.int (0 : Int32)), (.ref o4)])) _
    refine X4.laload hx (j := (0 : Int32)) (v := (.long y5)) (by (try rw [e4]); exact Ar5.1) (State.isArrayOf_alike hZ.alike Ar5.2.1) Ar5.2.2 hin5 hat5 (g := (mkF m 19 #[.val (.ref o0), .val (.long y1), .second, .val (.long y2), .second, .val (.long y3), .second] [(.int (0 : Int32)), (.ref o4)])) rfl rfl (hb hby dd_prog_23_method_2_code_19) _ ?_
    refine X4.ldc2Long hx hown (mvT hZ (wd69 hw)) (g := (mkF m 20 #[.val (.ref o0), .val (.long y1), .second, .val (.long y2), .second, .val (.long y3), .second] [(.long y5)])) rfl (hb hby dd_prog_23_method_2_code_20) _ ?_
    show Steps p.tables e below (T4.setTop (mkF m 23 #[.val (.ref o0), .val (.long y1), .second, .val (.long y2), .second, .val (.long y3), .second] [(.long (1000000000 : Int64)), (.long y5)])) _
    refine XS.ldiv X4.here hx rfl (hb hby dd_prog_23_method_2_code_23) rfl (by decide) ?_
    refine XS.lloadN X4.here hx rfl (hb hby dd_prog_23_method_2_code_24) rfl ?_
    refine XS.lcmp X4.here hx rfl (hb hby dd_prog_23_method_2_code_25) rfl ?_
    show Steps p.tables e below (T4.setTop (mkF m 26 #[.val (.ref o0), .val (.long y1), .second, .val (.long y2), .second, .val (.long y3), .second] [(.int (lcmpW (y5 / (1000000000 : Int64)) y1))])) _
    refine XS.ifNo X4.here hx rfl (hb hby dd_prog_23_method_2_code_26) rfl ((if0 _ _).trans (flt (fun q => hq4 ((lw_gt (y5 / (1000000000 : Int64)) y1).mp q))).2.2.1) ?_
    refine XS.lloadN X4.here hx rfl (hb hby dd_prog_23_method_2_code_29) rfl ?_
    refine XS.aloadN X4.here hx rfl (hb hby dd_prog_23_method_2_code_30) rfl rfl ?_
    show Steps p.tables e below (T4.setTop (mkF m 31 #[.val (.ref o0), .val (.long y1), .second, .val (.long y2), .second, .val (.long y3), .second] [(.ref o0), (.long y2)])) _
    refine st6 _ ?_
    show Steps p.tables e below (T6.setTop (mkF m 34 #[.val (.ref o0), .val (.long y1), .second, .val (.long y2), .second, .val (.long y3), .second] [(.ref o7), (.long y2)])) _
    refine XS.aloadN X6.here hx rfl (hb hby dd_prog_23_method_2_code_34) rfl rfl ?_
    show Steps p.tables e below (T6.setTop (mkF m 35 #[.val (.ref o0), .val (.long y1), .second, .val (.long y2), .second, .val (.long y3), .second] [(.ref o0), (.ref o7), (.long y2)])) _
    refine st7 _ ?_
    show Steps p.tables e below (T7.setTop (mkF m 38 #[.val (.ref o0), .val (.long y1), .second, .val (.long y2), .second, .val (.long y3), .second] [(.int (0 : Int32)), (.ref o7), (.long y2)])) _
    refine X7.laload hx (j := (0 : Int32)) (v := (.long y8)) (by (try rw [e7]); exact Ar8.1) (State.isArrayOf_alike hZ.alike Ar8.2.1) Ar8.2.2 hin8 hat8 (g := (mkF m 38 #[.val (.ref o0), .val (.long y1), .second, .val (.long y2), .second, .val (.long y3), .second] [(.int (0 : Int32)), (.ref o7), (.long y2)])) rfl rfl (hb hby dd_prog_23_method_2_code_38) _ ?_
    refine XS.lsub X7.here hx rfl (hb hby dd_prog_23_method_2_code_39) rfl ?_
    refine XS.lload X7.here hx rfl (hb hby dd_prog_23_method_2_code_40) rfl ?_
    show Steps p.tables e below (T7.setTop (mkF m 42 #[.val (.ref o0), .val (.long y1), .second, .val (.long y2), .second, .val (.long y3), .second] [(.long y3), (.long (y2 - y8))])) _
    refine XS.lcmp X7.here hx rfl (hb hby dd_prog_23_method_2_code_42) rfl ?_
    refine XS.ifNo X7.here hx rfl (hb hby dd_prog_23_method_2_code_43) rfl ((if0 _ _).trans (flt (fun q => hq7 ((lw_lt (y2 - y8) y3).mp q))).1) ?_
    refine XS.aloadN X7.here hx rfl (hb hby dd_prog_23_method_2_code_46) rfl rfl ?_
    show Steps p.tables e below (T7.setTop (mkF m 47 #[.val (.ref o0), .val (.long y1), .second, .val (.long y2), .second, .val (.long y3), .second] [(.ref o0)])) _
    refine XS.dup X7.here hx rfl (hb hby dd_prog_23_method_2_code_47) rfl rfl ?_
    show Steps p.tables e below (T7.setTop (mkF m 48 #[.val (.ref o0), .val (.long y1), .second, .val (.long y2), .second, .val (.long y3), .second] [(.ref o0), (.ref o0)])) _
    refine st9 _ ?_
    show Steps p.tables e below (T9.setTop (mkF m 51 #[.val (.ref o0), .val (.long y1), .second, .val (.long y2), .second, .val (.long y3), .second] [(.int (0 : Int32)), (.ref o0)])) _
    refine XS.iconst X9.here hx rfl (hb hby dd_prog_23_method_2_code_51) ?_
    show Steps p.tables e below (T9.setTop (mkF m 52 #[.val (.ref o0), .val (.long y1), .second, .val (.long y2), .second, .val (.long y3), .second] [(.int (1 : Int32)), (.int (0 : Int32)), (.ref o0)])) _
    refine XS.iadd X9.here hx rfl (hb hby dd_prog_23_method_2_code_52) rfl ?_
    show Steps p.tables e below (T9.setTop (mkF m 53 #[.val (.ref o0), .val (.long y1), .second, .val (.long y2), .second, .val (.long y3), .second] [(.int (1 : Int32)), (.ref o0)])) _
    refine st10 _ ?_
    show Steps p.tables e below (T10.setTop (mkF m 56 #[.val (.ref o0), .val (.long y1), .second, .val (.long y2), .second, .val (.long y3), .second] [])) _
    refine XS.goto X10.here hx rfl (pc0 := 56) (pc' := 0) rfl (hb hby dd_prog_23_method_2_code_56) (by decide) (by decide) ?_
    show Steps p.tables e below (T10.setTop (mkF m 0 #[.val (.ref o0), .val (.long y1), .second, .val (.long y2), .second, .val (.long y3), .second] [])) _
    refine XS.aloadN X10.here hx rfl (hb hby dd_prog_23_method_2_code_0) rfl rfl ?_
    show Steps p.tables e below (T10.setTop (mkF m 1 #[.val (.ref o0), .val (.long y1), .second, .val (.long y2), .second, .val (.long y3), .second] [(.ref o0)])) _
    refine st11 _ ?_
    show Steps p.tables e below (T11.setTop (mkF m 4 #[.val (.ref o0), .val (.long y1), .second, .val (.long y2), .second, .val (.long y3), .second] [(.int (1 : Int32))])) _
    refine XS.aloadN X11.here hx rfl (hb hby dd_prog_23_method_2_code_4) rfl rfl ?_
    show Steps p.tables e below (T11.setTop (mkF m 5 #[.val (.ref o0), .val (.long y1), .second, .val (.long y2), .second, .val (.long y3), .second] [(.ref o0), (.int (1 : Int32))])) _
    refine st13 _ ?_
    show Steps p.tables e below (T13.setTop (mkF m 8 #[.val (.ref o0), .val (.long y1), .second, .val (.long y2), .second, .val (.long y3), .second] [(.int (2 : Int32)), (.int (1 : Int32))])) _
    refine XS.icmpNo X13.here hx rfl (hb hby dd_prog_23_method_2_code_8) rfl (tlt (by decide : (1 : Int32) < (2 : Int32))).2.1 ?_
    refine XS.aloadN X13.here hx rfl (hb hby dd_prog_23_method_2_code_11) rfl rfl ?_
    show Steps p.tables e below (T13.setTop (mkF m 12 #[.val (.ref o0), .val (.long y1), .second, .val (.long y2), .second, .val (.long y3), .second] [(.ref o0)])) _
    refine st15 _ ?_
    show Steps p.tables e below (T15.setTop (mkF m 15 #[.val (.ref o0), .val (.long y1), .second, .val (.long y2), .second, .val (.long y3), .second] [(.ref o4)])) _
    refine XS.aloadN X15.here hx rfl (hb hby dd_prog_23_method_2_code_15) rfl rfl ?_
    show Steps p.tables e below (T15.setTop (mkF m 16 #[.val (.ref o0), .val (.long y1), .second, .val (.long y2), .second, .val (.long y3), .second] [(.ref o0), (.ref o4)])) _
    refine st16 _ ?_
    show Steps p.tables e below (T16.setTop (mkF m 19 #[.val (.ref o0), .val (.long y1), .second, .val (.long y2), .second, .val (.long y3), .second] [(.int (1 : Int32)), (.ref o4)])) _
    refine X16.laload hx (j := (1 : Int32)) (v := (.long y6)) (by (try rw [e16]); exact Ar18.1) (State.isArrayOf_alike hZ.alike Ar18.2.1) Ar18.2.2 hin18 hat18 (g := (mkF m 19 #[.val (.ref o0), .val (.long y1), .second, .val (.long y2), .second, .val (.long y3), .second] [(.int (1 : Int32)), (.ref o4)])) rfl rfl (hb hby dd_prog_23_method_2_code_19) _ ?_
    refine X16.ldc2Long hx hown (mvT hZ (wd69 hw)) (g := (mkF m 20 #[.val (.ref o0), .val (.long y1), .second, .val (.long y2), .second, .val (.long y3), .second] [(.long y6)])) rfl (hb hby dd_prog_23_method_2_code_20) _ ?_
    refine XS.ldiv X16.here hx rfl (hb hby dd_prog_23_method_2_code_23) rfl (by decide) ?_
    show Steps p.tables e below (T16.setTop (mkF m 24 #[.val (.ref o0), .val (.long y1), .second, .val (.long y2), .second, .val (.long y3), .second] [(.long (y6 / (1000000000 : Int64)))])) _
    refine XS.lloadN X16.here hx rfl (hb hby dd_prog_23_method_2_code_24) rfl ?_
    refine XS.lcmp X16.here hx rfl (hb hby dd_prog_23_method_2_code_25) rfl ?_
    refine XS.ifYes X16.here hx rfl (pc0 := 26) (pc' := 59) rfl (hb hby dd_prog_23_method_2_code_26) rfl ((if0 _ _).trans (tlt ((lw_gt (y6 / (1000000000 : Int64)) y1).mpr hq11)).2.2.1) (by decide) (by decide) ?_
    show Steps p.tables e below (T16.setTop (mkF m 59 #[.val (.ref o0), .val (.long y1), .second, .val (.long y2), .second, .val (.long y3), .second] [])) _
    exact X16.returnOut hx Bd.returns (hb hby dd_prog_23_method_2_code_59) lhr
  · skip
    show QA46 Z o0 y1 y2 y3 o4 y5 y6 kk_o4 o7 y8 y9 kk_o7 u100 u101 h0 n0 _ T16.heap _
    rw [e16]
    exact ⟨rfl, N10, K10, Fw10, f12, f14, f19, f20, f21, f22⟩
def QA47 (Z : State) (o0 : Addr) (o1 : Addr) (y2 : Int64) (y3 : Int64) (kk_o1 : ClassId) (h0 : Heap) (n0 : Nat) (v : Option Value) (h : Heap) (L : List Loc) : Prop := v = some (.long y3) ∧ Fr n0 L ∧ h = h0
set_option maxRecDepth 65536 in
set_option maxHeartbeats 40000000 in
theorem rmA47 (l : Launch) (Z : State) (a0 : Array Value) (hw : ∀ d ∈ tables_1, d.before a0 Z = true) (ws : List Jvm.Cond) (o0 : Addr) (o1 : Addr) (y2 : Int64) (y3 : Int64) (kk_o1 : ClassId) (h0 : Heap) (n0 : Nat) (Z0 : n0 ≤ h0.size) (F_o0_first : Fld Z h0 o0 cn2 "first" "I" (.int (1 : Int32))) (F_o0_end : Fld Z h0 o0 cn2 "end" "I" (.int (2 : Int32))) (F_o0_starts : Fld Z h0 o0 cn2 "starts" "[J" (.ref o1)) (V_o1 : Arv Z h0 o1 kk_o1 .long (2 : Int32) [(.long y2), (.long y3)] (.long (0 : Int64))) :
    MetFree l mn3 (head1 (Jvm.Cond.code mn3 prog_23_method_3_code 1 (some .long) :: ws) ({ frames := 0, cells := 0, slots := 0, locals := 0 } : Room)) (fun a U => a = #[(.ref o0)] ∧ Z.Warmed39 U.vm ∧ U.heap = h0) (fun _ _ _ _ _ => True) (fun _ U oc_ U' => ∃ v L, oc_ = .returned v ∧ QA47 Z o0 o1 y2 y3 kk_o1 h0 n0 v U'.heap L ∧ FrameEnd U oc_ U' L ({ frames := 0, cells := 0, slots := 0, locals := 0 } : Room).cells ({ frames := 0, cells := 0, slots := 0, locals := 0 } : Room).slots) := by
  refine MetFree.of_bodySF (plainFor_of_name pn_com_example_strict_limiter_strictlimiter_KeptWindows) hisR ?_
  intro p e s m args below meth c s₁ Bd hml0 hP hK
  obtain ⟨rfl, hZ, hh⟩ := hP
  have hx := Bd.exec
  have hby := Bd.bytes
  have hml : c.maxLocals = 1 := hml0
  have hown : s.vm.findClass cn2 = some m.cls := findClass_of_methodNamed Bd.named
  have hnm := (name_of_methodNamed Bd.named Bd.method).1
  have X0 : Stand p l e ({ frames := 0, cells := 0, slots := 0, locals := 0 } : Room) s m #[(.ref o0)] below meth c s₁ [] 0 0 := Stand.of_body Bd
  have e0 : s₁.heap = h0 := by rw [← hh, Bd.state]; rfl
  have N0 := Fr.nil n0
  have pre0 : ∀ t, Steps p.tables e below (s₁.setTop (mkF m 0 #[.val (.ref o0)] [])) t → Steps p.tables e below (s₁.setTop (entryFrame m #[(.ref o0)] 1)) t := fun t k => castTop (efa_prog_23_method_3_code_v m o0) k
  obtain ⟨T1, X1, e1, st1⟩ := getF X0 hx hZ hown (host := "") (Or.inl (wd25 hw)) Via.refl e0 F_o0_first (g := (mkF m 1 #[.val (.ref o0)] [(.ref o0)])) rfl rfl (hb hby dd_prog_23_method_3_code_1)
  obtain ⟨T2, X2, e2, st2⟩ := getF X1 hx hZ hown (host := "") (Or.inl (wd27 hw)) Via.refl e1 F_o0_end (g := (mkF m 5 #[.val (.ref o0)] [(.ref o0), (.int (1 : Int32))])) rfl rfl (hb hby dd_prog_23_method_3_code_5)
  obtain ⟨T3, X3, e3, st3⟩ := getF X2 hx hZ hown (host := "") (Or.inl (wd12 hw)) Via.refl e2 F_o0_starts (g := (mkF m 12 #[.val (.ref o0)] [(.ref o0)])) rfl rfl (hb hby dd_prog_23_method_3_code_12)
  obtain ⟨T4, X4, e4, st4⟩ := getF X3 hx hZ hown (host := "") (Or.inl (wd25 hw)) Via.refl e3 F_o0_first (g := (mkF m 16 #[.val (.ref o0)] [(.ref o0), (.ref o1)])) rfl rfl (hb hby dd_prog_23_method_3_code_16)
  obtain ⟨cl5, Ar5, q5, S5, M5, HH5, GG5⟩ := id V_o1
  have hin5 : ¬ ((1 : Int32) < 0 ∨ cl5.slots.size ≤ ((1 : Int32)).toNatClampNeg) := inb_of S5 ⟨by decide, by decide⟩
  have hat5 : cl5.slots[((1 : Int32)).toNatClampNeg]? = some (.long y3) := Has.at HH5 hin5 rfl
  obtain ⟨lfs, lhr, lhrun, lhended, lhW, lhsame⟩ := X4.leave (v := some (.long y3)) (fun h => by rw [Bd.returns] at h; cases h)
  refine ⟨_, _, pre0 _ ?_, lhrun, lhended, _, _, rfl, ?_, ⟨_, rfl⟩, lhW, lhsame.mono (by decide) (by decide)⟩
  · skip
    show Steps p.tables e below (s₁.setTop (mkF m 0 #[.val (.ref o0)] [])) _
    refine XS.aloadN X0.here hx rfl (hb hby dd_prog_23_method_3_code_0) rfl rfl ?_
    show Steps p.tables e below (s₁.setTop (mkF m 1 #[.val (.ref o0)] [(.ref o0)])) _
    refine st1 _ ?_
    show Steps p.tables e below (T1.setTop (mkF m 4 #[.val (.ref o0)] [(.int (1 : Int32))])) _
    refine XS.aloadN X1.here hx rfl (hb hby dd_prog_23_method_3_code_4) rfl rfl ?_
    show Steps p.tables e below (T1.setTop (mkF m 5 #[.val (.ref o0)] [(.ref o0), (.int (1 : Int32))])) _
    refine st2 _ ?_
    show Steps p.tables e below (T2.setTop (mkF m 8 #[.val (.ref o0)] [(.int (2 : Int32)), (.int (1 : Int32))])) _
    refine XS.icmpNo X2.here hx rfl (hb hby dd_prog_23_method_3_code_8) rfl (tlt (by decide : (1 : Int32) < (2 : Int32))).2.1 ?_
    show Steps p.tables e below (T2.setTop (mkF m 11 #[.val (.ref o0)] [])) _
    refine XS.aloadN X2.here hx rfl (hb hby dd_prog_23_method_3_code_11) rfl rfl ?_
    show Steps p.tables e below (T2.setTop (mkF m 12 #[.val (.ref o0)] [(.ref o0)])) _
    refine st3 _ ?_
    show Steps p.tables e below (T3.setTop (mkF m 15 #[.val (.ref o0)] [(.ref o1)])) _
    refine XS.aloadN X3.here hx rfl (hb hby dd_prog_23_method_3_code_15) rfl rfl ?_
    show Steps p.tables e below (T3.setTop (mkF m 16 #[.val (.ref o0)] [(.ref o0), (.ref o1)])) _
    refine st4 _ ?_
    show Steps p.tables e below (T4.setTop (mkF m 19 #[.val (.ref o0)] [(.int (1 : Int32)), (.ref o1)])) _
    refine X4.laload hx (j := (1 : Int32)) (v := (.long y3)) (by (try rw [e4]); exact Ar5.1) (State.isArrayOf_alike hZ.alike Ar5.2.1) Ar5.2.2 hin5 hat5 (g := (mkF m 19 #[.val (.ref o0)] [(.int (1 : Int32)), (.ref o1)])) rfl rfl (hb hby dd_prog_23_method_3_code_19) _ ?_
    refine XS.goto X4.here hx rfl (pc0 := 20) (pc' := 26) rfl (hb hby dd_prog_23_method_3_code_20) (by decide) (by decide) ?_
    show Steps p.tables e below (T4.setTop (mkF m 26 #[.val (.ref o0)] [(.long y3)])) _
    exact retOut X4 hx Bd.returns rfl (Or.inr (Or.inl ⟨rfl, rfl, _, rfl⟩)) (hb hby dd_prog_23_method_3_code_26) lhr
  · skip
    show QA47 Z o0 o1 y2 y3 kk_o1 h0 n0 _ T4.heap _
    rw [e4]
    exact ⟨rfl, N0, rfl⟩
theorem dd_jdk_65_method_56_code_53 : decode jdk_65_method_56_code 53 = .ok (.iload 7, 2) := by decide +kernel
theorem dd_jdk_65_method_56_code_55 : decode jdk_65_method_56_code 55 = .ok (.iconst 1, 1) := by decide +kernel
theorem dd_jdk_65_method_56_code_56 : decode jdk_65_method_56_code 56 = .ok (.isub, 1) := by decide +kernel
theorem dd_jdk_65_method_56_code_57 : decode jdk_65_method_56_code 57 = .ok (.istore 6, 2) := by decide +kernel
theorem dd_jdk_65_method_56_code_59 : decode jdk_65_method_56_code 59 = .ok (.goto 6, 3) := by decide +kernel
def QA51 (Z : State) (o0 : Addr) (y1 : Int64) (y2 : Int64) (kk_o0 : ClassId) (h0 : Heap) (n0 : Nat) (v : Option Value) (h : Heap) (L : List Loc) : Prop := v = some (.int (-2 : Int32)) ∧ Fr n0 L ∧ h = h0
set_option maxRecDepth 65536 in
set_option maxHeartbeats 40000000 in
theorem rmA51 (l : Launch) (Z : State) (a0 : Array Value) (hw : ∀ d ∈ tables_1, d.before a0 Z = true) (ws : List Jvm.Cond) (o0 : Addr) (y1 : Int64) (y2 : Int64) (kk_o0 : ClassId) (h0 : Heap) (n0 : Nat) (Z0 : n0 ≤ h0.size) (V_o0 : Arv Z h0 o0 kk_o0 .long (2 : Int32) [(.long y1), (.long y2)] (.long (0 : Int64))) (hq1 : ¬ (y2 < y1)) (hq2 : y1 < y2) :
    MetFree l mn10 (head1 (Jvm.Cond.code mn10 jdk_65_method_56_code 10 (some .int) :: ws) ({ frames := 0, cells := 0, slots := 0, locals := 0 } : Room)) (fun a U => a = #[(.ref o0), (.int (1 : Int32)), (.int (2 : Int32)), (.long y1)] ∧ Z.Warmed39 U.vm ∧ U.heap = h0) (fun _ _ _ _ _ => True) (fun _ U oc_ U' => ∃ v L, oc_ = .returned v ∧ QA51 Z o0 y1 y2 kk_o0 h0 n0 v U'.heap L ∧ FrameEnd U oc_ U' L ({ frames := 0, cells := 0, slots := 0, locals := 0 } : Room).cells ({ frames := 0, cells := 0, slots := 0, locals := 0 } : Room).slots) := by
  refine MetFree.of_bodySF (plainFor_of_name pn_java_util_Arrays) hisR ?_
  intro p e s m args below meth c s₁ Bd hml0 hP hK
  obtain ⟨rfl, hZ, hh⟩ := hP
  have hx := Bd.exec
  have hby := Bd.bytes
  have hml : c.maxLocals = 10 := hml0
  have hown : s.vm.findClass "java/util/Arrays" = some m.cls := findClass_of_methodNamed Bd.named
  have hnm := (name_of_methodNamed Bd.named Bd.method).1
  have X0 : Stand p l e ({ frames := 0, cells := 0, slots := 0, locals := 0 } : Room) s m #[(.ref o0), (.int (1 : Int32)), (.int (2 : Int32)), (.long y1)] below meth c s₁ [] 0 0 := Stand.of_body Bd
  have e0 : s₁.heap = h0 := by rw [← hh, Bd.state]; rfl
  have N0 := Fr.nil n0
  have pre0 : ∀ t, Steps p.tables e below (s₁.setTop (mkF m 0 #[.val (.ref o0), .val (.int (1 : Int32)), .val (.int (2 : Int32)), .val (.long y1), .second, .unset, .unset, .unset, .unset, .unset] [])) t → Steps p.tables e below (s₁.setTop (entryFrame m #[(.ref o0), (.int (1 : Int32)), (.int (2 : Int32)), (.long y1)] 10)) t := fun t k => castTop (efa_jdk_65_method_56_code_vvvv m o0 (1 : Int32) (2 : Int32) y1) k
  obtain ⟨cl1, Ar1, q1, S1, M1, HH1, GG1⟩ := id V_o0
  have hin1 : ¬ ((1 : Int32) < 0 ∨ cl1.slots.size ≤ ((1 : Int32)).toNatClampNeg) := inb_of S1 ⟨by decide, by decide⟩
  have hat1 : cl1.slots[((1 : Int32)).toNatClampNeg]? = some (.long y2) := Has.at HH1 hin1 rfl
  obtain ⟨lfs, lhr, lhrun, lhended, lhW, lhsame⟩ := X0.leave (v := some (.int (-2 : Int32))) (fun h => by rw [Bd.returns] at h; cases h)
  refine ⟨_, _, pre0 _ ?_, lhrun, lhended, _, _, rfl, ?_, ⟨_, rfl⟩, lhW, lhsame.mono (by decide) (by decide)⟩
  · skip
    show Steps p.tables e below (s₁.setTop (mkF m 0 #[.val (.ref o0), .val (.int (1 : Int32)), .val (.int (2 : Int32)), .val (.long y1), .second, .unset, .unset, .unset, .unset, .unset] [])) _
    refine XS.iloadN X0.here hx rfl (hb hby dd_jdk_65_method_56_code_0) rfl ?_
    refine XS.istore X0.here hx rfl (hb hby dd_jdk_65_method_56_code_1) rfl (l' := #[.val (.ref o0), .val (.int (1 : Int32)), .val (.int (2 : Int32)), .val (.long y1), .second, .val (.int (1 : Int32)), .unset, .unset, .unset, .unset]) rfl ?_
    show Steps p.tables e below (s₁.setTop (mkF m 3 #[.val (.ref o0), .val (.int (1 : Int32)), .val (.int (2 : Int32)), .val (.long y1), .second, .val (.int (1 : Int32)), .unset, .unset, .unset, .unset] [])) _
    refine XS.iloadN X0.here hx rfl (hb hby dd_jdk_65_method_56_code_3) rfl ?_
    refine XS.iconst X0.here hx rfl (hb hby dd_jdk_65_method_56_code_4) ?_
    refine XS.isub X0.here hx rfl (hb hby dd_jdk_65_method_56_code_5) rfl ?_
    show Steps p.tables e below (s₁.setTop (mkF m 6 #[.val (.ref o0), .val (.int (1 : Int32)), .val (.int (2 : Int32)), .val (.long y1), .second, .val (.int (1 : Int32)), .unset, .unset, .unset, .unset] [(.int (1 : Int32))])) _
    refine XS.istore X0.here hx rfl (hb hby dd_jdk_65_method_56_code_6) rfl (l' := #[.val (.ref o0), .val (.int (1 : Int32)), .val (.int (2 : Int32)), .val (.long y1), .second, .val (.int (1 : Int32)), .val (.int (1 : Int32)), .unset, .unset, .unset]) rfl ?_
    refine XS.iload X0.here hx rfl (hb hby dd_jdk_65_method_56_code_8) rfl ?_
    refine XS.iload X0.here hx rfl (hb hby dd_jdk_65_method_56_code_10) rfl ?_
    show Steps p.tables e below (s₁.setTop (mkF m 12 #[.val (.ref o0), .val (.int (1 : Int32)), .val (.int (2 : Int32)), .val (.long y1), .second, .val (.int (1 : Int32)), .val (.int (1 : Int32)), .unset, .unset, .unset] [(.int (1 : Int32)), (.int (1 : Int32))])) _
    refine XS.icmpNo X0.here hx rfl (hb hby dd_jdk_65_method_56_code_12) rfl (flt (by decide : ¬ ((1 : Int32) < (1 : Int32)))).2.2.1 ?_
    refine XS.iload X0.here hx rfl (hb hby dd_jdk_65_method_56_code_15) rfl ?_
    refine XS.iload X0.here hx rfl (hb hby dd_jdk_65_method_56_code_17) rfl ?_
    show Steps p.tables e below (s₁.setTop (mkF m 19 #[.val (.ref o0), .val (.int (1 : Int32)), .val (.int (2 : Int32)), .val (.long y1), .second, .val (.int (1 : Int32)), .val (.int (1 : Int32)), .unset, .unset, .unset] [(.int (1 : Int32)), (.int (1 : Int32))])) _
    refine XS.iadd X0.here hx rfl (hb hby dd_jdk_65_method_56_code_19) rfl ?_
    refine XS.iconst X0.here hx rfl (hb hby dd_jdk_65_method_56_code_20) ?_
    refine XS.iushr X0.here hx rfl (hb hby dd_jdk_65_method_56_code_21) rfl ?_
    show Steps p.tables e below (s₁.setTop (mkF m 22 #[.val (.ref o0), .val (.int (1 : Int32)), .val (.int (2 : Int32)), .val (.long y1), .second, .val (.int (1 : Int32)), .val (.int (1 : Int32)), .unset, .unset, .unset] [(.int (1 : Int32))])) _
    refine XS.istore X0.here hx rfl (hb hby dd_jdk_65_method_56_code_22) rfl (l' := #[.val (.ref o0), .val (.int (1 : Int32)), .val (.int (2 : Int32)), .val (.long y1), .second, .val (.int (1 : Int32)), .val (.int (1 : Int32)), .val (.int (1 : Int32)), .unset, .unset]) rfl ?_
    refine XS.aloadN X0.here hx rfl (hb hby dd_jdk_65_method_56_code_24) rfl rfl ?_
    refine XS.iload X0.here hx rfl (hb hby dd_jdk_65_method_56_code_25) rfl ?_
    show Steps p.tables e below (s₁.setTop (mkF m 27 #[.val (.ref o0), .val (.int (1 : Int32)), .val (.int (2 : Int32)), .val (.long y1), .second, .val (.int (1 : Int32)), .val (.int (1 : Int32)), .val (.int (1 : Int32)), .unset, .unset] [(.int (1 : Int32)), (.ref o0)])) _
    refine X0.laload hx (j := (1 : Int32)) (v := (.long y2)) (by (try rw [e0]); exact Ar1.1) (State.isArrayOf_alike hZ.alike Ar1.2.1) Ar1.2.2 hin1 hat1 (g := (mkF m 27 #[.val (.ref o0), .val (.int (1 : Int32)), .val (.int (2 : Int32)), .val (.long y1), .second, .val (.int (1 : Int32)), .val (.int (1 : Int32)), .val (.int (1 : Int32)), .unset, .unset] [(.int (1 : Int32)), (.ref o0)])) rfl rfl (hb hby dd_jdk_65_method_56_code_27) _ ?_
    refine XS.lstore X0.here hx rfl (hb hby dd_jdk_65_method_56_code_28) rfl (l' := #[.val (.ref o0), .val (.int (1 : Int32)), .val (.int (2 : Int32)), .val (.long y1), .second, .val (.int (1 : Int32)), .val (.int (1 : Int32)), .val (.int (1 : Int32)), .val (.long y2), .second]) rfl ?_
    refine XS.lload X0.here hx rfl (hb hby dd_jdk_65_method_56_code_30) rfl ?_
    show Steps p.tables e below (s₁.setTop (mkF m 32 #[.val (.ref o0), .val (.int (1 : Int32)), .val (.int (2 : Int32)), .val (.long y1), .second, .val (.int (1 : Int32)), .val (.int (1 : Int32)), .val (.int (1 : Int32)), .val (.long y2), .second] [(.long y2)])) _
    refine XS.lloadN X0.here hx rfl (hb hby dd_jdk_65_method_56_code_32) rfl ?_
    refine XS.lcmp X0.here hx rfl (hb hby dd_jdk_65_method_56_code_33) rfl ?_
    refine XS.ifYes X0.here hx rfl (pc0 := 34) (pc' := 46) rfl (hb hby dd_jdk_65_method_56_code_34) rfl ((if0 _ _).trans (flt (fun q => hq1 ((lw_lt y2 y1).mp q))).2.1) (by decide) (by decide) ?_
    show Steps p.tables e below (s₁.setTop (mkF m 46 #[.val (.ref o0), .val (.int (1 : Int32)), .val (.int (2 : Int32)), .val (.long y1), .second, .val (.int (1 : Int32)), .val (.int (1 : Int32)), .val (.int (1 : Int32)), .val (.long y2), .second] [])) _
    refine XS.lload X0.here hx rfl (hb hby dd_jdk_65_method_56_code_46) rfl ?_
    refine XS.lloadN X0.here hx rfl (hb hby dd_jdk_65_method_56_code_48) rfl ?_
    refine XS.lcmp X0.here hx rfl (hb hby dd_jdk_65_method_56_code_49) rfl ?_
    show Steps p.tables e below (s₁.setTop (mkF m 50 #[.val (.ref o0), .val (.int (1 : Int32)), .val (.int (2 : Int32)), .val (.long y1), .second, .val (.int (1 : Int32)), .val (.int (1 : Int32)), .val (.int (1 : Int32)), .val (.long y2), .second] [(.int (lcmpW y2 y1))])) _
    refine XS.ifNo X0.here hx rfl (hb hby dd_jdk_65_method_56_code_50) rfl ((if0 _ _).trans (tlt ((lw_gt y2 y1).mpr hq2)).2.2.2) ?_
    refine XS.iload X0.here hx rfl (hb hby dd_jdk_65_method_56_code_53) rfl ?_
    refine XS.iconst X0.here hx rfl (hb hby dd_jdk_65_method_56_code_55) ?_
    show Steps p.tables e below (s₁.setTop (mkF m 56 #[.val (.ref o0), .val (.int (1 : Int32)), .val (.int (2 : Int32)), .val (.long y1), .second, .val (.int (1 : Int32)), .val (.int (1 : Int32)), .val (.int (1 : Int32)), .val (.long y2), .second] [(.int (1 : Int32)), (.int (1 : Int32))])) _
    refine XS.isub X0.here hx rfl (hb hby dd_jdk_65_method_56_code_56) rfl ?_
    refine XS.istore X0.here hx rfl (hb hby dd_jdk_65_method_56_code_57) rfl (l' := #[.val (.ref o0), .val (.int (1 : Int32)), .val (.int (2 : Int32)), .val (.long y1), .second, .val (.int (1 : Int32)), .val (.int (0 : Int32)), .val (.int (1 : Int32)), .val (.long y2), .second]) rfl ?_
    refine XS.goto X0.here hx rfl (pc0 := 59) (pc' := 65) rfl (hb hby dd_jdk_65_method_56_code_59) (by decide) (by decide) ?_
    show Steps p.tables e below (s₁.setTop (mkF m 65 #[.val (.ref o0), .val (.int (1 : Int32)), .val (.int (2 : Int32)), .val (.long y1), .second, .val (.int (1 : Int32)), .val (.int (0 : Int32)), .val (.int (1 : Int32)), .val (.long y2), .second] [])) _
    refine XS.goto X0.here hx rfl (pc0 := 65) (pc' := 8) rfl (hb hby dd_jdk_65_method_56_code_65) (by decide) (by decide) ?_
    refine XS.iload X0.here hx rfl (hb hby dd_jdk_65_method_56_code_8) rfl ?_
    refine XS.iload X0.here hx rfl (hb hby dd_jdk_65_method_56_code_10) rfl ?_
    show Steps p.tables e below (s₁.setTop (mkF m 12 #[.val (.ref o0), .val (.int (1 : Int32)), .val (.int (2 : Int32)), .val (.long y1), .second, .val (.int (1 : Int32)), .val (.int (0 : Int32)), .val (.int (1 : Int32)), .val (.long y2), .second] [(.int (0 : Int32)), (.int (1 : Int32))])) _
    refine XS.icmpYes X0.here hx rfl (pc0 := 12) (pc' := 68) rfl (hb hby dd_jdk_65_method_56_code_12) rfl (tlt (by decide : (0 : Int32) < (1 : Int32))).2.2.1 (by decide) (by decide) ?_
    refine XS.iload X0.here hx rfl (hb hby dd_jdk_65_method_56_code_68) rfl ?_
    refine XS.iconst X0.here hx rfl (hb hby dd_jdk_65_method_56_code_70) ?_
    show Steps p.tables e below (s₁.setTop (mkF m 71 #[.val (.ref o0), .val (.int (1 : Int32)), .val (.int (2 : Int32)), .val (.long y1), .second, .val (.int (1 : Int32)), .val (.int (0 : Int32)), .val (.int (1 : Int32)), .val (.long y2), .second] [(.int (1 : Int32)), (.int (1 : Int32))])) _
    refine XS.iadd X0.here hx rfl (hb hby dd_jdk_65_method_56_code_71) rfl ?_
    refine XS.ineg X0.here hx rfl (hb hby dd_jdk_65_method_56_code_72) rfl ?_
    show Steps p.tables e below (s₁.setTop (mkF m 73 #[.val (.ref o0), .val (.int (1 : Int32)), .val (.int (2 : Int32)), .val (.long y1), .second, .val (.int (1 : Int32)), .val (.int (0 : Int32)), .val (.int (1 : Int32)), .val (.long y2), .second] [(.int (-2 : Int32))])) _
    exact retI X0 hx Bd.returns (hb hby dd_jdk_65_method_56_code_73) lhr
  · skip
    show QA51 Z o0 y1 y2 kk_o0 h0 n0 _ s₁.heap _
    rw [e0]
    exact ⟨rfl, N0, rfl⟩
def QA49 (Z : State) (o0 : Addr) (y1 : Int64) (y2 : Int64) (kk_o0 : ClassId) (h0 : Heap) (n0 : Nat) (v : Option Value) (h : Heap) (L : List Loc) : Prop := v = some (.int (-2 : Int32)) ∧ Fr n0 L ∧ h = h0
set_option maxRecDepth 65536 in
set_option maxHeartbeats 40000000 in
theorem rmA49 (l : Launch) (Z : State) (a0 : Array Value) (hw : ∀ d ∈ tables_1, d.before a0 Z = true) (ws : List Jvm.Cond) (o0 : Addr) (y1 : Int64) (y2 : Int64) (kk_o0 : ClassId) (h0 : Heap) (n0 : Nat) (Z0 : n0 ≤ h0.size) (V_o0 : Arv Z h0 o0 kk_o0 .long (2 : Int32) [(.long y1), (.long y2)] (.long (0 : Int64))) (hq1 : ¬ (y2 < y1)) (hq2 : y1 < y2) :
    MetFree l mn9 (head1 (Jvm.Cond.code mn9 jdk_65_method_55_code 5 (some .int) :: ws) ({ frames := 1, cells := 0, slots := 0, locals := 21 } : Room)) (fun a U => a = #[(.ref o0), (.int (1 : Int32)), (.int (2 : Int32)), (.long y1)] ∧ Z.Warmed39 U.vm ∧ U.heap = h0) (fun _ _ _ _ _ => True) (fun _ U oc_ U' => ∃ v L, oc_ = .returned v ∧ QA49 Z o0 y1 y2 kk_o0 h0 n0 v U'.heap L ∧ FrameEnd U oc_ U' L ({ frames := 1, cells := 0, slots := 0, locals := 21 } : Room).cells ({ frames := 1, cells := 0, slots := 0, locals := 21 } : Room).slots) := by
  refine MetFree.of_bodySF (plainFor_of_name pn_java_util_Arrays) hisR ?_
  intro p e s m args below meth c s₁ Bd hml0 hP hK
  obtain ⟨rfl, hZ, hh⟩ := hP
  have hx := Bd.exec
  have hby := Bd.bytes
  have hml : c.maxLocals = 5 := hml0
  have hown : s.vm.findClass "java/util/Arrays" = some m.cls := findClass_of_methodNamed Bd.named
  have hnm := (name_of_methodNamed Bd.named Bd.method).1
  have X0 : Stand p l e ({ frames := 1, cells := 0, slots := 0, locals := 21 } : Room) s m #[(.ref o0), (.int (1 : Int32)), (.int (2 : Int32)), (.long y1)] below meth c s₁ [] 0 0 := Stand.of_body Bd
  have e0 : s₁.heap = h0 := by rw [← hh, Bd.state]; rfl
  have N0 := Fr.nil n0
  have pre0 : ∀ t, Steps p.tables e below (s₁.setTop (mkF m 0 #[.val (.ref o0), .val (.int (1 : Int32)), .val (.int (2 : Int32)), .val (.long y1), .second] [])) t → Steps p.tables e below (s₁.setTop (entryFrame m #[(.ref o0), (.int (1 : Int32)), (.int (2 : Int32)), (.long y1)] 5)) t := fun t k => castTop (efa_jdk_65_method_55_code_vvvv m o0 (1 : Int32) (2 : Int32) y1) k
  obtain ⟨cl1, Ar1, -, S1, M1, -, -⟩ := id V_o0
  obtain ⟨_, _, ⟨T2, L2, kc2, ks2⟩, -, X2, ⟨Lc2, hQ2, l2, y2, z2⟩, st2⟩ := Jvm.LawKit.callS X0 hx (y := mn12) hown (mvT hZ (wd33 hw)) (mvT hZ (wd34 hw)) (mvT hZ (wd31 hw)) (mvT hZ (wd35 hw)) (by decide) (backOf (W := 0) (rmA24 l Z a0 hw []  h0 n0 Z0 ) hZ (wd35 hw) (wd31 hw) (by decide) (by decide)) (g := (mkF m 4 #[.val (.ref o0), .val (.int (1 : Int32)), .val (.int (2 : Int32)), .val (.long y1), .second] [(.int (2 : Int32)), (.int (1 : Int32)), (.int (2 : Int32))])) rfl (by rw [hml]; rfl) (argsL := [(.int (2 : Int32)), (.int (1 : Int32)), (.int (2 : Int32))]) (rest := []) (lenOf pd__III_V rfl) rfl (by show 2 * 0 + _ ≤ _; exact Nat.le_of_eq rfl) (hb hby dd_jdk_65_method_55_code_4) (fun _ _ => ⟨rfl, e0, (by decide : 0 + 0 ≤ _), (by decide : 0 + 0 ≤ _)⟩)
  dsimp only [Pt.U, Pt.locs, Pt.cells, Pt.slots] at X2 l2 y2 z2 st2 hQ2
  subst l2 y2 z2
  obtain ⟨rfl, Nq2, eq2⟩ := hQ2
  have N2 := Fr.app N0 Nq2
  obtain ⟨_, _, ⟨T3, L3, kc3, ks3⟩, -, X3, ⟨Lc3, hQ3, l3, y3, z3⟩, st3⟩ := Jvm.LawKit.callS X2 hx (y := mn10) hown (mvT hZ (wd36 hw)) (mvT hZ (wd37 hw)) (mvT hZ (wd31 hw)) (mvT hZ (wd38 hw)) (by decide) (backOf (W := 0) (rmA51 l Z a0 hw [] o0 y1 y2 _ h0 n0 Z0 V_o0 hq1 hq2) hZ (wd38 hw) (wd31 hw) (by decide) (by decide)) (g := (mkF m 11 #[.val (.ref o0), .val (.int (1 : Int32)), .val (.int (2 : Int32)), .val (.long y1), .second] [(.long y1), (.int (2 : Int32)), (.int (1 : Int32)), (.ref o0)])) rfl (by rw [hml]; rfl) (argsL := [(.ref o0), (.int (1 : Int32)), (.int (2 : Int32)), (.long y1)]) (rest := []) (lenOf pd___JIIJ_I rfl) rfl (by show 2 * 0 + _ ≤ _; exact Nat.le_of_eq rfl) (hb hby dd_jdk_65_method_55_code_11) (fun _ _ => ⟨rfl, eq2, (by decide : 0 + 0 ≤ _), (by decide : 0 + 0 ≤ _)⟩)
  dsimp only [Pt.U, Pt.locs, Pt.cells, Pt.slots] at X3 l3 y3 z3 st3 hQ3
  subst l3 y3 z3
  obtain ⟨rfl, Nq3, eq3⟩ := hQ3
  have N3 := Fr.app N2 Nq3
  obtain ⟨lfs, lhr, lhrun, lhended, lhW, lhsame⟩ := X3.leave (v := some (.int (-2 : Int32))) (fun h => by rw [Bd.returns] at h; cases h)
  refine ⟨_, _, pre0 _ ?_, lhrun, lhended, _, _, rfl, ?_, ⟨_, rfl⟩, lhW, lhsame.mono (by decide) (by decide)⟩
  · skip
    show Steps p.tables e below (s₁.setTop (mkF m 0 #[.val (.ref o0), .val (.int (1 : Int32)), .val (.int (2 : Int32)), .val (.long y1), .second] [])) _
    refine XS.aloadN X0.here hx rfl (hb hby dd_jdk_65_method_55_code_0) rfl rfl ?_
    refine X0.arraylength hx (by (try rw [e0]); exact Ar1.1) (State.isArrayOf_alike hZ.alike Ar1.2.1) (g := (mkF m 1 #[.val (.ref o0), .val (.int (1 : Int32)), .val (.int (2 : Int32)), .val (.long y1), .second] [(.ref o0)])) rfl rfl (hb hby dd_jdk_65_method_55_code_1) _ ?_
    rw [len_of S1 M1]
    show Steps p.tables e below (s₁.setTop (mkF m 2 #[.val (.ref o0), .val (.int (1 : Int32)), .val (.int (2 : Int32)), .val (.long y1), .second] [(.int (2 : Int32))])) _
    refine XS.iloadN X0.here hx rfl (hb hby dd_jdk_65_method_55_code_2) rfl ?_
    refine XS.iloadN X0.here hx rfl (hb hby dd_jdk_65_method_55_code_3) rfl ?_
    show Steps p.tables e below (s₁.setTop (mkF m 4 #[.val (.ref o0), .val (.int (1 : Int32)), .val (.int (2 : Int32)), .val (.long y1), .second] [(.int (2 : Int32)), (.int (1 : Int32)), (.int (2 : Int32))])) _
    refine st2 _ ?_
    show Steps p.tables e below (T2.setTop (mkF m 7 #[.val (.ref o0), .val (.int (1 : Int32)), .val (.int (2 : Int32)), .val (.long y1), .second] [])) _
    refine XS.aloadN X2.here hx rfl (hb hby dd_jdk_65_method_55_code_7) rfl rfl ?_
    refine XS.iloadN X2.here hx rfl (hb hby dd_jdk_65_method_55_code_8) rfl ?_
    refine XS.iloadN X2.here hx rfl (hb hby dd_jdk_65_method_55_code_9) rfl ?_
    show Steps p.tables e below (T2.setTop (mkF m 10 #[.val (.ref o0), .val (.int (1 : Int32)), .val (.int (2 : Int32)), .val (.long y1), .second] [(.int (2 : Int32)), (.int (1 : Int32)), (.ref o0)])) _
    refine XS.lloadN X2.here hx rfl (hb hby dd_jdk_65_method_55_code_10) rfl ?_
    show Steps p.tables e below (T2.setTop (mkF m 11 #[.val (.ref o0), .val (.int (1 : Int32)), .val (.int (2 : Int32)), .val (.long y1), .second] [(.long y1), (.int (2 : Int32)), (.int (1 : Int32)), (.ref o0)])) _
    refine st3 _ ?_
    show Steps p.tables e below (T3.setTop (mkF m 14 #[.val (.ref o0), .val (.int (1 : Int32)), .val (.int (2 : Int32)), .val (.long y1), .second] [(.int (-2 : Int32))])) _
    exact retI X3 hx Bd.returns (hb hby dd_jdk_65_method_55_code_14) lhr
  · skip
    show QA49 Z o0 y1 y2 kk_o0 h0 n0 _ T3.heap _
    rw [eq3]
    exact ⟨rfl, N3, rfl⟩
theorem dd_prog_23_method_4_code_40 : decode prog_23_method_4_code 40 = .ok (.lconst 0, 1) := by decide +kernel
def QA48 (Z : State) (o0 : Addr) (y1 : Int64) (o2 : Addr) (y3 : Int64) (kk_o2 : ClassId) (h0 : Heap) (n0 : Nat) (v : Option Value) (h : Heap) (L : List Loc) : Prop := v = some (.long (0 : Int64)) ∧ Fr n0 L ∧ h = h0
set_option maxRecDepth 65536 in
set_option maxHeartbeats 40000000 in
theorem rmA48 (l : Launch) (Z : State) (a0 : Array Value) (hw : ∀ d ∈ tables_1, d.before a0 Z = true) (ws : List Jvm.Cond) (o0 : Addr) (y1 : Int64) (o2 : Addr) (y3 : Int64) (kk_o2 : ClassId) (h0 : Heap) (n0 : Nat) (Z0 : n0 ≤ h0.size) (F_o0_starts : Fld Z h0 o0 cn2 "starts" "[J" (.ref o2)) (F_o0_first : Fld Z h0 o0 cn2 "first" "I" (.int (1 : Int32))) (F_o0_end : Fld Z h0 o0 cn2 "end" "I" (.int (2 : Int32))) (V_o2 : Arv Z h0 o2 kk_o2 .long (2 : Int32) [(.long y1), (.long y3)] (.long (0 : Int64))) (hq4 : ¬ (y3 < y1)) (hq5 : y1 < y3) :
    MetFree l mn2 (head1 (Jvm.Cond.code mn2 prog_23_method_4_code 5 (some .long) :: ws) ({ frames := 2, cells := 0, slots := 0, locals := 37 } : Room)) (fun a U => a = #[(.ref o0), (.long y1), (.int (0 : Int32))] ∧ Z.Warmed39 U.vm ∧ U.heap = h0) (fun _ _ _ _ _ => True) (fun _ U oc_ U' => ∃ v L, oc_ = .returned v ∧ QA48 Z o0 y1 o2 y3 kk_o2 h0 n0 v U'.heap L ∧ FrameEnd U oc_ U' L ({ frames := 2, cells := 0, slots := 0, locals := 37 } : Room).cells ({ frames := 2, cells := 0, slots := 0, locals := 37 } : Room).slots) := by
  refine MetFree.of_bodySF (plainFor_of_name pn_com_example_strict_limiter_strictlimiter_KeptWindows) hisR ?_
  intro p e s m args below meth c s₁ Bd hml0 hP hK
  obtain ⟨rfl, hZ, hh⟩ := hP
  have hx := Bd.exec
  have hby := Bd.bytes
  have hml : c.maxLocals = 5 := hml0
  have hown : s.vm.findClass cn2 = some m.cls := findClass_of_methodNamed Bd.named
  have hnm := (name_of_methodNamed Bd.named Bd.method).1
  have X0 : Stand p l e ({ frames := 2, cells := 0, slots := 0, locals := 37 } : Room) s m #[(.ref o0), (.long y1), (.int (0 : Int32))] below meth c s₁ [] 0 0 := Stand.of_body Bd
  have e0 : s₁.heap = h0 := by rw [← hh, Bd.state]; rfl
  have N0 := Fr.nil n0
  have pre0 : ∀ t, Steps p.tables e below (s₁.setTop (mkF m 0 #[.val (.ref o0), .val (.long y1), .second, .val (.int (0 : Int32)), .unset] [])) t → Steps p.tables e below (s₁.setTop (entryFrame m #[(.ref o0), (.long y1), (.int (0 : Int32))] 5)) t := fun t k => castTop (efa_prog_23_method_4_code_vvv m o0 y1 (0 : Int32)) k
  obtain ⟨T1, X1, e1, st1⟩ := getF X0 hx hZ hown (host := "") (Or.inl (wd12 hw)) Via.refl e0 F_o0_starts (g := (mkF m 1 #[.val (.ref o0), .val (.long y1), .second, .val (.int (0 : Int32)), .unset] [(.ref o0)])) rfl rfl (hb hby dd_prog_23_method_4_code_1)
  obtain ⟨T2, X2, e2, st2⟩ := getF X1 hx hZ hown (host := "") (Or.inl (wd25 hw)) Via.refl e1 F_o0_first (g := (mkF m 5 #[.val (.ref o0), .val (.long y1), .second, .val (.int (0 : Int32)), .unset] [(.ref o0), (.ref o2)])) rfl rfl (hb hby dd_prog_23_method_4_code_5)
  obtain ⟨T3, X3, e3, st3⟩ := getF X2 hx hZ hown (host := "") (Or.inl (wd27 hw)) Via.refl e2 F_o0_end (g := (mkF m 9 #[.val (.ref o0), .val (.long y1), .second, .val (.int (0 : Int32)), .unset] [(.ref o0), (.int (1 : Int32)), (.ref o2)])) rfl rfl (hb hby dd_prog_23_method_4_code_9)
  obtain ⟨_, _, ⟨T4, L4, kc4, ks4⟩, -, X4, ⟨Lc4, hQ4, l4, y4, z4⟩, st4⟩ := Jvm.LawKit.callS X3 hx (y := mn9) hown (mvT hZ (wd29 hw)) (mvT hZ (wd30 hw)) (mvT hZ (wd31 hw)) (mvT hZ (wd32 hw)) (by decide) (backOf (W := 0) (rmA49 l Z a0 hw [] o2 y1 y3 _ h0 n0 Z0 V_o2 hq4 hq5) hZ (wd32 hw) (wd31 hw) (by decide) (by decide)) (g := (mkF m 13 #[.val (.ref o0), .val (.long y1), .second, .val (.int (0 : Int32)), .unset] [(.long y1), (.int (2 : Int32)), (.int (1 : Int32)), (.ref o2)])) rfl (by rw [hml]; rfl) (argsL := [(.ref o2), (.int (1 : Int32)), (.int (2 : Int32)), (.long y1)]) (rest := []) (lenOf pd___JIIJ_I rfl) rfl (by show 2 * 0 + _ ≤ _; exact Nat.le_of_eq rfl) (hb hby dd_prog_23_method_4_code_13) (fun _ _ => ⟨rfl, e3, (by decide : 0 + 0 ≤ _), (by decide : 0 + 0 ≤ _)⟩)
  dsimp only [Pt.U, Pt.locs, Pt.cells, Pt.slots] at X4 l4 y4 z4 st4 hQ4
  subst l4 y4 z4
  obtain ⟨rfl, Nq4, eq4⟩ := hQ4
  have N4 := Fr.app N0 Nq4
  obtain ⟨lfs, lhr, lhrun, lhended, lhW, lhsame⟩ := X4.leave (v := some (.long (0 : Int64))) (fun h => by rw [Bd.returns] at h; cases h)
  refine ⟨_, _, pre0 _ ?_, lhrun, lhended, _, _, rfl, ?_, ⟨_, rfl⟩, lhW, lhsame.mono (by decide) (by decide)⟩
  · skip
    show Steps p.tables e below (s₁.setTop (mkF m 0 #[.val (.ref o0), .val (.long y1), .second, .val (.int (0 : Int32)), .unset] [])) _
    refine XS.aloadN X0.here hx rfl (hb hby dd_prog_23_method_4_code_0) rfl rfl ?_
    show Steps p.tables e below (s₁.setTop (mkF m 1 #[.val (.ref o0), .val (.long y1), .second, .val (.int (0 : Int32)), .unset] [(.ref o0)])) _
    refine st1 _ ?_
    show Steps p.tables e below (T1.setTop (mkF m 4 #[.val (.ref o0), .val (.long y1), .second, .val (.int (0 : Int32)), .unset] [(.ref o2)])) _
    refine XS.aloadN X1.here hx rfl (hb hby dd_prog_23_method_4_code_4) rfl rfl ?_
    show Steps p.tables e below (T1.setTop (mkF m 5 #[.val (.ref o0), .val (.long y1), .second, .val (.int (0 : Int32)), .unset] [(.ref o0), (.ref o2)])) _
    refine st2 _ ?_
    show Steps p.tables e below (T2.setTop (mkF m 8 #[.val (.ref o0), .val (.long y1), .second, .val (.int (0 : Int32)), .unset] [(.int (1 : Int32)), (.ref o2)])) _
    refine XS.aloadN X2.here hx rfl (hb hby dd_prog_23_method_4_code_8) rfl rfl ?_
    show Steps p.tables e below (T2.setTop (mkF m 9 #[.val (.ref o0), .val (.long y1), .second, .val (.int (0 : Int32)), .unset] [(.ref o0), (.int (1 : Int32)), (.ref o2)])) _
    refine st3 _ ?_
    show Steps p.tables e below (T3.setTop (mkF m 12 #[.val (.ref o0), .val (.long y1), .second, .val (.int (0 : Int32)), .unset] [(.int (2 : Int32)), (.int (1 : Int32)), (.ref o2)])) _
    refine XS.lloadN X3.here hx rfl (hb hby dd_prog_23_method_4_code_12) rfl ?_
    show Steps p.tables e below (T3.setTop (mkF m 13 #[.val (.ref o0), .val (.long y1), .second, .val (.int (0 : Int32)), .unset] [(.long y1), (.int (2 : Int32)), (.int (1 : Int32)), (.ref o2)])) _
    refine st4 _ ?_
    show Steps p.tables e below (T4.setTop (mkF m 16 #[.val (.ref o0), .val (.long y1), .second, .val (.int (0 : Int32)), .unset] [(.int (-2 : Int32))])) _
    refine XS.istore X4.here hx rfl (hb hby dd_prog_23_method_4_code_16) rfl (l' := #[.val (.ref o0), .val (.long y1), .second, .val (.int (0 : Int32)), .val (.int (-2 : Int32))]) rfl ?_
    refine XS.iload X4.here hx rfl (hb hby dd_prog_23_method_4_code_18) rfl ?_
    refine XS.ifYes X4.here hx rfl (pc0 := 20) (pc' := 40) rfl (hb hby dd_prog_23_method_4_code_20) rfl ((if0 _ _).trans (tlt (by decide : (-2 : Int32) < (0 : Int32))).1) (by decide) (by decide) ?_
    show Steps p.tables e below (T4.setTop (mkF m 40 #[.val (.ref o0), .val (.long y1), .second, .val (.int (0 : Int32)), .val (.int (-2 : Int32))] [])) _
    refine XS.lconst X4.here hx rfl (hb hby dd_prog_23_method_4_code_40) ?_
    show Steps p.tables e below (T4.setTop (mkF m 41 #[.val (.ref o0), .val (.long y1), .second, .val (.int (0 : Int32)), .val (.int (-2 : Int32))] [(.long (0 : Int64))])) _
    exact retOut X4 hx Bd.returns rfl (Or.inr (Or.inl ⟨rfl, rfl, _, rfl⟩)) (hb hby dd_prog_23_method_4_code_41) lhr
  · skip
    show QA48 Z o0 y1 o2 y3 kk_o2 h0 n0 _ T4.heap _
    rw [eq4]
    exact ⟨rfl, N4, rfl⟩
def QA55 (Z : State) (o0 : Addr) (y1 : Int64) (y2 : Int64) (kk_o0 : ClassId) (h0 : Heap) (n0 : Nat) (v : Option Value) (h : Heap) (L : List Loc) : Prop := v = some (.int (1 : Int32)) ∧ Fr n0 L ∧ h = h0
set_option maxRecDepth 65536 in
set_option maxHeartbeats 40000000 in
theorem rmA55 (l : Launch) (Z : State) (a0 : Array Value) (hw : ∀ d ∈ tables_1, d.before a0 Z = true) (ws : List Jvm.Cond) (o0 : Addr) (y1 : Int64) (y2 : Int64) (kk_o0 : ClassId) (h0 : Heap) (n0 : Nat) (Z0 : n0 ≤ h0.size) (V_o0 : Arv Z h0 o0 kk_o0 .long (2 : Int32) [(.long y2), (.long y1)] (.long (0 : Int64))) :
    MetFree l mn10 (head1 (Jvm.Cond.code mn10 jdk_65_method_56_code 10 (some .int) :: ws) ({ frames := 0, cells := 0, slots := 0, locals := 0 } : Room)) (fun a U => a = #[(.ref o0), (.int (1 : Int32)), (.int (2 : Int32)), (.long y1)] ∧ Z.Warmed39 U.vm ∧ U.heap = h0) (fun _ _ _ _ _ => True) (fun _ U oc_ U' => ∃ v L, oc_ = .returned v ∧ QA55 Z o0 y1 y2 kk_o0 h0 n0 v U'.heap L ∧ FrameEnd U oc_ U' L ({ frames := 0, cells := 0, slots := 0, locals := 0 } : Room).cells ({ frames := 0, cells := 0, slots := 0, locals := 0 } : Room).slots) := by
  refine MetFree.of_bodySF (plainFor_of_name pn_java_util_Arrays) hisR ?_
  intro p e s m args below meth c s₁ Bd hml0 hP hK
  obtain ⟨rfl, hZ, hh⟩ := hP
  have hx := Bd.exec
  have hby := Bd.bytes
  have hml : c.maxLocals = 10 := hml0
  have hown : s.vm.findClass "java/util/Arrays" = some m.cls := findClass_of_methodNamed Bd.named
  have hnm := (name_of_methodNamed Bd.named Bd.method).1
  have X0 : Stand p l e ({ frames := 0, cells := 0, slots := 0, locals := 0 } : Room) s m #[(.ref o0), (.int (1 : Int32)), (.int (2 : Int32)), (.long y1)] below meth c s₁ [] 0 0 := Stand.of_body Bd
  have e0 : s₁.heap = h0 := by rw [← hh, Bd.state]; rfl
  have N0 := Fr.nil n0
  have pre0 : ∀ t, Steps p.tables e below (s₁.setTop (mkF m 0 #[.val (.ref o0), .val (.int (1 : Int32)), .val (.int (2 : Int32)), .val (.long y1), .second, .unset, .unset, .unset, .unset, .unset] [])) t → Steps p.tables e below (s₁.setTop (entryFrame m #[(.ref o0), (.int (1 : Int32)), (.int (2 : Int32)), (.long y1)] 10)) t := fun t k => castTop (efa_jdk_65_method_56_code_vvvv m o0 (1 : Int32) (2 : Int32) y1) k
  obtain ⟨cl1, Ar1, q1, S1, M1, HH1, GG1⟩ := id V_o0
  have hin1 : ¬ ((1 : Int32) < 0 ∨ cl1.slots.size ≤ ((1 : Int32)).toNatClampNeg) := inb_of S1 ⟨by decide, by decide⟩
  have hat1 : cl1.slots[((1 : Int32)).toNatClampNeg]? = some (.long y1) := Has.at HH1 hin1 rfl
  obtain ⟨lfs, lhr, lhrun, lhended, lhW, lhsame⟩ := X0.leave (v := some (.int (1 : Int32))) (fun h => by rw [Bd.returns] at h; cases h)
  refine ⟨_, _, pre0 _ ?_, lhrun, lhended, _, _, rfl, ?_, ⟨_, rfl⟩, lhW, lhsame.mono (by decide) (by decide)⟩
  · skip
    show Steps p.tables e below (s₁.setTop (mkF m 0 #[.val (.ref o0), .val (.int (1 : Int32)), .val (.int (2 : Int32)), .val (.long y1), .second, .unset, .unset, .unset, .unset, .unset] [])) _
    refine XS.iloadN X0.here hx rfl (hb hby dd_jdk_65_method_56_code_0) rfl ?_
    refine XS.istore X0.here hx rfl (hb hby dd_jdk_65_method_56_code_1) rfl (l' := #[.val (.ref o0), .val (.int (1 : Int32)), .val (.int (2 : Int32)), .val (.long y1), .second, .val (.int (1 : Int32)), .unset, .unset, .unset, .unset]) rfl ?_
    show Steps p.tables e below (s₁.setTop (mkF m 3 #[.val (.ref o0), .val (.int (1 : Int32)), .val (.int (2 : Int32)), .val (.long y1), .second, .val (.int (1 : Int32)), .unset, .unset, .unset, .unset] [])) _
    refine XS.iloadN X0.here hx rfl (hb hby dd_jdk_65_method_56_code_3) rfl ?_
    refine XS.iconst X0.here hx rfl (hb hby dd_jdk_65_method_56_code_4) ?_
    refine XS.isub X0.here hx rfl (hb hby dd_jdk_65_method_56_code_5) rfl ?_
    show Steps p.tables e below (s₁.setTop (mkF m 6 #[.val (.ref o0), .val (.int (1 : Int32)), .val (.int (2 : Int32)), .val (.long y1), .second, .val (.int (1 : Int32)), .unset, .unset, .unset, .unset] [(.int (1 : Int32))])) _
    refine XS.istore X0.here hx rfl (hb hby dd_jdk_65_method_56_code_6) rfl (l' := #[.val (.ref o0), .val (.int (1 : Int32)), .val (.int (2 : Int32)), .val (.long y1), .second, .val (.int (1 : Int32)), .val (.int (1 : Int32)), .unset, .unset, .unset]) rfl ?_
    refine XS.iload X0.here hx rfl (hb hby dd_jdk_65_method_56_code_8) rfl ?_
    refine XS.iload X0.here hx rfl (hb hby dd_jdk_65_method_56_code_10) rfl ?_
    show Steps p.tables e below (s₁.setTop (mkF m 12 #[.val (.ref o0), .val (.int (1 : Int32)), .val (.int (2 : Int32)), .val (.long y1), .second, .val (.int (1 : Int32)), .val (.int (1 : Int32)), .unset, .unset, .unset] [(.int (1 : Int32)), (.int (1 : Int32))])) _
    refine XS.icmpNo X0.here hx rfl (hb hby dd_jdk_65_method_56_code_12) rfl (flt (by decide : ¬ ((1 : Int32) < (1 : Int32)))).2.2.1 ?_
    refine XS.iload X0.here hx rfl (hb hby dd_jdk_65_method_56_code_15) rfl ?_
    refine XS.iload X0.here hx rfl (hb hby dd_jdk_65_method_56_code_17) rfl ?_
    show Steps p.tables e below (s₁.setTop (mkF m 19 #[.val (.ref o0), .val (.int (1 : Int32)), .val (.int (2 : Int32)), .val (.long y1), .second, .val (.int (1 : Int32)), .val (.int (1 : Int32)), .unset, .unset, .unset] [(.int (1 : Int32)), (.int (1 : Int32))])) _
    refine XS.iadd X0.here hx rfl (hb hby dd_jdk_65_method_56_code_19) rfl ?_
    refine XS.iconst X0.here hx rfl (hb hby dd_jdk_65_method_56_code_20) ?_
    refine XS.iushr X0.here hx rfl (hb hby dd_jdk_65_method_56_code_21) rfl ?_
    show Steps p.tables e below (s₁.setTop (mkF m 22 #[.val (.ref o0), .val (.int (1 : Int32)), .val (.int (2 : Int32)), .val (.long y1), .second, .val (.int (1 : Int32)), .val (.int (1 : Int32)), .unset, .unset, .unset] [(.int (1 : Int32))])) _
    refine XS.istore X0.here hx rfl (hb hby dd_jdk_65_method_56_code_22) rfl (l' := #[.val (.ref o0), .val (.int (1 : Int32)), .val (.int (2 : Int32)), .val (.long y1), .second, .val (.int (1 : Int32)), .val (.int (1 : Int32)), .val (.int (1 : Int32)), .unset, .unset]) rfl ?_
    refine XS.aloadN X0.here hx rfl (hb hby dd_jdk_65_method_56_code_24) rfl rfl ?_
    refine XS.iload X0.here hx rfl (hb hby dd_jdk_65_method_56_code_25) rfl ?_
    show Steps p.tables e below (s₁.setTop (mkF m 27 #[.val (.ref o0), .val (.int (1 : Int32)), .val (.int (2 : Int32)), .val (.long y1), .second, .val (.int (1 : Int32)), .val (.int (1 : Int32)), .val (.int (1 : Int32)), .unset, .unset] [(.int (1 : Int32)), (.ref o0)])) _
    refine X0.laload hx (j := (1 : Int32)) (v := (.long y1)) (by (try rw [e0]); exact Ar1.1) (State.isArrayOf_alike hZ.alike Ar1.2.1) Ar1.2.2 hin1 hat1 (g := (mkF m 27 #[.val (.ref o0), .val (.int (1 : Int32)), .val (.int (2 : Int32)), .val (.long y1), .second, .val (.int (1 : Int32)), .val (.int (1 : Int32)), .val (.int (1 : Int32)), .unset, .unset] [(.int (1 : Int32)), (.ref o0)])) rfl rfl (hb hby dd_jdk_65_method_56_code_27) _ ?_
    refine XS.lstore X0.here hx rfl (hb hby dd_jdk_65_method_56_code_28) rfl (l' := #[.val (.ref o0), .val (.int (1 : Int32)), .val (.int (2 : Int32)), .val (.long y1), .second, .val (.int (1 : Int32)), .val (.int (1 : Int32)), .val (.int (1 : Int32)), .val (.long y1), .second]) rfl ?_
    refine XS.lload X0.here hx rfl (hb hby dd_jdk_65_method_56_code_30) rfl ?_
    show Steps p.tables e below (s₁.setTop (mkF m 32 #[.val (.ref o0), .val (.int (1 : Int32)), .val (.int (2 : Int32)), .val (.long y1), .second, .val (.int (1 : Int32)), .val (.int (1 : Int32)), .val (.int (1 : Int32)), .val (.long y1), .second] [(.long y1)])) _
    refine XS.lloadN X0.here hx rfl (hb hby dd_jdk_65_method_56_code_32) rfl ?_
    refine XS.lcmp X0.here hx rfl (hb hby dd_jdk_65_method_56_code_33) rfl ?_
    refine XS.ifYes X0.here hx rfl (pc0 := 34) (pc' := 46) rfl (hb hby dd_jdk_65_method_56_code_34) rfl ((if0 _ _).trans (flt (fun q => (own_irr64 y1) ((lw_lt y1 y1).mp q))).2.1) (by decide) (by decide) ?_
    show Steps p.tables e below (s₁.setTop (mkF m 46 #[.val (.ref o0), .val (.int (1 : Int32)), .val (.int (2 : Int32)), .val (.long y1), .second, .val (.int (1 : Int32)), .val (.int (1 : Int32)), .val (.int (1 : Int32)), .val (.long y1), .second] [])) _
    refine XS.lload X0.here hx rfl (hb hby dd_jdk_65_method_56_code_46) rfl ?_
    refine XS.lloadN X0.here hx rfl (hb hby dd_jdk_65_method_56_code_48) rfl ?_
    refine XS.lcmp X0.here hx rfl (hb hby dd_jdk_65_method_56_code_49) rfl ?_
    show Steps p.tables e below (s₁.setTop (mkF m 50 #[.val (.ref o0), .val (.int (1 : Int32)), .val (.int (2 : Int32)), .val (.long y1), .second, .val (.int (1 : Int32)), .val (.int (1 : Int32)), .val (.int (1 : Int32)), .val (.long y1), .second] [(.int (lcmpW y1 y1))])) _
    refine XS.ifYes X0.here hx rfl (pc0 := 50) (pc' := 62) rfl (hb hby dd_jdk_65_method_56_code_50) rfl ((if0 _ _).trans (flt (fun q => (own_irr64 y1) ((lw_gt y1 y1).mp q))).2.2.2) (by decide) (by decide) ?_
    refine XS.iload X0.here hx rfl (hb hby dd_jdk_65_method_56_code_62) rfl ?_
    show Steps p.tables e below (s₁.setTop (mkF m 64 #[.val (.ref o0), .val (.int (1 : Int32)), .val (.int (2 : Int32)), .val (.long y1), .second, .val (.int (1 : Int32)), .val (.int (1 : Int32)), .val (.int (1 : Int32)), .val (.long y1), .second] [(.int (1 : Int32))])) _
    exact retI X0 hx Bd.returns (hb hby dd_jdk_65_method_56_code_64) lhr
  · skip
    show QA55 Z o0 y1 y2 kk_o0 h0 n0 _ s₁.heap _
    rw [e0]
    exact ⟨rfl, N0, rfl⟩
def QA53 (Z : State) (o0 : Addr) (y1 : Int64) (y2 : Int64) (kk_o0 : ClassId) (h0 : Heap) (n0 : Nat) (v : Option Value) (h : Heap) (L : List Loc) : Prop := v = some (.int (1 : Int32)) ∧ Fr n0 L ∧ h = h0
set_option maxRecDepth 65536 in
set_option maxHeartbeats 40000000 in
theorem rmA53 (l : Launch) (Z : State) (a0 : Array Value) (hw : ∀ d ∈ tables_1, d.before a0 Z = true) (ws : List Jvm.Cond) (o0 : Addr) (y1 : Int64) (y2 : Int64) (kk_o0 : ClassId) (h0 : Heap) (n0 : Nat) (Z0 : n0 ≤ h0.size) (V_o0 : Arv Z h0 o0 kk_o0 .long (2 : Int32) [(.long y2), (.long y1)] (.long (0 : Int64))) :
    MetFree l mn9 (head1 (Jvm.Cond.code mn9 jdk_65_method_55_code 5 (some .int) :: ws) ({ frames := 1, cells := 0, slots := 0, locals := 21 } : Room)) (fun a U => a = #[(.ref o0), (.int (1 : Int32)), (.int (2 : Int32)), (.long y1)] ∧ Z.Warmed39 U.vm ∧ U.heap = h0) (fun _ _ _ _ _ => True) (fun _ U oc_ U' => ∃ v L, oc_ = .returned v ∧ QA53 Z o0 y1 y2 kk_o0 h0 n0 v U'.heap L ∧ FrameEnd U oc_ U' L ({ frames := 1, cells := 0, slots := 0, locals := 21 } : Room).cells ({ frames := 1, cells := 0, slots := 0, locals := 21 } : Room).slots) := by
  refine MetFree.of_bodySF (plainFor_of_name pn_java_util_Arrays) hisR ?_
  intro p e s m args below meth c s₁ Bd hml0 hP hK
  obtain ⟨rfl, hZ, hh⟩ := hP
  have hx := Bd.exec
  have hby := Bd.bytes
  have hml : c.maxLocals = 5 := hml0
  have hown : s.vm.findClass "java/util/Arrays" = some m.cls := findClass_of_methodNamed Bd.named
  have hnm := (name_of_methodNamed Bd.named Bd.method).1
  have X0 : Stand p l e ({ frames := 1, cells := 0, slots := 0, locals := 21 } : Room) s m #[(.ref o0), (.int (1 : Int32)), (.int (2 : Int32)), (.long y1)] below meth c s₁ [] 0 0 := Stand.of_body Bd
  have e0 : s₁.heap = h0 := by rw [← hh, Bd.state]; rfl
  have N0 := Fr.nil n0
  have pre0 : ∀ t, Steps p.tables e below (s₁.setTop (mkF m 0 #[.val (.ref o0), .val (.int (1 : Int32)), .val (.int (2 : Int32)), .val (.long y1), .second] [])) t → Steps p.tables e below (s₁.setTop (entryFrame m #[(.ref o0), (.int (1 : Int32)), (.int (2 : Int32)), (.long y1)] 5)) t := fun t k => castTop (efa_jdk_65_method_55_code_vvvv m o0 (1 : Int32) (2 : Int32) y1) k
  obtain ⟨cl1, Ar1, -, S1, M1, -, -⟩ := id V_o0
  obtain ⟨_, _, ⟨T2, L2, kc2, ks2⟩, -, X2, ⟨Lc2, hQ2, l2, y2, z2⟩, st2⟩ := Jvm.LawKit.callS X0 hx (y := mn12) hown (mvT hZ (wd33 hw)) (mvT hZ (wd34 hw)) (mvT hZ (wd31 hw)) (mvT hZ (wd35 hw)) (by decide) (backOf (W := 0) (rmA24 l Z a0 hw []  h0 n0 Z0 ) hZ (wd35 hw) (wd31 hw) (by decide) (by decide)) (g := (mkF m 4 #[.val (.ref o0), .val (.int (1 : Int32)), .val (.int (2 : Int32)), .val (.long y1), .second] [(.int (2 : Int32)), (.int (1 : Int32)), (.int (2 : Int32))])) rfl (by rw [hml]; rfl) (argsL := [(.int (2 : Int32)), (.int (1 : Int32)), (.int (2 : Int32))]) (rest := []) (lenOf pd__III_V rfl) rfl (by show 2 * 0 + _ ≤ _; exact Nat.le_of_eq rfl) (hb hby dd_jdk_65_method_55_code_4) (fun _ _ => ⟨rfl, e0, (by decide : 0 + 0 ≤ _), (by decide : 0 + 0 ≤ _)⟩)
  dsimp only [Pt.U, Pt.locs, Pt.cells, Pt.slots] at X2 l2 y2 z2 st2 hQ2
  subst l2 y2 z2
  obtain ⟨rfl, Nq2, eq2⟩ := hQ2
  have N2 := Fr.app N0 Nq2
  obtain ⟨_, _, ⟨T3, L3, kc3, ks3⟩, -, X3, ⟨Lc3, hQ3, l3, y3, z3⟩, st3⟩ := Jvm.LawKit.callS X2 hx (y := mn10) hown (mvT hZ (wd36 hw)) (mvT hZ (wd37 hw)) (mvT hZ (wd31 hw)) (mvT hZ (wd38 hw)) (by decide) (backOf (W := 0) (rmA55 l Z a0 hw [] o0 y1 y2 _ h0 n0 Z0 V_o0) hZ (wd38 hw) (wd31 hw) (by decide) (by decide)) (g := (mkF m 11 #[.val (.ref o0), .val (.int (1 : Int32)), .val (.int (2 : Int32)), .val (.long y1), .second] [(.long y1), (.int (2 : Int32)), (.int (1 : Int32)), (.ref o0)])) rfl (by rw [hml]; rfl) (argsL := [(.ref o0), (.int (1 : Int32)), (.int (2 : Int32)), (.long y1)]) (rest := []) (lenOf pd___JIIJ_I rfl) rfl (by show 2 * 0 + _ ≤ _; exact Nat.le_of_eq rfl) (hb hby dd_jdk_65_method_55_code_11) (fun _ _ => ⟨rfl, eq2, (by decide : 0 + 0 ≤ _), (by decide : 0 + 0 ≤ _)⟩)
  dsimp only [Pt.U, Pt.locs, Pt.cells, Pt.slots] at X3 l3 y3 z3 st3 hQ3
  subst l3 y3 z3
  obtain ⟨rfl, Nq3, eq3⟩ := hQ3
  have N3 := Fr.app N2 Nq3
  obtain ⟨lfs, lhr, lhrun, lhended, lhW, lhsame⟩ := X3.leave (v := some (.int (1 : Int32))) (fun h => by rw [Bd.returns] at h; cases h)
  refine ⟨_, _, pre0 _ ?_, lhrun, lhended, _, _, rfl, ?_, ⟨_, rfl⟩, lhW, lhsame.mono (by decide) (by decide)⟩
  · skip
    show Steps p.tables e below (s₁.setTop (mkF m 0 #[.val (.ref o0), .val (.int (1 : Int32)), .val (.int (2 : Int32)), .val (.long y1), .second] [])) _
    refine XS.aloadN X0.here hx rfl (hb hby dd_jdk_65_method_55_code_0) rfl rfl ?_
    refine X0.arraylength hx (by (try rw [e0]); exact Ar1.1) (State.isArrayOf_alike hZ.alike Ar1.2.1) (g := (mkF m 1 #[.val (.ref o0), .val (.int (1 : Int32)), .val (.int (2 : Int32)), .val (.long y1), .second] [(.ref o0)])) rfl rfl (hb hby dd_jdk_65_method_55_code_1) _ ?_
    rw [len_of S1 M1]
    show Steps p.tables e below (s₁.setTop (mkF m 2 #[.val (.ref o0), .val (.int (1 : Int32)), .val (.int (2 : Int32)), .val (.long y1), .second] [(.int (2 : Int32))])) _
    refine XS.iloadN X0.here hx rfl (hb hby dd_jdk_65_method_55_code_2) rfl ?_
    refine XS.iloadN X0.here hx rfl (hb hby dd_jdk_65_method_55_code_3) rfl ?_
    show Steps p.tables e below (s₁.setTop (mkF m 4 #[.val (.ref o0), .val (.int (1 : Int32)), .val (.int (2 : Int32)), .val (.long y1), .second] [(.int (2 : Int32)), (.int (1 : Int32)), (.int (2 : Int32))])) _
    refine st2 _ ?_
    show Steps p.tables e below (T2.setTop (mkF m 7 #[.val (.ref o0), .val (.int (1 : Int32)), .val (.int (2 : Int32)), .val (.long y1), .second] [])) _
    refine XS.aloadN X2.here hx rfl (hb hby dd_jdk_65_method_55_code_7) rfl rfl ?_
    refine XS.iloadN X2.here hx rfl (hb hby dd_jdk_65_method_55_code_8) rfl ?_
    refine XS.iloadN X2.here hx rfl (hb hby dd_jdk_65_method_55_code_9) rfl ?_
    show Steps p.tables e below (T2.setTop (mkF m 10 #[.val (.ref o0), .val (.int (1 : Int32)), .val (.int (2 : Int32)), .val (.long y1), .second] [(.int (2 : Int32)), (.int (1 : Int32)), (.ref o0)])) _
    refine XS.lloadN X2.here hx rfl (hb hby dd_jdk_65_method_55_code_10) rfl ?_
    show Steps p.tables e below (T2.setTop (mkF m 11 #[.val (.ref o0), .val (.int (1 : Int32)), .val (.int (2 : Int32)), .val (.long y1), .second] [(.long y1), (.int (2 : Int32)), (.int (1 : Int32)), (.ref o0)])) _
    refine st3 _ ?_
    show Steps p.tables e below (T3.setTop (mkF m 14 #[.val (.ref o0), .val (.int (1 : Int32)), .val (.int (2 : Int32)), .val (.long y1), .second] [(.int (1 : Int32))])) _
    exact retI X3 hx Bd.returns (hb hby dd_jdk_65_method_55_code_14) lhr
  · skip
    show QA53 Z o0 y1 y2 kk_o0 h0 n0 _ T3.heap _
    rw [eq3]
    exact ⟨rfl, N3, rfl⟩
def QA52 (Z : State) (o0 : Addr) (y1 : Int64) (o2 : Addr) (y3 : Int64) (kk_o2 : ClassId) (o4 : Addr) (kk_o4 : ClassId) (h0 : Heap) (n0 : Nat) (v : Option Value) (h : Heap) (L : List Loc) : Prop := v = some (.long (2 : Int64)) ∧ Fr n0 L ∧ h = h0
set_option maxRecDepth 65536 in
set_option maxHeartbeats 40000000 in
theorem rmA52 (l : Launch) (Z : State) (a0 : Array Value) (hw : ∀ d ∈ tables_1, d.before a0 Z = true) (ws : List Jvm.Cond) (o0 : Addr) (y1 : Int64) (o2 : Addr) (y3 : Int64) (kk_o2 : ClassId) (o4 : Addr) (kk_o4 : ClassId) (h0 : Heap) (n0 : Nat) (Z0 : n0 ≤ h0.size) (F_o0_starts : Fld Z h0 o0 cn2 "starts" "[J" (.ref o2)) (F_o0_first : Fld Z h0 o0 cn2 "first" "I" (.int (1 : Int32))) (F_o0_end : Fld Z h0 o0 cn2 "end" "I" (.int (2 : Int32))) (V_o2 : Arv Z h0 o2 kk_o2 .long (2 : Int32) [(.long y3), (.long y1)] (.long (0 : Int64))) (F_o0_records : Fld Z h0 o0 cn2 "records" "[J" (.ref o4)) (F_o0_width : Fld Z h0 o0 cn2 "width" "I" (.int (1 : Int32))) (V_o4 : Arv Z h0 o4 kk_o4 .long (2 : Int32) [(.long (1 : Int64)), (.long (2 : Int64))] (.long (0 : Int64))) :
    MetFree l mn2 (head1 (Jvm.Cond.code mn2 prog_23_method_4_code 5 (some .long) :: ws) ({ frames := 2, cells := 0, slots := 0, locals := 37 } : Room)) (fun a U => a = #[(.ref o0), (.long y1), (.int (0 : Int32))] ∧ Z.Warmed39 U.vm ∧ U.heap = h0) (fun _ _ _ _ _ => True) (fun _ U oc_ U' => ∃ v L, oc_ = .returned v ∧ QA52 Z o0 y1 o2 y3 kk_o2 o4 kk_o4 h0 n0 v U'.heap L ∧ FrameEnd U oc_ U' L ({ frames := 2, cells := 0, slots := 0, locals := 37 } : Room).cells ({ frames := 2, cells := 0, slots := 0, locals := 37 } : Room).slots) := by
  refine MetFree.of_bodySF (plainFor_of_name pn_com_example_strict_limiter_strictlimiter_KeptWindows) hisR ?_
  intro p e s m args below meth c s₁ Bd hml0 hP hK
  obtain ⟨rfl, hZ, hh⟩ := hP
  have hx := Bd.exec
  have hby := Bd.bytes
  have hml : c.maxLocals = 5 := hml0
  have hown : s.vm.findClass cn2 = some m.cls := findClass_of_methodNamed Bd.named
  have hnm := (name_of_methodNamed Bd.named Bd.method).1
  have X0 : Stand p l e ({ frames := 2, cells := 0, slots := 0, locals := 37 } : Room) s m #[(.ref o0), (.long y1), (.int (0 : Int32))] below meth c s₁ [] 0 0 := Stand.of_body Bd
  have e0 : s₁.heap = h0 := by rw [← hh, Bd.state]; rfl
  have N0 := Fr.nil n0
  have pre0 : ∀ t, Steps p.tables e below (s₁.setTop (mkF m 0 #[.val (.ref o0), .val (.long y1), .second, .val (.int (0 : Int32)), .unset] [])) t → Steps p.tables e below (s₁.setTop (entryFrame m #[(.ref o0), (.long y1), (.int (0 : Int32))] 5)) t := fun t k => castTop (efa_prog_23_method_4_code_vvv m o0 y1 (0 : Int32)) k
  obtain ⟨T1, X1, e1, st1⟩ := getF X0 hx hZ hown (host := "") (Or.inl (wd12 hw)) Via.refl e0 F_o0_starts (g := (mkF m 1 #[.val (.ref o0), .val (.long y1), .second, .val (.int (0 : Int32)), .unset] [(.ref o0)])) rfl rfl (hb hby dd_prog_23_method_4_code_1)
  obtain ⟨T2, X2, e2, st2⟩ := getF X1 hx hZ hown (host := "") (Or.inl (wd25 hw)) Via.refl e1 F_o0_first (g := (mkF m 5 #[.val (.ref o0), .val (.long y1), .second, .val (.int (0 : Int32)), .unset] [(.ref o0), (.ref o2)])) rfl rfl (hb hby dd_prog_23_method_4_code_5)
  obtain ⟨T3, X3, e3, st3⟩ := getF X2 hx hZ hown (host := "") (Or.inl (wd27 hw)) Via.refl e2 F_o0_end (g := (mkF m 9 #[.val (.ref o0), .val (.long y1), .second, .val (.int (0 : Int32)), .unset] [(.ref o0), (.int (1 : Int32)), (.ref o2)])) rfl rfl (hb hby dd_prog_23_method_4_code_9)
  obtain ⟨_, _, ⟨T4, L4, kc4, ks4⟩, -, X4, ⟨Lc4, hQ4, l4, y4, z4⟩, st4⟩ := Jvm.LawKit.callS X3 hx (y := mn9) hown (mvT hZ (wd29 hw)) (mvT hZ (wd30 hw)) (mvT hZ (wd31 hw)) (mvT hZ (wd32 hw)) (by decide) (backOf (W := 0) (rmA53 l Z a0 hw [] o2 y1 y3 _ h0 n0 Z0 V_o2) hZ (wd32 hw) (wd31 hw) (by decide) (by decide)) (g := (mkF m 13 #[.val (.ref o0), .val (.long y1), .second, .val (.int (0 : Int32)), .unset] [(.long y1), (.int (2 : Int32)), (.int (1 : Int32)), (.ref o2)])) rfl (by rw [hml]; rfl) (argsL := [(.ref o2), (.int (1 : Int32)), (.int (2 : Int32)), (.long y1)]) (rest := []) (lenOf pd___JIIJ_I rfl) rfl (by show 2 * 0 + _ ≤ _; exact Nat.le_of_eq rfl) (hb hby dd_prog_23_method_4_code_13) (fun _ _ => ⟨rfl, e3, (by decide : 0 + 0 ≤ _), (by decide : 0 + 0 ≤ _)⟩)
  dsimp only [Pt.U, Pt.locs, Pt.cells, Pt.slots] at X4 l4 y4 z4 st4 hQ4
  subst l4 y4 z4
  obtain ⟨rfl, Nq4, eq4⟩ := hQ4
  have N4 := Fr.app N0 Nq4
  obtain ⟨T5, X5, e5, st5⟩ := getF X4 hx hZ hown (host := "") (Or.inl (wd14 hw)) Via.refl eq4 F_o0_records (g := (mkF m 24 #[.val (.ref o0), .val (.long y1), .second, .val (.int (0 : Int32)), .val (.int (1 : Int32))] [(.ref o0)])) rfl rfl (hb hby dd_prog_23_method_4_code_24)
  obtain ⟨T6, X6, e6, st6⟩ := getF X5 hx hZ hown (host := "") (Or.inl (wd18 hw)) Via.refl e5 F_o0_width (g := (mkF m 30 #[.val (.ref o0), .val (.long y1), .second, .val (.int (0 : Int32)), .val (.int (1 : Int32))] [(.ref o0), (.int (1 : Int32)), (.ref o4)])) rfl rfl (hb hby dd_prog_23_method_4_code_30)
  obtain ⟨cl7, Ar7, q7, S7, M7, HH7, GG7⟩ := id V_o4
  have hin7 : ¬ ((1 : Int32) < 0 ∨ cl7.slots.size ≤ ((1 : Int32)).toNatClampNeg) := inb_of S7 ⟨by decide, by decide⟩
  have hat7 : cl7.slots[((1 : Int32)).toNatClampNeg]? = some (.long (2 : Int64)) := Has.at HH7 hin7 rfl
  obtain ⟨lfs, lhr, lhrun, lhended, lhW, lhsame⟩ := X6.leave (v := some (.long (2 : Int64))) (fun h => by rw [Bd.returns] at h; cases h)
  refine ⟨_, _, pre0 _ ?_, lhrun, lhended, _, _, rfl, ?_, ⟨_, rfl⟩, lhW, lhsame.mono (by decide) (by decide)⟩
  · skip
    show Steps p.tables e below (s₁.setTop (mkF m 0 #[.val (.ref o0), .val (.long y1), .second, .val (.int (0 : Int32)), .unset] [])) _
    refine XS.aloadN X0.here hx rfl (hb hby dd_prog_23_method_4_code_0) rfl rfl ?_
    show Steps p.tables e below (s₁.setTop (mkF m 1 #[.val (.ref o0), .val (.long y1), .second, .val (.int (0 : Int32)), .unset] [(.ref o0)])) _
    refine st1 _ ?_
    show Steps p.tables e below (T1.setTop (mkF m 4 #[.val (.ref o0), .val (.long y1), .second, .val (.int (0 : Int32)), .unset] [(.ref o2)])) _
    refine XS.aloadN X1.here hx rfl (hb hby dd_prog_23_method_4_code_4) rfl rfl ?_
    show Steps p.tables e below (T1.setTop (mkF m 5 #[.val (.ref o0), .val (.long y1), .second, .val (.int (0 : Int32)), .unset] [(.ref o0), (.ref o2)])) _
    refine st2 _ ?_
    show Steps p.tables e below (T2.setTop (mkF m 8 #[.val (.ref o0), .val (.long y1), .second, .val (.int (0 : Int32)), .unset] [(.int (1 : Int32)), (.ref o2)])) _
    refine XS.aloadN X2.here hx rfl (hb hby dd_prog_23_method_4_code_8) rfl rfl ?_
    show Steps p.tables e below (T2.setTop (mkF m 9 #[.val (.ref o0), .val (.long y1), .second, .val (.int (0 : Int32)), .unset] [(.ref o0), (.int (1 : Int32)), (.ref o2)])) _
    refine st3 _ ?_
    show Steps p.tables e below (T3.setTop (mkF m 12 #[.val (.ref o0), .val (.long y1), .second, .val (.int (0 : Int32)), .unset] [(.int (2 : Int32)), (.int (1 : Int32)), (.ref o2)])) _
    refine XS.lloadN X3.here hx rfl (hb hby dd_prog_23_method_4_code_12) rfl ?_
    show Steps p.tables e below (T3.setTop (mkF m 13 #[.val (.ref o0), .val (.long y1), .second, .val (.int (0 : Int32)), .unset] [(.long y1), (.int (2 : Int32)), (.int (1 : Int32)), (.ref o2)])) _
    refine st4 _ ?_
    show Steps p.tables e below (T4.setTop (mkF m 16 #[.val (.ref o0), .val (.long y1), .second, .val (.int (0 : Int32)), .unset] [(.int (1 : Int32))])) _
    refine XS.istore X4.here hx rfl (hb hby dd_prog_23_method_4_code_16) rfl (l' := #[.val (.ref o0), .val (.long y1), .second, .val (.int (0 : Int32)), .val (.int (1 : Int32))]) rfl ?_
    refine XS.iload X4.here hx rfl (hb hby dd_prog_23_method_4_code_18) rfl ?_
    refine XS.ifNo X4.here hx rfl (hb hby dd_prog_23_method_4_code_20) rfl ((if0 _ _).trans (flt (by decide : ¬ ((1 : Int32) < (0 : Int32)))).1) ?_
    show Steps p.tables e below (T4.setTop (mkF m 23 #[.val (.ref o0), .val (.long y1), .second, .val (.int (0 : Int32)), .val (.int (1 : Int32))] [])) _
    refine XS.aloadN X4.here hx rfl (hb hby dd_prog_23_method_4_code_23) rfl rfl ?_
    show Steps p.tables e below (T4.setTop (mkF m 24 #[.val (.ref o0), .val (.long y1), .second, .val (.int (0 : Int32)), .val (.int (1 : Int32))] [(.ref o0)])) _
    refine st5 _ ?_
    show Steps p.tables e below (T5.setTop (mkF m 27 #[.val (.ref o0), .val (.long y1), .second, .val (.int (0 : Int32)), .val (.int (1 : Int32))] [(.ref o4)])) _
    refine XS.iload X5.here hx rfl (hb hby dd_prog_23_method_4_code_27) rfl ?_
    show Steps p.tables e below (T5.setTop (mkF m 29 #[.val (.ref o0), .val (.long y1), .second, .val (.int (0 : Int32)), .val (.int (1 : Int32))] [(.int (1 : Int32)), (.ref o4)])) _
    refine XS.aloadN X5.here hx rfl (hb hby dd_prog_23_method_4_code_29) rfl rfl ?_
    show Steps p.tables e below (T5.setTop (mkF m 30 #[.val (.ref o0), .val (.long y1), .second, .val (.int (0 : Int32)), .val (.int (1 : Int32))] [(.ref o0), (.int (1 : Int32)), (.ref o4)])) _
    refine st6 _ ?_
    show Steps p.tables e below (T6.setTop (mkF m 33 #[.val (.ref o0), .val (.long y1), .second, .val (.int (0 : Int32)), .val (.int (1 : Int32))] [(.int (1 : Int32)), (.int (1 : Int32)), (.ref o4)])) _
    refine XS.imul X6.here hx rfl (hb hby dd_prog_23_method_4_code_33) rfl ?_
    show Steps p.tables e below (T6.setTop (mkF m 34 #[.val (.ref o0), .val (.long y1), .second, .val (.int (0 : Int32)), .val (.int (1 : Int32))] [(.int (1 : Int32)), (.ref o4)])) _
    refine XS.iloadN X6.here hx rfl (hb hby dd_prog_23_method_4_code_34) rfl ?_
    refine XS.iadd X6.here hx rfl (hb hby dd_prog_23_method_4_code_35) rfl ?_
    refine X6.laload hx (j := (1 : Int32)) (v := (.long (2 : Int64))) (by (try rw [e6]); exact Ar7.1) (State.isArrayOf_alike hZ.alike Ar7.2.1) Ar7.2.2 hin7 hat7 (g := (mkF m 36 #[.val (.ref o0), .val (.long y1), .second, .val (.int (0 : Int32)), .val (.int (1 : Int32))] [(.int (1 : Int32)), (.ref o4)])) rfl rfl (hb hby dd_prog_23_method_4_code_36) _ ?_
    show Steps p.tables e below (T6.setTop (mkF m 37 #[.val (.ref o0), .val (.long y1), .second, .val (.int (0 : Int32)), .val (.int (1 : Int32))] [(.long (2 : Int64))])) _
    refine XS.goto X6.here hx rfl (pc0 := 37) (pc' := 41) rfl (hb hby dd_prog_23_method_4_code_37) (by decide) (by decide) ?_
    show Steps p.tables e below (T6.setTop (mkF m 41 #[.val (.ref o0), .val (.long y1), .second, .val (.int (0 : Int32)), .val (.int (1 : Int32))] [(.long (2 : Int64))])) _
    exact retOut X6 hx Bd.returns rfl (Or.inr (Or.inl ⟨rfl, rfl, _, rfl⟩)) (hb hby dd_prog_23_method_4_code_41) lhr
  · skip
    show QA52 Z o0 y1 o2 y3 kk_o2 o4 kk_o4 h0 n0 _ T6.heap _
    rw [e6]
    exact ⟨rfl, N4, rfl⟩
def QA56 (Z : State) (o0 : Addr) (y1 : Int64) (y2 : Int64) (y3 : Int64) (o4 : Addr) (y5 : Int64) (y6 : Int64) (kk_o4 : ClassId) (o7 : Addr) (y8 : Int64) (y9 : Int64) (kk_o7 : ClassId) (u100 : Value) (u101 : Value) (h0 : Heap) (n0 : Nat) (v : Option Value) (h : Heap) (L : List Loc) : Prop := v = none ∧ Fr n0 L ∧ Keep h0 h [o0] ∧ Fld Z h o0 cn2 "first" "I" (.int (1 : Int32)) ∧ Fld Z h o0 cn2 "end" "I" (.int (2 : Int32)) ∧ Fld Z h o0 cn2 "starts" "[J" (.ref o4) ∧ Fld Z h o0 cn2 "decidedAt" "[J" (.ref o7) ∧ Exa Z h o0 cn2 ∧ Fld Z h o0 cn2 "records" "[J" u100 ∧ Fld Z h o0 cn2 "width" "I" u101
set_option maxRecDepth 65536 in
set_option maxHeartbeats 40000000 in
theorem rmA56 (l : Launch) (Z : State) (a0 : Array Value) (hw : ∀ d ∈ tables_1, d.before a0 Z = true) (ws : List Jvm.Cond) (o0 : Addr) (y1 : Int64) (y2 : Int64) (y3 : Int64) (o4 : Addr) (y5 : Int64) (y6 : Int64) (kk_o4 : ClassId) (o7 : Addr) (y8 : Int64) (y9 : Int64) (kk_o7 : ClassId) (u100 : Value) (u101 : Value) (h0 : Heap) (n0 : Nat) (Z0 : n0 ≤ h0.size) (F_o0_first : Fld Z h0 o0 cn2 "first" "I" (.int (0 : Int32))) (F_o0_end : Fld Z h0 o0 cn2 "end" "I" (.int (2 : Int32))) (F_o0_starts : Fld Z h0 o0 cn2 "starts" "[J" (.ref o4)) (V_o4 : Arv Z h0 o4 kk_o4 .long (2 : Int32) [(.long y5), (.long y6)] (.long (0 : Int64))) (hq4 : ¬ (y1 < (y5 / (1000000000 : Int64)))) (F_o0_decidedAt : Fld Z h0 o0 cn2 "decidedAt" "[J" (.ref o7)) (V_o7 : Arv Z h0 o7 kk_o7 .long (2 : Int32) [(.long y8), (.long y9)] (.long (0 : Int64))) (hq7 : ¬ ((y2 - y8) < y3)) (E_o0 : Exa Z h0 o0 cn2) (g_o0 : n0 ≤ o0) (ne_o4_o0 : o4 ≠ o0) (hq11 : ¬ (y1 < (y6 / (1000000000 : Int64)))) (ne_o7_o0 : o7 ≠ o0) (hq13 : (y2 - y9) < y3) (F_o0_records : Fld Z h0 o0 cn2 "records" "[J" u100) (F_o0_width : Fld Z h0 o0 cn2 "width" "I" u101) :
    MetFree l mn4 (head1 (Jvm.Cond.code mn4 prog_23_method_2_code 7 none :: ws) ({ frames := 0, cells := 0, slots := 0, locals := 0 } : Room)) (fun a U => a = #[(.ref o0), (.long y1), (.long y2), (.long y3)] ∧ Z.Warmed39 U.vm ∧ U.heap = h0) (fun _ _ _ _ _ => True) (fun _ U oc_ U' => ∃ v L, oc_ = .returned v ∧ QA56 Z o0 y1 y2 y3 o4 y5 y6 kk_o4 o7 y8 y9 kk_o7 u100 u101 h0 n0 v U'.heap L ∧ FrameEnd U oc_ U' L ({ frames := 0, cells := 0, slots := 0, locals := 0 } : Room).cells ({ frames := 0, cells := 0, slots := 0, locals := 0 } : Room).slots) := by
  refine MetFree.of_bodySF (plainFor_of_name pn_com_example_strict_limiter_strictlimiter_KeptWindows) hisR ?_
  intro p e s m args below meth c s₁ Bd hml0 hP hK
  obtain ⟨rfl, hZ, hh⟩ := hP
  have hx := Bd.exec
  have hby := Bd.bytes
  have hml : c.maxLocals = 7 := hml0
  have hown : s.vm.findClass cn2 = some m.cls := findClass_of_methodNamed Bd.named
  have hnm := (name_of_methodNamed Bd.named Bd.method).1
  have X0 : Stand p l e ({ frames := 0, cells := 0, slots := 0, locals := 0 } : Room) s m #[(.ref o0), (.long y1), (.long y2), (.long y3)] below meth c s₁ [] 0 0 := Stand.of_body Bd
  have e0 : s₁.heap = h0 := by rw [← hh, Bd.state]; rfl
  have N0 := Fr.nil n0
  have pre0 : ∀ t, Steps p.tables e below (s₁.setTop (mkF m 0 #[.val (.ref o0), .val (.long y1), .second, .val (.long y2), .second, .val (.long y3), .second] [])) t → Steps p.tables e below (s₁.setTop (entryFrame m #[(.ref o0), (.long y1), (.long y2), (.long y3)] 7)) t := fun t k => castTop (efa_prog_23_method_2_code_vvvv m o0 y1 y2 y3) k
  obtain ⟨T1, X1, e1, st1⟩ := getF X0 hx hZ hown (host := "") (Or.inl (wd25 hw)) Via.refl e0 F_o0_first (g := (mkF m 1 #[.val (.ref o0), .val (.long y1), .second, .val (.long y2), .second, .val (.long y3), .second] [(.ref o0)])) rfl rfl (hb hby dd_prog_23_method_2_code_1)
  obtain ⟨T2, X2, e2, st2⟩ := getF X1 hx hZ hown (host := "") (Or.inl (wd27 hw)) Via.refl e1 F_o0_end (g := (mkF m 5 #[.val (.ref o0), .val (.long y1), .second, .val (.long y2), .second, .val (.long y3), .second] [(.ref o0), (.int (0 : Int32))])) rfl rfl (hb hby dd_prog_23_method_2_code_5)
  obtain ⟨T3, X3, e3, st3⟩ := getF X2 hx hZ hown (host := "") (Or.inl (wd12 hw)) Via.refl e2 F_o0_starts (g := (mkF m 12 #[.val (.ref o0), .val (.long y1), .second, .val (.long y2), .second, .val (.long y3), .second] [(.ref o0)])) rfl rfl (hb hby dd_prog_23_method_2_code_12)
  obtain ⟨T4, X4, e4, st4⟩ := getF X3 hx hZ hown (host := "") (Or.inl (wd25 hw)) Via.refl e3 F_o0_first (g := (mkF m 16 #[.val (.ref o0), .val (.long y1), .second, .val (.long y2), .second, .val (.long y3), .second] [(.ref o0), (.ref o4)])) rfl rfl (hb hby dd_prog_23_method_2_code_16)
  obtain ⟨cl5, Ar5, q5, S5, M5, HH5, GG5⟩ := id V_o4
  have hin5 : ¬ ((0 : Int32) < 0 ∨ cl5.slots.size ≤ ((0 : Int32)).toNatClampNeg) := inb_of S5 ⟨by decide, by decide⟩
  have hat5 : cl5.slots[((0 : Int32)).toNatClampNeg]? = some (.long y5) := Has.at HH5 hin5 rfl
  obtain ⟨T6, X6, e6, st6⟩ := getF X4 hx hZ hown (host := "") (Or.inl (wd16 hw)) Via.refl e4 F_o0_decidedAt (g := (mkF m 31 #[.val (.ref o0), .val (.long y1), .second, .val (.long y2), .second, .val (.long y3), .second] [(.ref o0), (.long y2)])) rfl rfl (hb hby dd_prog_23_method_2_code_31)
  obtain ⟨T7, X7, e7, st7⟩ := getF X6 hx hZ hown (host := "") (Or.inl (wd25 hw)) Via.refl e6 F_o0_first (g := (mkF m 35 #[.val (.ref o0), .val (.long y1), .second, .val (.long y2), .second, .val (.long y3), .second] [(.ref o0), (.ref o7), (.long y2)])) rfl rfl (hb hby dd_prog_23_method_2_code_35)
  obtain ⟨cl8, Ar8, q8, S8, M8, HH8, GG8⟩ := id V_o7
  have hin8 : ¬ ((0 : Int32) < 0 ∨ cl8.slots.size ≤ ((0 : Int32)).toNatClampNeg) := inb_of S8 ⟨by decide, by decide⟩
  have hat8 : cl8.slots[((0 : Int32)).toNatClampNeg]? = some (.long y8) := Has.at HH8 hin8 rfl
  obtain ⟨T9, X9, e9, st9⟩ := getF X7 hx hZ hown (host := "") (Or.inl (wd25 hw)) Via.refl e7 F_o0_first (g := (mkF m 48 #[.val (.ref o0), .val (.long y1), .second, .val (.long y2), .second, .val (.long y3), .second] [(.ref o0), (.ref o0)])) rfl rfl (hb hby dd_prog_23_method_2_code_48)
  obtain ⟨T10, h10, X10, e10, W10, st10⟩ := putF X9 hx hZ hown (host := "") (Or.inl (wd25 hw)) Via.refl e9 F_o0_first E_o0 (Or.inl (wd26 hw)) (wd2 hw) (ty := .int) (by decide) rfl rfl (g := (mkF m 53 #[.val (.ref o0), .val (.long y1), .second, .val (.long y2), .second, .val (.long y3), .second] [(.int (1 : Int32)), (.ref o0)])) rfl rfl (hb hby dd_prog_23_method_2_code_53)
  have N10 := Fr.snoc X10 N0 g_o0
  have Z10 : n0 ≤ h10.size := by rw [W10.size]; exact Z0
  have K10 : Keep h0 h10 [o0] := ((Keep.refl h0 [o0]).wr W10 (Or.inl (List.mem_of_getElem? (i := 0) rfl)))
  have Fw10 := F_o0_first.same W10
  obtain ⟨T11, X11, e11, st11⟩ := getF X10 hx hZ hown (host := "") (Or.inl (wd25 hw)) Via.refl e10 Fw10 (g := (mkF m 1 #[.val (.ref o0), .val (.long y1), .second, .val (.long y2), .second, .val (.long y3), .second] [(.ref o0)])) rfl rfl (hb hby dd_prog_23_method_2_code_1)
  have f12 := (F_o0_end.other W10 (Or.inr (slot_ne (Or.inl (wd28 hw)) (Or.inl (wd26 hw)) (by decide) (t := .int) (t' := .int) (by decide) (by decide))))
  obtain ⟨T13, X13, e13, st13⟩ := getF X11 hx hZ hown (host := "") (Or.inl (wd27 hw)) Via.refl e11 f12 (g := (mkF m 5 #[.val (.ref o0), .val (.long y1), .second, .val (.long y2), .second, .val (.long y3), .second] [(.ref o0), (.int (1 : Int32))])) rfl rfl (hb hby dd_prog_23_method_2_code_5)
  have f14 := (F_o0_starts.other W10 (Or.inr (slot_ne (Or.inl (wd13 hw)) (Or.inl (wd26 hw)) (by decide) (t := (.array .long)) (t' := .int) (by decide) (by decide))))
  obtain ⟨T15, X15, e15, st15⟩ := getF X13 hx hZ hown (host := "") (Or.inl (wd12 hw)) Via.refl e13 f14 (g := (mkF m 12 #[.val (.ref o0), .val (.long y1), .second, .val (.long y2), .second, .val (.long y3), .second] [(.ref o0)])) rfl rfl (hb hby dd_prog_23_method_2_code_12)
  obtain ⟨T16, X16, e16, st16⟩ := getF X15 hx hZ hown (host := "") (Or.inl (wd25 hw)) Via.refl e15 Fw10 (g := (mkF m 16 #[.val (.ref o0), .val (.long y1), .second, .val (.long y2), .second, .val (.long y3), .second] [(.ref o0), (.ref o4)])) rfl rfl (hb hby dd_prog_23_method_2_code_16)
  have f17 := (V_o4.other W10 ne_o4_o0)
  obtain ⟨cl18, Ar18, q18, S18, M18, HH18, GG18⟩ := id f17
  have hin18 : ¬ ((1 : Int32) < 0 ∨ cl18.slots.size ≤ ((1 : Int32)).toNatClampNeg) := inb_of S18 ⟨by decide, by decide⟩
  have hat18 : cl18.slots[((1 : Int32)).toNatClampNeg]? = some (.long y6) := Has.at HH18 hin18 rfl
  have f19 := (F_o0_decidedAt.other W10 (Or.inr (slot_ne (Or.inl (wd17 hw)) (Or.inl (wd26 hw)) (by decide) (t := (.array .long)) (t' := .int) (by decide) (by decide))))
  obtain ⟨T20, X20, e20, st20⟩ := getF X16 hx hZ hown (host := "") (Or.inl (wd16 hw)) Via.refl e16 f19 (g := (mkF m 31 #[.val (.ref o0), .val (.long y1), .second, .val (.long y2), .second, .val (.long y3), .second] [(.ref o0), (.long y2)])) rfl rfl (hb hby dd_prog_23_method_2_code_31)
  obtain ⟨T21, X21, e21, st21⟩ := getF X20 hx hZ hown (host := "") (Or.inl (wd25 hw)) Via.refl e20 Fw10 (g := (mkF m 35 #[.val (.ref o0), .val (.long y1), .second, .val (.long y2), .second, .val (.long y3), .second] [(.ref o0), (.ref o7), (.long y2)])) rfl rfl (hb hby dd_prog_23_method_2_code_35)
  have f22 := (V_o7.other W10 ne_o7_o0)
  obtain ⟨cl23, Ar23, q23, S23, M23, HH23, GG23⟩ := id f22
  have hin23 : ¬ ((1 : Int32) < 0 ∨ cl23.slots.size ≤ ((1 : Int32)).toNatClampNeg) := inb_of S23 ⟨by decide, by decide⟩
  have hat23 : cl23.slots[((1 : Int32)).toNatClampNeg]? = some (.long y9) := Has.at HH23 hin23 rfl
  have f24 := (E_o0.wr W10)
  have f25 := (F_o0_records.other W10 (Or.inr (slot_ne (Or.inl (wd15 hw)) (Or.inl (wd26 hw)) (by decide) (t := (.array .long)) (t' := .int) (by decide) (by decide))))
  have f26 := (F_o0_width.other W10 (Or.inr (slot_ne (Or.inr (wd19 hw)) (Or.inl (wd26 hw)) (by decide) (t := .int) (t' := .int) (by decide) (by decide))))
  obtain ⟨lfs, lhr, lhrun, lhended, lhW, lhsame⟩ := X21.leave (v := none) (fun _ => rfl)
  refine ⟨_, _, pre0 _ ?_, lhrun, lhended, _, _, rfl, ?_, ⟨_, rfl⟩, lhW, lhsame.mono (by decide) (by decide)⟩
  · skip
    show Steps p.tables e below (s₁.setTop (mkF m 0 #[.val (.ref o0), .val (.long y1), .second, .val (.long y2), .second, .val (.long y3), .second] [])) _
    refine XS.aloadN X0.here hx rfl (hb hby dd_prog_23_method_2_code_0) rfl rfl ?_
    show Steps p.tables e below (s₁.setTop (mkF m 1 #[.val (.ref o0), .val (.long y1), .second, .val (.long y2), .second, .val (.long y3), .second] [(.ref o0)])) _
    refine st1 _ ?_
    show Steps p.tables e below (T1.setTop (mkF m 4 #[.val (.ref o0), .val (.long y1), .second, .val (.long y2), .second, .val (.long y3), .second] [(.int (0 : Int32))])) _
    refine XS.aloadN X1.here hx rfl (hb hby dd_prog_23_method_2_code_4) rfl rfl ?_
    show Steps p.tables e below (T1.setTop (mkF m 5 #[.val (.ref o0), .val (.long y1), .second, .val (.long y2), .second, .val (.long y3), .second] [(.ref o0), (.int (0 : Int32))])) _
    refine st2 _ ?_
    show Steps p.tables e below (T2.setTop (mkF m 8 #[.val (.ref o0), .val (.long y1), .second, .val (.long y2), .second, .val (.long y3), .second] [(.int (2 : Int32)), (.int (0 : Int32))])) _
    refine XS.icmpNo X2.here hx rfl (hb hby dd_prog_23_method_2_code_8) rfl (tlt (by decide : (0 : Int32) < (2 : Int32))).2.1 ?_
    show Steps p.tables e below (T2.setTop (mkF m 11 #[.val (.ref o0), .val (.long y1), .second, .val (.long y2), .second, .val (.long y3), .second] [])) _
    refine XS.aloadN X2.here hx rfl (hb hby dd_prog_23_method_2_code_11) rfl rfl ?_
    show Steps p.tables e below (T2.setTop (mkF m 12 #[.val (.ref o0), .val (.long y1), .second, .val (.long y2), .second, .val (.long y3), .second] [(.ref o0)])) _
    refine st3 _ ?_
    show Steps p.tables e below (T3.setTop (mkF m 15 #[.val (.ref o0), .val (.long y1), .second, .val (.long y2), .second, .val (.long y3), .second] [(.ref o4)])) _
    refine XS.aloadN X3.here hx rfl (hb hby dd_prog_23_method_2_code_15) rfl rfl ?_
    show Steps p.tables e below (T3.setTop (mkF m 16 #[.val (.ref o0), .val (.long y1), .second, .val (.long y2), .second, .val (.long y3), .second] [(.ref o0), (.ref o4)])) _
    refine st4 _ ?_
    show Steps p.tables e below (T4.setTop (mkF m 19 #[.val (.ref o0), .val (.long y1), .second, .val (.long y2), .second, .val (.long y3), .second] [(.int (0 : Int32)), (.ref o4)])) _
    refine X4.laload hx (j := (0 : Int32)) (v := (.long y5)) (by (try rw [e4]); exact Ar5.1) (State.isArrayOf_alike hZ.alike Ar5.2.1) Ar5.2.2 hin5 hat5 (g := (mkF m 19 #[.val (.ref o0), .val (.long y1), .second, .val (.long y2), .second, .val (.long y3), .second] [(.int (0 : Int32)), (.ref o4)])) rfl rfl (hb hby dd_prog_23_method_2_code_19) _ ?_
    refine X4.ldc2Long hx hown (mvT hZ (wd69 hw)) (g := (mkF m 20 #[.val (.ref o0), .val (.long y1), .second, .val (.long y2), .second, .val (.long y3), .second] [(.long y5)])) rfl (hb hby dd_prog_23_method_2_code_20) _ ?_
    show Steps p.tables e below (T4.setTop (mkF m 23 #[.val (.ref o0), .val (.long y1), .second, .val (.long y2), .second, .val (.long y3), .second] [(.long (1000000000 : Int64)), (.long y5)])) _
    refine XS.ldiv X4.here hx rfl (hb hby dd_prog_23_method_2_code_23) rfl (by decide) ?_
    refine XS.lloadN X4.here hx rfl (hb hby dd_prog_23_method_2_code_24) rfl ?_
    refine XS.lcmp X4.here hx rfl (hb hby dd_prog_23_method_2_code_25) rfl ?_
    show Steps p.tables e below (T4.setTop (mkF m 26 #[.val (.ref o0), .val (.long y1), .second, .val (.long y2), .second, .val (.long y3), .second] [(.int (lcmpW (y5 / (1000000000 : Int64)) y1))])) _
    refine XS.ifNo X4.here hx rfl (hb hby dd_prog_23_method_2_code_26) rfl ((if0 _ _).trans (flt (fun q => hq4 ((lw_gt (y5 / (1000000000 : Int64)) y1).mp q))).2.2.1) ?_
    refine XS.lloadN X4.here hx rfl (hb hby dd_prog_23_method_2_code_29) rfl ?_
    refine XS.aloadN X4.here hx rfl (hb hby dd_prog_23_method_2_code_30) rfl rfl ?_
    show Steps p.tables e below (T4.setTop (mkF m 31 #[.val (.ref o0), .val (.long y1), .second, .val (.long y2), .second, .val (.long y3), .second] [(.ref o0), (.long y2)])) _
    refine st6 _ ?_
    show Steps p.tables e below (T6.setTop (mkF m 34 #[.val (.ref o0), .val (.long y1), .second, .val (.long y2), .second, .val (.long y3), .second] [(.ref o7), (.long y2)])) _
    refine XS.aloadN X6.here hx rfl (hb hby dd_prog_23_method_2_code_34) rfl rfl ?_
    show Steps p.tables e below (T6.setTop (mkF m 35 #[.val (.ref o0), .val (.long y1), .second, .val (.long y2), .second, .val (.long y3), .second] [(.ref o0), (.ref o7), (.long y2)])) _
    refine st7 _ ?_
    show Steps p.tables e below (T7.setTop (mkF m 38 #[.val (.ref o0), .val (.long y1), .second, .val (.long y2), .second, .val (.long y3), .second] [(.int (0 : Int32)), (.ref o7), (.long y2)])) _
    refine X7.laload hx (j := (0 : Int32)) (v := (.long y8)) (by (try rw [e7]); exact Ar8.1) (State.isArrayOf_alike hZ.alike Ar8.2.1) Ar8.2.2 hin8 hat8 (g := (mkF m 38 #[.val (.ref o0), .val (.long y1), .second, .val (.long y2), .second, .val (.long y3), .second] [(.int (0 : Int32)), (.ref o7), (.long y2)])) rfl rfl (hb hby dd_prog_23_method_2_code_38) _ ?_
    refine XS.lsub X7.here hx rfl (hb hby dd_prog_23_method_2_code_39) rfl ?_
    refine XS.lload X7.here hx rfl (hb hby dd_prog_23_method_2_code_40) rfl ?_
    show Steps p.tables e below (T7.setTop (mkF m 42 #[.val (.ref o0), .val (.long y1), .second, .val (.long y2), .second, .val (.long y3), .second] [(.long y3), (.long (y2 - y8))])) _
    refine XS.lcmp X7.here hx rfl (hb hby dd_prog_23_method_2_code_42) rfl ?_
    refine XS.ifNo X7.here hx rfl (hb hby dd_prog_23_method_2_code_43) rfl ((if0 _ _).trans (flt (fun q => hq7 ((lw_lt (y2 - y8) y3).mp q))).1) ?_
    refine XS.aloadN X7.here hx rfl (hb hby dd_prog_23_method_2_code_46) rfl rfl ?_
    show Steps p.tables e below (T7.setTop (mkF m 47 #[.val (.ref o0), .val (.long y1), .second, .val (.long y2), .second, .val (.long y3), .second] [(.ref o0)])) _
    refine XS.dup X7.here hx rfl (hb hby dd_prog_23_method_2_code_47) rfl rfl ?_
    show Steps p.tables e below (T7.setTop (mkF m 48 #[.val (.ref o0), .val (.long y1), .second, .val (.long y2), .second, .val (.long y3), .second] [(.ref o0), (.ref o0)])) _
    refine st9 _ ?_
    show Steps p.tables e below (T9.setTop (mkF m 51 #[.val (.ref o0), .val (.long y1), .second, .val (.long y2), .second, .val (.long y3), .second] [(.int (0 : Int32)), (.ref o0)])) _
    refine XS.iconst X9.here hx rfl (hb hby dd_prog_23_method_2_code_51) ?_
    show Steps p.tables e below (T9.setTop (mkF m 52 #[.val (.ref o0), .val (.long y1), .second, .val (.long y2), .second, .val (.long y3), .second] [(.int (1 : Int32)), (.int (0 : Int32)), (.ref o0)])) _
    refine XS.iadd X9.here hx rfl (hb hby dd_prog_23_method_2_code_52) rfl ?_
    show Steps p.tables e below (T9.setTop (mkF m 53 #[.val (.ref o0), .val (.long y1), .second, .val (.long y2), .second, .val (.long y3), .second] [(.int (1 : Int32)), (.ref o0)])) _
    refine st10 _ ?_
    show Steps p.tables e below (T10.setTop (mkF m 56 #[.val (.ref o0), .val (.long y1), .second, .val (.long y2), .second, .val (.long y3), .second] [])) _
    refine XS.goto X10.here hx rfl (pc0 := 56) (pc' := 0) rfl (hb hby dd_prog_23_method_2_code_56) (by decide) (by decide) ?_
    show Steps p.tables e below (T10.setTop (mkF m 0 #[.val (.ref o0), .val (.long y1), .second, .val (.long y2), .second, .val (.long y3), .second] [])) _
    refine XS.aloadN X10.here hx rfl (hb hby dd_prog_23_method_2_code_0) rfl rfl ?_
    show Steps p.tables e below (T10.setTop (mkF m 1 #[.val (.ref o0), .val (.long y1), .second, .val (.long y2), .second, .val (.long y3), .second] [(.ref o0)])) _
    refine st11 _ ?_
    show Steps p.tables e below (T11.setTop (mkF m 4 #[.val (.ref o0), .val (.long y1), .second, .val (.long y2), .second, .val (.long y3), .second] [(.int (1 : Int32))])) _
    refine XS.aloadN X11.here hx rfl (hb hby dd_prog_23_method_2_code_4) rfl rfl ?_
    show Steps p.tables e below (T11.setTop (mkF m 5 #[.val (.ref o0), .val (.long y1), .second, .val (.long y2), .second, .val (.long y3), .second] [(.ref o0), (.int (1 : Int32))])) _
    refine st13 _ ?_
    show Steps p.tables e below (T13.setTop (mkF m 8 #[.val (.ref o0), .val (.long y1), .second, .val (.long y2), .second, .val (.long y3), .second] [(.int (2 : Int32)), (.int (1 : Int32))])) _
    refine XS.icmpNo X13.here hx rfl (hb hby dd_prog_23_method_2_code_8) rfl (tlt (by decide : (1 : Int32) < (2 : Int32))).2.1 ?_
    refine XS.aloadN X13.here hx rfl (hb hby dd_prog_23_method_2_code_11) rfl rfl ?_
    show Steps p.tables e below (T13.setTop (mkF m 12 #[.val (.ref o0), .val (.long y1), .second, .val (.long y2), .second, .val (.long y3), .second] [(.ref o0)])) _
    refine st15 _ ?_
    show Steps p.tables e below (T15.setTop (mkF m 15 #[.val (.ref o0), .val (.long y1), .second, .val (.long y2), .second, .val (.long y3), .second] [(.ref o4)])) _
    refine XS.aloadN X15.here hx rfl (hb hby dd_prog_23_method_2_code_15) rfl rfl ?_
    show Steps p.tables e below (T15.setTop (mkF m 16 #[.val (.ref o0), .val (.long y1), .second, .val (.long y2), .second, .val (.long y3), .second] [(.ref o0), (.ref o4)])) _
    refine st16 _ ?_
    show Steps p.tables e below (T16.setTop (mkF m 19 #[.val (.ref o0), .val (.long y1), .second, .val (.long y2), .second, .val (.long y3), .second] [(.int (1 : Int32)), (.ref o4)])) _
    refine X16.laload hx (j := (1 : Int32)) (v := (.long y6)) (by (try rw [e16]); exact Ar18.1) (State.isArrayOf_alike hZ.alike Ar18.2.1) Ar18.2.2 hin18 hat18 (g := (mkF m 19 #[.val (.ref o0), .val (.long y1), .second, .val (.long y2), .second, .val (.long y3), .second] [(.int (1 : Int32)), (.ref o4)])) rfl rfl (hb hby dd_prog_23_method_2_code_19) _ ?_
    refine X16.ldc2Long hx hown (mvT hZ (wd69 hw)) (g := (mkF m 20 #[.val (.ref o0), .val (.long y1), .second, .val (.long y2), .second, .val (.long y3), .second] [(.long y6)])) rfl (hb hby dd_prog_23_method_2_code_20) _ ?_
    refine XS.ldiv X16.here hx rfl (hb hby dd_prog_23_method_2_code_23) rfl (by decide) ?_
    show Steps p.tables e below (T16.setTop (mkF m 24 #[.val (.ref o0), .val (.long y1), .second, .val (.long y2), .second, .val (.long y3), .second] [(.long (y6 / (1000000000 : Int64)))])) _
    refine XS.lloadN X16.here hx rfl (hb hby dd_prog_23_method_2_code_24) rfl ?_
    refine XS.lcmp X16.here hx rfl (hb hby dd_prog_23_method_2_code_25) rfl ?_
    refine XS.ifNo X16.here hx rfl (hb hby dd_prog_23_method_2_code_26) rfl ((if0 _ _).trans (flt (fun q => hq11 ((lw_gt (y6 / (1000000000 : Int64)) y1).mp q))).2.2.1) ?_
    show Steps p.tables e below (T16.setTop (mkF m 29 #[.val (.ref o0), .val (.long y1), .second, .val (.long y2), .second, .val (.long y3), .second] [])) _
    refine XS.lloadN X16.here hx rfl (hb hby dd_prog_23_method_2_code_29) rfl ?_
    refine XS.aloadN X16.here hx rfl (hb hby dd_prog_23_method_2_code_30) rfl rfl ?_
    show Steps p.tables e below (T16.setTop (mkF m 31 #[.val (.ref o0), .val (.long y1), .second, .val (.long y2), .second, .val (.long y3), .second] [(.ref o0), (.long y2)])) _
    refine st20 _ ?_
    show Steps p.tables e below (T20.setTop (mkF m 34 #[.val (.ref o0), .val (.long y1), .second, .val (.long y2), .second, .val (.long y3), .second] [(.ref o7), (.long y2)])) _
    refine XS.aloadN X20.here hx rfl (hb hby dd_prog_23_method_2_code_34) rfl rfl ?_
    show Steps p.tables e below (T20.setTop (mkF m 35 #[.val (.ref o0), .val (.long y1), .second, .val (.long y2), .second, .val (.long y3), .second] [(.ref o0), (.ref o7), (.long y2)])) _
    refine st21 _ ?_
    show Steps p.tables e below (T21.setTop (mkF m 38 #[.val (.ref o0), .val (.long y1), .second, .val (.long y2), .second, .val (.long y3), .second] [(.int (1 : Int32)), (.ref o7), (.long y2)])) _
    refine X21.laload hx (j := (1 : Int32)) (v := (.long y9)) (by (try rw [e21]); exact Ar23.1) (State.isArrayOf_alike hZ.alike Ar23.2.1) Ar23.2.2 hin23 hat23 (g := (mkF m 38 #[.val (.ref o0), .val (.long y1), .second, .val (.long y2), .second, .val (.long y3), .second] [(.int (1 : Int32)), (.ref o7), (.long y2)])) rfl rfl (hb hby dd_prog_23_method_2_code_38) _ ?_
    show Steps p.tables e below (T21.setTop (mkF m 39 #[.val (.ref o0), .val (.long y1), .second, .val (.long y2), .second, .val (.long y3), .second] [(.long y9), (.long y2)])) _
    refine XS.lsub X21.here hx rfl (hb hby dd_prog_23_method_2_code_39) rfl ?_
    refine XS.lload X21.here hx rfl (hb hby dd_prog_23_method_2_code_40) rfl ?_
    refine XS.lcmp X21.here hx rfl (hb hby dd_prog_23_method_2_code_42) rfl ?_
    show Steps p.tables e below (T21.setTop (mkF m 43 #[.val (.ref o0), .val (.long y1), .second, .val (.long y2), .second, .val (.long y3), .second] [(.int (lcmpW (y2 - y9) y3))])) _
    refine XS.ifYes X21.here hx rfl (pc0 := 43) (pc' := 59) rfl (hb hby dd_prog_23_method_2_code_43) rfl ((if0 _ _).trans (tlt ((lw_lt (y2 - y9) y3).mpr hq13)).1) (by decide) (by decide) ?_
    show Steps p.tables e below (T21.setTop (mkF m 59 #[.val (.ref o0), .val (.long y1), .second, .val (.long y2), .second, .val (.long y3), .second] [])) _
    exact X21.returnOut hx Bd.returns (hb hby dd_prog_23_method_2_code_59) lhr
  · skip
    show QA56 Z o0 y1 y2 y3 o4 y5 y6 kk_o4 o7 y8 y9 kk_o7 u100 u101 h0 n0 _ T21.heap _
    rw [e21]
    exact ⟨rfl, N10, K10, Fw10, f12, f14, f19, f24, f25, f26⟩
def QA66 (Z : State) (o0 : Addr) (y1 : Int64) (y2 : Int64) (y3 : Int64) (o4 : Addr) (y5 : Int64) (y6 : Int64) (kk_o4 : ClassId) (o7 : Addr) (y8 : Int64) (y9 : Int64) (kk_o7 : ClassId) (u100 : Value) (u101 : Value) (h0 : Heap) (n0 : Nat) (v : Option Value) (h : Heap) (L : List Loc) : Prop := v = none ∧ Fr n0 L ∧ Keep h0 h [o0] ∧ Fld Z h o0 cn2 "first" "I" (.int (2 : Int32)) ∧ Fld Z h o0 cn2 "end" "I" (.int (2 : Int32)) ∧ Fld Z h o0 cn2 "starts" "[J" (.ref o4) ∧ Fld Z h o0 cn2 "decidedAt" "[J" (.ref o7) ∧ Exa Z h o0 cn2 ∧ Fld Z h o0 cn2 "records" "[J" u100 ∧ Fld Z h o0 cn2 "width" "I" u101
set_option maxRecDepth 65536 in
set_option maxHeartbeats 40000000 in
theorem rmA66 (l : Launch) (Z : State) (a0 : Array Value) (hw : ∀ d ∈ tables_1, d.before a0 Z = true) (ws : List Jvm.Cond) (o0 : Addr) (y1 : Int64) (y2 : Int64) (y3 : Int64) (o4 : Addr) (y5 : Int64) (y6 : Int64) (kk_o4 : ClassId) (o7 : Addr) (y8 : Int64) (y9 : Int64) (kk_o7 : ClassId) (u100 : Value) (u101 : Value) (h0 : Heap) (n0 : Nat) (Z0 : n0 ≤ h0.size) (F_o0_first : Fld Z h0 o0 cn2 "first" "I" (.int (0 : Int32))) (F_o0_end : Fld Z h0 o0 cn2 "end" "I" (.int (2 : Int32))) (F_o0_starts : Fld Z h0 o0 cn2 "starts" "[J" (.ref o4)) (V_o4 : Arv Z h0 o4 kk_o4 .long (2 : Int32) [(.long y5), (.long y6)] (.long (0 : Int64))) (hq4 : ¬ (y1 < (y5 / (1000000000 : Int64)))) (F_o0_decidedAt : Fld Z h0 o0 cn2 "decidedAt" "[J" (.ref o7)) (V_o7 : Arv Z h0 o7 kk_o7 .long (2 : Int32) [(.long y8), (.long y9)] (.long (0 : Int64))) (hq7 : ¬ ((y2 - y8) < y3)) (E_o0 : Exa Z h0 o0 cn2) (g_o0 : n0 ≤ o0) (ne_o4_o0 : o4 ≠ o0) (hq11 : ¬ (y1 < (y6 / (1000000000 : Int64)))) (ne_o7_o0 : o7 ≠ o0) (hq13 : ¬ ((y2 - y9) < y3)) (F_o0_records : Fld Z h0 o0 cn2 "records" "[J" u100) (F_o0_width : Fld Z h0 o0 cn2 "width" "I" u101) :
    MetFree l mn4 (head1 (Jvm.Cond.code mn4 prog_23_method_2_code 7 none :: ws) ({ frames := 0, cells := 0, slots := 0, locals := 0 } : Room)) (fun a U => a = #[(.ref o0), (.long y1), (.long y2), (.long y3)] ∧ Z.Warmed39 U.vm ∧ U.heap = h0) (fun _ _ _ _ _ => True) (fun _ U oc_ U' => ∃ v L, oc_ = .returned v ∧ QA66 Z o0 y1 y2 y3 o4 y5 y6 kk_o4 o7 y8 y9 kk_o7 u100 u101 h0 n0 v U'.heap L ∧ FrameEnd U oc_ U' L ({ frames := 0, cells := 0, slots := 0, locals := 0 } : Room).cells ({ frames := 0, cells := 0, slots := 0, locals := 0 } : Room).slots) := by
  refine MetFree.of_bodySF (plainFor_of_name pn_com_example_strict_limiter_strictlimiter_KeptWindows) hisR ?_
  intro p e s m args below meth c s₁ Bd hml0 hP hK
  obtain ⟨rfl, hZ, hh⟩ := hP
  have hx := Bd.exec
  have hby := Bd.bytes
  have hml : c.maxLocals = 7 := hml0
  have hown : s.vm.findClass cn2 = some m.cls := findClass_of_methodNamed Bd.named
  have hnm := (name_of_methodNamed Bd.named Bd.method).1
  have X0 : Stand p l e ({ frames := 0, cells := 0, slots := 0, locals := 0 } : Room) s m #[(.ref o0), (.long y1), (.long y2), (.long y3)] below meth c s₁ [] 0 0 := Stand.of_body Bd
  have e0 : s₁.heap = h0 := by rw [← hh, Bd.state]; rfl
  have N0 := Fr.nil n0
  have pre0 : ∀ t, Steps p.tables e below (s₁.setTop (mkF m 0 #[.val (.ref o0), .val (.long y1), .second, .val (.long y2), .second, .val (.long y3), .second] [])) t → Steps p.tables e below (s₁.setTop (entryFrame m #[(.ref o0), (.long y1), (.long y2), (.long y3)] 7)) t := fun t k => castTop (efa_prog_23_method_2_code_vvvv m o0 y1 y2 y3) k
  obtain ⟨T1, X1, e1, st1⟩ := getF X0 hx hZ hown (host := "") (Or.inl (wd25 hw)) Via.refl e0 F_o0_first (g := (mkF m 1 #[.val (.ref o0), .val (.long y1), .second, .val (.long y2), .second, .val (.long y3), .second] [(.ref o0)])) rfl rfl (hb hby dd_prog_23_method_2_code_1)
  obtain ⟨T2, X2, e2, st2⟩ := getF X1 hx hZ hown (host := "") (Or.inl (wd27 hw)) Via.refl e1 F_o0_end (g := (mkF m 5 #[.val (.ref o0), .val (.long y1), .second, .val (.long y2), .second, .val (.long y3), .second] [(.ref o0), (.int (0 : Int32))])) rfl rfl (hb hby dd_prog_23_method_2_code_5)
  obtain ⟨T3, X3, e3, st3⟩ := getF X2 hx hZ hown (host := "") (Or.inl (wd12 hw)) Via.refl e2 F_o0_starts (g := (mkF m 12 #[.val (.ref o0), .val (.long y1), .second, .val (.long y2), .second, .val (.long y3), .second] [(.ref o0)])) rfl rfl (hb hby dd_prog_23_method_2_code_12)
  obtain ⟨T4, X4, e4, st4⟩ := getF X3 hx hZ hown (host := "") (Or.inl (wd25 hw)) Via.refl e3 F_o0_first (g := (mkF m 16 #[.val (.ref o0), .val (.long y1), .second, .val (.long y2), .second, .val (.long y3), .second] [(.ref o0), (.ref o4)])) rfl rfl (hb hby dd_prog_23_method_2_code_16)
  obtain ⟨cl5, Ar5, q5, S5, M5, HH5, GG5⟩ := id V_o4
  have hin5 : ¬ ((0 : Int32) < 0 ∨ cl5.slots.size ≤ ((0 : Int32)).toNatClampNeg) := inb_of S5 ⟨by decide, by decide⟩
  have hat5 : cl5.slots[((0 : Int32)).toNatClampNeg]? = some (.long y5) := Has.at HH5 hin5 rfl
  obtain ⟨T6, X6, e6, st6⟩ := getF X4 hx hZ hown (host := "") (Or.inl (wd16 hw)) Via.refl e4 F_o0_decidedAt (g := (mkF m 31 #[.val (.ref o0), .val (.long y1), .second, .val (.long y2), .second, .val (.long y3), .second] [(.ref o0), (.long y2)])) rfl rfl (hb hby dd_prog_23_method_2_code_31)
  obtain ⟨T7, X7, e7, st7⟩ := getF X6 hx hZ hown (host := "") (Or.inl (wd25 hw)) Via.refl e6 F_o0_first (g := (mkF m 35 #[.val (.ref o0), .val (.long y1), .second, .val (.long y2), .second, .val (.long y3), .second] [(.ref o0), (.ref o7), (.long y2)])) rfl rfl (hb hby dd_prog_23_method_2_code_35)
  obtain ⟨cl8, Ar8, q8, S8, M8, HH8, GG8⟩ := id V_o7
  have hin8 : ¬ ((0 : Int32) < 0 ∨ cl8.slots.size ≤ ((0 : Int32)).toNatClampNeg) := inb_of S8 ⟨by decide, by decide⟩
  have hat8 : cl8.slots[((0 : Int32)).toNatClampNeg]? = some (.long y8) := Has.at HH8 hin8 rfl
  obtain ⟨T9, X9, e9, st9⟩ := getF X7 hx hZ hown (host := "") (Or.inl (wd25 hw)) Via.refl e7 F_o0_first (g := (mkF m 48 #[.val (.ref o0), .val (.long y1), .second, .val (.long y2), .second, .val (.long y3), .second] [(.ref o0), (.ref o0)])) rfl rfl (hb hby dd_prog_23_method_2_code_48)
  obtain ⟨T10, h10, X10, e10, W10, st10⟩ := putF X9 hx hZ hown (host := "") (Or.inl (wd25 hw)) Via.refl e9 F_o0_first E_o0 (Or.inl (wd26 hw)) (wd2 hw) (ty := .int) (by decide) rfl rfl (g := (mkF m 53 #[.val (.ref o0), .val (.long y1), .second, .val (.long y2), .second, .val (.long y3), .second] [(.int (1 : Int32)), (.ref o0)])) rfl rfl (hb hby dd_prog_23_method_2_code_53)
  have N10 := Fr.snoc X10 N0 g_o0
  have Z10 : n0 ≤ h10.size := by rw [W10.size]; exact Z0
  have K10 : Keep h0 h10 [o0] := ((Keep.refl h0 [o0]).wr W10 (Or.inl (List.mem_of_getElem? (i := 0) rfl)))
  have Fw10 := F_o0_first.same W10
  obtain ⟨T11, X11, e11, st11⟩ := getF X10 hx hZ hown (host := "") (Or.inl (wd25 hw)) Via.refl e10 Fw10 (g := (mkF m 1 #[.val (.ref o0), .val (.long y1), .second, .val (.long y2), .second, .val (.long y3), .second] [(.ref o0)])) rfl rfl (hb hby dd_prog_23_method_2_code_1)
  have f12 := (F_o0_end.other W10 (Or.inr (slot_ne (Or.inl (wd28 hw)) (Or.inl (wd26 hw)) (by decide) (t := .int) (t' := .int) (by decide) (by decide))))
  obtain ⟨T13, X13, e13, st13⟩ := getF X11 hx hZ hown (host := "") (Or.inl (wd27 hw)) Via.refl e11 f12 (g := (mkF m 5 #[.val (.ref o0), .val (.long y1), .second, .val (.long y2), .second, .val (.long y3), .second] [(.ref o0), (.int (1 : Int32))])) rfl rfl (hb hby dd_prog_23_method_2_code_5)
  have f14 := (F_o0_starts.other W10 (Or.inr (slot_ne (Or.inl (wd13 hw)) (Or.inl (wd26 hw)) (by decide) (t := (.array .long)) (t' := .int) (by decide) (by decide))))
  obtain ⟨T15, X15, e15, st15⟩ := getF X13 hx hZ hown (host := "") (Or.inl (wd12 hw)) Via.refl e13 f14 (g := (mkF m 12 #[.val (.ref o0), .val (.long y1), .second, .val (.long y2), .second, .val (.long y3), .second] [(.ref o0)])) rfl rfl (hb hby dd_prog_23_method_2_code_12)
  obtain ⟨T16, X16, e16, st16⟩ := getF X15 hx hZ hown (host := "") (Or.inl (wd25 hw)) Via.refl e15 Fw10 (g := (mkF m 16 #[.val (.ref o0), .val (.long y1), .second, .val (.long y2), .second, .val (.long y3), .second] [(.ref o0), (.ref o4)])) rfl rfl (hb hby dd_prog_23_method_2_code_16)
  have f17 := (V_o4.other W10 ne_o4_o0)
  obtain ⟨cl18, Ar18, q18, S18, M18, HH18, GG18⟩ := id f17
  have hin18 : ¬ ((1 : Int32) < 0 ∨ cl18.slots.size ≤ ((1 : Int32)).toNatClampNeg) := inb_of S18 ⟨by decide, by decide⟩
  have hat18 : cl18.slots[((1 : Int32)).toNatClampNeg]? = some (.long y6) := Has.at HH18 hin18 rfl
  have f19 := (F_o0_decidedAt.other W10 (Or.inr (slot_ne (Or.inl (wd17 hw)) (Or.inl (wd26 hw)) (by decide) (t := (.array .long)) (t' := .int) (by decide) (by decide))))
  obtain ⟨T20, X20, e20, st20⟩ := getF X16 hx hZ hown (host := "") (Or.inl (wd16 hw)) Via.refl e16 f19 (g := (mkF m 31 #[.val (.ref o0), .val (.long y1), .second, .val (.long y2), .second, .val (.long y3), .second] [(.ref o0), (.long y2)])) rfl rfl (hb hby dd_prog_23_method_2_code_31)
  obtain ⟨T21, X21, e21, st21⟩ := getF X20 hx hZ hown (host := "") (Or.inl (wd25 hw)) Via.refl e20 Fw10 (g := (mkF m 35 #[.val (.ref o0), .val (.long y1), .second, .val (.long y2), .second, .val (.long y3), .second] [(.ref o0), (.ref o7), (.long y2)])) rfl rfl (hb hby dd_prog_23_method_2_code_35)
  have f22 := (V_o7.other W10 ne_o7_o0)
  obtain ⟨cl23, Ar23, q23, S23, M23, HH23, GG23⟩ := id f22
  have hin23 : ¬ ((1 : Int32) < 0 ∨ cl23.slots.size ≤ ((1 : Int32)).toNatClampNeg) := inb_of S23 ⟨by decide, by decide⟩
  have hat23 : cl23.slots[((1 : Int32)).toNatClampNeg]? = some (.long y9) := Has.at HH23 hin23 rfl
  obtain ⟨T24, X24, e24, st24⟩ := getF X21 hx hZ hown (host := "") (Or.inl (wd25 hw)) Via.refl e21 Fw10 (g := (mkF m 48 #[.val (.ref o0), .val (.long y1), .second, .val (.long y2), .second, .val (.long y3), .second] [(.ref o0), (.ref o0)])) rfl rfl (hb hby dd_prog_23_method_2_code_48)
  have f25 := (E_o0.wr W10)
  obtain ⟨T26, h26, X26, e26, W26, st26⟩ := putF X24 hx hZ hown (host := "") (Or.inl (wd25 hw)) Via.refl e24 Fw10 f25 (Or.inl (wd26 hw)) (wd2 hw) (ty := .int) (by decide) rfl rfl (g := (mkF m 53 #[.val (.ref o0), .val (.long y1), .second, .val (.long y2), .second, .val (.long y3), .second] [(.int (2 : Int32)), (.ref o0)])) rfl rfl (hb hby dd_prog_23_method_2_code_53)
  have N26 := Fr.snoc X26 N10 g_o0
  have Z26 : n0 ≤ h26.size := by rw [W26.size]; exact Z10
  have K26 : Keep h0 h26 [o0] := (K10.wr W26 (Or.inl (List.mem_of_getElem? (i := 0) rfl)))
  have Fw26 := Fw10.same W26
  obtain ⟨T27, X27, e27, st27⟩ := getF X26 hx hZ hown (host := "") (Or.inl (wd25 hw)) Via.refl e26 Fw26 (g := (mkF m 1 #[.val (.ref o0), .val (.long y1), .second, .val (.long y2), .second, .val (.long y3), .second] [(.ref o0)])) rfl rfl (hb hby dd_prog_23_method_2_code_1)
  have f28 := (f12.other W26 (Or.inr (slot_ne (Or.inl (wd28 hw)) (Or.inl (wd26 hw)) (by decide) (t := .int) (t' := .int) (by decide) (by decide))))
  obtain ⟨T29, X29, e29, st29⟩ := getF X27 hx hZ hown (host := "") (Or.inl (wd27 hw)) Via.refl e27 f28 (g := (mkF m 5 #[.val (.ref o0), .val (.long y1), .second, .val (.long y2), .second, .val (.long y3), .second] [(.ref o0), (.int (2 : Int32))])) rfl rfl (hb hby dd_prog_23_method_2_code_5)
  have f30 := (f14.other W26 (Or.inr (slot_ne (Or.inl (wd13 hw)) (Or.inl (wd26 hw)) (by decide) (t := (.array .long)) (t' := .int) (by decide) (by decide))))
  have f31 := (f19.other W26 (Or.inr (slot_ne (Or.inl (wd17 hw)) (Or.inl (wd26 hw)) (by decide) (t := (.array .long)) (t' := .int) (by decide) (by decide))))
  have f32 := (f25.wr W26)
  have f33 := ((F_o0_records.other W10 (Or.inr (slot_ne (Or.inl (wd15 hw)) (Or.inl (wd26 hw)) (by decide) (t := (.array .long)) (t' := .int) (by decide) (by decide)))).other W26 (Or.inr (slot_ne (Or.inl (wd15 hw)) (Or.inl (wd26 hw)) (by decide) (t := (.array .long)) (t' := .int) (by decide) (by decide))))
  have f34 := ((F_o0_width.other W10 (Or.inr (slot_ne (Or.inr (wd19 hw)) (Or.inl (wd26 hw)) (by decide) (t := .int) (t' := .int) (by decide) (by decide)))).other W26 (Or.inr (slot_ne (Or.inr (wd19 hw)) (Or.inl (wd26 hw)) (by decide) (t := .int) (t' := .int) (by decide) (by decide))))
  obtain ⟨lfs, lhr, lhrun, lhended, lhW, lhsame⟩ := X29.leave (v := none) (fun _ => rfl)
  refine ⟨_, _, pre0 _ ?_, lhrun, lhended, _, _, rfl, ?_, ⟨_, rfl⟩, lhW, lhsame.mono (by decide) (by decide)⟩
  · skip
    show Steps p.tables e below (s₁.setTop (mkF m 0 #[.val (.ref o0), .val (.long y1), .second, .val (.long y2), .second, .val (.long y3), .second] [])) _
    refine XS.aloadN X0.here hx rfl (hb hby dd_prog_23_method_2_code_0) rfl rfl ?_
    show Steps p.tables e below (s₁.setTop (mkF m 1 #[.val (.ref o0), .val (.long y1), .second, .val (.long y2), .second, .val (.long y3), .second] [(.ref o0)])) _
    refine st1 _ ?_
    show Steps p.tables e below (T1.setTop (mkF m 4 #[.val (.ref o0), .val (.long y1), .second, .val (.long y2), .second, .val (.long y3), .second] [(.int (0 : Int32))])) _
    refine XS.aloadN X1.here hx rfl (hb hby dd_prog_23_method_2_code_4) rfl rfl ?_
    show Steps p.tables e below (T1.setTop (mkF m 5 #[.val (.ref o0), .val (.long y1), .second, .val (.long y2), .second, .val (.long y3), .second] [(.ref o0), (.int (0 : Int32))])) _
    refine st2 _ ?_
    show Steps p.tables e below (T2.setTop (mkF m 8 #[.val (.ref o0), .val (.long y1), .second, .val (.long y2), .second, .val (.long y3), .second] [(.int (2 : Int32)), (.int (0 : Int32))])) _
    refine XS.icmpNo X2.here hx rfl (hb hby dd_prog_23_method_2_code_8) rfl (tlt (by decide : (0 : Int32) < (2 : Int32))).2.1 ?_
    show Steps p.tables e below (T2.setTop (mkF m 11 #[.val (.ref o0), .val (.long y1), .second, .val (.long y2), .second, .val (.long y3), .second] [])) _
    refine XS.aloadN X2.here hx rfl (hb hby dd_prog_23_method_2_code_11) rfl rfl ?_
    show Steps p.tables e below (T2.setTop (mkF m 12 #[.val (.ref o0), .val (.long y1), .second, .val (.long y2), .second, .val (.long y3), .second] [(.ref o0)])) _
    refine st3 _ ?_
    show Steps p.tables e below (T3.setTop (mkF m 15 #[.val (.ref o0), .val (.long y1), .second, .val (.long y2), .second, .val (.long y3), .second] [(.ref o4)])) _
    refine XS.aloadN X3.here hx rfl (hb hby dd_prog_23_method_2_code_15) rfl rfl ?_
    show Steps p.tables e below (T3.setTop (mkF m 16 #[.val (.ref o0), .val (.long y1), .second, .val (.long y2), .second, .val (.long y3), .second] [(.ref o0), (.ref o4)])) _
    refine st4 _ ?_
    show Steps p.tables e below (T4.setTop (mkF m 19 #[.val (.ref o0), .val (.long y1), .second, .val (.long y2), .second, .val (.long y3), .second] [(.int (0 : Int32)), (.ref o4)])) _
    refine X4.laload hx (j := (0 : Int32)) (v := (.long y5)) (by (try rw [e4]); exact Ar5.1) (State.isArrayOf_alike hZ.alike Ar5.2.1) Ar5.2.2 hin5 hat5 (g := (mkF m 19 #[.val (.ref o0), .val (.long y1), .second, .val (.long y2), .second, .val (.long y3), .second] [(.int (0 : Int32)), (.ref o4)])) rfl rfl (hb hby dd_prog_23_method_2_code_19) _ ?_
    refine X4.ldc2Long hx hown (mvT hZ (wd69 hw)) (g := (mkF m 20 #[.val (.ref o0), .val (.long y1), .second, .val (.long y2), .second, .val (.long y3), .second] [(.long y5)])) rfl (hb hby dd_prog_23_method_2_code_20) _ ?_
    show Steps p.tables e below (T4.setTop (mkF m 23 #[.val (.ref o0), .val (.long y1), .second, .val (.long y2), .second, .val (.long y3), .second] [(.long (1000000000 : Int64)), (.long y5)])) _
    refine XS.ldiv X4.here hx rfl (hb hby dd_prog_23_method_2_code_23) rfl (by decide) ?_
    refine XS.lloadN X4.here hx rfl (hb hby dd_prog_23_method_2_code_24) rfl ?_
    refine XS.lcmp X4.here hx rfl (hb hby dd_prog_23_method_2_code_25) rfl ?_
    show Steps p.tables e below (T4.setTop (mkF m 26 #[.val (.ref o0), .val (.long y1), .second, .val (.long y2), .second, .val (.long y3), .second] [(.int (lcmpW (y5 / (1000000000 : Int64)) y1))])) _
    refine XS.ifNo X4.here hx rfl (hb hby dd_prog_23_method_2_code_26) rfl ((if0 _ _).trans (flt (fun q => hq4 ((lw_gt (y5 / (1000000000 : Int64)) y1).mp q))).2.2.1) ?_
    refine XS.lloadN X4.here hx rfl (hb hby dd_prog_23_method_2_code_29) rfl ?_
    refine XS.aloadN X4.here hx rfl (hb hby dd_prog_23_method_2_code_30) rfl rfl ?_
    show Steps p.tables e below (T4.setTop (mkF m 31 #[.val (.ref o0), .val (.long y1), .second, .val (.long y2), .second, .val (.long y3), .second] [(.ref o0), (.long y2)])) _
    refine st6 _ ?_
    show Steps p.tables e below (T6.setTop (mkF m 34 #[.val (.ref o0), .val (.long y1), .second, .val (.long y2), .second, .val (.long y3), .second] [(.ref o7), (.long y2)])) _
    refine XS.aloadN X6.here hx rfl (hb hby dd_prog_23_method_2_code_34) rfl rfl ?_
    show Steps p.tables e below (T6.setTop (mkF m 35 #[.val (.ref o0), .val (.long y1), .second, .val (.long y2), .second, .val (.long y3), .second] [(.ref o0), (.ref o7), (.long y2)])) _
    refine st7 _ ?_
    show Steps p.tables e below (T7.setTop (mkF m 38 #[.val (.ref o0), .val (.long y1), .second, .val (.long y2), .second, .val (.long y3), .second] [(.int (0 : Int32)), (.ref o7), (.long y2)])) _
    refine X7.laload hx (j := (0 : Int32)) (v := (.long y8)) (by (try rw [e7]); exact Ar8.1) (State.isArrayOf_alike hZ.alike Ar8.2.1) Ar8.2.2 hin8 hat8 (g := (mkF m 38 #[.val (.ref o0), .val (.long y1), .second, .val (.long y2), .second, .val (.long y3), .second] [(.int (0 : Int32)), (.ref o7), (.long y2)])) rfl rfl (hb hby dd_prog_23_method_2_code_38) _ ?_
    refine XS.lsub X7.here hx rfl (hb hby dd_prog_23_method_2_code_39) rfl ?_
    refine XS.lload X7.here hx rfl (hb hby dd_prog_23_method_2_code_40) rfl ?_
    show Steps p.tables e below (T7.setTop (mkF m 42 #[.val (.ref o0), .val (.long y1), .second, .val (.long y2), .second, .val (.long y3), .second] [(.long y3), (.long (y2 - y8))])) _
    refine XS.lcmp X7.here hx rfl (hb hby dd_prog_23_method_2_code_42) rfl ?_
    refine XS.ifNo X7.here hx rfl (hb hby dd_prog_23_method_2_code_43) rfl ((if0 _ _).trans (flt (fun q => hq7 ((lw_lt (y2 - y8) y3).mp q))).1) ?_
    refine XS.aloadN X7.here hx rfl (hb hby dd_prog_23_method_2_code_46) rfl rfl ?_
    show Steps p.tables e below (T7.setTop (mkF m 47 #[.val (.ref o0), .val (.long y1), .second, .val (.long y2), .second, .val (.long y3), .second] [(.ref o0)])) _
    refine XS.dup X7.here hx rfl (hb hby dd_prog_23_method_2_code_47) rfl rfl ?_
    show Steps p.tables e below (T7.setTop (mkF m 48 #[.val (.ref o0), .val (.long y1), .second, .val (.long y2), .second, .val (.long y3), .second] [(.ref o0), (.ref o0)])) _
    refine st9 _ ?_
    show Steps p.tables e below (T9.setTop (mkF m 51 #[.val (.ref o0), .val (.long y1), .second, .val (.long y2), .second, .val (.long y3), .second] [(.int (0 : Int32)), (.ref o0)])) _
    refine XS.iconst X9.here hx rfl (hb hby dd_prog_23_method_2_code_51) ?_
    show Steps p.tables e below (T9.setTop (mkF m 52 #[.val (.ref o0), .val (.long y1), .second, .val (.long y2), .second, .val (.long y3), .second] [(.int (1 : Int32)), (.int (0 : Int32)), (.ref o0)])) _
    refine XS.iadd X9.here hx rfl (hb hby dd_prog_23_method_2_code_52) rfl ?_
    show Steps p.tables e below (T9.setTop (mkF m 53 #[.val (.ref o0), .val (.long y1), .second, .val (.long y2), .second, .val (.long y3), .second] [(.int (1 : Int32)), (.ref o0)])) _
    refine st10 _ ?_
    show Steps p.tables e below (T10.setTop (mkF m 56 #[.val (.ref o0), .val (.long y1), .second, .val (.long y2), .second, .val (.long y3), .second] [])) _
    refine XS.goto X10.here hx rfl (pc0 := 56) (pc' := 0) rfl (hb hby dd_prog_23_method_2_code_56) (by decide) (by decide) ?_
    show Steps p.tables e below (T10.setTop (mkF m 0 #[.val (.ref o0), .val (.long y1), .second, .val (.long y2), .second, .val (.long y3), .second] [])) _
    refine XS.aloadN X10.here hx rfl (hb hby dd_prog_23_method_2_code_0) rfl rfl ?_
    show Steps p.tables e below (T10.setTop (mkF m 1 #[.val (.ref o0), .val (.long y1), .second, .val (.long y2), .second, .val (.long y3), .second] [(.ref o0)])) _
    refine st11 _ ?_
    show Steps p.tables e below (T11.setTop (mkF m 4 #[.val (.ref o0), .val (.long y1), .second, .val (.long y2), .second, .val (.long y3), .second] [(.int (1 : Int32))])) _
    refine XS.aloadN X11.here hx rfl (hb hby dd_prog_23_method_2_code_4) rfl rfl ?_
    show Steps p.tables e below (T11.setTop (mkF m 5 #[.val (.ref o0), .val (.long y1), .second, .val (.long y2), .second, .val (.long y3), .second] [(.ref o0), (.int (1 : Int32))])) _
    refine st13 _ ?_
    show Steps p.tables e below (T13.setTop (mkF m 8 #[.val (.ref o0), .val (.long y1), .second, .val (.long y2), .second, .val (.long y3), .second] [(.int (2 : Int32)), (.int (1 : Int32))])) _
    refine XS.icmpNo X13.here hx rfl (hb hby dd_prog_23_method_2_code_8) rfl (tlt (by decide : (1 : Int32) < (2 : Int32))).2.1 ?_
    refine XS.aloadN X13.here hx rfl (hb hby dd_prog_23_method_2_code_11) rfl rfl ?_
    show Steps p.tables e below (T13.setTop (mkF m 12 #[.val (.ref o0), .val (.long y1), .second, .val (.long y2), .second, .val (.long y3), .second] [(.ref o0)])) _
    refine st15 _ ?_
    show Steps p.tables e below (T15.setTop (mkF m 15 #[.val (.ref o0), .val (.long y1), .second, .val (.long y2), .second, .val (.long y3), .second] [(.ref o4)])) _
    refine XS.aloadN X15.here hx rfl (hb hby dd_prog_23_method_2_code_15) rfl rfl ?_
    show Steps p.tables e below (T15.setTop (mkF m 16 #[.val (.ref o0), .val (.long y1), .second, .val (.long y2), .second, .val (.long y3), .second] [(.ref o0), (.ref o4)])) _
    refine st16 _ ?_
    show Steps p.tables e below (T16.setTop (mkF m 19 #[.val (.ref o0), .val (.long y1), .second, .val (.long y2), .second, .val (.long y3), .second] [(.int (1 : Int32)), (.ref o4)])) _
    refine X16.laload hx (j := (1 : Int32)) (v := (.long y6)) (by (try rw [e16]); exact Ar18.1) (State.isArrayOf_alike hZ.alike Ar18.2.1) Ar18.2.2 hin18 hat18 (g := (mkF m 19 #[.val (.ref o0), .val (.long y1), .second, .val (.long y2), .second, .val (.long y3), .second] [(.int (1 : Int32)), (.ref o4)])) rfl rfl (hb hby dd_prog_23_method_2_code_19) _ ?_
    refine X16.ldc2Long hx hown (mvT hZ (wd69 hw)) (g := (mkF m 20 #[.val (.ref o0), .val (.long y1), .second, .val (.long y2), .second, .val (.long y3), .second] [(.long y6)])) rfl (hb hby dd_prog_23_method_2_code_20) _ ?_
    refine XS.ldiv X16.here hx rfl (hb hby dd_prog_23_method_2_code_23) rfl (by decide) ?_
    show Steps p.tables e below (T16.setTop (mkF m 24 #[.val (.ref o0), .val (.long y1), .second, .val (.long y2), .second, .val (.long y3), .second] [(.long (y6 / (1000000000 : Int64)))])) _
    refine XS.lloadN X16.here hx rfl (hb hby dd_prog_23_method_2_code_24) rfl ?_
    refine XS.lcmp X16.here hx rfl (hb hby dd_prog_23_method_2_code_25) rfl ?_
    refine XS.ifNo X16.here hx rfl (hb hby dd_prog_23_method_2_code_26) rfl ((if0 _ _).trans (flt (fun q => hq11 ((lw_gt (y6 / (1000000000 : Int64)) y1).mp q))).2.2.1) ?_
    show Steps p.tables e below (T16.setTop (mkF m 29 #[.val (.ref o0), .val (.long y1), .second, .val (.long y2), .second, .val (.long y3), .second] [])) _
    refine XS.lloadN X16.here hx rfl (hb hby dd_prog_23_method_2_code_29) rfl ?_
    refine XS.aloadN X16.here hx rfl (hb hby dd_prog_23_method_2_code_30) rfl rfl ?_
    show Steps p.tables e below (T16.setTop (mkF m 31 #[.val (.ref o0), .val (.long y1), .second, .val (.long y2), .second, .val (.long y3), .second] [(.ref o0), (.long y2)])) _
    refine st20 _ ?_
    show Steps p.tables e below (T20.setTop (mkF m 34 #[.val (.ref o0), .val (.long y1), .second, .val (.long y2), .second, .val (.long y3), .second] [(.ref o7), (.long y2)])) _
    refine XS.aloadN X20.here hx rfl (hb hby dd_prog_23_method_2_code_34) rfl rfl ?_
    show Steps p.tables e below (T20.setTop (mkF m 35 #[.val (.ref o0), .val (.long y1), .second, .val (.long y2), .second, .val (.long y3), .second] [(.ref o0), (.ref o7), (.long y2)])) _
    refine st21 _ ?_
    show Steps p.tables e below (T21.setTop (mkF m 38 #[.val (.ref o0), .val (.long y1), .second, .val (.long y2), .second, .val (.long y3), .second] [(.int (1 : Int32)), (.ref o7), (.long y2)])) _
    refine X21.laload hx (j := (1 : Int32)) (v := (.long y9)) (by (try rw [e21]); exact Ar23.1) (State.isArrayOf_alike hZ.alike Ar23.2.1) Ar23.2.2 hin23 hat23 (g := (mkF m 38 #[.val (.ref o0), .val (.long y1), .second, .val (.long y2), .second, .val (.long y3), .second] [(.int (1 : Int32)), (.ref o7), (.long y2)])) rfl rfl (hb hby dd_prog_23_method_2_code_38) _ ?_
    show Steps p.tables e below (T21.setTop (mkF m 39 #[.val (.ref o0), .val (.long y1), .second, .val (.long y2), .second, .val (.long y3), .second] [(.long y9), (.long y2)])) _
    refine XS.lsub X21.here hx rfl (hb hby dd_prog_23_method_2_code_39) rfl ?_
    refine XS.lload X21.here hx rfl (hb hby dd_prog_23_method_2_code_40) rfl ?_
    refine XS.lcmp X21.here hx rfl (hb hby dd_prog_23_method_2_code_42) rfl ?_
    show Steps p.tables e below (T21.setTop (mkF m 43 #[.val (.ref o0), .val (.long y1), .second, .val (.long y2), .second, .val (.long y3), .second] [(.int (lcmpW (y2 - y9) y3))])) _
    refine XS.ifNo X21.here hx rfl (hb hby dd_prog_23_method_2_code_43) rfl ((if0 _ _).trans (flt (fun q => hq13 ((lw_lt (y2 - y9) y3).mp q))).1) ?_
    refine XS.aloadN X21.here hx rfl (hb hby dd_prog_23_method_2_code_46) rfl rfl ?_
    refine XS.dup X21.here hx rfl (hb hby dd_prog_23_method_2_code_47) rfl rfl ?_
    show Steps p.tables e below (T21.setTop (mkF m 48 #[.val (.ref o0), .val (.long y1), .second, .val (.long y2), .second, .val (.long y3), .second] [(.ref o0), (.ref o0)])) _
    refine st24 _ ?_
    show Steps p.tables e below (T24.setTop (mkF m 51 #[.val (.ref o0), .val (.long y1), .second, .val (.long y2), .second, .val (.long y3), .second] [(.int (1 : Int32)), (.ref o0)])) _
    refine XS.iconst X24.here hx rfl (hb hby dd_prog_23_method_2_code_51) ?_
    refine XS.iadd X24.here hx rfl (hb hby dd_prog_23_method_2_code_52) rfl ?_
    show Steps p.tables e below (T24.setTop (mkF m 53 #[.val (.ref o0), .val (.long y1), .second, .val (.long y2), .second, .val (.long y3), .second] [(.int (2 : Int32)), (.ref o0)])) _
    refine st26 _ ?_
    show Steps p.tables e below (T26.setTop (mkF m 56 #[.val (.ref o0), .val (.long y1), .second, .val (.long y2), .second, .val (.long y3), .second] [])) _
    refine XS.goto X26.here hx rfl (pc0 := 56) (pc' := 0) rfl (hb hby dd_prog_23_method_2_code_56) (by decide) (by decide) ?_
    refine XS.aloadN X26.here hx rfl (hb hby dd_prog_23_method_2_code_0) rfl rfl ?_
    show Steps p.tables e below (T26.setTop (mkF m 1 #[.val (.ref o0), .val (.long y1), .second, .val (.long y2), .second, .val (.long y3), .second] [(.ref o0)])) _
    refine st27 _ ?_
    show Steps p.tables e below (T27.setTop (mkF m 4 #[.val (.ref o0), .val (.long y1), .second, .val (.long y2), .second, .val (.long y3), .second] [(.int (2 : Int32))])) _
    refine XS.aloadN X27.here hx rfl (hb hby dd_prog_23_method_2_code_4) rfl rfl ?_
    show Steps p.tables e below (T27.setTop (mkF m 5 #[.val (.ref o0), .val (.long y1), .second, .val (.long y2), .second, .val (.long y3), .second] [(.ref o0), (.int (2 : Int32))])) _
    refine st29 _ ?_
    show Steps p.tables e below (T29.setTop (mkF m 8 #[.val (.ref o0), .val (.long y1), .second, .val (.long y2), .second, .val (.long y3), .second] [(.int (2 : Int32)), (.int (2 : Int32))])) _
    refine XS.icmpYes X29.here hx rfl (pc0 := 8) (pc' := 59) rfl (hb hby dd_prog_23_method_2_code_8) rfl (flt (by decide : ¬ ((2 : Int32) < (2 : Int32)))).2.1 (by decide) (by decide) ?_
    show Steps p.tables e below (T29.setTop (mkF m 59 #[.val (.ref o0), .val (.long y1), .second, .val (.long y2), .second, .val (.long y3), .second] [])) _
    exact X29.returnOut hx Bd.returns (hb hby dd_prog_23_method_2_code_59) lhr
  · skip
    show QA66 Z o0 y1 y2 y3 o4 y5 y6 kk_o4 o7 y8 y9 kk_o7 u100 u101 h0 n0 _ T29.heap _
    rw [e29]
    exact ⟨rfl, N26, K26, Fw26, f28, f30, f31, f32, f33, f34⟩
theorem dd_prog_23_method_3_code_23 : decode prog_23_method_3_code 23 = .ok (.ldc2_w 36, 3) := by decide +kernel
def QA67 (Z : State) (o0 : Addr) (h0 : Heap) (n0 : Nat) (v : Option Value) (h : Heap) (L : List Loc) : Prop := v = some (.long (9223372036854775807 : Int64)) ∧ Fr n0 L ∧ h = h0
set_option maxRecDepth 65536 in
set_option maxHeartbeats 40000000 in
theorem rmA67 (l : Launch) (Z : State) (a0 : Array Value) (hw : ∀ d ∈ tables_1, d.before a0 Z = true) (ws : List Jvm.Cond) (o0 : Addr) (h0 : Heap) (n0 : Nat) (Z0 : n0 ≤ h0.size) (F_o0_first : Fld Z h0 o0 cn2 "first" "I" (.int (2 : Int32))) (F_o0_end : Fld Z h0 o0 cn2 "end" "I" (.int (2 : Int32))) :
    MetFree l mn3 (head1 (Jvm.Cond.code mn3 prog_23_method_3_code 1 (some .long) :: ws) ({ frames := 0, cells := 0, slots := 0, locals := 0 } : Room)) (fun a U => a = #[(.ref o0)] ∧ Z.Warmed39 U.vm ∧ U.heap = h0) (fun _ _ _ _ _ => True) (fun _ U oc_ U' => ∃ v L, oc_ = .returned v ∧ QA67 Z o0 h0 n0 v U'.heap L ∧ FrameEnd U oc_ U' L ({ frames := 0, cells := 0, slots := 0, locals := 0 } : Room).cells ({ frames := 0, cells := 0, slots := 0, locals := 0 } : Room).slots) := by
  refine MetFree.of_bodySF (plainFor_of_name pn_com_example_strict_limiter_strictlimiter_KeptWindows) hisR ?_
  intro p e s m args below meth c s₁ Bd hml0 hP hK
  obtain ⟨rfl, hZ, hh⟩ := hP
  have hx := Bd.exec
  have hby := Bd.bytes
  have hml : c.maxLocals = 1 := hml0
  have hown : s.vm.findClass cn2 = some m.cls := findClass_of_methodNamed Bd.named
  have hnm := (name_of_methodNamed Bd.named Bd.method).1
  have X0 : Stand p l e ({ frames := 0, cells := 0, slots := 0, locals := 0 } : Room) s m #[(.ref o0)] below meth c s₁ [] 0 0 := Stand.of_body Bd
  have e0 : s₁.heap = h0 := by rw [← hh, Bd.state]; rfl
  have N0 := Fr.nil n0
  have pre0 : ∀ t, Steps p.tables e below (s₁.setTop (mkF m 0 #[.val (.ref o0)] [])) t → Steps p.tables e below (s₁.setTop (entryFrame m #[(.ref o0)] 1)) t := fun t k => castTop (efa_prog_23_method_3_code_v m o0) k
  obtain ⟨T1, X1, e1, st1⟩ := getF X0 hx hZ hown (host := "") (Or.inl (wd25 hw)) Via.refl e0 F_o0_first (g := (mkF m 1 #[.val (.ref o0)] [(.ref o0)])) rfl rfl (hb hby dd_prog_23_method_3_code_1)
  obtain ⟨T2, X2, e2, st2⟩ := getF X1 hx hZ hown (host := "") (Or.inl (wd27 hw)) Via.refl e1 F_o0_end (g := (mkF m 5 #[.val (.ref o0)] [(.ref o0), (.int (2 : Int32))])) rfl rfl (hb hby dd_prog_23_method_3_code_5)
  obtain ⟨lfs, lhr, lhrun, lhended, lhW, lhsame⟩ := X2.leave (v := some (.long (9223372036854775807 : Int64))) (fun h => by rw [Bd.returns] at h; cases h)
  refine ⟨_, _, pre0 _ ?_, lhrun, lhended, _, _, rfl, ?_, ⟨_, rfl⟩, lhW, lhsame.mono (by decide) (by decide)⟩
  · skip
    show Steps p.tables e below (s₁.setTop (mkF m 0 #[.val (.ref o0)] [])) _
    refine XS.aloadN X0.here hx rfl (hb hby dd_prog_23_method_3_code_0) rfl rfl ?_
    show Steps p.tables e below (s₁.setTop (mkF m 1 #[.val (.ref o0)] [(.ref o0)])) _
    refine st1 _ ?_
    show Steps p.tables e below (T1.setTop (mkF m 4 #[.val (.ref o0)] [(.int (2 : Int32))])) _
    refine XS.aloadN X1.here hx rfl (hb hby dd_prog_23_method_3_code_4) rfl rfl ?_
    show Steps p.tables e below (T1.setTop (mkF m 5 #[.val (.ref o0)] [(.ref o0), (.int (2 : Int32))])) _
    refine st2 _ ?_
    show Steps p.tables e below (T2.setTop (mkF m 8 #[.val (.ref o0)] [(.int (2 : Int32)), (.int (2 : Int32))])) _
    refine XS.icmpYes X2.here hx rfl (pc0 := 8) (pc' := 23) rfl (hb hby dd_prog_23_method_3_code_8) rfl (flt (by decide : ¬ ((2 : Int32) < (2 : Int32)))).2.1 (by decide) (by decide) ?_
    show Steps p.tables e below (T2.setTop (mkF m 23 #[.val (.ref o0)] [])) _
    refine X2.ldc2Long hx hown (mvT hZ (wd82 hw)) (g := (mkF m 23 #[.val (.ref o0)] [])) rfl (hb hby dd_prog_23_method_3_code_23) _ ?_
    show Steps p.tables e below (T2.setTop (mkF m 26 #[.val (.ref o0)] [(.long (9223372036854775807 : Int64))])) _
    exact retOut X2 hx Bd.returns rfl (Or.inr (Or.inl ⟨rfl, rfl, _, rfl⟩)) (hb hby dd_prog_23_method_3_code_26) lhr
  · skip
    show QA67 Z o0 h0 n0 _ T2.heap _
    rw [e2]
    exact ⟨rfl, N0, rfl⟩
def QA70 (Z : State)  (h0 : Heap) (n0 : Nat) (v : Option Value) (h : Heap) (L : List Loc) : Prop := v = none ∧ Fr n0 L ∧ h = h0
set_option maxRecDepth 65536 in
set_option maxHeartbeats 40000000 in
theorem rmA70 (l : Launch) (Z : State) (a0 : Array Value) (hw : ∀ d ∈ tables_1, d.before a0 Z = true) (ws : List Jvm.Cond)  (h0 : Heap) (n0 : Nat) (Z0 : n0 ≤ h0.size) :
    MetFree l mn12 (head1 (Jvm.Cond.code mn12 jdk_65_method_30_code 3 none :: ws) ({ frames := 0, cells := 0, slots := 0, locals := 0 } : Room)) (fun a U => a = #[(.int (2 : Int32)), (.int (2 : Int32)), (.int (2 : Int32))] ∧ Z.Warmed39 U.vm ∧ U.heap = h0) (fun _ _ _ _ _ => True) (fun _ U oc_ U' => ∃ v L, oc_ = .returned v ∧ QA70 Z  h0 n0 v U'.heap L ∧ FrameEnd U oc_ U' L ({ frames := 0, cells := 0, slots := 0, locals := 0 } : Room).cells ({ frames := 0, cells := 0, slots := 0, locals := 0 } : Room).slots) := by
  refine MetFree.of_bodySF (plainFor_of_name pn_java_util_Arrays) hisR ?_
  intro p e s m args below meth c s₁ Bd hml0 hP hK
  obtain ⟨rfl, hZ, hh⟩ := hP
  have hx := Bd.exec
  have hby := Bd.bytes
  have hml : c.maxLocals = 3 := hml0
  have hown : s.vm.findClass "java/util/Arrays" = some m.cls := findClass_of_methodNamed Bd.named
  have hnm := (name_of_methodNamed Bd.named Bd.method).1
  have X0 : Stand p l e ({ frames := 0, cells := 0, slots := 0, locals := 0 } : Room) s m #[(.int (2 : Int32)), (.int (2 : Int32)), (.int (2 : Int32))] below meth c s₁ [] 0 0 := Stand.of_body Bd
  have e0 : s₁.heap = h0 := by rw [← hh, Bd.state]; rfl
  have N0 := Fr.nil n0
  have pre0 : ∀ t, Steps p.tables e below (s₁.setTop (mkF m 0 #[.val (.int (2 : Int32)), .val (.int (2 : Int32)), .val (.int (2 : Int32))] [])) t → Steps p.tables e below (s₁.setTop (entryFrame m #[(.int (2 : Int32)), (.int (2 : Int32)), (.int (2 : Int32))] 3)) t := fun t k => castTop (efa_jdk_65_method_30_code_vvv m (2 : Int32) (2 : Int32) (2 : Int32)) k
  obtain ⟨lfs, lhr, lhrun, lhended, lhW, lhsame⟩ := X0.leave (v := none) (fun _ => rfl)
  refine ⟨_, _, pre0 _ ?_, lhrun, lhended, _, _, rfl, ?_, ⟨_, rfl⟩, lhW, lhsame.mono (by decide) (by decide)⟩
  · skip
    show Steps p.tables e below (s₁.setTop (mkF m 0 #[.val (.int (2 : Int32)), .val (.int (2 : Int32)), .val (.int (2 : Int32))] [])) _
    refine XS.iloadN X0.here hx rfl (hb hby dd_jdk_65_method_30_code_0) rfl ?_
    refine XS.iloadN X0.here hx rfl (hb hby dd_jdk_65_method_30_code_1) rfl ?_
    show Steps p.tables e below (s₁.setTop (mkF m 2 #[.val (.int (2 : Int32)), .val (.int (2 : Int32)), .val (.int (2 : Int32))] [(.int (2 : Int32)), (.int (2 : Int32))])) _
    refine XS.icmpYes X0.here hx rfl (pc0 := 2) (pc' := 46) rfl (hb hby dd_jdk_65_method_30_code_2) rfl (flt (by decide : ¬ ((2 : Int32) < (2 : Int32)))).2.2.2 (by decide) (by decide) ?_
    refine XS.iloadN X0.here hx rfl (hb hby dd_jdk_65_method_30_code_46) rfl ?_
    refine XS.ifYes X0.here hx rfl (pc0 := 47) (pc' := 59) rfl (hb hby dd_jdk_65_method_30_code_47) rfl ((if0 _ _).trans (flt (by decide : ¬ ((2 : Int32) < (0 : Int32)))).2.1) (by decide) (by decide) ?_
    show Steps p.tables e below (s₁.setTop (mkF m 59 #[.val (.int (2 : Int32)), .val (.int (2 : Int32)), .val (.int (2 : Int32))] [])) _
    refine XS.iloadN X0.here hx rfl (hb hby dd_jdk_65_method_30_code_59) rfl ?_
    refine XS.iloadN X0.here hx rfl (hb hby dd_jdk_65_method_30_code_60) rfl ?_
    refine XS.icmpYes X0.here hx rfl (pc0 := 61) (pc' := 73) rfl (hb hby dd_jdk_65_method_30_code_61) rfl (flt (by decide : ¬ ((2 : Int32) < (2 : Int32)))).2.2.2 (by decide) (by decide) ?_
    show Steps p.tables e below (s₁.setTop (mkF m 73 #[.val (.int (2 : Int32)), .val (.int (2 : Int32)), .val (.int (2 : Int32))] [])) _
    exact X0.returnOut hx Bd.returns (hb hby dd_jdk_65_method_30_code_73) lhr
  · skip
    show QA70 Z  h0 n0 _ s₁.heap _
    rw [e0]
    exact ⟨rfl, N0, rfl⟩
def QA71 (Z : State) (o0 : Addr) (y1 : Int64) (h0 : Heap) (n0 : Nat) (v : Option Value) (h : Heap) (L : List Loc) : Prop := v = some (.int (-3 : Int32)) ∧ Fr n0 L ∧ h = h0
set_option maxRecDepth 65536 in
set_option maxHeartbeats 40000000 in
theorem rmA71 (l : Launch) (Z : State) (a0 : Array Value) (hw : ∀ d ∈ tables_1, d.before a0 Z = true) (ws : List Jvm.Cond) (o0 : Addr) (y1 : Int64) (h0 : Heap) (n0 : Nat) (Z0 : n0 ≤ h0.size) :
    MetFree l mn10 (head1 (Jvm.Cond.code mn10 jdk_65_method_56_code 10 (some .int) :: ws) ({ frames := 0, cells := 0, slots := 0, locals := 0 } : Room)) (fun a U => a = #[(.ref o0), (.int (2 : Int32)), (.int (2 : Int32)), (.long y1)] ∧ Z.Warmed39 U.vm ∧ U.heap = h0) (fun _ _ _ _ _ => True) (fun _ U oc_ U' => ∃ v L, oc_ = .returned v ∧ QA71 Z o0 y1 h0 n0 v U'.heap L ∧ FrameEnd U oc_ U' L ({ frames := 0, cells := 0, slots := 0, locals := 0 } : Room).cells ({ frames := 0, cells := 0, slots := 0, locals := 0 } : Room).slots) := by
  refine MetFree.of_bodySF (plainFor_of_name pn_java_util_Arrays) hisR ?_
  intro p e s m args below meth c s₁ Bd hml0 hP hK
  obtain ⟨rfl, hZ, hh⟩ := hP
  have hx := Bd.exec
  have hby := Bd.bytes
  have hml : c.maxLocals = 10 := hml0
  have hown : s.vm.findClass "java/util/Arrays" = some m.cls := findClass_of_methodNamed Bd.named
  have hnm := (name_of_methodNamed Bd.named Bd.method).1
  have X0 : Stand p l e ({ frames := 0, cells := 0, slots := 0, locals := 0 } : Room) s m #[(.ref o0), (.int (2 : Int32)), (.int (2 : Int32)), (.long y1)] below meth c s₁ [] 0 0 := Stand.of_body Bd
  have e0 : s₁.heap = h0 := by rw [← hh, Bd.state]; rfl
  have N0 := Fr.nil n0
  have pre0 : ∀ t, Steps p.tables e below (s₁.setTop (mkF m 0 #[.val (.ref o0), .val (.int (2 : Int32)), .val (.int (2 : Int32)), .val (.long y1), .second, .unset, .unset, .unset, .unset, .unset] [])) t → Steps p.tables e below (s₁.setTop (entryFrame m #[(.ref o0), (.int (2 : Int32)), (.int (2 : Int32)), (.long y1)] 10)) t := fun t k => castTop (efa_jdk_65_method_56_code_vvvv m o0 (2 : Int32) (2 : Int32) y1) k
  obtain ⟨lfs, lhr, lhrun, lhended, lhW, lhsame⟩ := X0.leave (v := some (.int (-3 : Int32))) (fun h => by rw [Bd.returns] at h; cases h)
  refine ⟨_, _, pre0 _ ?_, lhrun, lhended, _, _, rfl, ?_, ⟨_, rfl⟩, lhW, lhsame.mono (by decide) (by decide)⟩
  · skip
    show Steps p.tables e below (s₁.setTop (mkF m 0 #[.val (.ref o0), .val (.int (2 : Int32)), .val (.int (2 : Int32)), .val (.long y1), .second, .unset, .unset, .unset, .unset, .unset] [])) _
    refine XS.iloadN X0.here hx rfl (hb hby dd_jdk_65_method_56_code_0) rfl ?_
    refine XS.istore X0.here hx rfl (hb hby dd_jdk_65_method_56_code_1) rfl (l' := #[.val (.ref o0), .val (.int (2 : Int32)), .val (.int (2 : Int32)), .val (.long y1), .second, .val (.int (2 : Int32)), .unset, .unset, .unset, .unset]) rfl ?_
    show Steps p.tables e below (s₁.setTop (mkF m 3 #[.val (.ref o0), .val (.int (2 : Int32)), .val (.int (2 : Int32)), .val (.long y1), .second, .val (.int (2 : Int32)), .unset, .unset, .unset, .unset] [])) _
    refine XS.iloadN X0.here hx rfl (hb hby dd_jdk_65_method_56_code_3) rfl ?_
    refine XS.iconst X0.here hx rfl (hb hby dd_jdk_65_method_56_code_4) ?_
    refine XS.isub X0.here hx rfl (hb hby dd_jdk_65_method_56_code_5) rfl ?_
    show Steps p.tables e below (s₁.setTop (mkF m 6 #[.val (.ref o0), .val (.int (2 : Int32)), .val (.int (2 : Int32)), .val (.long y1), .second, .val (.int (2 : Int32)), .unset, .unset, .unset, .unset] [(.int (1 : Int32))])) _
    refine XS.istore X0.here hx rfl (hb hby dd_jdk_65_method_56_code_6) rfl (l' := #[.val (.ref o0), .val (.int (2 : Int32)), .val (.int (2 : Int32)), .val (.long y1), .second, .val (.int (2 : Int32)), .val (.int (1 : Int32)), .unset, .unset, .unset]) rfl ?_
    refine XS.iload X0.here hx rfl (hb hby dd_jdk_65_method_56_code_8) rfl ?_
    refine XS.iload X0.here hx rfl (hb hby dd_jdk_65_method_56_code_10) rfl ?_
    show Steps p.tables e below (s₁.setTop (mkF m 12 #[.val (.ref o0), .val (.int (2 : Int32)), .val (.int (2 : Int32)), .val (.long y1), .second, .val (.int (2 : Int32)), .val (.int (1 : Int32)), .unset, .unset, .unset] [(.int (1 : Int32)), (.int (2 : Int32))])) _
    refine XS.icmpYes X0.here hx rfl (pc0 := 12) (pc' := 68) rfl (hb hby dd_jdk_65_method_56_code_12) rfl (tlt (by decide : (1 : Int32) < (2 : Int32))).2.2.1 (by decide) (by decide) ?_
    refine XS.iload X0.here hx rfl (hb hby dd_jdk_65_method_56_code_68) rfl ?_
    refine XS.iconst X0.here hx rfl (hb hby dd_jdk_65_method_56_code_70) ?_
    show Steps p.tables e below (s₁.setTop (mkF m 71 #[.val (.ref o0), .val (.int (2 : Int32)), .val (.int (2 : Int32)), .val (.long y1), .second, .val (.int (2 : Int32)), .val (.int (1 : Int32)), .unset, .unset, .unset] [(.int (1 : Int32)), (.int (2 : Int32))])) _
    refine XS.iadd X0.here hx rfl (hb hby dd_jdk_65_method_56_code_71) rfl ?_
    refine XS.ineg X0.here hx rfl (hb hby dd_jdk_65_method_56_code_72) rfl ?_
    show Steps p.tables e below (s₁.setTop (mkF m 73 #[.val (.ref o0), .val (.int (2 : Int32)), .val (.int (2 : Int32)), .val (.long y1), .second, .val (.int (2 : Int32)), .val (.int (1 : Int32)), .unset, .unset, .unset] [(.int (-3 : Int32))])) _
    exact retI X0 hx Bd.returns (hb hby dd_jdk_65_method_56_code_73) lhr
  · skip
    show QA71 Z o0 y1 h0 n0 _ s₁.heap _
    rw [e0]
    exact ⟨rfl, N0, rfl⟩
def QA69 (Z : State) (o0 : Addr) (y1 : Int64) (y2 : Int64) (kk_o0 : ClassId) (h0 : Heap) (n0 : Nat) (v : Option Value) (h : Heap) (L : List Loc) : Prop := v = some (.int (-3 : Int32)) ∧ Fr n0 L ∧ h = h0
set_option maxRecDepth 65536 in
set_option maxHeartbeats 40000000 in
theorem rmA69 (l : Launch) (Z : State) (a0 : Array Value) (hw : ∀ d ∈ tables_1, d.before a0 Z = true) (ws : List Jvm.Cond) (o0 : Addr) (y1 : Int64) (y2 : Int64) (kk_o0 : ClassId) (h0 : Heap) (n0 : Nat) (Z0 : n0 ≤ h0.size) (V_o0 : Arv Z h0 o0 kk_o0 .long (2 : Int32) [(.long y1), (.long y2)] (.long (0 : Int64))) :
    MetFree l mn9 (head1 (Jvm.Cond.code mn9 jdk_65_method_55_code 5 (some .int) :: ws) ({ frames := 1, cells := 0, slots := 0, locals := 21 } : Room)) (fun a U => a = #[(.ref o0), (.int (2 : Int32)), (.int (2 : Int32)), (.long y1)] ∧ Z.Warmed39 U.vm ∧ U.heap = h0) (fun _ _ _ _ _ => True) (fun _ U oc_ U' => ∃ v L, oc_ = .returned v ∧ QA69 Z o0 y1 y2 kk_o0 h0 n0 v U'.heap L ∧ FrameEnd U oc_ U' L ({ frames := 1, cells := 0, slots := 0, locals := 21 } : Room).cells ({ frames := 1, cells := 0, slots := 0, locals := 21 } : Room).slots) := by
  refine MetFree.of_bodySF (plainFor_of_name pn_java_util_Arrays) hisR ?_
  intro p e s m args below meth c s₁ Bd hml0 hP hK
  obtain ⟨rfl, hZ, hh⟩ := hP
  have hx := Bd.exec
  have hby := Bd.bytes
  have hml : c.maxLocals = 5 := hml0
  have hown : s.vm.findClass "java/util/Arrays" = some m.cls := findClass_of_methodNamed Bd.named
  have hnm := (name_of_methodNamed Bd.named Bd.method).1
  have X0 : Stand p l e ({ frames := 1, cells := 0, slots := 0, locals := 21 } : Room) s m #[(.ref o0), (.int (2 : Int32)), (.int (2 : Int32)), (.long y1)] below meth c s₁ [] 0 0 := Stand.of_body Bd
  have e0 : s₁.heap = h0 := by rw [← hh, Bd.state]; rfl
  have N0 := Fr.nil n0
  have pre0 : ∀ t, Steps p.tables e below (s₁.setTop (mkF m 0 #[.val (.ref o0), .val (.int (2 : Int32)), .val (.int (2 : Int32)), .val (.long y1), .second] [])) t → Steps p.tables e below (s₁.setTop (entryFrame m #[(.ref o0), (.int (2 : Int32)), (.int (2 : Int32)), (.long y1)] 5)) t := fun t k => castTop (efa_jdk_65_method_55_code_vvvv m o0 (2 : Int32) (2 : Int32) y1) k
  obtain ⟨cl1, Ar1, -, S1, M1, -, -⟩ := id V_o0
  obtain ⟨_, _, ⟨T2, L2, kc2, ks2⟩, -, X2, ⟨Lc2, hQ2, l2, y2, z2⟩, st2⟩ := Jvm.LawKit.callS X0 hx (y := mn12) hown (mvT hZ (wd33 hw)) (mvT hZ (wd34 hw)) (mvT hZ (wd31 hw)) (mvT hZ (wd35 hw)) (by decide) (backOf (W := 0) (rmA70 l Z a0 hw []  h0 n0 Z0 ) hZ (wd35 hw) (wd31 hw) (by decide) (by decide)) (g := (mkF m 4 #[.val (.ref o0), .val (.int (2 : Int32)), .val (.int (2 : Int32)), .val (.long y1), .second] [(.int (2 : Int32)), (.int (2 : Int32)), (.int (2 : Int32))])) rfl (by rw [hml]; rfl) (argsL := [(.int (2 : Int32)), (.int (2 : Int32)), (.int (2 : Int32))]) (rest := []) (lenOf pd__III_V rfl) rfl (by show 2 * 0 + _ ≤ _; exact Nat.le_of_eq rfl) (hb hby dd_jdk_65_method_55_code_4) (fun _ _ => ⟨rfl, e0, (by decide : 0 + 0 ≤ _), (by decide : 0 + 0 ≤ _)⟩)
  dsimp only [Pt.U, Pt.locs, Pt.cells, Pt.slots] at X2 l2 y2 z2 st2 hQ2
  subst l2 y2 z2
  obtain ⟨rfl, Nq2, eq2⟩ := hQ2
  have N2 := Fr.app N0 Nq2
  obtain ⟨_, _, ⟨T3, L3, kc3, ks3⟩, -, X3, ⟨Lc3, hQ3, l3, y3, z3⟩, st3⟩ := Jvm.LawKit.callS X2 hx (y := mn10) hown (mvT hZ (wd36 hw)) (mvT hZ (wd37 hw)) (mvT hZ (wd31 hw)) (mvT hZ (wd38 hw)) (by decide) (backOf (W := 0) (rmA71 l Z a0 hw [] o0 y1 h0 n0 Z0 ) hZ (wd38 hw) (wd31 hw) (by decide) (by decide)) (g := (mkF m 11 #[.val (.ref o0), .val (.int (2 : Int32)), .val (.int (2 : Int32)), .val (.long y1), .second] [(.long y1), (.int (2 : Int32)), (.int (2 : Int32)), (.ref o0)])) rfl (by rw [hml]; rfl) (argsL := [(.ref o0), (.int (2 : Int32)), (.int (2 : Int32)), (.long y1)]) (rest := []) (lenOf pd___JIIJ_I rfl) rfl (by show 2 * 0 + _ ≤ _; exact Nat.le_of_eq rfl) (hb hby dd_jdk_65_method_55_code_11) (fun _ _ => ⟨rfl, eq2, (by decide : 0 + 0 ≤ _), (by decide : 0 + 0 ≤ _)⟩)
  dsimp only [Pt.U, Pt.locs, Pt.cells, Pt.slots] at X3 l3 y3 z3 st3 hQ3
  subst l3 y3 z3
  obtain ⟨rfl, Nq3, eq3⟩ := hQ3
  have N3 := Fr.app N2 Nq3
  obtain ⟨lfs, lhr, lhrun, lhended, lhW, lhsame⟩ := X3.leave (v := some (.int (-3 : Int32))) (fun h => by rw [Bd.returns] at h; cases h)
  refine ⟨_, _, pre0 _ ?_, lhrun, lhended, _, _, rfl, ?_, ⟨_, rfl⟩, lhW, lhsame.mono (by decide) (by decide)⟩
  · skip
    show Steps p.tables e below (s₁.setTop (mkF m 0 #[.val (.ref o0), .val (.int (2 : Int32)), .val (.int (2 : Int32)), .val (.long y1), .second] [])) _
    refine XS.aloadN X0.here hx rfl (hb hby dd_jdk_65_method_55_code_0) rfl rfl ?_
    refine X0.arraylength hx (by (try rw [e0]); exact Ar1.1) (State.isArrayOf_alike hZ.alike Ar1.2.1) (g := (mkF m 1 #[.val (.ref o0), .val (.int (2 : Int32)), .val (.int (2 : Int32)), .val (.long y1), .second] [(.ref o0)])) rfl rfl (hb hby dd_jdk_65_method_55_code_1) _ ?_
    rw [len_of S1 M1]
    show Steps p.tables e below (s₁.setTop (mkF m 2 #[.val (.ref o0), .val (.int (2 : Int32)), .val (.int (2 : Int32)), .val (.long y1), .second] [(.int (2 : Int32))])) _
    refine XS.iloadN X0.here hx rfl (hb hby dd_jdk_65_method_55_code_2) rfl ?_
    refine XS.iloadN X0.here hx rfl (hb hby dd_jdk_65_method_55_code_3) rfl ?_
    show Steps p.tables e below (s₁.setTop (mkF m 4 #[.val (.ref o0), .val (.int (2 : Int32)), .val (.int (2 : Int32)), .val (.long y1), .second] [(.int (2 : Int32)), (.int (2 : Int32)), (.int (2 : Int32))])) _
    refine st2 _ ?_
    show Steps p.tables e below (T2.setTop (mkF m 7 #[.val (.ref o0), .val (.int (2 : Int32)), .val (.int (2 : Int32)), .val (.long y1), .second] [])) _
    refine XS.aloadN X2.here hx rfl (hb hby dd_jdk_65_method_55_code_7) rfl rfl ?_
    refine XS.iloadN X2.here hx rfl (hb hby dd_jdk_65_method_55_code_8) rfl ?_
    refine XS.iloadN X2.here hx rfl (hb hby dd_jdk_65_method_55_code_9) rfl ?_
    show Steps p.tables e below (T2.setTop (mkF m 10 #[.val (.ref o0), .val (.int (2 : Int32)), .val (.int (2 : Int32)), .val (.long y1), .second] [(.int (2 : Int32)), (.int (2 : Int32)), (.ref o0)])) _
    refine XS.lloadN X2.here hx rfl (hb hby dd_jdk_65_method_55_code_10) rfl ?_
    show Steps p.tables e below (T2.setTop (mkF m 11 #[.val (.ref o0), .val (.int (2 : Int32)), .val (.int (2 : Int32)), .val (.long y1), .second] [(.long y1), (.int (2 : Int32)), (.int (2 : Int32)), (.ref o0)])) _
    refine st3 _ ?_
    show Steps p.tables e below (T3.setTop (mkF m 14 #[.val (.ref o0), .val (.int (2 : Int32)), .val (.int (2 : Int32)), .val (.long y1), .second] [(.int (-3 : Int32))])) _
    exact retI X3 hx Bd.returns (hb hby dd_jdk_65_method_55_code_14) lhr
  · skip
    show QA69 Z o0 y1 y2 kk_o0 h0 n0 _ T3.heap _
    rw [eq3]
    exact ⟨rfl, N3, rfl⟩
def QA68 (Z : State) (o0 : Addr) (y1 : Int64) (o2 : Addr) (y3 : Int64) (kk_o2 : ClassId) (h0 : Heap) (n0 : Nat) (v : Option Value) (h : Heap) (L : List Loc) : Prop := v = some (.long (0 : Int64)) ∧ Fr n0 L ∧ h = h0
set_option maxRecDepth 65536 in
set_option maxHeartbeats 40000000 in
theorem rmA68 (l : Launch) (Z : State) (a0 : Array Value) (hw : ∀ d ∈ tables_1, d.before a0 Z = true) (ws : List Jvm.Cond) (o0 : Addr) (y1 : Int64) (o2 : Addr) (y3 : Int64) (kk_o2 : ClassId) (h0 : Heap) (n0 : Nat) (Z0 : n0 ≤ h0.size) (F_o0_starts : Fld Z h0 o0 cn2 "starts" "[J" (.ref o2)) (F_o0_first : Fld Z h0 o0 cn2 "first" "I" (.int (2 : Int32))) (F_o0_end : Fld Z h0 o0 cn2 "end" "I" (.int (2 : Int32))) (V_o2 : Arv Z h0 o2 kk_o2 .long (2 : Int32) [(.long y1), (.long y3)] (.long (0 : Int64))) :
    MetFree l mn2 (head1 (Jvm.Cond.code mn2 prog_23_method_4_code 5 (some .long) :: ws) ({ frames := 2, cells := 0, slots := 0, locals := 37 } : Room)) (fun a U => a = #[(.ref o0), (.long y1), (.int (0 : Int32))] ∧ Z.Warmed39 U.vm ∧ U.heap = h0) (fun _ _ _ _ _ => True) (fun _ U oc_ U' => ∃ v L, oc_ = .returned v ∧ QA68 Z o0 y1 o2 y3 kk_o2 h0 n0 v U'.heap L ∧ FrameEnd U oc_ U' L ({ frames := 2, cells := 0, slots := 0, locals := 37 } : Room).cells ({ frames := 2, cells := 0, slots := 0, locals := 37 } : Room).slots) := by
  refine MetFree.of_bodySF (plainFor_of_name pn_com_example_strict_limiter_strictlimiter_KeptWindows) hisR ?_
  intro p e s m args below meth c s₁ Bd hml0 hP hK
  obtain ⟨rfl, hZ, hh⟩ := hP
  have hx := Bd.exec
  have hby := Bd.bytes
  have hml : c.maxLocals = 5 := hml0
  have hown : s.vm.findClass cn2 = some m.cls := findClass_of_methodNamed Bd.named
  have hnm := (name_of_methodNamed Bd.named Bd.method).1
  have X0 : Stand p l e ({ frames := 2, cells := 0, slots := 0, locals := 37 } : Room) s m #[(.ref o0), (.long y1), (.int (0 : Int32))] below meth c s₁ [] 0 0 := Stand.of_body Bd
  have e0 : s₁.heap = h0 := by rw [← hh, Bd.state]; rfl
  have N0 := Fr.nil n0
  have pre0 : ∀ t, Steps p.tables e below (s₁.setTop (mkF m 0 #[.val (.ref o0), .val (.long y1), .second, .val (.int (0 : Int32)), .unset] [])) t → Steps p.tables e below (s₁.setTop (entryFrame m #[(.ref o0), (.long y1), (.int (0 : Int32))] 5)) t := fun t k => castTop (efa_prog_23_method_4_code_vvv m o0 y1 (0 : Int32)) k
  obtain ⟨T1, X1, e1, st1⟩ := getF X0 hx hZ hown (host := "") (Or.inl (wd12 hw)) Via.refl e0 F_o0_starts (g := (mkF m 1 #[.val (.ref o0), .val (.long y1), .second, .val (.int (0 : Int32)), .unset] [(.ref o0)])) rfl rfl (hb hby dd_prog_23_method_4_code_1)
  obtain ⟨T2, X2, e2, st2⟩ := getF X1 hx hZ hown (host := "") (Or.inl (wd25 hw)) Via.refl e1 F_o0_first (g := (mkF m 5 #[.val (.ref o0), .val (.long y1), .second, .val (.int (0 : Int32)), .unset] [(.ref o0), (.ref o2)])) rfl rfl (hb hby dd_prog_23_method_4_code_5)
  obtain ⟨T3, X3, e3, st3⟩ := getF X2 hx hZ hown (host := "") (Or.inl (wd27 hw)) Via.refl e2 F_o0_end (g := (mkF m 9 #[.val (.ref o0), .val (.long y1), .second, .val (.int (0 : Int32)), .unset] [(.ref o0), (.int (2 : Int32)), (.ref o2)])) rfl rfl (hb hby dd_prog_23_method_4_code_9)
  obtain ⟨_, _, ⟨T4, L4, kc4, ks4⟩, -, X4, ⟨Lc4, hQ4, l4, y4, z4⟩, st4⟩ := Jvm.LawKit.callS X3 hx (y := mn9) hown (mvT hZ (wd29 hw)) (mvT hZ (wd30 hw)) (mvT hZ (wd31 hw)) (mvT hZ (wd32 hw)) (by decide) (backOf (W := 0) (rmA69 l Z a0 hw [] o2 y1 y3 _ h0 n0 Z0 V_o2) hZ (wd32 hw) (wd31 hw) (by decide) (by decide)) (g := (mkF m 13 #[.val (.ref o0), .val (.long y1), .second, .val (.int (0 : Int32)), .unset] [(.long y1), (.int (2 : Int32)), (.int (2 : Int32)), (.ref o2)])) rfl (by rw [hml]; rfl) (argsL := [(.ref o2), (.int (2 : Int32)), (.int (2 : Int32)), (.long y1)]) (rest := []) (lenOf pd___JIIJ_I rfl) rfl (by show 2 * 0 + _ ≤ _; exact Nat.le_of_eq rfl) (hb hby dd_prog_23_method_4_code_13) (fun _ _ => ⟨rfl, e3, (by decide : 0 + 0 ≤ _), (by decide : 0 + 0 ≤ _)⟩)
  dsimp only [Pt.U, Pt.locs, Pt.cells, Pt.slots] at X4 l4 y4 z4 st4 hQ4
  subst l4 y4 z4
  obtain ⟨rfl, Nq4, eq4⟩ := hQ4
  have N4 := Fr.app N0 Nq4
  obtain ⟨lfs, lhr, lhrun, lhended, lhW, lhsame⟩ := X4.leave (v := some (.long (0 : Int64))) (fun h => by rw [Bd.returns] at h; cases h)
  refine ⟨_, _, pre0 _ ?_, lhrun, lhended, _, _, rfl, ?_, ⟨_, rfl⟩, lhW, lhsame.mono (by decide) (by decide)⟩
  · skip
    show Steps p.tables e below (s₁.setTop (mkF m 0 #[.val (.ref o0), .val (.long y1), .second, .val (.int (0 : Int32)), .unset] [])) _
    refine XS.aloadN X0.here hx rfl (hb hby dd_prog_23_method_4_code_0) rfl rfl ?_
    show Steps p.tables e below (s₁.setTop (mkF m 1 #[.val (.ref o0), .val (.long y1), .second, .val (.int (0 : Int32)), .unset] [(.ref o0)])) _
    refine st1 _ ?_
    show Steps p.tables e below (T1.setTop (mkF m 4 #[.val (.ref o0), .val (.long y1), .second, .val (.int (0 : Int32)), .unset] [(.ref o2)])) _
    refine XS.aloadN X1.here hx rfl (hb hby dd_prog_23_method_4_code_4) rfl rfl ?_
    show Steps p.tables e below (T1.setTop (mkF m 5 #[.val (.ref o0), .val (.long y1), .second, .val (.int (0 : Int32)), .unset] [(.ref o0), (.ref o2)])) _
    refine st2 _ ?_
    show Steps p.tables e below (T2.setTop (mkF m 8 #[.val (.ref o0), .val (.long y1), .second, .val (.int (0 : Int32)), .unset] [(.int (2 : Int32)), (.ref o2)])) _
    refine XS.aloadN X2.here hx rfl (hb hby dd_prog_23_method_4_code_8) rfl rfl ?_
    show Steps p.tables e below (T2.setTop (mkF m 9 #[.val (.ref o0), .val (.long y1), .second, .val (.int (0 : Int32)), .unset] [(.ref o0), (.int (2 : Int32)), (.ref o2)])) _
    refine st3 _ ?_
    show Steps p.tables e below (T3.setTop (mkF m 12 #[.val (.ref o0), .val (.long y1), .second, .val (.int (0 : Int32)), .unset] [(.int (2 : Int32)), (.int (2 : Int32)), (.ref o2)])) _
    refine XS.lloadN X3.here hx rfl (hb hby dd_prog_23_method_4_code_12) rfl ?_
    show Steps p.tables e below (T3.setTop (mkF m 13 #[.val (.ref o0), .val (.long y1), .second, .val (.int (0 : Int32)), .unset] [(.long y1), (.int (2 : Int32)), (.int (2 : Int32)), (.ref o2)])) _
    refine st4 _ ?_
    show Steps p.tables e below (T4.setTop (mkF m 16 #[.val (.ref o0), .val (.long y1), .second, .val (.int (0 : Int32)), .unset] [(.int (-3 : Int32))])) _
    refine XS.istore X4.here hx rfl (hb hby dd_prog_23_method_4_code_16) rfl (l' := #[.val (.ref o0), .val (.long y1), .second, .val (.int (0 : Int32)), .val (.int (-3 : Int32))]) rfl ?_
    refine XS.iload X4.here hx rfl (hb hby dd_prog_23_method_4_code_18) rfl ?_
    refine XS.ifYes X4.here hx rfl (pc0 := 20) (pc' := 40) rfl (hb hby dd_prog_23_method_4_code_20) rfl ((if0 _ _).trans (tlt (by decide : (-3 : Int32) < (0 : Int32))).1) (by decide) (by decide) ?_
    show Steps p.tables e below (T4.setTop (mkF m 40 #[.val (.ref o0), .val (.long y1), .second, .val (.int (0 : Int32)), .val (.int (-3 : Int32))] [])) _
    refine XS.lconst X4.here hx rfl (hb hby dd_prog_23_method_4_code_40) ?_
    show Steps p.tables e below (T4.setTop (mkF m 41 #[.val (.ref o0), .val (.long y1), .second, .val (.int (0 : Int32)), .val (.int (-3 : Int32))] [(.long (0 : Int64))])) _
    exact retOut X4 hx Bd.returns rfl (Or.inr (Or.inl ⟨rfl, rfl, _, rfl⟩)) (hb hby dd_prog_23_method_4_code_41) lhr
  · skip
    show QA68 Z o0 y1 o2 y3 kk_o2 h0 n0 _ T4.heap _
    rw [eq4]
    exact ⟨rfl, N4, rfl⟩
def QA73 (Z : State) (o0 : Addr) (y1 : Int64) (y2 : Int64) (kk_o0 : ClassId) (h0 : Heap) (n0 : Nat) (v : Option Value) (h : Heap) (L : List Loc) : Prop := v = some (.int (-3 : Int32)) ∧ Fr n0 L ∧ h = h0
set_option maxRecDepth 65536 in
set_option maxHeartbeats 40000000 in
theorem rmA73 (l : Launch) (Z : State) (a0 : Array Value) (hw : ∀ d ∈ tables_1, d.before a0 Z = true) (ws : List Jvm.Cond) (o0 : Addr) (y1 : Int64) (y2 : Int64) (kk_o0 : ClassId) (h0 : Heap) (n0 : Nat) (Z0 : n0 ≤ h0.size) (V_o0 : Arv Z h0 o0 kk_o0 .long (2 : Int32) [(.long y2), (.long y1)] (.long (0 : Int64))) :
    MetFree l mn9 (head1 (Jvm.Cond.code mn9 jdk_65_method_55_code 5 (some .int) :: ws) ({ frames := 1, cells := 0, slots := 0, locals := 21 } : Room)) (fun a U => a = #[(.ref o0), (.int (2 : Int32)), (.int (2 : Int32)), (.long y1)] ∧ Z.Warmed39 U.vm ∧ U.heap = h0) (fun _ _ _ _ _ => True) (fun _ U oc_ U' => ∃ v L, oc_ = .returned v ∧ QA73 Z o0 y1 y2 kk_o0 h0 n0 v U'.heap L ∧ FrameEnd U oc_ U' L ({ frames := 1, cells := 0, slots := 0, locals := 21 } : Room).cells ({ frames := 1, cells := 0, slots := 0, locals := 21 } : Room).slots) := by
  refine MetFree.of_bodySF (plainFor_of_name pn_java_util_Arrays) hisR ?_
  intro p e s m args below meth c s₁ Bd hml0 hP hK
  obtain ⟨rfl, hZ, hh⟩ := hP
  have hx := Bd.exec
  have hby := Bd.bytes
  have hml : c.maxLocals = 5 := hml0
  have hown : s.vm.findClass "java/util/Arrays" = some m.cls := findClass_of_methodNamed Bd.named
  have hnm := (name_of_methodNamed Bd.named Bd.method).1
  have X0 : Stand p l e ({ frames := 1, cells := 0, slots := 0, locals := 21 } : Room) s m #[(.ref o0), (.int (2 : Int32)), (.int (2 : Int32)), (.long y1)] below meth c s₁ [] 0 0 := Stand.of_body Bd
  have e0 : s₁.heap = h0 := by rw [← hh, Bd.state]; rfl
  have N0 := Fr.nil n0
  have pre0 : ∀ t, Steps p.tables e below (s₁.setTop (mkF m 0 #[.val (.ref o0), .val (.int (2 : Int32)), .val (.int (2 : Int32)), .val (.long y1), .second] [])) t → Steps p.tables e below (s₁.setTop (entryFrame m #[(.ref o0), (.int (2 : Int32)), (.int (2 : Int32)), (.long y1)] 5)) t := fun t k => castTop (efa_jdk_65_method_55_code_vvvv m o0 (2 : Int32) (2 : Int32) y1) k
  obtain ⟨cl1, Ar1, -, S1, M1, -, -⟩ := id V_o0
  obtain ⟨_, _, ⟨T2, L2, kc2, ks2⟩, -, X2, ⟨Lc2, hQ2, l2, y2, z2⟩, st2⟩ := Jvm.LawKit.callS X0 hx (y := mn12) hown (mvT hZ (wd33 hw)) (mvT hZ (wd34 hw)) (mvT hZ (wd31 hw)) (mvT hZ (wd35 hw)) (by decide) (backOf (W := 0) (rmA70 l Z a0 hw []  h0 n0 Z0 ) hZ (wd35 hw) (wd31 hw) (by decide) (by decide)) (g := (mkF m 4 #[.val (.ref o0), .val (.int (2 : Int32)), .val (.int (2 : Int32)), .val (.long y1), .second] [(.int (2 : Int32)), (.int (2 : Int32)), (.int (2 : Int32))])) rfl (by rw [hml]; rfl) (argsL := [(.int (2 : Int32)), (.int (2 : Int32)), (.int (2 : Int32))]) (rest := []) (lenOf pd__III_V rfl) rfl (by show 2 * 0 + _ ≤ _; exact Nat.le_of_eq rfl) (hb hby dd_jdk_65_method_55_code_4) (fun _ _ => ⟨rfl, e0, (by decide : 0 + 0 ≤ _), (by decide : 0 + 0 ≤ _)⟩)
  dsimp only [Pt.U, Pt.locs, Pt.cells, Pt.slots] at X2 l2 y2 z2 st2 hQ2
  subst l2 y2 z2
  obtain ⟨rfl, Nq2, eq2⟩ := hQ2
  have N2 := Fr.app N0 Nq2
  obtain ⟨_, _, ⟨T3, L3, kc3, ks3⟩, -, X3, ⟨Lc3, hQ3, l3, y3, z3⟩, st3⟩ := Jvm.LawKit.callS X2 hx (y := mn10) hown (mvT hZ (wd36 hw)) (mvT hZ (wd37 hw)) (mvT hZ (wd31 hw)) (mvT hZ (wd38 hw)) (by decide) (backOf (W := 0) (rmA71 l Z a0 hw [] o0 y1 h0 n0 Z0 ) hZ (wd38 hw) (wd31 hw) (by decide) (by decide)) (g := (mkF m 11 #[.val (.ref o0), .val (.int (2 : Int32)), .val (.int (2 : Int32)), .val (.long y1), .second] [(.long y1), (.int (2 : Int32)), (.int (2 : Int32)), (.ref o0)])) rfl (by rw [hml]; rfl) (argsL := [(.ref o0), (.int (2 : Int32)), (.int (2 : Int32)), (.long y1)]) (rest := []) (lenOf pd___JIIJ_I rfl) rfl (by show 2 * 0 + _ ≤ _; exact Nat.le_of_eq rfl) (hb hby dd_jdk_65_method_55_code_11) (fun _ _ => ⟨rfl, eq2, (by decide : 0 + 0 ≤ _), (by decide : 0 + 0 ≤ _)⟩)
  dsimp only [Pt.U, Pt.locs, Pt.cells, Pt.slots] at X3 l3 y3 z3 st3 hQ3
  subst l3 y3 z3
  obtain ⟨rfl, Nq3, eq3⟩ := hQ3
  have N3 := Fr.app N2 Nq3
  obtain ⟨lfs, lhr, lhrun, lhended, lhW, lhsame⟩ := X3.leave (v := some (.int (-3 : Int32))) (fun h => by rw [Bd.returns] at h; cases h)
  refine ⟨_, _, pre0 _ ?_, lhrun, lhended, _, _, rfl, ?_, ⟨_, rfl⟩, lhW, lhsame.mono (by decide) (by decide)⟩
  · skip
    show Steps p.tables e below (s₁.setTop (mkF m 0 #[.val (.ref o0), .val (.int (2 : Int32)), .val (.int (2 : Int32)), .val (.long y1), .second] [])) _
    refine XS.aloadN X0.here hx rfl (hb hby dd_jdk_65_method_55_code_0) rfl rfl ?_
    refine X0.arraylength hx (by (try rw [e0]); exact Ar1.1) (State.isArrayOf_alike hZ.alike Ar1.2.1) (g := (mkF m 1 #[.val (.ref o0), .val (.int (2 : Int32)), .val (.int (2 : Int32)), .val (.long y1), .second] [(.ref o0)])) rfl rfl (hb hby dd_jdk_65_method_55_code_1) _ ?_
    rw [len_of S1 M1]
    show Steps p.tables e below (s₁.setTop (mkF m 2 #[.val (.ref o0), .val (.int (2 : Int32)), .val (.int (2 : Int32)), .val (.long y1), .second] [(.int (2 : Int32))])) _
    refine XS.iloadN X0.here hx rfl (hb hby dd_jdk_65_method_55_code_2) rfl ?_
    refine XS.iloadN X0.here hx rfl (hb hby dd_jdk_65_method_55_code_3) rfl ?_
    show Steps p.tables e below (s₁.setTop (mkF m 4 #[.val (.ref o0), .val (.int (2 : Int32)), .val (.int (2 : Int32)), .val (.long y1), .second] [(.int (2 : Int32)), (.int (2 : Int32)), (.int (2 : Int32))])) _
    refine st2 _ ?_
    show Steps p.tables e below (T2.setTop (mkF m 7 #[.val (.ref o0), .val (.int (2 : Int32)), .val (.int (2 : Int32)), .val (.long y1), .second] [])) _
    refine XS.aloadN X2.here hx rfl (hb hby dd_jdk_65_method_55_code_7) rfl rfl ?_
    refine XS.iloadN X2.here hx rfl (hb hby dd_jdk_65_method_55_code_8) rfl ?_
    refine XS.iloadN X2.here hx rfl (hb hby dd_jdk_65_method_55_code_9) rfl ?_
    show Steps p.tables e below (T2.setTop (mkF m 10 #[.val (.ref o0), .val (.int (2 : Int32)), .val (.int (2 : Int32)), .val (.long y1), .second] [(.int (2 : Int32)), (.int (2 : Int32)), (.ref o0)])) _
    refine XS.lloadN X2.here hx rfl (hb hby dd_jdk_65_method_55_code_10) rfl ?_
    show Steps p.tables e below (T2.setTop (mkF m 11 #[.val (.ref o0), .val (.int (2 : Int32)), .val (.int (2 : Int32)), .val (.long y1), .second] [(.long y1), (.int (2 : Int32)), (.int (2 : Int32)), (.ref o0)])) _
    refine st3 _ ?_
    show Steps p.tables e below (T3.setTop (mkF m 14 #[.val (.ref o0), .val (.int (2 : Int32)), .val (.int (2 : Int32)), .val (.long y1), .second] [(.int (-3 : Int32))])) _
    exact retI X3 hx Bd.returns (hb hby dd_jdk_65_method_55_code_14) lhr
  · skip
    show QA73 Z o0 y1 y2 kk_o0 h0 n0 _ T3.heap _
    rw [eq3]
    exact ⟨rfl, N3, rfl⟩
def QA72 (Z : State) (o0 : Addr) (y1 : Int64) (o2 : Addr) (y3 : Int64) (kk_o2 : ClassId) (h0 : Heap) (n0 : Nat) (v : Option Value) (h : Heap) (L : List Loc) : Prop := v = some (.long (0 : Int64)) ∧ Fr n0 L ∧ h = h0
set_option maxRecDepth 65536 in
set_option maxHeartbeats 40000000 in
theorem rmA72 (l : Launch) (Z : State) (a0 : Array Value) (hw : ∀ d ∈ tables_1, d.before a0 Z = true) (ws : List Jvm.Cond) (o0 : Addr) (y1 : Int64) (o2 : Addr) (y3 : Int64) (kk_o2 : ClassId) (h0 : Heap) (n0 : Nat) (Z0 : n0 ≤ h0.size) (F_o0_starts : Fld Z h0 o0 cn2 "starts" "[J" (.ref o2)) (F_o0_first : Fld Z h0 o0 cn2 "first" "I" (.int (2 : Int32))) (F_o0_end : Fld Z h0 o0 cn2 "end" "I" (.int (2 : Int32))) (V_o2 : Arv Z h0 o2 kk_o2 .long (2 : Int32) [(.long y3), (.long y1)] (.long (0 : Int64))) :
    MetFree l mn2 (head1 (Jvm.Cond.code mn2 prog_23_method_4_code 5 (some .long) :: ws) ({ frames := 2, cells := 0, slots := 0, locals := 37 } : Room)) (fun a U => a = #[(.ref o0), (.long y1), (.int (0 : Int32))] ∧ Z.Warmed39 U.vm ∧ U.heap = h0) (fun _ _ _ _ _ => True) (fun _ U oc_ U' => ∃ v L, oc_ = .returned v ∧ QA72 Z o0 y1 o2 y3 kk_o2 h0 n0 v U'.heap L ∧ FrameEnd U oc_ U' L ({ frames := 2, cells := 0, slots := 0, locals := 37 } : Room).cells ({ frames := 2, cells := 0, slots := 0, locals := 37 } : Room).slots) := by
  refine MetFree.of_bodySF (plainFor_of_name pn_com_example_strict_limiter_strictlimiter_KeptWindows) hisR ?_
  intro p e s m args below meth c s₁ Bd hml0 hP hK
  obtain ⟨rfl, hZ, hh⟩ := hP
  have hx := Bd.exec
  have hby := Bd.bytes
  have hml : c.maxLocals = 5 := hml0
  have hown : s.vm.findClass cn2 = some m.cls := findClass_of_methodNamed Bd.named
  have hnm := (name_of_methodNamed Bd.named Bd.method).1
  have X0 : Stand p l e ({ frames := 2, cells := 0, slots := 0, locals := 37 } : Room) s m #[(.ref o0), (.long y1), (.int (0 : Int32))] below meth c s₁ [] 0 0 := Stand.of_body Bd
  have e0 : s₁.heap = h0 := by rw [← hh, Bd.state]; rfl
  have N0 := Fr.nil n0
  have pre0 : ∀ t, Steps p.tables e below (s₁.setTop (mkF m 0 #[.val (.ref o0), .val (.long y1), .second, .val (.int (0 : Int32)), .unset] [])) t → Steps p.tables e below (s₁.setTop (entryFrame m #[(.ref o0), (.long y1), (.int (0 : Int32))] 5)) t := fun t k => castTop (efa_prog_23_method_4_code_vvv m o0 y1 (0 : Int32)) k
  obtain ⟨T1, X1, e1, st1⟩ := getF X0 hx hZ hown (host := "") (Or.inl (wd12 hw)) Via.refl e0 F_o0_starts (g := (mkF m 1 #[.val (.ref o0), .val (.long y1), .second, .val (.int (0 : Int32)), .unset] [(.ref o0)])) rfl rfl (hb hby dd_prog_23_method_4_code_1)
  obtain ⟨T2, X2, e2, st2⟩ := getF X1 hx hZ hown (host := "") (Or.inl (wd25 hw)) Via.refl e1 F_o0_first (g := (mkF m 5 #[.val (.ref o0), .val (.long y1), .second, .val (.int (0 : Int32)), .unset] [(.ref o0), (.ref o2)])) rfl rfl (hb hby dd_prog_23_method_4_code_5)
  obtain ⟨T3, X3, e3, st3⟩ := getF X2 hx hZ hown (host := "") (Or.inl (wd27 hw)) Via.refl e2 F_o0_end (g := (mkF m 9 #[.val (.ref o0), .val (.long y1), .second, .val (.int (0 : Int32)), .unset] [(.ref o0), (.int (2 : Int32)), (.ref o2)])) rfl rfl (hb hby dd_prog_23_method_4_code_9)
  obtain ⟨_, _, ⟨T4, L4, kc4, ks4⟩, -, X4, ⟨Lc4, hQ4, l4, y4, z4⟩, st4⟩ := Jvm.LawKit.callS X3 hx (y := mn9) hown (mvT hZ (wd29 hw)) (mvT hZ (wd30 hw)) (mvT hZ (wd31 hw)) (mvT hZ (wd32 hw)) (by decide) (backOf (W := 0) (rmA73 l Z a0 hw [] o2 y1 y3 _ h0 n0 Z0 V_o2) hZ (wd32 hw) (wd31 hw) (by decide) (by decide)) (g := (mkF m 13 #[.val (.ref o0), .val (.long y1), .second, .val (.int (0 : Int32)), .unset] [(.long y1), (.int (2 : Int32)), (.int (2 : Int32)), (.ref o2)])) rfl (by rw [hml]; rfl) (argsL := [(.ref o2), (.int (2 : Int32)), (.int (2 : Int32)), (.long y1)]) (rest := []) (lenOf pd___JIIJ_I rfl) rfl (by show 2 * 0 + _ ≤ _; exact Nat.le_of_eq rfl) (hb hby dd_prog_23_method_4_code_13) (fun _ _ => ⟨rfl, e3, (by decide : 0 + 0 ≤ _), (by decide : 0 + 0 ≤ _)⟩)
  dsimp only [Pt.U, Pt.locs, Pt.cells, Pt.slots] at X4 l4 y4 z4 st4 hQ4
  subst l4 y4 z4
  obtain ⟨rfl, Nq4, eq4⟩ := hQ4
  have N4 := Fr.app N0 Nq4
  obtain ⟨lfs, lhr, lhrun, lhended, lhW, lhsame⟩ := X4.leave (v := some (.long (0 : Int64))) (fun h => by rw [Bd.returns] at h; cases h)
  refine ⟨_, _, pre0 _ ?_, lhrun, lhended, _, _, rfl, ?_, ⟨_, rfl⟩, lhW, lhsame.mono (by decide) (by decide)⟩
  · skip
    show Steps p.tables e below (s₁.setTop (mkF m 0 #[.val (.ref o0), .val (.long y1), .second, .val (.int (0 : Int32)), .unset] [])) _
    refine XS.aloadN X0.here hx rfl (hb hby dd_prog_23_method_4_code_0) rfl rfl ?_
    show Steps p.tables e below (s₁.setTop (mkF m 1 #[.val (.ref o0), .val (.long y1), .second, .val (.int (0 : Int32)), .unset] [(.ref o0)])) _
    refine st1 _ ?_
    show Steps p.tables e below (T1.setTop (mkF m 4 #[.val (.ref o0), .val (.long y1), .second, .val (.int (0 : Int32)), .unset] [(.ref o2)])) _
    refine XS.aloadN X1.here hx rfl (hb hby dd_prog_23_method_4_code_4) rfl rfl ?_
    show Steps p.tables e below (T1.setTop (mkF m 5 #[.val (.ref o0), .val (.long y1), .second, .val (.int (0 : Int32)), .unset] [(.ref o0), (.ref o2)])) _
    refine st2 _ ?_
    show Steps p.tables e below (T2.setTop (mkF m 8 #[.val (.ref o0), .val (.long y1), .second, .val (.int (0 : Int32)), .unset] [(.int (2 : Int32)), (.ref o2)])) _
    refine XS.aloadN X2.here hx rfl (hb hby dd_prog_23_method_4_code_8) rfl rfl ?_
    show Steps p.tables e below (T2.setTop (mkF m 9 #[.val (.ref o0), .val (.long y1), .second, .val (.int (0 : Int32)), .unset] [(.ref o0), (.int (2 : Int32)), (.ref o2)])) _
    refine st3 _ ?_
    show Steps p.tables e below (T3.setTop (mkF m 12 #[.val (.ref o0), .val (.long y1), .second, .val (.int (0 : Int32)), .unset] [(.int (2 : Int32)), (.int (2 : Int32)), (.ref o2)])) _
    refine XS.lloadN X3.here hx rfl (hb hby dd_prog_23_method_4_code_12) rfl ?_
    show Steps p.tables e below (T3.setTop (mkF m 13 #[.val (.ref o0), .val (.long y1), .second, .val (.int (0 : Int32)), .unset] [(.long y1), (.int (2 : Int32)), (.int (2 : Int32)), (.ref o2)])) _
    refine st4 _ ?_
    show Steps p.tables e below (T4.setTop (mkF m 16 #[.val (.ref o0), .val (.long y1), .second, .val (.int (0 : Int32)), .unset] [(.int (-3 : Int32))])) _
    refine XS.istore X4.here hx rfl (hb hby dd_prog_23_method_4_code_16) rfl (l' := #[.val (.ref o0), .val (.long y1), .second, .val (.int (0 : Int32)), .val (.int (-3 : Int32))]) rfl ?_
    refine XS.iload X4.here hx rfl (hb hby dd_prog_23_method_4_code_18) rfl ?_
    refine XS.ifYes X4.here hx rfl (pc0 := 20) (pc' := 40) rfl (hb hby dd_prog_23_method_4_code_20) rfl ((if0 _ _).trans (tlt (by decide : (-3 : Int32) < (0 : Int32))).1) (by decide) (by decide) ?_
    show Steps p.tables e below (T4.setTop (mkF m 40 #[.val (.ref o0), .val (.long y1), .second, .val (.int (0 : Int32)), .val (.int (-3 : Int32))] [])) _
    refine XS.lconst X4.here hx rfl (hb hby dd_prog_23_method_4_code_40) ?_
    show Steps p.tables e below (T4.setTop (mkF m 41 #[.val (.ref o0), .val (.long y1), .second, .val (.int (0 : Int32)), .val (.int (-3 : Int32))] [(.long (0 : Int64))])) _
    exact retOut X4 hx Bd.returns rfl (Or.inr (Or.inl ⟨rfl, rfl, _, rfl⟩)) (hb hby dd_prog_23_method_4_code_41) lhr
  · skip
    show QA72 Z o0 y1 o2 y3 kk_o2 h0 n0 _ T4.heap _
    rw [eq4]
    exact ⟨rfl, N4, rfl⟩
theorem ef_0 (m : MethodId) (x0 : Int64) (x1 : Int64) (x2 : Int64) (x3 : Int64) (x4 : Int64) (x5 : Int64) : entryFrame m #[(.long x0), (.long x1), (.long x2), (.long x3), (.long x4), (.long x5)] maxLocals = mkF m 0 #[.val (.long x0), .second, .val (.long x1), .second, .val (.long x2), .second, .val (.long x3), .second, .val (.long x4), .second, .val (.long x5), .second, .unset, .unset, .unset, .unset, .unset, .unset, .unset, .unset, .unset, .unset, .unset, .unset, .unset, .unset, .unset, .unset] [] := by first | (simp [entryFrame, mkF, argsToLocals, Value.category, maxLocals]; done) | rfl
theorem pn_com_example_strict_limiter_strictlimiter_KeptWindowsForgetPinLaw : plainName "com/example/strict_limiter/strictlimiter/KeptWindowsForgetPinLaw" = true := by first | (simp [plainName, overriddenIn]; done) | decide +kernel
theorem pd__I_V : parseMethodDescriptor "(I)V" = some ⟨[.int], none⟩ := by decide +kernel
theorem pd__JJJJ_V : parseMethodDescriptor "(JJJJ)V" = some ⟨[.long, .long, .long, .long], none⟩ := by decide +kernel
theorem pd__JJJ_V : parseMethodDescriptor "(JJJ)V" = some ⟨[.long, .long, .long], none⟩ := by decide +kernel
theorem pd___J : parseMethodDescriptor "()J" = some ⟨[], some .long⟩ := by decide +kernel
theorem pd__JI_J : parseMethodDescriptor "(JI)J" = some ⟨[.long, .int], some .long⟩ := by decide +kernel
def Q0 (Z : State) (ya : Int64) (yb : Int64) (yd : Int64) (yl : Int64) (ye : Int64) (yg : Int64) (wn : Addr) (kn : ClassId) (h0 : Heap) (n0 : Nat) (v : Option Value) (h : Heap) (L : List Loc) : Prop := v = some (.int 1) ∧ Fr n0 L
set_option maxRecDepth 65536 in
set_option maxHeartbeats 40000000 in
theorem rm0 (l : Launch) (Z : State) (a0 : Array Value) (hw : ∀ d ∈ tables_1, d.before a0 Z = true) (ws : List Jvm.Cond) (ya : Int64) (yb : Int64) (yd : Int64) (yl : Int64) (ye : Int64) (yg : Int64) (wn : Addr) (kn : ClassId) (h0 : Heap) (n0 : Nat) (Z0 : n0 ≤ h0.size) (X00 : Old Z n0 h0) (S_N : Sta Z Z.heap cn2 "NONE" "[J" (.ref wn)) (V_N : Arv Z Z.heap wn kn .long (0 : Int32) [] (.long (0 : Int64))) :
    MetFree l x (head1 (Jvm.Cond.code x code maxLocals ret :: ws) room_1) (fun a U => a = #[(.long ya), (.long yb), (.long yd), (.long yl), (.long ye), (.long yg)] ∧ Z.Warmed39 U.vm ∧ U.heap = h0) (fun _ _ _ _ _ => True) (fun _ U oc_ U' => ∃ v L, oc_ = .returned v ∧ Q0 Z ya yb yd yl ye yg wn kn h0 n0 v U'.heap L ∧ FrameEnd U oc_ U' L 24 128) := by
  refine MetFree.of_bodySF (plainFor_of_name pn_com_example_strict_limiter_strictlimiter_KeptWindowsForgetPinLaw) hisR ?_
  intro p e s m args below meth c s₁ Bd hml0 hP hK
  obtain ⟨rfl, hZ, hh⟩ := hP
  have hx := Bd.exec
  have hby := Bd.bytes
  have hml : c.maxLocals = 28 := hml0
  have hown : s.vm.findClass "com/example/strict_limiter/strictlimiter/KeptWindowsForgetPinLaw" = some m.cls := findClass_of_methodNamed Bd.named
  have hnm := (name_of_methodNamed Bd.named Bd.method).1
  have X0 : Stand p l e room_1 s m #[(.long ya), (.long yb), (.long yd), (.long yl), (.long ye), (.long yg)] below meth c s₁ [] 0 0 := Stand.of_body Bd
  have e0 : s₁.heap = h0 := by rw [← hh, Bd.state]; rfl
  have N0 := Fr.nil n0
  have pre0 : ∀ t, Steps p.tables e below (s₁.setTop (mkF m 0 #[.val (.long ya), .second, .val (.long yb), .second, .val (.long yd), .second, .val (.long yl), .second, .val (.long ye), .second, .val (.long yg), .second, .unset, .unset, .unset, .unset, .unset, .unset, .unset, .unset, .unset, .unset, .unset, .unset, .unset, .unset, .unset, .unset] [])) t → Steps p.tables e below (s₁.setTop (entryFrame m #[(.long ya), (.long yb), (.long yd), (.long yl), (.long ye), (.long yg)] maxLocals)) t := fun t k => castTop (ef_0 m ya yb yd yl ye yg) k
  have k1 : ∀ t, Steps p.tables e below (s₁.setTop (mkF m 19 #[.val (.long ya), .second, .val (.long yb), .second, .val (.long yd), .second, .val (.long yl), .second, .val (.long ye), .second, .val (.long yg), .second, .val (.long (ya &&& (4611686018427387903 : Int64))), .second, .val (.long (((ya &&& (4611686018427387903 : Int64)) + (1 : Int64)) + (yb &&& (4611686018427387903 : Int64)))), .second, .unset, .unset, .unset, .unset, .unset, .unset, .unset, .unset, .unset, .unset, .unset, .unset] [])) t → Steps p.tables e below (s₁.setTop (entryFrame m #[(.long ya), (.long yb), (.long yd), (.long yl), (.long ye), (.long yg)] maxLocals)) t := by
    intro t kt
    refine pre0 t ?_
    show Steps p.tables e below (s₁.setTop (mkF m 0 #[.val (.long ya), .second, .val (.long yb), .second, .val (.long yd), .second, .val (.long yl), .second, .val (.long ye), .second, .val (.long yg), .second, .unset, .unset, .unset, .unset, .unset, .unset, .unset, .unset, .unset, .unset, .unset, .unset, .unset, .unset, .unset, .unset] [])) _
    refine XS.lloadN X0.here hx rfl (hb hby at_0) rfl ?_
    refine X0.ldc2Long hx hown (mvT hZ (wd0 hw)) (g := (mkF m 1 #[.val (.long ya), .second, .val (.long yb), .second, .val (.long yd), .second, .val (.long yl), .second, .val (.long ye), .second, .val (.long yg), .second, .unset, .unset, .unset, .unset, .unset, .unset, .unset, .unset, .unset, .unset, .unset, .unset, .unset, .unset, .unset, .unset] [(.long ya)])) rfl (hb hby at_1) _ ?_
    show Steps p.tables e below (s₁.setTop (mkF m 4 #[.val (.long ya), .second, .val (.long yb), .second, .val (.long yd), .second, .val (.long yl), .second, .val (.long ye), .second, .val (.long yg), .second, .unset, .unset, .unset, .unset, .unset, .unset, .unset, .unset, .unset, .unset, .unset, .unset, .unset, .unset, .unset, .unset] [(.long (4611686018427387903 : Int64)), (.long ya)])) _
    refine XS.land X0.here hx rfl (hb hby at_4) rfl ?_
    refine XS.lstore X0.here hx rfl (hb hby at_5) rfl (l' := #[.val (.long ya), .second, .val (.long yb), .second, .val (.long yd), .second, .val (.long yl), .second, .val (.long ye), .second, .val (.long yg), .second, .val (.long (ya &&& (4611686018427387903 : Int64))), .second, .unset, .unset, .unset, .unset, .unset, .unset, .unset, .unset, .unset, .unset, .unset, .unset, .unset, .unset]) rfl ?_
    refine XS.lload X0.here hx rfl (hb hby at_7) rfl ?_
    show Steps p.tables e below (s₁.setTop (mkF m 9 #[.val (.long ya), .second, .val (.long yb), .second, .val (.long yd), .second, .val (.long yl), .second, .val (.long ye), .second, .val (.long yg), .second, .val (.long (ya &&& (4611686018427387903 : Int64))), .second, .unset, .unset, .unset, .unset, .unset, .unset, .unset, .unset, .unset, .unset, .unset, .unset, .unset, .unset] [(.long (ya &&& (4611686018427387903 : Int64)))])) _
    refine XS.lconst X0.here hx rfl (hb hby at_9) ?_
    refine XS.ladd X0.here hx rfl (hb hby at_10) rfl ?_
    refine XS.lloadN X0.here hx rfl (hb hby at_11) rfl ?_
    show Steps p.tables e below (s₁.setTop (mkF m 12 #[.val (.long ya), .second, .val (.long yb), .second, .val (.long yd), .second, .val (.long yl), .second, .val (.long ye), .second, .val (.long yg), .second, .val (.long (ya &&& (4611686018427387903 : Int64))), .second, .unset, .unset, .unset, .unset, .unset, .unset, .unset, .unset, .unset, .unset, .unset, .unset, .unset, .unset] [(.long yb), (.long ((ya &&& (4611686018427387903 : Int64)) + (1 : Int64)))])) _
    refine X0.ldc2Long hx hown (mvT hZ (wd0 hw)) (g := (mkF m 12 #[.val (.long ya), .second, .val (.long yb), .second, .val (.long yd), .second, .val (.long yl), .second, .val (.long ye), .second, .val (.long yg), .second, .val (.long (ya &&& (4611686018427387903 : Int64))), .second, .unset, .unset, .unset, .unset, .unset, .unset, .unset, .unset, .unset, .unset, .unset, .unset, .unset, .unset] [(.long yb), (.long ((ya &&& (4611686018427387903 : Int64)) + (1 : Int64)))])) rfl (hb hby at_12) _ ?_
    refine XS.land X0.here hx rfl (hb hby at_15) rfl ?_
    refine XS.ladd X0.here hx rfl (hb hby at_16) rfl ?_
    show Steps p.tables e below (s₁.setTop (mkF m 17 #[.val (.long ya), .second, .val (.long yb), .second, .val (.long yd), .second, .val (.long yl), .second, .val (.long ye), .second, .val (.long yg), .second, .val (.long (ya &&& (4611686018427387903 : Int64))), .second, .unset, .unset, .unset, .unset, .unset, .unset, .unset, .unset, .unset, .unset, .unset, .unset, .unset, .unset] [(.long (((ya &&& (4611686018427387903 : Int64)) + (1 : Int64)) + (yb &&& (4611686018427387903 : Int64))))])) _
    refine XS.lstore X0.here hx rfl (hb hby at_17) rfl (l' := #[.val (.long ya), .second, .val (.long yb), .second, .val (.long yd), .second, .val (.long yl), .second, .val (.long ye), .second, .val (.long yg), .second, .val (.long (ya &&& (4611686018427387903 : Int64))), .second, .val (.long (((ya &&& (4611686018427387903 : Int64)) + (1 : Int64)) + (yb &&& (4611686018427387903 : Int64)))), .second, .unset, .unset, .unset, .unset, .unset, .unset, .unset, .unset, .unset, .unset, .unset, .unset]) rfl ?_
    exact kt
  obtain ⟨s1, h_s1⟩ : ∃ z : Int64, z = (((ya &&& (4611686018427387903 : Int64)) + (1 : Int64)) + (yb &&& (4611686018427387903 : Int64))) := ⟨_, rfl⟩
  rw [← h_s1] at k1
  obtain ⟨s0, h_s0⟩ : ∃ z : Int64, z = (ya &&& (4611686018427387903 : Int64)) := ⟨_, rfl⟩
  rw [← h_s0] at k1
  rw [← h_s0] at h_s1
  have hs : s0 < s1 := by
    have q1 := c_maskL ya 4611686018427387903 62 (by decide) (by decide)
    have q2 := c_maskL yb 4611686018427387903 62 (by decide) (by decide)
    rw [← h_s0] at q1
    have a1 := c_ladd s0 1
    have a2 := c_ladd (s0 + 1) (yb &&& 4611686018427387903)
    rw [← h_s1] at a2
    have o1 : (1 : Int64).toInt = 1 := rfl
    have r1 := rng64 (s0 + 1)
    have r2 := rng64 s1
    rw [Int64.lt_iff_toInt_lt]; omega
  have hs2 : ¬ s1 < s0 := fun q => by rw [Int64.lt_iff_toInt_lt] at q hs; omega
  have hs3 : ¬ s0 = s1 := fun q => by rw [q] at hs; exact hs2 (q ▸ hs)
  have hs4 : ¬ s1 = s0 := fun q => hs3 q.symm
  obtain ⟨T2, h2, X2, e2, E2, A2, D2, -, st2⟩ := newO X0 hx hZ hown (wd1 hw) (wd2 hw) (wd3 hw) e0 (g := (mkF m 22 #[.val (.long ya), .second, .val (.long yb), .second, .val (.long yd), .second, .val (.long yl), .second, .val (.long ye), .second, .val (.long yg), .second, .val (.long s0), .second, .val (.long s1), .second, .val (.long yb), .second, .unset, .unset, .unset, .unset, .unset, .unset, .unset, .unset, .unset, .unset] [])) rfl (hb hby at_22) (by decide) (by decide)
  obtain ⟨b2, g2⟩ : ∃ z, z = h0.size := ⟨_, rfl⟩
  rw [← g2] at A2 D2 st2
  have ge_b2 : n0 ≤ b2 := Nat.le_trans Z0 (Nat.le_of_eq g2.symm)
  have sz_b2 : h0.size ≤ b2 := Nat.le_trans (Nat.le_refl _) (Nat.le_of_eq g2.symm)
  have Z2 : n0 ≤ h2.size := Nat.le_trans Z0 E2.1
  have K2 : Keep h0 h2 [] := ((Keep.refl h0 []).ext E2)
  have F2_starts : Fld Z h2 b2 cn2 "starts" "[J" .null := D2 (Or.inl (wd13 hw)) (ty := (.array .long)) (by decide)
  have F2_records : Fld Z h2 b2 cn2 "records" "[J" .null := D2 (Or.inl (wd15 hw)) (ty := (.array .long)) (by decide)
  have F2_decidedAt : Fld Z h2 b2 cn2 "decidedAt" "[J" .null := D2 (Or.inl (wd17 hw)) (ty := (.array .long)) (by decide)
  have F2_width : Fld Z h2 b2 cn2 "width" "I" (.int (0 : Int32)) := D2 (Or.inr (wd19 hw)) (ty := .int) (by decide)
  have F2_first : Fld Z h2 b2 cn2 "first" "I" (.int (0 : Int32)) := D2 (Or.inl (wd26 hw)) (ty := .int) (by decide)
  have F2_end : Fld Z h2 b2 cn2 "end" "I" (.int (0 : Int32)) := D2 (Or.inl (wd28 hw)) (ty := .int) (by decide)
  have f3 := (X00.ext E2)
  obtain ⟨_, _, ⟨T4, L4, kc4, ks4⟩, -, X4, ⟨Lc4, hQ4, l4, y4, z4⟩, st4⟩ := X2.specialBack hx (y := mn0) rfl hown (mvT hZ (wd4 hw)) (mvT hZ (wd5 hw)) (mvT hZ (wd6 hw)) (by decide) (backOf (W := 1) (rmA1 l Z a0 hw [] b2 wn ((.int (0 : Int32))) ((.int (0 : Int32))) h2 n0 Z2 (S_N.ext f3.2) A2 F2_starts ge_b2 F2_records F2_decidedAt F2_width F2_first F2_end) hZ (wd6 hw) (wd3 hw) (by decide) (by decide)) (g := (mkF m 27 #[.val (.long ya), .second, .val (.long yb), .second, .val (.long yd), .second, .val (.long yl), .second, .val (.long ye), .second, .val (.long yg), .second, .val (.long s0), .second, .val (.long s1), .second, .val (.long yb), .second, .unset, .unset, .unset, .unset, .unset, .unset, .unset, .unset, .unset, .unset] [(.int (1 : Int32)), (.ref b2), (.ref b2)])) rfl (by rw [hml]; rfl) (Steps.refl _) (a := b2) (argsL := [(.int (1 : Int32))]) (rest := [(.ref b2)]) (lenOf pd__I_V rfl) rfl (by show 2 * 0 + _ ≤ _; exact Nat.le_of_eq rfl) (hb hby at_27) (fun _ _ => ⟨rfl, e2, (by decide : 1 + 0 ≤ _), (by decide : 6 + 0 ≤ _)⟩)
  dsimp only [Pt.U, Pt.locs, Pt.cells, Pt.slots] at X4 l4 y4 z4 st4 hQ4
  subst l4 y4 z4
  obtain ⟨rfl, Nq4, Kq4, g4_0, g4_1, g4_2, g4_3, g4_4, g4_5, g4_6⟩ := hQ4
  have N4 := Fr.app N0 Nq4
  have Z4 : n0 ≤ T4.heap.size := Nat.le_trans Z2 Kq4.1
  have K4 : Keep h0 T4.heap [] := Keep.trans K2 Kq4 (allS (Or.inr sz_b2) all0)
  have f5 := (f3.keep Kq4 (allS ge_b2 all0))
  obtain ⟨cq6, kq6, q6a, q6b, q6c⟩ := isOf hZ rfl g4_0
  obtain ⟨_, _, ⟨T6, L6, kc6, ks6⟩, -, X6, ⟨Lc6, hQ6, l6, y6, z6⟩, st6⟩ := X4.virtualBack hx (y := mn1) (z := mn1) hown (mvT hZ (wd20 hw)) (mvT hZ (wd21 hw)) (notFace_of_selects (args := #[]) (mvT hZ (wd23 hw))) (mvT hZ (wd23 hw)) (mvT hZ (wd22 hw)) (by decide) (backOf (W := 0) (rmA2 l Z a0 hw [] b2 s0 yd wn _ T4.heap n0 Z4 g4_1 g4_5 g4_6 (V_N.ext f5.2) g4_2 g4_4 g4_3 g4_0 ge_b2 (Old.ne f5 V_N.lt ge_b2)) hZ (wd24 hw) (wd3 hw) (by decide) (by decide)) q6a q6c (g := (mkF m 40 #[.val (.long ya), .second, .val (.long yb), .second, .val (.long yd), .second, .val (.long yl), .second, .val (.long ye), .second, .val (.long yg), .second, .val (.long s0), .second, .val (.long s1), .second, .val (.long yb), .second, .val (.ref b2), .unset, .unset, .unset, .unset, .unset, .unset, .unset, .unset, .unset] [(.long yd), (.long (1 : Int64)), (.long (0 : Int64)), (.long s0), (.ref b2)])) rfl (by rw [hml]; rfl) (Steps.refl _) (argsL := [(.long s0), (.long (0 : Int64)), (.long (1 : Int64)), (.long yd)]) (rest := []) (lenOf pd__JJJJ_V rfl) rfl (by show 2 * 0 + _ ≤ _; exact Nat.le_of_eq rfl) (hb hby at_40) (fun _ _ => ⟨rfl, rfl, (by decide : 1 + 3 ≤ _), (by decide : 6 + 3 ≤ _)⟩)
  dsimp only [Pt.U, Pt.locs, Pt.cells, Pt.slots] at X6 l6 y6 z6 st6 hQ6
  subst l6 y6 z6
  obtain ⟨b6_0, b6_1, b6_2, kv6_3, kv6_4, kv6_5, rfl, Nq6, Kq6, sz6_0, sz6_1, sz6_2, g6_0, g6_1, g6_2, g6_3, g6_4, g6_5, g6_6, g6_7, g6_8, g6_9, g6_10, g6_11, g6_12⟩ := hQ6
  have N6 := Fr.app N4 Nq6
  have Z6 : n0 ≤ T6.heap.size := Nat.le_trans Z4 Kq6.1
  have K6 : Keep h0 T6.heap [] := Keep.trans K4 Kq6 (allS (Or.inr sz_b2) all0)
  have ne_b2_b6_0 : b2 ≠ b6_0 := Nat.ne_of_lt (Nat.lt_of_lt_of_le g4_0.lt sz6_0)
  have ge_b6_0 : n0 ≤ b6_0 := Nat.le_trans Z4 sz6_0
  have sz_b6_0 : h0.size ≤ b6_0 := Nat.le_trans K4.1 sz6_0
  have ne_b2_b6_1 : b2 ≠ b6_1 := Nat.ne_of_lt (Nat.lt_of_lt_of_le g4_0.lt sz6_1)
  have ge_b6_1 : n0 ≤ b6_1 := Nat.le_trans Z4 sz6_1
  have sz_b6_1 : h0.size ≤ b6_1 := Nat.le_trans K4.1 sz6_1
  have ne_b2_b6_2 : b2 ≠ b6_2 := Nat.ne_of_lt (Nat.lt_of_lt_of_le g4_0.lt sz6_2)
  have ge_b6_2 : n0 ≤ b6_2 := Nat.le_trans Z4 sz6_2
  have sz_b6_2 : h0.size ≤ b6_2 := Nat.le_trans K4.1 sz6_2
  obtain ⟨cq7, kq7, q7a, q7b, q7c⟩ := isOf hZ rfl g6_9
  obtain ⟨_, _, ⟨T7, L7, kc7, ks7⟩, -, X7, ⟨Lc7, hQ7, l7, y7, z7⟩, st7⟩ := X6.virtualBack hx (y := mn1) (z := mn1) hown (mvT hZ (wd20 hw)) (mvT hZ (wd21 hw)) (notFace_of_selects (args := #[]) (mvT hZ (wd23 hw))) (mvT hZ (wd23 hw)) (mvT hZ (wd22 hw)) (by decide) (backOf (W := 0) (rmA14 l Z a0 hw [] b2 s1 yb b6_0 s0 _ b6_1 _ b6_2 yd _ T6.heap n0 Z6 g6_3 g6_4 g6_5 g6_10 hs g6_6 g6_7 g6_11 g6_8 g6_12 g6_9 ge_b2 (Ne.symm ne_b2_b6_1) (Ne.symm ne_b2_b6_0) (Ne.symm ne_b2_b6_2)) hZ (wd24 hw) (wd3 hw) (by decide) (by decide)) q7a q7c (g := (mkF m 53 #[.val (.long ya), .second, .val (.long yb), .second, .val (.long yd), .second, .val (.long yl), .second, .val (.long ye), .second, .val (.long yg), .second, .val (.long s0), .second, .val (.long s1), .second, .val (.long yb), .second, .val (.ref b2), .unset, .unset, .unset, .unset, .unset, .unset, .unset, .unset, .unset] [(.long yb), (.long (2 : Int64)), (.long (0 : Int64)), (.long s1), (.ref b2)])) rfl (by rw [hml]; rfl) (Steps.refl _) (argsL := [(.long s1), (.long (0 : Int64)), (.long (2 : Int64)), (.long yb)]) (rest := []) (lenOf pd__JJJJ_V rfl) rfl (by show 2 * 0 + _ ≤ _; exact Nat.le_of_eq rfl) (hb hby at_53) (fun _ _ => ⟨rfl, rfl, (by decide : 4 + 3 ≤ _), (by decide : 9 + 6 ≤ _)⟩)
  dsimp only [Pt.U, Pt.locs, Pt.cells, Pt.slots] at X7 l7 y7 z7 st7 hQ7
  subst l7 y7 z7
  obtain ⟨b7_0, b7_1, b7_2, kv7_3, kv7_4, kv7_5, rfl, Nq7, Kq7, sz7_0, sz7_1, sz7_2, g7_0, g7_1, g7_2, g7_3, g7_4, g7_5, g7_6, g7_7, g7_8, g7_9, g7_10, g7_11, g7_12⟩ := hQ7
  have N7 := Fr.app N6 Nq7
  have Z7 : n0 ≤ T7.heap.size := Nat.le_trans Z6 Kq7.1
  have K7 : Keep h0 T7.heap [] := Keep.trans K6 Kq7 (allS (Or.inr sz_b2) all0)
  have ne_b2_b7_0 : b2 ≠ b7_0 := Nat.ne_of_lt (Nat.lt_of_lt_of_le g6_9.lt sz7_0)
  have ne_b6_0_b7_0 : b6_0 ≠ b7_0 := Nat.ne_of_lt (Nat.lt_of_lt_of_le g6_10.lt sz7_0)
  have ne_b6_1_b7_0 : b6_1 ≠ b7_0 := Nat.ne_of_lt (Nat.lt_of_lt_of_le g6_11.lt sz7_0)
  have ne_b6_2_b7_0 : b6_2 ≠ b7_0 := Nat.ne_of_lt (Nat.lt_of_lt_of_le g6_12.lt sz7_0)
  have ge_b7_0 : n0 ≤ b7_0 := Nat.le_trans Z6 sz7_0
  have sz_b7_0 : h0.size ≤ b7_0 := Nat.le_trans K6.1 sz7_0
  have ne_b2_b7_1 : b2 ≠ b7_1 := Nat.ne_of_lt (Nat.lt_of_lt_of_le g6_9.lt sz7_1)
  have ne_b6_0_b7_1 : b6_0 ≠ b7_1 := Nat.ne_of_lt (Nat.lt_of_lt_of_le g6_10.lt sz7_1)
  have ne_b6_1_b7_1 : b6_1 ≠ b7_1 := Nat.ne_of_lt (Nat.lt_of_lt_of_le g6_11.lt sz7_1)
  have ne_b6_2_b7_1 : b6_2 ≠ b7_1 := Nat.ne_of_lt (Nat.lt_of_lt_of_le g6_12.lt sz7_1)
  have ge_b7_1 : n0 ≤ b7_1 := Nat.le_trans Z6 sz7_1
  have sz_b7_1 : h0.size ≤ b7_1 := Nat.le_trans K6.1 sz7_1
  have ne_b2_b7_2 : b2 ≠ b7_2 := Nat.ne_of_lt (Nat.lt_of_lt_of_le g6_9.lt sz7_2)
  have ne_b6_0_b7_2 : b6_0 ≠ b7_2 := Nat.ne_of_lt (Nat.lt_of_lt_of_le g6_10.lt sz7_2)
  have ne_b6_1_b7_2 : b6_1 ≠ b7_2 := Nat.ne_of_lt (Nat.lt_of_lt_of_le g6_11.lt sz7_2)
  have ne_b6_2_b7_2 : b6_2 ≠ b7_2 := Nat.ne_of_lt (Nat.lt_of_lt_of_le g6_12.lt sz7_2)
  have ge_b7_2 : n0 ≤ b7_2 := Nat.le_trans Z6 sz7_2
  have sz_b7_2 : h0.size ≤ b7_2 := Nat.le_trans K6.1 sz7_2
  have k8 : ∀ t, Steps p.tables e below (T7.setTop (mkF m 64 #[.val (.long ya), .second, .val (.long yb), .second, .val (.long yd), .second, .val (.long yl), .second, .val (.long ye), .second, .val (.long yg), .second, .val (.long s0), .second, .val (.long s1), .second, .val (.long yb), .second, .val (.ref b2), .unset, .unset, .unset, .unset, .unset, .unset, .unset, .unset, .unset] [(.long yg), (.long ye), (.long yl), (.ref b2)])) t → Steps p.tables e below (s₁.setTop (entryFrame m #[(.long ya), (.long yb), (.long yd), (.long yl), (.long ye), (.long yg)] maxLocals)) t := by
    intro t kt
    refine k1 t ?_
    show Steps p.tables e below (s₁.setTop (mkF m 19 #[.val (.long ya), .second, .val (.long yb), .second, .val (.long yd), .second, .val (.long yl), .second, .val (.long ye), .second, .val (.long yg), .second, .val (.long s0), .second, .val (.long s1), .second, .unset, .unset, .unset, .unset, .unset, .unset, .unset, .unset, .unset, .unset, .unset, .unset] [])) _
    refine XS.lloadN X0.here hx rfl (hb hby at_19) rfl ?_
    refine XS.lstore X0.here hx rfl (hb hby at_20) rfl (l' := #[.val (.long ya), .second, .val (.long yb), .second, .val (.long yd), .second, .val (.long yl), .second, .val (.long ye), .second, .val (.long yg), .second, .val (.long s0), .second, .val (.long s1), .second, .val (.long yb), .second, .unset, .unset, .unset, .unset, .unset, .unset, .unset, .unset, .unset, .unset]) rfl ?_
    show Steps p.tables e below (s₁.setTop (mkF m 22 #[.val (.long ya), .second, .val (.long yb), .second, .val (.long yd), .second, .val (.long yl), .second, .val (.long ye), .second, .val (.long yg), .second, .val (.long s0), .second, .val (.long s1), .second, .val (.long yb), .second, .unset, .unset, .unset, .unset, .unset, .unset, .unset, .unset, .unset, .unset] [])) _
    refine st2 _ ?_
    show Steps p.tables e below (T2.setTop (mkF m 25 #[.val (.long ya), .second, .val (.long yb), .second, .val (.long yd), .second, .val (.long yl), .second, .val (.long ye), .second, .val (.long yg), .second, .val (.long s0), .second, .val (.long s1), .second, .val (.long yb), .second, .unset, .unset, .unset, .unset, .unset, .unset, .unset, .unset, .unset, .unset] [(.ref b2)])) _
    refine XS.dup X2.here hx rfl (hb hby at_25) rfl rfl ?_
    refine XS.iconst X2.here hx rfl (hb hby at_26) ?_
    show Steps p.tables e below (T2.setTop (mkF m 27 #[.val (.long ya), .second, .val (.long yb), .second, .val (.long yd), .second, .val (.long yl), .second, .val (.long ye), .second, .val (.long yg), .second, .val (.long s0), .second, .val (.long s1), .second, .val (.long yb), .second, .unset, .unset, .unset, .unset, .unset, .unset, .unset, .unset, .unset, .unset] [(.int (1 : Int32)), (.ref b2), (.ref b2)])) _
    refine st4.trans ?_
    show Steps p.tables e below (T4.setTop (mkF m 30 #[.val (.long ya), .second, .val (.long yb), .second, .val (.long yd), .second, .val (.long yl), .second, .val (.long ye), .second, .val (.long yg), .second, .val (.long s0), .second, .val (.long s1), .second, .val (.long yb), .second, .unset, .unset, .unset, .unset, .unset, .unset, .unset, .unset, .unset, .unset] [(.ref b2)])) _
    refine XS.astore X4.here hx rfl (hb hby at_30) rfl rfl (l' := #[.val (.long ya), .second, .val (.long yb), .second, .val (.long yd), .second, .val (.long yl), .second, .val (.long ye), .second, .val (.long yg), .second, .val (.long s0), .second, .val (.long s1), .second, .val (.long yb), .second, .val (.ref b2), .unset, .unset, .unset, .unset, .unset, .unset, .unset, .unset, .unset]) rfl ?_
    refine XS.aload X4.here hx rfl (hb hby at_32) rfl rfl ?_
    show Steps p.tables e below (T4.setTop (mkF m 34 #[.val (.long ya), .second, .val (.long yb), .second, .val (.long yd), .second, .val (.long yl), .second, .val (.long ye), .second, .val (.long yg), .second, .val (.long s0), .second, .val (.long s1), .second, .val (.long yb), .second, .val (.ref b2), .unset, .unset, .unset, .unset, .unset, .unset, .unset, .unset, .unset] [(.ref b2)])) _
    refine XS.lload X4.here hx rfl (hb hby at_34) rfl ?_
    refine XS.lconst X4.here hx rfl (hb hby at_36) ?_
    refine XS.lconst X4.here hx rfl (hb hby at_37) ?_
    show Steps p.tables e below (T4.setTop (mkF m 38 #[.val (.long ya), .second, .val (.long yb), .second, .val (.long yd), .second, .val (.long yl), .second, .val (.long ye), .second, .val (.long yg), .second, .val (.long s0), .second, .val (.long s1), .second, .val (.long yb), .second, .val (.ref b2), .unset, .unset, .unset, .unset, .unset, .unset, .unset, .unset, .unset] [(.long (1 : Int64)), (.long (0 : Int64)), (.long s0), (.ref b2)])) _
    refine XS.lload X4.here hx rfl (hb hby at_38) rfl ?_
    show Steps p.tables e below (T4.setTop (mkF m 40 #[.val (.long ya), .second, .val (.long yb), .second, .val (.long yd), .second, .val (.long yl), .second, .val (.long ye), .second, .val (.long yg), .second, .val (.long s0), .second, .val (.long s1), .second, .val (.long yb), .second, .val (.ref b2), .unset, .unset, .unset, .unset, .unset, .unset, .unset, .unset, .unset] [(.long yd), (.long (1 : Int64)), (.long (0 : Int64)), (.long s0), (.ref b2)])) _
    refine st6.trans ?_
    show Steps p.tables e below (T6.setTop (mkF m 43 #[.val (.long ya), .second, .val (.long yb), .second, .val (.long yd), .second, .val (.long yl), .second, .val (.long ye), .second, .val (.long yg), .second, .val (.long s0), .second, .val (.long s1), .second, .val (.long yb), .second, .val (.ref b2), .unset, .unset, .unset, .unset, .unset, .unset, .unset, .unset, .unset] [])) _
    refine XS.aload X6.here hx rfl (hb hby at_43) rfl rfl ?_
    show Steps p.tables e below (T6.setTop (mkF m 45 #[.val (.long ya), .second, .val (.long yb), .second, .val (.long yd), .second, .val (.long yl), .second, .val (.long ye), .second, .val (.long yg), .second, .val (.long s0), .second, .val (.long s1), .second, .val (.long yb), .second, .val (.ref b2), .unset, .unset, .unset, .unset, .unset, .unset, .unset, .unset, .unset] [(.ref b2)])) _
    refine XS.lload X6.here hx rfl (hb hby at_45) rfl ?_
    refine XS.lconst X6.here hx rfl (hb hby at_47) ?_
    refine X6.ldc2Long hx hown (mvT hZ (wd63 hw)) (g := (mkF m 48 #[.val (.long ya), .second, .val (.long yb), .second, .val (.long yd), .second, .val (.long yl), .second, .val (.long ye), .second, .val (.long yg), .second, .val (.long s0), .second, .val (.long s1), .second, .val (.long yb), .second, .val (.ref b2), .unset, .unset, .unset, .unset, .unset, .unset, .unset, .unset, .unset] [(.long (0 : Int64)), (.long s1), (.ref b2)])) rfl (hb hby at_48) _ ?_
    show Steps p.tables e below (T6.setTop (mkF m 51 #[.val (.long ya), .second, .val (.long yb), .second, .val (.long yd), .second, .val (.long yl), .second, .val (.long ye), .second, .val (.long yg), .second, .val (.long s0), .second, .val (.long s1), .second, .val (.long yb), .second, .val (.ref b2), .unset, .unset, .unset, .unset, .unset, .unset, .unset, .unset, .unset] [(.long (2 : Int64)), (.long (0 : Int64)), (.long s1), (.ref b2)])) _
    refine XS.lload X6.here hx rfl (hb hby at_51) rfl ?_
    show Steps p.tables e below (T6.setTop (mkF m 53 #[.val (.long ya), .second, .val (.long yb), .second, .val (.long yd), .second, .val (.long yl), .second, .val (.long ye), .second, .val (.long yg), .second, .val (.long s0), .second, .val (.long s1), .second, .val (.long yb), .second, .val (.ref b2), .unset, .unset, .unset, .unset, .unset, .unset, .unset, .unset, .unset] [(.long yb), (.long (2 : Int64)), (.long (0 : Int64)), (.long s1), (.ref b2)])) _
    refine st7.trans ?_
    show Steps p.tables e below (T7.setTop (mkF m 56 #[.val (.long ya), .second, .val (.long yb), .second, .val (.long yd), .second, .val (.long yl), .second, .val (.long ye), .second, .val (.long yg), .second, .val (.long s0), .second, .val (.long s1), .second, .val (.long yb), .second, .val (.ref b2), .unset, .unset, .unset, .unset, .unset, .unset, .unset, .unset, .unset] [])) _
    refine XS.aload X7.here hx rfl (hb hby at_56) rfl rfl ?_
    show Steps p.tables e below (T7.setTop (mkF m 58 #[.val (.long ya), .second, .val (.long yb), .second, .val (.long yd), .second, .val (.long yl), .second, .val (.long ye), .second, .val (.long yg), .second, .val (.long s0), .second, .val (.long s1), .second, .val (.long yb), .second, .val (.ref b2), .unset, .unset, .unset, .unset, .unset, .unset, .unset, .unset, .unset] [(.ref b2)])) _
    refine XS.lload X7.here hx rfl (hb hby at_58) rfl ?_
    refine XS.lload X7.here hx rfl (hb hby at_60) rfl ?_
    refine XS.lload X7.here hx rfl (hb hby at_62) rfl ?_
    exact kt
  by_cases hd0 : yl < (s0 / (1000000000 : Int64))
  · skip
    obtain ⟨cq9, kq9, q9a, q9b, q9c⟩ := isOf hZ rfl g7_9
    obtain ⟨_, _, ⟨T9, L9, kc9, ks9⟩, -, X9, ⟨Lc9, hQ9, l9, y9, z9⟩, st9⟩ := X7.virtualBack hx (y := mn4) (z := mn4) hown (mvT hZ (wd64 hw)) (mvT hZ (wd65 hw)) (notFace_of_selects (args := #[]) (mvT hZ (wd67 hw))) (mvT hZ (wd67 hw)) (mvT hZ (wd66 hw)) (by decide) (backOf (W := 0) (rmA26 l Z a0 hw [] b2 yl ye yg b7_0 s0 s1 _ T7.heap n0 Z7 g7_4 g7_5 g7_3 g7_10 hd0) hZ (wd68 hw) (wd3 hw) (by decide) (by decide)) q9a q9c (g := (mkF m 64 #[.val (.long ya), .second, .val (.long yb), .second, .val (.long yd), .second, .val (.long yl), .second, .val (.long ye), .second, .val (.long yg), .second, .val (.long s0), .second, .val (.long s1), .second, .val (.long yb), .second, .val (.ref b2), .unset, .unset, .unset, .unset, .unset, .unset, .unset, .unset, .unset] [(.long yg), (.long ye), (.long yl), (.ref b2)])) rfl (by rw [hml]; rfl) (Steps.refl _) (argsL := [(.long yl), (.long ye), (.long yg)]) (rest := []) (lenOf pd__JJJ_V rfl) rfl (by show 2 * 0 + _ ≤ _; exact Nat.le_of_eq rfl) (hb hby at_64) (fun _ _ => ⟨rfl, rfl, (by decide : 7 + 0 ≤ _), (by decide : 15 + 0 ≤ _)⟩)
    dsimp only [Pt.U, Pt.locs, Pt.cells, Pt.slots] at X9 l9 y9 z9 st9 hQ9
    subst l9 y9 z9
    obtain ⟨rfl, Nq9, eq9⟩ := hQ9
    have N9 := Fr.app N7 Nq9
    have k10 : ∀ t, Steps p.tables e below (T9.setTop (mkF m 106 #[.val (.long ya), .second, .val (.long yb), .second, .val (.long yd), .second, .val (.long yl), .second, .val (.long ye), .second, .val (.long yg), .second, .val (.long s0), .second, .val (.long s1), .second, .val (.long yb), .second, .val (.ref b2), .val (.int (0 : Int32)), .unset, .unset, .unset, .unset, .unset, .unset, .unset, .unset] [(.int (lcmpW (s1 / (1000000000 : Int64)) yl))])) t → Steps p.tables e below (s₁.setTop (entryFrame m #[(.long ya), (.long yb), (.long yd), (.long yl), (.long ye), (.long yg)] maxLocals)) t := by
      intro t kt
      refine k8 t ?_
      show Steps p.tables e below (T7.setTop (mkF m 64 #[.val (.long ya), .second, .val (.long yb), .second, .val (.long yd), .second, .val (.long yl), .second, .val (.long ye), .second, .val (.long yg), .second, .val (.long s0), .second, .val (.long s1), .second, .val (.long yb), .second, .val (.ref b2), .unset, .unset, .unset, .unset, .unset, .unset, .unset, .unset, .unset] [(.long yg), (.long ye), (.long yl), (.ref b2)])) _
      refine st9.trans ?_
      show Steps p.tables e below (T9.setTop (mkF m 67 #[.val (.long ya), .second, .val (.long yb), .second, .val (.long yd), .second, .val (.long yl), .second, .val (.long ye), .second, .val (.long yg), .second, .val (.long s0), .second, .val (.long s1), .second, .val (.long yb), .second, .val (.ref b2), .unset, .unset, .unset, .unset, .unset, .unset, .unset, .unset, .unset] [])) _
      refine XS.lload X9.here hx rfl (hb hby at_67) rfl ?_
      refine X9.ldc2Long hx hown (mvT hZ (wd70 hw)) (g := (mkF m 69 #[.val (.long ya), .second, .val (.long yb), .second, .val (.long yd), .second, .val (.long yl), .second, .val (.long ye), .second, .val (.long yg), .second, .val (.long s0), .second, .val (.long s1), .second, .val (.long yb), .second, .val (.ref b2), .unset, .unset, .unset, .unset, .unset, .unset, .unset, .unset, .unset] [(.long s0)])) rfl (hb hby at_69) _ ?_
      show Steps p.tables e below (T9.setTop (mkF m 72 #[.val (.long ya), .second, .val (.long yb), .second, .val (.long yd), .second, .val (.long yl), .second, .val (.long ye), .second, .val (.long yg), .second, .val (.long s0), .second, .val (.long s1), .second, .val (.long yb), .second, .val (.ref b2), .unset, .unset, .unset, .unset, .unset, .unset, .unset, .unset, .unset] [(.long (1000000000 : Int64)), (.long s0)])) _
      refine XS.ldiv X9.here hx rfl (hb hby at_72) rfl (by decide) ?_
      refine XS.lload X9.here hx rfl (hb hby at_73) rfl ?_
      refine XS.lcmp X9.here hx rfl (hb hby at_75) rfl ?_
      show Steps p.tables e below (T9.setTop (mkF m 76 #[.val (.long ya), .second, .val (.long yb), .second, .val (.long yd), .second, .val (.long yl), .second, .val (.long ye), .second, .val (.long yg), .second, .val (.long s0), .second, .val (.long s1), .second, .val (.long yb), .second, .val (.ref b2), .unset, .unset, .unset, .unset, .unset, .unset, .unset, .unset, .unset] [(.int (lcmpW (s0 / (1000000000 : Int64)) yl))])) _
      refine XS.ifYes X9.here hx rfl (pc0 := 76) (pc' := 94) rfl (hb hby at_76) rfl ((if0 _ _).trans (tlt ((lw_gt (s0 / (1000000000 : Int64)) yl).mpr hd0)).2.2.1) (by decide) (by decide) ?_
      refine XS.iconst X9.here hx rfl (hb hby at_94) ?_
      refine XS.istore X9.here hx rfl (hb hby at_95) rfl (l' := #[.val (.long ya), .second, .val (.long yb), .second, .val (.long yd), .second, .val (.long yl), .second, .val (.long ye), .second, .val (.long yg), .second, .val (.long s0), .second, .val (.long s1), .second, .val (.long yb), .second, .val (.ref b2), .val (.int (0 : Int32)), .unset, .unset, .unset, .unset, .unset, .unset, .unset, .unset]) rfl ?_
      show Steps p.tables e below (T9.setTop (mkF m 97 #[.val (.long ya), .second, .val (.long yb), .second, .val (.long yd), .second, .val (.long yl), .second, .val (.long ye), .second, .val (.long yg), .second, .val (.long s0), .second, .val (.long s1), .second, .val (.long yb), .second, .val (.ref b2), .val (.int (0 : Int32)), .unset, .unset, .unset, .unset, .unset, .unset, .unset, .unset] [])) _
      refine XS.lload X9.here hx rfl (hb hby at_97) rfl ?_
      refine X9.ldc2Long hx hown (mvT hZ (wd70 hw)) (g := (mkF m 99 #[.val (.long ya), .second, .val (.long yb), .second, .val (.long yd), .second, .val (.long yl), .second, .val (.long ye), .second, .val (.long yg), .second, .val (.long s0), .second, .val (.long s1), .second, .val (.long yb), .second, .val (.ref b2), .val (.int (0 : Int32)), .unset, .unset, .unset, .unset, .unset, .unset, .unset, .unset] [(.long s1)])) rfl (hb hby at_99) _ ?_
      refine XS.ldiv X9.here hx rfl (hb hby at_102) rfl (by decide) ?_
      show Steps p.tables e below (T9.setTop (mkF m 103 #[.val (.long ya), .second, .val (.long yb), .second, .val (.long yd), .second, .val (.long yl), .second, .val (.long ye), .second, .val (.long yg), .second, .val (.long s0), .second, .val (.long s1), .second, .val (.long yb), .second, .val (.ref b2), .val (.int (0 : Int32)), .unset, .unset, .unset, .unset, .unset, .unset, .unset, .unset] [(.long (s1 / (1000000000 : Int64)))])) _
      refine XS.lload X9.here hx rfl (hb hby at_103) rfl ?_
      refine XS.lcmp X9.here hx rfl (hb hby at_105) rfl ?_
      exact kt
    obtain ⟨jo, hj11, k11⟩ : ∃ (jo : Int32), (True) ∧ ∀ t, Steps p.tables e below (T9.setTop (mkF m 125 #[.val (.long ya), .second, .val (.long yb), .second, .val (.long yd), .second, .val (.long yl), .second, .val (.long ye), .second, .val (.long yg), .second, .val (.long s0), .second, .val (.long s1), .second, .val (.long yb), .second, .val (.ref b2), .val (.int (0 : Int32)), .unset, .unset, .unset, .unset, .unset, .unset, .unset, .unset] [(.int jo)])) t → Steps p.tables e below (s₁.setTop (entryFrame m #[(.long ya), (.long yb), (.long yd), (.long yl), (.long ye), (.long yg)] maxLocals)) t := by
      by_cases hc12 : yl < (s1 / (1000000000 : Int64))
      · skip
        have k13 : ∀ t, Steps p.tables e below (T9.setTop (mkF m 125 #[.val (.long ya), .second, .val (.long yb), .second, .val (.long yd), .second, .val (.long yl), .second, .val (.long ye), .second, .val (.long yg), .second, .val (.long s0), .second, .val (.long s1), .second, .val (.long yb), .second, .val (.ref b2), .val (.int (0 : Int32)), .unset, .unset, .unset, .unset, .unset, .unset, .unset, .unset] [(.int (0 : Int32))])) t → Steps p.tables e below (s₁.setTop (entryFrame m #[(.long ya), (.long yb), (.long yd), (.long yl), (.long ye), (.long yg)] maxLocals)) t := by
          intro t kt
          refine k10 t ?_
          show Steps p.tables e below (T9.setTop (mkF m 106 #[.val (.long ya), .second, .val (.long yb), .second, .val (.long yd), .second, .val (.long yl), .second, .val (.long ye), .second, .val (.long yg), .second, .val (.long s0), .second, .val (.long s1), .second, .val (.long yb), .second, .val (.ref b2), .val (.int (0 : Int32)), .unset, .unset, .unset, .unset, .unset, .unset, .unset, .unset] [(.int (lcmpW (s1 / (1000000000 : Int64)) yl))])) _
          refine XS.ifYes X9.here hx rfl (pc0 := 106) (pc' := 124) rfl (hb hby at_106) rfl ((if0 _ _).trans (tlt ((lw_gt (s1 / (1000000000 : Int64)) yl).mpr hc12)).2.2.1) (by decide) (by decide) ?_
          show Steps p.tables e below (T9.setTop (mkF m 124 #[.val (.long ya), .second, .val (.long yb), .second, .val (.long yd), .second, .val (.long yl), .second, .val (.long ye), .second, .val (.long yg), .second, .val (.long s0), .second, .val (.long s1), .second, .val (.long yb), .second, .val (.ref b2), .val (.int (0 : Int32)), .unset, .unset, .unset, .unset, .unset, .unset, .unset, .unset] [])) _
          refine XS.iconst X9.here hx rfl (hb hby at_124) ?_
          exact kt
        exact ⟨(0 : Int32), trivial, k13⟩
      · skip
        have k14 : ∀ t, Steps p.tables e below (T9.setTop (mkF m 117 #[.val (.long ya), .second, .val (.long yb), .second, .val (.long yd), .second, .val (.long yl), .second, .val (.long ye), .second, .val (.long yg), .second, .val (.long s0), .second, .val (.long s1), .second, .val (.long yb), .second, .val (.ref b2), .val (.int (0 : Int32)), .unset, .unset, .unset, .unset, .unset, .unset, .unset, .unset] [(.int (lcmpW (ye - yb) yg))])) t → Steps p.tables e below (s₁.setTop (entryFrame m #[(.long ya), (.long yb), (.long yd), (.long yl), (.long ye), (.long yg)] maxLocals)) t := by
          intro t kt
          refine k10 t ?_
          show Steps p.tables e below (T9.setTop (mkF m 106 #[.val (.long ya), .second, .val (.long yb), .second, .val (.long yd), .second, .val (.long yl), .second, .val (.long ye), .second, .val (.long yg), .second, .val (.long s0), .second, .val (.long s1), .second, .val (.long yb), .second, .val (.ref b2), .val (.int (0 : Int32)), .unset, .unset, .unset, .unset, .unset, .unset, .unset, .unset] [(.int (lcmpW (s1 / (1000000000 : Int64)) yl))])) _
          refine XS.ifNo X9.here hx rfl (hb hby at_106) rfl ((if0 _ _).trans (flt (fun q => hc12 ((lw_gt (s1 / (1000000000 : Int64)) yl).mp q))).2.2.1) ?_
          show Steps p.tables e below (T9.setTop (mkF m 109 #[.val (.long ya), .second, .val (.long yb), .second, .val (.long yd), .second, .val (.long yl), .second, .val (.long ye), .second, .val (.long yg), .second, .val (.long s0), .second, .val (.long s1), .second, .val (.long yb), .second, .val (.ref b2), .val (.int (0 : Int32)), .unset, .unset, .unset, .unset, .unset, .unset, .unset, .unset] [])) _
          refine XS.lload X9.here hx rfl (hb hby at_109) rfl ?_
          refine XS.lload X9.here hx rfl (hb hby at_111) rfl ?_
          refine XS.lsub X9.here hx rfl (hb hby at_113) rfl ?_
          show Steps p.tables e below (T9.setTop (mkF m 114 #[.val (.long ya), .second, .val (.long yb), .second, .val (.long yd), .second, .val (.long yl), .second, .val (.long ye), .second, .val (.long yg), .second, .val (.long s0), .second, .val (.long s1), .second, .val (.long yb), .second, .val (.ref b2), .val (.int (0 : Int32)), .unset, .unset, .unset, .unset, .unset, .unset, .unset, .unset] [(.long (ye - yb))])) _
          refine XS.lload X9.here hx rfl (hb hby at_114) rfl ?_
          refine XS.lcmp X9.here hx rfl (hb hby at_116) rfl ?_
          exact kt
        by_cases hc15 : (ye - yb) < yg
        · skip
          have k16 : ∀ t, Steps p.tables e below (T9.setTop (mkF m 125 #[.val (.long ya), .second, .val (.long yb), .second, .val (.long yd), .second, .val (.long yl), .second, .val (.long ye), .second, .val (.long yg), .second, .val (.long s0), .second, .val (.long s1), .second, .val (.long yb), .second, .val (.ref b2), .val (.int (0 : Int32)), .unset, .unset, .unset, .unset, .unset, .unset, .unset, .unset] [(.int (0 : Int32))])) t → Steps p.tables e below (s₁.setTop (entryFrame m #[(.long ya), (.long yb), (.long yd), (.long yl), (.long ye), (.long yg)] maxLocals)) t := by
            intro t kt
            refine k14 t ?_
            show Steps p.tables e below (T9.setTop (mkF m 117 #[.val (.long ya), .second, .val (.long yb), .second, .val (.long yd), .second, .val (.long yl), .second, .val (.long ye), .second, .val (.long yg), .second, .val (.long s0), .second, .val (.long s1), .second, .val (.long yb), .second, .val (.ref b2), .val (.int (0 : Int32)), .unset, .unset, .unset, .unset, .unset, .unset, .unset, .unset] [(.int (lcmpW (ye - yb) yg))])) _
            refine XS.ifYes X9.here hx rfl (pc0 := 117) (pc' := 124) rfl (hb hby at_117) rfl ((if0 _ _).trans (tlt ((lw_lt (ye - yb) yg).mpr hc15)).1) (by decide) (by decide) ?_
            show Steps p.tables e below (T9.setTop (mkF m 124 #[.val (.long ya), .second, .val (.long yb), .second, .val (.long yd), .second, .val (.long yl), .second, .val (.long ye), .second, .val (.long yg), .second, .val (.long s0), .second, .val (.long s1), .second, .val (.long yb), .second, .val (.ref b2), .val (.int (0 : Int32)), .unset, .unset, .unset, .unset, .unset, .unset, .unset, .unset] [])) _
            refine XS.iconst X9.here hx rfl (hb hby at_124) ?_
            exact kt
          exact ⟨(0 : Int32), trivial, k16⟩
        · skip
          have k17 : ∀ t, Steps p.tables e below (T9.setTop (mkF m 125 #[.val (.long ya), .second, .val (.long yb), .second, .val (.long yd), .second, .val (.long yl), .second, .val (.long ye), .second, .val (.long yg), .second, .val (.long s0), .second, .val (.long s1), .second, .val (.long yb), .second, .val (.ref b2), .val (.int (0 : Int32)), .unset, .unset, .unset, .unset, .unset, .unset, .unset, .unset] [(.int (1 : Int32))])) t → Steps p.tables e below (s₁.setTop (entryFrame m #[(.long ya), (.long yb), (.long yd), (.long yl), (.long ye), (.long yg)] maxLocals)) t := by
            intro t kt
            refine k14 t ?_
            show Steps p.tables e below (T9.setTop (mkF m 117 #[.val (.long ya), .second, .val (.long yb), .second, .val (.long yd), .second, .val (.long yl), .second, .val (.long ye), .second, .val (.long yg), .second, .val (.long s0), .second, .val (.long s1), .second, .val (.long yb), .second, .val (.ref b2), .val (.int (0 : Int32)), .unset, .unset, .unset, .unset, .unset, .unset, .unset, .unset] [(.int (lcmpW (ye - yb) yg))])) _
            refine XS.ifNo X9.here hx rfl (hb hby at_117) rfl ((if0 _ _).trans (flt (fun q => hc15 ((lw_lt (ye - yb) yg).mp q))).1) ?_
            show Steps p.tables e below (T9.setTop (mkF m 120 #[.val (.long ya), .second, .val (.long yb), .second, .val (.long yd), .second, .val (.long yl), .second, .val (.long ye), .second, .val (.long yg), .second, .val (.long s0), .second, .val (.long s1), .second, .val (.long yb), .second, .val (.ref b2), .val (.int (0 : Int32)), .unset, .unset, .unset, .unset, .unset, .unset, .unset, .unset] [])) _
            refine XS.iconst X9.here hx rfl (hb hby at_120) ?_
            refine XS.goto X9.here hx rfl (pc0 := 121) (pc' := 125) rfl (hb hby at_121) (by decide) (by decide) ?_
            exact kt
          exact ⟨(1 : Int32), trivial, k17⟩
    obtain ⟨cq18, kq18, q18a, q18b, q18c⟩ := isOf hZ eq9 g7_9
    obtain ⟨_, _, ⟨T18, L18, kc18, ks18⟩, -, X18, ⟨Lc18, hQ18, l18, y18, z18⟩, st18⟩ := X9.virtualBack hx (y := mn3) (z := mn3) hown (mvT hZ (wd71 hw)) (mvT hZ (wd72 hw)) (notFace_of_selects (args := #[]) (mvT hZ (wd74 hw))) (mvT hZ (wd74 hw)) (mvT hZ (wd73 hw)) (by decide) (backOf (W := 0) (rmA27 l Z a0 hw [] b2 b7_0 s0 s1 _ T7.heap n0 Z7 g7_4 g7_5 g7_3 g7_10) hZ (wd75 hw) (wd3 hw) (by decide) (by decide)) q18a q18c (g := (mkF m 204 #[.val (.long ya), .second, .val (.long yb), .second, .val (.long yd), .second, .val (.long yl), .second, .val (.long ye), .second, .val (.long yg), .second, .val (.long s0), .second, .val (.long s1), .second, .val (.long yb), .second, .val (.ref b2), .val (.int (0 : Int32)), .val (.int jo), .val (.int (0 : Int32)), .val (.long s0), .second, .val (.long (1 : Int64)), .second, .val (.long (2 : Int64)), .second] [(.ref b2)])) rfl (by rw [hml]; rfl) (Steps.refl _) (argsL := []) (rest := []) (lenOf pd___J rfl) rfl (by show 2 * 0 + _ ≤ _; exact Nat.le_of_eq rfl) (hb hby at_204) (fun _ _ => ⟨rfl, eq9, (by decide : 7 + 0 ≤ _), (by decide : 15 + 0 ≤ _)⟩)
    dsimp only [Pt.U, Pt.locs, Pt.cells, Pt.slots] at X18 l18 y18 z18 st18 hQ18
    subst l18 y18 z18
    obtain ⟨rfl, Nq18, eq18⟩ := hQ18
    have N18 := Fr.app N9 Nq18
    obtain ⟨cq19, kq19, q19a, q19b, q19c⟩ := isOf hZ eq18 g7_9
    obtain ⟨_, _, ⟨T19, L19, kc19, ks19⟩, -, X19, ⟨Lc19, hQ19, l19, y19, z19⟩, st19⟩ := X18.virtualBack hx (y := mn2) (z := mn2) hown (mvT hZ (wd76 hw)) (mvT hZ (wd77 hw)) (notFace_of_selects (args := #[]) (mvT hZ (wd79 hw))) (mvT hZ (wd79 hw)) (mvT hZ (wd78 hw)) (by decide) (backOf (W := 0) (rmA28 l Z a0 hw [] b2 s0 b7_0 s1 _ b7_1 _ T7.heap n0 Z7 g7_3 g7_4 g7_5 g7_10 g7_6 g7_7 g7_11) hZ (wd80 hw) (wd3 hw) (by decide) (by decide)) q19a q19c (g := (mkF m 218 #[.val (.long ya), .second, .val (.long yb), .second, .val (.long yd), .second, .val (.long yl), .second, .val (.long ye), .second, .val (.long yg), .second, .val (.long s0), .second, .val (.long s1), .second, .val (.long yb), .second, .val (.ref b2), .val (.int (0 : Int32)), .val (.int jo), .val (.int (0 : Int32)), .val (.long s0), .second, .val (.long (1 : Int64)), .second, .val (.long (2 : Int64)), .second] [(.int (0 : Int32)), (.long s0), (.ref b2)])) rfl (by rw [hml]; rfl) (Steps.refl _) (argsL := [(.long s0), (.int (0 : Int32))]) (rest := []) (lenOf pd__JI_J rfl) rfl (by show 2 * 0 + _ ≤ _; exact Nat.le_of_eq rfl) (hb hby at_218) (fun _ _ => ⟨rfl, eq18, (by decide : 7 + 0 ≤ _), (by decide : 15 + 0 ≤ _)⟩)
    dsimp only [Pt.U, Pt.locs, Pt.cells, Pt.slots] at X19 l19 y19 z19 st19 hQ19
    subst l19 y19 z19
    obtain ⟨rfl, Nq19, eq19⟩ := hQ19
    have N19 := Fr.app N18 Nq19
    obtain ⟨cq20, kq20, q20a, q20b, q20c⟩ := isOf hZ eq19 g7_9
    obtain ⟨_, _, ⟨T20, L20, kc20, ks20⟩, -, X20, ⟨Lc20, hQ20, l20, y20, z20⟩, st20⟩ := X19.virtualBack hx (y := mn2) (z := mn2) hown (mvT hZ (wd76 hw)) (mvT hZ (wd77 hw)) (notFace_of_selects (args := #[]) (mvT hZ (wd79 hw))) (mvT hZ (wd79 hw)) (mvT hZ (wd78 hw)) (by decide) (backOf (W := 0) (rmA32 l Z a0 hw [] b2 s1 b7_0 s0 _ b7_1 _ T7.heap n0 Z7 g7_3 g7_4 g7_5 g7_10 hs g7_6 g7_7 g7_11) hZ (wd80 hw) (wd3 hw) (by decide) (by decide)) q20a q20c (g := (mkF m 232 #[.val (.long ya), .second, .val (.long yb), .second, .val (.long yd), .second, .val (.long yl), .second, .val (.long ye), .second, .val (.long yg), .second, .val (.long s0), .second, .val (.long s1), .second, .val (.long yb), .second, .val (.ref b2), .val (.int (0 : Int32)), .val (.int jo), .val (.int (0 : Int32)), .val (.long s0), .second, .val (.long (1 : Int64)), .second, .val (.long (2 : Int64)), .second] [(.int (0 : Int32)), (.long s1), (.ref b2)])) rfl (by rw [hml]; rfl) (Steps.refl _) (argsL := [(.long s1), (.int (0 : Int32))]) (rest := []) (lenOf pd__JI_J rfl) rfl (by show 2 * 0 + _ ≤ _; exact Nat.le_of_eq rfl) (hb hby at_232) (fun _ _ => ⟨rfl, eq19, (by decide : 7 + 0 ≤ _), (by decide : 15 + 0 ≤ _)⟩)
    dsimp only [Pt.U, Pt.locs, Pt.cells, Pt.slots] at X20 l20 y20 z20 st20 hQ20
    subst l20 y20 z20
    obtain ⟨rfl, Nq20, eq20⟩ := hQ20
    have N20 := Fr.app N19 Nq20
    obtain ⟨lfs, lhr, lhrun, lhended, lhW, lhsame⟩ := X20.leave (v := some (.int (1 : Int32))) (fun h => by rw [Bd.returns] at h; cases h)
    refine ⟨_, _, k11 _ ?_, lhrun, lhended, _, _, rfl, ?_, ⟨_, rfl⟩, lhW, lhsame.mono (by decide) (by decide)⟩
    · skip
      show Steps p.tables e below (T9.setTop (mkF m 125 #[.val (.long ya), .second, .val (.long yb), .second, .val (.long yd), .second, .val (.long yl), .second, .val (.long ye), .second, .val (.long yg), .second, .val (.long s0), .second, .val (.long s1), .second, .val (.long yb), .second, .val (.ref b2), .val (.int (0 : Int32)), .unset, .unset, .unset, .unset, .unset, .unset, .unset, .unset] [(.int jo)])) _
      refine XS.istore X9.here hx rfl (hb hby at_125) rfl (l' := #[.val (.long ya), .second, .val (.long yb), .second, .val (.long yd), .second, .val (.long yl), .second, .val (.long ye), .second, .val (.long yg), .second, .val (.long s0), .second, .val (.long s1), .second, .val (.long yb), .second, .val (.ref b2), .val (.int (0 : Int32)), .val (.int jo), .unset, .unset, .unset, .unset, .unset, .unset, .unset]) rfl ?_
      show Steps p.tables e below (T9.setTop (mkF m 127 #[.val (.long ya), .second, .val (.long yb), .second, .val (.long yd), .second, .val (.long yl), .second, .val (.long ye), .second, .val (.long yg), .second, .val (.long s0), .second, .val (.long s1), .second, .val (.long yb), .second, .val (.ref b2), .val (.int (0 : Int32)), .val (.int jo), .unset, .unset, .unset, .unset, .unset, .unset, .unset] [])) _
      refine XS.iload X9.here hx rfl (hb hby at_127) rfl ?_
      refine XS.ifNo X9.here hx rfl (hb hby at_129) rfl ((if0 _ _).trans (teq (by decide : (0 : Int32) = (0 : Int32))).2) ?_
      refine XS.iconst X9.here hx rfl (hb hby at_132) ?_
      show Steps p.tables e below (T9.setTop (mkF m 133 #[.val (.long ya), .second, .val (.long yb), .second, .val (.long yd), .second, .val (.long yl), .second, .val (.long ye), .second, .val (.long yg), .second, .val (.long s0), .second, .val (.long s1), .second, .val (.long yb), .second, .val (.ref b2), .val (.int (0 : Int32)), .val (.int jo), .unset, .unset, .unset, .unset, .unset, .unset, .unset] [(.int (0 : Int32))])) _
      refine XS.goto X9.here hx rfl (pc0 := 133) (pc' := 146) rfl (hb hby at_133) (by decide) (by decide) ?_
      refine XS.istore X9.here hx rfl (hb hby at_146) rfl (l' := #[.val (.long ya), .second, .val (.long yb), .second, .val (.long yd), .second, .val (.long yl), .second, .val (.long ye), .second, .val (.long yg), .second, .val (.long s0), .second, .val (.long s1), .second, .val (.long yb), .second, .val (.ref b2), .val (.int (0 : Int32)), .val (.int jo), .val (.int (0 : Int32)), .unset, .unset, .unset, .unset, .unset, .unset]) rfl ?_
      refine XS.iload X9.here hx rfl (hb hby at_148) rfl ?_
      show Steps p.tables e below (T9.setTop (mkF m 150 #[.val (.long ya), .second, .val (.long yb), .second, .val (.long yd), .second, .val (.long yl), .second, .val (.long ye), .second, .val (.long yg), .second, .val (.long s0), .second, .val (.long s1), .second, .val (.long yb), .second, .val (.ref b2), .val (.int (0 : Int32)), .val (.int jo), .val (.int (0 : Int32)), .unset, .unset, .unset, .unset, .unset, .unset] [(.int (0 : Int32))])) _
      refine XS.ifNo X9.here hx rfl (hb hby at_150) rfl ((if0 _ _).trans (teq (by decide : (0 : Int32) = (0 : Int32))).2) ?_
      refine XS.lload X9.here hx rfl (hb hby at_153) rfl ?_
      refine XS.goto X9.here hx rfl (pc0 := 155) (pc' := 172) rfl (hb hby at_155) (by decide) (by decide) ?_
      show Steps p.tables e below (T9.setTop (mkF m 172 #[.val (.long ya), .second, .val (.long yb), .second, .val (.long yd), .second, .val (.long yl), .second, .val (.long ye), .second, .val (.long yg), .second, .val (.long s0), .second, .val (.long s1), .second, .val (.long yb), .second, .val (.ref b2), .val (.int (0 : Int32)), .val (.int jo), .val (.int (0 : Int32)), .unset, .unset, .unset, .unset, .unset, .unset] [(.long s0)])) _
      refine XS.lstore X9.here hx rfl (hb hby at_172) rfl (l' := #[.val (.long ya), .second, .val (.long yb), .second, .val (.long yd), .second, .val (.long yl), .second, .val (.long ye), .second, .val (.long yg), .second, .val (.long s0), .second, .val (.long s1), .second, .val (.long yb), .second, .val (.ref b2), .val (.int (0 : Int32)), .val (.int jo), .val (.int (0 : Int32)), .val (.long s0), .second, .unset, .unset, .unset, .unset]) rfl ?_
      refine XS.iload X9.here hx rfl (hb hby at_174) rfl ?_
      refine XS.iconst X9.here hx rfl (hb hby at_176) ?_
      show Steps p.tables e below (T9.setTop (mkF m 177 #[.val (.long ya), .second, .val (.long yb), .second, .val (.long yd), .second, .val (.long yl), .second, .val (.long ye), .second, .val (.long yg), .second, .val (.long s0), .second, .val (.long s1), .second, .val (.long yb), .second, .val (.ref b2), .val (.int (0 : Int32)), .val (.int jo), .val (.int (0 : Int32)), .val (.long s0), .second, .unset, .unset, .unset, .unset] [(.int (1 : Int32)), (.int (0 : Int32))])) _
      refine XS.icmpYes X9.here hx rfl (pc0 := 177) (pc' := 184) rfl (hb hby at_177) rfl (tlt (by decide : (0 : Int32) < (1 : Int32))).1 (by decide) (by decide) ?_
      refine XS.lconst X9.here hx rfl (hb hby at_184) ?_
      refine XS.lstore X9.here hx rfl (hb hby at_185) rfl (l' := #[.val (.long ya), .second, .val (.long yb), .second, .val (.long yd), .second, .val (.long yl), .second, .val (.long ye), .second, .val (.long yg), .second, .val (.long s0), .second, .val (.long s1), .second, .val (.long yb), .second, .val (.ref b2), .val (.int (0 : Int32)), .val (.int jo), .val (.int (0 : Int32)), .val (.long s0), .second, .val (.long (1 : Int64)), .second, .unset, .unset]) rfl ?_
      show Steps p.tables e below (T9.setTop (mkF m 187 #[.val (.long ya), .second, .val (.long yb), .second, .val (.long yd), .second, .val (.long yl), .second, .val (.long ye), .second, .val (.long yg), .second, .val (.long s0), .second, .val (.long s1), .second, .val (.long yb), .second, .val (.ref b2), .val (.int (0 : Int32)), .val (.int jo), .val (.int (0 : Int32)), .val (.long s0), .second, .val (.long (1 : Int64)), .second, .unset, .unset] [])) _
      refine XS.iload X9.here hx rfl (hb hby at_187) rfl ?_
      refine XS.iconst X9.here hx rfl (hb hby at_189) ?_
      refine XS.icmpYes X9.here hx rfl (pc0 := 190) (pc' := 197) rfl (hb hby at_190) rfl (tlt (by decide : (0 : Int32) < (2 : Int32))).1 (by decide) (by decide) ?_
      show Steps p.tables e below (T9.setTop (mkF m 197 #[.val (.long ya), .second, .val (.long yb), .second, .val (.long yd), .second, .val (.long yl), .second, .val (.long ye), .second, .val (.long yg), .second, .val (.long s0), .second, .val (.long s1), .second, .val (.long yb), .second, .val (.ref b2), .val (.int (0 : Int32)), .val (.int jo), .val (.int (0 : Int32)), .val (.long s0), .second, .val (.long (1 : Int64)), .second, .unset, .unset] [])) _
      refine X9.ldc2Long hx hown (mvT hZ (wd63 hw)) (g := (mkF m 197 #[.val (.long ya), .second, .val (.long yb), .second, .val (.long yd), .second, .val (.long yl), .second, .val (.long ye), .second, .val (.long yg), .second, .val (.long s0), .second, .val (.long s1), .second, .val (.long yb), .second, .val (.ref b2), .val (.int (0 : Int32)), .val (.int jo), .val (.int (0 : Int32)), .val (.long s0), .second, .val (.long (1 : Int64)), .second, .unset, .unset] [])) rfl (hb hby at_197) _ ?_
      refine XS.lstore X9.here hx rfl (hb hby at_200) rfl (l' := #[.val (.long ya), .second, .val (.long yb), .second, .val (.long yd), .second, .val (.long yl), .second, .val (.long ye), .second, .val (.long yg), .second, .val (.long s0), .second, .val (.long s1), .second, .val (.long yb), .second, .val (.ref b2), .val (.int (0 : Int32)), .val (.int jo), .val (.int (0 : Int32)), .val (.long s0), .second, .val (.long (1 : Int64)), .second, .val (.long (2 : Int64)), .second]) rfl ?_
      refine XS.aload X9.here hx rfl (hb hby at_202) rfl rfl ?_
      show Steps p.tables e below (T9.setTop (mkF m 204 #[.val (.long ya), .second, .val (.long yb), .second, .val (.long yd), .second, .val (.long yl), .second, .val (.long ye), .second, .val (.long yg), .second, .val (.long s0), .second, .val (.long s1), .second, .val (.long yb), .second, .val (.ref b2), .val (.int (0 : Int32)), .val (.int jo), .val (.int (0 : Int32)), .val (.long s0), .second, .val (.long (1 : Int64)), .second, .val (.long (2 : Int64)), .second] [(.ref b2)])) _
      refine st18.trans ?_
      show Steps p.tables e below (T18.setTop (mkF m 207 #[.val (.long ya), .second, .val (.long yb), .second, .val (.long yd), .second, .val (.long yl), .second, .val (.long ye), .second, .val (.long yg), .second, .val (.long s0), .second, .val (.long s1), .second, .val (.long yb), .second, .val (.ref b2), .val (.int (0 : Int32)), .val (.int jo), .val (.int (0 : Int32)), .val (.long s0), .second, .val (.long (1 : Int64)), .second, .val (.long (2 : Int64)), .second] [(.long s0)])) _
      refine XS.lload X18.here hx rfl (hb hby at_207) rfl ?_
      refine XS.lcmp X18.here hx rfl (hb hby at_209) rfl ?_
      show Steps p.tables e below (T18.setTop (mkF m 210 #[.val (.long ya), .second, .val (.long yb), .second, .val (.long yd), .second, .val (.long yl), .second, .val (.long ye), .second, .val (.long yg), .second, .val (.long s0), .second, .val (.long s1), .second, .val (.long yb), .second, .val (.ref b2), .val (.int (0 : Int32)), .val (.int jo), .val (.int (0 : Int32)), .val (.long s0), .second, .val (.long (1 : Int64)), .second, .val (.long (2 : Int64)), .second] [(.int (lcmpW s0 s0))])) _
      refine XS.ifNo X18.here hx rfl (hb hby at_210) rfl ((if0 _ _).trans (teq ((lw_eq s0 s0).mpr (rfl : s0 = s0))).2) ?_
      refine XS.aload X18.here hx rfl (hb hby at_213) rfl rfl ?_
      refine XS.lload X18.here hx rfl (hb hby at_215) rfl ?_
      show Steps p.tables e below (T18.setTop (mkF m 217 #[.val (.long ya), .second, .val (.long yb), .second, .val (.long yd), .second, .val (.long yl), .second, .val (.long ye), .second, .val (.long yg), .second, .val (.long s0), .second, .val (.long s1), .second, .val (.long yb), .second, .val (.ref b2), .val (.int (0 : Int32)), .val (.int jo), .val (.int (0 : Int32)), .val (.long s0), .second, .val (.long (1 : Int64)), .second, .val (.long (2 : Int64)), .second] [(.long s0), (.ref b2)])) _
      refine XS.iconst X18.here hx rfl (hb hby at_217) ?_
      show Steps p.tables e below (T18.setTop (mkF m 218 #[.val (.long ya), .second, .val (.long yb), .second, .val (.long yd), .second, .val (.long yl), .second, .val (.long ye), .second, .val (.long yg), .second, .val (.long s0), .second, .val (.long s1), .second, .val (.long yb), .second, .val (.ref b2), .val (.int (0 : Int32)), .val (.int jo), .val (.int (0 : Int32)), .val (.long s0), .second, .val (.long (1 : Int64)), .second, .val (.long (2 : Int64)), .second] [(.int (0 : Int32)), (.long s0), (.ref b2)])) _
      refine st19.trans ?_
      show Steps p.tables e below (T19.setTop (mkF m 221 #[.val (.long ya), .second, .val (.long yb), .second, .val (.long yd), .second, .val (.long yl), .second, .val (.long ye), .second, .val (.long yg), .second, .val (.long s0), .second, .val (.long s1), .second, .val (.long yb), .second, .val (.ref b2), .val (.int (0 : Int32)), .val (.int jo), .val (.int (0 : Int32)), .val (.long s0), .second, .val (.long (1 : Int64)), .second, .val (.long (2 : Int64)), .second] [(.long (1 : Int64))])) _
      refine XS.lload X19.here hx rfl (hb hby at_221) rfl ?_
      show Steps p.tables e below (T19.setTop (mkF m 223 #[.val (.long ya), .second, .val (.long yb), .second, .val (.long yd), .second, .val (.long yl), .second, .val (.long ye), .second, .val (.long yg), .second, .val (.long s0), .second, .val (.long s1), .second, .val (.long yb), .second, .val (.ref b2), .val (.int (0 : Int32)), .val (.int jo), .val (.int (0 : Int32)), .val (.long s0), .second, .val (.long (1 : Int64)), .second, .val (.long (2 : Int64)), .second] [(.long (1 : Int64)), (.long (1 : Int64))])) _
      refine XS.lcmp X19.here hx rfl (hb hby at_223) rfl ?_
      refine XS.ifNo X19.here hx rfl (hb hby at_224) rfl ((if0 _ _).trans (teq ((lw_eq (1 : Int64) (1 : Int64)).mpr (by decide : (1 : Int64) = (1 : Int64)))).2) ?_
      refine XS.aload X19.here hx rfl (hb hby at_227) rfl rfl ?_
      show Steps p.tables e below (T19.setTop (mkF m 229 #[.val (.long ya), .second, .val (.long yb), .second, .val (.long yd), .second, .val (.long yl), .second, .val (.long ye), .second, .val (.long yg), .second, .val (.long s0), .second, .val (.long s1), .second, .val (.long yb), .second, .val (.ref b2), .val (.int (0 : Int32)), .val (.int jo), .val (.int (0 : Int32)), .val (.long s0), .second, .val (.long (1 : Int64)), .second, .val (.long (2 : Int64)), .second] [(.ref b2)])) _
      refine XS.lload X19.here hx rfl (hb hby at_229) rfl ?_
      refine XS.iconst X19.here hx rfl (hb hby at_231) ?_
      show Steps p.tables e below (T19.setTop (mkF m 232 #[.val (.long ya), .second, .val (.long yb), .second, .val (.long yd), .second, .val (.long yl), .second, .val (.long ye), .second, .val (.long yg), .second, .val (.long s0), .second, .val (.long s1), .second, .val (.long yb), .second, .val (.ref b2), .val (.int (0 : Int32)), .val (.int jo), .val (.int (0 : Int32)), .val (.long s0), .second, .val (.long (1 : Int64)), .second, .val (.long (2 : Int64)), .second] [(.int (0 : Int32)), (.long s1), (.ref b2)])) _
      refine st20.trans ?_
      show Steps p.tables e below (T20.setTop (mkF m 235 #[.val (.long ya), .second, .val (.long yb), .second, .val (.long yd), .second, .val (.long yl), .second, .val (.long ye), .second, .val (.long yg), .second, .val (.long s0), .second, .val (.long s1), .second, .val (.long yb), .second, .val (.ref b2), .val (.int (0 : Int32)), .val (.int jo), .val (.int (0 : Int32)), .val (.long s0), .second, .val (.long (1 : Int64)), .second, .val (.long (2 : Int64)), .second] [(.long (2 : Int64))])) _
      refine XS.lload X20.here hx rfl (hb hby at_235) rfl ?_
      refine XS.lcmp X20.here hx rfl (hb hby at_237) rfl ?_
      refine XS.ifNo X20.here hx rfl (hb hby at_238) rfl ((if0 _ _).trans (teq ((lw_eq (2 : Int64) (2 : Int64)).mpr (by decide : (2 : Int64) = (2 : Int64)))).2) ?_
      show Steps p.tables e below (T20.setTop (mkF m 241 #[.val (.long ya), .second, .val (.long yb), .second, .val (.long yd), .second, .val (.long yl), .second, .val (.long ye), .second, .val (.long yg), .second, .val (.long s0), .second, .val (.long s1), .second, .val (.long yb), .second, .val (.ref b2), .val (.int (0 : Int32)), .val (.int jo), .val (.int (0 : Int32)), .val (.long s0), .second, .val (.long (1 : Int64)), .second, .val (.long (2 : Int64)), .second] [])) _
      refine XS.iconst X20.here hx rfl (hb hby at_241) ?_
      refine XS.goto X20.here hx rfl (pc0 := 242) (pc' := 246) rfl (hb hby at_242) (by decide) (by decide) ?_
      show Steps p.tables e below (T20.setTop (mkF m 246 #[.val (.long ya), .second, .val (.long yb), .second, .val (.long yd), .second, .val (.long yl), .second, .val (.long ye), .second, .val (.long yg), .second, .val (.long s0), .second, .val (.long s1), .second, .val (.long yb), .second, .val (.ref b2), .val (.int (0 : Int32)), .val (.int jo), .val (.int (0 : Int32)), .val (.long s0), .second, .val (.long (1 : Int64)), .second, .val (.long (2 : Int64)), .second] [(.int (1 : Int32))])) _
      exact retN X20 hx (t := .boolean) Bd.returns (by simp) (hb hby at_246) lhr
    · skip
      show Q0 Z ya yb yd yl ye yg wn kn h0 n0 _ T20.heap _
      rw [eq20]
      exact ⟨rfl, N20⟩
  · skip
    by_cases hd1 : (ye - yd) < yg
    · skip
      obtain ⟨cq21, kq21, q21a, q21b, q21c⟩ := isOf hZ rfl g7_9
      obtain ⟨_, _, ⟨T21, L21, kc21, ks21⟩, -, X21, ⟨Lc21, hQ21, l21, y21, z21⟩, st21⟩ := X7.virtualBack hx (y := mn4) (z := mn4) hown (mvT hZ (wd64 hw)) (mvT hZ (wd65 hw)) (notFace_of_selects (args := #[]) (mvT hZ (wd67 hw))) (mvT hZ (wd67 hw)) (mvT hZ (wd66 hw)) (by decide) (backOf (W := 0) (rmA36 l Z a0 hw [] b2 yl ye yg b7_0 s0 s1 _ b7_2 yd yb _ T7.heap n0 Z7 g7_4 g7_5 g7_3 g7_10 hd0 g7_8 g7_12 hd1) hZ (wd68 hw) (wd3 hw) (by decide) (by decide)) q21a q21c (g := (mkF m 64 #[.val (.long ya), .second, .val (.long yb), .second, .val (.long yd), .second, .val (.long yl), .second, .val (.long ye), .second, .val (.long yg), .second, .val (.long s0), .second, .val (.long s1), .second, .val (.long yb), .second, .val (.ref b2), .unset, .unset, .unset, .unset, .unset, .unset, .unset, .unset, .unset] [(.long yg), (.long ye), (.long yl), (.ref b2)])) rfl (by rw [hml]; rfl) (Steps.refl _) (argsL := [(.long yl), (.long ye), (.long yg)]) (rest := []) (lenOf pd__JJJ_V rfl) rfl (by show 2 * 0 + _ ≤ _; exact Nat.le_of_eq rfl) (hb hby at_64) (fun _ _ => ⟨rfl, rfl, (by decide : 7 + 0 ≤ _), (by decide : 15 + 0 ≤ _)⟩)
      dsimp only [Pt.U, Pt.locs, Pt.cells, Pt.slots] at X21 l21 y21 z21 st21 hQ21
      subst l21 y21 z21
      obtain ⟨rfl, Nq21, eq21⟩ := hQ21
      have N21 := Fr.app N7 Nq21
      have k22 : ∀ t, Steps p.tables e below (T21.setTop (mkF m 106 #[.val (.long ya), .second, .val (.long yb), .second, .val (.long yd), .second, .val (.long yl), .second, .val (.long ye), .second, .val (.long yg), .second, .val (.long s0), .second, .val (.long s1), .second, .val (.long yb), .second, .val (.ref b2), .val (.int (0 : Int32)), .unset, .unset, .unset, .unset, .unset, .unset, .unset, .unset] [(.int (lcmpW (s1 / (1000000000 : Int64)) yl))])) t → Steps p.tables e below (s₁.setTop (entryFrame m #[(.long ya), (.long yb), (.long yd), (.long yl), (.long ye), (.long yg)] maxLocals)) t := by
        intro t kt
        refine k8 t ?_
        show Steps p.tables e below (T7.setTop (mkF m 64 #[.val (.long ya), .second, .val (.long yb), .second, .val (.long yd), .second, .val (.long yl), .second, .val (.long ye), .second, .val (.long yg), .second, .val (.long s0), .second, .val (.long s1), .second, .val (.long yb), .second, .val (.ref b2), .unset, .unset, .unset, .unset, .unset, .unset, .unset, .unset, .unset] [(.long yg), (.long ye), (.long yl), (.ref b2)])) _
        refine st21.trans ?_
        show Steps p.tables e below (T21.setTop (mkF m 67 #[.val (.long ya), .second, .val (.long yb), .second, .val (.long yd), .second, .val (.long yl), .second, .val (.long ye), .second, .val (.long yg), .second, .val (.long s0), .second, .val (.long s1), .second, .val (.long yb), .second, .val (.ref b2), .unset, .unset, .unset, .unset, .unset, .unset, .unset, .unset, .unset] [])) _
        refine XS.lload X21.here hx rfl (hb hby at_67) rfl ?_
        refine X21.ldc2Long hx hown (mvT hZ (wd70 hw)) (g := (mkF m 69 #[.val (.long ya), .second, .val (.long yb), .second, .val (.long yd), .second, .val (.long yl), .second, .val (.long ye), .second, .val (.long yg), .second, .val (.long s0), .second, .val (.long s1), .second, .val (.long yb), .second, .val (.ref b2), .unset, .unset, .unset, .unset, .unset, .unset, .unset, .unset, .unset] [(.long s0)])) rfl (hb hby at_69) _ ?_
        show Steps p.tables e below (T21.setTop (mkF m 72 #[.val (.long ya), .second, .val (.long yb), .second, .val (.long yd), .second, .val (.long yl), .second, .val (.long ye), .second, .val (.long yg), .second, .val (.long s0), .second, .val (.long s1), .second, .val (.long yb), .second, .val (.ref b2), .unset, .unset, .unset, .unset, .unset, .unset, .unset, .unset, .unset] [(.long (1000000000 : Int64)), (.long s0)])) _
        refine XS.ldiv X21.here hx rfl (hb hby at_72) rfl (by decide) ?_
        refine XS.lload X21.here hx rfl (hb hby at_73) rfl ?_
        refine XS.lcmp X21.here hx rfl (hb hby at_75) rfl ?_
        show Steps p.tables e below (T21.setTop (mkF m 76 #[.val (.long ya), .second, .val (.long yb), .second, .val (.long yd), .second, .val (.long yl), .second, .val (.long ye), .second, .val (.long yg), .second, .val (.long s0), .second, .val (.long s1), .second, .val (.long yb), .second, .val (.ref b2), .unset, .unset, .unset, .unset, .unset, .unset, .unset, .unset, .unset] [(.int (lcmpW (s0 / (1000000000 : Int64)) yl))])) _
        refine XS.ifNo X21.here hx rfl (hb hby at_76) rfl ((if0 _ _).trans (flt (fun q => hd0 ((lw_gt (s0 / (1000000000 : Int64)) yl).mp q))).2.2.1) ?_
        refine XS.lload X21.here hx rfl (hb hby at_79) rfl ?_
        refine XS.lload X21.here hx rfl (hb hby at_81) rfl ?_
        show Steps p.tables e below (T21.setTop (mkF m 83 #[.val (.long ya), .second, .val (.long yb), .second, .val (.long yd), .second, .val (.long yl), .second, .val (.long ye), .second, .val (.long yg), .second, .val (.long s0), .second, .val (.long s1), .second, .val (.long yb), .second, .val (.ref b2), .unset, .unset, .unset, .unset, .unset, .unset, .unset, .unset, .unset] [(.long yd), (.long ye)])) _
        refine XS.lsub X21.here hx rfl (hb hby at_83) rfl ?_
        refine XS.lload X21.here hx rfl (hb hby at_84) rfl ?_
        refine XS.lcmp X21.here hx rfl (hb hby at_86) rfl ?_
        show Steps p.tables e below (T21.setTop (mkF m 87 #[.val (.long ya), .second, .val (.long yb), .second, .val (.long yd), .second, .val (.long yl), .second, .val (.long ye), .second, .val (.long yg), .second, .val (.long s0), .second, .val (.long s1), .second, .val (.long yb), .second, .val (.ref b2), .unset, .unset, .unset, .unset, .unset, .unset, .unset, .unset, .unset] [(.int (lcmpW (ye - yd) yg))])) _
        refine XS.ifYes X21.here hx rfl (pc0 := 87) (pc' := 94) rfl (hb hby at_87) rfl ((if0 _ _).trans (tlt ((lw_lt (ye - yd) yg).mpr hd1)).1) (by decide) (by decide) ?_
        refine XS.iconst X21.here hx rfl (hb hby at_94) ?_
        refine XS.istore X21.here hx rfl (hb hby at_95) rfl (l' := #[.val (.long ya), .second, .val (.long yb), .second, .val (.long yd), .second, .val (.long yl), .second, .val (.long ye), .second, .val (.long yg), .second, .val (.long s0), .second, .val (.long s1), .second, .val (.long yb), .second, .val (.ref b2), .val (.int (0 : Int32)), .unset, .unset, .unset, .unset, .unset, .unset, .unset, .unset]) rfl ?_
        show Steps p.tables e below (T21.setTop (mkF m 97 #[.val (.long ya), .second, .val (.long yb), .second, .val (.long yd), .second, .val (.long yl), .second, .val (.long ye), .second, .val (.long yg), .second, .val (.long s0), .second, .val (.long s1), .second, .val (.long yb), .second, .val (.ref b2), .val (.int (0 : Int32)), .unset, .unset, .unset, .unset, .unset, .unset, .unset, .unset] [])) _
        refine XS.lload X21.here hx rfl (hb hby at_97) rfl ?_
        refine X21.ldc2Long hx hown (mvT hZ (wd70 hw)) (g := (mkF m 99 #[.val (.long ya), .second, .val (.long yb), .second, .val (.long yd), .second, .val (.long yl), .second, .val (.long ye), .second, .val (.long yg), .second, .val (.long s0), .second, .val (.long s1), .second, .val (.long yb), .second, .val (.ref b2), .val (.int (0 : Int32)), .unset, .unset, .unset, .unset, .unset, .unset, .unset, .unset] [(.long s1)])) rfl (hb hby at_99) _ ?_
        refine XS.ldiv X21.here hx rfl (hb hby at_102) rfl (by decide) ?_
        show Steps p.tables e below (T21.setTop (mkF m 103 #[.val (.long ya), .second, .val (.long yb), .second, .val (.long yd), .second, .val (.long yl), .second, .val (.long ye), .second, .val (.long yg), .second, .val (.long s0), .second, .val (.long s1), .second, .val (.long yb), .second, .val (.ref b2), .val (.int (0 : Int32)), .unset, .unset, .unset, .unset, .unset, .unset, .unset, .unset] [(.long (s1 / (1000000000 : Int64)))])) _
        refine XS.lload X21.here hx rfl (hb hby at_103) rfl ?_
        refine XS.lcmp X21.here hx rfl (hb hby at_105) rfl ?_
        exact kt
      obtain ⟨jo, hj23, k23⟩ : ∃ (jo : Int32), (True) ∧ ∀ t, Steps p.tables e below (T21.setTop (mkF m 125 #[.val (.long ya), .second, .val (.long yb), .second, .val (.long yd), .second, .val (.long yl), .second, .val (.long ye), .second, .val (.long yg), .second, .val (.long s0), .second, .val (.long s1), .second, .val (.long yb), .second, .val (.ref b2), .val (.int (0 : Int32)), .unset, .unset, .unset, .unset, .unset, .unset, .unset, .unset] [(.int jo)])) t → Steps p.tables e below (s₁.setTop (entryFrame m #[(.long ya), (.long yb), (.long yd), (.long yl), (.long ye), (.long yg)] maxLocals)) t := by
        by_cases hc24 : yl < (s1 / (1000000000 : Int64))
        · skip
          have k25 : ∀ t, Steps p.tables e below (T21.setTop (mkF m 125 #[.val (.long ya), .second, .val (.long yb), .second, .val (.long yd), .second, .val (.long yl), .second, .val (.long ye), .second, .val (.long yg), .second, .val (.long s0), .second, .val (.long s1), .second, .val (.long yb), .second, .val (.ref b2), .val (.int (0 : Int32)), .unset, .unset, .unset, .unset, .unset, .unset, .unset, .unset] [(.int (0 : Int32))])) t → Steps p.tables e below (s₁.setTop (entryFrame m #[(.long ya), (.long yb), (.long yd), (.long yl), (.long ye), (.long yg)] maxLocals)) t := by
            intro t kt
            refine k22 t ?_
            show Steps p.tables e below (T21.setTop (mkF m 106 #[.val (.long ya), .second, .val (.long yb), .second, .val (.long yd), .second, .val (.long yl), .second, .val (.long ye), .second, .val (.long yg), .second, .val (.long s0), .second, .val (.long s1), .second, .val (.long yb), .second, .val (.ref b2), .val (.int (0 : Int32)), .unset, .unset, .unset, .unset, .unset, .unset, .unset, .unset] [(.int (lcmpW (s1 / (1000000000 : Int64)) yl))])) _
            refine XS.ifYes X21.here hx rfl (pc0 := 106) (pc' := 124) rfl (hb hby at_106) rfl ((if0 _ _).trans (tlt ((lw_gt (s1 / (1000000000 : Int64)) yl).mpr hc24)).2.2.1) (by decide) (by decide) ?_
            show Steps p.tables e below (T21.setTop (mkF m 124 #[.val (.long ya), .second, .val (.long yb), .second, .val (.long yd), .second, .val (.long yl), .second, .val (.long ye), .second, .val (.long yg), .second, .val (.long s0), .second, .val (.long s1), .second, .val (.long yb), .second, .val (.ref b2), .val (.int (0 : Int32)), .unset, .unset, .unset, .unset, .unset, .unset, .unset, .unset] [])) _
            refine XS.iconst X21.here hx rfl (hb hby at_124) ?_
            exact kt
          exact ⟨(0 : Int32), trivial, k25⟩
        · skip
          have k26 : ∀ t, Steps p.tables e below (T21.setTop (mkF m 117 #[.val (.long ya), .second, .val (.long yb), .second, .val (.long yd), .second, .val (.long yl), .second, .val (.long ye), .second, .val (.long yg), .second, .val (.long s0), .second, .val (.long s1), .second, .val (.long yb), .second, .val (.ref b2), .val (.int (0 : Int32)), .unset, .unset, .unset, .unset, .unset, .unset, .unset, .unset] [(.int (lcmpW (ye - yb) yg))])) t → Steps p.tables e below (s₁.setTop (entryFrame m #[(.long ya), (.long yb), (.long yd), (.long yl), (.long ye), (.long yg)] maxLocals)) t := by
            intro t kt
            refine k22 t ?_
            show Steps p.tables e below (T21.setTop (mkF m 106 #[.val (.long ya), .second, .val (.long yb), .second, .val (.long yd), .second, .val (.long yl), .second, .val (.long ye), .second, .val (.long yg), .second, .val (.long s0), .second, .val (.long s1), .second, .val (.long yb), .second, .val (.ref b2), .val (.int (0 : Int32)), .unset, .unset, .unset, .unset, .unset, .unset, .unset, .unset] [(.int (lcmpW (s1 / (1000000000 : Int64)) yl))])) _
            refine XS.ifNo X21.here hx rfl (hb hby at_106) rfl ((if0 _ _).trans (flt (fun q => hc24 ((lw_gt (s1 / (1000000000 : Int64)) yl).mp q))).2.2.1) ?_
            show Steps p.tables e below (T21.setTop (mkF m 109 #[.val (.long ya), .second, .val (.long yb), .second, .val (.long yd), .second, .val (.long yl), .second, .val (.long ye), .second, .val (.long yg), .second, .val (.long s0), .second, .val (.long s1), .second, .val (.long yb), .second, .val (.ref b2), .val (.int (0 : Int32)), .unset, .unset, .unset, .unset, .unset, .unset, .unset, .unset] [])) _
            refine XS.lload X21.here hx rfl (hb hby at_109) rfl ?_
            refine XS.lload X21.here hx rfl (hb hby at_111) rfl ?_
            refine XS.lsub X21.here hx rfl (hb hby at_113) rfl ?_
            show Steps p.tables e below (T21.setTop (mkF m 114 #[.val (.long ya), .second, .val (.long yb), .second, .val (.long yd), .second, .val (.long yl), .second, .val (.long ye), .second, .val (.long yg), .second, .val (.long s0), .second, .val (.long s1), .second, .val (.long yb), .second, .val (.ref b2), .val (.int (0 : Int32)), .unset, .unset, .unset, .unset, .unset, .unset, .unset, .unset] [(.long (ye - yb))])) _
            refine XS.lload X21.here hx rfl (hb hby at_114) rfl ?_
            refine XS.lcmp X21.here hx rfl (hb hby at_116) rfl ?_
            exact kt
          by_cases hc27 : (ye - yb) < yg
          · skip
            have k28 : ∀ t, Steps p.tables e below (T21.setTop (mkF m 125 #[.val (.long ya), .second, .val (.long yb), .second, .val (.long yd), .second, .val (.long yl), .second, .val (.long ye), .second, .val (.long yg), .second, .val (.long s0), .second, .val (.long s1), .second, .val (.long yb), .second, .val (.ref b2), .val (.int (0 : Int32)), .unset, .unset, .unset, .unset, .unset, .unset, .unset, .unset] [(.int (0 : Int32))])) t → Steps p.tables e below (s₁.setTop (entryFrame m #[(.long ya), (.long yb), (.long yd), (.long yl), (.long ye), (.long yg)] maxLocals)) t := by
              intro t kt
              refine k26 t ?_
              show Steps p.tables e below (T21.setTop (mkF m 117 #[.val (.long ya), .second, .val (.long yb), .second, .val (.long yd), .second, .val (.long yl), .second, .val (.long ye), .second, .val (.long yg), .second, .val (.long s0), .second, .val (.long s1), .second, .val (.long yb), .second, .val (.ref b2), .val (.int (0 : Int32)), .unset, .unset, .unset, .unset, .unset, .unset, .unset, .unset] [(.int (lcmpW (ye - yb) yg))])) _
              refine XS.ifYes X21.here hx rfl (pc0 := 117) (pc' := 124) rfl (hb hby at_117) rfl ((if0 _ _).trans (tlt ((lw_lt (ye - yb) yg).mpr hc27)).1) (by decide) (by decide) ?_
              show Steps p.tables e below (T21.setTop (mkF m 124 #[.val (.long ya), .second, .val (.long yb), .second, .val (.long yd), .second, .val (.long yl), .second, .val (.long ye), .second, .val (.long yg), .second, .val (.long s0), .second, .val (.long s1), .second, .val (.long yb), .second, .val (.ref b2), .val (.int (0 : Int32)), .unset, .unset, .unset, .unset, .unset, .unset, .unset, .unset] [])) _
              refine XS.iconst X21.here hx rfl (hb hby at_124) ?_
              exact kt
            exact ⟨(0 : Int32), trivial, k28⟩
          · skip
            have k29 : ∀ t, Steps p.tables e below (T21.setTop (mkF m 125 #[.val (.long ya), .second, .val (.long yb), .second, .val (.long yd), .second, .val (.long yl), .second, .val (.long ye), .second, .val (.long yg), .second, .val (.long s0), .second, .val (.long s1), .second, .val (.long yb), .second, .val (.ref b2), .val (.int (0 : Int32)), .unset, .unset, .unset, .unset, .unset, .unset, .unset, .unset] [(.int (1 : Int32))])) t → Steps p.tables e below (s₁.setTop (entryFrame m #[(.long ya), (.long yb), (.long yd), (.long yl), (.long ye), (.long yg)] maxLocals)) t := by
              intro t kt
              refine k26 t ?_
              show Steps p.tables e below (T21.setTop (mkF m 117 #[.val (.long ya), .second, .val (.long yb), .second, .val (.long yd), .second, .val (.long yl), .second, .val (.long ye), .second, .val (.long yg), .second, .val (.long s0), .second, .val (.long s1), .second, .val (.long yb), .second, .val (.ref b2), .val (.int (0 : Int32)), .unset, .unset, .unset, .unset, .unset, .unset, .unset, .unset] [(.int (lcmpW (ye - yb) yg))])) _
              refine XS.ifNo X21.here hx rfl (hb hby at_117) rfl ((if0 _ _).trans (flt (fun q => hc27 ((lw_lt (ye - yb) yg).mp q))).1) ?_
              show Steps p.tables e below (T21.setTop (mkF m 120 #[.val (.long ya), .second, .val (.long yb), .second, .val (.long yd), .second, .val (.long yl), .second, .val (.long ye), .second, .val (.long yg), .second, .val (.long s0), .second, .val (.long s1), .second, .val (.long yb), .second, .val (.ref b2), .val (.int (0 : Int32)), .unset, .unset, .unset, .unset, .unset, .unset, .unset, .unset] [])) _
              refine XS.iconst X21.here hx rfl (hb hby at_120) ?_
              refine XS.goto X21.here hx rfl (pc0 := 121) (pc' := 125) rfl (hb hby at_121) (by decide) (by decide) ?_
              exact kt
            exact ⟨(1 : Int32), trivial, k29⟩
      obtain ⟨cq30, kq30, q30a, q30b, q30c⟩ := isOf hZ eq21 g7_9
      obtain ⟨_, _, ⟨T30, L30, kc30, ks30⟩, -, X30, ⟨Lc30, hQ30, l30, y30, z30⟩, st30⟩ := X21.virtualBack hx (y := mn3) (z := mn3) hown (mvT hZ (wd71 hw)) (mvT hZ (wd72 hw)) (notFace_of_selects (args := #[]) (mvT hZ (wd74 hw))) (mvT hZ (wd74 hw)) (mvT hZ (wd73 hw)) (by decide) (backOf (W := 0) (rmA27 l Z a0 hw [] b2 b7_0 s0 s1 _ T7.heap n0 Z7 g7_4 g7_5 g7_3 g7_10) hZ (wd75 hw) (wd3 hw) (by decide) (by decide)) q30a q30c (g := (mkF m 204 #[.val (.long ya), .second, .val (.long yb), .second, .val (.long yd), .second, .val (.long yl), .second, .val (.long ye), .second, .val (.long yg), .second, .val (.long s0), .second, .val (.long s1), .second, .val (.long yb), .second, .val (.ref b2), .val (.int (0 : Int32)), .val (.int jo), .val (.int (0 : Int32)), .val (.long s0), .second, .val (.long (1 : Int64)), .second, .val (.long (2 : Int64)), .second] [(.ref b2)])) rfl (by rw [hml]; rfl) (Steps.refl _) (argsL := []) (rest := []) (lenOf pd___J rfl) rfl (by show 2 * 0 + _ ≤ _; exact Nat.le_of_eq rfl) (hb hby at_204) (fun _ _ => ⟨rfl, eq21, (by decide : 7 + 0 ≤ _), (by decide : 15 + 0 ≤ _)⟩)
      dsimp only [Pt.U, Pt.locs, Pt.cells, Pt.slots] at X30 l30 y30 z30 st30 hQ30
      subst l30 y30 z30
      obtain ⟨rfl, Nq30, eq30⟩ := hQ30
      have N30 := Fr.app N21 Nq30
      obtain ⟨cq31, kq31, q31a, q31b, q31c⟩ := isOf hZ eq30 g7_9
      obtain ⟨_, _, ⟨T31, L31, kc31, ks31⟩, -, X31, ⟨Lc31, hQ31, l31, y31, z31⟩, st31⟩ := X30.virtualBack hx (y := mn2) (z := mn2) hown (mvT hZ (wd76 hw)) (mvT hZ (wd77 hw)) (notFace_of_selects (args := #[]) (mvT hZ (wd79 hw))) (mvT hZ (wd79 hw)) (mvT hZ (wd78 hw)) (by decide) (backOf (W := 0) (rmA28 l Z a0 hw [] b2 s0 b7_0 s1 _ b7_1 _ T7.heap n0 Z7 g7_3 g7_4 g7_5 g7_10 g7_6 g7_7 g7_11) hZ (wd80 hw) (wd3 hw) (by decide) (by decide)) q31a q31c (g := (mkF m 218 #[.val (.long ya), .second, .val (.long yb), .second, .val (.long yd), .second, .val (.long yl), .second, .val (.long ye), .second, .val (.long yg), .second, .val (.long s0), .second, .val (.long s1), .second, .val (.long yb), .second, .val (.ref b2), .val (.int (0 : Int32)), .val (.int jo), .val (.int (0 : Int32)), .val (.long s0), .second, .val (.long (1 : Int64)), .second, .val (.long (2 : Int64)), .second] [(.int (0 : Int32)), (.long s0), (.ref b2)])) rfl (by rw [hml]; rfl) (Steps.refl _) (argsL := [(.long s0), (.int (0 : Int32))]) (rest := []) (lenOf pd__JI_J rfl) rfl (by show 2 * 0 + _ ≤ _; exact Nat.le_of_eq rfl) (hb hby at_218) (fun _ _ => ⟨rfl, eq30, (by decide : 7 + 0 ≤ _), (by decide : 15 + 0 ≤ _)⟩)
      dsimp only [Pt.U, Pt.locs, Pt.cells, Pt.slots] at X31 l31 y31 z31 st31 hQ31
      subst l31 y31 z31
      obtain ⟨rfl, Nq31, eq31⟩ := hQ31
      have N31 := Fr.app N30 Nq31
      obtain ⟨cq32, kq32, q32a, q32b, q32c⟩ := isOf hZ eq31 g7_9
      obtain ⟨_, _, ⟨T32, L32, kc32, ks32⟩, -, X32, ⟨Lc32, hQ32, l32, y32, z32⟩, st32⟩ := X31.virtualBack hx (y := mn2) (z := mn2) hown (mvT hZ (wd76 hw)) (mvT hZ (wd77 hw)) (notFace_of_selects (args := #[]) (mvT hZ (wd79 hw))) (mvT hZ (wd79 hw)) (mvT hZ (wd78 hw)) (by decide) (backOf (W := 0) (rmA32 l Z a0 hw [] b2 s1 b7_0 s0 _ b7_1 _ T7.heap n0 Z7 g7_3 g7_4 g7_5 g7_10 hs g7_6 g7_7 g7_11) hZ (wd80 hw) (wd3 hw) (by decide) (by decide)) q32a q32c (g := (mkF m 232 #[.val (.long ya), .second, .val (.long yb), .second, .val (.long yd), .second, .val (.long yl), .second, .val (.long ye), .second, .val (.long yg), .second, .val (.long s0), .second, .val (.long s1), .second, .val (.long yb), .second, .val (.ref b2), .val (.int (0 : Int32)), .val (.int jo), .val (.int (0 : Int32)), .val (.long s0), .second, .val (.long (1 : Int64)), .second, .val (.long (2 : Int64)), .second] [(.int (0 : Int32)), (.long s1), (.ref b2)])) rfl (by rw [hml]; rfl) (Steps.refl _) (argsL := [(.long s1), (.int (0 : Int32))]) (rest := []) (lenOf pd__JI_J rfl) rfl (by show 2 * 0 + _ ≤ _; exact Nat.le_of_eq rfl) (hb hby at_232) (fun _ _ => ⟨rfl, eq31, (by decide : 7 + 0 ≤ _), (by decide : 15 + 0 ≤ _)⟩)
      dsimp only [Pt.U, Pt.locs, Pt.cells, Pt.slots] at X32 l32 y32 z32 st32 hQ32
      subst l32 y32 z32
      obtain ⟨rfl, Nq32, eq32⟩ := hQ32
      have N32 := Fr.app N31 Nq32
      obtain ⟨lfs, lhr, lhrun, lhended, lhW, lhsame⟩ := X32.leave (v := some (.int (1 : Int32))) (fun h => by rw [Bd.returns] at h; cases h)
      refine ⟨_, _, k23 _ ?_, lhrun, lhended, _, _, rfl, ?_, ⟨_, rfl⟩, lhW, lhsame.mono (by decide) (by decide)⟩
      · skip
        show Steps p.tables e below (T21.setTop (mkF m 125 #[.val (.long ya), .second, .val (.long yb), .second, .val (.long yd), .second, .val (.long yl), .second, .val (.long ye), .second, .val (.long yg), .second, .val (.long s0), .second, .val (.long s1), .second, .val (.long yb), .second, .val (.ref b2), .val (.int (0 : Int32)), .unset, .unset, .unset, .unset, .unset, .unset, .unset, .unset] [(.int jo)])) _
        refine XS.istore X21.here hx rfl (hb hby at_125) rfl (l' := #[.val (.long ya), .second, .val (.long yb), .second, .val (.long yd), .second, .val (.long yl), .second, .val (.long ye), .second, .val (.long yg), .second, .val (.long s0), .second, .val (.long s1), .second, .val (.long yb), .second, .val (.ref b2), .val (.int (0 : Int32)), .val (.int jo), .unset, .unset, .unset, .unset, .unset, .unset, .unset]) rfl ?_
        show Steps p.tables e below (T21.setTop (mkF m 127 #[.val (.long ya), .second, .val (.long yb), .second, .val (.long yd), .second, .val (.long yl), .second, .val (.long ye), .second, .val (.long yg), .second, .val (.long s0), .second, .val (.long s1), .second, .val (.long yb), .second, .val (.ref b2), .val (.int (0 : Int32)), .val (.int jo), .unset, .unset, .unset, .unset, .unset, .unset, .unset] [])) _
        refine XS.iload X21.here hx rfl (hb hby at_127) rfl ?_
        refine XS.ifNo X21.here hx rfl (hb hby at_129) rfl ((if0 _ _).trans (teq (by decide : (0 : Int32) = (0 : Int32))).2) ?_
        refine XS.iconst X21.here hx rfl (hb hby at_132) ?_
        show Steps p.tables e below (T21.setTop (mkF m 133 #[.val (.long ya), .second, .val (.long yb), .second, .val (.long yd), .second, .val (.long yl), .second, .val (.long ye), .second, .val (.long yg), .second, .val (.long s0), .second, .val (.long s1), .second, .val (.long yb), .second, .val (.ref b2), .val (.int (0 : Int32)), .val (.int jo), .unset, .unset, .unset, .unset, .unset, .unset, .unset] [(.int (0 : Int32))])) _
        refine XS.goto X21.here hx rfl (pc0 := 133) (pc' := 146) rfl (hb hby at_133) (by decide) (by decide) ?_
        refine XS.istore X21.here hx rfl (hb hby at_146) rfl (l' := #[.val (.long ya), .second, .val (.long yb), .second, .val (.long yd), .second, .val (.long yl), .second, .val (.long ye), .second, .val (.long yg), .second, .val (.long s0), .second, .val (.long s1), .second, .val (.long yb), .second, .val (.ref b2), .val (.int (0 : Int32)), .val (.int jo), .val (.int (0 : Int32)), .unset, .unset, .unset, .unset, .unset, .unset]) rfl ?_
        refine XS.iload X21.here hx rfl (hb hby at_148) rfl ?_
        show Steps p.tables e below (T21.setTop (mkF m 150 #[.val (.long ya), .second, .val (.long yb), .second, .val (.long yd), .second, .val (.long yl), .second, .val (.long ye), .second, .val (.long yg), .second, .val (.long s0), .second, .val (.long s1), .second, .val (.long yb), .second, .val (.ref b2), .val (.int (0 : Int32)), .val (.int jo), .val (.int (0 : Int32)), .unset, .unset, .unset, .unset, .unset, .unset] [(.int (0 : Int32))])) _
        refine XS.ifNo X21.here hx rfl (hb hby at_150) rfl ((if0 _ _).trans (teq (by decide : (0 : Int32) = (0 : Int32))).2) ?_
        refine XS.lload X21.here hx rfl (hb hby at_153) rfl ?_
        refine XS.goto X21.here hx rfl (pc0 := 155) (pc' := 172) rfl (hb hby at_155) (by decide) (by decide) ?_
        show Steps p.tables e below (T21.setTop (mkF m 172 #[.val (.long ya), .second, .val (.long yb), .second, .val (.long yd), .second, .val (.long yl), .second, .val (.long ye), .second, .val (.long yg), .second, .val (.long s0), .second, .val (.long s1), .second, .val (.long yb), .second, .val (.ref b2), .val (.int (0 : Int32)), .val (.int jo), .val (.int (0 : Int32)), .unset, .unset, .unset, .unset, .unset, .unset] [(.long s0)])) _
        refine XS.lstore X21.here hx rfl (hb hby at_172) rfl (l' := #[.val (.long ya), .second, .val (.long yb), .second, .val (.long yd), .second, .val (.long yl), .second, .val (.long ye), .second, .val (.long yg), .second, .val (.long s0), .second, .val (.long s1), .second, .val (.long yb), .second, .val (.ref b2), .val (.int (0 : Int32)), .val (.int jo), .val (.int (0 : Int32)), .val (.long s0), .second, .unset, .unset, .unset, .unset]) rfl ?_
        refine XS.iload X21.here hx rfl (hb hby at_174) rfl ?_
        refine XS.iconst X21.here hx rfl (hb hby at_176) ?_
        show Steps p.tables e below (T21.setTop (mkF m 177 #[.val (.long ya), .second, .val (.long yb), .second, .val (.long yd), .second, .val (.long yl), .second, .val (.long ye), .second, .val (.long yg), .second, .val (.long s0), .second, .val (.long s1), .second, .val (.long yb), .second, .val (.ref b2), .val (.int (0 : Int32)), .val (.int jo), .val (.int (0 : Int32)), .val (.long s0), .second, .unset, .unset, .unset, .unset] [(.int (1 : Int32)), (.int (0 : Int32))])) _
        refine XS.icmpYes X21.here hx rfl (pc0 := 177) (pc' := 184) rfl (hb hby at_177) rfl (tlt (by decide : (0 : Int32) < (1 : Int32))).1 (by decide) (by decide) ?_
        refine XS.lconst X21.here hx rfl (hb hby at_184) ?_
        refine XS.lstore X21.here hx rfl (hb hby at_185) rfl (l' := #[.val (.long ya), .second, .val (.long yb), .second, .val (.long yd), .second, .val (.long yl), .second, .val (.long ye), .second, .val (.long yg), .second, .val (.long s0), .second, .val (.long s1), .second, .val (.long yb), .second, .val (.ref b2), .val (.int (0 : Int32)), .val (.int jo), .val (.int (0 : Int32)), .val (.long s0), .second, .val (.long (1 : Int64)), .second, .unset, .unset]) rfl ?_
        show Steps p.tables e below (T21.setTop (mkF m 187 #[.val (.long ya), .second, .val (.long yb), .second, .val (.long yd), .second, .val (.long yl), .second, .val (.long ye), .second, .val (.long yg), .second, .val (.long s0), .second, .val (.long s1), .second, .val (.long yb), .second, .val (.ref b2), .val (.int (0 : Int32)), .val (.int jo), .val (.int (0 : Int32)), .val (.long s0), .second, .val (.long (1 : Int64)), .second, .unset, .unset] [])) _
        refine XS.iload X21.here hx rfl (hb hby at_187) rfl ?_
        refine XS.iconst X21.here hx rfl (hb hby at_189) ?_
        refine XS.icmpYes X21.here hx rfl (pc0 := 190) (pc' := 197) rfl (hb hby at_190) rfl (tlt (by decide : (0 : Int32) < (2 : Int32))).1 (by decide) (by decide) ?_
        show Steps p.tables e below (T21.setTop (mkF m 197 #[.val (.long ya), .second, .val (.long yb), .second, .val (.long yd), .second, .val (.long yl), .second, .val (.long ye), .second, .val (.long yg), .second, .val (.long s0), .second, .val (.long s1), .second, .val (.long yb), .second, .val (.ref b2), .val (.int (0 : Int32)), .val (.int jo), .val (.int (0 : Int32)), .val (.long s0), .second, .val (.long (1 : Int64)), .second, .unset, .unset] [])) _
        refine X21.ldc2Long hx hown (mvT hZ (wd63 hw)) (g := (mkF m 197 #[.val (.long ya), .second, .val (.long yb), .second, .val (.long yd), .second, .val (.long yl), .second, .val (.long ye), .second, .val (.long yg), .second, .val (.long s0), .second, .val (.long s1), .second, .val (.long yb), .second, .val (.ref b2), .val (.int (0 : Int32)), .val (.int jo), .val (.int (0 : Int32)), .val (.long s0), .second, .val (.long (1 : Int64)), .second, .unset, .unset] [])) rfl (hb hby at_197) _ ?_
        refine XS.lstore X21.here hx rfl (hb hby at_200) rfl (l' := #[.val (.long ya), .second, .val (.long yb), .second, .val (.long yd), .second, .val (.long yl), .second, .val (.long ye), .second, .val (.long yg), .second, .val (.long s0), .second, .val (.long s1), .second, .val (.long yb), .second, .val (.ref b2), .val (.int (0 : Int32)), .val (.int jo), .val (.int (0 : Int32)), .val (.long s0), .second, .val (.long (1 : Int64)), .second, .val (.long (2 : Int64)), .second]) rfl ?_
        refine XS.aload X21.here hx rfl (hb hby at_202) rfl rfl ?_
        show Steps p.tables e below (T21.setTop (mkF m 204 #[.val (.long ya), .second, .val (.long yb), .second, .val (.long yd), .second, .val (.long yl), .second, .val (.long ye), .second, .val (.long yg), .second, .val (.long s0), .second, .val (.long s1), .second, .val (.long yb), .second, .val (.ref b2), .val (.int (0 : Int32)), .val (.int jo), .val (.int (0 : Int32)), .val (.long s0), .second, .val (.long (1 : Int64)), .second, .val (.long (2 : Int64)), .second] [(.ref b2)])) _
        refine st30.trans ?_
        show Steps p.tables e below (T30.setTop (mkF m 207 #[.val (.long ya), .second, .val (.long yb), .second, .val (.long yd), .second, .val (.long yl), .second, .val (.long ye), .second, .val (.long yg), .second, .val (.long s0), .second, .val (.long s1), .second, .val (.long yb), .second, .val (.ref b2), .val (.int (0 : Int32)), .val (.int jo), .val (.int (0 : Int32)), .val (.long s0), .second, .val (.long (1 : Int64)), .second, .val (.long (2 : Int64)), .second] [(.long s0)])) _
        refine XS.lload X30.here hx rfl (hb hby at_207) rfl ?_
        refine XS.lcmp X30.here hx rfl (hb hby at_209) rfl ?_
        show Steps p.tables e below (T30.setTop (mkF m 210 #[.val (.long ya), .second, .val (.long yb), .second, .val (.long yd), .second, .val (.long yl), .second, .val (.long ye), .second, .val (.long yg), .second, .val (.long s0), .second, .val (.long s1), .second, .val (.long yb), .second, .val (.ref b2), .val (.int (0 : Int32)), .val (.int jo), .val (.int (0 : Int32)), .val (.long s0), .second, .val (.long (1 : Int64)), .second, .val (.long (2 : Int64)), .second] [(.int (lcmpW s0 s0))])) _
        refine XS.ifNo X30.here hx rfl (hb hby at_210) rfl ((if0 _ _).trans (teq ((lw_eq s0 s0).mpr (rfl : s0 = s0))).2) ?_
        refine XS.aload X30.here hx rfl (hb hby at_213) rfl rfl ?_
        refine XS.lload X30.here hx rfl (hb hby at_215) rfl ?_
        show Steps p.tables e below (T30.setTop (mkF m 217 #[.val (.long ya), .second, .val (.long yb), .second, .val (.long yd), .second, .val (.long yl), .second, .val (.long ye), .second, .val (.long yg), .second, .val (.long s0), .second, .val (.long s1), .second, .val (.long yb), .second, .val (.ref b2), .val (.int (0 : Int32)), .val (.int jo), .val (.int (0 : Int32)), .val (.long s0), .second, .val (.long (1 : Int64)), .second, .val (.long (2 : Int64)), .second] [(.long s0), (.ref b2)])) _
        refine XS.iconst X30.here hx rfl (hb hby at_217) ?_
        show Steps p.tables e below (T30.setTop (mkF m 218 #[.val (.long ya), .second, .val (.long yb), .second, .val (.long yd), .second, .val (.long yl), .second, .val (.long ye), .second, .val (.long yg), .second, .val (.long s0), .second, .val (.long s1), .second, .val (.long yb), .second, .val (.ref b2), .val (.int (0 : Int32)), .val (.int jo), .val (.int (0 : Int32)), .val (.long s0), .second, .val (.long (1 : Int64)), .second, .val (.long (2 : Int64)), .second] [(.int (0 : Int32)), (.long s0), (.ref b2)])) _
        refine st31.trans ?_
        show Steps p.tables e below (T31.setTop (mkF m 221 #[.val (.long ya), .second, .val (.long yb), .second, .val (.long yd), .second, .val (.long yl), .second, .val (.long ye), .second, .val (.long yg), .second, .val (.long s0), .second, .val (.long s1), .second, .val (.long yb), .second, .val (.ref b2), .val (.int (0 : Int32)), .val (.int jo), .val (.int (0 : Int32)), .val (.long s0), .second, .val (.long (1 : Int64)), .second, .val (.long (2 : Int64)), .second] [(.long (1 : Int64))])) _
        refine XS.lload X31.here hx rfl (hb hby at_221) rfl ?_
        show Steps p.tables e below (T31.setTop (mkF m 223 #[.val (.long ya), .second, .val (.long yb), .second, .val (.long yd), .second, .val (.long yl), .second, .val (.long ye), .second, .val (.long yg), .second, .val (.long s0), .second, .val (.long s1), .second, .val (.long yb), .second, .val (.ref b2), .val (.int (0 : Int32)), .val (.int jo), .val (.int (0 : Int32)), .val (.long s0), .second, .val (.long (1 : Int64)), .second, .val (.long (2 : Int64)), .second] [(.long (1 : Int64)), (.long (1 : Int64))])) _
        refine XS.lcmp X31.here hx rfl (hb hby at_223) rfl ?_
        refine XS.ifNo X31.here hx rfl (hb hby at_224) rfl ((if0 _ _).trans (teq ((lw_eq (1 : Int64) (1 : Int64)).mpr (by decide : (1 : Int64) = (1 : Int64)))).2) ?_
        refine XS.aload X31.here hx rfl (hb hby at_227) rfl rfl ?_
        show Steps p.tables e below (T31.setTop (mkF m 229 #[.val (.long ya), .second, .val (.long yb), .second, .val (.long yd), .second, .val (.long yl), .second, .val (.long ye), .second, .val (.long yg), .second, .val (.long s0), .second, .val (.long s1), .second, .val (.long yb), .second, .val (.ref b2), .val (.int (0 : Int32)), .val (.int jo), .val (.int (0 : Int32)), .val (.long s0), .second, .val (.long (1 : Int64)), .second, .val (.long (2 : Int64)), .second] [(.ref b2)])) _
        refine XS.lload X31.here hx rfl (hb hby at_229) rfl ?_
        refine XS.iconst X31.here hx rfl (hb hby at_231) ?_
        show Steps p.tables e below (T31.setTop (mkF m 232 #[.val (.long ya), .second, .val (.long yb), .second, .val (.long yd), .second, .val (.long yl), .second, .val (.long ye), .second, .val (.long yg), .second, .val (.long s0), .second, .val (.long s1), .second, .val (.long yb), .second, .val (.ref b2), .val (.int (0 : Int32)), .val (.int jo), .val (.int (0 : Int32)), .val (.long s0), .second, .val (.long (1 : Int64)), .second, .val (.long (2 : Int64)), .second] [(.int (0 : Int32)), (.long s1), (.ref b2)])) _
        refine st32.trans ?_
        show Steps p.tables e below (T32.setTop (mkF m 235 #[.val (.long ya), .second, .val (.long yb), .second, .val (.long yd), .second, .val (.long yl), .second, .val (.long ye), .second, .val (.long yg), .second, .val (.long s0), .second, .val (.long s1), .second, .val (.long yb), .second, .val (.ref b2), .val (.int (0 : Int32)), .val (.int jo), .val (.int (0 : Int32)), .val (.long s0), .second, .val (.long (1 : Int64)), .second, .val (.long (2 : Int64)), .second] [(.long (2 : Int64))])) _
        refine XS.lload X32.here hx rfl (hb hby at_235) rfl ?_
        refine XS.lcmp X32.here hx rfl (hb hby at_237) rfl ?_
        refine XS.ifNo X32.here hx rfl (hb hby at_238) rfl ((if0 _ _).trans (teq ((lw_eq (2 : Int64) (2 : Int64)).mpr (by decide : (2 : Int64) = (2 : Int64)))).2) ?_
        show Steps p.tables e below (T32.setTop (mkF m 241 #[.val (.long ya), .second, .val (.long yb), .second, .val (.long yd), .second, .val (.long yl), .second, .val (.long ye), .second, .val (.long yg), .second, .val (.long s0), .second, .val (.long s1), .second, .val (.long yb), .second, .val (.ref b2), .val (.int (0 : Int32)), .val (.int jo), .val (.int (0 : Int32)), .val (.long s0), .second, .val (.long (1 : Int64)), .second, .val (.long (2 : Int64)), .second] [])) _
        refine XS.iconst X32.here hx rfl (hb hby at_241) ?_
        refine XS.goto X32.here hx rfl (pc0 := 242) (pc' := 246) rfl (hb hby at_242) (by decide) (by decide) ?_
        show Steps p.tables e below (T32.setTop (mkF m 246 #[.val (.long ya), .second, .val (.long yb), .second, .val (.long yd), .second, .val (.long yl), .second, .val (.long ye), .second, .val (.long yg), .second, .val (.long s0), .second, .val (.long s1), .second, .val (.long yb), .second, .val (.ref b2), .val (.int (0 : Int32)), .val (.int jo), .val (.int (0 : Int32)), .val (.long s0), .second, .val (.long (1 : Int64)), .second, .val (.long (2 : Int64)), .second] [(.int (1 : Int32))])) _
        exact retN X32 hx (t := .boolean) Bd.returns (by simp) (hb hby at_246) lhr
      · skip
        show Q0 Z ya yb yd yl ye yg wn kn h0 n0 _ T32.heap _
        rw [eq32]
        exact ⟨rfl, N32⟩
    · skip
      by_cases hd2 : yl < (s1 / (1000000000 : Int64))
      · skip
        obtain ⟨cq33, kq33, q33a, q33b, q33c⟩ := isOf hZ rfl g7_9
        obtain ⟨_, _, ⟨T33, L33, kc33, ks33⟩, -, X33, ⟨Lc33, hQ33, l33, y33, z33⟩, st33⟩ := X7.virtualBack hx (y := mn4) (z := mn4) hown (mvT hZ (wd64 hw)) (mvT hZ (wd65 hw)) (notFace_of_selects (args := #[]) (mvT hZ (wd67 hw))) (mvT hZ (wd67 hw)) (mvT hZ (wd66 hw)) (by decide) (backOf (W := 0) (rmA46 l Z a0 hw [] b2 yl ye yg b7_0 s0 s1 _ b7_2 yd yb _ ((.ref b7_1)) ((.int (1 : Int32))) T7.heap n0 Z7 g7_4 g7_5 g7_3 g7_10 hd0 g7_8 g7_12 hd1 g7_9 ge_b2 (Ne.symm ne_b2_b7_0) hd2 g7_6 g7_7) hZ (wd68 hw) (wd3 hw) (by decide) (by decide)) q33a q33c (g := (mkF m 64 #[.val (.long ya), .second, .val (.long yb), .second, .val (.long yd), .second, .val (.long yl), .second, .val (.long ye), .second, .val (.long yg), .second, .val (.long s0), .second, .val (.long s1), .second, .val (.long yb), .second, .val (.ref b2), .unset, .unset, .unset, .unset, .unset, .unset, .unset, .unset, .unset] [(.long yg), (.long ye), (.long yl), (.ref b2)])) rfl (by rw [hml]; rfl) (Steps.refl _) (argsL := [(.long yl), (.long ye), (.long yg)]) (rest := []) (lenOf pd__JJJ_V rfl) rfl (by show 2 * 0 + _ ≤ _; exact Nat.le_of_eq rfl) (hb hby at_64) (fun _ _ => ⟨rfl, rfl, (by decide : 7 + 0 ≤ _), (by decide : 15 + 0 ≤ _)⟩)
        dsimp only [Pt.U, Pt.locs, Pt.cells, Pt.slots] at X33 l33 y33 z33 st33 hQ33
        subst l33 y33 z33
        obtain ⟨rfl, Nq33, Kq33, g33_0, g33_1, g33_2, g33_3, g33_4, g33_5, g33_6⟩ := hQ33
        have N33 := Fr.app N7 Nq33
        have Z33 : n0 ≤ T33.heap.size := Nat.le_trans Z7 Kq33.1
        have K33 : Keep h0 T33.heap [] := Keep.trans K7 Kq33 (allS (Or.inr sz_b2) all0)
        have f34 := (g7_10.keep Kq33 (ninS (Ne.symm ne_b2_b7_0) nin0))
        obtain ⟨cq35, kq35, q35a, q35b, q35c⟩ := isOf hZ rfl g33_4
        obtain ⟨_, _, ⟨T35, L35, kc35, ks35⟩, -, X35, ⟨Lc35, hQ35, l35, y35, z35⟩, st35⟩ := X33.virtualBack hx (y := mn3) (z := mn3) hown (mvT hZ (wd71 hw)) (mvT hZ (wd72 hw)) (notFace_of_selects (args := #[]) (mvT hZ (wd74 hw))) (mvT hZ (wd74 hw)) (mvT hZ (wd73 hw)) (by decide) (backOf (W := 0) (rmA47 l Z a0 hw [] b2 b7_0 s0 s1 _ T33.heap n0 Z33 g33_0 g33_1 g33_2 f34) hZ (wd75 hw) (wd3 hw) (by decide) (by decide)) q35a q35c (g := (mkF m 204 #[.val (.long ya), .second, .val (.long yb), .second, .val (.long yd), .second, .val (.long yl), .second, .val (.long ye), .second, .val (.long yg), .second, .val (.long s0), .second, .val (.long s1), .second, .val (.long yb), .second, .val (.ref b2), .val (.int (1 : Int32)), .val (.int (0 : Int32)), .val (.int (1 : Int32)), .val (.long s1), .second, .val (.long (0 : Int64)), .second, .val (.long (2 : Int64)), .second] [(.ref b2)])) rfl (by rw [hml]; rfl) (Steps.refl _) (argsL := []) (rest := []) (lenOf pd___J rfl) rfl (by show 2 * 0 + _ ≤ _; exact Nat.le_of_eq rfl) (hb hby at_204) (fun _ _ => ⟨rfl, rfl, (by decide : 7 + 0 ≤ _), (by decide : 15 + 0 ≤ _)⟩)
        dsimp only [Pt.U, Pt.locs, Pt.cells, Pt.slots] at X35 l35 y35 z35 st35 hQ35
        subst l35 y35 z35
        obtain ⟨rfl, Nq35, eq35⟩ := hQ35
        have N35 := Fr.app N33 Nq35
        obtain ⟨cq36, kq36, q36a, q36b, q36c⟩ := isOf hZ eq35 g33_4
        obtain ⟨_, _, ⟨T36, L36, kc36, ks36⟩, -, X36, ⟨Lc36, hQ36, l36, y36, z36⟩, st36⟩ := X35.virtualBack hx (y := mn2) (z := mn2) hown (mvT hZ (wd76 hw)) (mvT hZ (wd77 hw)) (notFace_of_selects (args := #[]) (mvT hZ (wd79 hw))) (mvT hZ (wd79 hw)) (mvT hZ (wd78 hw)) (by decide) (backOf (W := 0) (rmA48 l Z a0 hw [] b2 s0 b7_0 s1 _ T33.heap n0 Z33 g33_2 g33_0 g33_1 f34 hs2 hs) hZ (wd80 hw) (wd3 hw) (by decide) (by decide)) q36a q36c (g := (mkF m 218 #[.val (.long ya), .second, .val (.long yb), .second, .val (.long yd), .second, .val (.long yl), .second, .val (.long ye), .second, .val (.long yg), .second, .val (.long s0), .second, .val (.long s1), .second, .val (.long yb), .second, .val (.ref b2), .val (.int (1 : Int32)), .val (.int (0 : Int32)), .val (.int (1 : Int32)), .val (.long s1), .second, .val (.long (0 : Int64)), .second, .val (.long (2 : Int64)), .second] [(.int (0 : Int32)), (.long s0), (.ref b2)])) rfl (by rw [hml]; rfl) (Steps.refl _) (argsL := [(.long s0), (.int (0 : Int32))]) (rest := []) (lenOf pd__JI_J rfl) rfl (by show 2 * 0 + _ ≤ _; exact Nat.le_of_eq rfl) (hb hby at_218) (fun _ _ => ⟨rfl, eq35, (by decide : 7 + 0 ≤ _), (by decide : 15 + 0 ≤ _)⟩)
        dsimp only [Pt.U, Pt.locs, Pt.cells, Pt.slots] at X36 l36 y36 z36 st36 hQ36
        subst l36 y36 z36
        obtain ⟨rfl, Nq36, eq36⟩ := hQ36
        have N36 := Fr.app N35 Nq36
        have f37 := (g7_11.keep Kq33 (ninS (Ne.symm ne_b2_b7_1) nin0))
        obtain ⟨cq38, kq38, q38a, q38b, q38c⟩ := isOf hZ eq36 g33_4
        obtain ⟨_, _, ⟨T38, L38, kc38, ks38⟩, -, X38, ⟨Lc38, hQ38, l38, y38, z38⟩, st38⟩ := X36.virtualBack hx (y := mn2) (z := mn2) hown (mvT hZ (wd76 hw)) (mvT hZ (wd77 hw)) (notFace_of_selects (args := #[]) (mvT hZ (wd79 hw))) (mvT hZ (wd79 hw)) (mvT hZ (wd78 hw)) (by decide) (backOf (W := 0) (rmA52 l Z a0 hw [] b2 s1 b7_0 s0 _ b7_1 _ T33.heap n0 Z33 g33_2 g33_0 g33_1 f34 g33_5 g33_6 f37) hZ (wd80 hw) (wd3 hw) (by decide) (by decide)) q38a q38c (g := (mkF m 232 #[.val (.long ya), .second, .val (.long yb), .second, .val (.long yd), .second, .val (.long yl), .second, .val (.long ye), .second, .val (.long yg), .second, .val (.long s0), .second, .val (.long s1), .second, .val (.long yb), .second, .val (.ref b2), .val (.int (1 : Int32)), .val (.int (0 : Int32)), .val (.int (1 : Int32)), .val (.long s1), .second, .val (.long (0 : Int64)), .second, .val (.long (2 : Int64)), .second] [(.int (0 : Int32)), (.long s1), (.ref b2)])) rfl (by rw [hml]; rfl) (Steps.refl _) (argsL := [(.long s1), (.int (0 : Int32))]) (rest := []) (lenOf pd__JI_J rfl) rfl (by show 2 * 0 + _ ≤ _; exact Nat.le_of_eq rfl) (hb hby at_232) (fun _ _ => ⟨rfl, eq36, (by decide : 7 + 0 ≤ _), (by decide : 15 + 0 ≤ _)⟩)
        dsimp only [Pt.U, Pt.locs, Pt.cells, Pt.slots] at X38 l38 y38 z38 st38 hQ38
        subst l38 y38 z38
        obtain ⟨rfl, Nq38, eq38⟩ := hQ38
        have N38 := Fr.app N36 Nq38
        obtain ⟨lfs, lhr, lhrun, lhended, lhW, lhsame⟩ := X38.leave (v := some (.int (1 : Int32))) (fun h => by rw [Bd.returns] at h; cases h)
        refine ⟨_, _, k8 _ ?_, lhrun, lhended, _, _, rfl, ?_, ⟨_, rfl⟩, lhW, lhsame.mono (by decide) (by decide)⟩
        · skip
          show Steps p.tables e below (T7.setTop (mkF m 64 #[.val (.long ya), .second, .val (.long yb), .second, .val (.long yd), .second, .val (.long yl), .second, .val (.long ye), .second, .val (.long yg), .second, .val (.long s0), .second, .val (.long s1), .second, .val (.long yb), .second, .val (.ref b2), .unset, .unset, .unset, .unset, .unset, .unset, .unset, .unset, .unset] [(.long yg), (.long ye), (.long yl), (.ref b2)])) _
          refine st33.trans ?_
          show Steps p.tables e below (T33.setTop (mkF m 67 #[.val (.long ya), .second, .val (.long yb), .second, .val (.long yd), .second, .val (.long yl), .second, .val (.long ye), .second, .val (.long yg), .second, .val (.long s0), .second, .val (.long s1), .second, .val (.long yb), .second, .val (.ref b2), .unset, .unset, .unset, .unset, .unset, .unset, .unset, .unset, .unset] [])) _
          refine XS.lload X33.here hx rfl (hb hby at_67) rfl ?_
          refine X33.ldc2Long hx hown (mvT hZ (wd70 hw)) (g := (mkF m 69 #[.val (.long ya), .second, .val (.long yb), .second, .val (.long yd), .second, .val (.long yl), .second, .val (.long ye), .second, .val (.long yg), .second, .val (.long s0), .second, .val (.long s1), .second, .val (.long yb), .second, .val (.ref b2), .unset, .unset, .unset, .unset, .unset, .unset, .unset, .unset, .unset] [(.long s0)])) rfl (hb hby at_69) _ ?_
          show Steps p.tables e below (T33.setTop (mkF m 72 #[.val (.long ya), .second, .val (.long yb), .second, .val (.long yd), .second, .val (.long yl), .second, .val (.long ye), .second, .val (.long yg), .second, .val (.long s0), .second, .val (.long s1), .second, .val (.long yb), .second, .val (.ref b2), .unset, .unset, .unset, .unset, .unset, .unset, .unset, .unset, .unset] [(.long (1000000000 : Int64)), (.long s0)])) _
          refine XS.ldiv X33.here hx rfl (hb hby at_72) rfl (by decide) ?_
          refine XS.lload X33.here hx rfl (hb hby at_73) rfl ?_
          refine XS.lcmp X33.here hx rfl (hb hby at_75) rfl ?_
          show Steps p.tables e below (T33.setTop (mkF m 76 #[.val (.long ya), .second, .val (.long yb), .second, .val (.long yd), .second, .val (.long yl), .second, .val (.long ye), .second, .val (.long yg), .second, .val (.long s0), .second, .val (.long s1), .second, .val (.long yb), .second, .val (.ref b2), .unset, .unset, .unset, .unset, .unset, .unset, .unset, .unset, .unset] [(.int (lcmpW (s0 / (1000000000 : Int64)) yl))])) _
          refine XS.ifNo X33.here hx rfl (hb hby at_76) rfl ((if0 _ _).trans (flt (fun q => hd0 ((lw_gt (s0 / (1000000000 : Int64)) yl).mp q))).2.2.1) ?_
          refine XS.lload X33.here hx rfl (hb hby at_79) rfl ?_
          refine XS.lload X33.here hx rfl (hb hby at_81) rfl ?_
          show Steps p.tables e below (T33.setTop (mkF m 83 #[.val (.long ya), .second, .val (.long yb), .second, .val (.long yd), .second, .val (.long yl), .second, .val (.long ye), .second, .val (.long yg), .second, .val (.long s0), .second, .val (.long s1), .second, .val (.long yb), .second, .val (.ref b2), .unset, .unset, .unset, .unset, .unset, .unset, .unset, .unset, .unset] [(.long yd), (.long ye)])) _
          refine XS.lsub X33.here hx rfl (hb hby at_83) rfl ?_
          refine XS.lload X33.here hx rfl (hb hby at_84) rfl ?_
          refine XS.lcmp X33.here hx rfl (hb hby at_86) rfl ?_
          show Steps p.tables e below (T33.setTop (mkF m 87 #[.val (.long ya), .second, .val (.long yb), .second, .val (.long yd), .second, .val (.long yl), .second, .val (.long ye), .second, .val (.long yg), .second, .val (.long s0), .second, .val (.long s1), .second, .val (.long yb), .second, .val (.ref b2), .unset, .unset, .unset, .unset, .unset, .unset, .unset, .unset, .unset] [(.int (lcmpW (ye - yd) yg))])) _
          refine XS.ifNo X33.here hx rfl (hb hby at_87) rfl ((if0 _ _).trans (flt (fun q => hd1 ((lw_lt (ye - yd) yg).mp q))).1) ?_
          refine XS.iconst X33.here hx rfl (hb hby at_90) ?_
          refine XS.goto X33.here hx rfl (pc0 := 91) (pc' := 95) rfl (hb hby at_91) (by decide) (by decide) ?_
          show Steps p.tables e below (T33.setTop (mkF m 95 #[.val (.long ya), .second, .val (.long yb), .second, .val (.long yd), .second, .val (.long yl), .second, .val (.long ye), .second, .val (.long yg), .second, .val (.long s0), .second, .val (.long s1), .second, .val (.long yb), .second, .val (.ref b2), .unset, .unset, .unset, .unset, .unset, .unset, .unset, .unset, .unset] [(.int (1 : Int32))])) _
          refine XS.istore X33.here hx rfl (hb hby at_95) rfl (l' := #[.val (.long ya), .second, .val (.long yb), .second, .val (.long yd), .second, .val (.long yl), .second, .val (.long ye), .second, .val (.long yg), .second, .val (.long s0), .second, .val (.long s1), .second, .val (.long yb), .second, .val (.ref b2), .val (.int (1 : Int32)), .unset, .unset, .unset, .unset, .unset, .unset, .unset, .unset]) rfl ?_
          refine XS.lload X33.here hx rfl (hb hby at_97) rfl ?_
          refine X33.ldc2Long hx hown (mvT hZ (wd70 hw)) (g := (mkF m 99 #[.val (.long ya), .second, .val (.long yb), .second, .val (.long yd), .second, .val (.long yl), .second, .val (.long ye), .second, .val (.long yg), .second, .val (.long s0), .second, .val (.long s1), .second, .val (.long yb), .second, .val (.ref b2), .val (.int (1 : Int32)), .unset, .unset, .unset, .unset, .unset, .unset, .unset, .unset] [(.long s1)])) rfl (hb hby at_99) _ ?_
          show Steps p.tables e below (T33.setTop (mkF m 102 #[.val (.long ya), .second, .val (.long yb), .second, .val (.long yd), .second, .val (.long yl), .second, .val (.long ye), .second, .val (.long yg), .second, .val (.long s0), .second, .val (.long s1), .second, .val (.long yb), .second, .val (.ref b2), .val (.int (1 : Int32)), .unset, .unset, .unset, .unset, .unset, .unset, .unset, .unset] [(.long (1000000000 : Int64)), (.long s1)])) _
          refine XS.ldiv X33.here hx rfl (hb hby at_102) rfl (by decide) ?_
          refine XS.lload X33.here hx rfl (hb hby at_103) rfl ?_
          refine XS.lcmp X33.here hx rfl (hb hby at_105) rfl ?_
          show Steps p.tables e below (T33.setTop (mkF m 106 #[.val (.long ya), .second, .val (.long yb), .second, .val (.long yd), .second, .val (.long yl), .second, .val (.long ye), .second, .val (.long yg), .second, .val (.long s0), .second, .val (.long s1), .second, .val (.long yb), .second, .val (.ref b2), .val (.int (1 : Int32)), .unset, .unset, .unset, .unset, .unset, .unset, .unset, .unset] [(.int (lcmpW (s1 / (1000000000 : Int64)) yl))])) _
          refine XS.ifYes X33.here hx rfl (pc0 := 106) (pc' := 124) rfl (hb hby at_106) rfl ((if0 _ _).trans (tlt ((lw_gt (s1 / (1000000000 : Int64)) yl).mpr hd2)).2.2.1) (by decide) (by decide) ?_
          refine XS.iconst X33.here hx rfl (hb hby at_124) ?_
          refine XS.istore X33.here hx rfl (hb hby at_125) rfl (l' := #[.val (.long ya), .second, .val (.long yb), .second, .val (.long yd), .second, .val (.long yl), .second, .val (.long ye), .second, .val (.long yg), .second, .val (.long s0), .second, .val (.long s1), .second, .val (.long yb), .second, .val (.ref b2), .val (.int (1 : Int32)), .val (.int (0 : Int32)), .unset, .unset, .unset, .unset, .unset, .unset, .unset]) rfl ?_
          show Steps p.tables e below (T33.setTop (mkF m 127 #[.val (.long ya), .second, .val (.long yb), .second, .val (.long yd), .second, .val (.long yl), .second, .val (.long ye), .second, .val (.long yg), .second, .val (.long s0), .second, .val (.long s1), .second, .val (.long yb), .second, .val (.ref b2), .val (.int (1 : Int32)), .val (.int (0 : Int32)), .unset, .unset, .unset, .unset, .unset, .unset, .unset] [])) _
          refine XS.iload X33.here hx rfl (hb hby at_127) rfl ?_
          refine XS.ifYes X33.here hx rfl (pc0 := 129) (pc' := 136) rfl (hb hby at_129) rfl ((if0 _ _).trans (feq (by decide : ¬ ((1 : Int32) = (0 : Int32)))).2) (by decide) (by decide) ?_
          refine XS.iload X33.here hx rfl (hb hby at_136) rfl ?_
          show Steps p.tables e below (T33.setTop (mkF m 138 #[.val (.long ya), .second, .val (.long yb), .second, .val (.long yd), .second, .val (.long yl), .second, .val (.long ye), .second, .val (.long yg), .second, .val (.long s0), .second, .val (.long s1), .second, .val (.long yb), .second, .val (.ref b2), .val (.int (1 : Int32)), .val (.int (0 : Int32)), .unset, .unset, .unset, .unset, .unset, .unset, .unset] [(.int (0 : Int32))])) _
          refine XS.ifNo X33.here hx rfl (hb hby at_138) rfl ((if0 _ _).trans (teq (by decide : (0 : Int32) = (0 : Int32))).2) ?_
          refine XS.iconst X33.here hx rfl (hb hby at_141) ?_
          refine XS.goto X33.here hx rfl (pc0 := 142) (pc' := 146) rfl (hb hby at_142) (by decide) (by decide) ?_
          show Steps p.tables e below (T33.setTop (mkF m 146 #[.val (.long ya), .second, .val (.long yb), .second, .val (.long yd), .second, .val (.long yl), .second, .val (.long ye), .second, .val (.long yg), .second, .val (.long s0), .second, .val (.long s1), .second, .val (.long yb), .second, .val (.ref b2), .val (.int (1 : Int32)), .val (.int (0 : Int32)), .unset, .unset, .unset, .unset, .unset, .unset, .unset] [(.int (1 : Int32))])) _
          refine XS.istore X33.here hx rfl (hb hby at_146) rfl (l' := #[.val (.long ya), .second, .val (.long yb), .second, .val (.long yd), .second, .val (.long yl), .second, .val (.long ye), .second, .val (.long yg), .second, .val (.long s0), .second, .val (.long s1), .second, .val (.long yb), .second, .val (.ref b2), .val (.int (1 : Int32)), .val (.int (0 : Int32)), .val (.int (1 : Int32)), .unset, .unset, .unset, .unset, .unset, .unset]) rfl ?_
          refine XS.iload X33.here hx rfl (hb hby at_148) rfl ?_
          refine XS.ifYes X33.here hx rfl (pc0 := 150) (pc' := 158) rfl (hb hby at_150) rfl ((if0 _ _).trans (feq (by decide : ¬ ((1 : Int32) = (0 : Int32)))).2) (by decide) (by decide) ?_
          show Steps p.tables e below (T33.setTop (mkF m 158 #[.val (.long ya), .second, .val (.long yb), .second, .val (.long yd), .second, .val (.long yl), .second, .val (.long ye), .second, .val (.long yg), .second, .val (.long s0), .second, .val (.long s1), .second, .val (.long yb), .second, .val (.ref b2), .val (.int (1 : Int32)), .val (.int (0 : Int32)), .val (.int (1 : Int32)), .unset, .unset, .unset, .unset, .unset, .unset] [])) _
          refine XS.iload X33.here hx rfl (hb hby at_158) rfl ?_
          refine XS.iconst X33.here hx rfl (hb hby at_160) ?_
          refine XS.icmpNo X33.here hx rfl (hb hby at_161) rfl (teq (by decide : (1 : Int32) = (1 : Int32))).2 ?_
          show Steps p.tables e below (T33.setTop (mkF m 164 #[.val (.long ya), .second, .val (.long yb), .second, .val (.long yd), .second, .val (.long yl), .second, .val (.long ye), .second, .val (.long yg), .second, .val (.long s0), .second, .val (.long s1), .second, .val (.long yb), .second, .val (.ref b2), .val (.int (1 : Int32)), .val (.int (0 : Int32)), .val (.int (1 : Int32)), .unset, .unset, .unset, .unset, .unset, .unset] [])) _
          refine XS.lload X33.here hx rfl (hb hby at_164) rfl ?_
          refine XS.goto X33.here hx rfl (pc0 := 166) (pc' := 172) rfl (hb hby at_166) (by decide) (by decide) ?_
          refine XS.lstore X33.here hx rfl (hb hby at_172) rfl (l' := #[.val (.long ya), .second, .val (.long yb), .second, .val (.long yd), .second, .val (.long yl), .second, .val (.long ye), .second, .val (.long yg), .second, .val (.long s0), .second, .val (.long s1), .second, .val (.long yb), .second, .val (.ref b2), .val (.int (1 : Int32)), .val (.int (0 : Int32)), .val (.int (1 : Int32)), .val (.long s1), .second, .unset, .unset, .unset, .unset]) rfl ?_
          show Steps p.tables e below (T33.setTop (mkF m 174 #[.val (.long ya), .second, .val (.long yb), .second, .val (.long yd), .second, .val (.long yl), .second, .val (.long ye), .second, .val (.long yg), .second, .val (.long s0), .second, .val (.long s1), .second, .val (.long yb), .second, .val (.ref b2), .val (.int (1 : Int32)), .val (.int (0 : Int32)), .val (.int (1 : Int32)), .val (.long s1), .second, .unset, .unset, .unset, .unset] [])) _
          refine XS.iload X33.here hx rfl (hb hby at_174) rfl ?_
          refine XS.iconst X33.here hx rfl (hb hby at_176) ?_
          refine XS.icmpNo X33.here hx rfl (hb hby at_177) rfl (flt (by decide : ¬ ((1 : Int32) < (1 : Int32)))).1 ?_
          show Steps p.tables e below (T33.setTop (mkF m 180 #[.val (.long ya), .second, .val (.long yb), .second, .val (.long yd), .second, .val (.long yl), .second, .val (.long ye), .second, .val (.long yg), .second, .val (.long s0), .second, .val (.long s1), .second, .val (.long yb), .second, .val (.ref b2), .val (.int (1 : Int32)), .val (.int (0 : Int32)), .val (.int (1 : Int32)), .val (.long s1), .second, .unset, .unset, .unset, .unset] [])) _
          refine XS.lconst X33.here hx rfl (hb hby at_180) ?_
          refine XS.goto X33.here hx rfl (pc0 := 181) (pc' := 185) rfl (hb hby at_181) (by decide) (by decide) ?_
          refine XS.lstore X33.here hx rfl (hb hby at_185) rfl (l' := #[.val (.long ya), .second, .val (.long yb), .second, .val (.long yd), .second, .val (.long yl), .second, .val (.long ye), .second, .val (.long yg), .second, .val (.long s0), .second, .val (.long s1), .second, .val (.long yb), .second, .val (.ref b2), .val (.int (1 : Int32)), .val (.int (0 : Int32)), .val (.int (1 : Int32)), .val (.long s1), .second, .val (.long (0 : Int64)), .second, .unset, .unset]) rfl ?_
          show Steps p.tables e below (T33.setTop (mkF m 187 #[.val (.long ya), .second, .val (.long yb), .second, .val (.long yd), .second, .val (.long yl), .second, .val (.long ye), .second, .val (.long yg), .second, .val (.long s0), .second, .val (.long s1), .second, .val (.long yb), .second, .val (.ref b2), .val (.int (1 : Int32)), .val (.int (0 : Int32)), .val (.int (1 : Int32)), .val (.long s1), .second, .val (.long (0 : Int64)), .second, .unset, .unset] [])) _
          refine XS.iload X33.here hx rfl (hb hby at_187) rfl ?_
          refine XS.iconst X33.here hx rfl (hb hby at_189) ?_
          refine XS.icmpYes X33.here hx rfl (pc0 := 190) (pc' := 197) rfl (hb hby at_190) rfl (tlt (by decide : (1 : Int32) < (2 : Int32))).1 (by decide) (by decide) ?_
          show Steps p.tables e below (T33.setTop (mkF m 197 #[.val (.long ya), .second, .val (.long yb), .second, .val (.long yd), .second, .val (.long yl), .second, .val (.long ye), .second, .val (.long yg), .second, .val (.long s0), .second, .val (.long s1), .second, .val (.long yb), .second, .val (.ref b2), .val (.int (1 : Int32)), .val (.int (0 : Int32)), .val (.int (1 : Int32)), .val (.long s1), .second, .val (.long (0 : Int64)), .second, .unset, .unset] [])) _
          refine X33.ldc2Long hx hown (mvT hZ (wd63 hw)) (g := (mkF m 197 #[.val (.long ya), .second, .val (.long yb), .second, .val (.long yd), .second, .val (.long yl), .second, .val (.long ye), .second, .val (.long yg), .second, .val (.long s0), .second, .val (.long s1), .second, .val (.long yb), .second, .val (.ref b2), .val (.int (1 : Int32)), .val (.int (0 : Int32)), .val (.int (1 : Int32)), .val (.long s1), .second, .val (.long (0 : Int64)), .second, .unset, .unset] [])) rfl (hb hby at_197) _ ?_
          refine XS.lstore X33.here hx rfl (hb hby at_200) rfl (l' := #[.val (.long ya), .second, .val (.long yb), .second, .val (.long yd), .second, .val (.long yl), .second, .val (.long ye), .second, .val (.long yg), .second, .val (.long s0), .second, .val (.long s1), .second, .val (.long yb), .second, .val (.ref b2), .val (.int (1 : Int32)), .val (.int (0 : Int32)), .val (.int (1 : Int32)), .val (.long s1), .second, .val (.long (0 : Int64)), .second, .val (.long (2 : Int64)), .second]) rfl ?_
          refine XS.aload X33.here hx rfl (hb hby at_202) rfl rfl ?_
          show Steps p.tables e below (T33.setTop (mkF m 204 #[.val (.long ya), .second, .val (.long yb), .second, .val (.long yd), .second, .val (.long yl), .second, .val (.long ye), .second, .val (.long yg), .second, .val (.long s0), .second, .val (.long s1), .second, .val (.long yb), .second, .val (.ref b2), .val (.int (1 : Int32)), .val (.int (0 : Int32)), .val (.int (1 : Int32)), .val (.long s1), .second, .val (.long (0 : Int64)), .second, .val (.long (2 : Int64)), .second] [(.ref b2)])) _
          refine st35.trans ?_
          show Steps p.tables e below (T35.setTop (mkF m 207 #[.val (.long ya), .second, .val (.long yb), .second, .val (.long yd), .second, .val (.long yl), .second, .val (.long ye), .second, .val (.long yg), .second, .val (.long s0), .second, .val (.long s1), .second, .val (.long yb), .second, .val (.ref b2), .val (.int (1 : Int32)), .val (.int (0 : Int32)), .val (.int (1 : Int32)), .val (.long s1), .second, .val (.long (0 : Int64)), .second, .val (.long (2 : Int64)), .second] [(.long s1)])) _
          refine XS.lload X35.here hx rfl (hb hby at_207) rfl ?_
          refine XS.lcmp X35.here hx rfl (hb hby at_209) rfl ?_
          show Steps p.tables e below (T35.setTop (mkF m 210 #[.val (.long ya), .second, .val (.long yb), .second, .val (.long yd), .second, .val (.long yl), .second, .val (.long ye), .second, .val (.long yg), .second, .val (.long s0), .second, .val (.long s1), .second, .val (.long yb), .second, .val (.ref b2), .val (.int (1 : Int32)), .val (.int (0 : Int32)), .val (.int (1 : Int32)), .val (.long s1), .second, .val (.long (0 : Int64)), .second, .val (.long (2 : Int64)), .second] [(.int (lcmpW s1 s1))])) _
          refine XS.ifNo X35.here hx rfl (hb hby at_210) rfl ((if0 _ _).trans (teq ((lw_eq s1 s1).mpr (rfl : s1 = s1))).2) ?_
          refine XS.aload X35.here hx rfl (hb hby at_213) rfl rfl ?_
          refine XS.lload X35.here hx rfl (hb hby at_215) rfl ?_
          show Steps p.tables e below (T35.setTop (mkF m 217 #[.val (.long ya), .second, .val (.long yb), .second, .val (.long yd), .second, .val (.long yl), .second, .val (.long ye), .second, .val (.long yg), .second, .val (.long s0), .second, .val (.long s1), .second, .val (.long yb), .second, .val (.ref b2), .val (.int (1 : Int32)), .val (.int (0 : Int32)), .val (.int (1 : Int32)), .val (.long s1), .second, .val (.long (0 : Int64)), .second, .val (.long (2 : Int64)), .second] [(.long s0), (.ref b2)])) _
          refine XS.iconst X35.here hx rfl (hb hby at_217) ?_
          show Steps p.tables e below (T35.setTop (mkF m 218 #[.val (.long ya), .second, .val (.long yb), .second, .val (.long yd), .second, .val (.long yl), .second, .val (.long ye), .second, .val (.long yg), .second, .val (.long s0), .second, .val (.long s1), .second, .val (.long yb), .second, .val (.ref b2), .val (.int (1 : Int32)), .val (.int (0 : Int32)), .val (.int (1 : Int32)), .val (.long s1), .second, .val (.long (0 : Int64)), .second, .val (.long (2 : Int64)), .second] [(.int (0 : Int32)), (.long s0), (.ref b2)])) _
          refine st36.trans ?_
          show Steps p.tables e below (T36.setTop (mkF m 221 #[.val (.long ya), .second, .val (.long yb), .second, .val (.long yd), .second, .val (.long yl), .second, .val (.long ye), .second, .val (.long yg), .second, .val (.long s0), .second, .val (.long s1), .second, .val (.long yb), .second, .val (.ref b2), .val (.int (1 : Int32)), .val (.int (0 : Int32)), .val (.int (1 : Int32)), .val (.long s1), .second, .val (.long (0 : Int64)), .second, .val (.long (2 : Int64)), .second] [(.long (0 : Int64))])) _
          refine XS.lload X36.here hx rfl (hb hby at_221) rfl ?_
          show Steps p.tables e below (T36.setTop (mkF m 223 #[.val (.long ya), .second, .val (.long yb), .second, .val (.long yd), .second, .val (.long yl), .second, .val (.long ye), .second, .val (.long yg), .second, .val (.long s0), .second, .val (.long s1), .second, .val (.long yb), .second, .val (.ref b2), .val (.int (1 : Int32)), .val (.int (0 : Int32)), .val (.int (1 : Int32)), .val (.long s1), .second, .val (.long (0 : Int64)), .second, .val (.long (2 : Int64)), .second] [(.long (0 : Int64)), (.long (0 : Int64))])) _
          refine XS.lcmp X36.here hx rfl (hb hby at_223) rfl ?_
          refine XS.ifNo X36.here hx rfl (hb hby at_224) rfl ((if0 _ _).trans (teq ((lw_eq (0 : Int64) (0 : Int64)).mpr (by decide : (0 : Int64) = (0 : Int64)))).2) ?_
          refine XS.aload X36.here hx rfl (hb hby at_227) rfl rfl ?_
          show Steps p.tables e below (T36.setTop (mkF m 229 #[.val (.long ya), .second, .val (.long yb), .second, .val (.long yd), .second, .val (.long yl), .second, .val (.long ye), .second, .val (.long yg), .second, .val (.long s0), .second, .val (.long s1), .second, .val (.long yb), .second, .val (.ref b2), .val (.int (1 : Int32)), .val (.int (0 : Int32)), .val (.int (1 : Int32)), .val (.long s1), .second, .val (.long (0 : Int64)), .second, .val (.long (2 : Int64)), .second] [(.ref b2)])) _
          refine XS.lload X36.here hx rfl (hb hby at_229) rfl ?_
          refine XS.iconst X36.here hx rfl (hb hby at_231) ?_
          show Steps p.tables e below (T36.setTop (mkF m 232 #[.val (.long ya), .second, .val (.long yb), .second, .val (.long yd), .second, .val (.long yl), .second, .val (.long ye), .second, .val (.long yg), .second, .val (.long s0), .second, .val (.long s1), .second, .val (.long yb), .second, .val (.ref b2), .val (.int (1 : Int32)), .val (.int (0 : Int32)), .val (.int (1 : Int32)), .val (.long s1), .second, .val (.long (0 : Int64)), .second, .val (.long (2 : Int64)), .second] [(.int (0 : Int32)), (.long s1), (.ref b2)])) _
          refine st38.trans ?_
          show Steps p.tables e below (T38.setTop (mkF m 235 #[.val (.long ya), .second, .val (.long yb), .second, .val (.long yd), .second, .val (.long yl), .second, .val (.long ye), .second, .val (.long yg), .second, .val (.long s0), .second, .val (.long s1), .second, .val (.long yb), .second, .val (.ref b2), .val (.int (1 : Int32)), .val (.int (0 : Int32)), .val (.int (1 : Int32)), .val (.long s1), .second, .val (.long (0 : Int64)), .second, .val (.long (2 : Int64)), .second] [(.long (2 : Int64))])) _
          refine XS.lload X38.here hx rfl (hb hby at_235) rfl ?_
          refine XS.lcmp X38.here hx rfl (hb hby at_237) rfl ?_
          refine XS.ifNo X38.here hx rfl (hb hby at_238) rfl ((if0 _ _).trans (teq ((lw_eq (2 : Int64) (2 : Int64)).mpr (by decide : (2 : Int64) = (2 : Int64)))).2) ?_
          show Steps p.tables e below (T38.setTop (mkF m 241 #[.val (.long ya), .second, .val (.long yb), .second, .val (.long yd), .second, .val (.long yl), .second, .val (.long ye), .second, .val (.long yg), .second, .val (.long s0), .second, .val (.long s1), .second, .val (.long yb), .second, .val (.ref b2), .val (.int (1 : Int32)), .val (.int (0 : Int32)), .val (.int (1 : Int32)), .val (.long s1), .second, .val (.long (0 : Int64)), .second, .val (.long (2 : Int64)), .second] [])) _
          refine XS.iconst X38.here hx rfl (hb hby at_241) ?_
          refine XS.goto X38.here hx rfl (pc0 := 242) (pc' := 246) rfl (hb hby at_242) (by decide) (by decide) ?_
          show Steps p.tables e below (T38.setTop (mkF m 246 #[.val (.long ya), .second, .val (.long yb), .second, .val (.long yd), .second, .val (.long yl), .second, .val (.long ye), .second, .val (.long yg), .second, .val (.long s0), .second, .val (.long s1), .second, .val (.long yb), .second, .val (.ref b2), .val (.int (1 : Int32)), .val (.int (0 : Int32)), .val (.int (1 : Int32)), .val (.long s1), .second, .val (.long (0 : Int64)), .second, .val (.long (2 : Int64)), .second] [(.int (1 : Int32))])) _
          exact retN X38 hx (t := .boolean) Bd.returns (by simp) (hb hby at_246) lhr
        · skip
          show Q0 Z ya yb yd yl ye yg wn kn h0 n0 _ T38.heap _
          rw [eq38]
          exact ⟨rfl, N38⟩
      · skip
        by_cases hd3 : (ye - yb) < yg
        · skip
          obtain ⟨cq39, kq39, q39a, q39b, q39c⟩ := isOf hZ rfl g7_9
          obtain ⟨_, _, ⟨T39, L39, kc39, ks39⟩, -, X39, ⟨Lc39, hQ39, l39, y39, z39⟩, st39⟩ := X7.virtualBack hx (y := mn4) (z := mn4) hown (mvT hZ (wd64 hw)) (mvT hZ (wd65 hw)) (notFace_of_selects (args := #[]) (mvT hZ (wd67 hw))) (mvT hZ (wd67 hw)) (mvT hZ (wd66 hw)) (by decide) (backOf (W := 0) (rmA56 l Z a0 hw [] b2 yl ye yg b7_0 s0 s1 _ b7_2 yd yb _ ((.ref b7_1)) ((.int (1 : Int32))) T7.heap n0 Z7 g7_4 g7_5 g7_3 g7_10 hd0 g7_8 g7_12 hd1 g7_9 ge_b2 (Ne.symm ne_b2_b7_0) hd2 (Ne.symm ne_b2_b7_2) hd3 g7_6 g7_7) hZ (wd68 hw) (wd3 hw) (by decide) (by decide)) q39a q39c (g := (mkF m 64 #[.val (.long ya), .second, .val (.long yb), .second, .val (.long yd), .second, .val (.long yl), .second, .val (.long ye), .second, .val (.long yg), .second, .val (.long s0), .second, .val (.long s1), .second, .val (.long yb), .second, .val (.ref b2), .unset, .unset, .unset, .unset, .unset, .unset, .unset, .unset, .unset] [(.long yg), (.long ye), (.long yl), (.ref b2)])) rfl (by rw [hml]; rfl) (Steps.refl _) (argsL := [(.long yl), (.long ye), (.long yg)]) (rest := []) (lenOf pd__JJJ_V rfl) rfl (by show 2 * 0 + _ ≤ _; exact Nat.le_of_eq rfl) (hb hby at_64) (fun _ _ => ⟨rfl, rfl, (by decide : 7 + 0 ≤ _), (by decide : 15 + 0 ≤ _)⟩)
          dsimp only [Pt.U, Pt.locs, Pt.cells, Pt.slots] at X39 l39 y39 z39 st39 hQ39
          subst l39 y39 z39
          obtain ⟨rfl, Nq39, Kq39, g39_0, g39_1, g39_2, g39_3, g39_4, g39_5, g39_6⟩ := hQ39
          have N39 := Fr.app N7 Nq39
          have Z39 : n0 ≤ T39.heap.size := Nat.le_trans Z7 Kq39.1
          have K39 : Keep h0 T39.heap [] := Keep.trans K7 Kq39 (allS (Or.inr sz_b2) all0)
          have f40 := (g7_10.keep Kq39 (ninS (Ne.symm ne_b2_b7_0) nin0))
          obtain ⟨cq41, kq41, q41a, q41b, q41c⟩ := isOf hZ rfl g39_4
          obtain ⟨_, _, ⟨T41, L41, kc41, ks41⟩, -, X41, ⟨Lc41, hQ41, l41, y41, z41⟩, st41⟩ := X39.virtualBack hx (y := mn3) (z := mn3) hown (mvT hZ (wd71 hw)) (mvT hZ (wd72 hw)) (notFace_of_selects (args := #[]) (mvT hZ (wd74 hw))) (mvT hZ (wd74 hw)) (mvT hZ (wd73 hw)) (by decide) (backOf (W := 0) (rmA47 l Z a0 hw [] b2 b7_0 s0 s1 _ T39.heap n0 Z39 g39_0 g39_1 g39_2 f40) hZ (wd75 hw) (wd3 hw) (by decide) (by decide)) q41a q41c (g := (mkF m 204 #[.val (.long ya), .second, .val (.long yb), .second, .val (.long yd), .second, .val (.long yl), .second, .val (.long ye), .second, .val (.long yg), .second, .val (.long s0), .second, .val (.long s1), .second, .val (.long yb), .second, .val (.ref b2), .val (.int (1 : Int32)), .val (.int (0 : Int32)), .val (.int (1 : Int32)), .val (.long s1), .second, .val (.long (0 : Int64)), .second, .val (.long (2 : Int64)), .second] [(.ref b2)])) rfl (by rw [hml]; rfl) (Steps.refl _) (argsL := []) (rest := []) (lenOf pd___J rfl) rfl (by show 2 * 0 + _ ≤ _; exact Nat.le_of_eq rfl) (hb hby at_204) (fun _ _ => ⟨rfl, rfl, (by decide : 7 + 0 ≤ _), (by decide : 15 + 0 ≤ _)⟩)
          dsimp only [Pt.U, Pt.locs, Pt.cells, Pt.slots] at X41 l41 y41 z41 st41 hQ41
          subst l41 y41 z41
          obtain ⟨rfl, Nq41, eq41⟩ := hQ41
          have N41 := Fr.app N39 Nq41
          obtain ⟨cq42, kq42, q42a, q42b, q42c⟩ := isOf hZ eq41 g39_4
          obtain ⟨_, _, ⟨T42, L42, kc42, ks42⟩, -, X42, ⟨Lc42, hQ42, l42, y42, z42⟩, st42⟩ := X41.virtualBack hx (y := mn2) (z := mn2) hown (mvT hZ (wd76 hw)) (mvT hZ (wd77 hw)) (notFace_of_selects (args := #[]) (mvT hZ (wd79 hw))) (mvT hZ (wd79 hw)) (mvT hZ (wd78 hw)) (by decide) (backOf (W := 0) (rmA48 l Z a0 hw [] b2 s0 b7_0 s1 _ T39.heap n0 Z39 g39_2 g39_0 g39_1 f40 hs2 hs) hZ (wd80 hw) (wd3 hw) (by decide) (by decide)) q42a q42c (g := (mkF m 218 #[.val (.long ya), .second, .val (.long yb), .second, .val (.long yd), .second, .val (.long yl), .second, .val (.long ye), .second, .val (.long yg), .second, .val (.long s0), .second, .val (.long s1), .second, .val (.long yb), .second, .val (.ref b2), .val (.int (1 : Int32)), .val (.int (0 : Int32)), .val (.int (1 : Int32)), .val (.long s1), .second, .val (.long (0 : Int64)), .second, .val (.long (2 : Int64)), .second] [(.int (0 : Int32)), (.long s0), (.ref b2)])) rfl (by rw [hml]; rfl) (Steps.refl _) (argsL := [(.long s0), (.int (0 : Int32))]) (rest := []) (lenOf pd__JI_J rfl) rfl (by show 2 * 0 + _ ≤ _; exact Nat.le_of_eq rfl) (hb hby at_218) (fun _ _ => ⟨rfl, eq41, (by decide : 7 + 0 ≤ _), (by decide : 15 + 0 ≤ _)⟩)
          dsimp only [Pt.U, Pt.locs, Pt.cells, Pt.slots] at X42 l42 y42 z42 st42 hQ42
          subst l42 y42 z42
          obtain ⟨rfl, Nq42, eq42⟩ := hQ42
          have N42 := Fr.app N41 Nq42
          have f43 := (g7_11.keep Kq39 (ninS (Ne.symm ne_b2_b7_1) nin0))
          obtain ⟨cq44, kq44, q44a, q44b, q44c⟩ := isOf hZ eq42 g39_4
          obtain ⟨_, _, ⟨T44, L44, kc44, ks44⟩, -, X44, ⟨Lc44, hQ44, l44, y44, z44⟩, st44⟩ := X42.virtualBack hx (y := mn2) (z := mn2) hown (mvT hZ (wd76 hw)) (mvT hZ (wd77 hw)) (notFace_of_selects (args := #[]) (mvT hZ (wd79 hw))) (mvT hZ (wd79 hw)) (mvT hZ (wd78 hw)) (by decide) (backOf (W := 0) (rmA52 l Z a0 hw [] b2 s1 b7_0 s0 _ b7_1 _ T39.heap n0 Z39 g39_2 g39_0 g39_1 f40 g39_5 g39_6 f43) hZ (wd80 hw) (wd3 hw) (by decide) (by decide)) q44a q44c (g := (mkF m 232 #[.val (.long ya), .second, .val (.long yb), .second, .val (.long yd), .second, .val (.long yl), .second, .val (.long ye), .second, .val (.long yg), .second, .val (.long s0), .second, .val (.long s1), .second, .val (.long yb), .second, .val (.ref b2), .val (.int (1 : Int32)), .val (.int (0 : Int32)), .val (.int (1 : Int32)), .val (.long s1), .second, .val (.long (0 : Int64)), .second, .val (.long (2 : Int64)), .second] [(.int (0 : Int32)), (.long s1), (.ref b2)])) rfl (by rw [hml]; rfl) (Steps.refl _) (argsL := [(.long s1), (.int (0 : Int32))]) (rest := []) (lenOf pd__JI_J rfl) rfl (by show 2 * 0 + _ ≤ _; exact Nat.le_of_eq rfl) (hb hby at_232) (fun _ _ => ⟨rfl, eq42, (by decide : 7 + 0 ≤ _), (by decide : 15 + 0 ≤ _)⟩)
          dsimp only [Pt.U, Pt.locs, Pt.cells, Pt.slots] at X44 l44 y44 z44 st44 hQ44
          subst l44 y44 z44
          obtain ⟨rfl, Nq44, eq44⟩ := hQ44
          have N44 := Fr.app N42 Nq44
          obtain ⟨lfs, lhr, lhrun, lhended, lhW, lhsame⟩ := X44.leave (v := some (.int (1 : Int32))) (fun h => by rw [Bd.returns] at h; cases h)
          refine ⟨_, _, k8 _ ?_, lhrun, lhended, _, _, rfl, ?_, ⟨_, rfl⟩, lhW, lhsame.mono (by decide) (by decide)⟩
          · skip
            show Steps p.tables e below (T7.setTop (mkF m 64 #[.val (.long ya), .second, .val (.long yb), .second, .val (.long yd), .second, .val (.long yl), .second, .val (.long ye), .second, .val (.long yg), .second, .val (.long s0), .second, .val (.long s1), .second, .val (.long yb), .second, .val (.ref b2), .unset, .unset, .unset, .unset, .unset, .unset, .unset, .unset, .unset] [(.long yg), (.long ye), (.long yl), (.ref b2)])) _
            refine st39.trans ?_
            show Steps p.tables e below (T39.setTop (mkF m 67 #[.val (.long ya), .second, .val (.long yb), .second, .val (.long yd), .second, .val (.long yl), .second, .val (.long ye), .second, .val (.long yg), .second, .val (.long s0), .second, .val (.long s1), .second, .val (.long yb), .second, .val (.ref b2), .unset, .unset, .unset, .unset, .unset, .unset, .unset, .unset, .unset] [])) _
            refine XS.lload X39.here hx rfl (hb hby at_67) rfl ?_
            refine X39.ldc2Long hx hown (mvT hZ (wd70 hw)) (g := (mkF m 69 #[.val (.long ya), .second, .val (.long yb), .second, .val (.long yd), .second, .val (.long yl), .second, .val (.long ye), .second, .val (.long yg), .second, .val (.long s0), .second, .val (.long s1), .second, .val (.long yb), .second, .val (.ref b2), .unset, .unset, .unset, .unset, .unset, .unset, .unset, .unset, .unset] [(.long s0)])) rfl (hb hby at_69) _ ?_
            show Steps p.tables e below (T39.setTop (mkF m 72 #[.val (.long ya), .second, .val (.long yb), .second, .val (.long yd), .second, .val (.long yl), .second, .val (.long ye), .second, .val (.long yg), .second, .val (.long s0), .second, .val (.long s1), .second, .val (.long yb), .second, .val (.ref b2), .unset, .unset, .unset, .unset, .unset, .unset, .unset, .unset, .unset] [(.long (1000000000 : Int64)), (.long s0)])) _
            refine XS.ldiv X39.here hx rfl (hb hby at_72) rfl (by decide) ?_
            refine XS.lload X39.here hx rfl (hb hby at_73) rfl ?_
            refine XS.lcmp X39.here hx rfl (hb hby at_75) rfl ?_
            show Steps p.tables e below (T39.setTop (mkF m 76 #[.val (.long ya), .second, .val (.long yb), .second, .val (.long yd), .second, .val (.long yl), .second, .val (.long ye), .second, .val (.long yg), .second, .val (.long s0), .second, .val (.long s1), .second, .val (.long yb), .second, .val (.ref b2), .unset, .unset, .unset, .unset, .unset, .unset, .unset, .unset, .unset] [(.int (lcmpW (s0 / (1000000000 : Int64)) yl))])) _
            refine XS.ifNo X39.here hx rfl (hb hby at_76) rfl ((if0 _ _).trans (flt (fun q => hd0 ((lw_gt (s0 / (1000000000 : Int64)) yl).mp q))).2.2.1) ?_
            refine XS.lload X39.here hx rfl (hb hby at_79) rfl ?_
            refine XS.lload X39.here hx rfl (hb hby at_81) rfl ?_
            show Steps p.tables e below (T39.setTop (mkF m 83 #[.val (.long ya), .second, .val (.long yb), .second, .val (.long yd), .second, .val (.long yl), .second, .val (.long ye), .second, .val (.long yg), .second, .val (.long s0), .second, .val (.long s1), .second, .val (.long yb), .second, .val (.ref b2), .unset, .unset, .unset, .unset, .unset, .unset, .unset, .unset, .unset] [(.long yd), (.long ye)])) _
            refine XS.lsub X39.here hx rfl (hb hby at_83) rfl ?_
            refine XS.lload X39.here hx rfl (hb hby at_84) rfl ?_
            refine XS.lcmp X39.here hx rfl (hb hby at_86) rfl ?_
            show Steps p.tables e below (T39.setTop (mkF m 87 #[.val (.long ya), .second, .val (.long yb), .second, .val (.long yd), .second, .val (.long yl), .second, .val (.long ye), .second, .val (.long yg), .second, .val (.long s0), .second, .val (.long s1), .second, .val (.long yb), .second, .val (.ref b2), .unset, .unset, .unset, .unset, .unset, .unset, .unset, .unset, .unset] [(.int (lcmpW (ye - yd) yg))])) _
            refine XS.ifNo X39.here hx rfl (hb hby at_87) rfl ((if0 _ _).trans (flt (fun q => hd1 ((lw_lt (ye - yd) yg).mp q))).1) ?_
            refine XS.iconst X39.here hx rfl (hb hby at_90) ?_
            refine XS.goto X39.here hx rfl (pc0 := 91) (pc' := 95) rfl (hb hby at_91) (by decide) (by decide) ?_
            show Steps p.tables e below (T39.setTop (mkF m 95 #[.val (.long ya), .second, .val (.long yb), .second, .val (.long yd), .second, .val (.long yl), .second, .val (.long ye), .second, .val (.long yg), .second, .val (.long s0), .second, .val (.long s1), .second, .val (.long yb), .second, .val (.ref b2), .unset, .unset, .unset, .unset, .unset, .unset, .unset, .unset, .unset] [(.int (1 : Int32))])) _
            refine XS.istore X39.here hx rfl (hb hby at_95) rfl (l' := #[.val (.long ya), .second, .val (.long yb), .second, .val (.long yd), .second, .val (.long yl), .second, .val (.long ye), .second, .val (.long yg), .second, .val (.long s0), .second, .val (.long s1), .second, .val (.long yb), .second, .val (.ref b2), .val (.int (1 : Int32)), .unset, .unset, .unset, .unset, .unset, .unset, .unset, .unset]) rfl ?_
            refine XS.lload X39.here hx rfl (hb hby at_97) rfl ?_
            refine X39.ldc2Long hx hown (mvT hZ (wd70 hw)) (g := (mkF m 99 #[.val (.long ya), .second, .val (.long yb), .second, .val (.long yd), .second, .val (.long yl), .second, .val (.long ye), .second, .val (.long yg), .second, .val (.long s0), .second, .val (.long s1), .second, .val (.long yb), .second, .val (.ref b2), .val (.int (1 : Int32)), .unset, .unset, .unset, .unset, .unset, .unset, .unset, .unset] [(.long s1)])) rfl (hb hby at_99) _ ?_
            show Steps p.tables e below (T39.setTop (mkF m 102 #[.val (.long ya), .second, .val (.long yb), .second, .val (.long yd), .second, .val (.long yl), .second, .val (.long ye), .second, .val (.long yg), .second, .val (.long s0), .second, .val (.long s1), .second, .val (.long yb), .second, .val (.ref b2), .val (.int (1 : Int32)), .unset, .unset, .unset, .unset, .unset, .unset, .unset, .unset] [(.long (1000000000 : Int64)), (.long s1)])) _
            refine XS.ldiv X39.here hx rfl (hb hby at_102) rfl (by decide) ?_
            refine XS.lload X39.here hx rfl (hb hby at_103) rfl ?_
            refine XS.lcmp X39.here hx rfl (hb hby at_105) rfl ?_
            show Steps p.tables e below (T39.setTop (mkF m 106 #[.val (.long ya), .second, .val (.long yb), .second, .val (.long yd), .second, .val (.long yl), .second, .val (.long ye), .second, .val (.long yg), .second, .val (.long s0), .second, .val (.long s1), .second, .val (.long yb), .second, .val (.ref b2), .val (.int (1 : Int32)), .unset, .unset, .unset, .unset, .unset, .unset, .unset, .unset] [(.int (lcmpW (s1 / (1000000000 : Int64)) yl))])) _
            refine XS.ifNo X39.here hx rfl (hb hby at_106) rfl ((if0 _ _).trans (flt (fun q => hd2 ((lw_gt (s1 / (1000000000 : Int64)) yl).mp q))).2.2.1) ?_
            refine XS.lload X39.here hx rfl (hb hby at_109) rfl ?_
            refine XS.lload X39.here hx rfl (hb hby at_111) rfl ?_
            show Steps p.tables e below (T39.setTop (mkF m 113 #[.val (.long ya), .second, .val (.long yb), .second, .val (.long yd), .second, .val (.long yl), .second, .val (.long ye), .second, .val (.long yg), .second, .val (.long s0), .second, .val (.long s1), .second, .val (.long yb), .second, .val (.ref b2), .val (.int (1 : Int32)), .unset, .unset, .unset, .unset, .unset, .unset, .unset, .unset] [(.long yb), (.long ye)])) _
            refine XS.lsub X39.here hx rfl (hb hby at_113) rfl ?_
            refine XS.lload X39.here hx rfl (hb hby at_114) rfl ?_
            refine XS.lcmp X39.here hx rfl (hb hby at_116) rfl ?_
            show Steps p.tables e below (T39.setTop (mkF m 117 #[.val (.long ya), .second, .val (.long yb), .second, .val (.long yd), .second, .val (.long yl), .second, .val (.long ye), .second, .val (.long yg), .second, .val (.long s0), .second, .val (.long s1), .second, .val (.long yb), .second, .val (.ref b2), .val (.int (1 : Int32)), .unset, .unset, .unset, .unset, .unset, .unset, .unset, .unset] [(.int (lcmpW (ye - yb) yg))])) _
            refine XS.ifYes X39.here hx rfl (pc0 := 117) (pc' := 124) rfl (hb hby at_117) rfl ((if0 _ _).trans (tlt ((lw_lt (ye - yb) yg).mpr hd3)).1) (by decide) (by decide) ?_
            refine XS.iconst X39.here hx rfl (hb hby at_124) ?_
            refine XS.istore X39.here hx rfl (hb hby at_125) rfl (l' := #[.val (.long ya), .second, .val (.long yb), .second, .val (.long yd), .second, .val (.long yl), .second, .val (.long ye), .second, .val (.long yg), .second, .val (.long s0), .second, .val (.long s1), .second, .val (.long yb), .second, .val (.ref b2), .val (.int (1 : Int32)), .val (.int (0 : Int32)), .unset, .unset, .unset, .unset, .unset, .unset, .unset]) rfl ?_
            show Steps p.tables e below (T39.setTop (mkF m 127 #[.val (.long ya), .second, .val (.long yb), .second, .val (.long yd), .second, .val (.long yl), .second, .val (.long ye), .second, .val (.long yg), .second, .val (.long s0), .second, .val (.long s1), .second, .val (.long yb), .second, .val (.ref b2), .val (.int (1 : Int32)), .val (.int (0 : Int32)), .unset, .unset, .unset, .unset, .unset, .unset, .unset] [])) _
            refine XS.iload X39.here hx rfl (hb hby at_127) rfl ?_
            refine XS.ifYes X39.here hx rfl (pc0 := 129) (pc' := 136) rfl (hb hby at_129) rfl ((if0 _ _).trans (feq (by decide : ¬ ((1 : Int32) = (0 : Int32)))).2) (by decide) (by decide) ?_
            refine XS.iload X39.here hx rfl (hb hby at_136) rfl ?_
            show Steps p.tables e below (T39.setTop (mkF m 138 #[.val (.long ya), .second, .val (.long yb), .second, .val (.long yd), .second, .val (.long yl), .second, .val (.long ye), .second, .val (.long yg), .second, .val (.long s0), .second, .val (.long s1), .second, .val (.long yb), .second, .val (.ref b2), .val (.int (1 : Int32)), .val (.int (0 : Int32)), .unset, .unset, .unset, .unset, .unset, .unset, .unset] [(.int (0 : Int32))])) _
            refine XS.ifNo X39.here hx rfl (hb hby at_138) rfl ((if0 _ _).trans (teq (by decide : (0 : Int32) = (0 : Int32))).2) ?_
            refine XS.iconst X39.here hx rfl (hb hby at_141) ?_
            refine XS.goto X39.here hx rfl (pc0 := 142) (pc' := 146) rfl (hb hby at_142) (by decide) (by decide) ?_
            show Steps p.tables e below (T39.setTop (mkF m 146 #[.val (.long ya), .second, .val (.long yb), .second, .val (.long yd), .second, .val (.long yl), .second, .val (.long ye), .second, .val (.long yg), .second, .val (.long s0), .second, .val (.long s1), .second, .val (.long yb), .second, .val (.ref b2), .val (.int (1 : Int32)), .val (.int (0 : Int32)), .unset, .unset, .unset, .unset, .unset, .unset, .unset] [(.int (1 : Int32))])) _
            refine XS.istore X39.here hx rfl (hb hby at_146) rfl (l' := #[.val (.long ya), .second, .val (.long yb), .second, .val (.long yd), .second, .val (.long yl), .second, .val (.long ye), .second, .val (.long yg), .second, .val (.long s0), .second, .val (.long s1), .second, .val (.long yb), .second, .val (.ref b2), .val (.int (1 : Int32)), .val (.int (0 : Int32)), .val (.int (1 : Int32)), .unset, .unset, .unset, .unset, .unset, .unset]) rfl ?_
            refine XS.iload X39.here hx rfl (hb hby at_148) rfl ?_
            refine XS.ifYes X39.here hx rfl (pc0 := 150) (pc' := 158) rfl (hb hby at_150) rfl ((if0 _ _).trans (feq (by decide : ¬ ((1 : Int32) = (0 : Int32)))).2) (by decide) (by decide) ?_
            show Steps p.tables e below (T39.setTop (mkF m 158 #[.val (.long ya), .second, .val (.long yb), .second, .val (.long yd), .second, .val (.long yl), .second, .val (.long ye), .second, .val (.long yg), .second, .val (.long s0), .second, .val (.long s1), .second, .val (.long yb), .second, .val (.ref b2), .val (.int (1 : Int32)), .val (.int (0 : Int32)), .val (.int (1 : Int32)), .unset, .unset, .unset, .unset, .unset, .unset] [])) _
            refine XS.iload X39.here hx rfl (hb hby at_158) rfl ?_
            refine XS.iconst X39.here hx rfl (hb hby at_160) ?_
            refine XS.icmpNo X39.here hx rfl (hb hby at_161) rfl (teq (by decide : (1 : Int32) = (1 : Int32))).2 ?_
            show Steps p.tables e below (T39.setTop (mkF m 164 #[.val (.long ya), .second, .val (.long yb), .second, .val (.long yd), .second, .val (.long yl), .second, .val (.long ye), .second, .val (.long yg), .second, .val (.long s0), .second, .val (.long s1), .second, .val (.long yb), .second, .val (.ref b2), .val (.int (1 : Int32)), .val (.int (0 : Int32)), .val (.int (1 : Int32)), .unset, .unset, .unset, .unset, .unset, .unset] [])) _
            refine XS.lload X39.here hx rfl (hb hby at_164) rfl ?_
            refine XS.goto X39.here hx rfl (pc0 := 166) (pc' := 172) rfl (hb hby at_166) (by decide) (by decide) ?_
            refine XS.lstore X39.here hx rfl (hb hby at_172) rfl (l' := #[.val (.long ya), .second, .val (.long yb), .second, .val (.long yd), .second, .val (.long yl), .second, .val (.long ye), .second, .val (.long yg), .second, .val (.long s0), .second, .val (.long s1), .second, .val (.long yb), .second, .val (.ref b2), .val (.int (1 : Int32)), .val (.int (0 : Int32)), .val (.int (1 : Int32)), .val (.long s1), .second, .unset, .unset, .unset, .unset]) rfl ?_
            show Steps p.tables e below (T39.setTop (mkF m 174 #[.val (.long ya), .second, .val (.long yb), .second, .val (.long yd), .second, .val (.long yl), .second, .val (.long ye), .second, .val (.long yg), .second, .val (.long s0), .second, .val (.long s1), .second, .val (.long yb), .second, .val (.ref b2), .val (.int (1 : Int32)), .val (.int (0 : Int32)), .val (.int (1 : Int32)), .val (.long s1), .second, .unset, .unset, .unset, .unset] [])) _
            refine XS.iload X39.here hx rfl (hb hby at_174) rfl ?_
            refine XS.iconst X39.here hx rfl (hb hby at_176) ?_
            refine XS.icmpNo X39.here hx rfl (hb hby at_177) rfl (flt (by decide : ¬ ((1 : Int32) < (1 : Int32)))).1 ?_
            show Steps p.tables e below (T39.setTop (mkF m 180 #[.val (.long ya), .second, .val (.long yb), .second, .val (.long yd), .second, .val (.long yl), .second, .val (.long ye), .second, .val (.long yg), .second, .val (.long s0), .second, .val (.long s1), .second, .val (.long yb), .second, .val (.ref b2), .val (.int (1 : Int32)), .val (.int (0 : Int32)), .val (.int (1 : Int32)), .val (.long s1), .second, .unset, .unset, .unset, .unset] [])) _
            refine XS.lconst X39.here hx rfl (hb hby at_180) ?_
            refine XS.goto X39.here hx rfl (pc0 := 181) (pc' := 185) rfl (hb hby at_181) (by decide) (by decide) ?_
            refine XS.lstore X39.here hx rfl (hb hby at_185) rfl (l' := #[.val (.long ya), .second, .val (.long yb), .second, .val (.long yd), .second, .val (.long yl), .second, .val (.long ye), .second, .val (.long yg), .second, .val (.long s0), .second, .val (.long s1), .second, .val (.long yb), .second, .val (.ref b2), .val (.int (1 : Int32)), .val (.int (0 : Int32)), .val (.int (1 : Int32)), .val (.long s1), .second, .val (.long (0 : Int64)), .second, .unset, .unset]) rfl ?_
            show Steps p.tables e below (T39.setTop (mkF m 187 #[.val (.long ya), .second, .val (.long yb), .second, .val (.long yd), .second, .val (.long yl), .second, .val (.long ye), .second, .val (.long yg), .second, .val (.long s0), .second, .val (.long s1), .second, .val (.long yb), .second, .val (.ref b2), .val (.int (1 : Int32)), .val (.int (0 : Int32)), .val (.int (1 : Int32)), .val (.long s1), .second, .val (.long (0 : Int64)), .second, .unset, .unset] [])) _
            refine XS.iload X39.here hx rfl (hb hby at_187) rfl ?_
            refine XS.iconst X39.here hx rfl (hb hby at_189) ?_
            refine XS.icmpYes X39.here hx rfl (pc0 := 190) (pc' := 197) rfl (hb hby at_190) rfl (tlt (by decide : (1 : Int32) < (2 : Int32))).1 (by decide) (by decide) ?_
            show Steps p.tables e below (T39.setTop (mkF m 197 #[.val (.long ya), .second, .val (.long yb), .second, .val (.long yd), .second, .val (.long yl), .second, .val (.long ye), .second, .val (.long yg), .second, .val (.long s0), .second, .val (.long s1), .second, .val (.long yb), .second, .val (.ref b2), .val (.int (1 : Int32)), .val (.int (0 : Int32)), .val (.int (1 : Int32)), .val (.long s1), .second, .val (.long (0 : Int64)), .second, .unset, .unset] [])) _
            refine X39.ldc2Long hx hown (mvT hZ (wd63 hw)) (g := (mkF m 197 #[.val (.long ya), .second, .val (.long yb), .second, .val (.long yd), .second, .val (.long yl), .second, .val (.long ye), .second, .val (.long yg), .second, .val (.long s0), .second, .val (.long s1), .second, .val (.long yb), .second, .val (.ref b2), .val (.int (1 : Int32)), .val (.int (0 : Int32)), .val (.int (1 : Int32)), .val (.long s1), .second, .val (.long (0 : Int64)), .second, .unset, .unset] [])) rfl (hb hby at_197) _ ?_
            refine XS.lstore X39.here hx rfl (hb hby at_200) rfl (l' := #[.val (.long ya), .second, .val (.long yb), .second, .val (.long yd), .second, .val (.long yl), .second, .val (.long ye), .second, .val (.long yg), .second, .val (.long s0), .second, .val (.long s1), .second, .val (.long yb), .second, .val (.ref b2), .val (.int (1 : Int32)), .val (.int (0 : Int32)), .val (.int (1 : Int32)), .val (.long s1), .second, .val (.long (0 : Int64)), .second, .val (.long (2 : Int64)), .second]) rfl ?_
            refine XS.aload X39.here hx rfl (hb hby at_202) rfl rfl ?_
            show Steps p.tables e below (T39.setTop (mkF m 204 #[.val (.long ya), .second, .val (.long yb), .second, .val (.long yd), .second, .val (.long yl), .second, .val (.long ye), .second, .val (.long yg), .second, .val (.long s0), .second, .val (.long s1), .second, .val (.long yb), .second, .val (.ref b2), .val (.int (1 : Int32)), .val (.int (0 : Int32)), .val (.int (1 : Int32)), .val (.long s1), .second, .val (.long (0 : Int64)), .second, .val (.long (2 : Int64)), .second] [(.ref b2)])) _
            refine st41.trans ?_
            show Steps p.tables e below (T41.setTop (mkF m 207 #[.val (.long ya), .second, .val (.long yb), .second, .val (.long yd), .second, .val (.long yl), .second, .val (.long ye), .second, .val (.long yg), .second, .val (.long s0), .second, .val (.long s1), .second, .val (.long yb), .second, .val (.ref b2), .val (.int (1 : Int32)), .val (.int (0 : Int32)), .val (.int (1 : Int32)), .val (.long s1), .second, .val (.long (0 : Int64)), .second, .val (.long (2 : Int64)), .second] [(.long s1)])) _
            refine XS.lload X41.here hx rfl (hb hby at_207) rfl ?_
            refine XS.lcmp X41.here hx rfl (hb hby at_209) rfl ?_
            show Steps p.tables e below (T41.setTop (mkF m 210 #[.val (.long ya), .second, .val (.long yb), .second, .val (.long yd), .second, .val (.long yl), .second, .val (.long ye), .second, .val (.long yg), .second, .val (.long s0), .second, .val (.long s1), .second, .val (.long yb), .second, .val (.ref b2), .val (.int (1 : Int32)), .val (.int (0 : Int32)), .val (.int (1 : Int32)), .val (.long s1), .second, .val (.long (0 : Int64)), .second, .val (.long (2 : Int64)), .second] [(.int (lcmpW s1 s1))])) _
            refine XS.ifNo X41.here hx rfl (hb hby at_210) rfl ((if0 _ _).trans (teq ((lw_eq s1 s1).mpr (rfl : s1 = s1))).2) ?_
            refine XS.aload X41.here hx rfl (hb hby at_213) rfl rfl ?_
            refine XS.lload X41.here hx rfl (hb hby at_215) rfl ?_
            show Steps p.tables e below (T41.setTop (mkF m 217 #[.val (.long ya), .second, .val (.long yb), .second, .val (.long yd), .second, .val (.long yl), .second, .val (.long ye), .second, .val (.long yg), .second, .val (.long s0), .second, .val (.long s1), .second, .val (.long yb), .second, .val (.ref b2), .val (.int (1 : Int32)), .val (.int (0 : Int32)), .val (.int (1 : Int32)), .val (.long s1), .second, .val (.long (0 : Int64)), .second, .val (.long (2 : Int64)), .second] [(.long s0), (.ref b2)])) _
            refine XS.iconst X41.here hx rfl (hb hby at_217) ?_
            show Steps p.tables e below (T41.setTop (mkF m 218 #[.val (.long ya), .second, .val (.long yb), .second, .val (.long yd), .second, .val (.long yl), .second, .val (.long ye), .second, .val (.long yg), .second, .val (.long s0), .second, .val (.long s1), .second, .val (.long yb), .second, .val (.ref b2), .val (.int (1 : Int32)), .val (.int (0 : Int32)), .val (.int (1 : Int32)), .val (.long s1), .second, .val (.long (0 : Int64)), .second, .val (.long (2 : Int64)), .second] [(.int (0 : Int32)), (.long s0), (.ref b2)])) _
            refine st42.trans ?_
            show Steps p.tables e below (T42.setTop (mkF m 221 #[.val (.long ya), .second, .val (.long yb), .second, .val (.long yd), .second, .val (.long yl), .second, .val (.long ye), .second, .val (.long yg), .second, .val (.long s0), .second, .val (.long s1), .second, .val (.long yb), .second, .val (.ref b2), .val (.int (1 : Int32)), .val (.int (0 : Int32)), .val (.int (1 : Int32)), .val (.long s1), .second, .val (.long (0 : Int64)), .second, .val (.long (2 : Int64)), .second] [(.long (0 : Int64))])) _
            refine XS.lload X42.here hx rfl (hb hby at_221) rfl ?_
            show Steps p.tables e below (T42.setTop (mkF m 223 #[.val (.long ya), .second, .val (.long yb), .second, .val (.long yd), .second, .val (.long yl), .second, .val (.long ye), .second, .val (.long yg), .second, .val (.long s0), .second, .val (.long s1), .second, .val (.long yb), .second, .val (.ref b2), .val (.int (1 : Int32)), .val (.int (0 : Int32)), .val (.int (1 : Int32)), .val (.long s1), .second, .val (.long (0 : Int64)), .second, .val (.long (2 : Int64)), .second] [(.long (0 : Int64)), (.long (0 : Int64))])) _
            refine XS.lcmp X42.here hx rfl (hb hby at_223) rfl ?_
            refine XS.ifNo X42.here hx rfl (hb hby at_224) rfl ((if0 _ _).trans (teq ((lw_eq (0 : Int64) (0 : Int64)).mpr (by decide : (0 : Int64) = (0 : Int64)))).2) ?_
            refine XS.aload X42.here hx rfl (hb hby at_227) rfl rfl ?_
            show Steps p.tables e below (T42.setTop (mkF m 229 #[.val (.long ya), .second, .val (.long yb), .second, .val (.long yd), .second, .val (.long yl), .second, .val (.long ye), .second, .val (.long yg), .second, .val (.long s0), .second, .val (.long s1), .second, .val (.long yb), .second, .val (.ref b2), .val (.int (1 : Int32)), .val (.int (0 : Int32)), .val (.int (1 : Int32)), .val (.long s1), .second, .val (.long (0 : Int64)), .second, .val (.long (2 : Int64)), .second] [(.ref b2)])) _
            refine XS.lload X42.here hx rfl (hb hby at_229) rfl ?_
            refine XS.iconst X42.here hx rfl (hb hby at_231) ?_
            show Steps p.tables e below (T42.setTop (mkF m 232 #[.val (.long ya), .second, .val (.long yb), .second, .val (.long yd), .second, .val (.long yl), .second, .val (.long ye), .second, .val (.long yg), .second, .val (.long s0), .second, .val (.long s1), .second, .val (.long yb), .second, .val (.ref b2), .val (.int (1 : Int32)), .val (.int (0 : Int32)), .val (.int (1 : Int32)), .val (.long s1), .second, .val (.long (0 : Int64)), .second, .val (.long (2 : Int64)), .second] [(.int (0 : Int32)), (.long s1), (.ref b2)])) _
            refine st44.trans ?_
            show Steps p.tables e below (T44.setTop (mkF m 235 #[.val (.long ya), .second, .val (.long yb), .second, .val (.long yd), .second, .val (.long yl), .second, .val (.long ye), .second, .val (.long yg), .second, .val (.long s0), .second, .val (.long s1), .second, .val (.long yb), .second, .val (.ref b2), .val (.int (1 : Int32)), .val (.int (0 : Int32)), .val (.int (1 : Int32)), .val (.long s1), .second, .val (.long (0 : Int64)), .second, .val (.long (2 : Int64)), .second] [(.long (2 : Int64))])) _
            refine XS.lload X44.here hx rfl (hb hby at_235) rfl ?_
            refine XS.lcmp X44.here hx rfl (hb hby at_237) rfl ?_
            refine XS.ifNo X44.here hx rfl (hb hby at_238) rfl ((if0 _ _).trans (teq ((lw_eq (2 : Int64) (2 : Int64)).mpr (by decide : (2 : Int64) = (2 : Int64)))).2) ?_
            show Steps p.tables e below (T44.setTop (mkF m 241 #[.val (.long ya), .second, .val (.long yb), .second, .val (.long yd), .second, .val (.long yl), .second, .val (.long ye), .second, .val (.long yg), .second, .val (.long s0), .second, .val (.long s1), .second, .val (.long yb), .second, .val (.ref b2), .val (.int (1 : Int32)), .val (.int (0 : Int32)), .val (.int (1 : Int32)), .val (.long s1), .second, .val (.long (0 : Int64)), .second, .val (.long (2 : Int64)), .second] [])) _
            refine XS.iconst X44.here hx rfl (hb hby at_241) ?_
            refine XS.goto X44.here hx rfl (pc0 := 242) (pc' := 246) rfl (hb hby at_242) (by decide) (by decide) ?_
            show Steps p.tables e below (T44.setTop (mkF m 246 #[.val (.long ya), .second, .val (.long yb), .second, .val (.long yd), .second, .val (.long yl), .second, .val (.long ye), .second, .val (.long yg), .second, .val (.long s0), .second, .val (.long s1), .second, .val (.long yb), .second, .val (.ref b2), .val (.int (1 : Int32)), .val (.int (0 : Int32)), .val (.int (1 : Int32)), .val (.long s1), .second, .val (.long (0 : Int64)), .second, .val (.long (2 : Int64)), .second] [(.int (1 : Int32))])) _
            exact retN X44 hx (t := .boolean) Bd.returns (by simp) (hb hby at_246) lhr
          · skip
            show Q0 Z ya yb yd yl ye yg wn kn h0 n0 _ T44.heap _
            rw [eq44]
            exact ⟨rfl, N44⟩
        · skip
          obtain ⟨cq45, kq45, q45a, q45b, q45c⟩ := isOf hZ rfl g7_9
          obtain ⟨_, _, ⟨T45, L45, kc45, ks45⟩, -, X45, ⟨Lc45, hQ45, l45, y45, z45⟩, st45⟩ := X7.virtualBack hx (y := mn4) (z := mn4) hown (mvT hZ (wd64 hw)) (mvT hZ (wd65 hw)) (notFace_of_selects (args := #[]) (mvT hZ (wd67 hw))) (mvT hZ (wd67 hw)) (mvT hZ (wd66 hw)) (by decide) (backOf (W := 0) (rmA66 l Z a0 hw [] b2 yl ye yg b7_0 s0 s1 _ b7_2 yd yb _ ((.ref b7_1)) ((.int (1 : Int32))) T7.heap n0 Z7 g7_4 g7_5 g7_3 g7_10 hd0 g7_8 g7_12 hd1 g7_9 ge_b2 (Ne.symm ne_b2_b7_0) hd2 (Ne.symm ne_b2_b7_2) hd3 g7_6 g7_7) hZ (wd68 hw) (wd3 hw) (by decide) (by decide)) q45a q45c (g := (mkF m 64 #[.val (.long ya), .second, .val (.long yb), .second, .val (.long yd), .second, .val (.long yl), .second, .val (.long ye), .second, .val (.long yg), .second, .val (.long s0), .second, .val (.long s1), .second, .val (.long yb), .second, .val (.ref b2), .unset, .unset, .unset, .unset, .unset, .unset, .unset, .unset, .unset] [(.long yg), (.long ye), (.long yl), (.ref b2)])) rfl (by rw [hml]; rfl) (Steps.refl _) (argsL := [(.long yl), (.long ye), (.long yg)]) (rest := []) (lenOf pd__JJJ_V rfl) rfl (by show 2 * 0 + _ ≤ _; exact Nat.le_of_eq rfl) (hb hby at_64) (fun _ _ => ⟨rfl, rfl, (by decide : 7 + 0 ≤ _), (by decide : 15 + 0 ≤ _)⟩)
          dsimp only [Pt.U, Pt.locs, Pt.cells, Pt.slots] at X45 l45 y45 z45 st45 hQ45
          subst l45 y45 z45
          obtain ⟨rfl, Nq45, Kq45, g45_0, g45_1, g45_2, g45_3, g45_4, g45_5, g45_6⟩ := hQ45
          have N45 := Fr.app N7 Nq45
          have Z45 : n0 ≤ T45.heap.size := Nat.le_trans Z7 Kq45.1
          have K45 : Keep h0 T45.heap [] := Keep.trans K7 Kq45 (allS (Or.inr sz_b2) all0)
          obtain ⟨cq46, kq46, q46a, q46b, q46c⟩ := isOf hZ rfl g45_4
          obtain ⟨_, _, ⟨T46, L46, kc46, ks46⟩, -, X46, ⟨Lc46, hQ46, l46, y46, z46⟩, st46⟩ := X45.virtualBack hx (y := mn3) (z := mn3) hown (mvT hZ (wd71 hw)) (mvT hZ (wd72 hw)) (notFace_of_selects (args := #[]) (mvT hZ (wd74 hw))) (mvT hZ (wd74 hw)) (mvT hZ (wd73 hw)) (by decide) (backOf (W := 0) (rmA67 l Z a0 hw [] b2 T45.heap n0 Z45 g45_0 g45_1) hZ (wd75 hw) (wd3 hw) (by decide) (by decide)) q46a q46c (g := (mkF m 204 #[.val (.long ya), .second, .val (.long yb), .second, .val (.long yd), .second, .val (.long yl), .second, .val (.long ye), .second, .val (.long yg), .second, .val (.long s0), .second, .val (.long s1), .second, .val (.long yb), .second, .val (.ref b2), .val (.int (1 : Int32)), .val (.int (1 : Int32)), .val (.int (2 : Int32)), .val (.long (9223372036854775807 : Int64)), .second, .val (.long (0 : Int64)), .second, .val (.long (0 : Int64)), .second] [(.ref b2)])) rfl (by rw [hml]; rfl) (Steps.refl _) (argsL := []) (rest := []) (lenOf pd___J rfl) rfl (by show 2 * 0 + _ ≤ _; exact Nat.le_of_eq rfl) (hb hby at_204) (fun _ _ => ⟨rfl, rfl, (by decide : 7 + 0 ≤ _), (by decide : 15 + 0 ≤ _)⟩)
          dsimp only [Pt.U, Pt.locs, Pt.cells, Pt.slots] at X46 l46 y46 z46 st46 hQ46
          subst l46 y46 z46
          obtain ⟨rfl, Nq46, eq46⟩ := hQ46
          have N46 := Fr.app N45 Nq46
          have f47 := (g7_10.keep Kq45 (ninS (Ne.symm ne_b2_b7_0) nin0))
          obtain ⟨cq48, kq48, q48a, q48b, q48c⟩ := isOf hZ eq46 g45_4
          obtain ⟨_, _, ⟨T48, L48, kc48, ks48⟩, -, X48, ⟨Lc48, hQ48, l48, y48, z48⟩, st48⟩ := X46.virtualBack hx (y := mn2) (z := mn2) hown (mvT hZ (wd76 hw)) (mvT hZ (wd77 hw)) (notFace_of_selects (args := #[]) (mvT hZ (wd79 hw))) (mvT hZ (wd79 hw)) (mvT hZ (wd78 hw)) (by decide) (backOf (W := 0) (rmA68 l Z a0 hw [] b2 s0 b7_0 s1 _ T45.heap n0 Z45 g45_2 g45_0 g45_1 f47) hZ (wd80 hw) (wd3 hw) (by decide) (by decide)) q48a q48c (g := (mkF m 218 #[.val (.long ya), .second, .val (.long yb), .second, .val (.long yd), .second, .val (.long yl), .second, .val (.long ye), .second, .val (.long yg), .second, .val (.long s0), .second, .val (.long s1), .second, .val (.long yb), .second, .val (.ref b2), .val (.int (1 : Int32)), .val (.int (1 : Int32)), .val (.int (2 : Int32)), .val (.long (9223372036854775807 : Int64)), .second, .val (.long (0 : Int64)), .second, .val (.long (0 : Int64)), .second] [(.int (0 : Int32)), (.long s0), (.ref b2)])) rfl (by rw [hml]; rfl) (Steps.refl _) (argsL := [(.long s0), (.int (0 : Int32))]) (rest := []) (lenOf pd__JI_J rfl) rfl (by show 2 * 0 + _ ≤ _; exact Nat.le_of_eq rfl) (hb hby at_218) (fun _ _ => ⟨rfl, eq46, (by decide : 7 + 0 ≤ _), (by decide : 15 + 0 ≤ _)⟩)
          dsimp only [Pt.U, Pt.locs, Pt.cells, Pt.slots] at X48 l48 y48 z48 st48 hQ48
          subst l48 y48 z48
          obtain ⟨rfl, Nq48, eq48⟩ := hQ48
          have N48 := Fr.app N46 Nq48
          obtain ⟨cq49, kq49, q49a, q49b, q49c⟩ := isOf hZ eq48 g45_4
          obtain ⟨_, _, ⟨T49, L49, kc49, ks49⟩, -, X49, ⟨Lc49, hQ49, l49, y49, z49⟩, st49⟩ := X48.virtualBack hx (y := mn2) (z := mn2) hown (mvT hZ (wd76 hw)) (mvT hZ (wd77 hw)) (notFace_of_selects (args := #[]) (mvT hZ (wd79 hw))) (mvT hZ (wd79 hw)) (mvT hZ (wd78 hw)) (by decide) (backOf (W := 0) (rmA72 l Z a0 hw [] b2 s1 b7_0 s0 _ T45.heap n0 Z45 g45_2 g45_0 g45_1 f47) hZ (wd80 hw) (wd3 hw) (by decide) (by decide)) q49a q49c (g := (mkF m 232 #[.val (.long ya), .second, .val (.long yb), .second, .val (.long yd), .second, .val (.long yl), .second, .val (.long ye), .second, .val (.long yg), .second, .val (.long s0), .second, .val (.long s1), .second, .val (.long yb), .second, .val (.ref b2), .val (.int (1 : Int32)), .val (.int (1 : Int32)), .val (.int (2 : Int32)), .val (.long (9223372036854775807 : Int64)), .second, .val (.long (0 : Int64)), .second, .val (.long (0 : Int64)), .second] [(.int (0 : Int32)), (.long s1), (.ref b2)])) rfl (by rw [hml]; rfl) (Steps.refl _) (argsL := [(.long s1), (.int (0 : Int32))]) (rest := []) (lenOf pd__JI_J rfl) rfl (by show 2 * 0 + _ ≤ _; exact Nat.le_of_eq rfl) (hb hby at_232) (fun _ _ => ⟨rfl, eq48, (by decide : 7 + 0 ≤ _), (by decide : 15 + 0 ≤ _)⟩)
          dsimp only [Pt.U, Pt.locs, Pt.cells, Pt.slots] at X49 l49 y49 z49 st49 hQ49
          subst l49 y49 z49
          obtain ⟨rfl, Nq49, eq49⟩ := hQ49
          have N49 := Fr.app N48 Nq49
          obtain ⟨lfs, lhr, lhrun, lhended, lhW, lhsame⟩ := X49.leave (v := some (.int (1 : Int32))) (fun h => by rw [Bd.returns] at h; cases h)
          refine ⟨_, _, k8 _ ?_, lhrun, lhended, _, _, rfl, ?_, ⟨_, rfl⟩, lhW, lhsame.mono (by decide) (by decide)⟩
          · skip
            show Steps p.tables e below (T7.setTop (mkF m 64 #[.val (.long ya), .second, .val (.long yb), .second, .val (.long yd), .second, .val (.long yl), .second, .val (.long ye), .second, .val (.long yg), .second, .val (.long s0), .second, .val (.long s1), .second, .val (.long yb), .second, .val (.ref b2), .unset, .unset, .unset, .unset, .unset, .unset, .unset, .unset, .unset] [(.long yg), (.long ye), (.long yl), (.ref b2)])) _
            refine st45.trans ?_
            show Steps p.tables e below (T45.setTop (mkF m 67 #[.val (.long ya), .second, .val (.long yb), .second, .val (.long yd), .second, .val (.long yl), .second, .val (.long ye), .second, .val (.long yg), .second, .val (.long s0), .second, .val (.long s1), .second, .val (.long yb), .second, .val (.ref b2), .unset, .unset, .unset, .unset, .unset, .unset, .unset, .unset, .unset] [])) _
            refine XS.lload X45.here hx rfl (hb hby at_67) rfl ?_
            refine X45.ldc2Long hx hown (mvT hZ (wd70 hw)) (g := (mkF m 69 #[.val (.long ya), .second, .val (.long yb), .second, .val (.long yd), .second, .val (.long yl), .second, .val (.long ye), .second, .val (.long yg), .second, .val (.long s0), .second, .val (.long s1), .second, .val (.long yb), .second, .val (.ref b2), .unset, .unset, .unset, .unset, .unset, .unset, .unset, .unset, .unset] [(.long s0)])) rfl (hb hby at_69) _ ?_
            show Steps p.tables e below (T45.setTop (mkF m 72 #[.val (.long ya), .second, .val (.long yb), .second, .val (.long yd), .second, .val (.long yl), .second, .val (.long ye), .second, .val (.long yg), .second, .val (.long s0), .second, .val (.long s1), .second, .val (.long yb), .second, .val (.ref b2), .unset, .unset, .unset, .unset, .unset, .unset, .unset, .unset, .unset] [(.long (1000000000 : Int64)), (.long s0)])) _
            refine XS.ldiv X45.here hx rfl (hb hby at_72) rfl (by decide) ?_
            refine XS.lload X45.here hx rfl (hb hby at_73) rfl ?_
            refine XS.lcmp X45.here hx rfl (hb hby at_75) rfl ?_
            show Steps p.tables e below (T45.setTop (mkF m 76 #[.val (.long ya), .second, .val (.long yb), .second, .val (.long yd), .second, .val (.long yl), .second, .val (.long ye), .second, .val (.long yg), .second, .val (.long s0), .second, .val (.long s1), .second, .val (.long yb), .second, .val (.ref b2), .unset, .unset, .unset, .unset, .unset, .unset, .unset, .unset, .unset] [(.int (lcmpW (s0 / (1000000000 : Int64)) yl))])) _
            refine XS.ifNo X45.here hx rfl (hb hby at_76) rfl ((if0 _ _).trans (flt (fun q => hd0 ((lw_gt (s0 / (1000000000 : Int64)) yl).mp q))).2.2.1) ?_
            refine XS.lload X45.here hx rfl (hb hby at_79) rfl ?_
            refine XS.lload X45.here hx rfl (hb hby at_81) rfl ?_
            show Steps p.tables e below (T45.setTop (mkF m 83 #[.val (.long ya), .second, .val (.long yb), .second, .val (.long yd), .second, .val (.long yl), .second, .val (.long ye), .second, .val (.long yg), .second, .val (.long s0), .second, .val (.long s1), .second, .val (.long yb), .second, .val (.ref b2), .unset, .unset, .unset, .unset, .unset, .unset, .unset, .unset, .unset] [(.long yd), (.long ye)])) _
            refine XS.lsub X45.here hx rfl (hb hby at_83) rfl ?_
            refine XS.lload X45.here hx rfl (hb hby at_84) rfl ?_
            refine XS.lcmp X45.here hx rfl (hb hby at_86) rfl ?_
            show Steps p.tables e below (T45.setTop (mkF m 87 #[.val (.long ya), .second, .val (.long yb), .second, .val (.long yd), .second, .val (.long yl), .second, .val (.long ye), .second, .val (.long yg), .second, .val (.long s0), .second, .val (.long s1), .second, .val (.long yb), .second, .val (.ref b2), .unset, .unset, .unset, .unset, .unset, .unset, .unset, .unset, .unset] [(.int (lcmpW (ye - yd) yg))])) _
            refine XS.ifNo X45.here hx rfl (hb hby at_87) rfl ((if0 _ _).trans (flt (fun q => hd1 ((lw_lt (ye - yd) yg).mp q))).1) ?_
            refine XS.iconst X45.here hx rfl (hb hby at_90) ?_
            refine XS.goto X45.here hx rfl (pc0 := 91) (pc' := 95) rfl (hb hby at_91) (by decide) (by decide) ?_
            show Steps p.tables e below (T45.setTop (mkF m 95 #[.val (.long ya), .second, .val (.long yb), .second, .val (.long yd), .second, .val (.long yl), .second, .val (.long ye), .second, .val (.long yg), .second, .val (.long s0), .second, .val (.long s1), .second, .val (.long yb), .second, .val (.ref b2), .unset, .unset, .unset, .unset, .unset, .unset, .unset, .unset, .unset] [(.int (1 : Int32))])) _
            refine XS.istore X45.here hx rfl (hb hby at_95) rfl (l' := #[.val (.long ya), .second, .val (.long yb), .second, .val (.long yd), .second, .val (.long yl), .second, .val (.long ye), .second, .val (.long yg), .second, .val (.long s0), .second, .val (.long s1), .second, .val (.long yb), .second, .val (.ref b2), .val (.int (1 : Int32)), .unset, .unset, .unset, .unset, .unset, .unset, .unset, .unset]) rfl ?_
            refine XS.lload X45.here hx rfl (hb hby at_97) rfl ?_
            refine X45.ldc2Long hx hown (mvT hZ (wd70 hw)) (g := (mkF m 99 #[.val (.long ya), .second, .val (.long yb), .second, .val (.long yd), .second, .val (.long yl), .second, .val (.long ye), .second, .val (.long yg), .second, .val (.long s0), .second, .val (.long s1), .second, .val (.long yb), .second, .val (.ref b2), .val (.int (1 : Int32)), .unset, .unset, .unset, .unset, .unset, .unset, .unset, .unset] [(.long s1)])) rfl (hb hby at_99) _ ?_
            show Steps p.tables e below (T45.setTop (mkF m 102 #[.val (.long ya), .second, .val (.long yb), .second, .val (.long yd), .second, .val (.long yl), .second, .val (.long ye), .second, .val (.long yg), .second, .val (.long s0), .second, .val (.long s1), .second, .val (.long yb), .second, .val (.ref b2), .val (.int (1 : Int32)), .unset, .unset, .unset, .unset, .unset, .unset, .unset, .unset] [(.long (1000000000 : Int64)), (.long s1)])) _
            refine XS.ldiv X45.here hx rfl (hb hby at_102) rfl (by decide) ?_
            refine XS.lload X45.here hx rfl (hb hby at_103) rfl ?_
            refine XS.lcmp X45.here hx rfl (hb hby at_105) rfl ?_
            show Steps p.tables e below (T45.setTop (mkF m 106 #[.val (.long ya), .second, .val (.long yb), .second, .val (.long yd), .second, .val (.long yl), .second, .val (.long ye), .second, .val (.long yg), .second, .val (.long s0), .second, .val (.long s1), .second, .val (.long yb), .second, .val (.ref b2), .val (.int (1 : Int32)), .unset, .unset, .unset, .unset, .unset, .unset, .unset, .unset] [(.int (lcmpW (s1 / (1000000000 : Int64)) yl))])) _
            refine XS.ifNo X45.here hx rfl (hb hby at_106) rfl ((if0 _ _).trans (flt (fun q => hd2 ((lw_gt (s1 / (1000000000 : Int64)) yl).mp q))).2.2.1) ?_
            refine XS.lload X45.here hx rfl (hb hby at_109) rfl ?_
            refine XS.lload X45.here hx rfl (hb hby at_111) rfl ?_
            show Steps p.tables e below (T45.setTop (mkF m 113 #[.val (.long ya), .second, .val (.long yb), .second, .val (.long yd), .second, .val (.long yl), .second, .val (.long ye), .second, .val (.long yg), .second, .val (.long s0), .second, .val (.long s1), .second, .val (.long yb), .second, .val (.ref b2), .val (.int (1 : Int32)), .unset, .unset, .unset, .unset, .unset, .unset, .unset, .unset] [(.long yb), (.long ye)])) _
            refine XS.lsub X45.here hx rfl (hb hby at_113) rfl ?_
            refine XS.lload X45.here hx rfl (hb hby at_114) rfl ?_
            refine XS.lcmp X45.here hx rfl (hb hby at_116) rfl ?_
            show Steps p.tables e below (T45.setTop (mkF m 117 #[.val (.long ya), .second, .val (.long yb), .second, .val (.long yd), .second, .val (.long yl), .second, .val (.long ye), .second, .val (.long yg), .second, .val (.long s0), .second, .val (.long s1), .second, .val (.long yb), .second, .val (.ref b2), .val (.int (1 : Int32)), .unset, .unset, .unset, .unset, .unset, .unset, .unset, .unset] [(.int (lcmpW (ye - yb) yg))])) _
            refine XS.ifNo X45.here hx rfl (hb hby at_117) rfl ((if0 _ _).trans (flt (fun q => hd3 ((lw_lt (ye - yb) yg).mp q))).1) ?_
            refine XS.iconst X45.here hx rfl (hb hby at_120) ?_
            refine XS.goto X45.here hx rfl (pc0 := 121) (pc' := 125) rfl (hb hby at_121) (by decide) (by decide) ?_
            show Steps p.tables e below (T45.setTop (mkF m 125 #[.val (.long ya), .second, .val (.long yb), .second, .val (.long yd), .second, .val (.long yl), .second, .val (.long ye), .second, .val (.long yg), .second, .val (.long s0), .second, .val (.long s1), .second, .val (.long yb), .second, .val (.ref b2), .val (.int (1 : Int32)), .unset, .unset, .unset, .unset, .unset, .unset, .unset, .unset] [(.int (1 : Int32))])) _
            refine XS.istore X45.here hx rfl (hb hby at_125) rfl (l' := #[.val (.long ya), .second, .val (.long yb), .second, .val (.long yd), .second, .val (.long yl), .second, .val (.long ye), .second, .val (.long yg), .second, .val (.long s0), .second, .val (.long s1), .second, .val (.long yb), .second, .val (.ref b2), .val (.int (1 : Int32)), .val (.int (1 : Int32)), .unset, .unset, .unset, .unset, .unset, .unset, .unset]) rfl ?_
            refine XS.iload X45.here hx rfl (hb hby at_127) rfl ?_
            refine XS.ifYes X45.here hx rfl (pc0 := 129) (pc' := 136) rfl (hb hby at_129) rfl ((if0 _ _).trans (feq (by decide : ¬ ((1 : Int32) = (0 : Int32)))).2) (by decide) (by decide) ?_
            show Steps p.tables e below (T45.setTop (mkF m 136 #[.val (.long ya), .second, .val (.long yb), .second, .val (.long yd), .second, .val (.long yl), .second, .val (.long ye), .second, .val (.long yg), .second, .val (.long s0), .second, .val (.long s1), .second, .val (.long yb), .second, .val (.ref b2), .val (.int (1 : Int32)), .val (.int (1 : Int32)), .unset, .unset, .unset, .unset, .unset, .unset, .unset] [])) _
            refine XS.iload X45.here hx rfl (hb hby at_136) rfl ?_
            refine XS.ifYes X45.here hx rfl (pc0 := 138) (pc' := 145) rfl (hb hby at_138) rfl ((if0 _ _).trans (feq (by decide : ¬ ((1 : Int32) = (0 : Int32)))).2) (by decide) (by decide) ?_
            refine XS.iconst X45.here hx rfl (hb hby at_145) ?_
            show Steps p.tables e below (T45.setTop (mkF m 146 #[.val (.long ya), .second, .val (.long yb), .second, .val (.long yd), .second, .val (.long yl), .second, .val (.long ye), .second, .val (.long yg), .second, .val (.long s0), .second, .val (.long s1), .second, .val (.long yb), .second, .val (.ref b2), .val (.int (1 : Int32)), .val (.int (1 : Int32)), .unset, .unset, .unset, .unset, .unset, .unset, .unset] [(.int (2 : Int32))])) _
            refine XS.istore X45.here hx rfl (hb hby at_146) rfl (l' := #[.val (.long ya), .second, .val (.long yb), .second, .val (.long yd), .second, .val (.long yl), .second, .val (.long ye), .second, .val (.long yg), .second, .val (.long s0), .second, .val (.long s1), .second, .val (.long yb), .second, .val (.ref b2), .val (.int (1 : Int32)), .val (.int (1 : Int32)), .val (.int (2 : Int32)), .unset, .unset, .unset, .unset, .unset, .unset]) rfl ?_
            refine XS.iload X45.here hx rfl (hb hby at_148) rfl ?_
            refine XS.ifYes X45.here hx rfl (pc0 := 150) (pc' := 158) rfl (hb hby at_150) rfl ((if0 _ _).trans (feq (by decide : ¬ ((2 : Int32) = (0 : Int32)))).2) (by decide) (by decide) ?_
            show Steps p.tables e below (T45.setTop (mkF m 158 #[.val (.long ya), .second, .val (.long yb), .second, .val (.long yd), .second, .val (.long yl), .second, .val (.long ye), .second, .val (.long yg), .second, .val (.long s0), .second, .val (.long s1), .second, .val (.long yb), .second, .val (.ref b2), .val (.int (1 : Int32)), .val (.int (1 : Int32)), .val (.int (2 : Int32)), .unset, .unset, .unset, .unset, .unset, .unset] [])) _
            refine XS.iload X45.here hx rfl (hb hby at_158) rfl ?_
            refine XS.iconst X45.here hx rfl (hb hby at_160) ?_
            refine XS.icmpYes X45.here hx rfl (pc0 := 161) (pc' := 169) rfl (hb hby at_161) rfl (feq (by decide : ¬ ((2 : Int32) = (1 : Int32)))).2 (by decide) (by decide) ?_
            show Steps p.tables e below (T45.setTop (mkF m 169 #[.val (.long ya), .second, .val (.long yb), .second, .val (.long yd), .second, .val (.long yl), .second, .val (.long ye), .second, .val (.long yg), .second, .val (.long s0), .second, .val (.long s1), .second, .val (.long yb), .second, .val (.ref b2), .val (.int (1 : Int32)), .val (.int (1 : Int32)), .val (.int (2 : Int32)), .unset, .unset, .unset, .unset, .unset, .unset] [])) _
            refine X45.ldc2Long hx hown (mvT hZ (wd81 hw)) (g := (mkF m 169 #[.val (.long ya), .second, .val (.long yb), .second, .val (.long yd), .second, .val (.long yl), .second, .val (.long ye), .second, .val (.long yg), .second, .val (.long s0), .second, .val (.long s1), .second, .val (.long yb), .second, .val (.ref b2), .val (.int (1 : Int32)), .val (.int (1 : Int32)), .val (.int (2 : Int32)), .unset, .unset, .unset, .unset, .unset, .unset] [])) rfl (hb hby at_169) _ ?_
            refine XS.lstore X45.here hx rfl (hb hby at_172) rfl (l' := #[.val (.long ya), .second, .val (.long yb), .second, .val (.long yd), .second, .val (.long yl), .second, .val (.long ye), .second, .val (.long yg), .second, .val (.long s0), .second, .val (.long s1), .second, .val (.long yb), .second, .val (.ref b2), .val (.int (1 : Int32)), .val (.int (1 : Int32)), .val (.int (2 : Int32)), .val (.long (9223372036854775807 : Int64)), .second, .unset, .unset, .unset, .unset]) rfl ?_
            refine XS.iload X45.here hx rfl (hb hby at_174) rfl ?_
            show Steps p.tables e below (T45.setTop (mkF m 176 #[.val (.long ya), .second, .val (.long yb), .second, .val (.long yd), .second, .val (.long yl), .second, .val (.long ye), .second, .val (.long yg), .second, .val (.long s0), .second, .val (.long s1), .second, .val (.long yb), .second, .val (.ref b2), .val (.int (1 : Int32)), .val (.int (1 : Int32)), .val (.int (2 : Int32)), .val (.long (9223372036854775807 : Int64)), .second, .unset, .unset, .unset, .unset] [(.int (2 : Int32))])) _
            refine XS.iconst X45.here hx rfl (hb hby at_176) ?_
            refine XS.icmpNo X45.here hx rfl (hb hby at_177) rfl (flt (by decide : ¬ ((2 : Int32) < (1 : Int32)))).1 ?_
            refine XS.lconst X45.here hx rfl (hb hby at_180) ?_
            show Steps p.tables e below (T45.setTop (mkF m 181 #[.val (.long ya), .second, .val (.long yb), .second, .val (.long yd), .second, .val (.long yl), .second, .val (.long ye), .second, .val (.long yg), .second, .val (.long s0), .second, .val (.long s1), .second, .val (.long yb), .second, .val (.ref b2), .val (.int (1 : Int32)), .val (.int (1 : Int32)), .val (.int (2 : Int32)), .val (.long (9223372036854775807 : Int64)), .second, .unset, .unset, .unset, .unset] [(.long (0 : Int64))])) _
            refine XS.goto X45.here hx rfl (pc0 := 181) (pc' := 185) rfl (hb hby at_181) (by decide) (by decide) ?_
            refine XS.lstore X45.here hx rfl (hb hby at_185) rfl (l' := #[.val (.long ya), .second, .val (.long yb), .second, .val (.long yd), .second, .val (.long yl), .second, .val (.long ye), .second, .val (.long yg), .second, .val (.long s0), .second, .val (.long s1), .second, .val (.long yb), .second, .val (.ref b2), .val (.int (1 : Int32)), .val (.int (1 : Int32)), .val (.int (2 : Int32)), .val (.long (9223372036854775807 : Int64)), .second, .val (.long (0 : Int64)), .second, .unset, .unset]) rfl ?_
            refine XS.iload X45.here hx rfl (hb hby at_187) rfl ?_
            show Steps p.tables e below (T45.setTop (mkF m 189 #[.val (.long ya), .second, .val (.long yb), .second, .val (.long yd), .second, .val (.long yl), .second, .val (.long ye), .second, .val (.long yg), .second, .val (.long s0), .second, .val (.long s1), .second, .val (.long yb), .second, .val (.ref b2), .val (.int (1 : Int32)), .val (.int (1 : Int32)), .val (.int (2 : Int32)), .val (.long (9223372036854775807 : Int64)), .second, .val (.long (0 : Int64)), .second, .unset, .unset] [(.int (2 : Int32))])) _
            refine XS.iconst X45.here hx rfl (hb hby at_189) ?_
            refine XS.icmpNo X45.here hx rfl (hb hby at_190) rfl (flt (by decide : ¬ ((2 : Int32) < (2 : Int32)))).1 ?_
            refine XS.lconst X45.here hx rfl (hb hby at_193) ?_
            show Steps p.tables e below (T45.setTop (mkF m 194 #[.val (.long ya), .second, .val (.long yb), .second, .val (.long yd), .second, .val (.long yl), .second, .val (.long ye), .second, .val (.long yg), .second, .val (.long s0), .second, .val (.long s1), .second, .val (.long yb), .second, .val (.ref b2), .val (.int (1 : Int32)), .val (.int (1 : Int32)), .val (.int (2 : Int32)), .val (.long (9223372036854775807 : Int64)), .second, .val (.long (0 : Int64)), .second, .unset, .unset] [(.long (0 : Int64))])) _
            refine XS.goto X45.here hx rfl (pc0 := 194) (pc' := 200) rfl (hb hby at_194) (by decide) (by decide) ?_
            refine XS.lstore X45.here hx rfl (hb hby at_200) rfl (l' := #[.val (.long ya), .second, .val (.long yb), .second, .val (.long yd), .second, .val (.long yl), .second, .val (.long ye), .second, .val (.long yg), .second, .val (.long s0), .second, .val (.long s1), .second, .val (.long yb), .second, .val (.ref b2), .val (.int (1 : Int32)), .val (.int (1 : Int32)), .val (.int (2 : Int32)), .val (.long (9223372036854775807 : Int64)), .second, .val (.long (0 : Int64)), .second, .val (.long (0 : Int64)), .second]) rfl ?_
            refine XS.aload X45.here hx rfl (hb hby at_202) rfl rfl ?_
            show Steps p.tables e below (T45.setTop (mkF m 204 #[.val (.long ya), .second, .val (.long yb), .second, .val (.long yd), .second, .val (.long yl), .second, .val (.long ye), .second, .val (.long yg), .second, .val (.long s0), .second, .val (.long s1), .second, .val (.long yb), .second, .val (.ref b2), .val (.int (1 : Int32)), .val (.int (1 : Int32)), .val (.int (2 : Int32)), .val (.long (9223372036854775807 : Int64)), .second, .val (.long (0 : Int64)), .second, .val (.long (0 : Int64)), .second] [(.ref b2)])) _
            refine st46.trans ?_
            show Steps p.tables e below (T46.setTop (mkF m 207 #[.val (.long ya), .second, .val (.long yb), .second, .val (.long yd), .second, .val (.long yl), .second, .val (.long ye), .second, .val (.long yg), .second, .val (.long s0), .second, .val (.long s1), .second, .val (.long yb), .second, .val (.ref b2), .val (.int (1 : Int32)), .val (.int (1 : Int32)), .val (.int (2 : Int32)), .val (.long (9223372036854775807 : Int64)), .second, .val (.long (0 : Int64)), .second, .val (.long (0 : Int64)), .second] [(.long (9223372036854775807 : Int64))])) _
            refine XS.lload X46.here hx rfl (hb hby at_207) rfl ?_
            refine XS.lcmp X46.here hx rfl (hb hby at_209) rfl ?_
            show Steps p.tables e below (T46.setTop (mkF m 210 #[.val (.long ya), .second, .val (.long yb), .second, .val (.long yd), .second, .val (.long yl), .second, .val (.long ye), .second, .val (.long yg), .second, .val (.long s0), .second, .val (.long s1), .second, .val (.long yb), .second, .val (.ref b2), .val (.int (1 : Int32)), .val (.int (1 : Int32)), .val (.int (2 : Int32)), .val (.long (9223372036854775807 : Int64)), .second, .val (.long (0 : Int64)), .second, .val (.long (0 : Int64)), .second] [(.int (lcmpW (9223372036854775807 : Int64) (9223372036854775807 : Int64)))])) _
            refine XS.ifNo X46.here hx rfl (hb hby at_210) rfl ((if0 _ _).trans (teq ((lw_eq (9223372036854775807 : Int64) (9223372036854775807 : Int64)).mpr (by decide : (9223372036854775807 : Int64) = (9223372036854775807 : Int64)))).2) ?_
            refine XS.aload X46.here hx rfl (hb hby at_213) rfl rfl ?_
            refine XS.lload X46.here hx rfl (hb hby at_215) rfl ?_
            show Steps p.tables e below (T46.setTop (mkF m 217 #[.val (.long ya), .second, .val (.long yb), .second, .val (.long yd), .second, .val (.long yl), .second, .val (.long ye), .second, .val (.long yg), .second, .val (.long s0), .second, .val (.long s1), .second, .val (.long yb), .second, .val (.ref b2), .val (.int (1 : Int32)), .val (.int (1 : Int32)), .val (.int (2 : Int32)), .val (.long (9223372036854775807 : Int64)), .second, .val (.long (0 : Int64)), .second, .val (.long (0 : Int64)), .second] [(.long s0), (.ref b2)])) _
            refine XS.iconst X46.here hx rfl (hb hby at_217) ?_
            show Steps p.tables e below (T46.setTop (mkF m 218 #[.val (.long ya), .second, .val (.long yb), .second, .val (.long yd), .second, .val (.long yl), .second, .val (.long ye), .second, .val (.long yg), .second, .val (.long s0), .second, .val (.long s1), .second, .val (.long yb), .second, .val (.ref b2), .val (.int (1 : Int32)), .val (.int (1 : Int32)), .val (.int (2 : Int32)), .val (.long (9223372036854775807 : Int64)), .second, .val (.long (0 : Int64)), .second, .val (.long (0 : Int64)), .second] [(.int (0 : Int32)), (.long s0), (.ref b2)])) _
            refine st48.trans ?_
            show Steps p.tables e below (T48.setTop (mkF m 221 #[.val (.long ya), .second, .val (.long yb), .second, .val (.long yd), .second, .val (.long yl), .second, .val (.long ye), .second, .val (.long yg), .second, .val (.long s0), .second, .val (.long s1), .second, .val (.long yb), .second, .val (.ref b2), .val (.int (1 : Int32)), .val (.int (1 : Int32)), .val (.int (2 : Int32)), .val (.long (9223372036854775807 : Int64)), .second, .val (.long (0 : Int64)), .second, .val (.long (0 : Int64)), .second] [(.long (0 : Int64))])) _
            refine XS.lload X48.here hx rfl (hb hby at_221) rfl ?_
            show Steps p.tables e below (T48.setTop (mkF m 223 #[.val (.long ya), .second, .val (.long yb), .second, .val (.long yd), .second, .val (.long yl), .second, .val (.long ye), .second, .val (.long yg), .second, .val (.long s0), .second, .val (.long s1), .second, .val (.long yb), .second, .val (.ref b2), .val (.int (1 : Int32)), .val (.int (1 : Int32)), .val (.int (2 : Int32)), .val (.long (9223372036854775807 : Int64)), .second, .val (.long (0 : Int64)), .second, .val (.long (0 : Int64)), .second] [(.long (0 : Int64)), (.long (0 : Int64))])) _
            refine XS.lcmp X48.here hx rfl (hb hby at_223) rfl ?_
            refine XS.ifNo X48.here hx rfl (hb hby at_224) rfl ((if0 _ _).trans (teq ((lw_eq (0 : Int64) (0 : Int64)).mpr (by decide : (0 : Int64) = (0 : Int64)))).2) ?_
            refine XS.aload X48.here hx rfl (hb hby at_227) rfl rfl ?_
            show Steps p.tables e below (T48.setTop (mkF m 229 #[.val (.long ya), .second, .val (.long yb), .second, .val (.long yd), .second, .val (.long yl), .second, .val (.long ye), .second, .val (.long yg), .second, .val (.long s0), .second, .val (.long s1), .second, .val (.long yb), .second, .val (.ref b2), .val (.int (1 : Int32)), .val (.int (1 : Int32)), .val (.int (2 : Int32)), .val (.long (9223372036854775807 : Int64)), .second, .val (.long (0 : Int64)), .second, .val (.long (0 : Int64)), .second] [(.ref b2)])) _
            refine XS.lload X48.here hx rfl (hb hby at_229) rfl ?_
            refine XS.iconst X48.here hx rfl (hb hby at_231) ?_
            show Steps p.tables e below (T48.setTop (mkF m 232 #[.val (.long ya), .second, .val (.long yb), .second, .val (.long yd), .second, .val (.long yl), .second, .val (.long ye), .second, .val (.long yg), .second, .val (.long s0), .second, .val (.long s1), .second, .val (.long yb), .second, .val (.ref b2), .val (.int (1 : Int32)), .val (.int (1 : Int32)), .val (.int (2 : Int32)), .val (.long (9223372036854775807 : Int64)), .second, .val (.long (0 : Int64)), .second, .val (.long (0 : Int64)), .second] [(.int (0 : Int32)), (.long s1), (.ref b2)])) _
            refine st49.trans ?_
            show Steps p.tables e below (T49.setTop (mkF m 235 #[.val (.long ya), .second, .val (.long yb), .second, .val (.long yd), .second, .val (.long yl), .second, .val (.long ye), .second, .val (.long yg), .second, .val (.long s0), .second, .val (.long s1), .second, .val (.long yb), .second, .val (.ref b2), .val (.int (1 : Int32)), .val (.int (1 : Int32)), .val (.int (2 : Int32)), .val (.long (9223372036854775807 : Int64)), .second, .val (.long (0 : Int64)), .second, .val (.long (0 : Int64)), .second] [(.long (0 : Int64))])) _
            refine XS.lload X49.here hx rfl (hb hby at_235) rfl ?_
            refine XS.lcmp X49.here hx rfl (hb hby at_237) rfl ?_
            refine XS.ifNo X49.here hx rfl (hb hby at_238) rfl ((if0 _ _).trans (teq ((lw_eq (0 : Int64) (0 : Int64)).mpr (by decide : (0 : Int64) = (0 : Int64)))).2) ?_
            show Steps p.tables e below (T49.setTop (mkF m 241 #[.val (.long ya), .second, .val (.long yb), .second, .val (.long yd), .second, .val (.long yl), .second, .val (.long ye), .second, .val (.long yg), .second, .val (.long s0), .second, .val (.long s1), .second, .val (.long yb), .second, .val (.ref b2), .val (.int (1 : Int32)), .val (.int (1 : Int32)), .val (.int (2 : Int32)), .val (.long (9223372036854775807 : Int64)), .second, .val (.long (0 : Int64)), .second, .val (.long (0 : Int64)), .second] [])) _
            refine XS.iconst X49.here hx rfl (hb hby at_241) ?_
            refine XS.goto X49.here hx rfl (pc0 := 242) (pc' := 246) rfl (hb hby at_242) (by decide) (by decide) ?_
            show Steps p.tables e below (T49.setTop (mkF m 246 #[.val (.long ya), .second, .val (.long yb), .second, .val (.long yd), .second, .val (.long yl), .second, .val (.long ye), .second, .val (.long yg), .second, .val (.long s0), .second, .val (.long s1), .second, .val (.long yb), .second, .val (.ref b2), .val (.int (1 : Int32)), .val (.int (1 : Int32)), .val (.int (2 : Int32)), .val (.long (9223372036854775807 : Int64)), .second, .val (.long (0 : Int64)), .second, .val (.long (0 : Int64)), .second] [(.int (1 : Int32))])) _
            exact retN X49 hx (t := .boolean) Bd.returns (by simp) (hb hby at_246) lhr
          · skip
            show Q0 Z ya yb yd yl ye yg wn kn h0 n0 _ T49.heap _
            rw [eq49]
            exact ⟨rfl, N49⟩
set_option maxRecDepth 65536 in
set_option maxHeartbeats 40000000 in
theorem comes_1 {Post : Tables → Env → Array Value → State → Outcome → State → Prop} (hpost : ∀ tb e args s v u, (limb_1_1.after args s (.returned v) u = true ∧ limb_1_2.after args s (.returned v) u = true ∧ True) → FrameEnd s (.returned v) u (Jvm.fieldLocs frame_1_writes args s ++ Jvm.arrayLocs frame_1_arrays args s ++ Jvm.staticLocs frame_1_statics s) 24 128 → Post tb e args s (.returned v) u) :
    ArmFor flags0 classFile x code maxLocals ret World_1 tables_1 room_1 Calls_1 rest_1 Pre_1 Post := by
  intro l hfl _ _ p e ha hc hk s m args below hf hA hF happ hP
  obtain ⟨hcalls, hrest, hpre⟩ := hP
  obtain ⟨-, -, -, hnamed, -, -, -, hat⟩ := (Spec.applies_iff hf).mp happ
  obtain ⟨hg, hn⟩ := and_e (Cond.before_iff.mp (show (Jvm.Cond.and given_1 narrow_1).before args s = true from hpre))
  obtain ⟨g1a, g1b⟩ := and_e hg
  obtain ⟨g2a, g2b⟩ := and_e g1b
  obtain ⟨g3a, g3b⟩ := and_e g2b
  obtain ⟨g4a, g4b⟩ := and_e g3b
  obtain ⟨g5a, g5b⟩ := and_e g4b
  obtain ⟨g6a, g6b⟩ := and_e g5b
  obtain ⟨u7a, u7b⟩ := and_e hn
  obtain ⟨u8a, u8b⟩ := and_e u7b
  obtain ⟨w0, w1, w2, w3, w4, w5, rfl⟩ : ∃ w0 w1 w2 w3 w4 w5 : Value, args = #[w0, w1, w2, w3, w4, w5] := by
    have hs : args.size = 6 := by simpa [Cond.value, given_1] using g1a
    obtain ⟨L⟩ := args
    match L, hs with
    | [w0, w1, w2, w3, w4, w5], _ => exact ⟨w0, w1, w2, w3, w4, w5, rfl⟩
  have hw := fun d (hd : d ∈ tables_1) => atoms_spec (ws := Jvm.Cond.code x code maxLocals ret :: tables_1) hat d (List.mem_cons_of_mem _ hd)
  have hfit : Fit s := fun {y c} hc i hi => by
    obtain ⟨ha, rfl⟩ := Array.getElem?_eq_some_iff.mp hc
    have q := List.all_eq_true.mp ((Array.all_eq_true_iff_forall_mem.mp hF) _ (Array.getElem_mem ha)) i (List.mem_range.mpr hi)
    simpa [Array.getElem?_eq_getElem hi] using q
  obtain ⟨i0, ei0⟩ := isL_v g2a
  obtain rfl : w0 = (.long i0) := Option.some.inj ei0
  obtain ⟨i1, ei1⟩ := isL_v g3a
  obtain rfl : w1 = (.long i1) := Option.some.inj ei1
  obtain ⟨i2, ei2⟩ := isL_v g4a
  obtain rfl : w2 = (.long i2) := Option.some.inj ei2
  obtain ⟨i3, ei3⟩ := isL_v g5a
  obtain rfl : w3 = (.long i3) := Option.some.inj ei3
  obtain ⟨i4, ei4⟩ := isL_v g6a
  obtain rfl : w4 = (.long i4) := Option.some.inj ei4
  obtain ⟨i5, ei5⟩ := isL_v g6b
  obtain rfl : w5 = (.long i5) := Option.some.inj ei5
  obtain ⟨wn, ev_n⟩ := arr_v u7a
  have S_N := Sta.start ev_n (Or.inr ⟨(wd3 hw), (wd11 hw)⟩)
  obtain ⟨cln, Ar⟩ := Arr.start ev_n u7a
  have V_N := own_arv0 (dv := .long (0 : Int64)) hfit ev_n Ar (own_evInt u8b)
  obtain ⟨n, o, h1, h2, h3, _, L, rfl, ⟨rfl, N⟩, hq⟩ := rm0 l s _ hw tables_1 i0 i1 i2 i3 i4 i5 wn _ s.heap s.heap.size (Nat.le_refl _) (Old.start s) S_N V_N p e ha hc hk s m _ below hf ((Spec.applies_iff_loose hf).mp happ).1 ⟨rfl, State.Warmed39.refl s, rfl⟩ trivial
  refine ⟨n, _, h1, h2, h3, hpost _ _ _ _ _ _ ⟨Cond.after_iff.mpr rfl, Cond.after_iff.mpr (eq_i res_at (Term.int_eval (1)) rfl), trivial⟩ ⟨hq.1, hq.2.1, (hq.2.2.sift fun y hy => Or.inr (N y hy)).mono (by decide) (by decide)⟩⟩
theorem main_1_1 : Claimed_1_1 := comes_1 fun _ _ _ _ _ _ h hF => ⟨h.1, hF⟩
theorem main_1_2 : Claimed_1_2 := comes_1 fun _ _ _ _ _ _ h hF => ⟨h.2.1, hF⟩
end Jvm.Pilot.@@N@@
namespace Jvm.Pilot.@@N@@
open Jvm Jvm.ClassFile Sem Op Lib Jvm.Free Jvm.Stand Jvm.Pilot.@@N@@.Jvm.D
/-! MADE BY PROGRAM (witnessworld.py) out of the Statement's table words and the real class files: 15 classes; the members and pool entries that the words name. The judged class is class 1, her method 1. -/
namespace start1
open Jvm.ClassFile
def u (s : String) : CpInfo := .utf8 (stringToUtf16 s)
/-- a pool by its gaps: so many unusable entries, then the entry; so many at the end -/
def gap : Nat → List CpInfo → List CpInfo
  | 0, r => r
  | n + 1, r => .unusable :: gap n r
def poolList (es : List (Nat × CpInfo)) (last : Nat) : List CpInfo := es.foldr (fun e r => gap e.1 (e.2 :: r)) (gap last [])
def pool (es : List (Nat × CpInfo)) (last : Nat) : Array CpInfo := ⟨poolList es last⟩
def fileOf (pool : Array CpInfo) (this : Nat) (attrs : Array Attribute := #[]) (ms : Array MethodInfo := #[]) (fl : Nat := 33) (sup : Nat := 0) (ifs : Array Nat := #[]) (fds : Array FieldInfo := #[]) : ClassFile where
  minorVersion := 0
  majorVersion := 65
  constantPool := pool
  accessFlags := fl
  thisClass := this
  superClass := sup
  interfaces := ifs
  fields := fds
  methods := ms
  attributes := attrs
def plain (name : String) (sup : Option ClassId) : Class where
  name := name
  kind := .ordinary
  loader := none
  accessFlags := 33
  super := sup
  interfaces := #[]
  cf := none
  fields := #[]
  methods := #[]
  instanceTypes := #[]
  staticTypes := #[]
  resolved := #[]
  callSites := []
  init := .initialized
  statics := none
  mirror := none

def pool0 : Array CpInfo := pool [(5, u "<init>"), (0, u "()V"), (1, .class_ 10), (1, u "java/lang/Object")] 113

def k0c0 : Code := { maxStack := 0, maxLocals := 1, code := object_method_1_code, exceptionTable := #[], attributes := #[] }
def k0m0 : Method := { name := "<init>", desc := "()V", sig := { parameters := [], returnType := none }, accessFlags := 1, code := some k0c0 }
/-- java/lang/Object -/
def k0 : Class := { plain "java/lang/Object" none with
  accessFlags := 33
  interfaces := #[]
  cf := some (fileOf pool0 8 #[] #[{ accessFlags := 1, nameIndex := 5, descriptorIndex := 6, attributes := #[] }] 33 0 #[] #[])
  fields := #[]
  methods := #[k0m0]
  instanceTypes := #[]
  staticTypes := #[]
  resolved := Array.replicate 124 none
  statics := none }

def pool1 : Array CpInfo := pool [(2, .class_ 4), (1, u "java/lang/Object"), (0, u "<init>"), (0, u "()V"), (0, .long 4611686018427387903), (1, .class_ 10), (0, u "com/example/strict_limiter/strictlimiter/KeptWindows"), (0, .methodref 9 12), (0, .nameAndType 5 13), (0, u "(I)V"), (0, .methodref 9 15), (0, .nameAndType 16 17), (0, u "add"), (0, u "(JJJJ)V"), (0, .long 2), (1, .methodref 9 21), (0, .nameAndType 22 23), (0, u "forget"), (0, u "(JJJ)V"), (0, .long 1000000000), (3, .long 9223372036854775807), (1, .methodref 9 31), (0, .nameAndType 32 33), (0, u "firstStart"), (0, u "()J"), (0, .methodref 9 35), (0, .nameAndType 36 37), (0, u "field"), (0, u "(JI)J"), (0, .class_ 39), (0, u "com/example/strict_limiter/strictlimiter/KeptWindowsForgetPinLaw"), (2, u "law"), (0, u "(JJJJJJ)Z")] 3

def k1m0 : Method := { name := "<init>", desc := "()V", sig := { parameters := [], returnType := none }, accessFlags := 1, code := none }
def k1c1 : Code := { maxStack := 9, maxLocals := 28, code := code, exceptionTable := #[], attributes := #[] }
def k1m1 : Method := { name := "law", desc := "(JJJJJJ)Z", sig := { parameters := [.long, .long, .long, .long, .long, .long], returnType := some .boolean }, accessFlags := 9, code := some k1c1 }
/-- com/example/strict_limiter/strictlimiter/KeptWindowsForgetPinLaw -/
def k1 : Class := { plain "com/example/strict_limiter/strictlimiter/KeptWindowsForgetPinLaw" (some 0) with
  accessFlags := 49
  interfaces := #[]
  cf := some (fileOf pool1 38 #[] #[{ accessFlags := 1, nameIndex := 5, descriptorIndex := 6, attributes := #[] }, { accessFlags := 9, nameIndex := 42, descriptorIndex := 43, attributes := #[] }] 49 2 #[] #[])
  fields := #[]
  methods := #[k1m0, k1m1]
  instanceTypes := #[]
  staticTypes := #[]
  resolved := Array.replicate 47 none
  statics := none }

def pool2 : Array CpInfo := pool [(1, .methodref 2 3), (0, .class_ 4), (0, .nameAndType 5 6), (0, u "java/lang/Object"), (0, u "<init>"), (0, u "()V"), (0, .fieldref 8 9), (0, .class_ 10), (0, .nameAndType 11 12), (0, u "com/example/strict_limiter/strictlimiter/KeptWindows"), (0, u "NONE"), (0, u "[J"), (0, .fieldref 8 14), (0, .nameAndType 15 12), (0, u "starts"), (0, .fieldref 8 17), (0, .nameAndType 18 12), (0, u "records"), (0, .fieldref 8 20), (0, .nameAndType 21 12), (0, u "decidedAt"), (0, .fieldref 8 23), (0, .nameAndType 24 25), (0, u "width"), (0, u "I"), (0, .fieldref 8 27), (0, .nameAndType 28 25), (0, u "first"), (0, .fieldref 8 30), (0, .nameAndType 31 25), (0, u "end"), (0, .long 1000000000), (3, .long 9223372036854775807), (1, .methodref 39 40), (0, .class_ 41), (0, .nameAndType 42 43), (0, u "java/util/Arrays"), (0, u "binarySearch"), (0, u "([JIIJ)I"), (0, .methodref 8 45), (0, .nameAndType 46 47), (0, u "insert"), (0, u "(IJ)I"), (0, .methodref 49 50), (0, .class_ 51), (0, .nameAndType 52 53), (0, u "com/example/strict_limiter/strictlimiter/WindowRecord"), (0, u "add"), (0, u "([JIIJJ)V"), (0, .methodref 55 56), (0, .class_ 57), (0, .nameAndType 58 59), (0, u "java/lang/System"), (0, u "arraycopy"), (0, u "(Ljava/lang/Object;ILjava/lang/Object;II)V"), (0, .methodref 61 62), (0, .class_ 63), (0, .nameAndType 64 65), (0, u "java/lang/Math"), (0, u "max"), (0, u "(II)I"), (0, .methodref 8 67), (0, .nameAndType 68 69), (0, u "movedToFront"), (0, u "([JII)[J"), (0, .methodref 39 71), (0, .nameAndType 72 73), (0, u "fill"), (0, u "([JIIJ)V"), (0, u "SECOND"), (0, u "J"), (1, u "(I)V"), (2, u "forget"), (0, u "(JJJ)V"), (1, u "firstStart"), (0, u "()J"), (0, u "field"), (0, u "(JI)J"), (0, u "(JJJJ)V")] 5

def k2c0 : Code := { maxStack := 2, maxLocals := 2, code := prog_23_method_1_code, exceptionTable := #[], attributes := #[] }
def k2m0 : Method := { name := "<init>", desc := "(I)V", sig := { parameters := [.int], returnType := none }, accessFlags := 0, code := some k2c0 }
def k2c1 : Code := { maxStack := 4, maxLocals := 7, code := prog_23_method_2_code, exceptionTable := #[], attributes := #[] }
def k2m1 : Method := { name := "forget", desc := "(JJJ)V", sig := { parameters := [.long, .long, .long], returnType := none }, accessFlags := 0, code := some k2c1 }
def k2c2 : Code := { maxStack := 2, maxLocals := 1, code := prog_23_method_3_code, exceptionTable := #[], attributes := #[] }
def k2m2 : Method := { name := "firstStart", desc := "()J", sig := { parameters := [], returnType := some .long }, accessFlags := 0, code := some k2c2 }
def k2c3 : Code := { maxStack := 5, maxLocals := 5, code := prog_23_method_4_code, exceptionTable := #[], attributes := #[] }
def k2m3 : Method := { name := "field", desc := "(JI)J", sig := { parameters := [.long, .int], returnType := some .long }, accessFlags := 0, code := some k2c3 }
def k2c4 : Code := { maxStack := 7, maxLocals := 10, code := prog_23_method_5_code, exceptionTable := #[], attributes := #[] }
def k2m4 : Method := { name := "add", desc := "(JJJJ)V", sig := { parameters := [.long, .long, .long, .long], returnType := none }, accessFlags := 0, code := some k2c4 }
def k2c5 : Code := { maxStack := 6, maxLocals := 7, code := prog_23_method_7_code, exceptionTable := #[], attributes := #[] }
def k2m5 : Method := { name := "insert", desc := "(IJ)I", sig := { parameters := [.int, .long], returnType := some .int }, accessFlags := 2, code := some k2c5 }
def k2c6 : Code := { maxStack := 6, maxLocals := 5, code := prog_23_method_8_code, exceptionTable := #[], attributes := #[] }
def k2m6 : Method := { name := "movedToFront", desc := "([JII)[J", sig := { parameters := [(.array .long), .int, .int], returnType := some (.array .long) }, accessFlags := 2, code := some k2c6 }
/-- com/example/strict_limiter/strictlimiter/KeptWindows -/
def k2 : Class := { plain "com/example/strict_limiter/strictlimiter/KeptWindows" (some 0) with
  accessFlags := 48
  interfaces := #[]
  cf := some (fileOf pool2 8 #[] #[{ accessFlags := 0, nameIndex := 5, descriptorIndex := 77, attributes := #[] }, { accessFlags := 0, nameIndex := 80, descriptorIndex := 81, attributes := #[] }, { accessFlags := 0, nameIndex := 83, descriptorIndex := 84, attributes := #[] }, { accessFlags := 0, nameIndex := 85, descriptorIndex := 86, attributes := #[] }, { accessFlags := 0, nameIndex := 52, descriptorIndex := 87, attributes := #[] }, { accessFlags := 2, nameIndex := 46, descriptorIndex := 47, attributes := #[] }, { accessFlags := 2, nameIndex := 68, descriptorIndex := 69, attributes := #[] }] 48 2 #[] #[{ accessFlags := 26, nameIndex := 11, descriptorIndex := 12, attributes := #[] }, { accessFlags := 26, nameIndex := 74, descriptorIndex := 75, attributes := #[] }, { accessFlags := 18, nameIndex := 24, descriptorIndex := 25, attributes := #[] }, { accessFlags := 2, nameIndex := 15, descriptorIndex := 12, attributes := #[] }, { accessFlags := 2, nameIndex := 18, descriptorIndex := 12, attributes := #[] }, { accessFlags := 2, nameIndex := 21, descriptorIndex := 12, attributes := #[] }, { accessFlags := 2, nameIndex := 28, descriptorIndex := 25, attributes := #[] }, { accessFlags := 2, nameIndex := 31, descriptorIndex := 25, attributes := #[] }])
  fields := #[{ name := "NONE", type := (.array .long), accessFlags := 26, slot := 0, constantValue := 0 }, { name := "SECOND", type := .long, accessFlags := 26, slot := 1, constantValue := 0 }, { name := "width", type := .int, accessFlags := 18, slot := 0, constantValue := 0 }, { name := "starts", type := (.array .long), accessFlags := 2, slot := 1, constantValue := 0 }, { name := "records", type := (.array .long), accessFlags := 2, slot := 2, constantValue := 0 }, { name := "decidedAt", type := (.array .long), accessFlags := 2, slot := 3, constantValue := 0 }, { name := "first", type := .int, accessFlags := 2, slot := 4, constantValue := 0 }, { name := "end", type := .int, accessFlags := 2, slot := 5, constantValue := 0 }]
  methods := #[k2m0, k2m1, k2m2, k2m3, k2m4, k2m5, k2m6]
  instanceTypes := #[.int, (.array .long), (.array .long), (.array .long), .int, .int]
  staticTypes := #[(.array .long), .long]
  resolved := Array.replicate 93 none
  statics := some 0 }

def pool3 : Array CpInfo := pool [(2, .class_ 4), (1, u "java/lang/Object"), (0, u "<init>"), (0, u "()V"), (6, .methodref 14 15), (0, .class_ 16), (0, .nameAndType 17 18), (0, u "java/util/Arrays"), (0, u "rangeCheck"), (0, u "(III)V"), (55, .class_ 76), (1, u "java/util/Arrays$NaturalOrder"), (36, .class_ 115), (1, u "java/util/Arrays$LegacyMergeSort"), (1, u "Z"), (87, .methodref 14 206), (0, .nameAndType 207 208), (0, u "binarySearch0"), (0, u "([JIIJ)I"), (166, .class_ 376), (0, u "java/util/Arrays$ArrayList"), (68, u "$assertionsDisabled"), (269, u "MIN_ARRAY_SORT_GRAN"), (0, u "I"), (2, u "INSERTIONSORT_THRESHOLD"), (74, u "binarySearch"), (45, u "fill"), (3, u "([JIIJ)V"), (130, .class_ 976), (0, u "java/util/Arrays$ArrayItr")] 52

def k3m0 : Method := { name := "<init>", desc := "()V", sig := { parameters := [], returnType := none }, accessFlags := 2, code := none }
def k3c1 : Code := { maxStack := 4, maxLocals := 3, code := jdk_65_method_30_code, exceptionTable := #[], attributes := #[] }
def k3m1 : Method := { name := "rangeCheck", desc := "(III)V", sig := { parameters := [.int, .int, .int], returnType := none }, accessFlags := 8, code := some k3c1 }
def k3c2 : Code := { maxStack := 5, maxLocals := 5, code := jdk_65_method_55_code, exceptionTable := #[], attributes := #[] }
def k3m2 : Method := { name := "binarySearch", desc := "([JIIJ)I", sig := { parameters := [(.array .long), .int, .int, .long], returnType := some .int }, accessFlags := 9, code := some k3c2 }
def k3c3 : Code := { maxStack := 4, maxLocals := 10, code := jdk_65_method_56_code, exceptionTable := #[], attributes := #[] }
def k3m3 : Method := { name := "binarySearch0", desc := "([JIIJ)I", sig := { parameters := [(.array .long), .int, .int, .long], returnType := some .int }, accessFlags := 10, code := some k3c3 }
def k3c4 : Code := { maxStack := 4, maxLocals := 6, code := jdk_65_method_102_code, exceptionTable := #[], attributes := #[] }
def k3m4 : Method := { name := "fill", desc := "([JIIJ)V", sig := { parameters := [(.array .long), .int, .int, .long], returnType := none }, accessFlags := 9, code := some k3c4 }
/-- java/util/Arrays -/
def k3 : Class := { plain "java/util/Arrays" (some 0) with
  accessFlags := 49
  interfaces := #[]
  cf := some (fileOf pool3 14 #[.nestMembers #[975, 375, 113, 74]] #[{ accessFlags := 2, nameIndex := 5, descriptorIndex := 6, attributes := #[] }, { accessFlags := 8, nameIndex := 17, descriptorIndex := 18, attributes := #[] }, { accessFlags := 9, nameIndex := 794, descriptorIndex := 208, attributes := #[] }, { accessFlags := 10, nameIndex := 207, descriptorIndex := 208, attributes := #[] }, { accessFlags := 9, nameIndex := 840, descriptorIndex := 844, attributes := #[] }] 49 2 #[] #[{ accessFlags := 26, nameIndex := 715, descriptorIndex := 716, attributes := #[] }, { accessFlags := 26, nameIndex := 719, descriptorIndex := 716, attributes := #[] }, { accessFlags := 4120, nameIndex := 445, descriptorIndex := 117, attributes := #[] }])
  fields := #[{ name := "MIN_ARRAY_SORT_GRAN", type := .int, accessFlags := 26, slot := 0, constantValue := 0 }, { name := "INSERTIONSORT_THRESHOLD", type := .int, accessFlags := 26, slot := 1, constantValue := 0 }, { name := "$assertionsDisabled", type := .boolean, accessFlags := 4120, slot := 2, constantValue := 0 }]
  methods := #[k3m0, k3m1, k3m2, k3m3, k3m4]
  instanceTypes := #[]
  staticTypes := #[.int, .int, .boolean]
  resolved := Array.replicate 1029 none
  statics := none }

def pool4 : Array CpInfo := pool [(1, .class_ 2), (0, u "java/lang/Math"), (1, .class_ 6), (1, u "java/lang/Object"), (0, u "<init>"), (0, u "()V"), (89, .class_ 100), (1, u "java/lang/Math$RandomNumberGeneratorHolder"), (71, u "negativeZeroFloatBits"), (0, u "J"), (2, u "negativeZeroDoubleBits"), (21, u "max"), (46, u "$assertionsDisabled"), (0, u "Z"), (88, u "(II)I"), (2, u "twoToTheDoubleScaleDown"), (0, u "D"), (4, u "twoToTheDoubleScaleUp"), (9, u "E"), (3, u "PI"), (2, u "TAU"), (2, u "DEGREES_TO_RADIANS"), (0, u "RADIANS_TO_DEGREES")] 94

def k4m0 : Method := { name := "<init>", desc := "()V", sig := { parameters := [], returnType := none }, accessFlags := 2, code := none }
def k4c1 : Code := { maxStack := 2, maxLocals := 2, code := jdk_29_method_65_code, exceptionTable := #[], attributes := #[] }
def k4m1 : Method := { name := "max", desc := "(II)I", sig := { parameters := [.int, .int], returnType := some .int }, accessFlags := 9, code := some k4c1 }
/-- java/lang/Math -/
def k4 : Class := { plain "java/lang/Math" (some 0) with
  accessFlags := 49
  interfaces := #[]
  cf := some (fileOf pool4 1 #[.nestMembers #[98]] #[{ accessFlags := 2, nameIndex := 7, descriptorIndex := 8, attributes := #[] }, { accessFlags := 9, nameIndex := 198, descriptorIndex := 335, attributes := #[] }] 49 4 #[] #[{ accessFlags := 25, nameIndex := 354, descriptorIndex := 339, attributes := #[] }, { accessFlags := 25, nameIndex := 358, descriptorIndex := 339, attributes := #[] }, { accessFlags := 25, nameIndex := 361, descriptorIndex := 339, attributes := #[] }, { accessFlags := 26, nameIndex := 364, descriptorIndex := 339, attributes := #[] }, { accessFlags := 26, nameIndex := 365, descriptorIndex := 339, attributes := #[] }, { accessFlags := 26, nameIndex := 172, descriptorIndex := 173, attributes := #[] }, { accessFlags := 26, nameIndex := 176, descriptorIndex := 173, attributes := #[] }, { accessFlags := 8, nameIndex := 344, descriptorIndex := 339, attributes := #[] }, { accessFlags := 8, nameIndex := 338, descriptorIndex := 339, attributes := #[] }, { accessFlags := 4120, nameIndex := 245, descriptorIndex := 246, attributes := #[] }])
  fields := #[{ name := "E", type := .double, accessFlags := 25, slot := 0, constantValue := 0 }, { name := "PI", type := .double, accessFlags := 25, slot := 1, constantValue := 0 }, { name := "TAU", type := .double, accessFlags := 25, slot := 2, constantValue := 0 }, { name := "DEGREES_TO_RADIANS", type := .double, accessFlags := 26, slot := 3, constantValue := 0 }, { name := "RADIANS_TO_DEGREES", type := .double, accessFlags := 26, slot := 4, constantValue := 0 }, { name := "negativeZeroFloatBits", type := .long, accessFlags := 26, slot := 5, constantValue := 0 }, { name := "negativeZeroDoubleBits", type := .long, accessFlags := 26, slot := 6, constantValue := 0 }, { name := "twoToTheDoubleScaleUp", type := .double, accessFlags := 8, slot := 7, constantValue := 0 }, { name := "twoToTheDoubleScaleDown", type := .double, accessFlags := 8, slot := 8, constantValue := 0 }, { name := "$assertionsDisabled", type := .boolean, accessFlags := 4120, slot := 9, constantValue := 0 }]
  methods := #[k4m0, k4m1]
  instanceTypes := #[]
  staticTypes := #[.double, .double, .double, .double, .double, .long, .long, .double, .double, .boolean]
  resolved := Array.replicate 460 none
  statics := none }

def pool5 : Array CpInfo := pool [(2, .class_ 4), (1, u "java/lang/Object"), (0, u "<init>"), (0, u "()V"), (1, .class_ 10), (1, u "java/lang/System"), (0, u "allowSecurityManager"), (0, u "I"), (16, u "cons"), (0, u "Ljava/io/Console;"), (77, .class_ 110), (1, u "java/lang/System$CallersHolder"), (43, u "initialErrStream"), (0, u "Ljava/io/PrintStream;"), (19, u "security"), (0, u "Ljava/lang/SecurityManager;"), (31, .class_ 209), (0, u "java/lang/System$1"), (7, u "props"), (0, u "Ljava/util/Properties;"), (2, u "lineSeparator"), (0, u "Ljava/lang/String;"), (96, .class_ 321), (1, u "java/lang/System$LoggerFinder"), (5, .class_ 328), (0, u "java/lang/System$Logger"), (67, u "err"), (2, u "out"), (91, u "notSupportedJnuEncoding"), (15, u "in"), (17, u "initialIn"), (0, u "Ljava/io/InputStream;"), (35, u "bootLayer"), (0, u "Ljava/lang/ModuleLayer;"), (99, .class_ 664), (0, u "java/lang/System$2"), (9, u "NEVER"), (2, u "MAYBE"), (49, u "arraycopy"), (0, u "(Ljava/lang/Object;ILjava/lang/Object;II)V"), (72, .class_ 802), (0, u "java/lang/System$Logger$Level")] 31

def k5m0 : Method := { name := "<init>", desc := "()V", sig := { parameters := [], returnType := none }, accessFlags := 2, code := none }
def k5m1 : Method := { name := "arraycopy", desc := "(Ljava/lang/Object;ILjava/lang/Object;II)V", sig := { parameters := [(.object "java/lang/Object"), .int, (.object "java/lang/Object"), .int, .int], returnType := none }, accessFlags := 265, code := none }
/-- java/lang/System -/
def k5 : Class := { plain "java/lang/System" (some 0) with
  accessFlags := 49
  interfaces := #[]
  cf := some (fileOf pool5 8 #[.nestMembers #[319, 327, 801, 108, 663, 208]] #[{ accessFlags := 2, nameIndex := 5, descriptorIndex := 6, attributes := #[] }, { accessFlags := 265, nameIndex := 727, descriptorIndex := 728, attributes := #[] }] 49 2 #[] #[{ accessFlags := 25, nameIndex := 507, descriptorIndex := 526, attributes := #[] }, { accessFlags := 25, nameIndex := 399, descriptorIndex := 155, attributes := #[] }, { accessFlags := 25, nameIndex := 396, descriptorIndex := 155, attributes := #[] }, { accessFlags := 10, nameIndex := 525, descriptorIndex := 526, attributes := #[] }, { accessFlags := 26, nameIndex := 674, descriptorIndex := 12, attributes := #[] }, { accessFlags := 26, nameIndex := 677, descriptorIndex := 12, attributes := #[] }, { accessFlags := 10, nameIndex := 11, descriptorIndex := 12, attributes := #[] }, { accessFlags := 74, nameIndex := 175, descriptorIndex := 176, attributes := #[] }, { accessFlags := 10, nameIndex := 491, descriptorIndex := 222, attributes := #[] }, { accessFlags := 74, nameIndex := 29, descriptorIndex := 30, attributes := #[] }, { accessFlags := 74, nameIndex := 154, descriptorIndex := 155, attributes := #[] }, { accessFlags := 10, nameIndex := 217, descriptorIndex := 218, attributes := #[] }, { accessFlags := 10, nameIndex := 221, descriptorIndex := 222, attributes := #[] }, { accessFlags := 8, nameIndex := 562, descriptorIndex := 563, attributes := #[] }])
  fields := #[{ name := "in", type := (.object "java/io/InputStream"), accessFlags := 25, slot := 0, constantValue := 0 }, { name := "out", type := (.object "java/io/PrintStream"), accessFlags := 25, slot := 1, constantValue := 0 }, { name := "err", type := (.object "java/io/PrintStream"), accessFlags := 25, slot := 2, constantValue := 0 }, { name := "initialIn", type := (.object "java/io/InputStream"), accessFlags := 10, slot := 3, constantValue := 0 }, { name := "NEVER", type := .int, accessFlags := 26, slot := 4, constantValue := 0 }, { name := "MAYBE", type := .int, accessFlags := 26, slot := 5, constantValue := 0 }, { name := "allowSecurityManager", type := .int, accessFlags := 10, slot := 6, constantValue := 0 }, { name := "security", type := (.object "java/lang/SecurityManager"), accessFlags := 74, slot := 7, constantValue := 0 }, { name := "notSupportedJnuEncoding", type := (.object "java/lang/String"), accessFlags := 10, slot := 8, constantValue := 0 }, { name := "cons", type := (.object "java/io/Console"), accessFlags := 74, slot := 9, constantValue := 0 }, { name := "initialErrStream", type := (.object "java/io/PrintStream"), accessFlags := 74, slot := 10, constantValue := 0 }, { name := "props", type := (.object "java/util/Properties"), accessFlags := 10, slot := 11, constantValue := 0 }, { name := "lineSeparator", type := (.object "java/lang/String"), accessFlags := 10, slot := 12, constantValue := 0 }, { name := "bootLayer", type := (.object "java/lang/ModuleLayer"), accessFlags := 8, slot := 13, constantValue := 0 }]
  methods := #[k5m0, k5m1]
  instanceTypes := #[]
  staticTypes := #[(.object "java/io/InputStream"), (.object "java/io/PrintStream"), (.object "java/io/PrintStream"), (.object "java/io/InputStream"), .int, .int, .int, (.object "java/lang/SecurityManager"), (.object "java/lang/String"), (.object "java/io/Console"), (.object "java/io/PrintStream"), (.object "java/util/Properties"), (.object "java/lang/String"), (.object "java/lang/ModuleLayer")]
  resolved := Array.replicate 834 none
  statics := none }

def pool6 : Array CpInfo := pool [(2, .class_ 4), (1, u "java/lang/Object"), (0, u "<init>"), (0, u "()V"), (0, .class_ 8), (0, u "com/example/strict_limiter/strictlimiter/WindowRecord"), (10, u "COST"), (0, u "I"), (2, u "FIRST"), (1, u "NEXT_TO_LAST"), (1, u "LAST"), (1, u "COST_ONLY"), (0, u "TIMED"), (1, u "MARKS"), (0, u "J"), (5, u "add"), (0, u "([JIIJJ)V")] 4

def k6m0 : Method := { name := "<init>", desc := "()V", sig := { parameters := [], returnType := none }, accessFlags := 2, code := none }
def k6c1 : Code := { maxStack := 6, maxLocals := 9, code := prog_59_method_3_code, exceptionTable := #[], attributes := #[] }
def k6m1 : Method := { name := "add", desc := "([JIIJJ)V", sig := { parameters := [(.array .long), .int, .int, .long, .long], returnType := none }, accessFlags := 8, code := some k6c1 }
/-- com/example/strict_limiter/strictlimiter/WindowRecord -/
def k6 : Class := { plain "com/example/strict_limiter/strictlimiter/WindowRecord" (some 0) with
  accessFlags := 48
  interfaces := #[]
  cf := some (fileOf pool6 7 #[] #[{ accessFlags := 2, nameIndex := 5, descriptorIndex := 6, attributes := #[] }, { accessFlags := 8, nameIndex := 39, descriptorIndex := 40, attributes := #[] }] 48 2 #[] #[{ accessFlags := 24, nameIndex := 19, descriptorIndex := 20, attributes := #[] }, { accessFlags := 24, nameIndex := 23, descriptorIndex := 20, attributes := #[] }, { accessFlags := 24, nameIndex := 25, descriptorIndex := 20, attributes := #[] }, { accessFlags := 24, nameIndex := 27, descriptorIndex := 20, attributes := #[] }, { accessFlags := 24, nameIndex := 29, descriptorIndex := 20, attributes := #[] }, { accessFlags := 24, nameIndex := 30, descriptorIndex := 20, attributes := #[] }, { accessFlags := 26, nameIndex := 32, descriptorIndex := 33, attributes := #[] }])
  fields := #[{ name := "COST", type := .int, accessFlags := 24, slot := 0, constantValue := 0 }, { name := "FIRST", type := .int, accessFlags := 24, slot := 1, constantValue := 0 }, { name := "NEXT_TO_LAST", type := .int, accessFlags := 24, slot := 2, constantValue := 0 }, { name := "LAST", type := .int, accessFlags := 24, slot := 3, constantValue := 0 }, { name := "COST_ONLY", type := .int, accessFlags := 24, slot := 4, constantValue := 0 }, { name := "TIMED", type := .int, accessFlags := 24, slot := 5, constantValue := 0 }, { name := "MARKS", type := .long, accessFlags := 26, slot := 6, constantValue := 0 }]
  methods := #[k6m0, k6m1]
  instanceTypes := #[]
  staticTypes := #[.int, .int, .int, .int, .int, .int, .long]
  resolved := Array.replicate 45 none
  statics := none }

def pool7 : Array CpInfo := pool [(1, u "java/lang/Cloneable"), (0, .class_ 1), (0, u "java/lang/Object"), (0, .class_ 3)] 3

/-- java/lang/Cloneable -/
def k7 : Class := { plain "java/lang/Cloneable" (some 0) with
  accessFlags := 1537
  interfaces := #[]
  cf := some (fileOf pool7 2 #[] #[] 1537 4 #[] #[])
  fields := #[]
  methods := #[]
  instanceTypes := #[]
  staticTypes := #[]
  resolved := Array.replicate 8 none
  statics := none }

def pool8 : Array CpInfo := pool [(1, u "java/io/Serializable"), (0, .class_ 1), (0, u "java/lang/Object"), (0, .class_ 3)] 3

/-- java/io/Serializable -/
def k8 : Class := { plain "java/io/Serializable" (some 0) with
  accessFlags := 1537
  interfaces := #[]
  cf := some (fileOf pool8 2 #[] #[] 1537 4 #[] #[])
  fields := #[]
  methods := #[]
  instanceTypes := #[]
  staticTypes := #[]
  resolved := Array.replicate 8 none
  statics := none }

/-- the primitive byte -/
def k9 : Class := { plain "byte" none with kind := .primitive 'B', accessFlags := 0x411 }
/-- [B -/
def k10 : Class := { plain "[B" (some 0) with kind := .array 9 .byte, interfaces := #[7, 8], accessFlags := 1041 }

/-- the primitive int -/
def k11 : Class := { plain "int" none with kind := .primitive 'I', accessFlags := 0x411 }
/-- [I -/
def k12 : Class := { plain "[I" (some 0) with kind := .array 11 .int, interfaces := #[7, 8], accessFlags := 1041 }

/-- the primitive long -/
def k13 : Class := { plain "long" none with kind := .primitive 'J', accessFlags := 0x411 }
/-- [J -/
def k14 : Class := { plain "[J" (some 0) with kind := .array 13 .long, interfaces := #[7, 8], accessFlags := 1041 }

def heap : Heap := #[{ cls := 2, slots := #[.ref 1, .long 0], vm := .statics 2 },
  { cls := 14, slots := #[], vm := .none }]
def classes : Array Class := #[k0, k1, k2, k3, k4, k5, k6, k7, k8, k9, k10, k11, k12, k13, k14]
def interned : List (Array UInt16 × Addr) := []
def slotsUsed : Nat := 2
def theMethod : MethodId := ⟨1, 1⟩
def args0 : Array Value := #[.long 5, .long 7, .long 9, .long 3, .long 2, .long 8]
def aboutOver (below : List Frame) : State where
  vm := { classes := classes, interned := interned.toArray }
  heap := heap
  slotsUsed := slotsUsed
  threads := #[{ frames := .invoking theMethod args0 :: below }]
def below0 : List Frame := [.native { method := ⟨0, 0⟩, args := #[] }]
def about1 : State := aboutOver below0
def p0 : Program := .bare "" "" ""
def e0 : Env := launch0.env 0 0 0
theorem w_frames : about1.frames = Frame.invoking theMethod args0 :: below0 := rfl
set_option maxRecDepth 65536 in
theorem w_args : argsFit about1.vm theMethod args0 = true := by decide +kernel
set_option maxRecDepth 65536 in
theorem w_heap : heapFits about1 = true := by decide +kernel
set_option maxRecDepth 65536 in
theorem w_runnable : about1.curStatus? = some .runnable := by decide +kernel
set_option maxRecDepth 65536 in
theorem w_alone : about1.alone = true := by decide +kernel
set_option maxRecDepth 65536 in
theorem w_named : about1.methodNamed? x = some theMethod := by decide +kernel
set_option maxRecDepth 65536 in
theorem w_hears : about1.hears theMethod below0 = true := by decide +kernel
set_option maxRecDepth 65536 in
theorem w_ripe : about1.ripe theMethod args0 below0 = true := by decide +kernel
theorem w_running : about1.status = .running := rfl
set_option maxRecDepth 65536 in
theorem w_room : about1.hasRoom e0.platform room_1 = true :=
  launch0.hasRoom_least _ room_1 (by decide +kernel) (by decide +kernel) (by decide +kernel) (by decide +kernel) (by decide +kernel) (by decide +kernel)
theorem allAtoms_all (ts : List Jvm.Cond) (a : Array Jvm.Value) (st : Jvm.State) : (allAtoms ts).before a st = ts.all (fun c => c.before a st) := by
  induction ts with
  | nil => rfl
  | cons c t ih =>
    show (Jvm.Cond.and c (allAtoms t)).before a st = _
    rw [Jvm.Cond.before_and, ih, List.all_cons]
def words1 : List Jvm.Cond := Jvm.Cond.code x code maxLocals ret :: tables_1
/-- a 'code' word, met by the world's own term for the bytes: nothing is compared byte by byte -/
theorem code_word {y : MethodName} {bytes : ByteArray} {mx : Nat} {rt : Option FieldType} {a : Array Value} {s : State} {m : MethodId} {meth : Method} {c : Code} (h1 : s.methodNamed? y = some m) (h2 : s.vm.method? m = some meth) (h3 : meth.code = some c) (h4 : c.code = bytes)
    (h5 : (c.maxLocals == mx && c.exceptionTable.isEmpty && decide (c.maxStack ≤ mostOperands) && decide (meth.sig.returnType = rt) && !meth.locks && decide (parseMethodDescriptor y.desc = some meth.sig)) = true) : (Jvm.Cond.code y bytes mx rt).before a s = true := by
  simp only [Bool.and_eq_true, beq_iff_eq, Bool.not_eq_true', decide_eq_true_eq] at h5
  obtain ⟨⟨⟨⟨⟨g1, g2⟩, g3⟩, g4⟩, g5⟩, g6⟩ := h5
  simp [Cond.before, Cond.holds, Cond.value, h1, h2, h3, h4, g1, g2, g3, g4, g5, g6]
def isCode : Jvm.Cond → Bool
  | .code _ _ _ _ => true
  | _ => false
theorem all_split {L : List Jvm.Cond} {P : Jvm.Cond → Bool} (h1 : L.all (fun c => isCode c || P c) = true) (h2 : ∀ c ∈ L.filter isCode, P c = true) : L.all P = true := by
  refine List.all_eq_true.mpr fun c hc => ?_
  have h := List.all_eq_true.mp h1 c hc
  rcases Bool.eq_false_or_eq_true (isCode c) with hi | hi
  · exact h2 c (List.mem_filter.mpr ⟨hc, hi⟩)
  · simpa [hi] using h
set_option maxRecDepth 65536 in
theorem w_c0 : (Jvm.Cond.code x code maxLocals ret).before args0 about1 = true := code_word (m := ⟨1, 1⟩) (meth := k1m1) (c := k1c1) (by decide +kernel) rfl rfl rfl (by decide +kernel)
set_option maxRecDepth 65536 in
theorem w_c1 : (Jvm.Cond.code ({ cls := "com/example/strict_limiter/strictlimiter/KeptWindows", name := "<init>", desc := "(I)V" } : Jvm.MethodName) prog_23_method_1_code (2 : Nat) (Option.none : Option Jvm.ClassFile.FieldType)).before args0 about1 = true := code_word (m := ⟨2, 0⟩) (meth := k2m0) (c := k2c0) (by decide +kernel) rfl rfl rfl (by decide +kernel)
set_option maxRecDepth 65536 in
theorem w_c2 : (Jvm.Cond.code ({ cls := "java/lang/Object", name := "<init>", desc := "()V" } : Jvm.MethodName) object_method_1_code (1 : Nat) (Option.none : Option Jvm.ClassFile.FieldType)).before args0 about1 = true := code_word (m := ⟨0, 0⟩) (meth := k0m0) (c := k0c0) (by decide +kernel) rfl rfl rfl (by decide +kernel)
set_option maxRecDepth 65536 in
theorem w_c3 : (Jvm.Cond.code ({ cls := "com/example/strict_limiter/strictlimiter/KeptWindows", name := "add", desc := "(JJJJ)V" } : Jvm.MethodName) prog_23_method_5_code (10 : Nat) (Option.none : Option Jvm.ClassFile.FieldType)).before args0 about1 = true := code_word (m := ⟨2, 4⟩) (meth := k2m4) (c := k2c4) (by decide +kernel) rfl rfl rfl (by decide +kernel)
set_option maxRecDepth 65536 in
theorem w_c4 : (Jvm.Cond.code ({ cls := "java/util/Arrays", name := "binarySearch", desc := "([JIIJ)I" } : Jvm.MethodName) jdk_65_method_55_code (5 : Nat) (Option.some Jvm.ClassFile.FieldType.int)).before args0 about1 = true := code_word (m := ⟨3, 2⟩) (meth := k3m2) (c := k3c2) (by decide +kernel) rfl rfl rfl (by decide +kernel)
set_option maxRecDepth 65536 in
theorem w_c5 : (Jvm.Cond.code ({ cls := "java/util/Arrays", name := "rangeCheck", desc := "(III)V" } : Jvm.MethodName) jdk_65_method_30_code (3 : Nat) (Option.none : Option Jvm.ClassFile.FieldType)).before args0 about1 = true := code_word (m := ⟨3, 1⟩) (meth := k3m1) (c := k3c1) (by decide +kernel) rfl rfl rfl (by decide +kernel)
set_option maxRecDepth 65536 in
theorem w_c6 : (Jvm.Cond.code ({ cls := "java/util/Arrays", name := "binarySearch0", desc := "([JIIJ)I" } : Jvm.MethodName) jdk_65_method_56_code (10 : Nat) (Option.some Jvm.ClassFile.FieldType.int)).before args0 about1 = true := code_word (m := ⟨3, 3⟩) (meth := k3m3) (c := k3c3) (by decide +kernel) rfl rfl rfl (by decide +kernel)
set_option maxRecDepth 65536 in
theorem w_c7 : (Jvm.Cond.code ({ cls := "com/example/strict_limiter/strictlimiter/KeptWindows", name := "insert", desc := "(IJ)I" } : Jvm.MethodName) prog_23_method_7_code (7 : Nat) (Option.some Jvm.ClassFile.FieldType.int)).before args0 about1 = true := code_word (m := ⟨2, 5⟩) (meth := k2m5) (c := k2c5) (by decide +kernel) rfl rfl rfl (by decide +kernel)
set_option maxRecDepth 65536 in
theorem w_c8 : (Jvm.Cond.code ({ cls := "java/lang/Math", name := "max", desc := "(II)I" } : Jvm.MethodName) jdk_29_method_65_code (2 : Nat) (Option.some Jvm.ClassFile.FieldType.int)).before args0 about1 = true := code_word (m := ⟨4, 1⟩) (meth := k4m1) (c := k4c1) (by decide +kernel) rfl rfl rfl (by decide +kernel)
set_option maxRecDepth 65536 in
theorem w_c9 : (Jvm.Cond.code ({ cls := "com/example/strict_limiter/strictlimiter/KeptWindows", name := "movedToFront", desc := "([JII)[J" } : Jvm.MethodName) prog_23_method_8_code (5 : Nat) (Option.some (Jvm.ClassFile.FieldType.array Jvm.ClassFile.FieldType.long))).before args0 about1 = true := code_word (m := ⟨2, 6⟩) (meth := k2m6) (c := k2c6) (by decide +kernel) rfl rfl rfl (by decide +kernel)
set_option maxRecDepth 65536 in
theorem w_c10 : (Jvm.Cond.code ({ cls := "java/util/Arrays", name := "fill", desc := "([JIIJ)V" } : Jvm.MethodName) jdk_65_method_102_code (6 : Nat) (Option.none : Option Jvm.ClassFile.FieldType)).before args0 about1 = true := code_word (m := ⟨3, 4⟩) (meth := k3m4) (c := k3c4) (by decide +kernel) rfl rfl rfl (by decide +kernel)
set_option maxRecDepth 65536 in
theorem w_c11 : (Jvm.Cond.code ({ cls := "com/example/strict_limiter/strictlimiter/WindowRecord", name := "add", desc := "([JIIJJ)V" } : Jvm.MethodName) prog_59_method_3_code (9 : Nat) (Option.none : Option Jvm.ClassFile.FieldType)).before args0 about1 = true := code_word (m := ⟨6, 1⟩) (meth := k6m1) (c := k6c1) (by decide +kernel) rfl rfl rfl (by decide +kernel)
set_option maxRecDepth 65536 in
theorem w_c12 : (Jvm.Cond.code ({ cls := "com/example/strict_limiter/strictlimiter/KeptWindows", name := "forget", desc := "(JJJ)V" } : Jvm.MethodName) prog_23_method_2_code (7 : Nat) (Option.none : Option Jvm.ClassFile.FieldType)).before args0 about1 = true := code_word (m := ⟨2, 1⟩) (meth := k2m1) (c := k2c1) (by decide +kernel) rfl rfl rfl (by decide +kernel)
set_option maxRecDepth 65536 in
theorem w_c13 : (Jvm.Cond.code ({ cls := "com/example/strict_limiter/strictlimiter/KeptWindows", name := "firstStart", desc := "()J" } : Jvm.MethodName) prog_23_method_3_code (1 : Nat) (Option.some Jvm.ClassFile.FieldType.long)).before args0 about1 = true := code_word (m := ⟨2, 2⟩) (meth := k2m2) (c := k2c2) (by decide +kernel) rfl rfl rfl (by decide +kernel)
set_option maxRecDepth 65536 in
theorem w_c14 : (Jvm.Cond.code ({ cls := "com/example/strict_limiter/strictlimiter/KeptWindows", name := "field", desc := "(JI)J" } : Jvm.MethodName) prog_23_method_4_code (5 : Nat) (Option.some Jvm.ClassFile.FieldType.long)).before args0 about1 = true := code_word (m := ⟨2, 3⟩) (meth := k2m3) (c := k2c3) (by decide +kernel) rfl rfl rfl (by decide +kernel)
def codes1 : List Jvm.Cond := [Jvm.Cond.code x code maxLocals ret, Jvm.Cond.code ({ cls := "com/example/strict_limiter/strictlimiter/KeptWindows", name := "<init>", desc := "(I)V" } : Jvm.MethodName) prog_23_method_1_code (2 : Nat) (Option.none : Option Jvm.ClassFile.FieldType), Jvm.Cond.code ({ cls := "java/lang/Object", name := "<init>", desc := "()V" } : Jvm.MethodName) object_method_1_code (1 : Nat) (Option.none : Option Jvm.ClassFile.FieldType), Jvm.Cond.code ({ cls := "com/example/strict_limiter/strictlimiter/KeptWindows", name := "add", desc := "(JJJJ)V" } : Jvm.MethodName) prog_23_method_5_code (10 : Nat) (Option.none : Option Jvm.ClassFile.FieldType), Jvm.Cond.code ({ cls := "java/util/Arrays", name := "binarySearch", desc := "([JIIJ)I" } : Jvm.MethodName) jdk_65_method_55_code (5 : Nat) (Option.some Jvm.ClassFile.FieldType.int), Jvm.Cond.code ({ cls := "java/util/Arrays", name := "rangeCheck", desc := "(III)V" } : Jvm.MethodName) jdk_65_method_30_code (3 : Nat) (Option.none : Option Jvm.ClassFile.FieldType), Jvm.Cond.code ({ cls := "java/util/Arrays", name := "binarySearch0", desc := "([JIIJ)I" } : Jvm.MethodName) jdk_65_method_56_code (10 : Nat) (Option.some Jvm.ClassFile.FieldType.int), Jvm.Cond.code ({ cls := "com/example/strict_limiter/strictlimiter/KeptWindows", name := "insert", desc := "(IJ)I" } : Jvm.MethodName) prog_23_method_7_code (7 : Nat) (Option.some Jvm.ClassFile.FieldType.int), Jvm.Cond.code ({ cls := "java/lang/Math", name := "max", desc := "(II)I" } : Jvm.MethodName) jdk_29_method_65_code (2 : Nat) (Option.some Jvm.ClassFile.FieldType.int), Jvm.Cond.code ({ cls := "com/example/strict_limiter/strictlimiter/KeptWindows", name := "movedToFront", desc := "([JII)[J" } : Jvm.MethodName) prog_23_method_8_code (5 : Nat) (Option.some (Jvm.ClassFile.FieldType.array Jvm.ClassFile.FieldType.long)), Jvm.Cond.code ({ cls := "java/util/Arrays", name := "fill", desc := "([JIIJ)V" } : Jvm.MethodName) jdk_65_method_102_code (6 : Nat) (Option.none : Option Jvm.ClassFile.FieldType), Jvm.Cond.code ({ cls := "com/example/strict_limiter/strictlimiter/WindowRecord", name := "add", desc := "([JIIJJ)V" } : Jvm.MethodName) prog_59_method_3_code (9 : Nat) (Option.none : Option Jvm.ClassFile.FieldType), Jvm.Cond.code ({ cls := "com/example/strict_limiter/strictlimiter/KeptWindows", name := "forget", desc := "(JJJ)V" } : Jvm.MethodName) prog_23_method_2_code (7 : Nat) (Option.none : Option Jvm.ClassFile.FieldType), Jvm.Cond.code ({ cls := "com/example/strict_limiter/strictlimiter/KeptWindows", name := "firstStart", desc := "()J" } : Jvm.MethodName) prog_23_method_3_code (1 : Nat) (Option.some Jvm.ClassFile.FieldType.long), Jvm.Cond.code ({ cls := "com/example/strict_limiter/strictlimiter/KeptWindows", name := "field", desc := "(JI)J" } : Jvm.MethodName) prog_23_method_4_code (5 : Nat) (Option.some Jvm.ClassFile.FieldType.long)]
set_option maxRecDepth 65536 in
theorem codes_eq : words1.filter isCode = codes1 := rfl
theorem w_codes : ∀ c ∈ words1.filter isCode, c.before args0 about1 = true := by
  rw [codes_eq]
  intro c hc
  simp only [codes1, List.mem_cons, List.not_mem_nil, or_false] at hc
  rcases hc with rfl | rfl | rfl | rfl | rfl | rfl | rfl | rfl | rfl | rfl | rfl | rfl | rfl | rfl | rfl
  · exact w_c0
  · exact w_c1
  · exact w_c2
  · exact w_c3
  · exact w_c4
  · exact w_c5
  · exact w_c6
  · exact w_c7
  · exact w_c8
  · exact w_c9
  · exact w_c10
  · exact w_c11
  · exact w_c12
  · exact w_c13
  · exact w_c14
set_option maxRecDepth 65536 in
theorem w_t1 : (words1.take 24).all (fun c => isCode c || c.before args0 about1) = true := by decide +kernel
set_option maxRecDepth 65536 in
theorem w_t2 : ((words1.drop 24).take 24).all (fun c => isCode c || c.before args0 about1) = true := by decide +kernel
set_option maxRecDepth 65536 in
theorem w_t3 : (((words1.drop 24).drop 24).take 24).all (fun c => isCode c || c.before args0 about1) = true := by decide +kernel
set_option maxRecDepth 65536 in
theorem w_t4 : (((words1.drop 24).drop 24).drop 24).all (fun c => isCode c || c.before args0 about1) = true := by decide +kernel
theorem w_tables : (allAtoms (Jvm.Cond.code x code maxLocals ret :: tables_1)).before args0 about1 = true := by
  rw [allAtoms_all]
  show words1.all (fun c => c.before args0 about1) = true
  refine all_split ?_ w_codes
  rw [← List.take_append_drop 24 words1, List.all_append, w_t1, ← List.take_append_drop 24 (words1.drop 24), List.all_append, w_t2, ← List.take_append_drop 24 ((words1.drop 24).drop 24), List.all_append, w_t3, w_t4]
  rfl
set_option maxRecDepth 65536 in
theorem w_case : (Jvm.Cond.and given_1 narrow_1).before args0 about1 = true := by decide +kernel
theorem w_applies : (headSpec (Jvm.Cond.code x code maxLocals ret :: tables_1) room_1).applies x e0.platform about1 = true :=
  (Spec.applies_iff w_frames).mpr ⟨w_running, w_runnable, w_alone, w_named, w_hears, w_ripe, w_room, w_tables⟩
theorem atStart : AtStart classFile x code maxLocals ret World_1 tables_1 room_1 Calls_1 rest_1 Pre_1 launch0 p0 e0 about1 theMethod args0 below0 :=
  ⟨lists_1, trivial, launch0.admits_env _ _ _, launch0.least_env, fairChoices_fair.cas, fairChoices_fair.clock, w_frames, w_args, w_heap, w_applies, trivial, trivial, w_case⟩
end start1
theorem witness_1 : WitnessClaimed_1 := ⟨start1.p0, start1.e0, start1.about1, start1.theMethod, start1.args0, start1.below0, start1.atStart⟩
end Jvm.Pilot.@@N@@

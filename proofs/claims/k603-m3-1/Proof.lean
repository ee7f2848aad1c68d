import JvmDerived
import JvmDerived.Pilot.@@N@@Statement
import JvmDerived.Pilot.@@N@@Code
set_option linter.unusedVariables false
set_option linter.unusedSimpArgs false
namespace Jvm.RoadKit
open Sem ClassFile Op Lib Jvm.Stand Jvm.Free Jvm.LawKit
section New
variable {p : Program} {l : Launch} {e : Env} {R : Room} {s : State} {m : MethodId} {args : Array Value} {below : List Frame} {meth : Method} {c : Code} {T : State} {locs : List Loc} {cells slots : Nat}
theorem retI (X : Stand p l e R s m args below meth c T locs cells slots) (hx : p.tables.exec = Jvm.exec) {pc : Nat} {Ls : Array Slot} {z : Int32} {rest : List Value} (hret : meth.sig.returnType = some .int) (hd : decode c.code pc = .ok (.ireturn, 1)) {fs : List Frame}
    (hl : ∀ (f : JFrame) (acts : List Action), f.method = m → f.locked = none → f.entered = [] → (doReturn e (T.setTop f) acts (some (.int z))).1 = T.setFrames fs) : Steps p.tables e below (T.setTop (mkF m pc Ls (.int z :: rest))) (T.setFrames fs) :=
  retOut X hx hret rfl (Or.inl ⟨rfl, Or.inl rfl, z, rfl⟩) hd hl
theorem own_lremM {g : JFrame} {target : State} (X : Stand p l e R s m args below meth c T locs cells slots) (hx : p.tables.exec = Jvm.exec) (hg : g.method = m) {x y : Int64} {rest : List Value} (hd : decode c.code g.pc = .ok (.lrem, 1)) (hs : g.stack = .long y :: .long x :: rest) (hy : y ≠ 0)
    (hr : Steps p.tables e below (T.setTop { g with pc := g.pc + 1, stack := .long (x % y) :: rest }) target) : Steps p.tables e below (T.setTop g) target := by
  have q : x - x / y * y = x % y := lrem_mod x y
  exact XS.lrem X.here hx hg hd hs hy (by rw [q]; exact hr)
theorem own_evInt {Z : State} {args : Array Value} {t : Term} {k : Int32} (h : (Jvm.Cond.eq t (.int k)).value args Z none Z [] = some true) : t.eval args Z none [] Z = some (.int k) := by
  obtain ⟨x, y, h1, h2, -, -⟩ := cmp_v (Or.inl h)
  have hy : y = .int k := Option.some.inj (h2.symm.trans (Term.int_eval k))
  subst hy
  have hx : x = .int k := by
    cases x <;> simp [Cond.value, h1, h2] at h ⊢
    exact h
  rw [h1, hx]
theorem own_selPriv {y : MethodName} {kI : Nat} (hI : (Jvm.Cond.instantiable y.cls kI).before args s = true) (hpriv : s.PrivateAt y) (hinst : (Jvm.Cond.instanceMethod y).before args s = true) (hy : y.cls ≠ "java/lang/invoke/MethodHandle" ∧ y.cls ≠ "java/lang/invoke/VarHandle") : (Jvm.Cond.selects y.cls y y).before args s = true := by
  obtain ⟨c, k, h1, h2, -, h4, -⟩ := Cond.instantiable_spec hI
  exact selects_self_of_private h1 h2 (Bool.or_eq_false_iff.mp h4).1 hpriv hinst hy
theorem own_since0 (s : State) : s.Since s.vm 0 := (State.WarmedH.refl s).since _
theorem own_irr32 (x : Int32) : ¬ (x < x) := Int32.lt_irrefl
theorem own_irr64 (x : Int64) : ¬ (x < x) := Int64.lt_irrefl
theorem own_fldInt {Z : State} {args : Array Value} {t : Term} {a : Addr} {C n d : String} {k : Int32} (ev : t.eval args Z none [] Z = some (.ref a)) (h : (Jvm.Cond.eq (.field t C n d) (.int k)).value args Z none Z [] = some true) : Fld Z Z.heap a C n d (.int k) := by
  obtain ⟨x, y, h1, h2, -, -⟩ := cmp_v (Or.inl h)
  have hy : y = .int k := Option.some.inj (h2.symm.trans (Term.int_eval k))
  subst hy
  have hx : x = .int k := by
    cases x <;> simp [Cond.value, h1, h2] at h ⊢
    exact h
  rw [fld_at ev] at h1
  exact Fld.start (hx ▸ h1)
end New
end Jvm.RoadKit
namespace Jvm.Pilot.@@N@@
open Jvm Jvm.ClassFile Sem Op Lib Jvm.Free Jvm.Stand Jvm.LawKit Jvm.RoadKit Bundle Jvm.Pilot.@@N@@.Jvm.D
abbrev mn0 : MethodName := ⟨"com/example/strict_limiter/strictlimiter/KeptWindows", "<init>", "(I)V"⟩
abbrev mn1 : MethodName := ⟨"com/example/strict_limiter/strictlimiter/KeptWindows", "add", "(JJJJ)V"⟩
abbrev mn2 : MethodName := ⟨"com/example/strict_limiter/strictlimiter/KeptWindows", "firstStart", "()J"⟩
abbrev mn3 : MethodName := ⟨"com/example/strict_limiter/strictlimiter/KeptWindows", "forget", "(JJJ)V"⟩
abbrev mn4 : MethodName := ⟨"com/example/strict_limiter/strictlimiter/KeptWindows", "insert", "(IJ)I"⟩
abbrev mn5 : MethodName := ⟨"com/example/strict_limiter/strictlimiter/KeptWindows", "movedToFront", "([JII)[J"⟩
abbrev mn6 : MethodName := ⟨"com/example/strict_limiter/strictlimiter/WindowRecord", "add", "([JIIJJ)V"⟩
abbrev mn7 : MethodName := ⟨"java/lang/Math", "max", "(II)I"⟩
abbrev mn8 : MethodName := ⟨"java/lang/Math", "max", "(JJ)J"⟩
abbrev mn9 : MethodName := ⟨"java/lang/Math", "min", "(JJ)J"⟩
abbrev mn10 : MethodName := ⟨"java/util/Arrays", "binarySearch", "([JIIJ)I"⟩
abbrev mn11 : MethodName := ⟨"java/util/Arrays", "binarySearch0", "([JIIJ)I"⟩
abbrev mn12 : MethodName := ⟨"java/util/Arrays", "fill", "([JIIJ)V"⟩
abbrev mn13 : MethodName := ⟨"java/util/Arrays", "rangeCheck", "(III)V"⟩
abbrev cn1 : String := "com/example/strict_limiter/strictlimiter/WindowRecord"
abbrev cn2 : String := "com/example/strict_limiter/strictlimiter/KeptWindows"
theorem wd0 {a0 : Array Value} {Z : State} (hw : ∀ d ∈ tables_1, d.before a0 Z = true) : (Jvm.Cond.classLink "com/example/strict_limiter/strictlimiter/KeptWindowsFirstStartPinLaw" (7 : Nat) "com/example/strict_limiter/strictlimiter/KeptWindows").before a0 Z = true := hw _ (List.mem_of_getElem? (i := 0) rfl)
theorem wd1 {a0 : Array Value} {Z : State} (hw : ∀ d ∈ tables_1, d.before a0 Z = true) : (Jvm.Cond.instantiable "com/example/strict_limiter/strictlimiter/KeptWindows" (6 : Nat)).before a0 Z = true := hw _ (List.mem_of_getElem? (i := 1) rfl)
theorem wd2 {a0 : Array Value} {Z : State} (hw : ∀ d ∈ tables_1, d.before a0 Z = true) : (Jvm.Cond.initialized "com/example/strict_limiter/strictlimiter/KeptWindows").before a0 Z = true := hw _ (List.mem_of_getElem? (i := 2) rfl)
theorem wd3 {a0 : Array Value} {Z : State} (hw : ∀ d ∈ tables_1, d.before a0 Z = true) : (Jvm.Cond.methodLink "com/example/strict_limiter/strictlimiter/KeptWindowsFirstStartPinLaw" (9 : Nat) ({ cls := "com/example/strict_limiter/strictlimiter/KeptWindows", name := "<init>", desc := "(I)V" } : Jvm.MethodName)).before a0 Z = true := hw _ (List.mem_of_getElem? (i := 3) rfl)
theorem wd4 {a0 : Array Value} {Z : State} (hw : ∀ d ∈ tables_1, d.before a0 Z = true) : (Jvm.Cond.instanceMethod ({ cls := "com/example/strict_limiter/strictlimiter/KeptWindows", name := "<init>", desc := "(I)V" } : Jvm.MethodName)).before a0 Z = true := hw _ (List.mem_of_getElem? (i := 4) rfl)
theorem wd5 {a0 : Array Value} {Z : State} (hw : ∀ d ∈ tables_1, d.before a0 Z = true) : (Jvm.Cond.code ({ cls := "com/example/strict_limiter/strictlimiter/KeptWindows", name := "<init>", desc := "(I)V" } : Jvm.MethodName) prog_23_method_1_code (2 : Nat) (Option.none : Option Jvm.ClassFile.FieldType)).before a0 Z = true := hw _ (List.mem_of_getElem? (i := 5) rfl)
theorem wd6 {a0 : Array Value} {Z : State} (hw : ∀ d ∈ tables_1, d.before a0 Z = true) : (Jvm.Cond.methodLink "com/example/strict_limiter/strictlimiter/KeptWindows" (1 : Nat) ({ cls := "java/lang/Object", name := "<init>", desc := "()V" } : Jvm.MethodName)).before a0 Z = true := hw _ (List.mem_of_getElem? (i := 6) rfl)
theorem wd7 {a0 : Array Value} {Z : State} (hw : ∀ d ∈ tables_1, d.before a0 Z = true) : (Jvm.Cond.instanceMethod ({ cls := "java/lang/Object", name := "<init>", desc := "()V" } : Jvm.MethodName)).before a0 Z = true := hw _ (List.mem_of_getElem? (i := 7) rfl)
theorem wd8 {a0 : Array Value} {Z : State} (hw : ∀ d ∈ tables_1, d.before a0 Z = true) : (Jvm.Cond.code ({ cls := "java/lang/Object", name := "<init>", desc := "()V" } : Jvm.MethodName) object_method_1_code (1 : Nat) (Option.none : Option Jvm.ClassFile.FieldType)).before a0 Z = true := hw _ (List.mem_of_getElem? (i := 8) rfl)
theorem wd9 {a0 : Array Value} {Z : State} (hw : ∀ d ∈ tables_1, d.before a0 Z = true) : (Jvm.Cond.fieldLink "com/example/strict_limiter/strictlimiter/KeptWindows" (7 : Nat) "com/example/strict_limiter/strictlimiter/KeptWindows" "NONE" "[J").before a0 Z = true := hw _ (List.mem_of_getElem? (i := 9) rfl)
theorem wd10 {a0 : Array Value} {Z : State} (hw : ∀ d ∈ tables_1, d.before a0 Z = true) : (Jvm.Cond.laysStatic "com/example/strict_limiter/strictlimiter/KeptWindows" "NONE" "[J").before a0 Z = true := hw _ (List.mem_of_getElem? (i := 10) rfl)
theorem wd11 {a0 : Array Value} {Z : State} (hw : ∀ d ∈ tables_1, d.before a0 Z = true) : (Jvm.Cond.fieldLink "com/example/strict_limiter/strictlimiter/KeptWindows" (13 : Nat) "com/example/strict_limiter/strictlimiter/KeptWindows" "starts" "[J").before a0 Z = true := hw _ (List.mem_of_getElem? (i := 11) rfl)
theorem wd12 {a0 : Array Value} {Z : State} (hw : ∀ d ∈ tables_1, d.before a0 Z = true) : (Jvm.Cond.lays "com/example/strict_limiter/strictlimiter/KeptWindows" "com/example/strict_limiter/strictlimiter/KeptWindows" "starts" "[J").before a0 Z = true := hw _ (List.mem_of_getElem? (i := 12) rfl)
theorem wd13 {a0 : Array Value} {Z : State} (hw : ∀ d ∈ tables_1, d.before a0 Z = true) : (Jvm.Cond.fieldLink "com/example/strict_limiter/strictlimiter/KeptWindows" (16 : Nat) "com/example/strict_limiter/strictlimiter/KeptWindows" "records" "[J").before a0 Z = true := hw _ (List.mem_of_getElem? (i := 13) rfl)
theorem wd14 {a0 : Array Value} {Z : State} (hw : ∀ d ∈ tables_1, d.before a0 Z = true) : (Jvm.Cond.lays "com/example/strict_limiter/strictlimiter/KeptWindows" "com/example/strict_limiter/strictlimiter/KeptWindows" "records" "[J").before a0 Z = true := hw _ (List.mem_of_getElem? (i := 14) rfl)
theorem wd15 {a0 : Array Value} {Z : State} (hw : ∀ d ∈ tables_1, d.before a0 Z = true) : (Jvm.Cond.fieldLink "com/example/strict_limiter/strictlimiter/KeptWindows" (19 : Nat) "com/example/strict_limiter/strictlimiter/KeptWindows" "decidedAt" "[J").before a0 Z = true := hw _ (List.mem_of_getElem? (i := 15) rfl)
theorem wd16 {a0 : Array Value} {Z : State} (hw : ∀ d ∈ tables_1, d.before a0 Z = true) : (Jvm.Cond.lays "com/example/strict_limiter/strictlimiter/KeptWindows" "com/example/strict_limiter/strictlimiter/KeptWindows" "decidedAt" "[J").before a0 Z = true := hw _ (List.mem_of_getElem? (i := 16) rfl)
theorem wd17 {a0 : Array Value} {Z : State} (hw : ∀ d ∈ tables_1, d.before a0 Z = true) : (Jvm.Cond.fieldLink "com/example/strict_limiter/strictlimiter/KeptWindows" (22 : Nat) "com/example/strict_limiter/strictlimiter/KeptWindows" "width" "I").before a0 Z = true := hw _ (List.mem_of_getElem? (i := 17) rfl)
theorem wd18 {a0 : Array Value} {Z : State} (hw : ∀ d ∈ tables_1, d.before a0 Z = true) : (Jvm.Cond.laysFinal "com/example/strict_limiter/strictlimiter/KeptWindows" "com/example/strict_limiter/strictlimiter/KeptWindows" "width" "I").before a0 Z = true := hw _ (List.mem_of_getElem? (i := 18) rfl)
theorem wd19 {a0 : Array Value} {Z : State} (hw : ∀ d ∈ tables_1, d.before a0 Z = true) : (Jvm.Cond.methodLink "com/example/strict_limiter/strictlimiter/KeptWindowsFirstStartPinLaw" (12 : Nat) ({ cls := "com/example/strict_limiter/strictlimiter/KeptWindows", name := "firstStart", desc := "()J" } : Jvm.MethodName)).before a0 Z = true := hw _ (List.mem_of_getElem? (i := 19) rfl)
theorem wd20 {a0 : Array Value} {Z : State} (hw : ∀ d ∈ tables_1, d.before a0 Z = true) : (Jvm.Cond.declares ({ cls := "com/example/strict_limiter/strictlimiter/KeptWindows", name := "firstStart", desc := "()J" } : Jvm.MethodName)).before a0 Z = true := hw _ (List.mem_of_getElem? (i := 20) rfl)
theorem wd21 {a0 : Array Value} {Z : State} (hw : ∀ d ∈ tables_1, d.before a0 Z = true) : (Jvm.Cond.instanceMethod ({ cls := "com/example/strict_limiter/strictlimiter/KeptWindows", name := "firstStart", desc := "()J" } : Jvm.MethodName)).before a0 Z = true := hw _ (List.mem_of_getElem? (i := 21) rfl)
theorem wd22 {a0 : Array Value} {Z : State} (hw : ∀ d ∈ tables_1, d.before a0 Z = true) : (Jvm.Cond.selects "com/example/strict_limiter/strictlimiter/KeptWindows" ({ cls := "com/example/strict_limiter/strictlimiter/KeptWindows", name := "firstStart", desc := "()J" } : Jvm.MethodName) ({ cls := "com/example/strict_limiter/strictlimiter/KeptWindows", name := "firstStart", desc := "()J" } : Jvm.MethodName)).before a0 Z = true := hw _ (List.mem_of_getElem? (i := 22) rfl)
theorem wd23 {a0 : Array Value} {Z : State} (hw : ∀ d ∈ tables_1, d.before a0 Z = true) : (Jvm.Cond.code ({ cls := "com/example/strict_limiter/strictlimiter/KeptWindows", name := "firstStart", desc := "()J" } : Jvm.MethodName) prog_23_method_3_code (1 : Nat) (Option.some Jvm.ClassFile.FieldType.long)).before a0 Z = true := hw _ (List.mem_of_getElem? (i := 23) rfl)
theorem wd24 {a0 : Array Value} {Z : State} (hw : ∀ d ∈ tables_1, d.before a0 Z = true) : (Jvm.Cond.fieldLink "com/example/strict_limiter/strictlimiter/KeptWindows" (26 : Nat) "com/example/strict_limiter/strictlimiter/KeptWindows" "first" "I").before a0 Z = true := hw _ (List.mem_of_getElem? (i := 24) rfl)
theorem wd25 {a0 : Array Value} {Z : State} (hw : ∀ d ∈ tables_1, d.before a0 Z = true) : (Jvm.Cond.lays "com/example/strict_limiter/strictlimiter/KeptWindows" "com/example/strict_limiter/strictlimiter/KeptWindows" "first" "I").before a0 Z = true := hw _ (List.mem_of_getElem? (i := 25) rfl)
theorem wd26 {a0 : Array Value} {Z : State} (hw : ∀ d ∈ tables_1, d.before a0 Z = true) : (Jvm.Cond.fieldLink "com/example/strict_limiter/strictlimiter/KeptWindows" (29 : Nat) "com/example/strict_limiter/strictlimiter/KeptWindows" "end" "I").before a0 Z = true := hw _ (List.mem_of_getElem? (i := 26) rfl)
theorem wd27 {a0 : Array Value} {Z : State} (hw : ∀ d ∈ tables_1, d.before a0 Z = true) : (Jvm.Cond.lays "com/example/strict_limiter/strictlimiter/KeptWindows" "com/example/strict_limiter/strictlimiter/KeptWindows" "end" "I").before a0 Z = true := hw _ (List.mem_of_getElem? (i := 27) rfl)
theorem wd28 {a0 : Array Value} {Z : State} (hw : ∀ d ∈ tables_1, d.before a0 Z = true) : (Jvm.Cond.constantLong "com/example/strict_limiter/strictlimiter/KeptWindows" (36 : Nat) (9223372036854775807 : Int64)).before a0 Z = true := hw _ (List.mem_of_getElem? (i := 28) rfl)
theorem wd29 {a0 : Array Value} {Z : State} (hw : ∀ d ∈ tables_1, d.before a0 Z = true) : (Jvm.Cond.constantLong "com/example/strict_limiter/strictlimiter/KeptWindowsFirstStartPinLaw" (18 : Nat) (9223372036854775807 : Int64)).before a0 Z = true := hw _ (List.mem_of_getElem? (i := 29) rfl)
theorem wd30 {a0 : Array Value} {Z : State} (hw : ∀ d ∈ tables_1, d.before a0 Z = true) : (Jvm.Cond.methodLink "com/example/strict_limiter/strictlimiter/KeptWindowsFirstStartPinLaw" (20 : Nat) ({ cls := "com/example/strict_limiter/strictlimiter/KeptWindows", name := "add", desc := "(JJJJ)V" } : Jvm.MethodName)).before a0 Z = true := hw _ (List.mem_of_getElem? (i := 30) rfl)
theorem wd31 {a0 : Array Value} {Z : State} (hw : ∀ d ∈ tables_1, d.before a0 Z = true) : (Jvm.Cond.declares ({ cls := "com/example/strict_limiter/strictlimiter/KeptWindows", name := "add", desc := "(JJJJ)V" } : Jvm.MethodName)).before a0 Z = true := hw _ (List.mem_of_getElem? (i := 31) rfl)
theorem wd32 {a0 : Array Value} {Z : State} (hw : ∀ d ∈ tables_1, d.before a0 Z = true) : (Jvm.Cond.instanceMethod ({ cls := "com/example/strict_limiter/strictlimiter/KeptWindows", name := "add", desc := "(JJJJ)V" } : Jvm.MethodName)).before a0 Z = true := hw _ (List.mem_of_getElem? (i := 32) rfl)
theorem wd33 {a0 : Array Value} {Z : State} (hw : ∀ d ∈ tables_1, d.before a0 Z = true) : (Jvm.Cond.selects "com/example/strict_limiter/strictlimiter/KeptWindows" ({ cls := "com/example/strict_limiter/strictlimiter/KeptWindows", name := "add", desc := "(JJJJ)V" } : Jvm.MethodName) ({ cls := "com/example/strict_limiter/strictlimiter/KeptWindows", name := "add", desc := "(JJJJ)V" } : Jvm.MethodName)).before a0 Z = true := hw _ (List.mem_of_getElem? (i := 33) rfl)
theorem wd34 {a0 : Array Value} {Z : State} (hw : ∀ d ∈ tables_1, d.before a0 Z = true) : (Jvm.Cond.code ({ cls := "com/example/strict_limiter/strictlimiter/KeptWindows", name := "add", desc := "(JJJJ)V" } : Jvm.MethodName) prog_23_method_5_code (10 : Nat) (Option.none : Option Jvm.ClassFile.FieldType)).before a0 Z = true := hw _ (List.mem_of_getElem? (i := 34) rfl)
theorem wd35 {a0 : Array Value} {Z : State} (hw : ∀ d ∈ tables_1, d.before a0 Z = true) : (Jvm.Cond.methodLink "com/example/strict_limiter/strictlimiter/KeptWindows" (38 : Nat) ({ cls := "java/util/Arrays", name := "binarySearch", desc := "([JIIJ)I" } : Jvm.MethodName)).before a0 Z = true := hw _ (List.mem_of_getElem? (i := 35) rfl)
theorem wd36 {a0 : Array Value} {Z : State} (hw : ∀ d ∈ tables_1, d.before a0 Z = true) : (Jvm.Cond.static ({ cls := "java/util/Arrays", name := "binarySearch", desc := "([JIIJ)I" } : Jvm.MethodName)).before a0 Z = true := hw _ (List.mem_of_getElem? (i := 36) rfl)
theorem wd37 {a0 : Array Value} {Z : State} (hw : ∀ d ∈ tables_1, d.before a0 Z = true) : (Jvm.Cond.initialized "java/util/Arrays").before a0 Z = true := hw _ (List.mem_of_getElem? (i := 37) rfl)
theorem wd38 {a0 : Array Value} {Z : State} (hw : ∀ d ∈ tables_1, d.before a0 Z = true) : (Jvm.Cond.code ({ cls := "java/util/Arrays", name := "binarySearch", desc := "([JIIJ)I" } : Jvm.MethodName) jdk_65_method_55_code (5 : Nat) (Option.some Jvm.ClassFile.FieldType.int)).before a0 Z = true := hw _ (List.mem_of_getElem? (i := 38) rfl)
theorem wd39 {a0 : Array Value} {Z : State} (hw : ∀ d ∈ tables_1, d.before a0 Z = true) : (Jvm.Cond.methodLink "java/util/Arrays" (13 : Nat) ({ cls := "java/util/Arrays", name := "rangeCheck", desc := "(III)V" } : Jvm.MethodName)).before a0 Z = true := hw _ (List.mem_of_getElem? (i := 39) rfl)
theorem wd40 {a0 : Array Value} {Z : State} (hw : ∀ d ∈ tables_1, d.before a0 Z = true) : (Jvm.Cond.static ({ cls := "java/util/Arrays", name := "rangeCheck", desc := "(III)V" } : Jvm.MethodName)).before a0 Z = true := hw _ (List.mem_of_getElem? (i := 40) rfl)
theorem wd41 {a0 : Array Value} {Z : State} (hw : ∀ d ∈ tables_1, d.before a0 Z = true) : (Jvm.Cond.code ({ cls := "java/util/Arrays", name := "rangeCheck", desc := "(III)V" } : Jvm.MethodName) jdk_65_method_30_code (3 : Nat) (Option.none : Option Jvm.ClassFile.FieldType)).before a0 Z = true := hw _ (List.mem_of_getElem? (i := 41) rfl)
theorem wd42 {a0 : Array Value} {Z : State} (hw : ∀ d ∈ tables_1, d.before a0 Z = true) : (Jvm.Cond.methodLink "java/util/Arrays" (205 : Nat) ({ cls := "java/util/Arrays", name := "binarySearch0", desc := "([JIIJ)I" } : Jvm.MethodName)).before a0 Z = true := hw _ (List.mem_of_getElem? (i := 42) rfl)
theorem wd43 {a0 : Array Value} {Z : State} (hw : ∀ d ∈ tables_1, d.before a0 Z = true) : (Jvm.Cond.static ({ cls := "java/util/Arrays", name := "binarySearch0", desc := "([JIIJ)I" } : Jvm.MethodName)).before a0 Z = true := hw _ (List.mem_of_getElem? (i := 43) rfl)
theorem wd44 {a0 : Array Value} {Z : State} (hw : ∀ d ∈ tables_1, d.before a0 Z = true) : (Jvm.Cond.code ({ cls := "java/util/Arrays", name := "binarySearch0", desc := "([JIIJ)I" } : Jvm.MethodName) jdk_65_method_56_code (10 : Nat) (Option.some Jvm.ClassFile.FieldType.int)).before a0 Z = true := hw _ (List.mem_of_getElem? (i := 44) rfl)
theorem wd45 {a0 : Array Value} {Z : State} (hw : ∀ d ∈ tables_1, d.before a0 Z = true) : (Jvm.Cond.methodLink "com/example/strict_limiter/strictlimiter/KeptWindows" (44 : Nat) ({ cls := "com/example/strict_limiter/strictlimiter/KeptWindows", name := "insert", desc := "(IJ)I" } : Jvm.MethodName)).before a0 Z = true := hw _ (List.mem_of_getElem? (i := 45) rfl)
theorem wd46 {a0 : Array Value} {Z : State} (hw : ∀ d ∈ tables_1, d.before a0 Z = true) : (Jvm.Cond.instanceMethod ({ cls := "com/example/strict_limiter/strictlimiter/KeptWindows", name := "insert", desc := "(IJ)I" } : Jvm.MethodName)).before a0 Z = true := hw _ (List.mem_of_getElem? (i := 46) rfl)
theorem wd47 {a0 : Array Value} {Z : State} (hw : ∀ d ∈ tables_1, d.before a0 Z = true) : (Jvm.Cond.privateMethod ({ cls := "com/example/strict_limiter/strictlimiter/KeptWindows", name := "insert", desc := "(IJ)I" } : Jvm.MethodName)).before a0 Z = true := hw _ (List.mem_of_getElem? (i := 47) rfl)
theorem wd48 {a0 : Array Value} {Z : State} (hw : ∀ d ∈ tables_1, d.before a0 Z = true) : (Jvm.Cond.code ({ cls := "com/example/strict_limiter/strictlimiter/KeptWindows", name := "insert", desc := "(IJ)I" } : Jvm.MethodName) prog_23_method_7_code (7 : Nat) (Option.some Jvm.ClassFile.FieldType.int)).before a0 Z = true := hw _ (List.mem_of_getElem? (i := 48) rfl)
theorem wd49 {a0 : Array Value} {Z : State} (hw : ∀ d ∈ tables_1, d.before a0 Z = true) : (Jvm.Cond.methodLink "com/example/strict_limiter/strictlimiter/KeptWindows" (60 : Nat) ({ cls := "java/lang/Math", name := "max", desc := "(II)I" } : Jvm.MethodName)).before a0 Z = true := hw _ (List.mem_of_getElem? (i := 49) rfl)
theorem wd50 {a0 : Array Value} {Z : State} (hw : ∀ d ∈ tables_1, d.before a0 Z = true) : (Jvm.Cond.static ({ cls := "java/lang/Math", name := "max", desc := "(II)I" } : Jvm.MethodName)).before a0 Z = true := hw _ (List.mem_of_getElem? (i := 50) rfl)
theorem wd51 {a0 : Array Value} {Z : State} (hw : ∀ d ∈ tables_1, d.before a0 Z = true) : (Jvm.Cond.initialized "java/lang/Math").before a0 Z = true := hw _ (List.mem_of_getElem? (i := 51) rfl)
theorem wd52 {a0 : Array Value} {Z : State} (hw : ∀ d ∈ tables_1, d.before a0 Z = true) : (Jvm.Cond.code ({ cls := "java/lang/Math", name := "max", desc := "(II)I" } : Jvm.MethodName) jdk_29_method_65_code (2 : Nat) (Option.some Jvm.ClassFile.FieldType.int)).before a0 Z = true := hw _ (List.mem_of_getElem? (i := 52) rfl)
theorem wd53 {a0 : Array Value} {Z : State} (hw : ∀ d ∈ tables_1, d.before a0 Z = true) : (Jvm.Cond.methodLink "com/example/strict_limiter/strictlimiter/KeptWindows" (66 : Nat) ({ cls := "com/example/strict_limiter/strictlimiter/KeptWindows", name := "movedToFront", desc := "([JII)[J" } : Jvm.MethodName)).before a0 Z = true := hw _ (List.mem_of_getElem? (i := 53) rfl)
theorem wd54 {a0 : Array Value} {Z : State} (hw : ∀ d ∈ tables_1, d.before a0 Z = true) : (Jvm.Cond.instanceMethod ({ cls := "com/example/strict_limiter/strictlimiter/KeptWindows", name := "movedToFront", desc := "([JII)[J" } : Jvm.MethodName)).before a0 Z = true := hw _ (List.mem_of_getElem? (i := 54) rfl)
theorem wd55 {a0 : Array Value} {Z : State} (hw : ∀ d ∈ tables_1, d.before a0 Z = true) : (Jvm.Cond.privateMethod ({ cls := "com/example/strict_limiter/strictlimiter/KeptWindows", name := "movedToFront", desc := "([JII)[J" } : Jvm.MethodName)).before a0 Z = true := hw _ (List.mem_of_getElem? (i := 55) rfl)
theorem wd56 {a0 : Array Value} {Z : State} (hw : ∀ d ∈ tables_1, d.before a0 Z = true) : (Jvm.Cond.code ({ cls := "com/example/strict_limiter/strictlimiter/KeptWindows", name := "movedToFront", desc := "([JII)[J" } : Jvm.MethodName) prog_23_method_8_code (5 : Nat) (Option.some (Jvm.ClassFile.FieldType.array Jvm.ClassFile.FieldType.long))).before a0 Z = true := hw _ (List.mem_of_getElem? (i := 56) rfl)
theorem wd57 {a0 : Array Value} {Z : State} (hw : ∀ d ∈ tables_1, d.before a0 Z = true) : (Jvm.Cond.arrayClass Jvm.ClassFile.FieldType.long).before a0 Z = true := hw _ (List.mem_of_getElem? (i := 57) rfl)
theorem wd58 {a0 : Array Value} {Z : State} (hw : ∀ d ∈ tables_1, d.before a0 Z = true) : (Jvm.Cond.methodLink "com/example/strict_limiter/strictlimiter/KeptWindows" (54 : Nat) ({ cls := "java/lang/System", name := "arraycopy", desc := "(Ljava/lang/Object;ILjava/lang/Object;II)V" } : Jvm.MethodName)).before a0 Z = true := hw _ (List.mem_of_getElem? (i := 58) rfl)
theorem wd59 {a0 : Array Value} {Z : State} (hw : ∀ d ∈ tables_1, d.before a0 Z = true) : (Jvm.Cond.static ({ cls := "java/lang/System", name := "arraycopy", desc := "(Ljava/lang/Object;ILjava/lang/Object;II)V" } : Jvm.MethodName)).before a0 Z = true := hw _ (List.mem_of_getElem? (i := 59) rfl)
theorem wd60 {a0 : Array Value} {Z : State} (hw : ∀ d ∈ tables_1, d.before a0 Z = true) : (Jvm.Cond.initialized "java/lang/System").before a0 Z = true := hw _ (List.mem_of_getElem? (i := 60) rfl)
theorem wd61 {a0 : Array Value} {Z : State} (hw : ∀ d ∈ tables_1, d.before a0 Z = true) : (Jvm.Cond.native ({ cls := "java/lang/System", name := "arraycopy", desc := "(Ljava/lang/Object;ILjava/lang/Object;II)V" } : Jvm.MethodName)).before a0 Z = true := hw _ (List.mem_of_getElem? (i := 61) rfl)
theorem wd62 {a0 : Array Value} {Z : State} (hw : ∀ d ∈ tables_1, d.before a0 Z = true) : (Jvm.Cond.methodLink "com/example/strict_limiter/strictlimiter/KeptWindows" (70 : Nat) ({ cls := "java/util/Arrays", name := "fill", desc := "([JIIJ)V" } : Jvm.MethodName)).before a0 Z = true := hw _ (List.mem_of_getElem? (i := 62) rfl)
theorem wd63 {a0 : Array Value} {Z : State} (hw : ∀ d ∈ tables_1, d.before a0 Z = true) : (Jvm.Cond.static ({ cls := "java/util/Arrays", name := "fill", desc := "([JIIJ)V" } : Jvm.MethodName)).before a0 Z = true := hw _ (List.mem_of_getElem? (i := 63) rfl)
theorem wd64 {a0 : Array Value} {Z : State} (hw : ∀ d ∈ tables_1, d.before a0 Z = true) : (Jvm.Cond.code ({ cls := "java/util/Arrays", name := "fill", desc := "([JIIJ)V" } : Jvm.MethodName) jdk_65_method_102_code (6 : Nat) (Option.none : Option Jvm.ClassFile.FieldType)).before a0 Z = true := hw _ (List.mem_of_getElem? (i := 64) rfl)
theorem wd65 {a0 : Array Value} {Z : State} (hw : ∀ d ∈ tables_1, d.before a0 Z = true) : (Jvm.Cond.methodLink "com/example/strict_limiter/strictlimiter/KeptWindows" (48 : Nat) ({ cls := "com/example/strict_limiter/strictlimiter/WindowRecord", name := "add", desc := "([JIIJJ)V" } : Jvm.MethodName)).before a0 Z = true := hw _ (List.mem_of_getElem? (i := 65) rfl)
theorem wd66 {a0 : Array Value} {Z : State} (hw : ∀ d ∈ tables_1, d.before a0 Z = true) : (Jvm.Cond.static ({ cls := "com/example/strict_limiter/strictlimiter/WindowRecord", name := "add", desc := "([JIIJJ)V" } : Jvm.MethodName)).before a0 Z = true := hw _ (List.mem_of_getElem? (i := 66) rfl)
theorem wd67 {a0 : Array Value} {Z : State} (hw : ∀ d ∈ tables_1, d.before a0 Z = true) : (Jvm.Cond.initialized "com/example/strict_limiter/strictlimiter/WindowRecord").before a0 Z = true := hw _ (List.mem_of_getElem? (i := 67) rfl)
theorem wd68 {a0 : Array Value} {Z : State} (hw : ∀ d ∈ tables_1, d.before a0 Z = true) : (Jvm.Cond.code ({ cls := "com/example/strict_limiter/strictlimiter/WindowRecord", name := "add", desc := "([JIIJJ)V" } : Jvm.MethodName) prog_59_method_3_code (9 : Nat) (Option.none : Option Jvm.ClassFile.FieldType)).before a0 Z = true := hw _ (List.mem_of_getElem? (i := 68) rfl)
theorem wd69 {a0 : Array Value} {Z : State} (hw : ∀ d ∈ tables_1, d.before a0 Z = true) : (Jvm.Cond.methodLink "com/example/strict_limiter/strictlimiter/WindowRecord" (13 : Nat) ({ cls := "java/lang/Math", name := "min", desc := "(JJ)J" } : Jvm.MethodName)).before a0 Z = true := hw _ (List.mem_of_getElem? (i := 69) rfl)
theorem wd70 {a0 : Array Value} {Z : State} (hw : ∀ d ∈ tables_1, d.before a0 Z = true) : (Jvm.Cond.static ({ cls := "java/lang/Math", name := "min", desc := "(JJ)J" } : Jvm.MethodName)).before a0 Z = true := hw _ (List.mem_of_getElem? (i := 70) rfl)
theorem wd71 {a0 : Array Value} {Z : State} (hw : ∀ d ∈ tables_1, d.before a0 Z = true) : (Jvm.Cond.code ({ cls := "java/lang/Math", name := "min", desc := "(JJ)J" } : Jvm.MethodName) jdk_29_method_70_code (4 : Nat) (Option.some Jvm.ClassFile.FieldType.long)).before a0 Z = true := hw _ (List.mem_of_getElem? (i := 71) rfl)
theorem wd72 {a0 : Array Value} {Z : State} (hw : ∀ d ∈ tables_1, d.before a0 Z = true) : (Jvm.Cond.methodLink "com/example/strict_limiter/strictlimiter/KeptWindowsFirstStartPinLaw" (33 : Nat) ({ cls := "com/example/strict_limiter/strictlimiter/KeptWindows", name := "forget", desc := "(JJJ)V" } : Jvm.MethodName)).before a0 Z = true := hw _ (List.mem_of_getElem? (i := 72) rfl)
theorem wd73 {a0 : Array Value} {Z : State} (hw : ∀ d ∈ tables_1, d.before a0 Z = true) : (Jvm.Cond.declares ({ cls := "com/example/strict_limiter/strictlimiter/KeptWindows", name := "forget", desc := "(JJJ)V" } : Jvm.MethodName)).before a0 Z = true := hw _ (List.mem_of_getElem? (i := 73) rfl)
theorem wd74 {a0 : Array Value} {Z : State} (hw : ∀ d ∈ tables_1, d.before a0 Z = true) : (Jvm.Cond.instanceMethod ({ cls := "com/example/strict_limiter/strictlimiter/KeptWindows", name := "forget", desc := "(JJJ)V" } : Jvm.MethodName)).before a0 Z = true := hw _ (List.mem_of_getElem? (i := 74) rfl)
theorem wd75 {a0 : Array Value} {Z : State} (hw : ∀ d ∈ tables_1, d.before a0 Z = true) : (Jvm.Cond.selects "com/example/strict_limiter/strictlimiter/KeptWindows" ({ cls := "com/example/strict_limiter/strictlimiter/KeptWindows", name := "forget", desc := "(JJJ)V" } : Jvm.MethodName) ({ cls := "com/example/strict_limiter/strictlimiter/KeptWindows", name := "forget", desc := "(JJJ)V" } : Jvm.MethodName)).before a0 Z = true := hw _ (List.mem_of_getElem? (i := 75) rfl)
theorem wd76 {a0 : Array Value} {Z : State} (hw : ∀ d ∈ tables_1, d.before a0 Z = true) : (Jvm.Cond.code ({ cls := "com/example/strict_limiter/strictlimiter/KeptWindows", name := "forget", desc := "(JJJ)V" } : Jvm.MethodName) prog_23_method_2_code (7 : Nat) (Option.none : Option Jvm.ClassFile.FieldType)).before a0 Z = true := hw _ (List.mem_of_getElem? (i := 76) rfl)
theorem wd77 {a0 : Array Value} {Z : State} (hw : ∀ d ∈ tables_1, d.before a0 Z = true) : (Jvm.Cond.constantLong "com/example/strict_limiter/strictlimiter/KeptWindows" (32 : Nat) (1000000000 : Int64)).before a0 Z = true := hw _ (List.mem_of_getElem? (i := 77) rfl)
theorem wd78 {a0 : Array Value} {Z : State} (hw : ∀ d ∈ tables_1, d.before a0 Z = true) : (Jvm.Cond.methodLink "com/example/strict_limiter/strictlimiter/KeptWindowsFirstStartPinLaw" (24 : Nat) ({ cls := "java/lang/Math", name := "min", desc := "(JJ)J" } : Jvm.MethodName)).before a0 Z = true := hw _ (List.mem_of_getElem? (i := 78) rfl)
theorem wd79 {a0 : Array Value} {Z : State} (hw : ∀ d ∈ tables_1, d.before a0 Z = true) : (Jvm.Cond.methodLink "com/example/strict_limiter/strictlimiter/KeptWindowsFirstStartPinLaw" (30 : Nat) ({ cls := "java/lang/Math", name := "max", desc := "(JJ)J" } : Jvm.MethodName)).before a0 Z = true := hw _ (List.mem_of_getElem? (i := 79) rfl)
theorem wd80 {a0 : Array Value} {Z : State} (hw : ∀ d ∈ tables_1, d.before a0 Z = true) : (Jvm.Cond.static ({ cls := "java/lang/Math", name := "max", desc := "(JJ)J" } : Jvm.MethodName)).before a0 Z = true := hw _ (List.mem_of_getElem? (i := 80) rfl)
theorem wd81 {a0 : Array Value} {Z : State} (hw : ∀ d ∈ tables_1, d.before a0 Z = true) : (Jvm.Cond.code ({ cls := "java/lang/Math", name := "max", desc := "(JJ)J" } : Jvm.MethodName) jdk_29_method_66_code (4 : Nat) (Option.some Jvm.ClassFile.FieldType.long)).before a0 Z = true := hw _ (List.mem_of_getElem? (i := 81) rfl)
theorem wd82 {a0 : Array Value} {Z : State} (hw : ∀ d ∈ tables_1, d.before a0 Z = true) : (Jvm.Cond.constantLong "com/example/strict_limiter/strictlimiter/KeptWindowsFirstStartPinLaw" (37 : Nat) (1000000000 : Int64)).before a0 Z = true := hw _ (List.mem_of_getElem? (i := 82) rfl)
theorem wf9 {a0 : Array Value} {Z : State} (hw : ∀ d ∈ tables_1, d.before a0 Z = true) : (Jvm.Cond.fieldLink "com/example/strict_limiter/strictlimiter/KeptWindows" (7 : Nat) "com/example/strict_limiter/strictlimiter/KeptWindows" "NONE" "[J").before a0 Z = true ∨ (Jvm.Cond.fieldLinkNest "com/example/strict_limiter/strictlimiter/KeptWindows" (7 : Nat) "com/example/strict_limiter/strictlimiter/KeptWindows" "NONE" "[J" "").before a0 Z = true := Or.inl (wd9 hw)
theorem wf11 {a0 : Array Value} {Z : State} (hw : ∀ d ∈ tables_1, d.before a0 Z = true) : (Jvm.Cond.fieldLink "com/example/strict_limiter/strictlimiter/KeptWindows" (13 : Nat) "com/example/strict_limiter/strictlimiter/KeptWindows" "starts" "[J").before a0 Z = true ∨ (Jvm.Cond.fieldLinkNest "com/example/strict_limiter/strictlimiter/KeptWindows" (13 : Nat) "com/example/strict_limiter/strictlimiter/KeptWindows" "starts" "[J" "").before a0 Z = true := Or.inl (wd11 hw)
theorem wf13 {a0 : Array Value} {Z : State} (hw : ∀ d ∈ tables_1, d.before a0 Z = true) : (Jvm.Cond.fieldLink "com/example/strict_limiter/strictlimiter/KeptWindows" (16 : Nat) "com/example/strict_limiter/strictlimiter/KeptWindows" "records" "[J").before a0 Z = true ∨ (Jvm.Cond.fieldLinkNest "com/example/strict_limiter/strictlimiter/KeptWindows" (16 : Nat) "com/example/strict_limiter/strictlimiter/KeptWindows" "records" "[J" "").before a0 Z = true := Or.inl (wd13 hw)
theorem wf15 {a0 : Array Value} {Z : State} (hw : ∀ d ∈ tables_1, d.before a0 Z = true) : (Jvm.Cond.fieldLink "com/example/strict_limiter/strictlimiter/KeptWindows" (19 : Nat) "com/example/strict_limiter/strictlimiter/KeptWindows" "decidedAt" "[J").before a0 Z = true ∨ (Jvm.Cond.fieldLinkNest "com/example/strict_limiter/strictlimiter/KeptWindows" (19 : Nat) "com/example/strict_limiter/strictlimiter/KeptWindows" "decidedAt" "[J" "").before a0 Z = true := Or.inl (wd15 hw)
theorem wf17 {a0 : Array Value} {Z : State} (hw : ∀ d ∈ tables_1, d.before a0 Z = true) : (Jvm.Cond.fieldLink "com/example/strict_limiter/strictlimiter/KeptWindows" (22 : Nat) "com/example/strict_limiter/strictlimiter/KeptWindows" "width" "I").before a0 Z = true ∨ (Jvm.Cond.fieldLinkNest "com/example/strict_limiter/strictlimiter/KeptWindows" (22 : Nat) "com/example/strict_limiter/strictlimiter/KeptWindows" "width" "I" "").before a0 Z = true := Or.inl (wd17 hw)
theorem wf24 {a0 : Array Value} {Z : State} (hw : ∀ d ∈ tables_1, d.before a0 Z = true) : (Jvm.Cond.fieldLink "com/example/strict_limiter/strictlimiter/KeptWindows" (26 : Nat) "com/example/strict_limiter/strictlimiter/KeptWindows" "first" "I").before a0 Z = true ∨ (Jvm.Cond.fieldLinkNest "com/example/strict_limiter/strictlimiter/KeptWindows" (26 : Nat) "com/example/strict_limiter/strictlimiter/KeptWindows" "first" "I" "").before a0 Z = true := Or.inl (wd24 hw)
theorem wf26 {a0 : Array Value} {Z : State} (hw : ∀ d ∈ tables_1, d.before a0 Z = true) : (Jvm.Cond.fieldLink "com/example/strict_limiter/strictlimiter/KeptWindows" (29 : Nat) "com/example/strict_limiter/strictlimiter/KeptWindows" "end" "I").before a0 Z = true ∨ (Jvm.Cond.fieldLinkNest "com/example/strict_limiter/strictlimiter/KeptWindows" (29 : Nat) "com/example/strict_limiter/strictlimiter/KeptWindows" "end" "I" "").before a0 Z = true := Or.inl (wd26 hw)
theorem sn0 {a0 : Array Value} {Z : State} (hw : ∀ d ∈ tables_1, d.before a0 Z = true) : Jvm.RoadKit.slotOf Z "com/example/strict_limiter/strictlimiter/KeptWindows" "starts" "[J" ≠ Jvm.RoadKit.slotOf Z "com/example/strict_limiter/strictlimiter/KeptWindows" "records" "[J" := slot_ne (Or.inl (wd12 hw)) (Or.inl (wd14 hw)) (by decide) (t := (.array .long)) (t' := (.array .long)) (by decide) (by decide)
theorem sn1 {a0 : Array Value} {Z : State} (hw : ∀ d ∈ tables_1, d.before a0 Z = true) : Jvm.RoadKit.slotOf Z "com/example/strict_limiter/strictlimiter/KeptWindows" "starts" "[J" ≠ Jvm.RoadKit.slotOf Z "com/example/strict_limiter/strictlimiter/KeptWindows" "decidedAt" "[J" := slot_ne (Or.inl (wd12 hw)) (Or.inl (wd16 hw)) (by decide) (t := (.array .long)) (t' := (.array .long)) (by decide) (by decide)
theorem sn2 {a0 : Array Value} {Z : State} (hw : ∀ d ∈ tables_1, d.before a0 Z = true) : Jvm.RoadKit.slotOf Z "com/example/strict_limiter/strictlimiter/KeptWindows" "starts" "[J" ≠ Jvm.RoadKit.slotOf Z "com/example/strict_limiter/strictlimiter/KeptWindows" "first" "I" := slot_ne (Or.inl (wd12 hw)) (Or.inl (wd25 hw)) (by decide) (t := (.array .long)) (t' := .int) (by decide) (by decide)
theorem sn3 {a0 : Array Value} {Z : State} (hw : ∀ d ∈ tables_1, d.before a0 Z = true) : Jvm.RoadKit.slotOf Z "com/example/strict_limiter/strictlimiter/KeptWindows" "starts" "[J" ≠ Jvm.RoadKit.slotOf Z "com/example/strict_limiter/strictlimiter/KeptWindows" "end" "I" := slot_ne (Or.inl (wd12 hw)) (Or.inl (wd27 hw)) (by decide) (t := (.array .long)) (t' := .int) (by decide) (by decide)
theorem sn4 {a0 : Array Value} {Z : State} (hw : ∀ d ∈ tables_1, d.before a0 Z = true) : Jvm.RoadKit.slotOf Z "com/example/strict_limiter/strictlimiter/KeptWindows" "starts" "[J" ≠ Jvm.RoadKit.slotOf Z "com/example/strict_limiter/strictlimiter/KeptWindows" "width" "I" := slot_ne (Or.inl (wd12 hw)) (Or.inr (wd18 hw)) (by decide) (t := (.array .long)) (t' := .int) (by decide) (by decide)
theorem sn5 {a0 : Array Value} {Z : State} (hw : ∀ d ∈ tables_1, d.before a0 Z = true) : Jvm.RoadKit.slotOf Z "com/example/strict_limiter/strictlimiter/KeptWindows" "records" "[J" ≠ Jvm.RoadKit.slotOf Z "com/example/strict_limiter/strictlimiter/KeptWindows" "starts" "[J" := slot_ne (Or.inl (wd14 hw)) (Or.inl (wd12 hw)) (by decide) (t := (.array .long)) (t' := (.array .long)) (by decide) (by decide)
theorem sn6 {a0 : Array Value} {Z : State} (hw : ∀ d ∈ tables_1, d.before a0 Z = true) : Jvm.RoadKit.slotOf Z "com/example/strict_limiter/strictlimiter/KeptWindows" "records" "[J" ≠ Jvm.RoadKit.slotOf Z "com/example/strict_limiter/strictlimiter/KeptWindows" "decidedAt" "[J" := slot_ne (Or.inl (wd14 hw)) (Or.inl (wd16 hw)) (by decide) (t := (.array .long)) (t' := (.array .long)) (by decide) (by decide)
theorem sn7 {a0 : Array Value} {Z : State} (hw : ∀ d ∈ tables_1, d.before a0 Z = true) : Jvm.RoadKit.slotOf Z "com/example/strict_limiter/strictlimiter/KeptWindows" "records" "[J" ≠ Jvm.RoadKit.slotOf Z "com/example/strict_limiter/strictlimiter/KeptWindows" "first" "I" := slot_ne (Or.inl (wd14 hw)) (Or.inl (wd25 hw)) (by decide) (t := (.array .long)) (t' := .int) (by decide) (by decide)
theorem sn8 {a0 : Array Value} {Z : State} (hw : ∀ d ∈ tables_1, d.before a0 Z = true) : Jvm.RoadKit.slotOf Z "com/example/strict_limiter/strictlimiter/KeptWindows" "records" "[J" ≠ Jvm.RoadKit.slotOf Z "com/example/strict_limiter/strictlimiter/KeptWindows" "end" "I" := slot_ne (Or.inl (wd14 hw)) (Or.inl (wd27 hw)) (by decide) (t := (.array .long)) (t' := .int) (by decide) (by decide)
theorem sn9 {a0 : Array Value} {Z : State} (hw : ∀ d ∈ tables_1, d.before a0 Z = true) : Jvm.RoadKit.slotOf Z "com/example/strict_limiter/strictlimiter/KeptWindows" "records" "[J" ≠ Jvm.RoadKit.slotOf Z "com/example/strict_limiter/strictlimiter/KeptWindows" "width" "I" := slot_ne (Or.inl (wd14 hw)) (Or.inr (wd18 hw)) (by decide) (t := (.array .long)) (t' := .int) (by decide) (by decide)
theorem sn10 {a0 : Array Value} {Z : State} (hw : ∀ d ∈ tables_1, d.before a0 Z = true) : Jvm.RoadKit.slotOf Z "com/example/strict_limiter/strictlimiter/KeptWindows" "decidedAt" "[J" ≠ Jvm.RoadKit.slotOf Z "com/example/strict_limiter/strictlimiter/KeptWindows" "starts" "[J" := slot_ne (Or.inl (wd16 hw)) (Or.inl (wd12 hw)) (by decide) (t := (.array .long)) (t' := (.array .long)) (by decide) (by decide)
theorem sn11 {a0 : Array Value} {Z : State} (hw : ∀ d ∈ tables_1, d.before a0 Z = true) : Jvm.RoadKit.slotOf Z "com/example/strict_limiter/strictlimiter/KeptWindows" "decidedAt" "[J" ≠ Jvm.RoadKit.slotOf Z "com/example/strict_limiter/strictlimiter/KeptWindows" "records" "[J" := slot_ne (Or.inl (wd16 hw)) (Or.inl (wd14 hw)) (by decide) (t := (.array .long)) (t' := (.array .long)) (by decide) (by decide)
theorem sn12 {a0 : Array Value} {Z : State} (hw : ∀ d ∈ tables_1, d.before a0 Z = true) : Jvm.RoadKit.slotOf Z "com/example/strict_limiter/strictlimiter/KeptWindows" "decidedAt" "[J" ≠ Jvm.RoadKit.slotOf Z "com/example/strict_limiter/strictlimiter/KeptWindows" "first" "I" := slot_ne (Or.inl (wd16 hw)) (Or.inl (wd25 hw)) (by decide) (t := (.array .long)) (t' := .int) (by decide) (by decide)
theorem sn13 {a0 : Array Value} {Z : State} (hw : ∀ d ∈ tables_1, d.before a0 Z = true) : Jvm.RoadKit.slotOf Z "com/example/strict_limiter/strictlimiter/KeptWindows" "decidedAt" "[J" ≠ Jvm.RoadKit.slotOf Z "com/example/strict_limiter/strictlimiter/KeptWindows" "end" "I" := slot_ne (Or.inl (wd16 hw)) (Or.inl (wd27 hw)) (by decide) (t := (.array .long)) (t' := .int) (by decide) (by decide)
theorem sn14 {a0 : Array Value} {Z : State} (hw : ∀ d ∈ tables_1, d.before a0 Z = true) : Jvm.RoadKit.slotOf Z "com/example/strict_limiter/strictlimiter/KeptWindows" "decidedAt" "[J" ≠ Jvm.RoadKit.slotOf Z "com/example/strict_limiter/strictlimiter/KeptWindows" "width" "I" := slot_ne (Or.inl (wd16 hw)) (Or.inr (wd18 hw)) (by decide) (t := (.array .long)) (t' := .int) (by decide) (by decide)
theorem sn15 {a0 : Array Value} {Z : State} (hw : ∀ d ∈ tables_1, d.before a0 Z = true) : Jvm.RoadKit.slotOf Z "com/example/strict_limiter/strictlimiter/KeptWindows" "first" "I" ≠ Jvm.RoadKit.slotOf Z "com/example/strict_limiter/strictlimiter/KeptWindows" "starts" "[J" := slot_ne (Or.inl (wd25 hw)) (Or.inl (wd12 hw)) (by decide) (t := .int) (t' := (.array .long)) (by decide) (by decide)
theorem sn16 {a0 : Array Value} {Z : State} (hw : ∀ d ∈ tables_1, d.before a0 Z = true) : Jvm.RoadKit.slotOf Z "com/example/strict_limiter/strictlimiter/KeptWindows" "first" "I" ≠ Jvm.RoadKit.slotOf Z "com/example/strict_limiter/strictlimiter/KeptWindows" "records" "[J" := slot_ne (Or.inl (wd25 hw)) (Or.inl (wd14 hw)) (by decide) (t := .int) (t' := (.array .long)) (by decide) (by decide)
theorem sn17 {a0 : Array Value} {Z : State} (hw : ∀ d ∈ tables_1, d.before a0 Z = true) : Jvm.RoadKit.slotOf Z "com/example/strict_limiter/strictlimiter/KeptWindows" "first" "I" ≠ Jvm.RoadKit.slotOf Z "com/example/strict_limiter/strictlimiter/KeptWindows" "decidedAt" "[J" := slot_ne (Or.inl (wd25 hw)) (Or.inl (wd16 hw)) (by decide) (t := .int) (t' := (.array .long)) (by decide) (by decide)
theorem sn18 {a0 : Array Value} {Z : State} (hw : ∀ d ∈ tables_1, d.before a0 Z = true) : Jvm.RoadKit.slotOf Z "com/example/strict_limiter/strictlimiter/KeptWindows" "first" "I" ≠ Jvm.RoadKit.slotOf Z "com/example/strict_limiter/strictlimiter/KeptWindows" "end" "I" := slot_ne (Or.inl (wd25 hw)) (Or.inl (wd27 hw)) (by decide) (t := .int) (t' := .int) (by decide) (by decide)
theorem sn19 {a0 : Array Value} {Z : State} (hw : ∀ d ∈ tables_1, d.before a0 Z = true) : Jvm.RoadKit.slotOf Z "com/example/strict_limiter/strictlimiter/KeptWindows" "first" "I" ≠ Jvm.RoadKit.slotOf Z "com/example/strict_limiter/strictlimiter/KeptWindows" "width" "I" := slot_ne (Or.inl (wd25 hw)) (Or.inr (wd18 hw)) (by decide) (t := .int) (t' := .int) (by decide) (by decide)
theorem sn20 {a0 : Array Value} {Z : State} (hw : ∀ d ∈ tables_1, d.before a0 Z = true) : Jvm.RoadKit.slotOf Z "com/example/strict_limiter/strictlimiter/KeptWindows" "end" "I" ≠ Jvm.RoadKit.slotOf Z "com/example/strict_limiter/strictlimiter/KeptWindows" "starts" "[J" := slot_ne (Or.inl (wd27 hw)) (Or.inl (wd12 hw)) (by decide) (t := .int) (t' := (.array .long)) (by decide) (by decide)
theorem sn21 {a0 : Array Value} {Z : State} (hw : ∀ d ∈ tables_1, d.before a0 Z = true) : Jvm.RoadKit.slotOf Z "com/example/strict_limiter/strictlimiter/KeptWindows" "end" "I" ≠ Jvm.RoadKit.slotOf Z "com/example/strict_limiter/strictlimiter/KeptWindows" "records" "[J" := slot_ne (Or.inl (wd27 hw)) (Or.inl (wd14 hw)) (by decide) (t := .int) (t' := (.array .long)) (by decide) (by decide)
theorem sn22 {a0 : Array Value} {Z : State} (hw : ∀ d ∈ tables_1, d.before a0 Z = true) : Jvm.RoadKit.slotOf Z "com/example/strict_limiter/strictlimiter/KeptWindows" "end" "I" ≠ Jvm.RoadKit.slotOf Z "com/example/strict_limiter/strictlimiter/KeptWindows" "decidedAt" "[J" := slot_ne (Or.inl (wd27 hw)) (Or.inl (wd16 hw)) (by decide) (t := .int) (t' := (.array .long)) (by decide) (by decide)
theorem sn23 {a0 : Array Value} {Z : State} (hw : ∀ d ∈ tables_1, d.before a0 Z = true) : Jvm.RoadKit.slotOf Z "com/example/strict_limiter/strictlimiter/KeptWindows" "end" "I" ≠ Jvm.RoadKit.slotOf Z "com/example/strict_limiter/strictlimiter/KeptWindows" "first" "I" := slot_ne (Or.inl (wd27 hw)) (Or.inl (wd25 hw)) (by decide) (t := .int) (t' := .int) (by decide) (by decide)
theorem sn24 {a0 : Array Value} {Z : State} (hw : ∀ d ∈ tables_1, d.before a0 Z = true) : Jvm.RoadKit.slotOf Z "com/example/strict_limiter/strictlimiter/KeptWindows" "end" "I" ≠ Jvm.RoadKit.slotOf Z "com/example/strict_limiter/strictlimiter/KeptWindows" "width" "I" := slot_ne (Or.inl (wd27 hw)) (Or.inr (wd18 hw)) (by decide) (t := .int) (t' := .int) (by decide) (by decide)
theorem sn25 {a0 : Array Value} {Z : State} (hw : ∀ d ∈ tables_1, d.before a0 Z = true) : Jvm.RoadKit.slotOf Z "com/example/strict_limiter/strictlimiter/KeptWindows" "width" "I" ≠ Jvm.RoadKit.slotOf Z "com/example/strict_limiter/strictlimiter/KeptWindows" "starts" "[J" := slot_ne (Or.inr (wd18 hw)) (Or.inl (wd12 hw)) (by decide) (t := .int) (t' := (.array .long)) (by decide) (by decide)
theorem sn26 {a0 : Array Value} {Z : State} (hw : ∀ d ∈ tables_1, d.before a0 Z = true) : Jvm.RoadKit.slotOf Z "com/example/strict_limiter/strictlimiter/KeptWindows" "width" "I" ≠ Jvm.RoadKit.slotOf Z "com/example/strict_limiter/strictlimiter/KeptWindows" "records" "[J" := slot_ne (Or.inr (wd18 hw)) (Or.inl (wd14 hw)) (by decide) (t := .int) (t' := (.array .long)) (by decide) (by decide)
theorem sn27 {a0 : Array Value} {Z : State} (hw : ∀ d ∈ tables_1, d.before a0 Z = true) : Jvm.RoadKit.slotOf Z "com/example/strict_limiter/strictlimiter/KeptWindows" "width" "I" ≠ Jvm.RoadKit.slotOf Z "com/example/strict_limiter/strictlimiter/KeptWindows" "decidedAt" "[J" := slot_ne (Or.inr (wd18 hw)) (Or.inl (wd16 hw)) (by decide) (t := .int) (t' := (.array .long)) (by decide) (by decide)
theorem sn28 {a0 : Array Value} {Z : State} (hw : ∀ d ∈ tables_1, d.before a0 Z = true) : Jvm.RoadKit.slotOf Z "com/example/strict_limiter/strictlimiter/KeptWindows" "width" "I" ≠ Jvm.RoadKit.slotOf Z "com/example/strict_limiter/strictlimiter/KeptWindows" "first" "I" := slot_ne (Or.inr (wd18 hw)) (Or.inl (wd25 hw)) (by decide) (t := .int) (t' := .int) (by decide) (by decide)
theorem sn29 {a0 : Array Value} {Z : State} (hw : ∀ d ∈ tables_1, d.before a0 Z = true) : Jvm.RoadKit.slotOf Z "com/example/strict_limiter/strictlimiter/KeptWindows" "width" "I" ≠ Jvm.RoadKit.slotOf Z "com/example/strict_limiter/strictlimiter/KeptWindows" "end" "I" := slot_ne (Or.inr (wd18 hw)) (Or.inl (wd27 hw)) (by decide) (t := .int) (t' := .int) (by decide) (by decide)
theorem pn_java_util_Arrays : plainName "java/util/Arrays" = true := by first | (simp [plainName, overriddenIn]; done) | decide +kernel
theorem pd__III_V : parseMethodDescriptor "(III)V" = some ⟨[.int, .int, .int], none⟩ := by decide +kernel
theorem pd___JIIJ_I : parseMethodDescriptor "([JIIJ)I" = some ⟨[(.array .long), .int, .int, .long], some .int⟩ := by decide +kernel
theorem pn_com_example_strict_limiter_strictlimiter_KeptWindows : plainName cn2 = true := by first | (simp [plainName, overriddenIn]; done) | decide +kernel
theorem pd__II_I : parseMethodDescriptor "(II)I" = some ⟨[.int, .int], some .int⟩ := by decide +kernel
theorem pd___JII__J : parseMethodDescriptor "([JII)[J" = some ⟨[(.array .long), .int, .int], some (.array .long)⟩ := by decide +kernel
theorem pd___JIIJ_V : parseMethodDescriptor "([JIIJ)V" = some ⟨[(.array .long), .int, .int, .long], none⟩ := by decide +kernel
theorem pn_com_example_strict_limiter_strictlimiter_WindowRecord : plainName cn1 = true := by first | (simp [plainName, overriddenIn]; done) | decide +kernel
theorem pd__JJ_J : parseMethodDescriptor "(JJ)J" = some ⟨[.long, .long], some .long⟩ := by decide +kernel
theorem pd__IJ_I : parseMethodDescriptor "(IJ)I" = some ⟨[.int, .long], some .int⟩ := by decide +kernel
theorem pd___JIIJJ_V : parseMethodDescriptor "([JIIJJ)V" = some ⟨[(.array .long), .int, .int, .long, .long], none⟩ := by decide +kernel
theorem pn_com_example_strict_limiter_strictlimiter_KeptWindowsFirstStartPinLaw : plainName "com/example/strict_limiter/strictlimiter/KeptWindowsFirstStartPinLaw" = true := by first | (simp [plainName, overriddenIn]; done) | decide +kernel
theorem pd__I_V : parseMethodDescriptor "(I)V" = some ⟨[.int], none⟩ := by decide +kernel
theorem pd___J : parseMethodDescriptor "()J" = some ⟨[], some .long⟩ := by decide +kernel
theorem pd__JJJJ_V : parseMethodDescriptor "(JJJJ)V" = some ⟨[.long, .long, .long, .long], none⟩ := by decide +kernel
theorem pd__JJJ_V : parseMethodDescriptor "(JJJ)V" = some ⟨[.long, .long, .long], none⟩ := by decide +kernel
abbrev vr (a : Addr) : Slot := .val (.ref a)
abbrev vl (x : Int64) : Slot := .val (.long x)
abbrev vi (x : Int32) : Slot := .val (.int x)
abbrev sd : Slot := .second
abbrev un : Slot := .unset
abbrev SS (p : Program) (e : Env) (b : List Frame) (T : State) (f : JFrame) (t : State) : Prop := Steps p.tables e b (T.setTop f) t
theorem own_ne {a b n : Nat} (h : a < n) (k : n ≤ b) : a ≠ b := Nat.ne_of_lt (Nat.lt_of_lt_of_le h k)
theorem own_tri64 (x y : Int64) : x < y ∨ x = y ∨ y < x := by
  simp only [Int64.lt_iff_toInt_lt, ← Int64.toInt_inj]; omega
theorem own_sub0 (x : Int64) : x - (0 : Int64) = x := by
  rw [← Int64.toInt_inj]
  have a := c_lsub x 0; have r := rng64 (x - 0); have r2 := rng64 x
  have z : (0 : Int64).toInt = 0 := rfl
  omega
theorem own_cb (z : Int32) : (0 : Int64) < (1 : Int64) + (z &&& (3 : Int32)).toInt64 := by
  have q := c_mask z 3 2 (by decide) (by decide)
  have e : ((z &&& (3 : Int32)).toInt64).toInt = (z &&& (3 : Int32)).toInt := by first | exact Int32.toInt_toInt64 _ | simp
  have a := c_ladd 1 ((z &&& (3 : Int32)).toInt64); have r := rng64 (1 + (z &&& (3 : Int32)).toInt64)
  have o0 : (0 : Int64).toInt = 0 := rfl
  have o1 : (1 : Int64).toInt = 1 := rfl
  rw [Int64.lt_iff_toInt_lt]; omega
def own_g1 (fi : Int32) (x yl ye yg : Int64) : Prop := (fi = (0 : Int32) ∧ (yl < (x / (1000000000 : Int64)) ∨ (ye - (0 : Int64)) < yg)) ∨ (fi = (1 : Int32) ∧ ¬ yl < (x / (1000000000 : Int64)) ∧ ¬ (ye - (0 : Int64)) < yg)
def own_g2 (fi : Int32) (x z yl ye yg : Int64) : Prop := (fi = (0 : Int32) ∧ (yl < (x / (1000000000 : Int64)) ∨ (ye - (0 : Int64)) < yg)) ∨ (fi = (1 : Int32) ∧ ¬ yl < (x / (1000000000 : Int64)) ∧ ¬ (ye - (0 : Int64)) < yg ∧ yl < (z / (1000000000 : Int64))) ∨ (fi = (2 : Int32) ∧ ¬ yl < (x / (1000000000 : Int64)) ∧ ¬ (ye - (0 : Int64)) < yg ∧ ¬ yl < (z / (1000000000 : Int64)))
def own_p1 (fi : Int32) (x : Int64) : Int64 := if fi = (0 : Int32) then x else (9223372036854775807 : Int64)
def own_p2 (fi : Int32) (x z : Int64) : Int64 := if fi = (0 : Int32) then x else if fi = (1 : Int32) then z else (9223372036854775807 : Int64)
theorem own_p1_0 (x : Int64) : own_p1 (0 : Int32) x = x := if_pos rfl
theorem own_p1_1 (x : Int64) : own_p1 (1 : Int32) x = (9223372036854775807 : Int64) := if_neg (by decide)
theorem own_p2_0 (x z : Int64) : own_p2 (0 : Int32) x z = x := if_pos rfl
theorem own_p2_1 (x z : Int64) : own_p2 (1 : Int32) x z = z := (if_neg (by decide)).trans (if_pos rfl)
theorem own_p2_2 (x z : Int64) : own_p2 (2 : Int32) x z = (9223372036854775807 : Int64) := (if_neg (by decide)).trans (if_neg (by decide))
theorem own_r1 {fi : Int32} {x yl ye yg : Int64} (h : own_g1 fi x yl ye yg) : fi = (0 : Int32) ∨ fi = (1 : Int32) := h.imp (fun q => q.1) (fun q => q.1)
theorem own_r2 {fi : Int32} {x z yl ye yg : Int64} (h : own_g2 fi x z yl ye yg) : fi = (0 : Int32) ∨ fi = (1 : Int32) ∨ fi = (2 : Int32) := h.imp (fun q => q.1) (fun q => q.imp (fun q => q.1) (fun q => q.1))
theorem own_fin1 {fi gn : Int32} {x yl ye yg af : Int64} (hg : (gn = (1 : Int32) ∧ ¬ ye < yg) ∨ (gn = (0 : Int32) ∧ ye < yg)) (hf : own_g1 fi x yl ye yg)
    (ha : (¬ gn = (0 : Int32) ∧ ¬ yl < (x / (1000000000 : Int64)) ∧ af = (9223372036854775807 : Int64)) ∨ ((gn = (0 : Int32) ∨ yl < (x / (1000000000 : Int64))) ∧ af = x)) : own_p1 fi x = af := by
  unfold own_g1 at hf
  simp only [own_sub0] at hf
  generalize x / (1000000000 : Int64) = w at hf ha
  rcases hf with ⟨e, q⟩ | ⟨e, q1, q2⟩ <;> rcases ha with ⟨a1, a2, a3⟩ | ⟨a1, a3⟩ <;> rcases hg with ⟨g1, g2⟩ | ⟨g1, g2⟩ <;> subst e <;> subst a3 <;> subst g1 <;> first | exact own_p1_0 _ | exact own_p1_1 _ | (exfalso; rcases q with q | q <;> first | contradiction | exact a1 rfl) | (exfalso; rcases a1 with q | q <;> first | contradiction | (revert q; decide)) | contradiction
theorem own_fin2 {fi gn : Int32} {x z yl ye yg af : Int64} (hg : (gn = (1 : Int32) ∧ ¬ ye < yg) ∨ (gn = (0 : Int32) ∧ ye < yg)) (hf : own_g2 fi x z yl ye yg)
    (ha : (¬ gn = (0 : Int32) ∧ ¬ yl < (x / (1000000000 : Int64)) ∧ ¬ yl < (z / (1000000000 : Int64)) ∧ af = (9223372036854775807 : Int64)) ∨ (¬ gn = (0 : Int32) ∧ ¬ yl < (x / (1000000000 : Int64)) ∧ yl < (z / (1000000000 : Int64)) ∧ af = z) ∨ ((gn = (0 : Int32) ∨ yl < (x / (1000000000 : Int64))) ∧ af = x)) : own_p2 fi x z = af := by
  unfold own_g2 at hf
  simp only [own_sub0] at hf
  generalize x / (1000000000 : Int64) = w at hf ha
  generalize z / (1000000000 : Int64) = w2 at hf ha
  rcases hf with ⟨e, q⟩ | ⟨e, q1, q2, q3⟩ | ⟨e, q1, q2, q3⟩ <;> rcases ha with ⟨a1, a2, a4, a3⟩ | ⟨a1, a2, a4, a3⟩ | ⟨a1, a3⟩ <;> rcases hg with ⟨g1, g2⟩ | ⟨g1, g2⟩ <;> subst e <;> subst a3 <;> subst g1 <;> first | exact own_p2_0 _ _ | exact own_p2_1 _ _ | exact own_p2_2 _ _ | (exfalso; rcases q with q | q <;> first | contradiction | exact a1 rfl) | (exfalso; rcases a1 with q | q <;> first | contradiction | (revert q; decide)) | contradiction
theorem own_lenlt {Z : State} {args : Array Value} {t : Term} {a : Addr} {cl : Cell} {v : Value} (ev : t.eval args Z none [] Z = some (.ref a)) (ea : Z.arrayAt? a = some cl) (hl : (Term.length t).eval args Z none [] Z = some v) : cl.slots.size < 2 ^ 31 := by
  by_cases h : cl.slots.size < 2 ^ 31
  · exact h
  · simp [Term.eval, ev, ea, h] at hl
theorem own_arv0 {Z : State} {args : Array Value} {t : Term} {a : Addr} {cl : Cell} {ty : FieldType} {dv : Value} (hf : Fit Z) (ev : t.eval args Z none [] Z = some (.ref a)) (A : Arr Z Z.heap a cl ty) (hl : (Term.length t).eval args Z none [] Z = some (.int 0)) : Arv Z Z.heap a cl.cls ty (0 : Int32) [] dv := by
  obtain ⟨x, c2, e1, e2, e3⟩ := Term.length_spec hl
  cases ev.symm.trans e1
  cases (A.fin (Vm.Alike.refl _)).symm.trans e2
  have hq : cl.slots.size.toInt32 = 0 := (Value.int.inj e3).symm
  have hlt : cl.slots.size < 2 ^ 31 := own_lenlt ev e2 hl
  exact Arv.start hf A hlt hq (by decide) rfl trivial
theorem efa_jdk_65_method_55_code_vvvv (m : MethodId) (x0 : Addr) (x1 : Int32) (x2 : Int32) (x3 : Int64) : entryFrame m #[(.ref x0), (.int x1), (.int x2), (.long x3)] 5 = mkF m 0 #[vr x0, vi x1, vi x2, vl x3, sd] [] := by first | (simp [entryFrame, mkF, argsToLocals, Value.category]; done) | rfl
theorem dc_0 : decode jdk_65_method_55_code 0 = .ok (.aload_n 0, 1) := by decide +kernel
theorem dc_1 : decode jdk_65_method_55_code 1 = .ok (.arraylength, 1) := by decide +kernel
theorem dc_2 : decode jdk_65_method_55_code 2 = .ok (.iload_n 1, 1) := by decide +kernel
theorem dc_3 : decode jdk_65_method_55_code 3 = .ok (.iload_n 2, 1) := by decide +kernel
theorem dc_4 : decode jdk_65_method_55_code 4 = .ok (.invokestatic 13, 3) := by decide +kernel
theorem efa_jdk_65_method_30_code_vvv (m : MethodId) (x0 : Int32) (x1 : Int32) (x2 : Int32) : entryFrame m #[(.int x0), (.int x1), (.int x2)] 3 = mkF m 0 #[vi x0, vi x1, vi x2] [] := by first | (simp [entryFrame, mkF, argsToLocals, Value.category]; done) | rfl
theorem di_0 : decode jdk_65_method_30_code 0 = .ok (.iload_n 1, 1) := by decide +kernel
theorem di_1 : decode jdk_65_method_30_code 1 = .ok (.iload_n 2, 1) := by decide +kernel
theorem di_2 : decode jdk_65_method_30_code 2 = .ok (.if_icmp .le 44, 3) := by decide +kernel
theorem di_46 : decode jdk_65_method_30_code 46 = .ok (.iload_n 1, 1) := by decide +kernel
theorem di_47 : decode jdk_65_method_30_code 47 = .ok (.ifCond .ge 12, 3) := by decide +kernel
theorem di_59 : decode jdk_65_method_30_code 59 = .ok (.iload_n 2, 1) := by decide +kernel
theorem di_60 : decode jdk_65_method_30_code 60 = .ok (.iload_n 0, 1) := by decide +kernel
theorem di_61 : decode jdk_65_method_30_code 61 = .ok (.if_icmp .le 12, 3) := by decide +kernel
theorem di_73 : decode jdk_65_method_30_code 73 = .ok (.return_, 1) := by decide +kernel
def QA2 (Z : State)  (h0 : Heap) (n0 : Nat) (v : Option Value) (h : Heap) (L : List Loc) : Prop := v = none ∧ Fr n0 L ∧ h = h0
set_option maxRecDepth 65536 in
set_option maxHeartbeats 40000000 in
theorem rmA2 (l : Launch) (Z : State) (a0 : Array Value) (hw : ∀ d ∈ tables_1, d.before a0 Z = true) (ws : List Jvm.Cond)  (h0 : Heap) (n0 : Nat) (Z0 : n0 ≤ h0.size) :
    MetFree l mn13 (head1 (Jvm.Cond.code mn13 jdk_65_method_30_code 3 none :: ws) ({ frames := 0, cells := 0, slots := 0, locals := 0 } : Room)) (fun a U => a = #[(.int (0 : Int32)), (.int (0 : Int32)), (.int (0 : Int32))] ∧ Z.Warmed39 U.vm ∧ U.heap = h0) (fun _ _ _ _ _ => True) (fun _ U oc_ U' => ∃ v L, oc_ = .returned v ∧ QA2 Z  h0 n0 v U'.heap L ∧ FrameEnd U oc_ U' L ({ frames := 0, cells := 0, slots := 0, locals := 0 } : Room).cells ({ frames := 0, cells := 0, slots := 0, locals := 0 } : Room).slots) := by
  refine MetFree.of_bodySF (plainFor_of_name pn_java_util_Arrays) hisR ?_
  intro p e s m args below meth c s₁ Bd hml0 hP hK
  obtain ⟨rfl, hZ, hh⟩ := hP
  have hx := Bd.exec
  have hby := Bd.bytes
  have hml : c.maxLocals = 3 := hml0
  have hown : s.vm.findClass "java/util/Arrays" = some m.cls := findClass_of_methodNamed Bd.named
  have hnm := (name_of_methodNamed Bd.named Bd.method).1
  have X0 : Stand p l e ({ frames := 0, cells := 0, slots := 0, locals := 0 } : Room) s m #[(.int (0 : Int32)), (.int (0 : Int32)), (.int (0 : Int32))] below meth c s₁ [] 0 0 := Stand.of_body Bd
  have e0 : s₁.heap = h0 := by rw [← hh, Bd.state]; rfl
  have N0 := Fr.nil n0
  have pre0 : ∀ t, SS p e below s₁ (mkF m 0 #[vi 0, vi 0, vi 0] []) t → Steps p.tables e below (s₁.setTop (entryFrame m #[(.int (0 : Int32)), (.int (0 : Int32)), (.int (0 : Int32))] 3)) t := fun t k => castTop (efa_jdk_65_method_30_code_vvv m (0 : Int32) (0 : Int32) (0 : Int32)) k
  obtain ⟨EN, hEN⟩ : ∃ z, z = s₁.setTop (entryFrame m #[(.int (0 : Int32)), (.int (0 : Int32)), (.int (0 : Int32))] 3) := ⟨_, rfl⟩
  rw [← hEN] at pre0
  subst hEN
  obtain ⟨lfs, lhr, lhrun, lhended, lhW, lhsame⟩ := X0.leave (v := none) (fun _ => rfl)
  refine ⟨_, _, pre0 _ ?_, lhrun, lhended, _, _, rfl, ?_, ⟨_, rfl⟩, lhW, lhsame.mono (by decide) (by decide)⟩
  · skip
    refine XS.iloadN X0.here hx rfl (hb hby di_0) rfl ?_
    refine XS.iloadN X0.here hx rfl (hb hby di_1) rfl ?_
    refine XS.icmpYes X0.here hx rfl (pc0 := 2) (pc' := 46) rfl (hb hby di_2) rfl (flt (by decide : ¬ ((0 : Int32) < (0 : Int32)))).2.2.2 (by decide) (by decide) ?_
    refine XS.iloadN X0.here hx rfl (hb hby di_46) rfl ?_
    refine XS.ifYes X0.here hx rfl (pc0 := 47) (pc' := 59) rfl (hb hby di_47) rfl ((if0 _ _).trans (flt (by decide : ¬ ((0 : Int32) < (0 : Int32)))).2.1) (by decide) (by decide) ?_
    refine XS.iloadN X0.here hx rfl (hb hby di_59) rfl ?_
    refine XS.iloadN X0.here hx rfl (hb hby di_60) rfl ?_
    refine XS.icmpYes X0.here hx rfl (pc0 := 61) (pc' := 73) rfl (hb hby di_61) rfl (flt (by decide : ¬ ((0 : Int32) < (0 : Int32)))).2.2.2 (by decide) (by decide) ?_
    show SS p e below s₁ (mkF m 73 #[vi 0, vi 0, vi 0] []) _
    exact X0.returnOut hx Bd.returns (hb hby di_73) lhr
  · skip
    show QA2 Z  h0 n0 _ s₁.heap _
    rw [e0]
    exact ⟨rfl, N0, rfl⟩
theorem dc_7 : decode jdk_65_method_55_code 7 = .ok (.aload_n 0, 1) := by decide +kernel
theorem dc_8 : decode jdk_65_method_55_code 8 = .ok (.iload_n 1, 1) := by decide +kernel
theorem dc_9 : decode jdk_65_method_55_code 9 = .ok (.iload_n 2, 1) := by decide +kernel
theorem dc_10 : decode jdk_65_method_55_code 10 = .ok (.lload_n 3, 1) := by decide +kernel
theorem dc_11 : decode jdk_65_method_55_code 11 = .ok (.invokestatic 205, 3) := by decide +kernel
theorem efa_jdk_65_method_56_code_vvvv (m : MethodId) (x0 : Addr) (x1 : Int32) (x2 : Int32) (x3 : Int64) : entryFrame m #[(.ref x0), (.int x1), (.int x2), (.long x3)] 10 = mkF m 0 #[vr x0, vi x1, vi x2, vl x3, sd, un, un, un, un, un] [] := by first | (simp [entryFrame, mkF, argsToLocals, Value.category]; done) | rfl
theorem dl_0 : decode jdk_65_method_56_code 0 = .ok (.iload_n 1, 1) := by decide +kernel
theorem dl_1 : decode jdk_65_method_56_code 1 = .ok (.istore 5, 2) := by decide +kernel
theorem dl_3 : decode jdk_65_method_56_code 3 = .ok (.iload_n 2, 1) := by decide +kernel
theorem dl_4 : decode jdk_65_method_56_code 4 = .ok (.iconst 1, 1) := by decide +kernel
theorem dl_5 : decode jdk_65_method_56_code 5 = .ok (.isub, 1) := by decide +kernel
theorem dl_6 : decode jdk_65_method_56_code 6 = .ok (.istore 6, 2) := by decide +kernel
theorem dl_8 : decode jdk_65_method_56_code 8 = .ok (.iload 5, 2) := by decide +kernel
theorem dl_10 : decode jdk_65_method_56_code 10 = .ok (.iload 6, 2) := by decide +kernel
theorem dl_12 : decode jdk_65_method_56_code 12 = .ok (.if_icmp .gt 56, 3) := by decide +kernel
theorem dl_68 : decode jdk_65_method_56_code 68 = .ok (.iload 5, 2) := by decide +kernel
theorem dl_70 : decode jdk_65_method_56_code 70 = .ok (.iconst 1, 1) := by decide +kernel
theorem dl_71 : decode jdk_65_method_56_code 71 = .ok (.iadd, 1) := by decide +kernel
theorem dl_72 : decode jdk_65_method_56_code 72 = .ok (.ineg, 1) := by decide +kernel
theorem dl_73 : decode jdk_65_method_56_code 73 = .ok (.ireturn, 1) := by decide +kernel
def QA3 (Z : State) (o0 : Addr) (y1 : Int64) (h0 : Heap) (n0 : Nat) (v : Option Value) (h : Heap) (L : List Loc) : Prop := v = some (.int (-1 : Int32)) ∧ Fr n0 L ∧ h = h0
set_option maxRecDepth 65536 in
set_option maxHeartbeats 40000000 in
theorem rmA3 (l : Launch) (Z : State) (a0 : Array Value) (hw : ∀ d ∈ tables_1, d.before a0 Z = true) (ws : List Jvm.Cond) (o0 : Addr) (y1 : Int64) (h0 : Heap) (n0 : Nat) (Z0 : n0 ≤ h0.size) :
    MetFree l mn11 (head1 (Jvm.Cond.code mn11 jdk_65_method_56_code 10 (some .int) :: ws) ({ frames := 0, cells := 0, slots := 0, locals := 0 } : Room)) (fun a U => a = #[(.ref o0), (.int (0 : Int32)), (.int (0 : Int32)), (.long y1)] ∧ Z.Warmed39 U.vm ∧ U.heap = h0) (fun _ _ _ _ _ => True) (fun _ U oc_ U' => ∃ v L, oc_ = .returned v ∧ QA3 Z o0 y1 h0 n0 v U'.heap L ∧ FrameEnd U oc_ U' L ({ frames := 0, cells := 0, slots := 0, locals := 0 } : Room).cells ({ frames := 0, cells := 0, slots := 0, locals := 0 } : Room).slots) := by
  refine MetFree.of_bodySF (plainFor_of_name pn_java_util_Arrays) hisR ?_
  intro p e s m args below meth c s₁ Bd hml0 hP hK
  obtain ⟨rfl, hZ, hh⟩ := hP
  have hx := Bd.exec
  have hby := Bd.bytes
  have hml : c.maxLocals = 10 := hml0
  have hown : s.vm.findClass "java/util/Arrays" = some m.cls := findClass_of_methodNamed Bd.named
  have hnm := (name_of_methodNamed Bd.named Bd.method).1
  have X0 : Stand p l e ({ frames := 0, cells := 0, slots := 0, locals := 0 } : Room) s m #[(.ref o0), (.int (0 : Int32)), (.int (0 : Int32)), (.long y1)] below meth c s₁ [] 0 0 := Stand.of_body Bd
  have e0 : s₁.heap = h0 := by rw [← hh, Bd.state]; rfl
  have N0 := Fr.nil n0
  have pre0 : ∀ t, SS p e below s₁ (mkF m 0 #[vr o0, vi 0, vi 0, vl y1, sd, un, un, un, un, un] []) t → Steps p.tables e below (s₁.setTop (entryFrame m #[(.ref o0), (.int (0 : Int32)), (.int (0 : Int32)), (.long y1)] 10)) t := fun t k => castTop (efa_jdk_65_method_56_code_vvvv m o0 (0 : Int32) (0 : Int32) y1) k
  obtain ⟨EN, hEN⟩ : ∃ z, z = s₁.setTop (entryFrame m #[(.ref o0), (.int (0 : Int32)), (.int (0 : Int32)), (.long y1)] 10) := ⟨_, rfl⟩
  rw [← hEN] at pre0
  subst hEN
  obtain ⟨lfs, lhr, lhrun, lhended, lhW, lhsame⟩ := X0.leave (v := some (.int (-1 : Int32))) (fun h => by rw [Bd.returns] at h; cases h)
  refine ⟨_, _, pre0 _ ?_, lhrun, lhended, _, _, rfl, ?_, ⟨_, rfl⟩, lhW, lhsame.mono (by decide) (by decide)⟩
  · skip
    refine XS.iloadN X0.here hx rfl (hb hby dl_0) rfl ?_
    refine XS.istore X0.here hx rfl (hb hby dl_1) rfl (l' := #[vr o0, vi 0, vi 0, vl y1, sd, vi 0, un, un, un, un]) rfl ?_
    refine XS.iloadN X0.here hx rfl (hb hby dl_3) rfl ?_
    refine XS.iconst X0.here hx rfl (hb hby dl_4) ?_
    refine XS.isub X0.here hx rfl (hb hby dl_5) rfl ?_
    refine XS.istore X0.here hx rfl (hb hby dl_6) rfl (l' := #[vr o0, vi 0, vi 0, vl y1, sd, vi 0, vi (-1), un, un, un]) rfl ?_
    refine XS.iload X0.here hx rfl (hb hby dl_8) rfl ?_
    refine XS.iload X0.here hx rfl (hb hby dl_10) rfl ?_
    show SS p e below s₁ (mkF m 12 #[vr o0, vi 0, vi 0, vl y1, sd, vi 0, vi (-1), un, un, un] [(.int (-1 : Int32)), (.int (0 : Int32))]) _
    refine XS.icmpYes X0.here hx rfl (pc0 := 12) (pc' := 68) rfl (hb hby dl_12) rfl (tlt (by decide : (-1 : Int32) < (0 : Int32))).2.2.1 (by decide) (by decide) ?_
    refine XS.iload X0.here hx rfl (hb hby dl_68) rfl ?_
    refine XS.iconst X0.here hx rfl (hb hby dl_70) ?_
    refine XS.iadd X0.here hx rfl (hb hby dl_71) rfl ?_
    refine XS.ineg X0.here hx rfl (hb hby dl_72) rfl ?_
    show SS p e below s₁ (mkF m 73 #[vr o0, vi 0, vi 0, vl y1, sd, vi 0, vi (-1), un, un, un] [(.int (-1 : Int32))]) _
    exact retI X0 hx Bd.returns (hb hby dl_73) lhr
  · skip
    show QA3 Z o0 y1 h0 n0 _ s₁.heap _
    rw [e0]
    exact ⟨rfl, N0, rfl⟩
theorem dc_14 : decode jdk_65_method_55_code 14 = .ok (.ireturn, 1) := by decide +kernel
def QA1 (Z : State) (o0 : Addr) (y1 : Int64) (kk_o0 : ClassId) (h0 : Heap) (n0 : Nat) (v : Option Value) (h : Heap) (L : List Loc) : Prop := v = some (.int (-1 : Int32)) ∧ Fr n0 L ∧ h = h0
set_option maxRecDepth 65536 in
set_option maxHeartbeats 40000000 in
theorem rmA1 (l : Launch) (Z : State) (a0 : Array Value) (hw : ∀ d ∈ tables_1, d.before a0 Z = true) (ws : List Jvm.Cond) (o0 : Addr) (y1 : Int64) (kk_o0 : ClassId) (h0 : Heap) (n0 : Nat) (Z0 : n0 ≤ h0.size) (V_o0 : Arv Z h0 o0 kk_o0 .long (0 : Int32) [] (.long (0 : Int64))) :
    MetFree l mn10 (head1 (Jvm.Cond.code mn10 jdk_65_method_55_code 5 (some .int) :: ws) ({ frames := 1, cells := 0, slots := 0, locals := 21 } : Room)) (fun a U => a = #[(.ref o0), (.int (0 : Int32)), (.int (0 : Int32)), (.long y1)] ∧ Z.Warmed39 U.vm ∧ U.heap = h0) (fun _ _ _ _ _ => True) (fun _ U oc_ U' => ∃ v L, oc_ = .returned v ∧ QA1 Z o0 y1 kk_o0 h0 n0 v U'.heap L ∧ FrameEnd U oc_ U' L ({ frames := 1, cells := 0, slots := 0, locals := 21 } : Room).cells ({ frames := 1, cells := 0, slots := 0, locals := 21 } : Room).slots) := by
  refine MetFree.of_bodySF (plainFor_of_name pn_java_util_Arrays) hisR ?_
  intro p e s m args below meth c s₁ Bd hml0 hP hK
  obtain ⟨rfl, hZ, hh⟩ := hP
  have hx := Bd.exec
  have hby := Bd.bytes
  have hml : c.maxLocals = 5 := hml0
  have hown : s.vm.findClass "java/util/Arrays" = some m.cls := findClass_of_methodNamed Bd.named
  have hnm := (name_of_methodNamed Bd.named Bd.method).1
  have X0 : Stand p l e ({ frames := 1, cells := 0, slots := 0, locals := 21 } : Room) s m #[(.ref o0), (.int (0 : Int32)), (.int (0 : Int32)), (.long y1)] below meth c s₁ [] 0 0 := Stand.of_body Bd
  have e0 : s₁.heap = h0 := by rw [← hh, Bd.state]; rfl
  have N0 := Fr.nil n0
  have pre0 : ∀ t, SS p e below s₁ (mkF m 0 #[vr o0, vi 0, vi 0, vl y1, sd] []) t → Steps p.tables e below (s₁.setTop (entryFrame m #[(.ref o0), (.int (0 : Int32)), (.int (0 : Int32)), (.long y1)] 5)) t := fun t k => castTop (efa_jdk_65_method_55_code_vvvv m o0 (0 : Int32) (0 : Int32) y1) k
  obtain ⟨EN, hEN⟩ : ∃ z, z = s₁.setTop (entryFrame m #[(.ref o0), (.int (0 : Int32)), (.int (0 : Int32)), (.long y1)] 5) := ⟨_, rfl⟩
  rw [← hEN] at pre0
  obtain ⟨cl1, Ar1, -, S1, M1, -, -⟩ := id V_o0
  obtain ⟨_, _, ⟨T2, L2, kc2, ks2⟩, -, X2, ⟨Lc2, hQ2, l2, y2, z2⟩, st2⟩ := Jvm.LawKit.callS X0 hx (y := mn13) hown (mvT hZ (wd39 hw)) (mvT hZ (wd40 hw)) (mvT hZ (wd37 hw)) (mvT hZ (wd41 hw)) (by decide) (backOf (W := 0) (rmA2 l Z a0 hw []  h0 n0 Z0 ) hZ (wd41 hw) (wd37 hw) (by decide) (by decide)) (g := (mkF m 4 #[vr o0, vi 0, vi 0, vl y1, sd] [(.int (0 : Int32)), (.int (0 : Int32)), (.int (0 : Int32))])) rfl (by rw [hml]; rfl) (argsL := [(.int (0 : Int32)), (.int (0 : Int32)), (.int (0 : Int32))]) (rest := []) (lenOf pd__III_V rfl) rfl (by show 2 * 0 + _ ≤ _; exact Nat.le_of_eq rfl) (hb hby dc_4) (fun _ _ => ⟨rfl, e0, (by decide : 0 + 0 ≤ _), (by decide : 0 + 0 ≤ _)⟩)
  dsimp only [Pt.U, Pt.locs, Pt.cells, Pt.slots] at X2 l2 y2 z2 st2 hQ2
  subst l2 y2 z2
  obtain ⟨rfl, Nq2, eq2⟩ := hQ2
  have N2 := Fr.app N0 Nq2
  obtain ⟨_, _, ⟨T3, L3, kc3, ks3⟩, -, X3, ⟨Lc3, hQ3, l3, y3, z3⟩, st3⟩ := Jvm.LawKit.callS X2 hx (y := mn11) hown (mvT hZ (wd42 hw)) (mvT hZ (wd43 hw)) (mvT hZ (wd37 hw)) (mvT hZ (wd44 hw)) (by decide) (backOf (W := 0) (rmA3 l Z a0 hw [] o0 y1 h0 n0 Z0 ) hZ (wd44 hw) (wd37 hw) (by decide) (by decide)) (g := (mkF m 11 #[vr o0, vi 0, vi 0, vl y1, sd] [(.long y1), (.int (0 : Int32)), (.int (0 : Int32)), (.ref o0)])) rfl (by rw [hml]; rfl) (argsL := [(.ref o0), (.int (0 : Int32)), (.int (0 : Int32)), (.long y1)]) (rest := []) (lenOf pd___JIIJ_I rfl) rfl (by show 2 * 0 + _ ≤ _; exact Nat.le_of_eq rfl) (hb hby dc_11) (fun _ _ => ⟨rfl, eq2, (by decide : 0 + 0 ≤ _), (by decide : 0 + 0 ≤ _)⟩)
  dsimp only [Pt.U, Pt.locs, Pt.cells, Pt.slots] at X3 l3 y3 z3 st3 hQ3
  subst l3 y3 z3
  obtain ⟨rfl, Nq3, eq3⟩ := hQ3
  have N3 := Fr.app N2 Nq3
  subst hEN
  obtain ⟨lfs, lhr, lhrun, lhended, lhW, lhsame⟩ := X3.leave (v := some (.int (-1 : Int32))) (fun h => by rw [Bd.returns] at h; cases h)
  refine ⟨_, _, pre0 _ ?_, lhrun, lhended, _, _, rfl, ?_, ⟨_, rfl⟩, lhW, lhsame.mono (by decide) (by decide)⟩
  · skip
    refine XS.aloadN X0.here hx rfl (hb hby dc_0) rfl rfl ?_
    refine X0.arraylength hx (by (try rw [e0]); exact Ar1.1) (State.isArrayOf_alike hZ.alike Ar1.2.1) (g := (mkF m 1 #[vr o0, vi 0, vi 0, vl y1, sd] [(.ref o0)])) rfl rfl (hb hby dc_1) _ ?_
    rw [len_of S1 M1]
    refine XS.iloadN X0.here hx rfl (hb hby dc_2) rfl ?_
    refine XS.iloadN X0.here hx rfl (hb hby dc_3) rfl ?_
    refine st2 _ ?_
    refine XS.aloadN X2.here hx rfl (hb hby dc_7) rfl rfl ?_
    refine XS.iloadN X2.here hx rfl (hb hby dc_8) rfl ?_
    refine XS.iloadN X2.here hx rfl (hb hby dc_9) rfl ?_
    refine XS.lloadN X2.here hx rfl (hb hby dc_10) rfl ?_
    refine st3 _ ?_
    show SS p e below T3 (mkF m 14 #[vr o0, vi 0, vi 0, vl y1, sd] [(.int (-1 : Int32))]) _
    exact retI X3 hx Bd.returns (hb hby dc_14) lhr
  · skip
    show QA1 Z o0 y1 kk_o0 h0 n0 _ T3.heap _
    rw [eq3]
    exact ⟨rfl, N3, rfl⟩
theorem ef_Ad0 (m : MethodId) (x0 : Addr) (x1 : Int64) (x2 : Int64) (x3 : Int64) (x4 : Int64) : entryFrame m #[(.ref x0), (.long x1), (.long x2), (.long x3), (.long x4)] 10 = mkF m 0 #[vr x0, vl x1, sd, vl x2, sd, vl x3, sd, vl x4, sd, un] [] := by first | (simp [entryFrame, mkF, argsToLocals, Value.category]; done) | rfl
theorem dk_0 : decode prog_23_method_5_code 0 = .ok (.aload_n 0, 1) := by decide +kernel
theorem dk_1 : decode prog_23_method_5_code 1 = .ok (.getfield 13, 3) := by decide +kernel
theorem dk_4 : decode prog_23_method_5_code 4 = .ok (.aload_n 0, 1) := by decide +kernel
theorem dk_5 : decode prog_23_method_5_code 5 = .ok (.getfield 26, 3) := by decide +kernel
theorem dk_8 : decode prog_23_method_5_code 8 = .ok (.aload_n 0, 1) := by decide +kernel
theorem dk_9 : decode prog_23_method_5_code 9 = .ok (.getfield 29, 3) := by decide +kernel
theorem dk_12 : decode prog_23_method_5_code 12 = .ok (.lload_n 1, 1) := by decide +kernel
theorem dk_13 : decode prog_23_method_5_code 13 = .ok (.invokestatic 38, 3) := by decide +kernel
theorem dk_16 : decode prog_23_method_5_code 16 = .ok (.istore 9, 2) := by decide +kernel
theorem dk_18 : decode prog_23_method_5_code 18 = .ok (.iload 9, 2) := by decide +kernel
theorem dk_20 : decode prog_23_method_5_code 20 = .ok (.ifCond .ge 22, 3) := by decide +kernel
theorem dk_23 : decode prog_23_method_5_code 23 = .ok (.lload 5, 2) := by decide +kernel
theorem dk_25 : decode prog_23_method_5_code 25 = .ok (.lconst 0, 1) := by decide +kernel
theorem dk_26 : decode prog_23_method_5_code 26 = .ok (.lcmp, 1) := by decide +kernel
theorem dk_27 : decode prog_23_method_5_code 27 = .ok (.ifCond .le 15, 3) := by decide +kernel
theorem dk_42 : decode prog_23_method_5_code 42 = .ok (.iload 9, 2) := by decide +kernel
theorem dk_44 : decode prog_23_method_5_code 44 = .ok (.ifCond .lt 33, 3) := by decide +kernel
theorem dk_77 : decode prog_23_method_5_code 77 = .ok (.return_, 1) := by decide +kernel
def QAd0 (Z : State) (kw : Addr) (yx : Int64) (wn : Addr) (kn : ClassId) (wd : Int32) (h0 : Heap) (n0 : Nat) (v : Option Value) (h : Heap) (L : List Loc) : Prop := v = none ∧ Fr n0 L ∧ h = h0
set_option maxRecDepth 65536 in
set_option maxHeartbeats 40000000 in
theorem rmAd0 (l : Launch) (Z : State) (a0 : Array Value) (hw : ∀ d ∈ tables_1, d.before a0 Z = true) (ws : List Jvm.Cond) (kw : Addr) (yx : Int64) (wn : Addr) (kn : ClassId) (wd : Int32) (h0 : Heap) (n0 : Nat) (Z0 : n0 ≤ h0.size) (g_k : n0 ≤ kw) (E_k : Exa Z h0 kw cn2) (F_s : Fld Z h0 kw cn2 "starts" "[J" (.ref wn)) (F_r : Fld Z h0 kw cn2 "records" "[J" (.ref wn)) (F_d : Fld Z h0 kw cn2 "decidedAt" "[J" (.ref wn)) (F_1 : Fld Z h0 kw cn2 "first" "I" (.int (0 : Int32))) (F_e : Fld Z h0 kw cn2 "end" "I" (.int (0 : Int32))) (F_w : Fld Z h0 kw cn2 "width" "I" (.int wd)) (V_N : Arv Z h0 wn kn .long (0 : Int32) [] (.long (0 : Int64))) (nkn : kw ≠ wn) :
    MetFree l mn1 (head1 (Jvm.Cond.code mn1 prog_23_method_5_code 10 none :: ws) ({ frames := 3, cells := 0, slots := 0, locals := 80 } : Room)) (fun a U => a = #[(.ref kw), (.long yx), (.long (0 : Int64)), (.long (0 : Int64)), (.long (0 : Int64))] ∧ Z.Warmed39 U.vm ∧ U.heap = h0) (fun _ _ _ _ _ => True) (fun _ U oc_ U' => ∃ v L, oc_ = .returned v ∧ QAd0 Z kw yx wn kn wd h0 n0 v U'.heap L ∧ FrameEnd U oc_ U' L ({ frames := 3, cells := 0, slots := 0, locals := 80 } : Room).cells ({ frames := 3, cells := 0, slots := 0, locals := 80 } : Room).slots) := by
  refine MetFree.of_bodySF (plainFor_of_name pn_com_example_strict_limiter_strictlimiter_KeptWindows) hisR ?_
  intro p e s m args below meth c s₁ Bd hml0 hP hK
  obtain ⟨rfl, hZ, hh⟩ := hP
  have hx := Bd.exec
  have hby := Bd.bytes
  have hml : c.maxLocals = 10 := hml0
  have hown : s.vm.findClass cn2 = some m.cls := findClass_of_methodNamed Bd.named
  have hnm := (name_of_methodNamed Bd.named Bd.method).1
  have X0 : Stand p l e ({ frames := 3, cells := 0, slots := 0, locals := 80 } : Room) s m #[(.ref kw), (.long yx), (.long (0 : Int64)), (.long (0 : Int64)), (.long (0 : Int64))] below meth c s₁ [] 0 0 := Stand.of_body Bd
  have e0 : s₁.heap = h0 := by rw [← hh, Bd.state]; rfl
  have N0 := Fr.nil n0
  have pre0 : ∀ t, SS p e below s₁ (mkF m 0 #[vr kw, vl yx, sd, vl 0, sd, vl 0, sd, vl 0, sd, un] []) t → Steps p.tables e below (s₁.setTop (entryFrame m #[(.ref kw), (.long yx), (.long (0 : Int64)), (.long (0 : Int64)), (.long (0 : Int64))] 10)) t := fun t k => castTop (ef_Ad0 m kw yx (0 : Int64) (0 : Int64) (0 : Int64)) k
  obtain ⟨EN, hEN⟩ : ∃ z, z = s₁.setTop (entryFrame m #[(.ref kw), (.long yx), (.long (0 : Int64)), (.long (0 : Int64)), (.long (0 : Int64))] 10) := ⟨_, rfl⟩
  rw [← hEN] at pre0
  obtain ⟨T1, X1, e1, st1⟩ := getF X0 hx hZ hown (wf11 hw) Via.refl e0 F_s (g := (mkF m 1 #[vr kw, vl yx, sd, vl 0, sd, vl 0, sd, vl 0, sd, un] [(.ref kw)])) rfl rfl (hb hby dk_1)
  obtain ⟨T2, X2, e2, st2⟩ := getF X1 hx hZ hown (wf24 hw) Via.refl e1 F_1 (g := (mkF m 5 #[vr kw, vl yx, sd, vl 0, sd, vl 0, sd, vl 0, sd, un] [(.ref kw), (.ref wn)])) rfl rfl (hb hby dk_5)
  obtain ⟨T3, X3, e3, st3⟩ := getF X2 hx hZ hown (wf26 hw) Via.refl e2 F_e (g := (mkF m 9 #[vr kw, vl yx, sd, vl 0, sd, vl 0, sd, vl 0, sd, un] [(.ref kw), (.int (0 : Int32)), (.ref wn)])) rfl rfl (hb hby dk_9)
  obtain ⟨_, _, ⟨T4, L4, kc4, ks4⟩, -, X4, ⟨Lc4, hQ4, l4, y4, z4⟩, st4⟩ := Jvm.LawKit.callS X3 hx (y := mn10) hown (mvT hZ (wd35 hw)) (mvT hZ (wd36 hw)) (mvT hZ (wd37 hw)) (mvT hZ (wd38 hw)) (by decide) (backOf (W := 0) (rmA1 l Z a0 hw [] wn yx _ h0 n0 Z0 V_N) hZ (wd38 hw) (wd37 hw) (by decide) (by decide)) (g := (mkF m 13 #[vr kw, vl yx, sd, vl 0, sd, vl 0, sd, vl 0, sd, un] [(.long yx), (.int (0 : Int32)), (.int (0 : Int32)), (.ref wn)])) rfl (by rw [hml]; rfl) (argsL := [(.ref wn), (.int (0 : Int32)), (.int (0 : Int32)), (.long yx)]) (rest := []) (lenOf pd___JIIJ_I rfl) rfl (by show 2 * 0 + _ ≤ _; exact Nat.le_of_eq rfl) (hb hby dk_13) (fun _ _ => ⟨rfl, e3, (by decide : 0 + 0 ≤ _), (by decide : 0 + 0 ≤ _)⟩)
  dsimp only [Pt.U, Pt.locs, Pt.cells, Pt.slots] at X4 l4 y4 z4 st4 hQ4
  subst l4 y4 z4
  obtain ⟨rfl, Nq4, eq4⟩ := hQ4
  have N4 := Fr.app N0 Nq4
  subst hEN
  obtain ⟨lfs, lhr, lhrun, lhended, lhW, lhsame⟩ := X4.leave (v := none) (fun _ => rfl)
  refine ⟨_, _, pre0 _ ?_, lhrun, lhended, _, _, rfl, ?_, ⟨_, rfl⟩, lhW, lhsame.mono (by decide) (by decide)⟩
  · skip
    refine XS.aloadN X0.here hx rfl (hb hby dk_0) rfl rfl ?_
    refine st1 _ ?_
    refine XS.aloadN X1.here hx rfl (hb hby dk_4) rfl rfl ?_
    refine st2 _ ?_
    refine XS.aloadN X2.here hx rfl (hb hby dk_8) rfl rfl ?_
    refine st3 _ ?_
    refine XS.lloadN X3.here hx rfl (hb hby dk_12) rfl ?_
    refine st4 _ ?_
    refine XS.istore X4.here hx rfl (hb hby dk_16) rfl (l' := #[vr kw, vl yx, sd, vl 0, sd, vl 0, sd, vl 0, sd, vi (-1)]) rfl ?_
    refine XS.iload X4.here hx rfl (hb hby dk_18) rfl ?_
    refine XS.ifNo X4.here hx rfl (hb hby dk_20) rfl ((if0 _ _).trans (tlt (by decide : (-1 : Int32) < (0 : Int32))).2.1) ?_
    refine XS.lload X4.here hx rfl (hb hby dk_23) rfl ?_
    refine XS.lconst X4.here hx rfl (hb hby dk_25) ?_
    refine XS.lcmp X4.here hx rfl (hb hby dk_26) rfl ?_
    refine XS.ifYes X4.here hx rfl (pc0 := 27) (pc' := 42) rfl (hb hby dk_27) rfl ((if0 _ _).trans (flt (fun q => (by decide : ¬ ((0 : Int64) < (0 : Int64))) ((lw_gt (0 : Int64) (0 : Int64)).mp q))).2.2.2) (by decide) (by decide) ?_
    refine XS.iload X4.here hx rfl (hb hby dk_42) rfl ?_
    show SS p e below T4 (mkF m 44 #[vr kw, vl yx, sd, vl 0, sd, vl 0, sd, vl 0, sd, vi (-1)] [(.int (-1 : Int32))]) _
    refine XS.ifYes X4.here hx rfl (pc0 := 44) (pc' := 77) rfl (hb hby dk_44) rfl ((if0 _ _).trans (tlt (by decide : (-1 : Int32) < (0 : Int32))).1) (by decide) (by decide) ?_
    show SS p e below T4 (mkF m 77 #[vr kw, vl yx, sd, vl 0, sd, vl 0, sd, vl 0, sd, vi (-1)] []) _
    exact X4.returnOut hx Bd.returns (hb hby dk_77) lhr
  · skip
    show QAd0 Z kw yx wn kn wd h0 n0 _ T4.heap _
    rw [eq4]
    exact ⟨rfl, N4, rfl⟩
theorem efa_prog_23_method_7_code_vvv (m : MethodId) (x0 : Addr) (x1 : Int32) (x2 : Int64) : entryFrame m #[(.ref x0), (.int x1), (.long x2)] 7 = mkF m 0 #[vr x0, vi x1, vl x2, sd, un, un, un] [] := by first | (simp [entryFrame, mkF, argsToLocals, Value.category]; done) | rfl
theorem dn_0 : decode prog_23_method_7_code 0 = .ok (.iload_n 1, 1) := by decide +kernel
theorem dn_1 : decode prog_23_method_7_code 1 = .ok (.istore 4, 2) := by decide +kernel
theorem dn_3 : decode prog_23_method_7_code 3 = .ok (.aload_n 0, 1) := by decide +kernel
theorem dn_4 : decode prog_23_method_7_code 4 = .ok (.getfield 29, 3) := by decide +kernel
theorem dn_7 : decode prog_23_method_7_code 7 = .ok (.aload_n 0, 1) := by decide +kernel
theorem dn_8 : decode prog_23_method_7_code 8 = .ok (.getfield 13, 3) := by decide +kernel
theorem dn_11 : decode prog_23_method_7_code 11 = .ok (.arraylength, 1) := by decide +kernel
theorem dn_12 : decode prog_23_method_7_code 12 = .ok (.if_icmp .ne 110, 3) := by decide +kernel
theorem dn_15 : decode prog_23_method_7_code 15 = .ok (.aload_n 0, 1) := by decide +kernel
theorem dn_16 : decode prog_23_method_7_code 16 = .ok (.getfield 29, 3) := by decide +kernel
theorem dn_19 : decode prog_23_method_7_code 19 = .ok (.aload_n 0, 1) := by decide +kernel
theorem dn_20 : decode prog_23_method_7_code 20 = .ok (.getfield 26, 3) := by decide +kernel
theorem dn_23 : decode prog_23_method_7_code 23 = .ok (.isub, 1) := by decide +kernel
theorem dn_24 : decode prog_23_method_7_code 24 = .ok (.istore 5, 2) := by decide +kernel
theorem dn_26 : decode prog_23_method_7_code 26 = .ok (.iload 5, 2) := by decide +kernel
theorem dn_28 : decode prog_23_method_7_code 28 = .ok (.aload_n 0, 1) := by decide +kernel
theorem dn_29 : decode prog_23_method_7_code 29 = .ok (.getfield 13, 3) := by decide +kernel
theorem dn_32 : decode prog_23_method_7_code 32 = .ok (.arraylength, 1) := by decide +kernel
theorem dn_33 : decode prog_23_method_7_code 33 = .ok (.if_icmp .ne 14, 3) := by decide +kernel
theorem dn_36 : decode prog_23_method_7_code 36 = .ok (.iconst 1, 1) := by decide +kernel
theorem dn_37 : decode prog_23_method_7_code 37 = .ok (.iconst 2, 1) := by decide +kernel
theorem dn_38 : decode prog_23_method_7_code 38 = .ok (.iload 5, 2) := by decide +kernel
theorem dn_40 : decode prog_23_method_7_code 40 = .ok (.imul, 1) := by decide +kernel
theorem dn_41 : decode prog_23_method_7_code 41 = .ok (.invokestatic 60, 3) := by decide +kernel
theorem efa_jdk_29_method_65_code_vv (m : MethodId) (x0 : Int32) (x1 : Int32) : entryFrame m #[(.int x0), (.int x1)] 2 = mkF m 0 #[vi x0, vi x1] [] := by first | (simp [entryFrame, mkF, argsToLocals, Value.category]; done) | rfl
theorem dj_0 : decode jdk_29_method_65_code 0 = .ok (.iload_n 0, 1) := by decide +kernel
theorem dj_1 : decode jdk_29_method_65_code 1 = .ok (.iload_n 1, 1) := by decide +kernel
theorem dj_2 : decode jdk_29_method_65_code 2 = .ok (.if_icmp .lt 7, 3) := by decide +kernel
theorem dj_5 : decode jdk_29_method_65_code 5 = .ok (.iload_n 0, 1) := by decide +kernel
theorem dj_6 : decode jdk_29_method_65_code 6 = .ok (.goto 4, 3) := by decide +kernel
theorem dj_10 : decode jdk_29_method_65_code 10 = .ok (.ireturn, 1) := by decide +kernel
def QA8 (Z : State)  (h0 : Heap) (n0 : Nat) (v : Option Value) (h : Heap) (L : List Loc) : Prop := v = some (.int (1 : Int32)) ∧ Fr n0 L ∧ h = h0
set_option maxRecDepth 65536 in
set_option maxHeartbeats 40000000 in
theorem rmA8 (l : Launch) (Z : State) (a0 : Array Value) (hw : ∀ d ∈ tables_1, d.before a0 Z = true) (ws : List Jvm.Cond)  (h0 : Heap) (n0 : Nat) (Z0 : n0 ≤ h0.size) :
    MetFree l mn7 (head1 (Jvm.Cond.code mn7 jdk_29_method_65_code 2 (some .int) :: ws) ({ frames := 0, cells := 0, slots := 0, locals := 0 } : Room)) (fun a U => a = #[(.int (1 : Int32)), (.int (0 : Int32))] ∧ Z.Warmed39 U.vm ∧ U.heap = h0) (fun _ _ _ _ _ => True) (fun _ U oc_ U' => ∃ v L, oc_ = .returned v ∧ QA8 Z  h0 n0 v U'.heap L ∧ FrameEnd U oc_ U' L ({ frames := 0, cells := 0, slots := 0, locals := 0 } : Room).cells ({ frames := 0, cells := 0, slots := 0, locals := 0 } : Room).slots) := by
  refine MetFree.of_bodySF (Jvm.Free.JP.mathPlain rfl (by decide +kernel)) hisR ?_
  intro p e s m args below meth c s₁ Bd hml0 hP hK
  obtain ⟨rfl, hZ, hh⟩ := hP
  have hx := Bd.exec
  have hby := Bd.bytes
  have hml : c.maxLocals = 2 := hml0
  have hown : s.vm.findClass "java/lang/Math" = some m.cls := findClass_of_methodNamed Bd.named
  have hnm := (name_of_methodNamed Bd.named Bd.method).1
  have X0 : Stand p l e ({ frames := 0, cells := 0, slots := 0, locals := 0 } : Room) s m #[(.int (1 : Int32)), (.int (0 : Int32))] below meth c s₁ [] 0 0 := Stand.of_body Bd
  have e0 : s₁.heap = h0 := by rw [← hh, Bd.state]; rfl
  have N0 := Fr.nil n0
  have pre0 : ∀ t, SS p e below s₁ (mkF m 0 #[vi 1, vi 0] []) t → Steps p.tables e below (s₁.setTop (entryFrame m #[(.int (1 : Int32)), (.int (0 : Int32))] 2)) t := fun t k => castTop (efa_jdk_29_method_65_code_vv m (1 : Int32) (0 : Int32)) k
  obtain ⟨EN, hEN⟩ : ∃ z, z = s₁.setTop (entryFrame m #[(.int (1 : Int32)), (.int (0 : Int32))] 2) := ⟨_, rfl⟩
  rw [← hEN] at pre0
  subst hEN
  obtain ⟨lfs, lhr, lhrun, lhended, lhW, lhsame⟩ := X0.leave (v := some (.int (1 : Int32))) (fun h => by rw [Bd.returns] at h; cases h)
  refine ⟨_, _, pre0 _ ?_, lhrun, lhended, _, _, rfl, ?_, ⟨_, rfl⟩, lhW, lhsame.mono (by decide) (by decide)⟩
  · skip
    refine XS.iloadN X0.here hx rfl (hb hby dj_0) rfl ?_
    refine XS.iloadN X0.here hx rfl (hb hby dj_1) rfl ?_
    refine XS.icmpNo X0.here hx rfl (hb hby dj_2) rfl (flt (by decide : ¬ ((1 : Int32) < (0 : Int32)))).1 ?_
    refine XS.iloadN X0.here hx rfl (hb hby dj_5) rfl ?_
    refine XS.goto X0.here hx rfl (pc0 := 6) (pc' := 10) rfl (hb hby dj_6) (by decide) (by decide) ?_
    show SS p e below s₁ (mkF m 10 #[vi 1, vi 0] [(.int (1 : Int32))]) _
    exact retI X0 hx Bd.returns (hb hby dj_10) lhr
  · skip
    show QA8 Z  h0 n0 _ s₁.heap _
    rw [e0]
    exact ⟨rfl, N0, rfl⟩
theorem dn_44 : decode prog_23_method_7_code 44 = .ok (.goto 8, 3) := by decide +kernel
theorem dn_52 : decode prog_23_method_7_code 52 = .ok (.istore 6, 2) := by decide +kernel
theorem dn_54 : decode prog_23_method_7_code 54 = .ok (.aload_n 0, 1) := by decide +kernel
theorem dn_55 : decode prog_23_method_7_code 55 = .ok (.aload_n 0, 1) := by decide +kernel
theorem dn_56 : decode prog_23_method_7_code 56 = .ok (.aload_n 0, 1) := by decide +kernel
theorem dn_57 : decode prog_23_method_7_code 57 = .ok (.getfield 13, 3) := by decide +kernel
theorem dn_60 : decode prog_23_method_7_code 60 = .ok (.iconst 1, 1) := by decide +kernel
theorem dn_61 : decode prog_23_method_7_code 61 = .ok (.iload 6, 2) := by decide +kernel
theorem dn_63 : decode prog_23_method_7_code 63 = .ok (.invokevirtual 66, 3) := by decide +kernel
theorem efa_prog_23_method_8_code_vvvv (m : MethodId) (x0 : Addr) (x1 : Addr) (x2 : Int32) (x3 : Int32) : entryFrame m #[(.ref x0), (.ref x1), (.int x2), (.int x3)] 5 = mkF m 0 #[vr x0, vr x1, vi x2, vi x3, un] [] := by first | (simp [entryFrame, mkF, argsToLocals, Value.category]; done) | rfl
theorem dd_0 : decode prog_23_method_8_code 0 = .ok (.iload_n 3, 1) := by decide +kernel
theorem dd_1 : decode prog_23_method_8_code 1 = .ok (.iload_n 2, 1) := by decide +kernel
theorem dd_2 : decode prog_23_method_8_code 2 = .ok (.imul, 1) := by decide +kernel
theorem dd_3 : decode prog_23_method_8_code 3 = .ok (.newarray .long, 2) := by decide +kernel
theorem dd_5 : decode prog_23_method_8_code 5 = .ok (.astore 4, 2) := by decide +kernel
theorem dd_7 : decode prog_23_method_8_code 7 = .ok (.aload_n 1, 1) := by decide +kernel
theorem dd_8 : decode prog_23_method_8_code 8 = .ok (.aload_n 0, 1) := by decide +kernel
theorem dd_9 : decode prog_23_method_8_code 9 = .ok (.getfield 26, 3) := by decide +kernel
theorem dd_12 : decode prog_23_method_8_code 12 = .ok (.iload_n 2, 1) := by decide +kernel
theorem dd_13 : decode prog_23_method_8_code 13 = .ok (.imul, 1) := by decide +kernel
theorem dd_14 : decode prog_23_method_8_code 14 = .ok (.aload 4, 2) := by decide +kernel
theorem dd_16 : decode prog_23_method_8_code 16 = .ok (.iconst 0, 1) := by decide +kernel
theorem dd_17 : decode prog_23_method_8_code 17 = .ok (.aload_n 0, 1) := by decide +kernel
theorem dd_18 : decode prog_23_method_8_code 18 = .ok (.getfield 29, 3) := by decide +kernel
theorem dd_21 : decode prog_23_method_8_code 21 = .ok (.aload_n 0, 1) := by decide +kernel
theorem dd_22 : decode prog_23_method_8_code 22 = .ok (.getfield 26, 3) := by decide +kernel
theorem dd_25 : decode prog_23_method_8_code 25 = .ok (.isub, 1) := by decide +kernel
theorem dd_26 : decode prog_23_method_8_code 26 = .ok (.iload_n 2, 1) := by decide +kernel
theorem dd_27 : decode prog_23_method_8_code 27 = .ok (.imul, 1) := by decide +kernel
theorem dd_28 : decode prog_23_method_8_code 28 = .ok (.invokestatic 54, 3) := by decide +kernel
theorem dd_31 : decode prog_23_method_8_code 31 = .ok (.aload 4, 2) := by decide +kernel
theorem dd_33 : decode prog_23_method_8_code 33 = .ok (.areturn, 1) := by decide +kernel
def QA9 (Z : State) (o0 : Addr) (o1 : Addr) (kk_o1 : ClassId) (h0 : Heap) (n0 : Nat) (v : Option Value) (h : Heap) (L : List Loc) : Prop := ∃ (b1 : Addr) (kk_b1 : ClassId), v = some (.ref b1) ∧ Fr n0 L ∧ Keep h0 h [] ∧ h0.size ≤ b1 ∧ Arv Z h b1 kk_b1 .long (1 : Int32) [(.long (0 : Int64))] (.long (0 : Int64))
set_option maxRecDepth 65536 in
set_option maxHeartbeats 40000000 in
theorem rmA9 (l : Launch) (Z : State) (a0 : Array Value) (hw : ∀ d ∈ tables_1, d.before a0 Z = true) (ws : List Jvm.Cond) (o0 : Addr) (o1 : Addr) (kk_o1 : ClassId) (h0 : Heap) (n0 : Nat) (Z0 : n0 ≤ h0.size) (F_o0_first : Fld Z h0 o0 cn2 "first" "I" (.int (0 : Int32))) (F_o0_end : Fld Z h0 o0 cn2 "end" "I" (.int (0 : Int32))) (V_o1 : Arv Z h0 o1 kk_o1 .long (0 : Int32) [] (.long (0 : Int64))) :
    MetFree l mn5 (head1 (Jvm.Cond.code mn5 prog_23_method_8_code 5 (some (.array .long)) :: ws) ({ frames := 1, cells := 1, slots := 1, locals := 36 } : Room)) (fun a U => a = #[(.ref o0), (.ref o1), (.int (1 : Int32)), (.int (1 : Int32))] ∧ Z.Warmed39 U.vm ∧ U.heap = h0) (fun _ _ _ _ _ => True) (fun _ U oc_ U' => ∃ v L, oc_ = .returned v ∧ QA9 Z o0 o1 kk_o1 h0 n0 v U'.heap L ∧ FrameEnd U oc_ U' L ({ frames := 1, cells := 1, slots := 1, locals := 36 } : Room).cells ({ frames := 1, cells := 1, slots := 1, locals := 36 } : Room).slots) := by
  refine MetFree.of_bodySF (plainFor_of_name pn_com_example_strict_limiter_strictlimiter_KeptWindows) hisR ?_
  intro p e s m args below meth c s₁ Bd hml0 hP hK
  obtain ⟨rfl, hZ, hh⟩ := hP
  have hx := Bd.exec
  have hby := Bd.bytes
  have hml : c.maxLocals = 5 := hml0
  have hown : s.vm.findClass cn2 = some m.cls := findClass_of_methodNamed Bd.named
  have hnm := (name_of_methodNamed Bd.named Bd.method).1
  have X0 : Stand p l e ({ frames := 1, cells := 1, slots := 1, locals := 36 } : Room) s m #[(.ref o0), (.ref o1), (.int (1 : Int32)), (.int (1 : Int32))] below meth c s₁ [] 0 0 := Stand.of_body Bd
  have e0 : s₁.heap = h0 := by rw [← hh, Bd.state]; rfl
  have N0 := Fr.nil n0
  have pre0 : ∀ t, SS p e below s₁ (mkF m 0 #[vr o0, vr o1, vi 1, vi 1, un] []) t → Steps p.tables e below (s₁.setTop (entryFrame m #[(.ref o0), (.ref o1), (.int (1 : Int32)), (.int (1 : Int32))] 5)) t := fun t k => castTop (efa_prog_23_method_8_code_vvvv m o0 o1 (1 : Int32) (1 : Int32)) k
  obtain ⟨EN, hEN⟩ : ∃ z, z = s₁.setTop (entryFrame m #[(.ref o0), (.ref o1), (.int (1 : Int32)), (.int (1 : Int32))] 5) := ⟨_, rfl⟩
  rw [← hEN] at pre0
  obtain ⟨T1, h1, kk1, X1, e1, E1, A1, st1⟩ := newP X0 hx hZ (aty := .long) (wd57 hw) e0 (g := (mkF m 3 #[vr o0, vr o1, vi 1, vi 1, un] [(.int (1 : Int32))])) rfl (hb hby dd_3) rfl (by decide) (cap := 1) (by decide) (by decide) (by decide) (by decide)
  obtain ⟨b1, g1⟩ : ∃ z, z = h0.size := ⟨_, rfl⟩
  rw [← g1] at A1 st1
  have ge_b1 : n0 ≤ b1 := Nat.le_trans Z0 (Nat.le_of_eq g1.symm)
  have sz_b1 : h0.size ≤ b1 := Nat.le_trans (Nat.le_refl _) (Nat.le_of_eq g1.symm)
  have Z1 := Nat.le_trans Z0 E1.1
  have K1 : Keep h0 h1 [] := ((Keep.refl h0 []).ext E1)
  have V1 : Arv Z h1 b1 kk1 .long (1 : Int32) [(.long (0 : Int64))] (.long (0 : Int64)) := (Arv.new A1 (by decide)).pad (pad_rep [] (.long (0 : Int64)) 1)
  have f2 := (F_o0_first.ext E1)
  obtain ⟨T3, X3, e3, st3⟩ := getF X1 hx hZ hown (wf24 hw) Via.refl e1 f2 (g := (mkF m 9 #[vr o0, vr o1, vi 1, vi 1, vr b1] [(.ref o0), (.ref o1)])) rfl rfl (hb hby dd_9)
  have f4 := (F_o0_end.ext E1)
  obtain ⟨T5, X5, e5, st5⟩ := getF X3 hx hZ hown (wf26 hw) Via.refl e3 f4 (g := (mkF m 18 #[vr o0, vr o1, vi 1, vi 1, vr b1] [(.ref o0), (.int (0 : Int32)), (.ref b1), (.int (0 : Int32)), (.ref o1)])) rfl rfl (hb hby dd_18)
  obtain ⟨T6, X6, e6, st6⟩ := getF X5 hx hZ hown (wf24 hw) Via.refl e5 f2 (g := (mkF m 22 #[vr o0, vr o1, vi 1, vi 1, vr b1] [(.ref o0), (.int (0 : Int32)), (.int (0 : Int32)), (.ref b1), (.int (0 : Int32)), (.ref o1)])) rfl rfl (hb hby dd_22)
  have f7 := (V_o1.ext E1)
  obtain ⟨T8, h8, Lq8, X8, e8, Nq8, Kq8, Vq8, st8⟩ := cpA X6 hx hZ hown (wd58 hw) (wd61 hw) (wd59 hw) (wd60 hw) e6 (us := []) f7 V1 (Or.inl ⟨rfl, rfl⟩) (by decide) (by decide) (by decide) (by first | decide | exact Nat.le_of_ble_eq_true rfl) (by first | decide | exact Nat.le_of_ble_eq_true rfl) (by rfl) (by first | decide | exact Nat.le_of_ble_eq_true rfl) N0 ge_b1 (g := (mkF m 28 #[vr o0, vr o1, vi 1, vi 1, vr b1] [(.int (0 : Int32)), (.int (0 : Int32)), (.ref b1), (.int (0 : Int32)), (.ref o1)])) rfl (by rw [hml]; rfl) rfl (hb hby dd_28) (by decide) (W := 0) (by show 2 * 0 + _ ≤ _; exact Nat.le_of_eq rfl) (by decide)
  have Z8 := Nat.le_trans Z1 Kq8.1
  have K8 := Keep.trans K1 Kq8 (allS (Or.inr sz_b1) all0)
  have V8 : Arv Z h8 b1 _ .long (1 : Int32) [(.long (0 : Int64))] (.long (0 : Int64)) := Vq8
  subst hEN
  obtain ⟨lfs, lhr, lhrun, lhended, lhW, lhsame⟩ := X8.leave (v := some (.ref b1)) (fun h => by rw [Bd.returns] at h; cases h)
  refine ⟨_, _, pre0 _ ?_, lhrun, lhended, _, _, rfl, ?_, ⟨_, rfl⟩, lhW, lhsame.mono (by decide) (by decide)⟩
  · skip
    refine XS.iloadN X0.here hx rfl (hb hby dd_0) rfl ?_
    refine XS.iloadN X0.here hx rfl (hb hby dd_1) rfl ?_
    refine XS.imul X0.here hx rfl (hb hby dd_2) rfl ?_
    refine st1 _ ?_
    refine XS.astore X1.here hx rfl (hb hby dd_5) rfl rfl (l' := #[vr o0, vr o1, vi 1, vi 1, vr b1]) rfl ?_
    refine XS.aloadN X1.here hx rfl (hb hby dd_7) rfl rfl ?_
    refine XS.aloadN X1.here hx rfl (hb hby dd_8) rfl rfl ?_
    refine st3 _ ?_
    refine XS.iloadN X3.here hx rfl (hb hby dd_12) rfl ?_
    refine XS.imul X3.here hx rfl (hb hby dd_13) rfl ?_
    refine XS.aload X3.here hx rfl (hb hby dd_14) rfl rfl ?_
    refine XS.iconst X3.here hx rfl (hb hby dd_16) ?_
    refine XS.aloadN X3.here hx rfl (hb hby dd_17) rfl rfl ?_
    refine st5 _ ?_
    refine XS.aloadN X5.here hx rfl (hb hby dd_21) rfl rfl ?_
    refine st6 _ ?_
    refine XS.isub X6.here hx rfl (hb hby dd_25) rfl ?_
    refine XS.iloadN X6.here hx rfl (hb hby dd_26) rfl ?_
    refine XS.imul X6.here hx rfl (hb hby dd_27) rfl ?_
    refine st8 _ ?_
    refine XS.aload X8.here hx rfl (hb hby dd_31) rfl rfl ?_
    show SS p e below T8 (mkF m 33 #[vr o0, vr o1, vi 1, vi 1, vr b1] [(.ref b1)]) _
    exact retOut X8 hx Bd.returns rfl (Or.inr (Or.inr (Or.inr (Or.inr ⟨rfl, rfl, rfl⟩)))) (hb hby dd_33) lhr
  · skip
    show QA9 Z o0 o1 kk_o1 h0 n0 _ T8.heap _
    rw [e8]
    exact ⟨b1, _, rfl, Nq8, K8, sz_b1, V8⟩
theorem dn_66 : decode prog_23_method_7_code 66 = .ok (.putfield 13, 3) := by decide +kernel
theorem dn_69 : decode prog_23_method_7_code 69 = .ok (.aload_n 0, 1) := by decide +kernel
theorem dn_70 : decode prog_23_method_7_code 70 = .ok (.aload_n 0, 1) := by decide +kernel
theorem dn_71 : decode prog_23_method_7_code 71 = .ok (.aload_n 0, 1) := by decide +kernel
theorem dn_72 : decode prog_23_method_7_code 72 = .ok (.getfield 16, 3) := by decide +kernel
theorem dn_75 : decode prog_23_method_7_code 75 = .ok (.aload_n 0, 1) := by decide +kernel
theorem dn_76 : decode prog_23_method_7_code 76 = .ok (.getfield 22, 3) := by decide +kernel
theorem dn_79 : decode prog_23_method_7_code 79 = .ok (.iload 6, 2) := by decide +kernel
theorem dn_81 : decode prog_23_method_7_code 81 = .ok (.invokevirtual 66, 3) := by decide +kernel
theorem dn_84 : decode prog_23_method_7_code 84 = .ok (.putfield 16, 3) := by decide +kernel
theorem dn_87 : decode prog_23_method_7_code 87 = .ok (.aload_n 0, 1) := by decide +kernel
theorem dn_88 : decode prog_23_method_7_code 88 = .ok (.aload_n 0, 1) := by decide +kernel
theorem dn_89 : decode prog_23_method_7_code 89 = .ok (.aload_n 0, 1) := by decide +kernel
theorem dn_90 : decode prog_23_method_7_code 90 = .ok (.getfield 19, 3) := by decide +kernel
theorem dn_93 : decode prog_23_method_7_code 93 = .ok (.iconst 1, 1) := by decide +kernel
theorem dn_94 : decode prog_23_method_7_code 94 = .ok (.iload 6, 2) := by decide +kernel
theorem dn_96 : decode prog_23_method_7_code 96 = .ok (.invokevirtual 66, 3) := by decide +kernel
theorem dn_99 : decode prog_23_method_7_code 99 = .ok (.putfield 19, 3) := by decide +kernel
theorem dn_102 : decode prog_23_method_7_code 102 = .ok (.iload 4, 2) := by decide +kernel
theorem dn_104 : decode prog_23_method_7_code 104 = .ok (.aload_n 0, 1) := by decide +kernel
theorem dn_105 : decode prog_23_method_7_code 105 = .ok (.getfield 26, 3) := by decide +kernel
theorem dn_108 : decode prog_23_method_7_code 108 = .ok (.isub, 1) := by decide +kernel
theorem dn_109 : decode prog_23_method_7_code 109 = .ok (.istore 4, 2) := by decide +kernel
theorem dn_111 : decode prog_23_method_7_code 111 = .ok (.aload_n 0, 1) := by decide +kernel
theorem dn_112 : decode prog_23_method_7_code 112 = .ok (.iconst 0, 1) := by decide +kernel
theorem dn_113 : decode prog_23_method_7_code 113 = .ok (.putfield 26, 3) := by decide +kernel
theorem dn_116 : decode prog_23_method_7_code 116 = .ok (.aload_n 0, 1) := by decide +kernel
theorem dn_117 : decode prog_23_method_7_code 117 = .ok (.iload 5, 2) := by decide +kernel
theorem dn_119 : decode prog_23_method_7_code 119 = .ok (.putfield 29, 3) := by decide +kernel
theorem dn_122 : decode prog_23_method_7_code 122 = .ok (.aload_n 0, 1) := by decide +kernel
theorem dn_123 : decode prog_23_method_7_code 123 = .ok (.getfield 13, 3) := by decide +kernel
theorem dn_126 : decode prog_23_method_7_code 126 = .ok (.iload 4, 2) := by decide +kernel
theorem dn_128 : decode prog_23_method_7_code 128 = .ok (.aload_n 0, 1) := by decide +kernel
theorem dn_129 : decode prog_23_method_7_code 129 = .ok (.getfield 13, 3) := by decide +kernel
theorem dn_132 : decode prog_23_method_7_code 132 = .ok (.iload 4, 2) := by decide +kernel
theorem dn_134 : decode prog_23_method_7_code 134 = .ok (.iconst 1, 1) := by decide +kernel
theorem dn_135 : decode prog_23_method_7_code 135 = .ok (.iadd, 1) := by decide +kernel
theorem dn_136 : decode prog_23_method_7_code 136 = .ok (.aload_n 0, 1) := by decide +kernel
theorem dn_137 : decode prog_23_method_7_code 137 = .ok (.getfield 29, 3) := by decide +kernel
theorem dn_140 : decode prog_23_method_7_code 140 = .ok (.iload 4, 2) := by decide +kernel
theorem dn_142 : decode prog_23_method_7_code 142 = .ok (.isub, 1) := by decide +kernel
theorem dn_143 : decode prog_23_method_7_code 143 = .ok (.invokestatic 54, 3) := by decide +kernel
theorem dn_146 : decode prog_23_method_7_code 146 = .ok (.aload_n 0, 1) := by decide +kernel
theorem dn_147 : decode prog_23_method_7_code 147 = .ok (.getfield 16, 3) := by decide +kernel
theorem dn_150 : decode prog_23_method_7_code 150 = .ok (.iload 4, 2) := by decide +kernel
theorem dn_152 : decode prog_23_method_7_code 152 = .ok (.aload_n 0, 1) := by decide +kernel
theorem dn_153 : decode prog_23_method_7_code 153 = .ok (.getfield 22, 3) := by decide +kernel
theorem dn_156 : decode prog_23_method_7_code 156 = .ok (.imul, 1) := by decide +kernel
theorem dn_157 : decode prog_23_method_7_code 157 = .ok (.aload_n 0, 1) := by decide +kernel
theorem dn_158 : decode prog_23_method_7_code 158 = .ok (.getfield 16, 3) := by decide +kernel
theorem dn_161 : decode prog_23_method_7_code 161 = .ok (.iload 4, 2) := by decide +kernel
theorem dn_163 : decode prog_23_method_7_code 163 = .ok (.iconst 1, 1) := by decide +kernel
theorem dn_164 : decode prog_23_method_7_code 164 = .ok (.iadd, 1) := by decide +kernel
theorem dn_165 : decode prog_23_method_7_code 165 = .ok (.aload_n 0, 1) := by decide +kernel
theorem dn_166 : decode prog_23_method_7_code 166 = .ok (.getfield 22, 3) := by decide +kernel
theorem dn_169 : decode prog_23_method_7_code 169 = .ok (.imul, 1) := by decide +kernel
theorem dn_170 : decode prog_23_method_7_code 170 = .ok (.aload_n 0, 1) := by decide +kernel
theorem dn_171 : decode prog_23_method_7_code 171 = .ok (.getfield 29, 3) := by decide +kernel
theorem dn_174 : decode prog_23_method_7_code 174 = .ok (.iload 4, 2) := by decide +kernel
theorem dn_176 : decode prog_23_method_7_code 176 = .ok (.isub, 1) := by decide +kernel
theorem dn_177 : decode prog_23_method_7_code 177 = .ok (.aload_n 0, 1) := by decide +kernel
theorem dn_178 : decode prog_23_method_7_code 178 = .ok (.getfield 22, 3) := by decide +kernel
theorem dn_181 : decode prog_23_method_7_code 181 = .ok (.imul, 1) := by decide +kernel
theorem dn_182 : decode prog_23_method_7_code 182 = .ok (.invokestatic 54, 3) := by decide +kernel
theorem dn_185 : decode prog_23_method_7_code 185 = .ok (.aload_n 0, 1) := by decide +kernel
theorem dn_186 : decode prog_23_method_7_code 186 = .ok (.getfield 19, 3) := by decide +kernel
theorem dn_189 : decode prog_23_method_7_code 189 = .ok (.iload 4, 2) := by decide +kernel
theorem dn_191 : decode prog_23_method_7_code 191 = .ok (.aload_n 0, 1) := by decide +kernel
theorem dn_192 : decode prog_23_method_7_code 192 = .ok (.getfield 19, 3) := by decide +kernel
theorem dn_195 : decode prog_23_method_7_code 195 = .ok (.iload 4, 2) := by decide +kernel
theorem dn_197 : decode prog_23_method_7_code 197 = .ok (.iconst 1, 1) := by decide +kernel
theorem dn_198 : decode prog_23_method_7_code 198 = .ok (.iadd, 1) := by decide +kernel
theorem dn_199 : decode prog_23_method_7_code 199 = .ok (.aload_n 0, 1) := by decide +kernel
theorem dn_200 : decode prog_23_method_7_code 200 = .ok (.getfield 29, 3) := by decide +kernel
theorem dn_203 : decode prog_23_method_7_code 203 = .ok (.iload 4, 2) := by decide +kernel
theorem dn_205 : decode prog_23_method_7_code 205 = .ok (.isub, 1) := by decide +kernel
theorem dn_206 : decode prog_23_method_7_code 206 = .ok (.invokestatic 54, 3) := by decide +kernel
theorem dn_209 : decode prog_23_method_7_code 209 = .ok (.aload_n 0, 1) := by decide +kernel
theorem dn_210 : decode prog_23_method_7_code 210 = .ok (.getfield 13, 3) := by decide +kernel
theorem dn_213 : decode prog_23_method_7_code 213 = .ok (.iload 4, 2) := by decide +kernel
theorem dn_215 : decode prog_23_method_7_code 215 = .ok (.lload_n 2, 1) := by decide +kernel
theorem dn_216 : decode prog_23_method_7_code 216 = .ok (.lastore, 1) := by decide +kernel
theorem dn_217 : decode prog_23_method_7_code 217 = .ok (.aload_n 0, 1) := by decide +kernel
theorem dn_218 : decode prog_23_method_7_code 218 = .ok (.getfield 16, 3) := by decide +kernel
theorem dn_221 : decode prog_23_method_7_code 221 = .ok (.iload 4, 2) := by decide +kernel
theorem dn_223 : decode prog_23_method_7_code 223 = .ok (.aload_n 0, 1) := by decide +kernel
theorem dn_224 : decode prog_23_method_7_code 224 = .ok (.getfield 22, 3) := by decide +kernel
theorem dn_227 : decode prog_23_method_7_code 227 = .ok (.imul, 1) := by decide +kernel
theorem dn_228 : decode prog_23_method_7_code 228 = .ok (.iload 4, 2) := by decide +kernel
theorem dn_230 : decode prog_23_method_7_code 230 = .ok (.iconst 1, 1) := by decide +kernel
theorem dn_231 : decode prog_23_method_7_code 231 = .ok (.iadd, 1) := by decide +kernel
theorem dn_232 : decode prog_23_method_7_code 232 = .ok (.aload_n 0, 1) := by decide +kernel
theorem dn_233 : decode prog_23_method_7_code 233 = .ok (.getfield 22, 3) := by decide +kernel
theorem dn_236 : decode prog_23_method_7_code 236 = .ok (.imul, 1) := by decide +kernel
theorem dn_237 : decode prog_23_method_7_code 237 = .ok (.lconst 0, 1) := by decide +kernel
theorem dn_238 : decode prog_23_method_7_code 238 = .ok (.invokestatic 70, 3) := by decide +kernel
theorem efa_jdk_65_method_102_code_vvvv (m : MethodId) (x0 : Addr) (x1 : Int32) (x2 : Int32) (x3 : Int64) : entryFrame m #[(.ref x0), (.int x1), (.int x2), (.long x3)] 6 = mkF m 0 #[vr x0, vi x1, vi x2, vl x3, sd, un] [] := by first | (simp [entryFrame, mkF, argsToLocals, Value.category]; done) | rfl
theorem da_0 : decode jdk_65_method_102_code 0 = .ok (.aload_n 0, 1) := by decide +kernel
theorem da_1 : decode jdk_65_method_102_code 1 = .ok (.arraylength, 1) := by decide +kernel
theorem da_2 : decode jdk_65_method_102_code 2 = .ok (.iload_n 1, 1) := by decide +kernel
theorem da_3 : decode jdk_65_method_102_code 3 = .ok (.iload_n 2, 1) := by decide +kernel
theorem da_4 : decode jdk_65_method_102_code 4 = .ok (.invokestatic 13, 3) := by decide +kernel
def QA13 (Z : State)  (h0 : Heap) (n0 : Nat) (v : Option Value) (h : Heap) (L : List Loc) : Prop := v = none ∧ Fr n0 L ∧ h = h0
set_option maxRecDepth 65536 in
set_option maxHeartbeats 40000000 in
theorem rmA13 (l : Launch) (Z : State) (a0 : Array Value) (hw : ∀ d ∈ tables_1, d.before a0 Z = true) (ws : List Jvm.Cond)  (h0 : Heap) (n0 : Nat) (Z0 : n0 ≤ h0.size) :
    MetFree l mn13 (head1 (Jvm.Cond.code mn13 jdk_65_method_30_code 3 none :: ws) ({ frames := 0, cells := 0, slots := 0, locals := 0 } : Room)) (fun a U => a = #[(.int (1 : Int32)), (.int (0 : Int32)), (.int (1 : Int32))] ∧ Z.Warmed39 U.vm ∧ U.heap = h0) (fun _ _ _ _ _ => True) (fun _ U oc_ U' => ∃ v L, oc_ = .returned v ∧ QA13 Z  h0 n0 v U'.heap L ∧ FrameEnd U oc_ U' L ({ frames := 0, cells := 0, slots := 0, locals := 0 } : Room).cells ({ frames := 0, cells := 0, slots := 0, locals := 0 } : Room).slots) := by
  refine MetFree.of_bodySF (plainFor_of_name pn_java_util_Arrays) hisR ?_
  intro p e s m args below meth c s₁ Bd hml0 hP hK
  obtain ⟨rfl, hZ, hh⟩ := hP
  have hx := Bd.exec
  have hby := Bd.bytes
  have hml : c.maxLocals = 3 := hml0
  have hown : s.vm.findClass "java/util/Arrays" = some m.cls := findClass_of_methodNamed Bd.named
  have hnm := (name_of_methodNamed Bd.named Bd.method).1
  have X0 : Stand p l e ({ frames := 0, cells := 0, slots := 0, locals := 0 } : Room) s m #[(.int (1 : Int32)), (.int (0 : Int32)), (.int (1 : Int32))] below meth c s₁ [] 0 0 := Stand.of_body Bd
  have e0 : s₁.heap = h0 := by rw [← hh, Bd.state]; rfl
  have N0 := Fr.nil n0
  have pre0 : ∀ t, SS p e below s₁ (mkF m 0 #[vi 1, vi 0, vi 1] []) t → Steps p.tables e below (s₁.setTop (entryFrame m #[(.int (1 : Int32)), (.int (0 : Int32)), (.int (1 : Int32))] 3)) t := fun t k => castTop (efa_jdk_65_method_30_code_vvv m (1 : Int32) (0 : Int32) (1 : Int32)) k
  obtain ⟨EN, hEN⟩ : ∃ z, z = s₁.setTop (entryFrame m #[(.int (1 : Int32)), (.int (0 : Int32)), (.int (1 : Int32))] 3) := ⟨_, rfl⟩
  rw [← hEN] at pre0
  subst hEN
  obtain ⟨lfs, lhr, lhrun, lhended, lhW, lhsame⟩ := X0.leave (v := none) (fun _ => rfl)
  refine ⟨_, _, pre0 _ ?_, lhrun, lhended, _, _, rfl, ?_, ⟨_, rfl⟩, lhW, lhsame.mono (by decide) (by decide)⟩
  · skip
    refine XS.iloadN X0.here hx rfl (hb hby di_0) rfl ?_
    refine XS.iloadN X0.here hx rfl (hb hby di_1) rfl ?_
    refine XS.icmpYes X0.here hx rfl (pc0 := 2) (pc' := 46) rfl (hb hby di_2) rfl (flt (by decide : ¬ ((1 : Int32) < (0 : Int32)))).2.2.2 (by decide) (by decide) ?_
    refine XS.iloadN X0.here hx rfl (hb hby di_46) rfl ?_
    refine XS.ifYes X0.here hx rfl (pc0 := 47) (pc' := 59) rfl (hb hby di_47) rfl ((if0 _ _).trans (flt (by decide : ¬ ((0 : Int32) < (0 : Int32)))).2.1) (by decide) (by decide) ?_
    refine XS.iloadN X0.here hx rfl (hb hby di_59) rfl ?_
    refine XS.iloadN X0.here hx rfl (hb hby di_60) rfl ?_
    refine XS.icmpYes X0.here hx rfl (pc0 := 61) (pc' := 73) rfl (hb hby di_61) rfl (flt (by decide : ¬ ((1 : Int32) < (1 : Int32)))).2.2.2 (by decide) (by decide) ?_
    show SS p e below s₁ (mkF m 73 #[vi 1, vi 0, vi 1] []) _
    exact X0.returnOut hx Bd.returns (hb hby di_73) lhr
  · skip
    show QA13 Z  h0 n0 _ s₁.heap _
    rw [e0]
    exact ⟨rfl, N0, rfl⟩
theorem da_7 : decode jdk_65_method_102_code 7 = .ok (.iload_n 1, 1) := by decide +kernel
theorem da_8 : decode jdk_65_method_102_code 8 = .ok (.istore 5, 2) := by decide +kernel
theorem da_10 : decode jdk_65_method_102_code 10 = .ok (.iload 5, 2) := by decide +kernel
theorem da_12 : decode jdk_65_method_102_code 12 = .ok (.iload_n 2, 1) := by decide +kernel
theorem da_13 : decode jdk_65_method_102_code 13 = .ok (.if_icmp .ge 14, 3) := by decide +kernel
theorem da_16 : decode jdk_65_method_102_code 16 = .ok (.aload_n 0, 1) := by decide +kernel
theorem da_17 : decode jdk_65_method_102_code 17 = .ok (.iload 5, 2) := by decide +kernel
theorem da_19 : decode jdk_65_method_102_code 19 = .ok (.lload_n 3, 1) := by decide +kernel
theorem da_20 : decode jdk_65_method_102_code 20 = .ok (.lastore, 1) := by decide +kernel
theorem da_21 : decode jdk_65_method_102_code 21 = .ok (.iinc 5 1, 3) := by decide +kernel
theorem da_24 : decode jdk_65_method_102_code 24 = .ok (.goto (-14), 3) := by decide +kernel
theorem da_27 : decode jdk_65_method_102_code 27 = .ok (.return_, 1) := by decide +kernel
def QA12 (Z : State) (o0 : Addr) (kk_o0 : ClassId) (h0 : Heap) (n0 : Nat) (v : Option Value) (h : Heap) (L : List Loc) : Prop := v = none ∧ Fr n0 L ∧ Keep h0 h [o0] ∧ Arv Z h o0 kk_o0 .long (1 : Int32) [(.long (0 : Int64))] (.long (0 : Int64))
set_option maxRecDepth 65536 in
set_option maxHeartbeats 40000000 in
theorem rmA12 (l : Launch) (Z : State) (a0 : Array Value) (hw : ∀ d ∈ tables_1, d.before a0 Z = true) (ws : List Jvm.Cond) (o0 : Addr) (kk_o0 : ClassId) (h0 : Heap) (n0 : Nat) (Z0 : n0 ≤ h0.size) (V_o0 : Arv Z h0 o0 kk_o0 .long (1 : Int32) [(.long (0 : Int64))] (.long (0 : Int64))) (g_o0 : n0 ≤ o0) :
    MetFree l mn12 (head1 (Jvm.Cond.code mn12 jdk_65_method_102_code 6 none :: ws) ({ frames := 1, cells := 0, slots := 0, locals := 14 } : Room)) (fun a U => a = #[(.ref o0), (.int (0 : Int32)), (.int (1 : Int32)), (.long (0 : Int64))] ∧ Z.Warmed39 U.vm ∧ U.heap = h0) (fun _ _ _ _ _ => True) (fun _ U oc_ U' => ∃ v L, oc_ = .returned v ∧ QA12 Z o0 kk_o0 h0 n0 v U'.heap L ∧ FrameEnd U oc_ U' L ({ frames := 1, cells := 0, slots := 0, locals := 14 } : Room).cells ({ frames := 1, cells := 0, slots := 0, locals := 14 } : Room).slots) := by
  refine MetFree.of_bodySF (plainFor_of_name pn_java_util_Arrays) hisR ?_
  intro p e s m args below meth c s₁ Bd hml0 hP hK
  obtain ⟨rfl, hZ, hh⟩ := hP
  have hx := Bd.exec
  have hby := Bd.bytes
  have hml : c.maxLocals = 6 := hml0
  have hown : s.vm.findClass "java/util/Arrays" = some m.cls := findClass_of_methodNamed Bd.named
  have hnm := (name_of_methodNamed Bd.named Bd.method).1
  have X0 : Stand p l e ({ frames := 1, cells := 0, slots := 0, locals := 14 } : Room) s m #[(.ref o0), (.int (0 : Int32)), (.int (1 : Int32)), (.long (0 : Int64))] below meth c s₁ [] 0 0 := Stand.of_body Bd
  have e0 : s₁.heap = h0 := by rw [← hh, Bd.state]; rfl
  have N0 := Fr.nil n0
  have pre0 : ∀ t, SS p e below s₁ (mkF m 0 #[vr o0, vi 0, vi 1, vl 0, sd, un] []) t → Steps p.tables e below (s₁.setTop (entryFrame m #[(.ref o0), (.int (0 : Int32)), (.int (1 : Int32)), (.long (0 : Int64))] 6)) t := fun t k => castTop (efa_jdk_65_method_102_code_vvvv m o0 (0 : Int32) (1 : Int32) (0 : Int64)) k
  obtain ⟨EN, hEN⟩ : ∃ z, z = s₁.setTop (entryFrame m #[(.ref o0), (.int (0 : Int32)), (.int (1 : Int32)), (.long (0 : Int64))] 6) := ⟨_, rfl⟩
  rw [← hEN] at pre0
  obtain ⟨cl1, Ar1, -, S1, M1, -, -⟩ := id V_o0
  obtain ⟨_, _, ⟨T2, L2, kc2, ks2⟩, -, X2, ⟨Lc2, hQ2, l2, y2, z2⟩, st2⟩ := Jvm.LawKit.callS X0 hx (y := mn13) hown (mvT hZ (wd39 hw)) (mvT hZ (wd40 hw)) (mvT hZ (wd37 hw)) (mvT hZ (wd41 hw)) (by decide) (backOf (W := 0) (rmA13 l Z a0 hw []  h0 n0 Z0 ) hZ (wd41 hw) (wd37 hw) (by decide) (by decide)) (g := (mkF m 4 #[vr o0, vi 0, vi 1, vl 0, sd, un] [(.int (1 : Int32)), (.int (0 : Int32)), (.int (1 : Int32))])) rfl (by rw [hml]; rfl) (argsL := [(.int (1 : Int32)), (.int (0 : Int32)), (.int (1 : Int32))]) (rest := []) (lenOf pd__III_V rfl) rfl (by show 2 * 0 + _ ≤ _; exact Nat.le_of_eq rfl) (hb hby da_4) (fun _ _ => ⟨rfl, e0, (by decide : 0 + 0 ≤ _), (by decide : 0 + 0 ≤ _)⟩)
  dsimp only [Pt.U, Pt.locs, Pt.cells, Pt.slots] at X2 l2 y2 z2 st2 hQ2
  subst l2 y2 z2
  obtain ⟨rfl, Nq2, eq2⟩ := hQ2
  have N2 := Fr.app N0 Nq2
  obtain ⟨cl3, Ar3, q3, S3, M3, HH3, GG3⟩ := id V_o0
  have hin3 : ¬ ((0 : Int32) < 0 ∨ cl3.slots.size ≤ ((0 : Int32)).toNatClampNeg) := inb_of S3 ⟨by decide, by decide⟩
  obtain ⟨T4, h4, X4, e4, W4, st4⟩ := stJ X2 hx hZ eq2 Ar3 (j := (0 : Int32)) hin3 (g := (mkF m 20 #[vr o0, vi 0, vi 1, vl 0, sd, vi 0] [(.long (0 : Int64)), (.int (0 : Int32)), (.ref o0)])) rfl rfl (hb hby da_20)
  have N4 := Fr.snoc X4 N2 g_o0
  have Z4 : n0 ≤ h4.size := by rw [W4.size]; exact Z0
  have K4 : Keep h0 h4 [o0] := ((Keep.refl h0 [o0]).wr W4 (Or.inl (List.mem_of_getElem? (i := 0) rfl)))
  have V4 := Arv.set Ar3 q3 S3 M3 HH3 GG3 rfl W4 0 rfl (Nat.le_of_ble_eq_true rfl)
  subst hEN
  obtain ⟨lfs, lhr, lhrun, lhended, lhW, lhsame⟩ := X4.leave (v := none) (fun _ => rfl)
  refine ⟨_, _, pre0 _ ?_, lhrun, lhended, _, _, rfl, ?_, ⟨_, rfl⟩, lhW, lhsame.mono (by decide) (by decide)⟩
  · skip
    refine XS.aloadN X0.here hx rfl (hb hby da_0) rfl rfl ?_
    refine X0.arraylength hx (by (try rw [e0]); exact Ar1.1) (State.isArrayOf_alike hZ.alike Ar1.2.1) (g := (mkF m 1 #[vr o0, vi 0, vi 1, vl 0, sd, un] [(.ref o0)])) rfl rfl (hb hby da_1) _ ?_
    rw [len_of S1 M1]
    refine XS.iloadN X0.here hx rfl (hb hby da_2) rfl ?_
    refine XS.iloadN X0.here hx rfl (hb hby da_3) rfl ?_
    refine st2 _ ?_
    refine XS.iloadN X2.here hx rfl (hb hby da_7) rfl ?_
    refine XS.istore X2.here hx rfl (hb hby da_8) rfl (l' := #[vr o0, vi 0, vi 1, vl 0, sd, vi 0]) rfl ?_
    refine XS.iload X2.here hx rfl (hb hby da_10) rfl ?_
    refine XS.iloadN X2.here hx rfl (hb hby da_12) rfl ?_
    refine XS.icmpNo X2.here hx rfl (hb hby da_13) rfl (tlt (by decide : (0 : Int32) < (1 : Int32))).2.1 ?_
    refine XS.aloadN X2.here hx rfl (hb hby da_16) rfl rfl ?_
    refine XS.iload X2.here hx rfl (hb hby da_17) rfl ?_
    refine XS.lloadN X2.here hx rfl (hb hby da_19) rfl ?_
    show SS p e below T2 (mkF m 20 #[vr o0, vi 0, vi 1, vl 0, sd, vi 0] [(.long (0 : Int64)), (.int (0 : Int32)), (.ref o0)]) _
    refine st4 _ ?_
    refine XS.iinc X4.here hx rfl (hb hby da_21) rfl (l' := #[vr o0, vi 0, vi 1, vl 0, sd, vi 1]) rfl ?_
    refine XS.goto X4.here hx rfl (pc0 := 24) (pc' := 10) rfl (hb hby da_24) (by decide) (by decide) ?_
    refine XS.iload X4.here hx rfl (hb hby da_10) rfl ?_
    refine XS.iloadN X4.here hx rfl (hb hby da_12) rfl ?_
    refine XS.icmpYes X4.here hx rfl (pc0 := 13) (pc' := 27) rfl (hb hby da_13) rfl (flt (by decide : ¬ ((1 : Int32) < (1 : Int32)))).2.1 (by decide) (by decide) ?_
    show SS p e below T4 (mkF m 27 #[vr o0, vi 0, vi 1, vl 0, sd, vi 1] []) _
    exact X4.returnOut hx Bd.returns (hb hby da_27) lhr
  · skip
    show QA12 Z o0 kk_o0 h0 n0 _ T4.heap _
    rw [e4]
    exact ⟨rfl, N4, K4, V4⟩
theorem dn_241 : decode prog_23_method_7_code 241 = .ok (.aload_n 0, 1) := by decide +kernel
theorem dn_242 : decode prog_23_method_7_code 242 = .ok (.dup, 1) := by decide +kernel
theorem dn_243 : decode prog_23_method_7_code 243 = .ok (.getfield 29, 3) := by decide +kernel
theorem dn_246 : decode prog_23_method_7_code 246 = .ok (.iconst 1, 1) := by decide +kernel
theorem dn_247 : decode prog_23_method_7_code 247 = .ok (.iadd, 1) := by decide +kernel
theorem dn_248 : decode prog_23_method_7_code 248 = .ok (.putfield 29, 3) := by decide +kernel
theorem dn_251 : decode prog_23_method_7_code 251 = .ok (.iload 4, 2) := by decide +kernel
theorem dn_253 : decode prog_23_method_7_code 253 = .ok (.ireturn, 1) := by decide +kernel
def QA7 (Z : State) (o0 : Addr) (y1 : Int64) (o2 : Addr) (kk_o2 : ClassId) (h0 : Heap) (n0 : Nat) (v : Option Value) (h : Heap) (L : List Loc) : Prop := ∃ (b10_0 : Addr) (b22_0 : Addr) (b34_0 : Addr) (kk_b10_0 : ClassId) (kk_b22_0 : ClassId) (kk_b34_0 : ClassId), v = some (.int (0 : Int32)) ∧ Fr n0 L ∧ Keep h0 h [o0] ∧ h0.size ≤ b10_0 ∧ h0.size ≤ b22_0 ∧ h0.size ≤ b34_0 ∧ b10_0 ≠ b22_0 ∧ b10_0 ≠ b34_0 ∧ b22_0 ≠ b34_0 ∧ Fld Z h o0 cn2 "end" "I" (.int (1 : Int32)) ∧ Fld Z h o0 cn2 "starts" "[J" (.ref b10_0) ∧ Fld Z h o0 cn2 "first" "I" (.int (0 : Int32)) ∧ Exa Z h o0 cn2 ∧ Arv Z h b10_0 kk_b10_0 .long (1 : Int32) [(.long y1)] (.long (0 : Int64)) ∧ Fld Z h o0 cn2 "records" "[J" (.ref b22_0) ∧ Fld Z h o0 cn2 "width" "I" (.int (1 : Int32)) ∧ Arv Z h b22_0 kk_b22_0 .long (1 : Int32) [(.long (0 : Int64))] (.long (0 : Int64)) ∧ Fld Z h o0 cn2 "decidedAt" "[J" (.ref b34_0) ∧ Arv Z h b34_0 kk_b34_0 .long (1 : Int32) [(.long (0 : Int64))] (.long (0 : Int64))
set_option maxRecDepth 65536 in
set_option maxHeartbeats 40000000 in
theorem rmA7 (l : Launch) (Z : State) (a0 : Array Value) (hw : ∀ d ∈ tables_1, d.before a0 Z = true) (ws : List Jvm.Cond) (o0 : Addr) (y1 : Int64) (o2 : Addr) (kk_o2 : ClassId) (h0 : Heap) (n0 : Nat) (Z0 : n0 ≤ h0.size) (F_o0_end : Fld Z h0 o0 cn2 "end" "I" (.int (0 : Int32))) (F_o0_starts : Fld Z h0 o0 cn2 "starts" "[J" (.ref o2)) (V_o2 : Arv Z h0 o2 kk_o2 .long (0 : Int32) [] (.long (0 : Int64))) (F_o0_first : Fld Z h0 o0 cn2 "first" "I" (.int (0 : Int32))) (E_o0 : Exa Z h0 o0 cn2) (g_o0 : n0 ≤ o0) (F_o0_records : Fld Z h0 o0 cn2 "records" "[J" (.ref o2)) (F_o0_width : Fld Z h0 o0 cn2 "width" "I" (.int (1 : Int32))) (ne_o2_o0 : o2 ≠ o0) (F_o0_decidedAt : Fld Z h0 o0 cn2 "decidedAt" "[J" (.ref o2)) :
    MetFree l mn4 (head1 (Jvm.Cond.code mn4 prog_23_method_7_code 7 (some .int) :: ws) ({ frames := 2, cells := 3, slots := 3, locals := 53 } : Room)) (fun a U => a = #[(.ref o0), (.int (0 : Int32)), (.long y1)] ∧ Z.Warmed39 U.vm ∧ U.heap = h0) (fun _ _ _ _ _ => True) (fun _ U oc_ U' => ∃ v L, oc_ = .returned v ∧ QA7 Z o0 y1 o2 kk_o2 h0 n0 v U'.heap L ∧ FrameEnd U oc_ U' L ({ frames := 2, cells := 3, slots := 3, locals := 53 } : Room).cells ({ frames := 2, cells := 3, slots := 3, locals := 53 } : Room).slots) := by
  refine MetFree.of_bodySF (plainFor_of_name pn_com_example_strict_limiter_strictlimiter_KeptWindows) hisR ?_
  intro p e s m args below meth c s₁ Bd hml0 hP hK
  obtain ⟨rfl, hZ, hh⟩ := hP
  have hx := Bd.exec
  have hby := Bd.bytes
  have hml : c.maxLocals = 7 := hml0
  have hown : s.vm.findClass cn2 = some m.cls := findClass_of_methodNamed Bd.named
  have hnm := (name_of_methodNamed Bd.named Bd.method).1
  have X0 : Stand p l e ({ frames := 2, cells := 3, slots := 3, locals := 53 } : Room) s m #[(.ref o0), (.int (0 : Int32)), (.long y1)] below meth c s₁ [] 0 0 := Stand.of_body Bd
  have e0 : s₁.heap = h0 := by rw [← hh, Bd.state]; rfl
  have N0 := Fr.nil n0
  have pre0 : ∀ t, SS p e below s₁ (mkF m 0 #[vr o0, vi 0, vl y1, sd, un, un, un] []) t → Steps p.tables e below (s₁.setTop (entryFrame m #[(.ref o0), (.int (0 : Int32)), (.long y1)] 7)) t := fun t k => castTop (efa_prog_23_method_7_code_vvv m o0 (0 : Int32) y1) k
  obtain ⟨EN, hEN⟩ : ∃ z, z = s₁.setTop (entryFrame m #[(.ref o0), (.int (0 : Int32)), (.long y1)] 7) := ⟨_, rfl⟩
  rw [← hEN] at pre0
  obtain ⟨T1, X1, e1, st1⟩ := getF X0 hx hZ hown (wf26 hw) Via.refl e0 F_o0_end (g := (mkF m 4 #[vr o0, vi 0, vl y1, sd, vi 0, un, un] [(.ref o0)])) rfl rfl (hb hby dn_4)
  obtain ⟨T2, X2, e2, st2⟩ := getF X1 hx hZ hown (wf11 hw) Via.refl e1 F_o0_starts (g := (mkF m 8 #[vr o0, vi 0, vl y1, sd, vi 0, un, un] [(.ref o0), (.int (0 : Int32))])) rfl rfl (hb hby dn_8)
  obtain ⟨cl3, Ar3, -, S3, M3, -, -⟩ := id V_o2
  obtain ⟨T4, X4, e4, st4⟩ := getF X2 hx hZ hown (wf26 hw) Via.refl e2 F_o0_end (g := (mkF m 16 #[vr o0, vi 0, vl y1, sd, vi 0, un, un] [(.ref o0)])) rfl rfl (hb hby dn_16)
  obtain ⟨T5, X5, e5, st5⟩ := getF X4 hx hZ hown (wf24 hw) Via.refl e4 F_o0_first (g := (mkF m 20 #[vr o0, vi 0, vl y1, sd, vi 0, un, un] [(.ref o0), (.int (0 : Int32))])) rfl rfl (hb hby dn_20)
  obtain ⟨T6, X6, e6, st6⟩ := getF X5 hx hZ hown (wf11 hw) Via.refl e5 F_o0_starts (g := (mkF m 29 #[vr o0, vi 0, vl y1, sd, vi 0, vi 0, un] [(.ref o0), (.int (0 : Int32))])) rfl rfl (hb hby dn_29)
  obtain ⟨cl7, Ar7, -, S7, M7, -, -⟩ := id V_o2
  obtain ⟨_, _, ⟨T8, L8, kc8, ks8⟩, -, X8, ⟨Lc8, hQ8, l8, y8, z8⟩, st8⟩ := Jvm.LawKit.callS X6 hx (y := mn7) hown (mvT hZ (wd49 hw)) (mvT hZ (wd50 hw)) (mvT hZ (wd51 hw)) (mvT hZ (wd52 hw)) (by decide) (backOf (W := 0) (rmA8 l Z a0 hw []  h0 n0 Z0 ) hZ (wd52 hw) (wd51 hw) (by decide) (by decide)) (g := (mkF m 41 #[vr o0, vi 0, vl y1, sd, vi 0, vi 0, un] [(.int (0 : Int32)), (.int (1 : Int32))])) rfl (by rw [hml]; rfl) (argsL := [(.int (1 : Int32)), (.int (0 : Int32))]) (rest := []) (lenOf pd__II_I rfl) rfl (by show 2 * 0 + _ ≤ _; exact Nat.le_of_eq rfl) (hb hby dn_41) (fun _ _ => ⟨rfl, e6, (by decide : 0 + 0 ≤ _), (by decide : 0 + 0 ≤ _)⟩)
  dsimp only [Pt.U, Pt.locs, Pt.cells, Pt.slots] at X8 l8 y8 z8 st8 hQ8
  subst l8 y8 z8
  obtain ⟨rfl, Nq8, eq8⟩ := hQ8
  have N8 := Fr.app N0 Nq8
  obtain ⟨T9, X9, e9, st9⟩ := getF X8 hx hZ hown (wf11 hw) Via.refl eq8 F_o0_starts (g := (mkF m 57 #[vr o0, vi 0, vl y1, sd, vi 0, vi 0, vi 1] [(.ref o0), (.ref o0), (.ref o0)])) rfl rfl (hb hby dn_57)
  obtain ⟨cq10, q10, q10'⟩ := E_o0.cell
  obtain ⟨_, _, ⟨T10, L10, kc10, ks10⟩, -, X10, ⟨Lc10, hQ10, l10, y10, z10⟩, st10⟩ := X9.privateBack hx (y := mn5) hown (mvT hZ (wd53 hw)) (mvT hZ (wd54 hw)) (own_selPriv (mvT hZ (wd1 hw)) (Cond.privateMethod_at (mvP hZ (wd55 hw) (args := #[]))) (mvT hZ (wd54 hw)) (by decide)) (Cond.privateMethod_at (mvP hZ (wd55 hw) (args := #[]))) (mvT hZ (wd56 hw)) (by decide) (backOf (W := 1) (rmA9 l Z a0 hw [] o0 o2 _ h0 n0 Z0 F_o0_first F_o0_end V_o2) hZ (wd56 hw) (wd2 hw) (by decide) (by decide)) (g := (mkF m 63 #[vr o0, vi 0, vl y1, sd, vi 0, vi 0, vi 1] [(.int (1 : Int32)), (.int (1 : Int32)), (.ref o2), (.ref o0), (.ref o0)])) rfl (by rw [hml]; rfl) (Steps.refl _) (a := o0) (by rw [e9]; exact q10) q10' (argsL := [(.ref o2), (.int (1 : Int32)), (.int (1 : Int32))]) (rest := [(.ref o0)]) (lenOf pd___JII__J rfl) rfl (by show 2 * 0 + _ ≤ _; exact Nat.le_of_eq rfl) (hb hby dn_63) (fun _ _ => ⟨rfl, e9, (by decide : 0 + 1 ≤ _), (by decide : 0 + 1 ≤ _)⟩)
  dsimp only [Pt.U, Pt.locs, Pt.cells, Pt.slots] at X10 l10 y10 z10 st10 hQ10
  subst l10 y10 z10
  obtain ⟨b10_0, kv10_1, rfl, Nq10, Kq10, sz10_0, g10_0⟩ := hQ10
  have N10 := Fr.app N8 Nq10
  have Z10 := Nat.le_trans Z0 Kq10.1
  have K10 : Keep h0 T10.heap [o0] := Keep.trans (Keep.refl h0 [o0]) Kq10 all0
  have ne_o0_b10_0 := own_ne F_o0_end.lt sz10_0
  have ne_o2_b10_0 := own_ne V_o2.lt sz10_0
  have ge_b10_0 := Nat.le_trans Z0 sz10_0
  have sz_b10_0 : h0.size ≤ b10_0 := Nat.le_trans (Nat.le_refl _) sz10_0
  have f11 := (E_o0.keep Kq10)
  have f12 := (F_o0_starts.keep Kq10 nin0)
  obtain ⟨T13, h13, X13, e13, W13, st13⟩ := putF X10 hx hZ hown (wf11 hw) Via.refl rfl f12 f11 (Or.inl (wd12 hw)) (wd1 hw) (ty := (.array .long)) (by decide) rfl rfl (g := (mkF m 66 #[vr o0, vi 0, vl y1, sd, vi 0, vi 0, vi 1] [(.ref b10_0), (.ref o0)])) rfl rfl (hb hby dn_66)
  have N13 := Fr.snoc X13 N10 g_o0
  have Z13 : n0 ≤ h13.size := by rw [W13.size]; exact Z10
  have K13 := (K10.wr W13 (Or.inl (List.mem_of_getElem? (i := 0) rfl)))
  have Fw13 := f12.same W13
  have f14 := ((F_o0_records.keep Kq10 nin0).other W13 (Or.inr (sn5 hw)))
  obtain ⟨T15, X15, e15, st15⟩ := getF X13 hx hZ hown (wf13 hw) Via.refl e13 f14 (g := (mkF m 72 #[vr o0, vi 0, vl y1, sd, vi 0, vi 0, vi 1] [(.ref o0), (.ref o0), (.ref o0)])) rfl rfl (hb hby dn_72)
  have f16 := ((F_o0_width.keep Kq10 nin0).other W13 (Or.inr (sn25 hw)))
  obtain ⟨T17, X17, e17, st17⟩ := getF X15 hx hZ hown (wf17 hw) Via.refl e15 f16 (g := (mkF m 76 #[vr o0, vi 0, vl y1, sd, vi 0, vi 0, vi 1] [(.ref o0), (.ref o2), (.ref o0), (.ref o0)])) rfl rfl (hb hby dn_76)
  have f18 := ((F_o0_first.keep Kq10 nin0).other W13 (Or.inr (sn15 hw)))
  have f19 := ((F_o0_end.keep Kq10 nin0).other W13 (Or.inr (sn20 hw)))
  have f20 := ((V_o2.keep Kq10 nin0).other W13 ne_o2_o0)
  have f21 := (g10_0.other W13 (Ne.symm ne_o0_b10_0))
  have f23 := (f11.wr W13)
  obtain ⟨cq22, q22, q22'⟩ := f23.cell
  obtain ⟨_, _, ⟨T22, L22, kc22, ks22⟩, -, X22, ⟨Lc22, hQ22, l22, y22, z22⟩, st22⟩ := X17.privateBack hx (y := mn5) hown (mvT hZ (wd53 hw)) (mvT hZ (wd54 hw)) (own_selPriv (mvT hZ (wd1 hw)) (Cond.privateMethod_at (mvP hZ (wd55 hw) (args := #[]))) (mvT hZ (wd54 hw)) (by decide)) (Cond.privateMethod_at (mvP hZ (wd55 hw) (args := #[]))) (mvT hZ (wd56 hw)) (by decide) (backOf (W := 1) (rmA9 l Z a0 hw [] o0 o2 _ h13 n0 Z13 f18 f19 f20) hZ (wd56 hw) (wd2 hw) (by decide) (by decide)) (g := (mkF m 81 #[vr o0, vi 0, vl y1, sd, vi 0, vi 0, vi 1] [(.int (1 : Int32)), (.int (1 : Int32)), (.ref o2), (.ref o0), (.ref o0)])) rfl (by rw [hml]; rfl) (Steps.refl _) (a := o0) (by rw [e17]; exact q22) q22' (argsL := [(.ref o2), (.int (1 : Int32)), (.int (1 : Int32))]) (rest := [(.ref o0)]) (lenOf pd___JII__J rfl) rfl (by show 2 * 0 + _ ≤ _; exact Nat.le_of_eq rfl) (hb hby dn_81) (fun _ _ => ⟨rfl, e17, (by decide : 1 + 1 ≤ _), (by decide : 1 + 1 ≤ _)⟩)
  dsimp only [Pt.U, Pt.locs, Pt.cells, Pt.slots] at X22 l22 y22 z22 st22 hQ22
  subst l22 y22 z22
  obtain ⟨b22_0, kv22_1, rfl, Nq22, Kq22, sz22_0, g22_0⟩ := hQ22
  have N22 := Fr.app N13 Nq22
  have Z22 := Nat.le_trans Z13 Kq22.1
  have K22 := Keep.trans K13 Kq22 all0
  have ne_o0_b22_0 := own_ne f19.lt sz22_0
  have ne_o2_b22_0 := own_ne f20.lt sz22_0
  have ne_b10_0_b22_0 := own_ne f21.lt sz22_0
  have ge_b22_0 := Nat.le_trans Z13 sz22_0
  have sz_b22_0 := Nat.le_trans K13.1 sz22_0
  have f24 := (f23.keep Kq22)
  have f25 := (f14.keep Kq22 nin0)
  obtain ⟨T26, h26, X26, e26, W26, st26⟩ := putF X22 hx hZ hown (wf13 hw) Via.refl rfl f25 f24 (Or.inl (wd14 hw)) (wd1 hw) (ty := (.array .long)) (by decide) rfl rfl (g := (mkF m 84 #[vr o0, vi 0, vl y1, sd, vi 0, vi 0, vi 1] [(.ref b22_0), (.ref o0)])) rfl rfl (hb hby dn_84)
  have N26 := Fr.snoc X26 N22 g_o0
  have Z26 : n0 ≤ h26.size := by rw [W26.size]; exact Z22
  have K26 := (K22.wr W26 (Or.inl (List.mem_of_getElem? (i := 0) rfl)))
  have Fw26 := f25.same W26
  have f27 := ((((F_o0_decidedAt.keep Kq10 nin0).other W13 (Or.inr (sn10 hw))).keep Kq22 nin0).other W26 (Or.inr (sn11 hw)))
  obtain ⟨T28, X28, e28, st28⟩ := getF X26 hx hZ hown (wf15 hw) Via.refl e26 f27 (g := (mkF m 90 #[vr o0, vi 0, vl y1, sd, vi 0, vi 0, vi 1] [(.ref o0), (.ref o0), (.ref o0)])) rfl rfl (hb hby dn_90)
  have f29 := ((f18.keep Kq22 nin0).other W26 (Or.inr (sn16 hw)))
  have f30 := ((f19.keep Kq22 nin0).other W26 (Or.inr (sn21 hw)))
  have f31 := ((f20.keep Kq22 nin0).other W26 ne_o2_o0)
  have f32 := ((f21.keep Kq22 nin0).other W26 (Ne.symm ne_o0_b10_0))
  have f33 := (g22_0.other W26 (Ne.symm ne_o0_b22_0))
  have f35 := (f24.wr W26)
  obtain ⟨cq34, q34, q34'⟩ := f35.cell
  obtain ⟨_, _, ⟨T34, L34, kc34, ks34⟩, -, X34, ⟨Lc34, hQ34, l34, y34, z34⟩, st34⟩ := X28.privateBack hx (y := mn5) hown (mvT hZ (wd53 hw)) (mvT hZ (wd54 hw)) (own_selPriv (mvT hZ (wd1 hw)) (Cond.privateMethod_at (mvP hZ (wd55 hw) (args := #[]))) (mvT hZ (wd54 hw)) (by decide)) (Cond.privateMethod_at (mvP hZ (wd55 hw) (args := #[]))) (mvT hZ (wd56 hw)) (by decide) (backOf (W := 1) (rmA9 l Z a0 hw [] o0 o2 _ h26 n0 Z26 f29 f30 f31) hZ (wd56 hw) (wd2 hw) (by decide) (by decide)) (g := (mkF m 96 #[vr o0, vi 0, vl y1, sd, vi 0, vi 0, vi 1] [(.int (1 : Int32)), (.int (1 : Int32)), (.ref o2), (.ref o0), (.ref o0)])) rfl (by rw [hml]; rfl) (Steps.refl _) (a := o0) (by rw [e28]; exact q34) q34' (argsL := [(.ref o2), (.int (1 : Int32)), (.int (1 : Int32))]) (rest := [(.ref o0)]) (lenOf pd___JII__J rfl) rfl (by show 2 * 0 + _ ≤ _; exact Nat.le_of_eq rfl) (hb hby dn_96) (fun _ _ => ⟨rfl, e28, (by decide : 2 + 1 ≤ _), (by decide : 2 + 1 ≤ _)⟩)
  dsimp only [Pt.U, Pt.locs, Pt.cells, Pt.slots] at X34 l34 y34 z34 st34 hQ34
  subst l34 y34 z34
  obtain ⟨b34_0, kv34_1, rfl, Nq34, Kq34, sz34_0, g34_0⟩ := hQ34
  have N34 := Fr.app N26 Nq34
  have Z34 := Nat.le_trans Z26 Kq34.1
  have K34 := Keep.trans K26 Kq34 all0
  have ne_o0_b34_0 := own_ne f30.lt sz34_0
  have ne_o2_b34_0 := own_ne f31.lt sz34_0
  have ne_b10_0_b34_0 := own_ne f32.lt sz34_0
  have ne_b22_0_b34_0 := own_ne f33.lt sz34_0
  have ge_b34_0 := Nat.le_trans Z26 sz34_0
  have sz_b34_0 := Nat.le_trans K26.1 sz34_0
  have f36 := (f35.keep Kq34)
  have f37 := (f27.keep Kq34 nin0)
  obtain ⟨T38, h38, X38, e38, W38, st38⟩ := putF X34 hx hZ hown (wf15 hw) Via.refl rfl f37 f36 (Or.inl (wd16 hw)) (wd1 hw) (ty := (.array .long)) (by decide) rfl rfl (g := (mkF m 99 #[vr o0, vi 0, vl y1, sd, vi 0, vi 0, vi 1] [(.ref b34_0), (.ref o0)])) rfl rfl (hb hby dn_99)
  have N38 := Fr.snoc X38 N34 g_o0
  have Z38 : n0 ≤ h38.size := by rw [W38.size]; exact Z34
  have K38 := (K34.wr W38 (Or.inl (List.mem_of_getElem? (i := 0) rfl)))
  have Fw38 := f37.same W38
  have f39 := ((f29.keep Kq34 nin0).other W38 (Or.inr (sn17 hw)))
  obtain ⟨T40, X40, e40, st40⟩ := getF X38 hx hZ hown (wf24 hw) Via.refl e38 f39 (g := (mkF m 105 #[vr o0, vi 0, vl y1, sd, vi 0, vi 0, vi 1] [(.ref o0), (.int (0 : Int32))])) rfl rfl (hb hby dn_105)
  have f41 := (f36.wr W38)
  obtain ⟨T42, h42, X42, e42, W42, st42⟩ := putF X40 hx hZ hown (wf24 hw) Via.refl e40 f39 f41 (Or.inl (wd25 hw)) (wd1 hw) (ty := .int) (by decide) rfl rfl (g := (mkF m 113 #[vr o0, vi 0, vl y1, sd, vi 0, vi 0, vi 1] [(.int (0 : Int32)), (.ref o0)])) rfl rfl (hb hby dn_113)
  have N42 := Fr.snoc X42 N38 g_o0
  have Z42 : n0 ≤ h42.size := by rw [W42.size]; exact Z38
  have K42 := (K38.wr W42 (Or.inl (List.mem_of_getElem? (i := 0) rfl)))
  have Fw42 := f39.same W42
  have f43 := (f41.wr W42)
  have f44 := (((f30.keep Kq34 nin0).other W38 (Or.inr (sn22 hw))).other W42 (Or.inr (sn23 hw)))
  obtain ⟨T45, h45, X45, e45, W45, st45⟩ := putF X42 hx hZ hown (wf26 hw) Via.refl e42 f44 f43 (Or.inl (wd27 hw)) (wd1 hw) (ty := .int) (by decide) rfl rfl (g := (mkF m 119 #[vr o0, vi 0, vl y1, sd, vi 0, vi 0, vi 1] [(.int (0 : Int32)), (.ref o0)])) rfl rfl (hb hby dn_119)
  have N45 := Fr.snoc X45 N42 g_o0
  have Z45 : n0 ≤ h45.size := by rw [W45.size]; exact Z42
  have K45 := (K42.wr W45 (Or.inl (List.mem_of_getElem? (i := 0) rfl)))
  have Fw45 := f44.same W45
  have f46 := ((((((Fw13.keep Kq22 nin0).other W26 (Or.inr (sn0 hw))).keep Kq34 nin0).other W38 (Or.inr (sn1 hw))).other W42 (Or.inr (sn2 hw))).other W45 (Or.inr (sn3 hw)))
  obtain ⟨T47, X47, e47, st47⟩ := getF X45 hx hZ hown (wf11 hw) Via.refl e45 f46 (g := (mkF m 123 #[vr o0, vi 0, vl y1, sd, vi 0, vi 0, vi 1] [(.ref o0)])) rfl rfl (hb hby dn_123)
  obtain ⟨T48, X48, e48, st48⟩ := getF X47 hx hZ hown (wf11 hw) Via.refl e47 f46 (g := (mkF m 129 #[vr o0, vi 0, vl y1, sd, vi 0, vi 0, vi 1] [(.ref o0), (.int (0 : Int32)), (.ref b10_0)])) rfl rfl (hb hby dn_129)
  obtain ⟨T49, X49, e49, st49⟩ := getF X48 hx hZ hown (wf26 hw) Via.refl e48 Fw45 (g := (mkF m 137 #[vr o0, vi 0, vl y1, sd, vi 0, vi 0, vi 1] [(.ref o0), (.int (1 : Int32)), (.ref b10_0), (.int (0 : Int32)), (.ref b10_0)])) rfl rfl (hb hby dn_137)
  have f50 := ((((f32.keep Kq34 nin0).other W38 (Ne.symm ne_o0_b10_0)).other W42 (Ne.symm ne_o0_b10_0)).other W45 (Ne.symm ne_o0_b10_0))
  obtain ⟨T51, h51, Lq51, X51, e51, Nq51, Kq51, Vq51, st51⟩ := cpA X49 hx hZ hown (wd58 hw) (wd61 hw) (wd59 hw) (wd60 hw) e49 (us := []) f50 f50 (Or.inl ⟨rfl, rfl⟩) (by decide) (by decide) (by decide) (by first | decide | exact Nat.le_of_ble_eq_true rfl) (by first | decide | exact Nat.le_of_ble_eq_true rfl) (by rfl) (by first | decide | exact Nat.le_of_ble_eq_true rfl) N45 ge_b10_0 (g := (mkF m 143 #[vr o0, vi 0, vl y1, sd, vi 0, vi 0, vi 1] [(.int (0 : Int32)), (.int (1 : Int32)), (.ref b10_0), (.int (0 : Int32)), (.ref b10_0)])) rfl (by rw [hml]; rfl) rfl (hb hby dn_143) (by decide) (W := 0) (by show 2 * 0 + _ ≤ _; exact Nat.le_of_eq rfl) (by decide)
  have Z51 := Nat.le_trans Z45 Kq51.1
  have K51 := Keep.trans K45 Kq51 (allS (Or.inr sz_b10_0) all0)
  have V51 : Arv Z h51 b10_0 _ .long (1 : Int32) [(.long (0 : Int64))] (.long (0 : Int64)) := Vq51
  have f52 := (((((Fw26.keep Kq34 nin0).other W38 (Or.inr (sn6 hw))).other W42 (Or.inr (sn7 hw))).other W45 (Or.inr (sn8 hw))).keep Kq51 (ninS ne_o0_b10_0 nin0))
  obtain ⟨T53, X53, e53, st53⟩ := getF X51 hx hZ hown (wf13 hw) Via.refl e51 f52 (g := (mkF m 147 #[vr o0, vi 0, vl y1, sd, vi 0, vi 0, vi 1] [(.ref o0)])) rfl rfl (hb hby dn_147)
  have f54 := (((((((f16.keep Kq22 nin0).other W26 (Or.inr (sn26 hw))).keep Kq34 nin0).other W38 (Or.inr (sn27 hw))).other W42 (Or.inr (sn28 hw))).other W45 (Or.inr (sn29 hw))).keep Kq51 (ninS ne_o0_b10_0 nin0))
  obtain ⟨T55, X55, e55, st55⟩ := getF X53 hx hZ hown (wf17 hw) Via.refl e53 f54 (g := (mkF m 153 #[vr o0, vi 0, vl y1, sd, vi 0, vi 0, vi 1] [(.ref o0), (.int (0 : Int32)), (.ref b22_0)])) rfl rfl (hb hby dn_153)
  obtain ⟨T56, X56, e56, st56⟩ := getF X55 hx hZ hown (wf13 hw) Via.refl e55 f52 (g := (mkF m 158 #[vr o0, vi 0, vl y1, sd, vi 0, vi 0, vi 1] [(.ref o0), (.int (0 : Int32)), (.ref b22_0)])) rfl rfl (hb hby dn_158)
  obtain ⟨T57, X57, e57, st57⟩ := getF X56 hx hZ hown (wf17 hw) Via.refl e56 f54 (g := (mkF m 166 #[vr o0, vi 0, vl y1, sd, vi 0, vi 0, vi 1] [(.ref o0), (.int (1 : Int32)), (.ref b22_0), (.int (0 : Int32)), (.ref b22_0)])) rfl rfl (hb hby dn_166)
  have f58 := (Fw45.keep Kq51 (ninS ne_o0_b10_0 nin0))
  obtain ⟨T59, X59, e59, st59⟩ := getF X57 hx hZ hown (wf26 hw) Via.refl e57 f58 (g := (mkF m 171 #[vr o0, vi 0, vl y1, sd, vi 0, vi 0, vi 1] [(.ref o0), (.int (1 : Int32)), (.ref b22_0), (.int (0 : Int32)), (.ref b22_0)])) rfl rfl (hb hby dn_171)
  obtain ⟨T60, X60, e60, st60⟩ := getF X59 hx hZ hown (wf17 hw) Via.refl e59 f54 (g := (mkF m 178 #[vr o0, vi 0, vl y1, sd, vi 0, vi 0, vi 1] [(.ref o0), (.int (0 : Int32)), (.int (1 : Int32)), (.ref b22_0), (.int (0 : Int32)), (.ref b22_0)])) rfl rfl (hb hby dn_178)
  have f61 := (((((f33.keep Kq34 nin0).other W38 (Ne.symm ne_o0_b22_0)).other W42 (Ne.symm ne_o0_b22_0)).other W45 (Ne.symm ne_o0_b22_0)).keep Kq51 (ninS (Ne.symm ne_b10_0_b22_0) nin0))
  obtain ⟨T62, h62, Lq62, X62, e62, Nq62, Kq62, Vq62, st62⟩ := cpA X60 hx hZ hown (wd58 hw) (wd61 hw) (wd59 hw) (wd60 hw) e60 (us := []) f61 f61 (Or.inl ⟨rfl, rfl⟩) (by decide) (by decide) (by decide) (by first | decide | exact Nat.le_of_ble_eq_true rfl) (by first | decide | exact Nat.le_of_ble_eq_true rfl) (by rfl) (by first | decide | exact Nat.le_of_ble_eq_true rfl) Nq51 ge_b22_0 (g := (mkF m 182 #[vr o0, vi 0, vl y1, sd, vi 0, vi 0, vi 1] [(.int (0 : Int32)), (.int (1 : Int32)), (.ref b22_0), (.int (0 : Int32)), (.ref b22_0)])) rfl (by rw [hml]; rfl) rfl (hb hby dn_182) (by decide) (W := 0) (by show 2 * 0 + _ ≤ _; exact Nat.le_of_eq rfl) (by decide)
  have Z62 := Nat.le_trans Z51 Kq62.1
  have K62 := Keep.trans K51 Kq62 (allS (Or.inr sz_b22_0) all0)
  have V62 : Arv Z h62 b22_0 _ .long (1 : Int32) [(.long (0 : Int64))] (.long (0 : Int64)) := Vq62
  have f63 := ((((Fw38.other W42 (Or.inr (sn12 hw))).other W45 (Or.inr (sn13 hw))).keep Kq51 (ninS ne_o0_b10_0 nin0)).keep Kq62 (ninS ne_o0_b22_0 nin0))
  obtain ⟨T64, X64, e64, st64⟩ := getF X62 hx hZ hown (wf15 hw) Via.refl e62 f63 (g := (mkF m 186 #[vr o0, vi 0, vl y1, sd, vi 0, vi 0, vi 1] [(.ref o0)])) rfl rfl (hb hby dn_186)
  obtain ⟨T65, X65, e65, st65⟩ := getF X64 hx hZ hown (wf15 hw) Via.refl e64 f63 (g := (mkF m 192 #[vr o0, vi 0, vl y1, sd, vi 0, vi 0, vi 1] [(.ref o0), (.int (0 : Int32)), (.ref b34_0)])) rfl rfl (hb hby dn_192)
  have f66 := (f58.keep Kq62 (ninS ne_o0_b22_0 nin0))
  obtain ⟨T67, X67, e67, st67⟩ := getF X65 hx hZ hown (wf26 hw) Via.refl e65 f66 (g := (mkF m 200 #[vr o0, vi 0, vl y1, sd, vi 0, vi 0, vi 1] [(.ref o0), (.int (1 : Int32)), (.ref b34_0), (.int (0 : Int32)), (.ref b34_0)])) rfl rfl (hb hby dn_200)
  have f68 := (((((g34_0.other W38 (Ne.symm ne_o0_b34_0)).other W42 (Ne.symm ne_o0_b34_0)).other W45 (Ne.symm ne_o0_b34_0)).keep Kq51 (ninS (Ne.symm ne_b10_0_b34_0) nin0)).keep Kq62 (ninS (Ne.symm ne_b22_0_b34_0) nin0))
  obtain ⟨T69, h69, Lq69, X69, e69, Nq69, Kq69, Vq69, st69⟩ := cpA X67 hx hZ hown (wd58 hw) (wd61 hw) (wd59 hw) (wd60 hw) e67 (us := []) f68 f68 (Or.inl ⟨rfl, rfl⟩) (by decide) (by decide) (by decide) (by first | decide | exact Nat.le_of_ble_eq_true rfl) (by first | decide | exact Nat.le_of_ble_eq_true rfl) (by rfl) (by first | decide | exact Nat.le_of_ble_eq_true rfl) Nq62 ge_b34_0 (g := (mkF m 206 #[vr o0, vi 0, vl y1, sd, vi 0, vi 0, vi 1] [(.int (0 : Int32)), (.int (1 : Int32)), (.ref b34_0), (.int (0 : Int32)), (.ref b34_0)])) rfl (by rw [hml]; rfl) rfl (hb hby dn_206) (by decide) (W := 0) (by show 2 * 0 + _ ≤ _; exact Nat.le_of_eq rfl) (by decide)
  have Z69 := Nat.le_trans Z62 Kq69.1
  have K69 := Keep.trans K62 Kq69 (allS (Or.inr sz_b34_0) all0)
  have V69 : Arv Z h69 b34_0 _ .long (1 : Int32) [(.long (0 : Int64))] (.long (0 : Int64)) := Vq69
  have f70 := (((f46.keep Kq51 (ninS ne_o0_b10_0 nin0)).keep Kq62 (ninS ne_o0_b22_0 nin0)).keep Kq69 (ninS ne_o0_b34_0 nin0))
  obtain ⟨T71, X71, e71, st71⟩ := getF X69 hx hZ hown (wf11 hw) Via.refl e69 f70 (g := (mkF m 210 #[vr o0, vi 0, vl y1, sd, vi 0, vi 0, vi 1] [(.ref o0)])) rfl rfl (hb hby dn_210)
  have f72 := ((V51.keep Kq62 (ninS ne_b10_0_b22_0 nin0)).keep Kq69 (ninS ne_b10_0_b34_0 nin0))
  obtain ⟨cl73, Ar73, q73, S73, M73, HH73, GG73⟩ := id f72
  have hin73 : ¬ ((0 : Int32) < 0 ∨ cl73.slots.size ≤ ((0 : Int32)).toNatClampNeg) := inb_of S73 ⟨by decide, by decide⟩
  obtain ⟨T74, h74, X74, e74, W74, st74⟩ := stJ X71 hx hZ e71 Ar73 (j := (0 : Int32)) hin73 (g := (mkF m 216 #[vr o0, vi 0, vl y1, sd, vi 0, vi 0, vi 1] [(.long y1), (.int (0 : Int32)), (.ref b10_0)])) rfl rfl (hb hby dn_216)
  have N74 := Fr.snoc X74 Nq69 ge_b10_0
  have Z74 : n0 ≤ h74.size := by rw [W74.size]; exact Z69
  have K74 := (K69.wr W74 (Or.inr sz_b10_0))
  have V74 := Arv.set Ar73 q73 S73 M73 HH73 GG73 rfl W74 0 rfl (Nat.le_of_ble_eq_true rfl)
  have f75 := (((f52.keep Kq62 (ninS ne_o0_b22_0 nin0)).keep Kq69 (ninS ne_o0_b34_0 nin0)).other W74 (Or.inl ne_o0_b10_0))
  obtain ⟨T76, X76, e76, st76⟩ := getF X74 hx hZ hown (wf13 hw) Via.refl e74 f75 (g := (mkF m 218 #[vr o0, vi 0, vl y1, sd, vi 0, vi 0, vi 1] [(.ref o0)])) rfl rfl (hb hby dn_218)
  have f77 := (((f54.keep Kq62 (ninS ne_o0_b22_0 nin0)).keep Kq69 (ninS ne_o0_b34_0 nin0)).other W74 (Or.inl ne_o0_b10_0))
  obtain ⟨T78, X78, e78, st78⟩ := getF X76 hx hZ hown (wf17 hw) Via.refl e76 f77 (g := (mkF m 224 #[vr o0, vi 0, vl y1, sd, vi 0, vi 0, vi 1] [(.ref o0), (.int (0 : Int32)), (.ref b22_0)])) rfl rfl (hb hby dn_224)
  obtain ⟨T79, X79, e79, st79⟩ := getF X78 hx hZ hown (wf17 hw) Via.refl e78 f77 (g := (mkF m 233 #[vr o0, vi 0, vl y1, sd, vi 0, vi 0, vi 1] [(.ref o0), (.int (1 : Int32)), (.int (0 : Int32)), (.ref b22_0)])) rfl rfl (hb hby dn_233)
  have f80 := ((V62.keep Kq69 (ninS ne_b22_0_b34_0 nin0)).other W74 (Ne.symm ne_b10_0_b22_0))
  obtain ⟨_, _, ⟨T81, L81, kc81, ks81⟩, -, X81, ⟨Lc81, hQ81, l81, y81, z81⟩, st81⟩ := Jvm.LawKit.callS X79 hx (y := mn12) hown (mvT hZ (wd62 hw)) (mvT hZ (wd63 hw)) (mvT hZ (wd37 hw)) (mvT hZ (wd64 hw)) (by decide) (backOf (W := 0) (rmA12 l Z a0 hw [] b22_0 _ h74 n0 Z74 f80 ge_b22_0) hZ (wd64 hw) (wd37 hw) (by decide) (by decide)) (g := (mkF m 238 #[vr o0, vi 0, vl y1, sd, vi 0, vi 0, vi 1] [(.long (0 : Int64)), (.int (1 : Int32)), (.int (0 : Int32)), (.ref b22_0)])) rfl (by rw [hml]; rfl) (argsL := [(.ref b22_0), (.int (0 : Int32)), (.int (1 : Int32)), (.long (0 : Int64))]) (rest := []) (lenOf pd___JIIJ_V rfl) rfl (by show 2 * 0 + _ ≤ _; exact Nat.le_of_eq rfl) (hb hby dn_238) (fun _ _ => ⟨rfl, e79, (by decide : 3 + 0 ≤ _), (by decide : 3 + 0 ≤ _)⟩)
  dsimp only [Pt.U, Pt.locs, Pt.cells, Pt.slots] at X81 l81 y81 z81 st81 hQ81
  subst l81 y81 z81
  obtain ⟨rfl, Nq81, Kq81, g81_0⟩ := hQ81
  have N81 := Fr.app N74 Nq81
  have Z81 := Nat.le_trans Z74 Kq81.1
  have K81 := Keep.trans K74 Kq81 (allS (Or.inr sz_b22_0) all0)
  have f82 := (((f66.keep Kq69 (ninS ne_o0_b34_0 nin0)).other W74 (Or.inl ne_o0_b10_0)).keep Kq81 (ninS ne_o0_b22_0 nin0))
  obtain ⟨T83, X83, e83, st83⟩ := getF X81 hx hZ hown (wf26 hw) Via.refl rfl f82 (g := (mkF m 243 #[vr o0, vi 0, vl y1, sd, vi 0, vi 0, vi 1] [(.ref o0), (.ref o0)])) rfl rfl (hb hby dn_243)
  have f84 := ((((((f43.wr W45).keep Kq51).keep Kq62).keep Kq69).wr W74).keep Kq81)
  obtain ⟨T85, h85, X85, e85, W85, st85⟩ := putF X83 hx hZ hown (wf26 hw) Via.refl e83 f82 f84 (Or.inl (wd27 hw)) (wd1 hw) (ty := .int) (by decide) rfl rfl (g := (mkF m 248 #[vr o0, vi 0, vl y1, sd, vi 0, vi 0, vi 1] [(.int (1 : Int32)), (.ref o0)])) rfl rfl (hb hby dn_248)
  have N85 := Fr.snoc X85 N81 g_o0
  have Z85 : n0 ≤ h85.size := by rw [W85.size]; exact Z81
  have K85 := (K81.wr W85 (Or.inl (List.mem_of_getElem? (i := 0) rfl)))
  have Fw85 := f82.same W85
  have f86 := (((f70.other W74 (Or.inl ne_o0_b10_0)).keep Kq81 (ninS ne_o0_b22_0 nin0)).other W85 (Or.inr (sn3 hw)))
  have f87 := (((((((Fw42.other W45 (Or.inr (sn18 hw))).keep Kq51 (ninS ne_o0_b10_0 nin0)).keep Kq62 (ninS ne_o0_b22_0 nin0)).keep Kq69 (ninS ne_o0_b34_0 nin0)).other W74 (Or.inl ne_o0_b10_0)).keep Kq81 (ninS ne_o0_b22_0 nin0)).other W85 (Or.inr (sn18 hw)))
  have f88 := (f84.wr W85)
  have f89 := ((V74.keep Kq81 (ninS ne_b10_0_b22_0 nin0)).other W85 (Ne.symm ne_o0_b10_0))
  have f90 := ((f75.keep Kq81 (ninS ne_o0_b22_0 nin0)).other W85 (Or.inr (sn8 hw)))
  have f91 := ((f77.keep Kq81 (ninS ne_o0_b22_0 nin0)).other W85 (Or.inr (sn29 hw)))
  have f92 := (g81_0.other W85 (Ne.symm ne_o0_b22_0))
  have f93 := ((((f63.keep Kq69 (ninS ne_o0_b34_0 nin0)).other W74 (Or.inl ne_o0_b10_0)).keep Kq81 (ninS ne_o0_b22_0 nin0)).other W85 (Or.inr (sn13 hw)))
  have f94 := (((V69.other W74 (Ne.symm ne_b10_0_b34_0)).keep Kq81 (ninS (Ne.symm ne_b22_0_b34_0) nin0)).other W85 (Ne.symm ne_o0_b34_0))
  subst hEN
  obtain ⟨lfs, lhr, lhrun, lhended, lhW, lhsame⟩ := X85.leave (v := some (.int (0 : Int32))) (fun h => by rw [Bd.returns] at h; cases h)
  refine ⟨_, _, pre0 _ ?_, lhrun, lhended, _, _, rfl, ?_, ⟨_, rfl⟩, lhW, lhsame.mono (by decide) (by decide)⟩
  · skip
    refine XS.iloadN X0.here hx rfl (hb hby dn_0) rfl ?_
    refine XS.istore X0.here hx rfl (hb hby dn_1) rfl (l' := #[vr o0, vi 0, vl y1, sd, vi 0, un, un]) rfl ?_
    refine XS.aloadN X0.here hx rfl (hb hby dn_3) rfl rfl ?_
    refine st1 _ ?_
    refine XS.aloadN X1.here hx rfl (hb hby dn_7) rfl rfl ?_
    refine st2 _ ?_
    refine X2.arraylength hx (by (try rw [e2]); exact Ar3.1) (State.isArrayOf_alike hZ.alike Ar3.2.1) (g := (mkF m 11 #[vr o0, vi 0, vl y1, sd, vi 0, un, un] [(.ref o2), (.int (0 : Int32))])) rfl rfl (hb hby dn_11) _ ?_
    rw [len_of S3 M3]
    refine XS.icmpNo X2.here hx rfl (hb hby dn_12) rfl (teq (by decide : (0 : Int32) = (0 : Int32))).2 ?_
    refine XS.aloadN X2.here hx rfl (hb hby dn_15) rfl rfl ?_
    refine st4 _ ?_
    refine XS.aloadN X4.here hx rfl (hb hby dn_19) rfl rfl ?_
    refine st5 _ ?_
    refine XS.isub X5.here hx rfl (hb hby dn_23) rfl ?_
    refine XS.istore X5.here hx rfl (hb hby dn_24) rfl (l' := #[vr o0, vi 0, vl y1, sd, vi 0, vi 0, un]) rfl ?_
    refine XS.iload X5.here hx rfl (hb hby dn_26) rfl ?_
    refine XS.aloadN X5.here hx rfl (hb hby dn_28) rfl rfl ?_
    refine st6 _ ?_
    refine X6.arraylength hx (by (try rw [e6]); exact Ar7.1) (State.isArrayOf_alike hZ.alike Ar7.2.1) (g := (mkF m 32 #[vr o0, vi 0, vl y1, sd, vi 0, vi 0, un] [(.ref o2), (.int (0 : Int32))])) rfl rfl (hb hby dn_32) _ ?_
    rw [len_of S7 M7]
    refine XS.icmpNo X6.here hx rfl (hb hby dn_33) rfl (teq (by decide : (0 : Int32) = (0 : Int32))).2 ?_
    refine XS.iconst X6.here hx rfl (hb hby dn_36) ?_
    refine XS.iconst X6.here hx rfl (hb hby dn_37) ?_
    refine XS.iload X6.here hx rfl (hb hby dn_38) rfl ?_
    refine XS.imul X6.here hx rfl (hb hby dn_40) rfl ?_
    refine st8 _ ?_
    refine XS.goto X8.here hx rfl (pc0 := 44) (pc' := 52) rfl (hb hby dn_44) (by decide) (by decide) ?_
    refine XS.istore X8.here hx rfl (hb hby dn_52) rfl (l' := #[vr o0, vi 0, vl y1, sd, vi 0, vi 0, vi 1]) rfl ?_
    refine XS.aloadN X8.here hx rfl (hb hby dn_54) rfl rfl ?_
    refine XS.aloadN X8.here hx rfl (hb hby dn_55) rfl rfl ?_
    refine XS.aloadN X8.here hx rfl (hb hby dn_56) rfl rfl ?_
    refine st9 _ ?_
    refine XS.iconst X9.here hx rfl (hb hby dn_60) ?_
    refine XS.iload X9.here hx rfl (hb hby dn_61) rfl ?_
    refine st10.trans ?_
    refine st13 _ ?_
    refine XS.aloadN X13.here hx rfl (hb hby dn_69) rfl rfl ?_
    refine XS.aloadN X13.here hx rfl (hb hby dn_70) rfl rfl ?_
    refine XS.aloadN X13.here hx rfl (hb hby dn_71) rfl rfl ?_
    refine st15 _ ?_
    refine XS.aloadN X15.here hx rfl (hb hby dn_75) rfl rfl ?_
    refine st17 _ ?_
    refine XS.iload X17.here hx rfl (hb hby dn_79) rfl ?_
    refine st22.trans ?_
    refine st26 _ ?_
    refine XS.aloadN X26.here hx rfl (hb hby dn_87) rfl rfl ?_
    refine XS.aloadN X26.here hx rfl (hb hby dn_88) rfl rfl ?_
    refine XS.aloadN X26.here hx rfl (hb hby dn_89) rfl rfl ?_
    refine st28 _ ?_
    refine XS.iconst X28.here hx rfl (hb hby dn_93) ?_
    refine XS.iload X28.here hx rfl (hb hby dn_94) rfl ?_
    refine st34.trans ?_
    refine st38 _ ?_
    refine XS.iload X38.here hx rfl (hb hby dn_102) rfl ?_
    refine XS.aloadN X38.here hx rfl (hb hby dn_104) rfl rfl ?_
    refine st40 _ ?_
    refine XS.isub X40.here hx rfl (hb hby dn_108) rfl ?_
    refine XS.istore X40.here hx rfl (hb hby dn_109) rfl (l' := #[vr o0, vi 0, vl y1, sd, vi 0, vi 0, vi 1]) rfl ?_
    refine XS.aloadN X40.here hx rfl (hb hby dn_111) rfl rfl ?_
    refine XS.iconst X40.here hx rfl (hb hby dn_112) ?_
    refine st42 _ ?_
    refine XS.aloadN X42.here hx rfl (hb hby dn_116) rfl rfl ?_
    refine XS.iload X42.here hx rfl (hb hby dn_117) rfl ?_
    refine st45 _ ?_
    refine XS.aloadN X45.here hx rfl (hb hby dn_122) rfl rfl ?_
    refine st47 _ ?_
    refine XS.iload X47.here hx rfl (hb hby dn_126) rfl ?_
    refine XS.aloadN X47.here hx rfl (hb hby dn_128) rfl rfl ?_
    refine st48 _ ?_
    refine XS.iload X48.here hx rfl (hb hby dn_132) rfl ?_
    refine XS.iconst X48.here hx rfl (hb hby dn_134) ?_
    refine XS.iadd X48.here hx rfl (hb hby dn_135) rfl ?_
    refine XS.aloadN X48.here hx rfl (hb hby dn_136) rfl rfl ?_
    refine st49 _ ?_
    refine XS.iload X49.here hx rfl (hb hby dn_140) rfl ?_
    refine XS.isub X49.here hx rfl (hb hby dn_142) rfl ?_
    refine st51 _ ?_
    refine XS.aloadN X51.here hx rfl (hb hby dn_146) rfl rfl ?_
    refine st53 _ ?_
    refine XS.iload X53.here hx rfl (hb hby dn_150) rfl ?_
    refine XS.aloadN X53.here hx rfl (hb hby dn_152) rfl rfl ?_
    refine st55 _ ?_
    refine XS.imul X55.here hx rfl (hb hby dn_156) rfl ?_
    refine XS.aloadN X55.here hx rfl (hb hby dn_157) rfl rfl ?_
    refine st56 _ ?_
    refine XS.iload X56.here hx rfl (hb hby dn_161) rfl ?_
    refine XS.iconst X56.here hx rfl (hb hby dn_163) ?_
    refine XS.iadd X56.here hx rfl (hb hby dn_164) rfl ?_
    refine XS.aloadN X56.here hx rfl (hb hby dn_165) rfl rfl ?_
    refine st57 _ ?_
    refine XS.imul X57.here hx rfl (hb hby dn_169) rfl ?_
    refine XS.aloadN X57.here hx rfl (hb hby dn_170) rfl rfl ?_
    refine st59 _ ?_
    refine XS.iload X59.here hx rfl (hb hby dn_174) rfl ?_
    refine XS.isub X59.here hx rfl (hb hby dn_176) rfl ?_
    refine XS.aloadN X59.here hx rfl (hb hby dn_177) rfl rfl ?_
    refine st60 _ ?_
    refine XS.imul X60.here hx rfl (hb hby dn_181) rfl ?_
    refine st62 _ ?_
    refine XS.aloadN X62.here hx rfl (hb hby dn_185) rfl rfl ?_
    refine st64 _ ?_
    refine XS.iload X64.here hx rfl (hb hby dn_189) rfl ?_
    refine XS.aloadN X64.here hx rfl (hb hby dn_191) rfl rfl ?_
    refine st65 _ ?_
    refine XS.iload X65.here hx rfl (hb hby dn_195) rfl ?_
    refine XS.iconst X65.here hx rfl (hb hby dn_197) ?_
    refine XS.iadd X65.here hx rfl (hb hby dn_198) rfl ?_
    refine XS.aloadN X65.here hx rfl (hb hby dn_199) rfl rfl ?_
    refine st67 _ ?_
    refine XS.iload X67.here hx rfl (hb hby dn_203) rfl ?_
    refine XS.isub X67.here hx rfl (hb hby dn_205) rfl ?_
    refine st69 _ ?_
    refine XS.aloadN X69.here hx rfl (hb hby dn_209) rfl rfl ?_
    refine st71 _ ?_
    refine XS.iload X71.here hx rfl (hb hby dn_213) rfl ?_
    refine XS.lloadN X71.here hx rfl (hb hby dn_215) rfl ?_
    refine st74 _ ?_
    refine XS.aloadN X74.here hx rfl (hb hby dn_217) rfl rfl ?_
    refine st76 _ ?_
    refine XS.iload X76.here hx rfl (hb hby dn_221) rfl ?_
    refine XS.aloadN X76.here hx rfl (hb hby dn_223) rfl rfl ?_
    refine st78 _ ?_
    refine XS.imul X78.here hx rfl (hb hby dn_227) rfl ?_
    refine XS.iload X78.here hx rfl (hb hby dn_228) rfl ?_
    refine XS.iconst X78.here hx rfl (hb hby dn_230) ?_
    refine XS.iadd X78.here hx rfl (hb hby dn_231) rfl ?_
    refine XS.aloadN X78.here hx rfl (hb hby dn_232) rfl rfl ?_
    refine st79 _ ?_
    refine XS.imul X79.here hx rfl (hb hby dn_236) rfl ?_
    refine XS.lconst X79.here hx rfl (hb hby dn_237) ?_
    refine st81 _ ?_
    refine XS.aloadN X81.here hx rfl (hb hby dn_241) rfl rfl ?_
    refine XS.dup X81.here hx rfl (hb hby dn_242) rfl rfl ?_
    refine st83 _ ?_
    refine XS.iconst X83.here hx rfl (hb hby dn_246) ?_
    refine XS.iadd X83.here hx rfl (hb hby dn_247) rfl ?_
    refine st85 _ ?_
    refine XS.iload X85.here hx rfl (hb hby dn_251) rfl ?_
    show SS p e below T85 (mkF m 253 #[vr o0, vi 0, vl y1, sd, vi 0, vi 0, vi 1] [(.int (0 : Int32))]) _
    exact retI X85 hx Bd.returns (hb hby dn_253) lhr
  · skip
    show QA7 Z o0 y1 o2 kk_o2 h0 n0 _ T85.heap _
    rw [e85]
    exact ⟨b10_0, b22_0, b34_0, _, _, _, rfl, N85, K85, sz_b10_0, sz_b22_0, sz_b34_0, ne_b10_0_b22_0, ne_b10_0_b34_0, ne_b22_0_b34_0, Fw85, f86, f87, f88, f89, f90, f91, f92, f93, f94⟩
theorem efa_prog_59_method_3_code_vvvvv (m : MethodId) (x0 : Addr) (x1 : Int32) (x2 : Int32) (x3 : Int64) (x4 : Int64) : entryFrame m #[(.ref x0), (.int x1), (.int x2), (.long x3), (.long x4)] 9 = mkF m 0 #[vr x0, vi x1, vi x2, vl x3, sd, vl x4, sd, un, un] [] := by first | (simp [entryFrame, mkF, argsToLocals, Value.category]; done) | rfl
theorem db_0 : decode prog_59_method_3_code 0 = .ok (.aload_n 0, 1) := by decide +kernel
theorem db_1 : decode prog_59_method_3_code 1 = .ok (.iload_n 1, 1) := by decide +kernel
theorem db_2 : decode prog_59_method_3_code 2 = .ok (.iconst 0, 1) := by decide +kernel
theorem db_3 : decode prog_59_method_3_code 3 = .ok (.iadd, 1) := by decide +kernel
theorem db_4 : decode prog_59_method_3_code 4 = .ok (.laload, 1) := by decide +kernel
theorem db_5 : decode prog_59_method_3_code 5 = .ok (.lstore 7, 2) := by decide +kernel
theorem db_7 : decode prog_59_method_3_code 7 = .ok (.aload_n 0, 1) := by decide +kernel
theorem db_8 : decode prog_59_method_3_code 8 = .ok (.iload_n 1, 1) := by decide +kernel
theorem db_9 : decode prog_59_method_3_code 9 = .ok (.iconst 0, 1) := by decide +kernel
theorem db_10 : decode prog_59_method_3_code 10 = .ok (.iadd, 1) := by decide +kernel
theorem db_11 : decode prog_59_method_3_code 11 = .ok (.lload 7, 2) := by decide +kernel
theorem db_13 : decode prog_59_method_3_code 13 = .ok (.lload 5, 2) := by decide +kernel
theorem db_15 : decode prog_59_method_3_code 15 = .ok (.ladd, 1) := by decide +kernel
theorem db_16 : decode prog_59_method_3_code 16 = .ok (.lastore, 1) := by decide +kernel
theorem db_17 : decode prog_59_method_3_code 17 = .ok (.iload_n 2, 1) := by decide +kernel
theorem db_18 : decode prog_59_method_3_code 18 = .ok (.iconst 4, 1) := by decide +kernel
theorem db_19 : decode prog_59_method_3_code 19 = .ok (.if_icmp .ne 10, 3) := by decide +kernel
theorem db_29 : decode prog_59_method_3_code 29 = .ok (.return_, 1) := by decide +kernel
def QA14 (Z : State) (o0 : Addr) (y1 : Int64) (kk_o0 : ClassId) (h0 : Heap) (n0 : Nat) (v : Option Value) (h : Heap) (L : List Loc) : Prop := v = none ∧ Fr n0 L ∧ Keep h0 h [o0] ∧ Arv Z h o0 kk_o0 .long (1 : Int32) [(.long ((0 : Int64) + y1))] (.long (0 : Int64))
set_option maxRecDepth 65536 in
set_option maxHeartbeats 40000000 in
theorem rmA14 (l : Launch) (Z : State) (a0 : Array Value) (hw : ∀ d ∈ tables_1, d.before a0 Z = true) (ws : List Jvm.Cond) (o0 : Addr) (y1 : Int64) (kk_o0 : ClassId) (h0 : Heap) (n0 : Nat) (Z0 : n0 ≤ h0.size) (V_o0 : Arv Z h0 o0 kk_o0 .long (1 : Int32) [(.long (0 : Int64))] (.long (0 : Int64))) (g_o0 : n0 ≤ o0) :
    MetFree l mn6 (head1 (Jvm.Cond.code mn6 prog_59_method_3_code 9 none :: ws) ({ frames := 0, cells := 0, slots := 0, locals := 0 } : Room)) (fun a U => a = #[(.ref o0), (.int (0 : Int32)), (.int (1 : Int32)), (.long (0 : Int64)), (.long y1)] ∧ Z.Warmed39 U.vm ∧ U.heap = h0) (fun _ _ _ _ _ => True) (fun _ U oc_ U' => ∃ v L, oc_ = .returned v ∧ QA14 Z o0 y1 kk_o0 h0 n0 v U'.heap L ∧ FrameEnd U oc_ U' L ({ frames := 0, cells := 0, slots := 0, locals := 0 } : Room).cells ({ frames := 0, cells := 0, slots := 0, locals := 0 } : Room).slots) := by
  refine MetFree.of_bodySF (plainFor_of_name pn_com_example_strict_limiter_strictlimiter_WindowRecord) hisR ?_
  intro p e s m args below meth c s₁ Bd hml0 hP hK
  obtain ⟨rfl, hZ, hh⟩ := hP
  have hx := Bd.exec
  have hby := Bd.bytes
  have hml : c.maxLocals = 9 := hml0
  have hown : s.vm.findClass cn1 = some m.cls := findClass_of_methodNamed Bd.named
  have hnm := (name_of_methodNamed Bd.named Bd.method).1
  have X0 : Stand p l e ({ frames := 0, cells := 0, slots := 0, locals := 0 } : Room) s m #[(.ref o0), (.int (0 : Int32)), (.int (1 : Int32)), (.long (0 : Int64)), (.long y1)] below meth c s₁ [] 0 0 := Stand.of_body Bd
  have e0 : s₁.heap = h0 := by rw [← hh, Bd.state]; rfl
  have N0 := Fr.nil n0
  have pre0 : ∀ t, SS p e below s₁ (mkF m 0 #[vr o0, vi 0, vi 1, vl 0, sd, vl y1, sd, un, un] []) t → Steps p.tables e below (s₁.setTop (entryFrame m #[(.ref o0), (.int (0 : Int32)), (.int (1 : Int32)), (.long (0 : Int64)), (.long y1)] 9)) t := fun t k => castTop (efa_prog_59_method_3_code_vvvvv m o0 (0 : Int32) (1 : Int32) (0 : Int64) y1) k
  obtain ⟨EN, hEN⟩ : ∃ z, z = s₁.setTop (entryFrame m #[(.ref o0), (.int (0 : Int32)), (.int (1 : Int32)), (.long (0 : Int64)), (.long y1)] 9) := ⟨_, rfl⟩
  rw [← hEN] at pre0
  obtain ⟨cl1, Ar1, q1, S1, M1, HH1, GG1⟩ := id V_o0
  have hin1 : ¬ ((0 : Int32) < 0 ∨ cl1.slots.size ≤ ((0 : Int32)).toNatClampNeg) := inb_of S1 ⟨by decide, by decide⟩
  have hat1 : cl1.slots[((0 : Int32)).toNatClampNeg]? = some (.long (0 : Int64)) := Has.at HH1 hin1 rfl
  obtain ⟨cl2, Ar2, q2, S2, M2, HH2, GG2⟩ := id V_o0
  have hin2 : ¬ ((0 : Int32) < 0 ∨ cl2.slots.size ≤ ((0 : Int32)).toNatClampNeg) := inb_of S2 ⟨by decide, by decide⟩
  obtain ⟨T3, h3, X3, e3, W3, st3⟩ := stJ X0 hx hZ e0 Ar2 (j := (0 : Int32)) hin2 (g := (mkF m 16 #[vr o0, vi 0, vi 1, vl 0, sd, vl y1, sd, vl 0, sd] [(.long ((0 : Int64) + y1)), (.int (0 : Int32)), (.ref o0)])) rfl rfl (hb hby db_16)
  have N3 := Fr.snoc X3 N0 g_o0
  have Z3 : n0 ≤ h3.size := by rw [W3.size]; exact Z0
  have K3 : Keep h0 h3 [o0] := ((Keep.refl h0 [o0]).wr W3 (Or.inl (List.mem_of_getElem? (i := 0) rfl)))
  have V3 := Arv.set Ar2 q2 S2 M2 HH2 GG2 rfl W3 0 rfl (Nat.le_of_ble_eq_true rfl)
  subst hEN
  obtain ⟨lfs, lhr, lhrun, lhended, lhW, lhsame⟩ := X3.leave (v := none) (fun _ => rfl)
  refine ⟨_, _, pre0 _ ?_, lhrun, lhended, _, _, rfl, ?_, ⟨_, rfl⟩, lhW, lhsame.mono (by decide) (by decide)⟩
  · skip
    refine XS.aloadN X0.here hx rfl (hb hby db_0) rfl rfl ?_
    refine XS.iloadN X0.here hx rfl (hb hby db_1) rfl ?_
    refine XS.iconst X0.here hx rfl (hb hby db_2) ?_
    refine XS.iadd X0.here hx rfl (hb hby db_3) rfl ?_
    refine X0.laload hx (j := (0 : Int32)) (v := (.long (0 : Int64))) (by (try rw [e0]); exact Ar1.1) (State.isArrayOf_alike hZ.alike Ar1.2.1) Ar1.2.2 hin1 hat1 (g := (mkF m 4 #[vr o0, vi 0, vi 1, vl 0, sd, vl y1, sd, un, un] [(.int (0 : Int32)), (.ref o0)])) rfl rfl (hb hby db_4) _ ?_
    refine XS.lstore X0.here hx rfl (hb hby db_5) rfl (l' := #[vr o0, vi 0, vi 1, vl 0, sd, vl y1, sd, vl 0, sd]) rfl ?_
    refine XS.aloadN X0.here hx rfl (hb hby db_7) rfl rfl ?_
    refine XS.iloadN X0.here hx rfl (hb hby db_8) rfl ?_
    refine XS.iconst X0.here hx rfl (hb hby db_9) ?_
    refine XS.iadd X0.here hx rfl (hb hby db_10) rfl ?_
    refine XS.lload X0.here hx rfl (hb hby db_11) rfl ?_
    refine XS.lload X0.here hx rfl (hb hby db_13) rfl ?_
    refine XS.ladd X0.here hx rfl (hb hby db_15) rfl ?_
    show SS p e below s₁ (mkF m 16 #[vr o0, vi 0, vi 1, vl 0, sd, vl y1, sd, vl 0, sd] [(.long ((0 : Int64) + y1)), (.int (0 : Int32)), (.ref o0)]) _
    refine st3 _ ?_
    refine XS.iloadN X3.here hx rfl (hb hby db_17) rfl ?_
    refine XS.iconst X3.here hx rfl (hb hby db_18) ?_
    refine XS.icmpYes X3.here hx rfl (pc0 := 19) (pc' := 29) rfl (hb hby db_19) rfl (feq (by decide : ¬ ((1 : Int32) = (4 : Int32)))).2 (by decide) (by decide) ?_
    show SS p e below T3 (mkF m 29 #[vr o0, vi 0, vi 1, vl 0, sd, vl y1, sd, vl 0, sd] []) _
    exact X3.returnOut hx Bd.returns (hb hby db_29) lhr
  · skip
    show QA14 Z o0 y1 kk_o0 h0 n0 _ T3.heap _
    rw [e3]
    exact ⟨rfl, N3, K3, V3⟩
def QA21 (Z : State) (o0 : Addr) (o1 : Addr) (kk_o1 : ClassId) (h0 : Heap) (n0 : Nat) (v : Option Value) (h : Heap) (L : List Loc) : Prop := ∃ (b1 : Addr) (kk_b1 : ClassId), v = some (.ref b1) ∧ Fr n0 L ∧ Keep h0 h [] ∧ h0.size ≤ b1 ∧ Arv Z h b1 kk_b1 .long (4 : Int32) [(.long (0 : Int64)), (.long (0 : Int64)), (.long (0 : Int64)), (.long (0 : Int64))] (.long (0 : Int64))
set_option maxRecDepth 65536 in
set_option maxHeartbeats 40000000 in
theorem rmA21 (l : Launch) (Z : State) (a0 : Array Value) (hw : ∀ d ∈ tables_1, d.before a0 Z = true) (ws : List Jvm.Cond) (o0 : Addr) (o1 : Addr) (kk_o1 : ClassId) (h0 : Heap) (n0 : Nat) (Z0 : n0 ≤ h0.size) (F_o0_first : Fld Z h0 o0 cn2 "first" "I" (.int (0 : Int32))) (F_o0_end : Fld Z h0 o0 cn2 "end" "I" (.int (0 : Int32))) (V_o1 : Arv Z h0 o1 kk_o1 .long (0 : Int32) [] (.long (0 : Int64))) :
    MetFree l mn5 (head1 (Jvm.Cond.code mn5 prog_23_method_8_code 5 (some (.array .long)) :: ws) ({ frames := 1, cells := 1, slots := 4, locals := 36 } : Room)) (fun a U => a = #[(.ref o0), (.ref o1), (.int (4 : Int32)), (.int (1 : Int32))] ∧ Z.Warmed39 U.vm ∧ U.heap = h0) (fun _ _ _ _ _ => True) (fun _ U oc_ U' => ∃ v L, oc_ = .returned v ∧ QA21 Z o0 o1 kk_o1 h0 n0 v U'.heap L ∧ FrameEnd U oc_ U' L ({ frames := 1, cells := 1, slots := 4, locals := 36 } : Room).cells ({ frames := 1, cells := 1, slots := 4, locals := 36 } : Room).slots) := by
  refine MetFree.of_bodySF (plainFor_of_name pn_com_example_strict_limiter_strictlimiter_KeptWindows) hisR ?_
  intro p e s m args below meth c s₁ Bd hml0 hP hK
  obtain ⟨rfl, hZ, hh⟩ := hP
  have hx := Bd.exec
  have hby := Bd.bytes
  have hml : c.maxLocals = 5 := hml0
  have hown : s.vm.findClass cn2 = some m.cls := findClass_of_methodNamed Bd.named
  have hnm := (name_of_methodNamed Bd.named Bd.method).1
  have X0 : Stand p l e ({ frames := 1, cells := 1, slots := 4, locals := 36 } : Room) s m #[(.ref o0), (.ref o1), (.int (4 : Int32)), (.int (1 : Int32))] below meth c s₁ [] 0 0 := Stand.of_body Bd
  have e0 : s₁.heap = h0 := by rw [← hh, Bd.state]; rfl
  have N0 := Fr.nil n0
  have pre0 : ∀ t, SS p e below s₁ (mkF m 0 #[vr o0, vr o1, vi 4, vi 1, un] []) t → Steps p.tables e below (s₁.setTop (entryFrame m #[(.ref o0), (.ref o1), (.int (4 : Int32)), (.int (1 : Int32))] 5)) t := fun t k => castTop (efa_prog_23_method_8_code_vvvv m o0 o1 (4 : Int32) (1 : Int32)) k
  obtain ⟨EN, hEN⟩ : ∃ z, z = s₁.setTop (entryFrame m #[(.ref o0), (.ref o1), (.int (4 : Int32)), (.int (1 : Int32))] 5) := ⟨_, rfl⟩
  rw [← hEN] at pre0
  obtain ⟨T1, h1, kk1, X1, e1, E1, A1, st1⟩ := newP X0 hx hZ (aty := .long) (wd57 hw) e0 (g := (mkF m 3 #[vr o0, vr o1, vi 4, vi 1, un] [(.int (4 : Int32))])) rfl (hb hby dd_3) rfl (by decide) (cap := 4) (by decide) (by decide) (by decide) (by decide)
  obtain ⟨b1, g1⟩ : ∃ z, z = h0.size := ⟨_, rfl⟩
  rw [← g1] at A1 st1
  have ge_b1 : n0 ≤ b1 := Nat.le_trans Z0 (Nat.le_of_eq g1.symm)
  have sz_b1 : h0.size ≤ b1 := Nat.le_trans (Nat.le_refl _) (Nat.le_of_eq g1.symm)
  have Z1 := Nat.le_trans Z0 E1.1
  have K1 : Keep h0 h1 [] := ((Keep.refl h0 []).ext E1)
  have V1 : Arv Z h1 b1 kk1 .long (4 : Int32) [(.long (0 : Int64)), (.long (0 : Int64)), (.long (0 : Int64)), (.long (0 : Int64))] (.long (0 : Int64)) := (Arv.new A1 (by decide)).pad (pad_rep [] (.long (0 : Int64)) 4)
  have f2 := (F_o0_first.ext E1)
  obtain ⟨T3, X3, e3, st3⟩ := getF X1 hx hZ hown (wf24 hw) Via.refl e1 f2 (g := (mkF m 9 #[vr o0, vr o1, vi 4, vi 1, vr b1] [(.ref o0), (.ref o1)])) rfl rfl (hb hby dd_9)
  have f4 := (F_o0_end.ext E1)
  obtain ⟨T5, X5, e5, st5⟩ := getF X3 hx hZ hown (wf26 hw) Via.refl e3 f4 (g := (mkF m 18 #[vr o0, vr o1, vi 4, vi 1, vr b1] [(.ref o0), (.int (0 : Int32)), (.ref b1), (.int (0 : Int32)), (.ref o1)])) rfl rfl (hb hby dd_18)
  obtain ⟨T6, X6, e6, st6⟩ := getF X5 hx hZ hown (wf24 hw) Via.refl e5 f2 (g := (mkF m 22 #[vr o0, vr o1, vi 4, vi 1, vr b1] [(.ref o0), (.int (0 : Int32)), (.int (0 : Int32)), (.ref b1), (.int (0 : Int32)), (.ref o1)])) rfl rfl (hb hby dd_22)
  have f7 := (V_o1.ext E1)
  obtain ⟨T8, h8, Lq8, X8, e8, Nq8, Kq8, Vq8, st8⟩ := cpA X6 hx hZ hown (wd58 hw) (wd61 hw) (wd59 hw) (wd60 hw) e6 (us := []) f7 V1 (Or.inl ⟨rfl, rfl⟩) (by decide) (by decide) (by decide) (by first | decide | exact Nat.le_of_ble_eq_true rfl) (by first | decide | exact Nat.le_of_ble_eq_true rfl) (by rfl) (by first | decide | exact Nat.le_of_ble_eq_true rfl) N0 ge_b1 (g := (mkF m 28 #[vr o0, vr o1, vi 4, vi 1, vr b1] [(.int (0 : Int32)), (.int (0 : Int32)), (.ref b1), (.int (0 : Int32)), (.ref o1)])) rfl (by rw [hml]; rfl) rfl (hb hby dd_28) (by decide) (W := 0) (by show 2 * 0 + _ ≤ _; exact Nat.le_of_eq rfl) (by decide)
  have Z8 := Nat.le_trans Z1 Kq8.1
  have K8 := Keep.trans K1 Kq8 (allS (Or.inr sz_b1) all0)
  have V8 : Arv Z h8 b1 _ .long (4 : Int32) [(.long (0 : Int64)), (.long (0 : Int64)), (.long (0 : Int64)), (.long (0 : Int64))] (.long (0 : Int64)) := Vq8
  subst hEN
  obtain ⟨lfs, lhr, lhrun, lhended, lhW, lhsame⟩ := X8.leave (v := some (.ref b1)) (fun h => by rw [Bd.returns] at h; cases h)
  refine ⟨_, _, pre0 _ ?_, lhrun, lhended, _, _, rfl, ?_, ⟨_, rfl⟩, lhW, lhsame.mono (by decide) (by decide)⟩
  · skip
    refine XS.iloadN X0.here hx rfl (hb hby dd_0) rfl ?_
    refine XS.iloadN X0.here hx rfl (hb hby dd_1) rfl ?_
    refine XS.imul X0.here hx rfl (hb hby dd_2) rfl ?_
    refine st1 _ ?_
    refine XS.astore X1.here hx rfl (hb hby dd_5) rfl rfl (l' := #[vr o0, vr o1, vi 4, vi 1, vr b1]) rfl ?_
    refine XS.aloadN X1.here hx rfl (hb hby dd_7) rfl rfl ?_
    refine XS.aloadN X1.here hx rfl (hb hby dd_8) rfl rfl ?_
    refine st3 _ ?_
    refine XS.iloadN X3.here hx rfl (hb hby dd_12) rfl ?_
    refine XS.imul X3.here hx rfl (hb hby dd_13) rfl ?_
    refine XS.aload X3.here hx rfl (hb hby dd_14) rfl rfl ?_
    refine XS.iconst X3.here hx rfl (hb hby dd_16) ?_
    refine XS.aloadN X3.here hx rfl (hb hby dd_17) rfl rfl ?_
    refine st5 _ ?_
    refine XS.aloadN X5.here hx rfl (hb hby dd_21) rfl rfl ?_
    refine st6 _ ?_
    refine XS.isub X6.here hx rfl (hb hby dd_25) rfl ?_
    refine XS.iloadN X6.here hx rfl (hb hby dd_26) rfl ?_
    refine XS.imul X6.here hx rfl (hb hby dd_27) rfl ?_
    refine st8 _ ?_
    refine XS.aload X8.here hx rfl (hb hby dd_31) rfl rfl ?_
    show SS p e below T8 (mkF m 33 #[vr o0, vr o1, vi 4, vi 1, vr b1] [(.ref b1)]) _
    exact retOut X8 hx Bd.returns rfl (Or.inr (Or.inr (Or.inr (Or.inr ⟨rfl, rfl, rfl⟩)))) (hb hby dd_33) lhr
  · skip
    show QA21 Z o0 o1 kk_o1 h0 n0 _ T8.heap _
    rw [e8]
    exact ⟨b1, _, rfl, Nq8, K8, sz_b1, V8⟩
def QA24 (Z : State)  (h0 : Heap) (n0 : Nat) (v : Option Value) (h : Heap) (L : List Loc) : Prop := v = none ∧ Fr n0 L ∧ h = h0
set_option maxRecDepth 65536 in
set_option maxHeartbeats 40000000 in
theorem rmA24 (l : Launch) (Z : State) (a0 : Array Value) (hw : ∀ d ∈ tables_1, d.before a0 Z = true) (ws : List Jvm.Cond)  (h0 : Heap) (n0 : Nat) (Z0 : n0 ≤ h0.size) :
    MetFree l mn13 (head1 (Jvm.Cond.code mn13 jdk_65_method_30_code 3 none :: ws) ({ frames := 0, cells := 0, slots := 0, locals := 0 } : Room)) (fun a U => a = #[(.int (4 : Int32)), (.int (0 : Int32)), (.int (4 : Int32))] ∧ Z.Warmed39 U.vm ∧ U.heap = h0) (fun _ _ _ _ _ => True) (fun _ U oc_ U' => ∃ v L, oc_ = .returned v ∧ QA24 Z  h0 n0 v U'.heap L ∧ FrameEnd U oc_ U' L ({ frames := 0, cells := 0, slots := 0, locals := 0 } : Room).cells ({ frames := 0, cells := 0, slots := 0, locals := 0 } : Room).slots) := by
  refine MetFree.of_bodySF (plainFor_of_name pn_java_util_Arrays) hisR ?_
  intro p e s m args below meth c s₁ Bd hml0 hP hK
  obtain ⟨rfl, hZ, hh⟩ := hP
  have hx := Bd.exec
  have hby := Bd.bytes
  have hml : c.maxLocals = 3 := hml0
  have hown : s.vm.findClass "java/util/Arrays" = some m.cls := findClass_of_methodNamed Bd.named
  have hnm := (name_of_methodNamed Bd.named Bd.method).1
  have X0 : Stand p l e ({ frames := 0, cells := 0, slots := 0, locals := 0 } : Room) s m #[(.int (4 : Int32)), (.int (0 : Int32)), (.int (4 : Int32))] below meth c s₁ [] 0 0 := Stand.of_body Bd
  have e0 : s₁.heap = h0 := by rw [← hh, Bd.state]; rfl
  have N0 := Fr.nil n0
  have pre0 : ∀ t, SS p e below s₁ (mkF m 0 #[vi 4, vi 0, vi 4] []) t → Steps p.tables e below (s₁.setTop (entryFrame m #[(.int (4 : Int32)), (.int (0 : Int32)), (.int (4 : Int32))] 3)) t := fun t k => castTop (efa_jdk_65_method_30_code_vvv m (4 : Int32) (0 : Int32) (4 : Int32)) k
  obtain ⟨EN, hEN⟩ : ∃ z, z = s₁.setTop (entryFrame m #[(.int (4 : Int32)), (.int (0 : Int32)), (.int (4 : Int32))] 3) := ⟨_, rfl⟩
  rw [← hEN] at pre0
  subst hEN
  obtain ⟨lfs, lhr, lhrun, lhended, lhW, lhsame⟩ := X0.leave (v := none) (fun _ => rfl)
  refine ⟨_, _, pre0 _ ?_, lhrun, lhended, _, _, rfl, ?_, ⟨_, rfl⟩, lhW, lhsame.mono (by decide) (by decide)⟩
  · skip
    refine XS.iloadN X0.here hx rfl (hb hby di_0) rfl ?_
    refine XS.iloadN X0.here hx rfl (hb hby di_1) rfl ?_
    refine XS.icmpYes X0.here hx rfl (pc0 := 2) (pc' := 46) rfl (hb hby di_2) rfl (flt (by decide : ¬ ((4 : Int32) < (0 : Int32)))).2.2.2 (by decide) (by decide) ?_
    refine XS.iloadN X0.here hx rfl (hb hby di_46) rfl ?_
    refine XS.ifYes X0.here hx rfl (pc0 := 47) (pc' := 59) rfl (hb hby di_47) rfl ((if0 _ _).trans (flt (by decide : ¬ ((0 : Int32) < (0 : Int32)))).2.1) (by decide) (by decide) ?_
    refine XS.iloadN X0.here hx rfl (hb hby di_59) rfl ?_
    refine XS.iloadN X0.here hx rfl (hb hby di_60) rfl ?_
    refine XS.icmpYes X0.here hx rfl (pc0 := 61) (pc' := 73) rfl (hb hby di_61) rfl (flt (by decide : ¬ ((4 : Int32) < (4 : Int32)))).2.2.2 (by decide) (by decide) ?_
    show SS p e below s₁ (mkF m 73 #[vi 4, vi 0, vi 4] []) _
    exact X0.returnOut hx Bd.returns (hb hby di_73) lhr
  · skip
    show QA24 Z  h0 n0 _ s₁.heap _
    rw [e0]
    exact ⟨rfl, N0, rfl⟩
def QA23 (Z : State) (o0 : Addr) (kk_o0 : ClassId) (h0 : Heap) (n0 : Nat) (v : Option Value) (h : Heap) (L : List Loc) : Prop := v = none ∧ Fr n0 L ∧ Keep h0 h [o0] ∧ Arv Z h o0 kk_o0 .long (4 : Int32) [(.long (0 : Int64)), (.long (0 : Int64)), (.long (0 : Int64)), (.long (0 : Int64))] (.long (0 : Int64))
set_option maxRecDepth 65536 in
set_option maxHeartbeats 40000000 in
theorem rmA23 (l : Launch) (Z : State) (a0 : Array Value) (hw : ∀ d ∈ tables_1, d.before a0 Z = true) (ws : List Jvm.Cond) (o0 : Addr) (kk_o0 : ClassId) (h0 : Heap) (n0 : Nat) (Z0 : n0 ≤ h0.size) (V_o0 : Arv Z h0 o0 kk_o0 .long (4 : Int32) [(.long (0 : Int64)), (.long (0 : Int64)), (.long (0 : Int64)), (.long (0 : Int64))] (.long (0 : Int64))) (g_o0 : n0 ≤ o0) :
    MetFree l mn12 (head1 (Jvm.Cond.code mn12 jdk_65_method_102_code 6 none :: ws) ({ frames := 1, cells := 0, slots := 0, locals := 14 } : Room)) (fun a U => a = #[(.ref o0), (.int (0 : Int32)), (.int (4 : Int32)), (.long (0 : Int64))] ∧ Z.Warmed39 U.vm ∧ U.heap = h0) (fun _ _ _ _ _ => True) (fun _ U oc_ U' => ∃ v L, oc_ = .returned v ∧ QA23 Z o0 kk_o0 h0 n0 v U'.heap L ∧ FrameEnd U oc_ U' L ({ frames := 1, cells := 0, slots := 0, locals := 14 } : Room).cells ({ frames := 1, cells := 0, slots := 0, locals := 14 } : Room).slots) := by
  refine MetFree.of_bodySF (plainFor_of_name pn_java_util_Arrays) hisR ?_
  intro p e s m args below meth c s₁ Bd hml0 hP hK
  obtain ⟨rfl, hZ, hh⟩ := hP
  have hx := Bd.exec
  have hby := Bd.bytes
  have hml : c.maxLocals = 6 := hml0
  have hown : s.vm.findClass "java/util/Arrays" = some m.cls := findClass_of_methodNamed Bd.named
  have hnm := (name_of_methodNamed Bd.named Bd.method).1
  have X0 : Stand p l e ({ frames := 1, cells := 0, slots := 0, locals := 14 } : Room) s m #[(.ref o0), (.int (0 : Int32)), (.int (4 : Int32)), (.long (0 : Int64))] below meth c s₁ [] 0 0 := Stand.of_body Bd
  have e0 : s₁.heap = h0 := by rw [← hh, Bd.state]; rfl
  have N0 := Fr.nil n0
  have pre0 : ∀ t, SS p e below s₁ (mkF m 0 #[vr o0, vi 0, vi 4, vl 0, sd, un] []) t → Steps p.tables e below (s₁.setTop (entryFrame m #[(.ref o0), (.int (0 : Int32)), (.int (4 : Int32)), (.long (0 : Int64))] 6)) t := fun t k => castTop (efa_jdk_65_method_102_code_vvvv m o0 (0 : Int32) (4 : Int32) (0 : Int64)) k
  obtain ⟨EN, hEN⟩ : ∃ z, z = s₁.setTop (entryFrame m #[(.ref o0), (.int (0 : Int32)), (.int (4 : Int32)), (.long (0 : Int64))] 6) := ⟨_, rfl⟩
  rw [← hEN] at pre0
  obtain ⟨cl1, Ar1, -, S1, M1, -, -⟩ := id V_o0
  obtain ⟨_, _, ⟨T2, L2, kc2, ks2⟩, -, X2, ⟨Lc2, hQ2, l2, y2, z2⟩, st2⟩ := Jvm.LawKit.callS X0 hx (y := mn13) hown (mvT hZ (wd39 hw)) (mvT hZ (wd40 hw)) (mvT hZ (wd37 hw)) (mvT hZ (wd41 hw)) (by decide) (backOf (W := 0) (rmA24 l Z a0 hw []  h0 n0 Z0 ) hZ (wd41 hw) (wd37 hw) (by decide) (by decide)) (g := (mkF m 4 #[vr o0, vi 0, vi 4, vl 0, sd, un] [(.int (4 : Int32)), (.int (0 : Int32)), (.int (4 : Int32))])) rfl (by rw [hml]; rfl) (argsL := [(.int (4 : Int32)), (.int (0 : Int32)), (.int (4 : Int32))]) (rest := []) (lenOf pd__III_V rfl) rfl (by show 2 * 0 + _ ≤ _; exact Nat.le_of_eq rfl) (hb hby da_4) (fun _ _ => ⟨rfl, e0, (by decide : 0 + 0 ≤ _), (by decide : 0 + 0 ≤ _)⟩)
  dsimp only [Pt.U, Pt.locs, Pt.cells, Pt.slots] at X2 l2 y2 z2 st2 hQ2
  subst l2 y2 z2
  obtain ⟨rfl, Nq2, eq2⟩ := hQ2
  have N2 := Fr.app N0 Nq2
  obtain ⟨cl3, Ar3, q3, S3, M3, HH3, GG3⟩ := id V_o0
  have hin3 : ¬ ((0 : Int32) < 0 ∨ cl3.slots.size ≤ ((0 : Int32)).toNatClampNeg) := inb_of S3 ⟨by decide, by decide⟩
  obtain ⟨T4, h4, X4, e4, W4, st4⟩ := stJ X2 hx hZ eq2 Ar3 (j := (0 : Int32)) hin3 (g := (mkF m 20 #[vr o0, vi 0, vi 4, vl 0, sd, vi 0] [(.long (0 : Int64)), (.int (0 : Int32)), (.ref o0)])) rfl rfl (hb hby da_20)
  have N4 := Fr.snoc X4 N2 g_o0
  have Z4 : n0 ≤ h4.size := by rw [W4.size]; exact Z0
  have K4 : Keep h0 h4 [o0] := ((Keep.refl h0 [o0]).wr W4 (Or.inl (List.mem_of_getElem? (i := 0) rfl)))
  have V4 := Arv.set Ar3 q3 S3 M3 HH3 GG3 rfl W4 0 rfl (Nat.le_of_ble_eq_true rfl)
  obtain ⟨cl5, Ar5, q5, S5, M5, HH5, GG5⟩ := id V4
  have hin5 : ¬ ((1 : Int32) < 0 ∨ cl5.slots.size ≤ ((1 : Int32)).toNatClampNeg) := inb_of S5 ⟨by decide, by decide⟩
  obtain ⟨T6, h6, X6, e6, W6, st6⟩ := stJ X4 hx hZ e4 Ar5 (j := (1 : Int32)) hin5 (g := (mkF m 20 #[vr o0, vi 0, vi 4, vl 0, sd, vi 1] [(.long (0 : Int64)), (.int (1 : Int32)), (.ref o0)])) rfl rfl (hb hby da_20)
  have N6 := Fr.snoc X6 N4 g_o0
  have Z6 : n0 ≤ h6.size := by rw [W6.size]; exact Z4
  have K6 := (K4.wr W6 (Or.inl (List.mem_of_getElem? (i := 0) rfl)))
  have V6 := Arv.set Ar5 q5 S5 M5 HH5 GG5 rfl W6 1 rfl (Nat.le_of_ble_eq_true rfl)
  obtain ⟨cl7, Ar7, q7, S7, M7, HH7, GG7⟩ := id V6
  have hin7 : ¬ ((2 : Int32) < 0 ∨ cl7.slots.size ≤ ((2 : Int32)).toNatClampNeg) := inb_of S7 ⟨by decide, by decide⟩
  obtain ⟨T8, h8, X8, e8, W8, st8⟩ := stJ X6 hx hZ e6 Ar7 (j := (2 : Int32)) hin7 (g := (mkF m 20 #[vr o0, vi 0, vi 4, vl 0, sd, vi 2] [(.long (0 : Int64)), (.int (2 : Int32)), (.ref o0)])) rfl rfl (hb hby da_20)
  have N8 := Fr.snoc X8 N6 g_o0
  have Z8 : n0 ≤ h8.size := by rw [W8.size]; exact Z6
  have K8 := (K6.wr W8 (Or.inl (List.mem_of_getElem? (i := 0) rfl)))
  have V8 := Arv.set Ar7 q7 S7 M7 HH7 GG7 rfl W8 2 rfl (Nat.le_of_ble_eq_true rfl)
  obtain ⟨cl9, Ar9, q9, S9, M9, HH9, GG9⟩ := id V8
  have hin9 : ¬ ((3 : Int32) < 0 ∨ cl9.slots.size ≤ ((3 : Int32)).toNatClampNeg) := inb_of S9 ⟨by decide, by decide⟩
  obtain ⟨T10, h10, X10, e10, W10, st10⟩ := stJ X8 hx hZ e8 Ar9 (j := (3 : Int32)) hin9 (g := (mkF m 20 #[vr o0, vi 0, vi 4, vl 0, sd, vi 3] [(.long (0 : Int64)), (.int (3 : Int32)), (.ref o0)])) rfl rfl (hb hby da_20)
  have N10 := Fr.snoc X10 N8 g_o0
  have Z10 : n0 ≤ h10.size := by rw [W10.size]; exact Z8
  have K10 := (K8.wr W10 (Or.inl (List.mem_of_getElem? (i := 0) rfl)))
  have V10 := Arv.set Ar9 q9 S9 M9 HH9 GG9 rfl W10 3 rfl (Nat.le_of_ble_eq_true rfl)
  subst hEN
  obtain ⟨lfs, lhr, lhrun, lhended, lhW, lhsame⟩ := X10.leave (v := none) (fun _ => rfl)
  refine ⟨_, _, pre0 _ ?_, lhrun, lhended, _, _, rfl, ?_, ⟨_, rfl⟩, lhW, lhsame.mono (by decide) (by decide)⟩
  · skip
    refine XS.aloadN X0.here hx rfl (hb hby da_0) rfl rfl ?_
    refine X0.arraylength hx (by (try rw [e0]); exact Ar1.1) (State.isArrayOf_alike hZ.alike Ar1.2.1) (g := (mkF m 1 #[vr o0, vi 0, vi 4, vl 0, sd, un] [(.ref o0)])) rfl rfl (hb hby da_1) _ ?_
    rw [len_of S1 M1]
    refine XS.iloadN X0.here hx rfl (hb hby da_2) rfl ?_
    refine XS.iloadN X0.here hx rfl (hb hby da_3) rfl ?_
    refine st2 _ ?_
    refine XS.iloadN X2.here hx rfl (hb hby da_7) rfl ?_
    refine XS.istore X2.here hx rfl (hb hby da_8) rfl (l' := #[vr o0, vi 0, vi 4, vl 0, sd, vi 0]) rfl ?_
    refine XS.iload X2.here hx rfl (hb hby da_10) rfl ?_
    refine XS.iloadN X2.here hx rfl (hb hby da_12) rfl ?_
    refine XS.icmpNo X2.here hx rfl (hb hby da_13) rfl (tlt (by decide : (0 : Int32) < (4 : Int32))).2.1 ?_
    refine XS.aloadN X2.here hx rfl (hb hby da_16) rfl rfl ?_
    refine XS.iload X2.here hx rfl (hb hby da_17) rfl ?_
    refine XS.lloadN X2.here hx rfl (hb hby da_19) rfl ?_
    show SS p e below T2 (mkF m 20 #[vr o0, vi 0, vi 4, vl 0, sd, vi 0] [(.long (0 : Int64)), (.int (0 : Int32)), (.ref o0)]) _
    refine st4 _ ?_
    refine XS.iinc X4.here hx rfl (hb hby da_21) rfl (l' := #[vr o0, vi 0, vi 4, vl 0, sd, vi 1]) rfl ?_
    refine XS.goto X4.here hx rfl (pc0 := 24) (pc' := 10) rfl (hb hby da_24) (by decide) (by decide) ?_
    refine XS.iload X4.here hx rfl (hb hby da_10) rfl ?_
    refine XS.iloadN X4.here hx rfl (hb hby da_12) rfl ?_
    refine XS.icmpNo X4.here hx rfl (hb hby da_13) rfl (tlt (by decide : (1 : Int32) < (4 : Int32))).2.1 ?_
    refine XS.aloadN X4.here hx rfl (hb hby da_16) rfl rfl ?_
    refine XS.iload X4.here hx rfl (hb hby da_17) rfl ?_
    refine XS.lloadN X4.here hx rfl (hb hby da_19) rfl ?_
    show SS p e below T4 (mkF m 20 #[vr o0, vi 0, vi 4, vl 0, sd, vi 1] [(.long (0 : Int64)), (.int (1 : Int32)), (.ref o0)]) _
    refine st6 _ ?_
    refine XS.iinc X6.here hx rfl (hb hby da_21) rfl (l' := #[vr o0, vi 0, vi 4, vl 0, sd, vi 2]) rfl ?_
    refine XS.goto X6.here hx rfl (pc0 := 24) (pc' := 10) rfl (hb hby da_24) (by decide) (by decide) ?_
    refine XS.iload X6.here hx rfl (hb hby da_10) rfl ?_
    refine XS.iloadN X6.here hx rfl (hb hby da_12) rfl ?_
    refine XS.icmpNo X6.here hx rfl (hb hby da_13) rfl (tlt (by decide : (2 : Int32) < (4 : Int32))).2.1 ?_
    refine XS.aloadN X6.here hx rfl (hb hby da_16) rfl rfl ?_
    refine XS.iload X6.here hx rfl (hb hby da_17) rfl ?_
    refine XS.lloadN X6.here hx rfl (hb hby da_19) rfl ?_
    show SS p e below T6 (mkF m 20 #[vr o0, vi 0, vi 4, vl 0, sd, vi 2] [(.long (0 : Int64)), (.int (2 : Int32)), (.ref o0)]) _
    refine st8 _ ?_
    refine XS.iinc X8.here hx rfl (hb hby da_21) rfl (l' := #[vr o0, vi 0, vi 4, vl 0, sd, vi 3]) rfl ?_
    refine XS.goto X8.here hx rfl (pc0 := 24) (pc' := 10) rfl (hb hby da_24) (by decide) (by decide) ?_
    refine XS.iload X8.here hx rfl (hb hby da_10) rfl ?_
    refine XS.iloadN X8.here hx rfl (hb hby da_12) rfl ?_
    refine XS.icmpNo X8.here hx rfl (hb hby da_13) rfl (tlt (by decide : (3 : Int32) < (4 : Int32))).2.1 ?_
    refine XS.aloadN X8.here hx rfl (hb hby da_16) rfl rfl ?_
    refine XS.iload X8.here hx rfl (hb hby da_17) rfl ?_
    refine XS.lloadN X8.here hx rfl (hb hby da_19) rfl ?_
    show SS p e below T8 (mkF m 20 #[vr o0, vi 0, vi 4, vl 0, sd, vi 3] [(.long (0 : Int64)), (.int (3 : Int32)), (.ref o0)]) _
    refine st10 _ ?_
    refine XS.iinc X10.here hx rfl (hb hby da_21) rfl (l' := #[vr o0, vi 0, vi 4, vl 0, sd, vi 4]) rfl ?_
    refine XS.goto X10.here hx rfl (pc0 := 24) (pc' := 10) rfl (hb hby da_24) (by decide) (by decide) ?_
    refine XS.iload X10.here hx rfl (hb hby da_10) rfl ?_
    refine XS.iloadN X10.here hx rfl (hb hby da_12) rfl ?_
    refine XS.icmpYes X10.here hx rfl (pc0 := 13) (pc' := 27) rfl (hb hby da_13) rfl (flt (by decide : ¬ ((4 : Int32) < (4 : Int32)))).2.1 (by decide) (by decide) ?_
    show SS p e below T10 (mkF m 27 #[vr o0, vi 0, vi 4, vl 0, sd, vi 4] []) _
    exact X10.returnOut hx Bd.returns (hb hby da_27) lhr
  · skip
    show QA23 Z o0 kk_o0 h0 n0 _ T10.heap _
    rw [e10]
    exact ⟨rfl, N10, K10, V10⟩
def QA18 (Z : State) (o0 : Addr) (y1 : Int64) (o2 : Addr) (kk_o2 : ClassId) (h0 : Heap) (n0 : Nat) (v : Option Value) (h : Heap) (L : List Loc) : Prop := ∃ (b10_0 : Addr) (b22_0 : Addr) (b34_0 : Addr) (kk_b10_0 : ClassId) (kk_b22_0 : ClassId) (kk_b34_0 : ClassId), v = some (.int (0 : Int32)) ∧ Fr n0 L ∧ Keep h0 h [o0] ∧ h0.size ≤ b10_0 ∧ h0.size ≤ b22_0 ∧ h0.size ≤ b34_0 ∧ b10_0 ≠ b22_0 ∧ b10_0 ≠ b34_0 ∧ b22_0 ≠ b34_0 ∧ Fld Z h o0 cn2 "end" "I" (.int (1 : Int32)) ∧ Fld Z h o0 cn2 "starts" "[J" (.ref b10_0) ∧ Fld Z h o0 cn2 "first" "I" (.int (0 : Int32)) ∧ Exa Z h o0 cn2 ∧ Arv Z h b10_0 kk_b10_0 .long (1 : Int32) [(.long y1)] (.long (0 : Int64)) ∧ Fld Z h o0 cn2 "records" "[J" (.ref b22_0) ∧ Fld Z h o0 cn2 "width" "I" (.int (4 : Int32)) ∧ Arv Z h b22_0 kk_b22_0 .long (4 : Int32) [(.long (0 : Int64)), (.long (0 : Int64)), (.long (0 : Int64)), (.long (0 : Int64))] (.long (0 : Int64)) ∧ Fld Z h o0 cn2 "decidedAt" "[J" (.ref b34_0) ∧ Arv Z h b34_0 kk_b34_0 .long (1 : Int32) [(.long (0 : Int64))] (.long (0 : Int64))
set_option maxRecDepth 65536 in
set_option maxHeartbeats 40000000 in
theorem rmA18 (l : Launch) (Z : State) (a0 : Array Value) (hw : ∀ d ∈ tables_1, d.before a0 Z = true) (ws : List Jvm.Cond) (o0 : Addr) (y1 : Int64) (o2 : Addr) (kk_o2 : ClassId) (h0 : Heap) (n0 : Nat) (Z0 : n0 ≤ h0.size) (F_o0_end : Fld Z h0 o0 cn2 "end" "I" (.int (0 : Int32))) (F_o0_starts : Fld Z h0 o0 cn2 "starts" "[J" (.ref o2)) (V_o2 : Arv Z h0 o2 kk_o2 .long (0 : Int32) [] (.long (0 : Int64))) (F_o0_first : Fld Z h0 o0 cn2 "first" "I" (.int (0 : Int32))) (E_o0 : Exa Z h0 o0 cn2) (g_o0 : n0 ≤ o0) (F_o0_records : Fld Z h0 o0 cn2 "records" "[J" (.ref o2)) (F_o0_width : Fld Z h0 o0 cn2 "width" "I" (.int (4 : Int32))) (ne_o2_o0 : o2 ≠ o0) (F_o0_decidedAt : Fld Z h0 o0 cn2 "decidedAt" "[J" (.ref o2)) :
    MetFree l mn4 (head1 (Jvm.Cond.code mn4 prog_23_method_7_code 7 (some .int) :: ws) ({ frames := 2, cells := 3, slots := 6, locals := 53 } : Room)) (fun a U => a = #[(.ref o0), (.int (0 : Int32)), (.long y1)] ∧ Z.Warmed39 U.vm ∧ U.heap = h0) (fun _ _ _ _ _ => True) (fun _ U oc_ U' => ∃ v L, oc_ = .returned v ∧ QA18 Z o0 y1 o2 kk_o2 h0 n0 v U'.heap L ∧ FrameEnd U oc_ U' L ({ frames := 2, cells := 3, slots := 6, locals := 53 } : Room).cells ({ frames := 2, cells := 3, slots := 6, locals := 53 } : Room).slots) := by
  refine MetFree.of_bodySF (plainFor_of_name pn_com_example_strict_limiter_strictlimiter_KeptWindows) hisR ?_
  intro p e s m args below meth c s₁ Bd hml0 hP hK
  obtain ⟨rfl, hZ, hh⟩ := hP
  have hx := Bd.exec
  have hby := Bd.bytes
  have hml : c.maxLocals = 7 := hml0
  have hown : s.vm.findClass cn2 = some m.cls := findClass_of_methodNamed Bd.named
  have hnm := (name_of_methodNamed Bd.named Bd.method).1
  have X0 : Stand p l e ({ frames := 2, cells := 3, slots := 6, locals := 53 } : Room) s m #[(.ref o0), (.int (0 : Int32)), (.long y1)] below meth c s₁ [] 0 0 := Stand.of_body Bd
  have e0 : s₁.heap = h0 := by rw [← hh, Bd.state]; rfl
  have N0 := Fr.nil n0
  have pre0 : ∀ t, SS p e below s₁ (mkF m 0 #[vr o0, vi 0, vl y1, sd, un, un, un] []) t → Steps p.tables e below (s₁.setTop (entryFrame m #[(.ref o0), (.int (0 : Int32)), (.long y1)] 7)) t := fun t k => castTop (efa_prog_23_method_7_code_vvv m o0 (0 : Int32) y1) k
  obtain ⟨EN, hEN⟩ : ∃ z, z = s₁.setTop (entryFrame m #[(.ref o0), (.int (0 : Int32)), (.long y1)] 7) := ⟨_, rfl⟩
  rw [← hEN] at pre0
  obtain ⟨T1, X1, e1, st1⟩ := getF X0 hx hZ hown (wf26 hw) Via.refl e0 F_o0_end (g := (mkF m 4 #[vr o0, vi 0, vl y1, sd, vi 0, un, un] [(.ref o0)])) rfl rfl (hb hby dn_4)
  obtain ⟨T2, X2, e2, st2⟩ := getF X1 hx hZ hown (wf11 hw) Via.refl e1 F_o0_starts (g := (mkF m 8 #[vr o0, vi 0, vl y1, sd, vi 0, un, un] [(.ref o0), (.int (0 : Int32))])) rfl rfl (hb hby dn_8)
  obtain ⟨cl3, Ar3, -, S3, M3, -, -⟩ := id V_o2
  obtain ⟨T4, X4, e4, st4⟩ := getF X2 hx hZ hown (wf26 hw) Via.refl e2 F_o0_end (g := (mkF m 16 #[vr o0, vi 0, vl y1, sd, vi 0, un, un] [(.ref o0)])) rfl rfl (hb hby dn_16)
  obtain ⟨T5, X5, e5, st5⟩ := getF X4 hx hZ hown (wf24 hw) Via.refl e4 F_o0_first (g := (mkF m 20 #[vr o0, vi 0, vl y1, sd, vi 0, un, un] [(.ref o0), (.int (0 : Int32))])) rfl rfl (hb hby dn_20)
  obtain ⟨T6, X6, e6, st6⟩ := getF X5 hx hZ hown (wf11 hw) Via.refl e5 F_o0_starts (g := (mkF m 29 #[vr o0, vi 0, vl y1, sd, vi 0, vi 0, un] [(.ref o0), (.int (0 : Int32))])) rfl rfl (hb hby dn_29)
  obtain ⟨cl7, Ar7, -, S7, M7, -, -⟩ := id V_o2
  obtain ⟨_, _, ⟨T8, L8, kc8, ks8⟩, -, X8, ⟨Lc8, hQ8, l8, y8, z8⟩, st8⟩ := Jvm.LawKit.callS X6 hx (y := mn7) hown (mvT hZ (wd49 hw)) (mvT hZ (wd50 hw)) (mvT hZ (wd51 hw)) (mvT hZ (wd52 hw)) (by decide) (backOf (W := 0) (rmA8 l Z a0 hw []  h0 n0 Z0 ) hZ (wd52 hw) (wd51 hw) (by decide) (by decide)) (g := (mkF m 41 #[vr o0, vi 0, vl y1, sd, vi 0, vi 0, un] [(.int (0 : Int32)), (.int (1 : Int32))])) rfl (by rw [hml]; rfl) (argsL := [(.int (1 : Int32)), (.int (0 : Int32))]) (rest := []) (lenOf pd__II_I rfl) rfl (by show 2 * 0 + _ ≤ _; exact Nat.le_of_eq rfl) (hb hby dn_41) (fun _ _ => ⟨rfl, e6, (by decide : 0 + 0 ≤ _), (by decide : 0 + 0 ≤ _)⟩)
  dsimp only [Pt.U, Pt.locs, Pt.cells, Pt.slots] at X8 l8 y8 z8 st8 hQ8
  subst l8 y8 z8
  obtain ⟨rfl, Nq8, eq8⟩ := hQ8
  have N8 := Fr.app N0 Nq8
  obtain ⟨T9, X9, e9, st9⟩ := getF X8 hx hZ hown (wf11 hw) Via.refl eq8 F_o0_starts (g := (mkF m 57 #[vr o0, vi 0, vl y1, sd, vi 0, vi 0, vi 1] [(.ref o0), (.ref o0), (.ref o0)])) rfl rfl (hb hby dn_57)
  obtain ⟨cq10, q10, q10'⟩ := E_o0.cell
  obtain ⟨_, _, ⟨T10, L10, kc10, ks10⟩, -, X10, ⟨Lc10, hQ10, l10, y10, z10⟩, st10⟩ := X9.privateBack hx (y := mn5) hown (mvT hZ (wd53 hw)) (mvT hZ (wd54 hw)) (own_selPriv (mvT hZ (wd1 hw)) (Cond.privateMethod_at (mvP hZ (wd55 hw) (args := #[]))) (mvT hZ (wd54 hw)) (by decide)) (Cond.privateMethod_at (mvP hZ (wd55 hw) (args := #[]))) (mvT hZ (wd56 hw)) (by decide) (backOf (W := 1) (rmA9 l Z a0 hw [] o0 o2 _ h0 n0 Z0 F_o0_first F_o0_end V_o2) hZ (wd56 hw) (wd2 hw) (by decide) (by decide)) (g := (mkF m 63 #[vr o0, vi 0, vl y1, sd, vi 0, vi 0, vi 1] [(.int (1 : Int32)), (.int (1 : Int32)), (.ref o2), (.ref o0), (.ref o0)])) rfl (by rw [hml]; rfl) (Steps.refl _) (a := o0) (by rw [e9]; exact q10) q10' (argsL := [(.ref o2), (.int (1 : Int32)), (.int (1 : Int32))]) (rest := [(.ref o0)]) (lenOf pd___JII__J rfl) rfl (by show 2 * 0 + _ ≤ _; exact Nat.le_of_eq rfl) (hb hby dn_63) (fun _ _ => ⟨rfl, e9, (by decide : 0 + 1 ≤ _), (by decide : 0 + 1 ≤ _)⟩)
  dsimp only [Pt.U, Pt.locs, Pt.cells, Pt.slots] at X10 l10 y10 z10 st10 hQ10
  subst l10 y10 z10
  obtain ⟨b10_0, kv10_1, rfl, Nq10, Kq10, sz10_0, g10_0⟩ := hQ10
  have N10 := Fr.app N8 Nq10
  have Z10 := Nat.le_trans Z0 Kq10.1
  have K10 : Keep h0 T10.heap [o0] := Keep.trans (Keep.refl h0 [o0]) Kq10 all0
  have ne_o0_b10_0 := own_ne F_o0_end.lt sz10_0
  have ne_o2_b10_0 := own_ne V_o2.lt sz10_0
  have ge_b10_0 := Nat.le_trans Z0 sz10_0
  have sz_b10_0 : h0.size ≤ b10_0 := Nat.le_trans (Nat.le_refl _) sz10_0
  have f11 := (E_o0.keep Kq10)
  have f12 := (F_o0_starts.keep Kq10 nin0)
  obtain ⟨T13, h13, X13, e13, W13, st13⟩ := putF X10 hx hZ hown (wf11 hw) Via.refl rfl f12 f11 (Or.inl (wd12 hw)) (wd1 hw) (ty := (.array .long)) (by decide) rfl rfl (g := (mkF m 66 #[vr o0, vi 0, vl y1, sd, vi 0, vi 0, vi 1] [(.ref b10_0), (.ref o0)])) rfl rfl (hb hby dn_66)
  have N13 := Fr.snoc X13 N10 g_o0
  have Z13 : n0 ≤ h13.size := by rw [W13.size]; exact Z10
  have K13 := (K10.wr W13 (Or.inl (List.mem_of_getElem? (i := 0) rfl)))
  have Fw13 := f12.same W13
  have f14 := ((F_o0_records.keep Kq10 nin0).other W13 (Or.inr (sn5 hw)))
  obtain ⟨T15, X15, e15, st15⟩ := getF X13 hx hZ hown (wf13 hw) Via.refl e13 f14 (g := (mkF m 72 #[vr o0, vi 0, vl y1, sd, vi 0, vi 0, vi 1] [(.ref o0), (.ref o0), (.ref o0)])) rfl rfl (hb hby dn_72)
  have f16 := ((F_o0_width.keep Kq10 nin0).other W13 (Or.inr (sn25 hw)))
  obtain ⟨T17, X17, e17, st17⟩ := getF X15 hx hZ hown (wf17 hw) Via.refl e15 f16 (g := (mkF m 76 #[vr o0, vi 0, vl y1, sd, vi 0, vi 0, vi 1] [(.ref o0), (.ref o2), (.ref o0), (.ref o0)])) rfl rfl (hb hby dn_76)
  have f18 := ((F_o0_first.keep Kq10 nin0).other W13 (Or.inr (sn15 hw)))
  have f19 := ((F_o0_end.keep Kq10 nin0).other W13 (Or.inr (sn20 hw)))
  have f20 := ((V_o2.keep Kq10 nin0).other W13 ne_o2_o0)
  have f21 := (g10_0.other W13 (Ne.symm ne_o0_b10_0))
  have f23 := (f11.wr W13)
  obtain ⟨cq22, q22, q22'⟩ := f23.cell
  obtain ⟨_, _, ⟨T22, L22, kc22, ks22⟩, -, X22, ⟨Lc22, hQ22, l22, y22, z22⟩, st22⟩ := X17.privateBack hx (y := mn5) hown (mvT hZ (wd53 hw)) (mvT hZ (wd54 hw)) (own_selPriv (mvT hZ (wd1 hw)) (Cond.privateMethod_at (mvP hZ (wd55 hw) (args := #[]))) (mvT hZ (wd54 hw)) (by decide)) (Cond.privateMethod_at (mvP hZ (wd55 hw) (args := #[]))) (mvT hZ (wd56 hw)) (by decide) (backOf (W := 1) (rmA21 l Z a0 hw [] o0 o2 _ h13 n0 Z13 f18 f19 f20) hZ (wd56 hw) (wd2 hw) (by decide) (by decide)) (g := (mkF m 81 #[vr o0, vi 0, vl y1, sd, vi 0, vi 0, vi 1] [(.int (1 : Int32)), (.int (4 : Int32)), (.ref o2), (.ref o0), (.ref o0)])) rfl (by rw [hml]; rfl) (Steps.refl _) (a := o0) (by rw [e17]; exact q22) q22' (argsL := [(.ref o2), (.int (4 : Int32)), (.int (1 : Int32))]) (rest := [(.ref o0)]) (lenOf pd___JII__J rfl) rfl (by show 2 * 0 + _ ≤ _; exact Nat.le_of_eq rfl) (hb hby dn_81) (fun _ _ => ⟨rfl, e17, (by decide : 1 + 1 ≤ _), (by decide : 1 + 4 ≤ _)⟩)
  dsimp only [Pt.U, Pt.locs, Pt.cells, Pt.slots] at X22 l22 y22 z22 st22 hQ22
  subst l22 y22 z22
  obtain ⟨b22_0, kv22_1, rfl, Nq22, Kq22, sz22_0, g22_0⟩ := hQ22
  have N22 := Fr.app N13 Nq22
  have Z22 := Nat.le_trans Z13 Kq22.1
  have K22 := Keep.trans K13 Kq22 all0
  have ne_o0_b22_0 := own_ne f19.lt sz22_0
  have ne_o2_b22_0 := own_ne f20.lt sz22_0
  have ne_b10_0_b22_0 := own_ne f21.lt sz22_0
  have ge_b22_0 := Nat.le_trans Z13 sz22_0
  have sz_b22_0 := Nat.le_trans K13.1 sz22_0
  have f24 := (f23.keep Kq22)
  have f25 := (f14.keep Kq22 nin0)
  obtain ⟨T26, h26, X26, e26, W26, st26⟩ := putF X22 hx hZ hown (wf13 hw) Via.refl rfl f25 f24 (Or.inl (wd14 hw)) (wd1 hw) (ty := (.array .long)) (by decide) rfl rfl (g := (mkF m 84 #[vr o0, vi 0, vl y1, sd, vi 0, vi 0, vi 1] [(.ref b22_0), (.ref o0)])) rfl rfl (hb hby dn_84)
  have N26 := Fr.snoc X26 N22 g_o0
  have Z26 : n0 ≤ h26.size := by rw [W26.size]; exact Z22
  have K26 := (K22.wr W26 (Or.inl (List.mem_of_getElem? (i := 0) rfl)))
  have Fw26 := f25.same W26
  have f27 := ((((F_o0_decidedAt.keep Kq10 nin0).other W13 (Or.inr (sn10 hw))).keep Kq22 nin0).other W26 (Or.inr (sn11 hw)))
  obtain ⟨T28, X28, e28, st28⟩ := getF X26 hx hZ hown (wf15 hw) Via.refl e26 f27 (g := (mkF m 90 #[vr o0, vi 0, vl y1, sd, vi 0, vi 0, vi 1] [(.ref o0), (.ref o0), (.ref o0)])) rfl rfl (hb hby dn_90)
  have f29 := ((f18.keep Kq22 nin0).other W26 (Or.inr (sn16 hw)))
  have f30 := ((f19.keep Kq22 nin0).other W26 (Or.inr (sn21 hw)))
  have f31 := ((f20.keep Kq22 nin0).other W26 ne_o2_o0)
  have f32 := ((f21.keep Kq22 nin0).other W26 (Ne.symm ne_o0_b10_0))
  have f33 := (g22_0.other W26 (Ne.symm ne_o0_b22_0))
  have f35 := (f24.wr W26)
  obtain ⟨cq34, q34, q34'⟩ := f35.cell
  obtain ⟨_, _, ⟨T34, L34, kc34, ks34⟩, -, X34, ⟨Lc34, hQ34, l34, y34, z34⟩, st34⟩ := X28.privateBack hx (y := mn5) hown (mvT hZ (wd53 hw)) (mvT hZ (wd54 hw)) (own_selPriv (mvT hZ (wd1 hw)) (Cond.privateMethod_at (mvP hZ (wd55 hw) (args := #[]))) (mvT hZ (wd54 hw)) (by decide)) (Cond.privateMethod_at (mvP hZ (wd55 hw) (args := #[]))) (mvT hZ (wd56 hw)) (by decide) (backOf (W := 1) (rmA9 l Z a0 hw [] o0 o2 _ h26 n0 Z26 f29 f30 f31) hZ (wd56 hw) (wd2 hw) (by decide) (by decide)) (g := (mkF m 96 #[vr o0, vi 0, vl y1, sd, vi 0, vi 0, vi 1] [(.int (1 : Int32)), (.int (1 : Int32)), (.ref o2), (.ref o0), (.ref o0)])) rfl (by rw [hml]; rfl) (Steps.refl _) (a := o0) (by rw [e28]; exact q34) q34' (argsL := [(.ref o2), (.int (1 : Int32)), (.int (1 : Int32))]) (rest := [(.ref o0)]) (lenOf pd___JII__J rfl) rfl (by show 2 * 0 + _ ≤ _; exact Nat.le_of_eq rfl) (hb hby dn_96) (fun _ _ => ⟨rfl, e28, (by decide : 2 + 1 ≤ _), (by decide : 5 + 1 ≤ _)⟩)
  dsimp only [Pt.U, Pt.locs, Pt.cells, Pt.slots] at X34 l34 y34 z34 st34 hQ34
  subst l34 y34 z34
  obtain ⟨b34_0, kv34_1, rfl, Nq34, Kq34, sz34_0, g34_0⟩ := hQ34
  have N34 := Fr.app N26 Nq34
  have Z34 := Nat.le_trans Z26 Kq34.1
  have K34 := Keep.trans K26 Kq34 all0
  have ne_o0_b34_0 := own_ne f30.lt sz34_0
  have ne_o2_b34_0 := own_ne f31.lt sz34_0
  have ne_b10_0_b34_0 := own_ne f32.lt sz34_0
  have ne_b22_0_b34_0 := own_ne f33.lt sz34_0
  have ge_b34_0 := Nat.le_trans Z26 sz34_0
  have sz_b34_0 := Nat.le_trans K26.1 sz34_0
  have f36 := (f35.keep Kq34)
  have f37 := (f27.keep Kq34 nin0)
  obtain ⟨T38, h38, X38, e38, W38, st38⟩ := putF X34 hx hZ hown (wf15 hw) Via.refl rfl f37 f36 (Or.inl (wd16 hw)) (wd1 hw) (ty := (.array .long)) (by decide) rfl rfl (g := (mkF m 99 #[vr o0, vi 0, vl y1, sd, vi 0, vi 0, vi 1] [(.ref b34_0), (.ref o0)])) rfl rfl (hb hby dn_99)
  have N38 := Fr.snoc X38 N34 g_o0
  have Z38 : n0 ≤ h38.size := by rw [W38.size]; exact Z34
  have K38 := (K34.wr W38 (Or.inl (List.mem_of_getElem? (i := 0) rfl)))
  have Fw38 := f37.same W38
  have f39 := ((f29.keep Kq34 nin0).other W38 (Or.inr (sn17 hw)))
  obtain ⟨T40, X40, e40, st40⟩ := getF X38 hx hZ hown (wf24 hw) Via.refl e38 f39 (g := (mkF m 105 #[vr o0, vi 0, vl y1, sd, vi 0, vi 0, vi 1] [(.ref o0), (.int (0 : Int32))])) rfl rfl (hb hby dn_105)
  have f41 := (f36.wr W38)
  obtain ⟨T42, h42, X42, e42, W42, st42⟩ := putF X40 hx hZ hown (wf24 hw) Via.refl e40 f39 f41 (Or.inl (wd25 hw)) (wd1 hw) (ty := .int) (by decide) rfl rfl (g := (mkF m 113 #[vr o0, vi 0, vl y1, sd, vi 0, vi 0, vi 1] [(.int (0 : Int32)), (.ref o0)])) rfl rfl (hb hby dn_113)
  have N42 := Fr.snoc X42 N38 g_o0
  have Z42 : n0 ≤ h42.size := by rw [W42.size]; exact Z38
  have K42 := (K38.wr W42 (Or.inl (List.mem_of_getElem? (i := 0) rfl)))
  have Fw42 := f39.same W42
  have f43 := (f41.wr W42)
  have f44 := (((f30.keep Kq34 nin0).other W38 (Or.inr (sn22 hw))).other W42 (Or.inr (sn23 hw)))
  obtain ⟨T45, h45, X45, e45, W45, st45⟩ := putF X42 hx hZ hown (wf26 hw) Via.refl e42 f44 f43 (Or.inl (wd27 hw)) (wd1 hw) (ty := .int) (by decide) rfl rfl (g := (mkF m 119 #[vr o0, vi 0, vl y1, sd, vi 0, vi 0, vi 1] [(.int (0 : Int32)), (.ref o0)])) rfl rfl (hb hby dn_119)
  have N45 := Fr.snoc X45 N42 g_o0
  have Z45 : n0 ≤ h45.size := by rw [W45.size]; exact Z42
  have K45 := (K42.wr W45 (Or.inl (List.mem_of_getElem? (i := 0) rfl)))
  have Fw45 := f44.same W45
  have f46 := ((((((Fw13.keep Kq22 nin0).other W26 (Or.inr (sn0 hw))).keep Kq34 nin0).other W38 (Or.inr (sn1 hw))).other W42 (Or.inr (sn2 hw))).other W45 (Or.inr (sn3 hw)))
  obtain ⟨T47, X47, e47, st47⟩ := getF X45 hx hZ hown (wf11 hw) Via.refl e45 f46 (g := (mkF m 123 #[vr o0, vi 0, vl y1, sd, vi 0, vi 0, vi 1] [(.ref o0)])) rfl rfl (hb hby dn_123)
  obtain ⟨T48, X48, e48, st48⟩ := getF X47 hx hZ hown (wf11 hw) Via.refl e47 f46 (g := (mkF m 129 #[vr o0, vi 0, vl y1, sd, vi 0, vi 0, vi 1] [(.ref o0), (.int (0 : Int32)), (.ref b10_0)])) rfl rfl (hb hby dn_129)
  obtain ⟨T49, X49, e49, st49⟩ := getF X48 hx hZ hown (wf26 hw) Via.refl e48 Fw45 (g := (mkF m 137 #[vr o0, vi 0, vl y1, sd, vi 0, vi 0, vi 1] [(.ref o0), (.int (1 : Int32)), (.ref b10_0), (.int (0 : Int32)), (.ref b10_0)])) rfl rfl (hb hby dn_137)
  have f50 := ((((f32.keep Kq34 nin0).other W38 (Ne.symm ne_o0_b10_0)).other W42 (Ne.symm ne_o0_b10_0)).other W45 (Ne.symm ne_o0_b10_0))
  obtain ⟨T51, h51, Lq51, X51, e51, Nq51, Kq51, Vq51, st51⟩ := cpA X49 hx hZ hown (wd58 hw) (wd61 hw) (wd59 hw) (wd60 hw) e49 (us := []) f50 f50 (Or.inl ⟨rfl, rfl⟩) (by decide) (by decide) (by decide) (by first | decide | exact Nat.le_of_ble_eq_true rfl) (by first | decide | exact Nat.le_of_ble_eq_true rfl) (by rfl) (by first | decide | exact Nat.le_of_ble_eq_true rfl) N45 ge_b10_0 (g := (mkF m 143 #[vr o0, vi 0, vl y1, sd, vi 0, vi 0, vi 1] [(.int (0 : Int32)), (.int (1 : Int32)), (.ref b10_0), (.int (0 : Int32)), (.ref b10_0)])) rfl (by rw [hml]; rfl) rfl (hb hby dn_143) (by decide) (W := 0) (by show 2 * 0 + _ ≤ _; exact Nat.le_of_eq rfl) (by decide)
  have Z51 := Nat.le_trans Z45 Kq51.1
  have K51 := Keep.trans K45 Kq51 (allS (Or.inr sz_b10_0) all0)
  have V51 : Arv Z h51 b10_0 _ .long (1 : Int32) [(.long (0 : Int64))] (.long (0 : Int64)) := Vq51
  have f52 := (((((Fw26.keep Kq34 nin0).other W38 (Or.inr (sn6 hw))).other W42 (Or.inr (sn7 hw))).other W45 (Or.inr (sn8 hw))).keep Kq51 (ninS ne_o0_b10_0 nin0))
  obtain ⟨T53, X53, e53, st53⟩ := getF X51 hx hZ hown (wf13 hw) Via.refl e51 f52 (g := (mkF m 147 #[vr o0, vi 0, vl y1, sd, vi 0, vi 0, vi 1] [(.ref o0)])) rfl rfl (hb hby dn_147)
  have f54 := (((((((f16.keep Kq22 nin0).other W26 (Or.inr (sn26 hw))).keep Kq34 nin0).other W38 (Or.inr (sn27 hw))).other W42 (Or.inr (sn28 hw))).other W45 (Or.inr (sn29 hw))).keep Kq51 (ninS ne_o0_b10_0 nin0))
  obtain ⟨T55, X55, e55, st55⟩ := getF X53 hx hZ hown (wf17 hw) Via.refl e53 f54 (g := (mkF m 153 #[vr o0, vi 0, vl y1, sd, vi 0, vi 0, vi 1] [(.ref o0), (.int (0 : Int32)), (.ref b22_0)])) rfl rfl (hb hby dn_153)
  obtain ⟨T56, X56, e56, st56⟩ := getF X55 hx hZ hown (wf13 hw) Via.refl e55 f52 (g := (mkF m 158 #[vr o0, vi 0, vl y1, sd, vi 0, vi 0, vi 1] [(.ref o0), (.int (0 : Int32)), (.ref b22_0)])) rfl rfl (hb hby dn_158)
  obtain ⟨T57, X57, e57, st57⟩ := getF X56 hx hZ hown (wf17 hw) Via.refl e56 f54 (g := (mkF m 166 #[vr o0, vi 0, vl y1, sd, vi 0, vi 0, vi 1] [(.ref o0), (.int (1 : Int32)), (.ref b22_0), (.int (0 : Int32)), (.ref b22_0)])) rfl rfl (hb hby dn_166)
  have f58 := (Fw45.keep Kq51 (ninS ne_o0_b10_0 nin0))
  obtain ⟨T59, X59, e59, st59⟩ := getF X57 hx hZ hown (wf26 hw) Via.refl e57 f58 (g := (mkF m 171 #[vr o0, vi 0, vl y1, sd, vi 0, vi 0, vi 1] [(.ref o0), (.int (4 : Int32)), (.ref b22_0), (.int (0 : Int32)), (.ref b22_0)])) rfl rfl (hb hby dn_171)
  obtain ⟨T60, X60, e60, st60⟩ := getF X59 hx hZ hown (wf17 hw) Via.refl e59 f54 (g := (mkF m 178 #[vr o0, vi 0, vl y1, sd, vi 0, vi 0, vi 1] [(.ref o0), (.int (0 : Int32)), (.int (4 : Int32)), (.ref b22_0), (.int (0 : Int32)), (.ref b22_0)])) rfl rfl (hb hby dn_178)
  have f61 := (((((f33.keep Kq34 nin0).other W38 (Ne.symm ne_o0_b22_0)).other W42 (Ne.symm ne_o0_b22_0)).other W45 (Ne.symm ne_o0_b22_0)).keep Kq51 (ninS (Ne.symm ne_b10_0_b22_0) nin0))
  obtain ⟨T62, h62, Lq62, X62, e62, Nq62, Kq62, Vq62, st62⟩ := cpA X60 hx hZ hown (wd58 hw) (wd61 hw) (wd59 hw) (wd60 hw) e60 (us := []) f61 f61 (Or.inl ⟨rfl, rfl⟩) (by decide) (by decide) (by decide) (by first | decide | exact Nat.le_of_ble_eq_true rfl) (by first | decide | exact Nat.le_of_ble_eq_true rfl) (by rfl) (by first | decide | exact Nat.le_of_ble_eq_true rfl) Nq51 ge_b22_0 (g := (mkF m 182 #[vr o0, vi 0, vl y1, sd, vi 0, vi 0, vi 1] [(.int (0 : Int32)), (.int (4 : Int32)), (.ref b22_0), (.int (0 : Int32)), (.ref b22_0)])) rfl (by rw [hml]; rfl) rfl (hb hby dn_182) (by decide) (W := 0) (by show 2 * 0 + _ ≤ _; exact Nat.le_of_eq rfl) (by decide)
  have Z62 := Nat.le_trans Z51 Kq62.1
  have K62 := Keep.trans K51 Kq62 (allS (Or.inr sz_b22_0) all0)
  have V62 : Arv Z h62 b22_0 _ .long (4 : Int32) [(.long (0 : Int64)), (.long (0 : Int64)), (.long (0 : Int64)), (.long (0 : Int64))] (.long (0 : Int64)) := Vq62
  have f63 := ((((Fw38.other W42 (Or.inr (sn12 hw))).other W45 (Or.inr (sn13 hw))).keep Kq51 (ninS ne_o0_b10_0 nin0)).keep Kq62 (ninS ne_o0_b22_0 nin0))
  obtain ⟨T64, X64, e64, st64⟩ := getF X62 hx hZ hown (wf15 hw) Via.refl e62 f63 (g := (mkF m 186 #[vr o0, vi 0, vl y1, sd, vi 0, vi 0, vi 1] [(.ref o0)])) rfl rfl (hb hby dn_186)
  obtain ⟨T65, X65, e65, st65⟩ := getF X64 hx hZ hown (wf15 hw) Via.refl e64 f63 (g := (mkF m 192 #[vr o0, vi 0, vl y1, sd, vi 0, vi 0, vi 1] [(.ref o0), (.int (0 : Int32)), (.ref b34_0)])) rfl rfl (hb hby dn_192)
  have f66 := (f58.keep Kq62 (ninS ne_o0_b22_0 nin0))
  obtain ⟨T67, X67, e67, st67⟩ := getF X65 hx hZ hown (wf26 hw) Via.refl e65 f66 (g := (mkF m 200 #[vr o0, vi 0, vl y1, sd, vi 0, vi 0, vi 1] [(.ref o0), (.int (1 : Int32)), (.ref b34_0), (.int (0 : Int32)), (.ref b34_0)])) rfl rfl (hb hby dn_200)
  have f68 := (((((g34_0.other W38 (Ne.symm ne_o0_b34_0)).other W42 (Ne.symm ne_o0_b34_0)).other W45 (Ne.symm ne_o0_b34_0)).keep Kq51 (ninS (Ne.symm ne_b10_0_b34_0) nin0)).keep Kq62 (ninS (Ne.symm ne_b22_0_b34_0) nin0))
  obtain ⟨T69, h69, Lq69, X69, e69, Nq69, Kq69, Vq69, st69⟩ := cpA X67 hx hZ hown (wd58 hw) (wd61 hw) (wd59 hw) (wd60 hw) e67 (us := []) f68 f68 (Or.inl ⟨rfl, rfl⟩) (by decide) (by decide) (by decide) (by first | decide | exact Nat.le_of_ble_eq_true rfl) (by first | decide | exact Nat.le_of_ble_eq_true rfl) (by rfl) (by first | decide | exact Nat.le_of_ble_eq_true rfl) Nq62 ge_b34_0 (g := (mkF m 206 #[vr o0, vi 0, vl y1, sd, vi 0, vi 0, vi 1] [(.int (0 : Int32)), (.int (1 : Int32)), (.ref b34_0), (.int (0 : Int32)), (.ref b34_0)])) rfl (by rw [hml]; rfl) rfl (hb hby dn_206) (by decide) (W := 0) (by show 2 * 0 + _ ≤ _; exact Nat.le_of_eq rfl) (by decide)
  have Z69 := Nat.le_trans Z62 Kq69.1
  have K69 := Keep.trans K62 Kq69 (allS (Or.inr sz_b34_0) all0)
  have V69 : Arv Z h69 b34_0 _ .long (1 : Int32) [(.long (0 : Int64))] (.long (0 : Int64)) := Vq69
  have f70 := (((f46.keep Kq51 (ninS ne_o0_b10_0 nin0)).keep Kq62 (ninS ne_o0_b22_0 nin0)).keep Kq69 (ninS ne_o0_b34_0 nin0))
  obtain ⟨T71, X71, e71, st71⟩ := getF X69 hx hZ hown (wf11 hw) Via.refl e69 f70 (g := (mkF m 210 #[vr o0, vi 0, vl y1, sd, vi 0, vi 0, vi 1] [(.ref o0)])) rfl rfl (hb hby dn_210)
  have f72 := ((V51.keep Kq62 (ninS ne_b10_0_b22_0 nin0)).keep Kq69 (ninS ne_b10_0_b34_0 nin0))
  obtain ⟨cl73, Ar73, q73, S73, M73, HH73, GG73⟩ := id f72
  have hin73 : ¬ ((0 : Int32) < 0 ∨ cl73.slots.size ≤ ((0 : Int32)).toNatClampNeg) := inb_of S73 ⟨by decide, by decide⟩
  obtain ⟨T74, h74, X74, e74, W74, st74⟩ := stJ X71 hx hZ e71 Ar73 (j := (0 : Int32)) hin73 (g := (mkF m 216 #[vr o0, vi 0, vl y1, sd, vi 0, vi 0, vi 1] [(.long y1), (.int (0 : Int32)), (.ref b10_0)])) rfl rfl (hb hby dn_216)
  have N74 := Fr.snoc X74 Nq69 ge_b10_0
  have Z74 : n0 ≤ h74.size := by rw [W74.size]; exact Z69
  have K74 := (K69.wr W74 (Or.inr sz_b10_0))
  have V74 := Arv.set Ar73 q73 S73 M73 HH73 GG73 rfl W74 0 rfl (Nat.le_of_ble_eq_true rfl)
  have f75 := (((f52.keep Kq62 (ninS ne_o0_b22_0 nin0)).keep Kq69 (ninS ne_o0_b34_0 nin0)).other W74 (Or.inl ne_o0_b10_0))
  obtain ⟨T76, X76, e76, st76⟩ := getF X74 hx hZ hown (wf13 hw) Via.refl e74 f75 (g := (mkF m 218 #[vr o0, vi 0, vl y1, sd, vi 0, vi 0, vi 1] [(.ref o0)])) rfl rfl (hb hby dn_218)
  have f77 := (((f54.keep Kq62 (ninS ne_o0_b22_0 nin0)).keep Kq69 (ninS ne_o0_b34_0 nin0)).other W74 (Or.inl ne_o0_b10_0))
  obtain ⟨T78, X78, e78, st78⟩ := getF X76 hx hZ hown (wf17 hw) Via.refl e76 f77 (g := (mkF m 224 #[vr o0, vi 0, vl y1, sd, vi 0, vi 0, vi 1] [(.ref o0), (.int (0 : Int32)), (.ref b22_0)])) rfl rfl (hb hby dn_224)
  obtain ⟨T79, X79, e79, st79⟩ := getF X78 hx hZ hown (wf17 hw) Via.refl e78 f77 (g := (mkF m 233 #[vr o0, vi 0, vl y1, sd, vi 0, vi 0, vi 1] [(.ref o0), (.int (1 : Int32)), (.int (0 : Int32)), (.ref b22_0)])) rfl rfl (hb hby dn_233)
  have f80 := ((V62.keep Kq69 (ninS ne_b22_0_b34_0 nin0)).other W74 (Ne.symm ne_b10_0_b22_0))
  obtain ⟨_, _, ⟨T81, L81, kc81, ks81⟩, -, X81, ⟨Lc81, hQ81, l81, y81, z81⟩, st81⟩ := Jvm.LawKit.callS X79 hx (y := mn12) hown (mvT hZ (wd62 hw)) (mvT hZ (wd63 hw)) (mvT hZ (wd37 hw)) (mvT hZ (wd64 hw)) (by decide) (backOf (W := 0) (rmA23 l Z a0 hw [] b22_0 _ h74 n0 Z74 f80 ge_b22_0) hZ (wd64 hw) (wd37 hw) (by decide) (by decide)) (g := (mkF m 238 #[vr o0, vi 0, vl y1, sd, vi 0, vi 0, vi 1] [(.long (0 : Int64)), (.int (4 : Int32)), (.int (0 : Int32)), (.ref b22_0)])) rfl (by rw [hml]; rfl) (argsL := [(.ref b22_0), (.int (0 : Int32)), (.int (4 : Int32)), (.long (0 : Int64))]) (rest := []) (lenOf pd___JIIJ_V rfl) rfl (by show 2 * 0 + _ ≤ _; exact Nat.le_of_eq rfl) (hb hby dn_238) (fun _ _ => ⟨rfl, e79, (by decide : 3 + 0 ≤ _), (by decide : 6 + 0 ≤ _)⟩)
  dsimp only [Pt.U, Pt.locs, Pt.cells, Pt.slots] at X81 l81 y81 z81 st81 hQ81
  subst l81 y81 z81
  obtain ⟨rfl, Nq81, Kq81, g81_0⟩ := hQ81
  have N81 := Fr.app N74 Nq81
  have Z81 := Nat.le_trans Z74 Kq81.1
  have K81 := Keep.trans K74 Kq81 (allS (Or.inr sz_b22_0) all0)
  have f82 := (((f66.keep Kq69 (ninS ne_o0_b34_0 nin0)).other W74 (Or.inl ne_o0_b10_0)).keep Kq81 (ninS ne_o0_b22_0 nin0))
  obtain ⟨T83, X83, e83, st83⟩ := getF X81 hx hZ hown (wf26 hw) Via.refl rfl f82 (g := (mkF m 243 #[vr o0, vi 0, vl y1, sd, vi 0, vi 0, vi 1] [(.ref o0), (.ref o0)])) rfl rfl (hb hby dn_243)
  have f84 := ((((((f43.wr W45).keep Kq51).keep Kq62).keep Kq69).wr W74).keep Kq81)
  obtain ⟨T85, h85, X85, e85, W85, st85⟩ := putF X83 hx hZ hown (wf26 hw) Via.refl e83 f82 f84 (Or.inl (wd27 hw)) (wd1 hw) (ty := .int) (by decide) rfl rfl (g := (mkF m 248 #[vr o0, vi 0, vl y1, sd, vi 0, vi 0, vi 1] [(.int (1 : Int32)), (.ref o0)])) rfl rfl (hb hby dn_248)
  have N85 := Fr.snoc X85 N81 g_o0
  have Z85 : n0 ≤ h85.size := by rw [W85.size]; exact Z81
  have K85 := (K81.wr W85 (Or.inl (List.mem_of_getElem? (i := 0) rfl)))
  have Fw85 := f82.same W85
  have f86 := (((f70.other W74 (Or.inl ne_o0_b10_0)).keep Kq81 (ninS ne_o0_b22_0 nin0)).other W85 (Or.inr (sn3 hw)))
  have f87 := (((((((Fw42.other W45 (Or.inr (sn18 hw))).keep Kq51 (ninS ne_o0_b10_0 nin0)).keep Kq62 (ninS ne_o0_b22_0 nin0)).keep Kq69 (ninS ne_o0_b34_0 nin0)).other W74 (Or.inl ne_o0_b10_0)).keep Kq81 (ninS ne_o0_b22_0 nin0)).other W85 (Or.inr (sn18 hw)))
  have f88 := (f84.wr W85)
  have f89 := ((V74.keep Kq81 (ninS ne_b10_0_b22_0 nin0)).other W85 (Ne.symm ne_o0_b10_0))
  have f90 := ((f75.keep Kq81 (ninS ne_o0_b22_0 nin0)).other W85 (Or.inr (sn8 hw)))
  have f91 := ((f77.keep Kq81 (ninS ne_o0_b22_0 nin0)).other W85 (Or.inr (sn29 hw)))
  have f92 := (g81_0.other W85 (Ne.symm ne_o0_b22_0))
  have f93 := ((((f63.keep Kq69 (ninS ne_o0_b34_0 nin0)).other W74 (Or.inl ne_o0_b10_0)).keep Kq81 (ninS ne_o0_b22_0 nin0)).other W85 (Or.inr (sn13 hw)))
  have f94 := (((V69.other W74 (Ne.symm ne_b10_0_b34_0)).keep Kq81 (ninS (Ne.symm ne_b22_0_b34_0) nin0)).other W85 (Ne.symm ne_o0_b34_0))
  subst hEN
  obtain ⟨lfs, lhr, lhrun, lhended, lhW, lhsame⟩ := X85.leave (v := some (.int (0 : Int32))) (fun h => by rw [Bd.returns] at h; cases h)
  refine ⟨_, _, pre0 _ ?_, lhrun, lhended, _, _, rfl, ?_, ⟨_, rfl⟩, lhW, lhsame.mono (by decide) (by decide)⟩
  · skip
    refine XS.iloadN X0.here hx rfl (hb hby dn_0) rfl ?_
    refine XS.istore X0.here hx rfl (hb hby dn_1) rfl (l' := #[vr o0, vi 0, vl y1, sd, vi 0, un, un]) rfl ?_
    refine XS.aloadN X0.here hx rfl (hb hby dn_3) rfl rfl ?_
    refine st1 _ ?_
    refine XS.aloadN X1.here hx rfl (hb hby dn_7) rfl rfl ?_
    refine st2 _ ?_
    refine X2.arraylength hx (by (try rw [e2]); exact Ar3.1) (State.isArrayOf_alike hZ.alike Ar3.2.1) (g := (mkF m 11 #[vr o0, vi 0, vl y1, sd, vi 0, un, un] [(.ref o2), (.int (0 : Int32))])) rfl rfl (hb hby dn_11) _ ?_
    rw [len_of S3 M3]
    refine XS.icmpNo X2.here hx rfl (hb hby dn_12) rfl (teq (by decide : (0 : Int32) = (0 : Int32))).2 ?_
    refine XS.aloadN X2.here hx rfl (hb hby dn_15) rfl rfl ?_
    refine st4 _ ?_
    refine XS.aloadN X4.here hx rfl (hb hby dn_19) rfl rfl ?_
    refine st5 _ ?_
    refine XS.isub X5.here hx rfl (hb hby dn_23) rfl ?_
    refine XS.istore X5.here hx rfl (hb hby dn_24) rfl (l' := #[vr o0, vi 0, vl y1, sd, vi 0, vi 0, un]) rfl ?_
    refine XS.iload X5.here hx rfl (hb hby dn_26) rfl ?_
    refine XS.aloadN X5.here hx rfl (hb hby dn_28) rfl rfl ?_
    refine st6 _ ?_
    refine X6.arraylength hx (by (try rw [e6]); exact Ar7.1) (State.isArrayOf_alike hZ.alike Ar7.2.1) (g := (mkF m 32 #[vr o0, vi 0, vl y1, sd, vi 0, vi 0, un] [(.ref o2), (.int (0 : Int32))])) rfl rfl (hb hby dn_32) _ ?_
    rw [len_of S7 M7]
    refine XS.icmpNo X6.here hx rfl (hb hby dn_33) rfl (teq (by decide : (0 : Int32) = (0 : Int32))).2 ?_
    refine XS.iconst X6.here hx rfl (hb hby dn_36) ?_
    refine XS.iconst X6.here hx rfl (hb hby dn_37) ?_
    refine XS.iload X6.here hx rfl (hb hby dn_38) rfl ?_
    refine XS.imul X6.here hx rfl (hb hby dn_40) rfl ?_
    refine st8 _ ?_
    refine XS.goto X8.here hx rfl (pc0 := 44) (pc' := 52) rfl (hb hby dn_44) (by decide) (by decide) ?_
    refine XS.istore X8.here hx rfl (hb hby dn_52) rfl (l' := #[vr o0, vi 0, vl y1, sd, vi 0, vi 0, vi 1]) rfl ?_
    refine XS.aloadN X8.here hx rfl (hb hby dn_54) rfl rfl ?_
    refine XS.aloadN X8.here hx rfl (hb hby dn_55) rfl rfl ?_
    refine XS.aloadN X8.here hx rfl (hb hby dn_56) rfl rfl ?_
    refine st9 _ ?_
    refine XS.iconst X9.here hx rfl (hb hby dn_60) ?_
    refine XS.iload X9.here hx rfl (hb hby dn_61) rfl ?_
    refine st10.trans ?_
    refine st13 _ ?_
    refine XS.aloadN X13.here hx rfl (hb hby dn_69) rfl rfl ?_
    refine XS.aloadN X13.here hx rfl (hb hby dn_70) rfl rfl ?_
    refine XS.aloadN X13.here hx rfl (hb hby dn_71) rfl rfl ?_
    refine st15 _ ?_
    refine XS.aloadN X15.here hx rfl (hb hby dn_75) rfl rfl ?_
    refine st17 _ ?_
    refine XS.iload X17.here hx rfl (hb hby dn_79) rfl ?_
    refine st22.trans ?_
    refine st26 _ ?_
    refine XS.aloadN X26.here hx rfl (hb hby dn_87) rfl rfl ?_
    refine XS.aloadN X26.here hx rfl (hb hby dn_88) rfl rfl ?_
    refine XS.aloadN X26.here hx rfl (hb hby dn_89) rfl rfl ?_
    refine st28 _ ?_
    refine XS.iconst X28.here hx rfl (hb hby dn_93) ?_
    refine XS.iload X28.here hx rfl (hb hby dn_94) rfl ?_
    refine st34.trans ?_
    refine st38 _ ?_
    refine XS.iload X38.here hx rfl (hb hby dn_102) rfl ?_
    refine XS.aloadN X38.here hx rfl (hb hby dn_104) rfl rfl ?_
    refine st40 _ ?_
    refine XS.isub X40.here hx rfl (hb hby dn_108) rfl ?_
    refine XS.istore X40.here hx rfl (hb hby dn_109) rfl (l' := #[vr o0, vi 0, vl y1, sd, vi 0, vi 0, vi 1]) rfl ?_
    refine XS.aloadN X40.here hx rfl (hb hby dn_111) rfl rfl ?_
    refine XS.iconst X40.here hx rfl (hb hby dn_112) ?_
    refine st42 _ ?_
    refine XS.aloadN X42.here hx rfl (hb hby dn_116) rfl rfl ?_
    refine XS.iload X42.here hx rfl (hb hby dn_117) rfl ?_
    refine st45 _ ?_
    refine XS.aloadN X45.here hx rfl (hb hby dn_122) rfl rfl ?_
    refine st47 _ ?_
    refine XS.iload X47.here hx rfl (hb hby dn_126) rfl ?_
    refine XS.aloadN X47.here hx rfl (hb hby dn_128) rfl rfl ?_
    refine st48 _ ?_
    refine XS.iload X48.here hx rfl (hb hby dn_132) rfl ?_
    refine XS.iconst X48.here hx rfl (hb hby dn_134) ?_
    refine XS.iadd X48.here hx rfl (hb hby dn_135) rfl ?_
    refine XS.aloadN X48.here hx rfl (hb hby dn_136) rfl rfl ?_
    refine st49 _ ?_
    refine XS.iload X49.here hx rfl (hb hby dn_140) rfl ?_
    refine XS.isub X49.here hx rfl (hb hby dn_142) rfl ?_
    refine st51 _ ?_
    refine XS.aloadN X51.here hx rfl (hb hby dn_146) rfl rfl ?_
    refine st53 _ ?_
    refine XS.iload X53.here hx rfl (hb hby dn_150) rfl ?_
    refine XS.aloadN X53.here hx rfl (hb hby dn_152) rfl rfl ?_
    refine st55 _ ?_
    refine XS.imul X55.here hx rfl (hb hby dn_156) rfl ?_
    refine XS.aloadN X55.here hx rfl (hb hby dn_157) rfl rfl ?_
    refine st56 _ ?_
    refine XS.iload X56.here hx rfl (hb hby dn_161) rfl ?_
    refine XS.iconst X56.here hx rfl (hb hby dn_163) ?_
    refine XS.iadd X56.here hx rfl (hb hby dn_164) rfl ?_
    refine XS.aloadN X56.here hx rfl (hb hby dn_165) rfl rfl ?_
    refine st57 _ ?_
    refine XS.imul X57.here hx rfl (hb hby dn_169) rfl ?_
    refine XS.aloadN X57.here hx rfl (hb hby dn_170) rfl rfl ?_
    refine st59 _ ?_
    refine XS.iload X59.here hx rfl (hb hby dn_174) rfl ?_
    refine XS.isub X59.here hx rfl (hb hby dn_176) rfl ?_
    refine XS.aloadN X59.here hx rfl (hb hby dn_177) rfl rfl ?_
    refine st60 _ ?_
    refine XS.imul X60.here hx rfl (hb hby dn_181) rfl ?_
    refine st62 _ ?_
    refine XS.aloadN X62.here hx rfl (hb hby dn_185) rfl rfl ?_
    refine st64 _ ?_
    refine XS.iload X64.here hx rfl (hb hby dn_189) rfl ?_
    refine XS.aloadN X64.here hx rfl (hb hby dn_191) rfl rfl ?_
    refine st65 _ ?_
    refine XS.iload X65.here hx rfl (hb hby dn_195) rfl ?_
    refine XS.iconst X65.here hx rfl (hb hby dn_197) ?_
    refine XS.iadd X65.here hx rfl (hb hby dn_198) rfl ?_
    refine XS.aloadN X65.here hx rfl (hb hby dn_199) rfl rfl ?_
    refine st67 _ ?_
    refine XS.iload X67.here hx rfl (hb hby dn_203) rfl ?_
    refine XS.isub X67.here hx rfl (hb hby dn_205) rfl ?_
    refine st69 _ ?_
    refine XS.aloadN X69.here hx rfl (hb hby dn_209) rfl rfl ?_
    refine st71 _ ?_
    refine XS.iload X71.here hx rfl (hb hby dn_213) rfl ?_
    refine XS.lloadN X71.here hx rfl (hb hby dn_215) rfl ?_
    refine st74 _ ?_
    refine XS.aloadN X74.here hx rfl (hb hby dn_217) rfl rfl ?_
    refine st76 _ ?_
    refine XS.iload X76.here hx rfl (hb hby dn_221) rfl ?_
    refine XS.aloadN X76.here hx rfl (hb hby dn_223) rfl rfl ?_
    refine st78 _ ?_
    refine XS.imul X78.here hx rfl (hb hby dn_227) rfl ?_
    refine XS.iload X78.here hx rfl (hb hby dn_228) rfl ?_
    refine XS.iconst X78.here hx rfl (hb hby dn_230) ?_
    refine XS.iadd X78.here hx rfl (hb hby dn_231) rfl ?_
    refine XS.aloadN X78.here hx rfl (hb hby dn_232) rfl rfl ?_
    refine st79 _ ?_
    refine XS.imul X79.here hx rfl (hb hby dn_236) rfl ?_
    refine XS.lconst X79.here hx rfl (hb hby dn_237) ?_
    refine st81 _ ?_
    refine XS.aloadN X81.here hx rfl (hb hby dn_241) rfl rfl ?_
    refine XS.dup X81.here hx rfl (hb hby dn_242) rfl rfl ?_
    refine st83 _ ?_
    refine XS.iconst X83.here hx rfl (hb hby dn_246) ?_
    refine XS.iadd X83.here hx rfl (hb hby dn_247) rfl ?_
    refine st85 _ ?_
    refine XS.iload X85.here hx rfl (hb hby dn_251) rfl ?_
    show SS p e below T85 (mkF m 253 #[vr o0, vi 0, vl y1, sd, vi 0, vi 0, vi 1] [(.int (0 : Int32))]) _
    exact retI X85 hx Bd.returns (hb hby dn_253) lhr
  · skip
    show QA18 Z o0 y1 o2 kk_o2 h0 n0 _ T85.heap _
    rw [e85]
    exact ⟨b10_0, b22_0, b34_0, _, _, _, rfl, N85, K85, sz_b10_0, sz_b22_0, sz_b34_0, ne_b10_0_b22_0, ne_b10_0_b34_0, ne_b22_0_b34_0, Fw85, f86, f87, f88, f89, f90, f91, f92, f93, f94⟩
theorem db_22 : decode prog_59_method_3_code 22 = .ok (.lload 5, 2) := by decide +kernel
theorem db_24 : decode prog_59_method_3_code 24 = .ok (.lconst 0, 1) := by decide +kernel
theorem db_25 : decode prog_59_method_3_code 25 = .ok (.lcmp, 1) := by decide +kernel
theorem db_26 : decode prog_59_method_3_code 26 = .ok (.ifCond .ne 4, 3) := by decide +kernel
theorem db_30 : decode prog_59_method_3_code 30 = .ok (.lload 7, 2) := by decide +kernel
theorem db_32 : decode prog_59_method_3_code 32 = .ok (.lconst 0, 1) := by decide +kernel
theorem db_33 : decode prog_59_method_3_code 33 = .ok (.lcmp, 1) := by decide +kernel
theorem db_34 : decode prog_59_method_3_code 34 = .ok (.ifCond .ne 24, 3) := by decide +kernel
theorem db_37 : decode prog_59_method_3_code 37 = .ok (.aload_n 0, 1) := by decide +kernel
theorem db_38 : decode prog_59_method_3_code 38 = .ok (.iload_n 1, 1) := by decide +kernel
theorem db_39 : decode prog_59_method_3_code 39 = .ok (.iconst 1, 1) := by decide +kernel
theorem db_40 : decode prog_59_method_3_code 40 = .ok (.iadd, 1) := by decide +kernel
theorem db_41 : decode prog_59_method_3_code 41 = .ok (.lload_n 3, 1) := by decide +kernel
theorem db_42 : decode prog_59_method_3_code 42 = .ok (.lastore, 1) := by decide +kernel
theorem db_43 : decode prog_59_method_3_code 43 = .ok (.aload_n 0, 1) := by decide +kernel
theorem db_44 : decode prog_59_method_3_code 44 = .ok (.iload_n 1, 1) := by decide +kernel
theorem db_45 : decode prog_59_method_3_code 45 = .ok (.iconst 2, 1) := by decide +kernel
theorem db_46 : decode prog_59_method_3_code 46 = .ok (.iadd, 1) := by decide +kernel
theorem db_47 : decode prog_59_method_3_code 47 = .ok (.lload_n 3, 1) := by decide +kernel
theorem db_48 : decode prog_59_method_3_code 48 = .ok (.lastore, 1) := by decide +kernel
theorem db_49 : decode prog_59_method_3_code 49 = .ok (.aload_n 0, 1) := by decide +kernel
theorem db_50 : decode prog_59_method_3_code 50 = .ok (.iload_n 1, 1) := by decide +kernel
theorem db_51 : decode prog_59_method_3_code 51 = .ok (.iconst 3, 1) := by decide +kernel
theorem db_52 : decode prog_59_method_3_code 52 = .ok (.iadd, 1) := by decide +kernel
theorem db_53 : decode prog_59_method_3_code 53 = .ok (.lload_n 3, 1) := by decide +kernel
theorem db_54 : decode prog_59_method_3_code 54 = .ok (.lastore, 1) := by decide +kernel
theorem db_55 : decode prog_59_method_3_code 55 = .ok (.goto 66, 3) := by decide +kernel
theorem db_121 : decode prog_59_method_3_code 121 = .ok (.aload_n 0, 1) := by decide +kernel
theorem db_122 : decode prog_59_method_3_code 122 = .ok (.iload_n 1, 1) := by decide +kernel
theorem db_123 : decode prog_59_method_3_code 123 = .ok (.iconst 1, 1) := by decide +kernel
theorem db_124 : decode prog_59_method_3_code 124 = .ok (.iadd, 1) := by decide +kernel
theorem db_125 : decode prog_59_method_3_code 125 = .ok (.aload_n 0, 1) := by decide +kernel
theorem db_126 : decode prog_59_method_3_code 126 = .ok (.iload_n 1, 1) := by decide +kernel
theorem db_127 : decode prog_59_method_3_code 127 = .ok (.iconst 1, 1) := by decide +kernel
theorem db_128 : decode prog_59_method_3_code 128 = .ok (.iadd, 1) := by decide +kernel
theorem db_129 : decode prog_59_method_3_code 129 = .ok (.laload, 1) := by decide +kernel
theorem db_130 : decode prog_59_method_3_code 130 = .ok (.lload_n 3, 1) := by decide +kernel
theorem db_131 : decode prog_59_method_3_code 131 = .ok (.invokestatic 13, 3) := by decide +kernel
theorem efa_jdk_29_method_70_code_vv (m : MethodId) (x0 : Int64) (x1 : Int64) : entryFrame m #[(.long x0), (.long x1)] 4 = mkF m 0 #[vl x0, sd, vl x1, sd] [] := by first | (simp [entryFrame, mkF, argsToLocals, Value.category]; done) | rfl
theorem dm_0 : decode jdk_29_method_70_code 0 = .ok (.lload_n 0, 1) := by decide +kernel
theorem dm_1 : decode jdk_29_method_70_code 1 = .ok (.lload_n 2, 1) := by decide +kernel
theorem dm_2 : decode jdk_29_method_70_code 2 = .ok (.lcmp, 1) := by decide +kernel
theorem dm_3 : decode jdk_29_method_70_code 3 = .ok (.ifCond .gt 7, 3) := by decide +kernel
theorem dm_6 : decode jdk_29_method_70_code 6 = .ok (.lload_n 0, 1) := by decide +kernel
theorem dm_7 : decode jdk_29_method_70_code 7 = .ok (.goto 4, 3) := by decide +kernel
theorem dm_11 : decode jdk_29_method_70_code 11 = .ok (.lreturn, 1) := by decide +kernel
def QA26 (Z : State)  (h0 : Heap) (n0 : Nat) (v : Option Value) (h : Heap) (L : List Loc) : Prop := v = some (.long (0 : Int64)) ∧ Fr n0 L ∧ h = h0
set_option maxRecDepth 65536 in
set_option maxHeartbeats 40000000 in
theorem rmA26 (l : Launch) (Z : State) (a0 : Array Value) (hw : ∀ d ∈ tables_1, d.before a0 Z = true) (ws : List Jvm.Cond)  (h0 : Heap) (n0 : Nat) (Z0 : n0 ≤ h0.size) :
    MetFree l mn9 (head1 (Jvm.Cond.code mn9 jdk_29_method_70_code 4 (some .long) :: ws) ({ frames := 0, cells := 0, slots := 0, locals := 0 } : Room)) (fun a U => a = #[(.long (0 : Int64)), (.long (0 : Int64))] ∧ Z.Warmed39 U.vm ∧ U.heap = h0) (fun _ _ _ _ _ => True) (fun _ U oc_ U' => ∃ v L, oc_ = .returned v ∧ QA26 Z  h0 n0 v U'.heap L ∧ FrameEnd U oc_ U' L ({ frames := 0, cells := 0, slots := 0, locals := 0 } : Room).cells ({ frames := 0, cells := 0, slots := 0, locals := 0 } : Room).slots) := by
  refine MetFree.of_bodySF (Jvm.Free.JP.mathPlain rfl (by decide +kernel)) hisR ?_
  intro p e s m args below meth c s₁ Bd hml0 hP hK
  obtain ⟨rfl, hZ, hh⟩ := hP
  have hx := Bd.exec
  have hby := Bd.bytes
  have hml : c.maxLocals = 4 := hml0
  have hown : s.vm.findClass "java/lang/Math" = some m.cls := findClass_of_methodNamed Bd.named
  have hnm := (name_of_methodNamed Bd.named Bd.method).1
  have X0 : Stand p l e ({ frames := 0, cells := 0, slots := 0, locals := 0 } : Room) s m #[(.long (0 : Int64)), (.long (0 : Int64))] below meth c s₁ [] 0 0 := Stand.of_body Bd
  have e0 : s₁.heap = h0 := by rw [← hh, Bd.state]; rfl
  have N0 := Fr.nil n0
  have pre0 : ∀ t, SS p e below s₁ (mkF m 0 #[vl 0, sd, vl 0, sd] []) t → Steps p.tables e below (s₁.setTop (entryFrame m #[(.long (0 : Int64)), (.long (0 : Int64))] 4)) t := fun t k => castTop (efa_jdk_29_method_70_code_vv m (0 : Int64) (0 : Int64)) k
  obtain ⟨EN, hEN⟩ : ∃ z, z = s₁.setTop (entryFrame m #[(.long (0 : Int64)), (.long (0 : Int64))] 4) := ⟨_, rfl⟩
  rw [← hEN] at pre0
  subst hEN
  obtain ⟨lfs, lhr, lhrun, lhended, lhW, lhsame⟩ := X0.leave (v := some (.long (0 : Int64))) (fun h => by rw [Bd.returns] at h; cases h)
  refine ⟨_, _, pre0 _ ?_, lhrun, lhended, _, _, rfl, ?_, ⟨_, rfl⟩, lhW, lhsame.mono (by decide) (by decide)⟩
  · skip
    refine XS.lloadN X0.here hx rfl (hb hby dm_0) rfl ?_
    refine XS.lloadN X0.here hx rfl (hb hby dm_1) rfl ?_
    refine XS.lcmp X0.here hx rfl (hb hby dm_2) rfl ?_
    refine XS.ifNo X0.here hx rfl (hb hby dm_3) rfl ((if0 _ _).trans (flt (fun q => (by decide : ¬ ((0 : Int64) < (0 : Int64))) ((lw_gt (0 : Int64) (0 : Int64)).mp q))).2.2.1) ?_
    refine XS.lloadN X0.here hx rfl (hb hby dm_6) rfl ?_
    refine XS.goto X0.here hx rfl (pc0 := 7) (pc' := 11) rfl (hb hby dm_7) (by decide) (by decide) ?_
    show SS p e below s₁ (mkF m 11 #[vl 0, sd, vl 0, sd] [(.long (0 : Int64))]) _
    exact retOut X0 hx Bd.returns rfl (Or.inr (Or.inl ⟨rfl, rfl, _, rfl⟩)) (hb hby dm_11) lhr
  · skip
    show QA26 Z  h0 n0 _ s₁.heap _
    rw [e0]
    exact ⟨rfl, N0, rfl⟩
theorem db_134 : decode prog_59_method_3_code 134 = .ok (.lastore, 1) := by decide +kernel
theorem db_135 : decode prog_59_method_3_code 135 = .ok (.return_, 1) := by decide +kernel
def QA25 (Z : State) (o0 : Addr) (y1 : Int64) (kk_o0 : ClassId) (h0 : Heap) (n0 : Nat) (v : Option Value) (h : Heap) (L : List Loc) : Prop := v = none ∧ Fr n0 L ∧ Keep h0 h [o0] ∧ Arv Z h o0 kk_o0 .long (4 : Int32) [(.long ((0 : Int64) + y1)), (.long (0 : Int64)), (.long (0 : Int64)), (.long (0 : Int64))] (.long (0 : Int64))
set_option maxRecDepth 65536 in
set_option maxHeartbeats 40000000 in
theorem rmA25 (l : Launch) (Z : State) (a0 : Array Value) (hw : ∀ d ∈ tables_1, d.before a0 Z = true) (ws : List Jvm.Cond) (o0 : Addr) (y1 : Int64) (kk_o0 : ClassId) (h0 : Heap) (n0 : Nat) (Z0 : n0 ≤ h0.size) (V_o0 : Arv Z h0 o0 kk_o0 .long (4 : Int32) [(.long (0 : Int64)), (.long (0 : Int64)), (.long (0 : Int64)), (.long (0 : Int64))] (.long (0 : Int64))) (g_o0 : n0 ≤ o0) (hq2 : ¬ (y1 = (0 : Int64))) :
    MetFree l mn6 (head1 (Jvm.Cond.code mn6 prog_59_method_3_code 9 none :: ws) ({ frames := 1, cells := 0, slots := 0, locals := 17 } : Room)) (fun a U => a = #[(.ref o0), (.int (0 : Int32)), (.int (4 : Int32)), (.long (0 : Int64)), (.long y1)] ∧ Z.Warmed39 U.vm ∧ U.heap = h0) (fun _ _ _ _ _ => True) (fun _ U oc_ U' => ∃ v L, oc_ = .returned v ∧ QA25 Z o0 y1 kk_o0 h0 n0 v U'.heap L ∧ FrameEnd U oc_ U' L ({ frames := 1, cells := 0, slots := 0, locals := 17 } : Room).cells ({ frames := 1, cells := 0, slots := 0, locals := 17 } : Room).slots) := by
  refine MetFree.of_bodySF (plainFor_of_name pn_com_example_strict_limiter_strictlimiter_WindowRecord) hisR ?_
  intro p e s m args below meth c s₁ Bd hml0 hP hK
  obtain ⟨rfl, hZ, hh⟩ := hP
  have hx := Bd.exec
  have hby := Bd.bytes
  have hml : c.maxLocals = 9 := hml0
  have hown : s.vm.findClass cn1 = some m.cls := findClass_of_methodNamed Bd.named
  have hnm := (name_of_methodNamed Bd.named Bd.method).1
  have X0 : Stand p l e ({ frames := 1, cells := 0, slots := 0, locals := 17 } : Room) s m #[(.ref o0), (.int (0 : Int32)), (.int (4 : Int32)), (.long (0 : Int64)), (.long y1)] below meth c s₁ [] 0 0 := Stand.of_body Bd
  have e0 : s₁.heap = h0 := by rw [← hh, Bd.state]; rfl
  have N0 := Fr.nil n0
  have pre0 : ∀ t, SS p e below s₁ (mkF m 0 #[vr o0, vi 0, vi 4, vl 0, sd, vl y1, sd, un, un] []) t → Steps p.tables e below (s₁.setTop (entryFrame m #[(.ref o0), (.int (0 : Int32)), (.int (4 : Int32)), (.long (0 : Int64)), (.long y1)] 9)) t := fun t k => castTop (efa_prog_59_method_3_code_vvvvv m o0 (0 : Int32) (4 : Int32) (0 : Int64) y1) k
  obtain ⟨EN, hEN⟩ : ∃ z, z = s₁.setTop (entryFrame m #[(.ref o0), (.int (0 : Int32)), (.int (4 : Int32)), (.long (0 : Int64)), (.long y1)] 9) := ⟨_, rfl⟩
  rw [← hEN] at pre0
  obtain ⟨cl1, Ar1, q1, S1, M1, HH1, GG1⟩ := id V_o0
  have hin1 : ¬ ((0 : Int32) < 0 ∨ cl1.slots.size ≤ ((0 : Int32)).toNatClampNeg) := inb_of S1 ⟨by decide, by decide⟩
  have hat1 : cl1.slots[((0 : Int32)).toNatClampNeg]? = some (.long (0 : Int64)) := Has.at HH1 hin1 rfl
  obtain ⟨cl2, Ar2, q2, S2, M2, HH2, GG2⟩ := id V_o0
  have hin2 : ¬ ((0 : Int32) < 0 ∨ cl2.slots.size ≤ ((0 : Int32)).toNatClampNeg) := inb_of S2 ⟨by decide, by decide⟩
  obtain ⟨T3, h3, X3, e3, W3, st3⟩ := stJ X0 hx hZ e0 Ar2 (j := (0 : Int32)) hin2 (g := (mkF m 16 #[vr o0, vi 0, vi 4, vl 0, sd, vl y1, sd, vl 0, sd] [(.long ((0 : Int64) + y1)), (.int (0 : Int32)), (.ref o0)])) rfl rfl (hb hby db_16)
  have N3 := Fr.snoc X3 N0 g_o0
  have Z3 : n0 ≤ h3.size := by rw [W3.size]; exact Z0
  have K3 : Keep h0 h3 [o0] := ((Keep.refl h0 [o0]).wr W3 (Or.inl (List.mem_of_getElem? (i := 0) rfl)))
  have V3 := Arv.set Ar2 q2 S2 M2 HH2 GG2 rfl W3 0 rfl (Nat.le_of_ble_eq_true rfl)
  obtain ⟨cl4, Ar4, q4, S4, M4, HH4, GG4⟩ := id V3
  have hin4 : ¬ ((1 : Int32) < 0 ∨ cl4.slots.size ≤ ((1 : Int32)).toNatClampNeg) := inb_of S4 ⟨by decide, by decide⟩
  obtain ⟨T5, h5, X5, e5, W5, st5⟩ := stJ X3 hx hZ e3 Ar4 (j := (1 : Int32)) hin4 (g := (mkF m 42 #[vr o0, vi 0, vi 4, vl 0, sd, vl y1, sd, vl 0, sd] [(.long (0 : Int64)), (.int (1 : Int32)), (.ref o0)])) rfl rfl (hb hby db_42)
  have N5 := Fr.snoc X5 N3 g_o0
  have Z5 : n0 ≤ h5.size := by rw [W5.size]; exact Z3
  have K5 := (K3.wr W5 (Or.inl (List.mem_of_getElem? (i := 0) rfl)))
  have V5 := Arv.set Ar4 q4 S4 M4 HH4 GG4 rfl W5 1 rfl (Nat.le_of_ble_eq_true rfl)
  obtain ⟨cl6, Ar6, q6, S6, M6, HH6, GG6⟩ := id V5
  have hin6 : ¬ ((2 : Int32) < 0 ∨ cl6.slots.size ≤ ((2 : Int32)).toNatClampNeg) := inb_of S6 ⟨by decide, by decide⟩
  obtain ⟨T7, h7, X7, e7, W7, st7⟩ := stJ X5 hx hZ e5 Ar6 (j := (2 : Int32)) hin6 (g := (mkF m 48 #[vr o0, vi 0, vi 4, vl 0, sd, vl y1, sd, vl 0, sd] [(.long (0 : Int64)), (.int (2 : Int32)), (.ref o0)])) rfl rfl (hb hby db_48)
  have N7 := Fr.snoc X7 N5 g_o0
  have Z7 : n0 ≤ h7.size := by rw [W7.size]; exact Z5
  have K7 := (K5.wr W7 (Or.inl (List.mem_of_getElem? (i := 0) rfl)))
  have V7 := Arv.set Ar6 q6 S6 M6 HH6 GG6 rfl W7 2 rfl (Nat.le_of_ble_eq_true rfl)
  obtain ⟨cl8, Ar8, q8, S8, M8, HH8, GG8⟩ := id V7
  have hin8 : ¬ ((3 : Int32) < 0 ∨ cl8.slots.size ≤ ((3 : Int32)).toNatClampNeg) := inb_of S8 ⟨by decide, by decide⟩
  obtain ⟨T9, h9, X9, e9, W9, st9⟩ := stJ X7 hx hZ e7 Ar8 (j := (3 : Int32)) hin8 (g := (mkF m 54 #[vr o0, vi 0, vi 4, vl 0, sd, vl y1, sd, vl 0, sd] [(.long (0 : Int64)), (.int (3 : Int32)), (.ref o0)])) rfl rfl (hb hby db_54)
  have N9 := Fr.snoc X9 N7 g_o0
  have Z9 : n0 ≤ h9.size := by rw [W9.size]; exact Z7
  have K9 := (K7.wr W9 (Or.inl (List.mem_of_getElem? (i := 0) rfl)))
  have V9 := Arv.set Ar8 q8 S8 M8 HH8 GG8 rfl W9 3 rfl (Nat.le_of_ble_eq_true rfl)
  obtain ⟨cl10, Ar10, q10, S10, M10, HH10, GG10⟩ := id V9
  have hin10 : ¬ ((1 : Int32) < 0 ∨ cl10.slots.size ≤ ((1 : Int32)).toNatClampNeg) := inb_of S10 ⟨by decide, by decide⟩
  have hat10 : cl10.slots[((1 : Int32)).toNatClampNeg]? = some (.long (0 : Int64)) := Has.at HH10 hin10 rfl
  obtain ⟨_, _, ⟨T11, L11, kc11, ks11⟩, -, X11, ⟨Lc11, hQ11, l11, y11, z11⟩, st11⟩ := Jvm.LawKit.callS X9 hx (y := mn9) hown (mvT hZ (wd69 hw)) (mvT hZ (wd70 hw)) (mvT hZ (wd51 hw)) (mvT hZ (wd71 hw)) (by decide) (backOf (W := 2) (rmA26 l Z a0 hw []  h9 n0 Z9 ) hZ (wd71 hw) (wd51 hw) (by decide) (by decide)) (g := (mkF m 131 #[vr o0, vi 0, vi 4, vl 0, sd, vl y1, sd, vl 0, sd] [(.long (0 : Int64)), (.long (0 : Int64)), (.int (1 : Int32)), (.ref o0)])) rfl (by rw [hml]; rfl) (argsL := [(.long (0 : Int64)), (.long (0 : Int64))]) (rest := [(.int (1 : Int32)), (.ref o0)]) (lenOf pd__JJ_J rfl) rfl (by show 2 * 0 + _ ≤ _; exact Nat.le_of_eq rfl) (hb hby db_131) (fun _ _ => ⟨rfl, e9, (by decide : 0 + 0 ≤ _), (by decide : 0 + 0 ≤ _)⟩)
  dsimp only [Pt.U, Pt.locs, Pt.cells, Pt.slots] at X11 l11 y11 z11 st11 hQ11
  subst l11 y11 z11
  obtain ⟨rfl, Nq11, eq11⟩ := hQ11
  have N11 := Fr.app N9 Nq11
  obtain ⟨cl12, Ar12, q12, S12, M12, HH12, GG12⟩ := id V9
  have hin12 : ¬ ((1 : Int32) < 0 ∨ cl12.slots.size ≤ ((1 : Int32)).toNatClampNeg) := inb_of S12 ⟨by decide, by decide⟩
  obtain ⟨T13, h13, X13, e13, W13, st13⟩ := stJ X11 hx hZ eq11 Ar12 (j := (1 : Int32)) hin12 (g := (mkF m 134 #[vr o0, vi 0, vi 4, vl 0, sd, vl y1, sd, vl 0, sd] [(.long (0 : Int64)), (.int (1 : Int32)), (.ref o0)])) rfl rfl (hb hby db_134)
  have N13 := Fr.snoc X13 N11 g_o0
  have Z13 : n0 ≤ h13.size := by rw [W13.size]; exact Z9
  have K13 := (K9.wr W13 (Or.inl (List.mem_of_getElem? (i := 0) rfl)))
  have V13 := Arv.set Ar12 q12 S12 M12 HH12 GG12 rfl W13 1 rfl (Nat.le_of_ble_eq_true rfl)
  subst hEN
  obtain ⟨lfs, lhr, lhrun, lhended, lhW, lhsame⟩ := X13.leave (v := none) (fun _ => rfl)
  refine ⟨_, _, pre0 _ ?_, lhrun, lhended, _, _, rfl, ?_, ⟨_, rfl⟩, lhW, lhsame.mono (by decide) (by decide)⟩
  · skip
    refine XS.aloadN X0.here hx rfl (hb hby db_0) rfl rfl ?_
    refine XS.iloadN X0.here hx rfl (hb hby db_1) rfl ?_
    refine XS.iconst X0.here hx rfl (hb hby db_2) ?_
    refine XS.iadd X0.here hx rfl (hb hby db_3) rfl ?_
    refine X0.laload hx (j := (0 : Int32)) (v := (.long (0 : Int64))) (by (try rw [e0]); exact Ar1.1) (State.isArrayOf_alike hZ.alike Ar1.2.1) Ar1.2.2 hin1 hat1 (g := (mkF m 4 #[vr o0, vi 0, vi 4, vl 0, sd, vl y1, sd, un, un] [(.int (0 : Int32)), (.ref o0)])) rfl rfl (hb hby db_4) _ ?_
    refine XS.lstore X0.here hx rfl (hb hby db_5) rfl (l' := #[vr o0, vi 0, vi 4, vl 0, sd, vl y1, sd, vl 0, sd]) rfl ?_
    refine XS.aloadN X0.here hx rfl (hb hby db_7) rfl rfl ?_
    refine XS.iloadN X0.here hx rfl (hb hby db_8) rfl ?_
    refine XS.iconst X0.here hx rfl (hb hby db_9) ?_
    refine XS.iadd X0.here hx rfl (hb hby db_10) rfl ?_
    refine XS.lload X0.here hx rfl (hb hby db_11) rfl ?_
    refine XS.lload X0.here hx rfl (hb hby db_13) rfl ?_
    refine XS.ladd X0.here hx rfl (hb hby db_15) rfl ?_
    show SS p e below s₁ (mkF m 16 #[vr o0, vi 0, vi 4, vl 0, sd, vl y1, sd, vl 0, sd] [(.long ((0 : Int64) + y1)), (.int (0 : Int32)), (.ref o0)]) _
    refine st3 _ ?_
    refine XS.iloadN X3.here hx rfl (hb hby db_17) rfl ?_
    refine XS.iconst X3.here hx rfl (hb hby db_18) ?_
    refine XS.icmpNo X3.here hx rfl (hb hby db_19) rfl (teq (by decide : (4 : Int32) = (4 : Int32))).2 ?_
    refine XS.lload X3.here hx rfl (hb hby db_22) rfl ?_
    refine XS.lconst X3.here hx rfl (hb hby db_24) ?_
    refine XS.lcmp X3.here hx rfl (hb hby db_25) rfl ?_
    refine XS.ifYes X3.here hx rfl (pc0 := 26) (pc' := 30) rfl (hb hby db_26) rfl ((if0 _ _).trans (feq (fun q => hq2 ((lw_eq y1 (0 : Int64)).mp q))).2) (by decide) (by decide) ?_
    refine XS.lload X3.here hx rfl (hb hby db_30) rfl ?_
    show SS p e below T3 (mkF m 32 #[vr o0, vi 0, vi 4, vl 0, sd, vl y1, sd, vl 0, sd] [(.long (0 : Int64))]) _
    refine XS.lconst X3.here hx rfl (hb hby db_32) ?_
    refine XS.lcmp X3.here hx rfl (hb hby db_33) rfl ?_
    refine XS.ifNo X3.here hx rfl (hb hby db_34) rfl ((if0 _ _).trans (teq ((lw_eq (0 : Int64) (0 : Int64)).mpr (by decide : (0 : Int64) = (0 : Int64)))).2) ?_
    refine XS.aloadN X3.here hx rfl (hb hby db_37) rfl rfl ?_
    refine XS.iloadN X3.here hx rfl (hb hby db_38) rfl ?_
    refine XS.iconst X3.here hx rfl (hb hby db_39) ?_
    refine XS.iadd X3.here hx rfl (hb hby db_40) rfl ?_
    refine XS.lloadN X3.here hx rfl (hb hby db_41) rfl ?_
    show SS p e below T3 (mkF m 42 #[vr o0, vi 0, vi 4, vl 0, sd, vl y1, sd, vl 0, sd] [(.long (0 : Int64)), (.int (1 : Int32)), (.ref o0)]) _
    refine st5 _ ?_
    refine XS.aloadN X5.here hx rfl (hb hby db_43) rfl rfl ?_
    refine XS.iloadN X5.here hx rfl (hb hby db_44) rfl ?_
    refine XS.iconst X5.here hx rfl (hb hby db_45) ?_
    refine XS.iadd X5.here hx rfl (hb hby db_46) rfl ?_
    refine XS.lloadN X5.here hx rfl (hb hby db_47) rfl ?_
    refine st7 _ ?_
    refine XS.aloadN X7.here hx rfl (hb hby db_49) rfl rfl ?_
    refine XS.iloadN X7.here hx rfl (hb hby db_50) rfl ?_
    refine XS.iconst X7.here hx rfl (hb hby db_51) ?_
    refine XS.iadd X7.here hx rfl (hb hby db_52) rfl ?_
    refine XS.lloadN X7.here hx rfl (hb hby db_53) rfl ?_
    refine st9 _ ?_
    refine XS.goto X9.here hx rfl (pc0 := 55) (pc' := 121) rfl (hb hby db_55) (by decide) (by decide) ?_
    refine XS.aloadN X9.here hx rfl (hb hby db_121) rfl rfl ?_
    refine XS.iloadN X9.here hx rfl (hb hby db_122) rfl ?_
    refine XS.iconst X9.here hx rfl (hb hby db_123) ?_
    refine XS.iadd X9.here hx rfl (hb hby db_124) rfl ?_
    refine XS.aloadN X9.here hx rfl (hb hby db_125) rfl rfl ?_
    refine XS.iloadN X9.here hx rfl (hb hby db_126) rfl ?_
    refine XS.iconst X9.here hx rfl (hb hby db_127) ?_
    show SS p e below T9 (mkF m 128 #[vr o0, vi 0, vi 4, vl 0, sd, vl y1, sd, vl 0, sd] [(.int (1 : Int32)), (.int (0 : Int32)), (.ref o0), (.int (1 : Int32)), (.ref o0)]) _
    refine XS.iadd X9.here hx rfl (hb hby db_128) rfl ?_
    refine X9.laload hx (j := (1 : Int32)) (v := (.long (0 : Int64))) (by (try rw [e9]); exact Ar10.1) (State.isArrayOf_alike hZ.alike Ar10.2.1) Ar10.2.2 hin10 hat10 (g := (mkF m 129 #[vr o0, vi 0, vi 4, vl 0, sd, vl y1, sd, vl 0, sd] [(.int (1 : Int32)), (.ref o0), (.int (1 : Int32)), (.ref o0)])) rfl rfl (hb hby db_129) _ ?_
    refine XS.lloadN X9.here hx rfl (hb hby db_130) rfl ?_
    refine st11 _ ?_
    refine st13 _ ?_
    show SS p e below T13 (mkF m 135 #[vr o0, vi 0, vi 4, vl 0, sd, vl y1, sd, vl 0, sd] []) _
    exact X13.returnOut hx Bd.returns (hb hby db_135) lhr
  · skip
    show QA25 Z o0 y1 kk_o0 h0 n0 _ T13.heap _
    rw [e13]
    exact ⟨rfl, N13, K13, V13⟩
theorem ef_Ad1 (m : MethodId) (x0 : Addr) (x1 : Int64) (x2 : Int64) (x3 : Int64) (x4 : Int64) : entryFrame m #[(.ref x0), (.long x1), (.long x2), (.long x3), (.long x4)] 10 = mkF m 0 #[vr x0, vl x1, sd, vl x2, sd, vl x3, sd, vl x4, sd, un] [] := by first | (simp [entryFrame, mkF, argsToLocals, Value.category]; done) | rfl
theorem dk_30 : decode prog_23_method_5_code 30 = .ok (.aload_n 0, 1) := by decide +kernel
theorem dk_31 : decode prog_23_method_5_code 31 = .ok (.iload 9, 2) := by decide +kernel
theorem dk_33 : decode prog_23_method_5_code 33 = .ok (.ineg, 1) := by decide +kernel
theorem dk_34 : decode prog_23_method_5_code 34 = .ok (.iconst 1, 1) := by decide +kernel
theorem dk_35 : decode prog_23_method_5_code 35 = .ok (.isub, 1) := by decide +kernel
theorem dk_36 : decode prog_23_method_5_code 36 = .ok (.lload_n 1, 1) := by decide +kernel
theorem dk_37 : decode prog_23_method_5_code 37 = .ok (.invokevirtual 44, 3) := by decide +kernel
theorem dk_40 : decode prog_23_method_5_code 40 = .ok (.istore 9, 2) := by decide +kernel
theorem dk_47 : decode prog_23_method_5_code 47 = .ok (.aload_n 0, 1) := by decide +kernel
theorem dk_48 : decode prog_23_method_5_code 48 = .ok (.getfield 16, 3) := by decide +kernel
theorem dk_51 : decode prog_23_method_5_code 51 = .ok (.iload 9, 2) := by decide +kernel
theorem dk_53 : decode prog_23_method_5_code 53 = .ok (.aload_n 0, 1) := by decide +kernel
theorem dk_54 : decode prog_23_method_5_code 54 = .ok (.getfield 22, 3) := by decide +kernel
theorem dk_57 : decode prog_23_method_5_code 57 = .ok (.imul, 1) := by decide +kernel
theorem dk_58 : decode prog_23_method_5_code 58 = .ok (.aload_n 0, 1) := by decide +kernel
theorem dk_59 : decode prog_23_method_5_code 59 = .ok (.getfield 22, 3) := by decide +kernel
theorem dk_62 : decode prog_23_method_5_code 62 = .ok (.lload_n 3, 1) := by decide +kernel
theorem dk_63 : decode prog_23_method_5_code 63 = .ok (.lload 5, 2) := by decide +kernel
theorem dk_65 : decode prog_23_method_5_code 65 = .ok (.invokestatic 48, 3) := by decide +kernel
theorem dk_68 : decode prog_23_method_5_code 68 = .ok (.aload_n 0, 1) := by decide +kernel
theorem dk_69 : decode prog_23_method_5_code 69 = .ok (.getfield 19, 3) := by decide +kernel
theorem dk_72 : decode prog_23_method_5_code 72 = .ok (.iload 9, 2) := by decide +kernel
theorem dk_74 : decode prog_23_method_5_code 74 = .ok (.lload 7, 2) := by decide +kernel
theorem dk_76 : decode prog_23_method_5_code 76 = .ok (.lastore, 1) := by decide +kernel
def QAd1 (Z : State) (kw : Addr) (yx : Int64) (yc : Int64) (wn : Addr) (kn : ClassId) (wd : Int32) (h0 : Heap) (n0 : Nat) (v : Option Value) (h : Heap) (L : List Loc) : Prop := ∃ (sA rA dA : Addr) (ksA krA kdA : ClassId), v = none ∧ Fr n0 L ∧ Keep h0 h [kw] ∧ h0.size ≤ sA ∧ h0.size ≤ rA ∧ h0.size ≤ dA ∧ sA ≠ rA ∧ sA ≠ dA ∧ rA ≠ dA ∧ Exa Z h kw cn2 ∧ Fld Z h kw cn2 "starts" "[J" (.ref sA) ∧ Fld Z h kw cn2 "records" "[J" (.ref rA) ∧ Fld Z h kw cn2 "decidedAt" "[J" (.ref dA) ∧ Fld Z h kw cn2 "first" "I" (.int (0 : Int32)) ∧ Fld Z h kw cn2 "end" "I" (.int (1 : Int32)) ∧ Fld Z h kw cn2 "width" "I" (.int wd) ∧ Arv Z h sA ksA .long (1 : Int32) [(.long yx)] (.long (0 : Int64)) ∧ ((wd = (1 : Int32) ∧ Arv Z h rA krA .long (1 : Int32) [(.long ((0 : Int64) + yc))] (.long (0 : Int64))) ∨ (wd = (4 : Int32) ∧ Arv Z h rA krA .long (4 : Int32) [(.long ((0 : Int64) + yc)), (.long (0 : Int64)), (.long (0 : Int64)), (.long (0 : Int64))] (.long (0 : Int64)))) ∧ Arv Z h dA kdA .long (1 : Int32) [(.long (0 : Int64))] (.long (0 : Int64))
set_option maxRecDepth 65536 in
set_option maxHeartbeats 40000000 in
theorem rmAd1 (l : Launch) (Z : State) (a0 : Array Value) (hw : ∀ d ∈ tables_1, d.before a0 Z = true) (ws : List Jvm.Cond) (kw : Addr) (yx : Int64) (yc : Int64) (wn : Addr) (kn : ClassId) (wd : Int32) (h0 : Heap) (n0 : Nat) (Z0 : n0 ≤ h0.size) (g_k : n0 ≤ kw) (E_k : Exa Z h0 kw cn2) (F_s : Fld Z h0 kw cn2 "starts" "[J" (.ref wn)) (F_r : Fld Z h0 kw cn2 "records" "[J" (.ref wn)) (F_d : Fld Z h0 kw cn2 "decidedAt" "[J" (.ref wn)) (F_1 : Fld Z h0 kw cn2 "first" "I" (.int (0 : Int32))) (F_e : Fld Z h0 kw cn2 "end" "I" (.int (0 : Int32))) (F_w : Fld Z h0 kw cn2 "width" "I" (.int wd)) (V_N : Arv Z h0 wn kn .long (0 : Int32) [] (.long (0 : Int64))) (nkn : kw ≠ wn) (hwd : wd = (1 : Int32) ∨ wd = (4 : Int32)) (hpos : (0 : Int64) < yc) :
    MetFree l mn1 (head1 (Jvm.Cond.code mn1 prog_23_method_5_code 10 none :: ws) ({ frames := 5, cells := 3, slots := 6, locals := 150 } : Room)) (fun a U => a = #[(.ref kw), (.long yx), (.long (0 : Int64)), (.long yc), (.long (0 : Int64))] ∧ Z.Warmed39 U.vm ∧ U.heap = h0) (fun _ _ _ _ _ => True) (fun _ U oc_ U' => ∃ v L, oc_ = .returned v ∧ QAd1 Z kw yx yc wn kn wd h0 n0 v U'.heap L ∧ FrameEnd U oc_ U' L ({ frames := 5, cells := 3, slots := 6, locals := 150 } : Room).cells ({ frames := 5, cells := 3, slots := 6, locals := 150 } : Room).slots) := by
  refine MetFree.of_bodySF (plainFor_of_name pn_com_example_strict_limiter_strictlimiter_KeptWindows) hisR ?_
  intro p e s m args below meth c s₁ Bd hml0 hP hK
  obtain ⟨rfl, hZ, hh⟩ := hP
  have hx := Bd.exec
  have hby := Bd.bytes
  have hml : c.maxLocals = 10 := hml0
  have hown : s.vm.findClass cn2 = some m.cls := findClass_of_methodNamed Bd.named
  have hnm := (name_of_methodNamed Bd.named Bd.method).1
  have X0 : Stand p l e ({ frames := 5, cells := 3, slots := 6, locals := 150 } : Room) s m #[(.ref kw), (.long yx), (.long (0 : Int64)), (.long yc), (.long (0 : Int64))] below meth c s₁ [] 0 0 := Stand.of_body Bd
  have e0 : s₁.heap = h0 := by rw [← hh, Bd.state]; rfl
  have N0 := Fr.nil n0
  have pre0 : ∀ t, SS p e below s₁ (mkF m 0 #[vr kw, vl yx, sd, vl 0, sd, vl yc, sd, vl 0, sd, un] []) t → Steps p.tables e below (s₁.setTop (entryFrame m #[(.ref kw), (.long yx), (.long (0 : Int64)), (.long yc), (.long (0 : Int64))] 10)) t := fun t k => castTop (ef_Ad1 m kw yx (0 : Int64) yc (0 : Int64)) k
  obtain ⟨EN, hEN⟩ : ∃ z, z = s₁.setTop (entryFrame m #[(.ref kw), (.long yx), (.long (0 : Int64)), (.long yc), (.long (0 : Int64))] 10) := ⟨_, rfl⟩
  rw [← hEN] at pre0
  have hne : ¬ yc = (0 : Int64) := fun q => by rw [q] at hpos; exact absurd hpos (by decide)
  rcases hwd with ew | ew
  · skip
    have F_wl : Fld Z h0 kw cn2 "width" "I" (.int (1 : Int32)) := by rw [← ew]; exact F_w
    obtain ⟨T1, X1, e1, st1⟩ := getF X0 hx hZ hown (wf11 hw) Via.refl e0 F_s (g := (mkF m 1 #[vr kw, vl yx, sd, vl 0, sd, vl yc, sd, vl 0, sd, un] [(.ref kw)])) rfl rfl (hb hby dk_1)
    obtain ⟨T2, X2, e2, st2⟩ := getF X1 hx hZ hown (wf24 hw) Via.refl e1 F_1 (g := (mkF m 5 #[vr kw, vl yx, sd, vl 0, sd, vl yc, sd, vl 0, sd, un] [(.ref kw), (.ref wn)])) rfl rfl (hb hby dk_5)
    obtain ⟨T3, X3, e3, st3⟩ := getF X2 hx hZ hown (wf26 hw) Via.refl e2 F_e (g := (mkF m 9 #[vr kw, vl yx, sd, vl 0, sd, vl yc, sd, vl 0, sd, un] [(.ref kw), (.int (0 : Int32)), (.ref wn)])) rfl rfl (hb hby dk_9)
    obtain ⟨_, _, ⟨T4, L4, kc4, ks4⟩, -, X4, ⟨Lc4, hQ4, l4, y4, z4⟩, st4⟩ := Jvm.LawKit.callS X3 hx (y := mn10) hown (mvT hZ (wd35 hw)) (mvT hZ (wd36 hw)) (mvT hZ (wd37 hw)) (mvT hZ (wd38 hw)) (by decide) (backOf (W := 0) (rmA1 l Z a0 hw [] wn yx _ h0 n0 Z0 V_N) hZ (wd38 hw) (wd37 hw) (by decide) (by decide)) (g := (mkF m 13 #[vr kw, vl yx, sd, vl 0, sd, vl yc, sd, vl 0, sd, un] [(.long yx), (.int (0 : Int32)), (.int (0 : Int32)), (.ref wn)])) rfl (by rw [hml]; rfl) (argsL := [(.ref wn), (.int (0 : Int32)), (.int (0 : Int32)), (.long yx)]) (rest := []) (lenOf pd___JIIJ_I rfl) rfl (by show 2 * 0 + _ ≤ _; exact Nat.le_of_eq rfl) (hb hby dk_13) (fun _ _ => ⟨rfl, e3, (by decide : 0 + 0 ≤ _), (by decide : 0 + 0 ≤ _)⟩)
    dsimp only [Pt.U, Pt.locs, Pt.cells, Pt.slots] at X4 l4 y4 z4 st4 hQ4
    subst l4 y4 z4
    obtain ⟨rfl, Nq4, eq4⟩ := hQ4
    have N4 := Fr.app N0 Nq4
    obtain ⟨cq5, q5, q5'⟩ := E_k.cell
    obtain ⟨_, _, ⟨T5, L5, kc5, ks5⟩, -, X5, ⟨Lc5, hQ5, l5, y5, z5⟩, st5⟩ := X4.privateBack hx (y := mn4) hown (mvT hZ (wd45 hw)) (mvT hZ (wd46 hw)) (own_selPriv (mvT hZ (wd1 hw)) (Cond.privateMethod_at (mvP hZ (wd47 hw) (args := #[]))) (mvT hZ (wd46 hw)) (by decide)) (Cond.privateMethod_at (mvP hZ (wd47 hw) (args := #[]))) (mvT hZ (wd48 hw)) (by decide) (backOf (W := 0) (rmA7 l Z a0 hw [] kw yx wn _ h0 n0 Z0 F_e F_s V_N F_1 E_k g_k F_r F_wl (Ne.symm nkn) F_d) hZ (wd48 hw) (wd2 hw) (by decide) (by decide)) (g := (mkF m 37 #[vr kw, vl yx, sd, vl 0, sd, vl yc, sd, vl 0, sd, vi (-1)] [(.long yx), (.int (0 : Int32)), (.ref kw)])) rfl (by rw [hml]; rfl) (Steps.refl _) (a := kw) (by rw [eq4]; exact q5) q5' (argsL := [(.int (0 : Int32)), (.long yx)]) (rest := []) (lenOf pd__IJ_I rfl) rfl (by show 2 * 0 + _ ≤ _; exact Nat.le_of_eq rfl) (hb hby dk_37) (fun _ _ => ⟨rfl, eq4, (by decide : 0 + 3 ≤ _), (by decide : 0 + 3 ≤ _)⟩)
    dsimp only [Pt.U, Pt.locs, Pt.cells, Pt.slots] at X5 l5 y5 z5 st5 hQ5
    subst l5 y5 z5
    obtain ⟨b5_0, b5_1, b5_2, kv5_3, kv5_4, kv5_5, rfl, Nq5, Kq5, sz5_0, sz5_1, sz5_2, g5_0, g5_1, g5_2, g5_3, g5_4, g5_5, g5_6, g5_7, g5_8, g5_9, g5_10, g5_11, g5_12⟩ := hQ5
    have N5 := Fr.app N4 Nq5
    have Z5 := Nat.le_trans Z0 Kq5.1
    have K5 : Keep h0 T5.heap [kw] := Keep.trans (Keep.refl h0 [kw]) Kq5 (allS (Or.inl (List.mem_of_getElem? (i := 0) rfl)) all0)
    have ne_kw_b5_0 := own_ne E_k.lt sz5_0
    have ne_wn_b5_0 := own_ne V_N.lt sz5_0
    have ge_b5_0 := Nat.le_trans Z0 sz5_0
    have sz_b5_0 : h0.size ≤ b5_0 := Nat.le_trans (Nat.le_refl _) sz5_0
    have ne_kw_b5_1 := own_ne E_k.lt sz5_1
    have ne_wn_b5_1 := own_ne V_N.lt sz5_1
    have ge_b5_1 := Nat.le_trans Z0 sz5_1
    have sz_b5_1 : h0.size ≤ b5_1 := Nat.le_trans (Nat.le_refl _) sz5_1
    have ne_kw_b5_2 := own_ne E_k.lt sz5_2
    have ne_wn_b5_2 := own_ne V_N.lt sz5_2
    have ge_b5_2 := Nat.le_trans Z0 sz5_2
    have sz_b5_2 : h0.size ≤ b5_2 := Nat.le_trans (Nat.le_refl _) sz5_2
    obtain ⟨T6, X6, e6, st6⟩ := getF X5 hx hZ hown (wf13 hw) Via.refl rfl g5_8 (g := (mkF m 48 #[vr kw, vl yx, sd, vl 0, sd, vl yc, sd, vl 0, sd, vi 0] [(.ref kw)])) rfl rfl (hb hby dk_48)
    obtain ⟨T7, X7, e7, st7⟩ := getF X6 hx hZ hown (wf17 hw) Via.refl e6 g5_9 (g := (mkF m 54 #[vr kw, vl yx, sd, vl 0, sd, vl yc, sd, vl 0, sd, vi 0] [(.ref kw), (.int (0 : Int32)), (.ref b5_1)])) rfl rfl (hb hby dk_54)
    obtain ⟨T8, X8, e8, st8⟩ := getF X7 hx hZ hown (wf17 hw) Via.refl e7 g5_9 (g := (mkF m 59 #[vr kw, vl yx, sd, vl 0, sd, vl yc, sd, vl 0, sd, vi 0] [(.ref kw), (.int (0 : Int32)), (.ref b5_1)])) rfl rfl (hb hby dk_59)
    obtain ⟨_, _, ⟨T9, L9, kc9, ks9⟩, -, X9, ⟨Lc9, hQ9, l9, y9, z9⟩, st9⟩ := Jvm.LawKit.callS X8 hx (y := mn6) hown (mvT hZ (wd65 hw)) (mvT hZ (wd66 hw)) (mvT hZ (wd67 hw)) (mvT hZ (wd68 hw)) (by decide) (backOf (W := 0) (rmA14 l Z a0 hw [] b5_1 yc _ T5.heap n0 Z5 g5_10 ge_b5_1) hZ (wd68 hw) (wd67 hw) (by decide) (by decide)) (g := (mkF m 65 #[vr kw, vl yx, sd, vl 0, sd, vl yc, sd, vl 0, sd, vi 0] [(.long yc), (.long (0 : Int64)), (.int (1 : Int32)), (.int (0 : Int32)), (.ref b5_1)])) rfl (by rw [hml]; rfl) (argsL := [(.ref b5_1), (.int (0 : Int32)), (.int (1 : Int32)), (.long (0 : Int64)), (.long yc)]) (rest := []) (lenOf pd___JIIJJ_V rfl) rfl (by show 2 * 0 + _ ≤ _; exact Nat.le_of_eq rfl) (hb hby dk_65) (fun _ _ => ⟨rfl, e8, (by decide : 3 + 0 ≤ _), (by decide : 3 + 0 ≤ _)⟩)
    dsimp only [Pt.U, Pt.locs, Pt.cells, Pt.slots] at X9 l9 y9 z9 st9 hQ9
    subst l9 y9 z9
    obtain ⟨rfl, Nq9, Kq9, g9_0⟩ := hQ9
    have N9 := Fr.app N5 Nq9
    have Z9 := Nat.le_trans Z5 Kq9.1
    have K9 := Keep.trans K5 Kq9 (allS (Or.inr sz_b5_1) all0)
    have f10 := (g5_11.keep Kq9 (ninS ne_kw_b5_1 nin0))
    obtain ⟨T11, X11, e11, st11⟩ := getF X9 hx hZ hown (wf15 hw) Via.refl rfl f10 (g := (mkF m 69 #[vr kw, vl yx, sd, vl 0, sd, vl yc, sd, vl 0, sd, vi 0] [(.ref kw)])) rfl rfl (hb hby dk_69)
    have f12 := (g5_12.keep Kq9 (ninS (Ne.symm g5_2) nin0))
    obtain ⟨cl13, Ar13, q13, S13, M13, HH13, GG13⟩ := id f12
    have hin13 : ¬ ((0 : Int32) < 0 ∨ cl13.slots.size ≤ ((0 : Int32)).toNatClampNeg) := inb_of S13 ⟨by decide, by decide⟩
    obtain ⟨T14, h14, X14, e14, W14, st14⟩ := stJ X11 hx hZ e11 Ar13 (j := (0 : Int32)) hin13 (g := (mkF m 76 #[vr kw, vl yx, sd, vl 0, sd, vl yc, sd, vl 0, sd, vi 0] [(.long (0 : Int64)), (.int (0 : Int32)), (.ref b5_2)])) rfl rfl (hb hby dk_76)
    have N14 := Fr.snoc X14 N9 ge_b5_2
    have Z14 : n0 ≤ h14.size := by rw [W14.size]; exact Z9
    have K14 := (K9.wr W14 (Or.inr sz_b5_2))
    have V14 := Arv.set Ar13 q13 S13 M13 HH13 GG13 rfl W14 0 rfl (Nat.le_of_ble_eq_true rfl)
    subst hEN
    obtain ⟨lfs, lhr, lhrun, lhended, lhW, lhsame⟩ := X14.leave (v := none) (fun _ => rfl)
    refine ⟨_, _, pre0 _ ?_, lhrun, lhended, _, _, rfl, ?_, ⟨_, rfl⟩, lhW, lhsame.mono (by decide) (by decide)⟩
    · skip
      refine XS.aloadN X0.here hx rfl (hb hby dk_0) rfl rfl ?_
      refine st1 _ ?_
      refine XS.aloadN X1.here hx rfl (hb hby dk_4) rfl rfl ?_
      refine st2 _ ?_
      refine XS.aloadN X2.here hx rfl (hb hby dk_8) rfl rfl ?_
      refine st3 _ ?_
      refine XS.lloadN X3.here hx rfl (hb hby dk_12) rfl ?_
      refine st4 _ ?_
      refine XS.istore X4.here hx rfl (hb hby dk_16) rfl (l' := #[vr kw, vl yx, sd, vl 0, sd, vl yc, sd, vl 0, sd, vi (-1)]) rfl ?_
      refine XS.iload X4.here hx rfl (hb hby dk_18) rfl ?_
      refine XS.ifNo X4.here hx rfl (hb hby dk_20) rfl ((if0 _ _).trans (tlt (by decide : (-1 : Int32) < (0 : Int32))).2.1) ?_
      refine XS.lload X4.here hx rfl (hb hby dk_23) rfl ?_
      refine XS.lconst X4.here hx rfl (hb hby dk_25) ?_
      refine XS.lcmp X4.here hx rfl (hb hby dk_26) rfl ?_
      refine XS.ifNo X4.here hx rfl (hb hby dk_27) rfl ((if0 _ _).trans (tlt ((lw_gt yc (0 : Int64)).mpr hpos)).2.2.2) ?_
      refine XS.aloadN X4.here hx rfl (hb hby dk_30) rfl rfl ?_
      show SS p e below T4 (mkF m 31 #[vr kw, vl yx, sd, vl 0, sd, vl yc, sd, vl 0, sd, vi (-1)] [(.ref kw)]) _
      refine XS.iload X4.here hx rfl (hb hby dk_31) rfl ?_
      refine XS.ineg X4.here hx rfl (hb hby dk_33) rfl ?_
      refine XS.iconst X4.here hx rfl (hb hby dk_34) ?_
      refine XS.isub X4.here hx rfl (hb hby dk_35) rfl ?_
      refine XS.lloadN X4.here hx rfl (hb hby dk_36) rfl ?_
      refine st5.trans ?_
      refine XS.istore X5.here hx rfl (hb hby dk_40) rfl (l' := #[vr kw, vl yx, sd, vl 0, sd, vl yc, sd, vl 0, sd, vi 0]) rfl ?_
      refine XS.iload X5.here hx rfl (hb hby dk_42) rfl ?_
      refine XS.ifNo X5.here hx rfl (hb hby dk_44) rfl ((if0 _ _).trans (flt (by decide : ¬ ((0 : Int32) < (0 : Int32)))).1) ?_
      refine XS.aloadN X5.here hx rfl (hb hby dk_47) rfl rfl ?_
      refine st6 _ ?_
      refine XS.iload X6.here hx rfl (hb hby dk_51) rfl ?_
      refine XS.aloadN X6.here hx rfl (hb hby dk_53) rfl rfl ?_
      refine st7 _ ?_
      refine XS.imul X7.here hx rfl (hb hby dk_57) rfl ?_
      refine XS.aloadN X7.here hx rfl (hb hby dk_58) rfl rfl ?_
      refine st8 _ ?_
      refine XS.lloadN X8.here hx rfl (hb hby dk_62) rfl ?_
      refine XS.lload X8.here hx rfl (hb hby dk_63) rfl ?_
      refine st9 _ ?_
      refine XS.aloadN X9.here hx rfl (hb hby dk_68) rfl rfl ?_
      refine st11 _ ?_
      refine XS.iload X11.here hx rfl (hb hby dk_72) rfl ?_
      refine XS.lload X11.here hx rfl (hb hby dk_74) rfl ?_
      refine st14 _ ?_
      show SS p e below T14 (mkF m 77 #[vr kw, vl yx, sd, vl 0, sd, vl yc, sd, vl 0, sd, vi 0] []) _
      exact X14.returnOut hx Bd.returns (hb hby dk_77) lhr
    · skip
      show QAd1 Z kw yx yc wn kn wd h0 n0 _ T14.heap _
      rw [e14]
      have f15 := ((g5_6.keep Kq9).wr W14)
      have f16 := ((g5_4.keep Kq9 (ninS ne_kw_b5_1 nin0)).other W14 (Or.inl ne_kw_b5_2))
      have f17 := ((g5_8.keep Kq9 (ninS ne_kw_b5_1 nin0)).other W14 (Or.inl ne_kw_b5_2))
      have f18 := (f10.other W14 (Or.inl ne_kw_b5_2))
      have f19 := ((g5_5.keep Kq9 (ninS ne_kw_b5_1 nin0)).other W14 (Or.inl ne_kw_b5_2))
      have f20 := ((g5_3.keep Kq9 (ninS ne_kw_b5_1 nin0)).other W14 (Or.inl ne_kw_b5_2))
      have f21 := ((g5_9.keep Kq9 (ninS ne_kw_b5_1 nin0)).other W14 (Or.inl ne_kw_b5_2))
      have f22 := ((g5_7.keep Kq9 (ninS g5_0 nin0)).other W14 g5_1)
      have f23 := (g9_0.other W14 g5_2)
      exact ⟨b5_0, b5_1, b5_2, _, _, _, rfl, N14, K14, sz_b5_0, sz_b5_1, sz_b5_2, g5_0, g5_1, g5_2, f15, f16, f17, f18, f19, f20, (by rw [ew]; exact f21), f22, (Or.inl ⟨ew, f23⟩), V14⟩
  · skip
    have F_wl : Fld Z h0 kw cn2 "width" "I" (.int (4 : Int32)) := by rw [← ew]; exact F_w
    obtain ⟨T24, X24, e24, st24⟩ := getF X0 hx hZ hown (wf11 hw) Via.refl e0 F_s (g := (mkF m 1 #[vr kw, vl yx, sd, vl 0, sd, vl yc, sd, vl 0, sd, un] [(.ref kw)])) rfl rfl (hb hby dk_1)
    obtain ⟨T25, X25, e25, st25⟩ := getF X24 hx hZ hown (wf24 hw) Via.refl e24 F_1 (g := (mkF m 5 #[vr kw, vl yx, sd, vl 0, sd, vl yc, sd, vl 0, sd, un] [(.ref kw), (.ref wn)])) rfl rfl (hb hby dk_5)
    obtain ⟨T26, X26, e26, st26⟩ := getF X25 hx hZ hown (wf26 hw) Via.refl e25 F_e (g := (mkF m 9 #[vr kw, vl yx, sd, vl 0, sd, vl yc, sd, vl 0, sd, un] [(.ref kw), (.int (0 : Int32)), (.ref wn)])) rfl rfl (hb hby dk_9)
    obtain ⟨_, _, ⟨T27, L27, kc27, ks27⟩, -, X27, ⟨Lc27, hQ27, l27, y27, z27⟩, st27⟩ := Jvm.LawKit.callS X26 hx (y := mn10) hown (mvT hZ (wd35 hw)) (mvT hZ (wd36 hw)) (mvT hZ (wd37 hw)) (mvT hZ (wd38 hw)) (by decide) (backOf (W := 0) (rmA1 l Z a0 hw [] wn yx _ h0 n0 Z0 V_N) hZ (wd38 hw) (wd37 hw) (by decide) (by decide)) (g := (mkF m 13 #[vr kw, vl yx, sd, vl 0, sd, vl yc, sd, vl 0, sd, un] [(.long yx), (.int (0 : Int32)), (.int (0 : Int32)), (.ref wn)])) rfl (by rw [hml]; rfl) (argsL := [(.ref wn), (.int (0 : Int32)), (.int (0 : Int32)), (.long yx)]) (rest := []) (lenOf pd___JIIJ_I rfl) rfl (by show 2 * 0 + _ ≤ _; exact Nat.le_of_eq rfl) (hb hby dk_13) (fun _ _ => ⟨rfl, e26, (by decide : 0 + 0 ≤ _), (by decide : 0 + 0 ≤ _)⟩)
    dsimp only [Pt.U, Pt.locs, Pt.cells, Pt.slots] at X27 l27 y27 z27 st27 hQ27
    subst l27 y27 z27
    obtain ⟨rfl, Nq27, eq27⟩ := hQ27
    have N27 := Fr.app N0 Nq27
    obtain ⟨cq28, q28, q28'⟩ := E_k.cell
    obtain ⟨_, _, ⟨T28, L28, kc28, ks28⟩, -, X28, ⟨Lc28, hQ28, l28, y28, z28⟩, st28⟩ := X27.privateBack hx (y := mn4) hown (mvT hZ (wd45 hw)) (mvT hZ (wd46 hw)) (own_selPriv (mvT hZ (wd1 hw)) (Cond.privateMethod_at (mvP hZ (wd47 hw) (args := #[]))) (mvT hZ (wd46 hw)) (by decide)) (Cond.privateMethod_at (mvP hZ (wd47 hw) (args := #[]))) (mvT hZ (wd48 hw)) (by decide) (backOf (W := 0) (rmA18 l Z a0 hw [] kw yx wn _ h0 n0 Z0 F_e F_s V_N F_1 E_k g_k F_r F_wl (Ne.symm nkn) F_d) hZ (wd48 hw) (wd2 hw) (by decide) (by decide)) (g := (mkF m 37 #[vr kw, vl yx, sd, vl 0, sd, vl yc, sd, vl 0, sd, vi (-1)] [(.long yx), (.int (0 : Int32)), (.ref kw)])) rfl (by rw [hml]; rfl) (Steps.refl _) (a := kw) (by rw [eq27]; exact q28) q28' (argsL := [(.int (0 : Int32)), (.long yx)]) (rest := []) (lenOf pd__IJ_I rfl) rfl (by show 2 * 0 + _ ≤ _; exact Nat.le_of_eq rfl) (hb hby dk_37) (fun _ _ => ⟨rfl, eq27, (by decide : 0 + 3 ≤ _), (by decide : 0 + 6 ≤ _)⟩)
    dsimp only [Pt.U, Pt.locs, Pt.cells, Pt.slots] at X28 l28 y28 z28 st28 hQ28
    subst l28 y28 z28
    obtain ⟨b28_0, b28_1, b28_2, kv28_3, kv28_4, kv28_5, rfl, Nq28, Kq28, sz28_0, sz28_1, sz28_2, g28_0, g28_1, g28_2, g28_3, g28_4, g28_5, g28_6, g28_7, g28_8, g28_9, g28_10, g28_11, g28_12⟩ := hQ28
    have N28 := Fr.app N27 Nq28
    have Z28 := Nat.le_trans Z0 Kq28.1
    have K28 : Keep h0 T28.heap [kw] := Keep.trans (Keep.refl h0 [kw]) Kq28 (allS (Or.inl (List.mem_of_getElem? (i := 0) rfl)) all0)
    have ne_kw_b28_0 := own_ne E_k.lt sz28_0
    have ne_wn_b28_0 := own_ne V_N.lt sz28_0
    have ge_b28_0 := Nat.le_trans Z0 sz28_0
    have sz_b28_0 : h0.size ≤ b28_0 := Nat.le_trans (Nat.le_refl _) sz28_0
    have ne_kw_b28_1 := own_ne E_k.lt sz28_1
    have ne_wn_b28_1 := own_ne V_N.lt sz28_1
    have ge_b28_1 := Nat.le_trans Z0 sz28_1
    have sz_b28_1 : h0.size ≤ b28_1 := Nat.le_trans (Nat.le_refl _) sz28_1
    have ne_kw_b28_2 := own_ne E_k.lt sz28_2
    have ne_wn_b28_2 := own_ne V_N.lt sz28_2
    have ge_b28_2 := Nat.le_trans Z0 sz28_2
    have sz_b28_2 : h0.size ≤ b28_2 := Nat.le_trans (Nat.le_refl _) sz28_2
    obtain ⟨T29, X29, e29, st29⟩ := getF X28 hx hZ hown (wf13 hw) Via.refl rfl g28_8 (g := (mkF m 48 #[vr kw, vl yx, sd, vl 0, sd, vl yc, sd, vl 0, sd, vi 0] [(.ref kw)])) rfl rfl (hb hby dk_48)
    obtain ⟨T30, X30, e30, st30⟩ := getF X29 hx hZ hown (wf17 hw) Via.refl e29 g28_9 (g := (mkF m 54 #[vr kw, vl yx, sd, vl 0, sd, vl yc, sd, vl 0, sd, vi 0] [(.ref kw), (.int (0 : Int32)), (.ref b28_1)])) rfl rfl (hb hby dk_54)
    obtain ⟨T31, X31, e31, st31⟩ := getF X30 hx hZ hown (wf17 hw) Via.refl e30 g28_9 (g := (mkF m 59 #[vr kw, vl yx, sd, vl 0, sd, vl yc, sd, vl 0, sd, vi 0] [(.ref kw), (.int (0 : Int32)), (.ref b28_1)])) rfl rfl (hb hby dk_59)
    obtain ⟨_, _, ⟨T32, L32, kc32, ks32⟩, -, X32, ⟨Lc32, hQ32, l32, y32, z32⟩, st32⟩ := Jvm.LawKit.callS X31 hx (y := mn6) hown (mvT hZ (wd65 hw)) (mvT hZ (wd66 hw)) (mvT hZ (wd67 hw)) (mvT hZ (wd68 hw)) (by decide) (backOf (W := 0) (rmA25 l Z a0 hw [] b28_1 yc _ T28.heap n0 Z28 g28_10 ge_b28_1 hne) hZ (wd68 hw) (wd67 hw) (by decide) (by decide)) (g := (mkF m 65 #[vr kw, vl yx, sd, vl 0, sd, vl yc, sd, vl 0, sd, vi 0] [(.long yc), (.long (0 : Int64)), (.int (4 : Int32)), (.int (0 : Int32)), (.ref b28_1)])) rfl (by rw [hml]; rfl) (argsL := [(.ref b28_1), (.int (0 : Int32)), (.int (4 : Int32)), (.long (0 : Int64)), (.long yc)]) (rest := []) (lenOf pd___JIIJJ_V rfl) rfl (by show 2 * 0 + _ ≤ _; exact Nat.le_of_eq rfl) (hb hby dk_65) (fun _ _ => ⟨rfl, e31, (by decide : 3 + 0 ≤ _), (by decide : 6 + 0 ≤ _)⟩)
    dsimp only [Pt.U, Pt.locs, Pt.cells, Pt.slots] at X32 l32 y32 z32 st32 hQ32
    subst l32 y32 z32
    obtain ⟨rfl, Nq32, Kq32, g32_0⟩ := hQ32
    have N32 := Fr.app N28 Nq32
    have Z32 := Nat.le_trans Z28 Kq32.1
    have K32 := Keep.trans K28 Kq32 (allS (Or.inr sz_b28_1) all0)
    have f33 := (g28_11.keep Kq32 (ninS ne_kw_b28_1 nin0))
    obtain ⟨T34, X34, e34, st34⟩ := getF X32 hx hZ hown (wf15 hw) Via.refl rfl f33 (g := (mkF m 69 #[vr kw, vl yx, sd, vl 0, sd, vl yc, sd, vl 0, sd, vi 0] [(.ref kw)])) rfl rfl (hb hby dk_69)
    have f35 := (g28_12.keep Kq32 (ninS (Ne.symm g28_2) nin0))
    obtain ⟨cl36, Ar36, q36, S36, M36, HH36, GG36⟩ := id f35
    have hin36 : ¬ ((0 : Int32) < 0 ∨ cl36.slots.size ≤ ((0 : Int32)).toNatClampNeg) := inb_of S36 ⟨by decide, by decide⟩
    obtain ⟨T37, h37, X37, e37, W37, st37⟩ := stJ X34 hx hZ e34 Ar36 (j := (0 : Int32)) hin36 (g := (mkF m 76 #[vr kw, vl yx, sd, vl 0, sd, vl yc, sd, vl 0, sd, vi 0] [(.long (0 : Int64)), (.int (0 : Int32)), (.ref b28_2)])) rfl rfl (hb hby dk_76)
    have N37 := Fr.snoc X37 N32 ge_b28_2
    have Z37 : n0 ≤ h37.size := by rw [W37.size]; exact Z32
    have K37 := (K32.wr W37 (Or.inr sz_b28_2))
    have V37 := Arv.set Ar36 q36 S36 M36 HH36 GG36 rfl W37 0 rfl (Nat.le_of_ble_eq_true rfl)
    subst hEN
    obtain ⟨lfs, lhr, lhrun, lhended, lhW, lhsame⟩ := X37.leave (v := none) (fun _ => rfl)
    refine ⟨_, _, pre0 _ ?_, lhrun, lhended, _, _, rfl, ?_, ⟨_, rfl⟩, lhW, lhsame.mono (by decide) (by decide)⟩
    · skip
      refine XS.aloadN X0.here hx rfl (hb hby dk_0) rfl rfl ?_
      refine st24 _ ?_
      refine XS.aloadN X24.here hx rfl (hb hby dk_4) rfl rfl ?_
      refine st25 _ ?_
      refine XS.aloadN X25.here hx rfl (hb hby dk_8) rfl rfl ?_
      refine st26 _ ?_
      refine XS.lloadN X26.here hx rfl (hb hby dk_12) rfl ?_
      refine st27 _ ?_
      refine XS.istore X27.here hx rfl (hb hby dk_16) rfl (l' := #[vr kw, vl yx, sd, vl 0, sd, vl yc, sd, vl 0, sd, vi (-1)]) rfl ?_
      refine XS.iload X27.here hx rfl (hb hby dk_18) rfl ?_
      refine XS.ifNo X27.here hx rfl (hb hby dk_20) rfl ((if0 _ _).trans (tlt (by decide : (-1 : Int32) < (0 : Int32))).2.1) ?_
      refine XS.lload X27.here hx rfl (hb hby dk_23) rfl ?_
      refine XS.lconst X27.here hx rfl (hb hby dk_25) ?_
      refine XS.lcmp X27.here hx rfl (hb hby dk_26) rfl ?_
      refine XS.ifNo X27.here hx rfl (hb hby dk_27) rfl ((if0 _ _).trans (tlt ((lw_gt yc (0 : Int64)).mpr hpos)).2.2.2) ?_
      refine XS.aloadN X27.here hx rfl (hb hby dk_30) rfl rfl ?_
      show SS p e below T27 (mkF m 31 #[vr kw, vl yx, sd, vl 0, sd, vl yc, sd, vl 0, sd, vi (-1)] [(.ref kw)]) _
      refine XS.iload X27.here hx rfl (hb hby dk_31) rfl ?_
      refine XS.ineg X27.here hx rfl (hb hby dk_33) rfl ?_
      refine XS.iconst X27.here hx rfl (hb hby dk_34) ?_
      refine XS.isub X27.here hx rfl (hb hby dk_35) rfl ?_
      refine XS.lloadN X27.here hx rfl (hb hby dk_36) rfl ?_
      refine st28.trans ?_
      refine XS.istore X28.here hx rfl (hb hby dk_40) rfl (l' := #[vr kw, vl yx, sd, vl 0, sd, vl yc, sd, vl 0, sd, vi 0]) rfl ?_
      refine XS.iload X28.here hx rfl (hb hby dk_42) rfl ?_
      refine XS.ifNo X28.here hx rfl (hb hby dk_44) rfl ((if0 _ _).trans (flt (by decide : ¬ ((0 : Int32) < (0 : Int32)))).1) ?_
      refine XS.aloadN X28.here hx rfl (hb hby dk_47) rfl rfl ?_
      refine st29 _ ?_
      refine XS.iload X29.here hx rfl (hb hby dk_51) rfl ?_
      refine XS.aloadN X29.here hx rfl (hb hby dk_53) rfl rfl ?_
      refine st30 _ ?_
      refine XS.imul X30.here hx rfl (hb hby dk_57) rfl ?_
      refine XS.aloadN X30.here hx rfl (hb hby dk_58) rfl rfl ?_
      refine st31 _ ?_
      refine XS.lloadN X31.here hx rfl (hb hby dk_62) rfl ?_
      refine XS.lload X31.here hx rfl (hb hby dk_63) rfl ?_
      refine st32 _ ?_
      refine XS.aloadN X32.here hx rfl (hb hby dk_68) rfl rfl ?_
      refine st34 _ ?_
      refine XS.iload X34.here hx rfl (hb hby dk_72) rfl ?_
      refine XS.lload X34.here hx rfl (hb hby dk_74) rfl ?_
      refine st37 _ ?_
      show SS p e below T37 (mkF m 77 #[vr kw, vl yx, sd, vl 0, sd, vl yc, sd, vl 0, sd, vi 0] []) _
      exact X37.returnOut hx Bd.returns (hb hby dk_77) lhr
    · skip
      show QAd1 Z kw yx yc wn kn wd h0 n0 _ T37.heap _
      rw [e37]
      have f38 := ((g28_6.keep Kq32).wr W37)
      have f39 := ((g28_4.keep Kq32 (ninS ne_kw_b28_1 nin0)).other W37 (Or.inl ne_kw_b28_2))
      have f40 := ((g28_8.keep Kq32 (ninS ne_kw_b28_1 nin0)).other W37 (Or.inl ne_kw_b28_2))
      have f41 := (f33.other W37 (Or.inl ne_kw_b28_2))
      have f42 := ((g28_5.keep Kq32 (ninS ne_kw_b28_1 nin0)).other W37 (Or.inl ne_kw_b28_2))
      have f43 := ((g28_3.keep Kq32 (ninS ne_kw_b28_1 nin0)).other W37 (Or.inl ne_kw_b28_2))
      have f44 := ((g28_9.keep Kq32 (ninS ne_kw_b28_1 nin0)).other W37 (Or.inl ne_kw_b28_2))
      have f45 := ((g28_7.keep Kq32 (ninS g28_0 nin0)).other W37 g28_1)
      have f46 := (g32_0.other W37 g28_2)
      exact ⟨b28_0, b28_1, b28_2, _, _, _, rfl, N37, K37, sz_b28_0, sz_b28_1, sz_b28_2, g28_0, g28_1, g28_2, f38, f39, f40, f41, f42, f43, (by rw [ew]; exact f44), f45, (Or.inr ⟨ew, f46⟩), V37⟩
theorem dl_15 : decode jdk_65_method_56_code 15 = .ok (.iload 5, 2) := by decide +kernel
theorem dl_17 : decode jdk_65_method_56_code 17 = .ok (.iload 6, 2) := by decide +kernel
theorem dl_19 : decode jdk_65_method_56_code 19 = .ok (.iadd, 1) := by decide +kernel
theorem dl_20 : decode jdk_65_method_56_code 20 = .ok (.iconst 1, 1) := by decide +kernel
theorem dl_21 : decode jdk_65_method_56_code 21 = .ok (.iushr, 1) := by decide +kernel
theorem dl_22 : decode jdk_65_method_56_code 22 = .ok (.istore 7, 2) := by decide +kernel
theorem dl_24 : decode jdk_65_method_56_code 24 = .ok (.aload_n 0, 1) := by decide +kernel
theorem dl_25 : decode jdk_65_method_56_code 25 = .ok (.iload 7, 2) := by decide +kernel
theorem dl_27 : decode jdk_65_method_56_code 27 = .ok (.laload, 1) := by decide +kernel
theorem dl_28 : decode jdk_65_method_56_code 28 = .ok (.lstore 8, 2) := by decide +kernel
theorem dl_30 : decode jdk_65_method_56_code 30 = .ok (.lload 8, 2) := by decide +kernel
theorem dl_32 : decode jdk_65_method_56_code 32 = .ok (.lload_n 3, 1) := by decide +kernel
theorem dl_33 : decode jdk_65_method_56_code 33 = .ok (.lcmp, 1) := by decide +kernel
theorem dl_34 : decode jdk_65_method_56_code 34 = .ok (.ifCond .ge 12, 3) := by decide +kernel
theorem dl_46 : decode jdk_65_method_56_code 46 = .ok (.lload 8, 2) := by decide +kernel
theorem dl_48 : decode jdk_65_method_56_code 48 = .ok (.lload_n 3, 1) := by decide +kernel
theorem dl_49 : decode jdk_65_method_56_code 49 = .ok (.lcmp, 1) := by decide +kernel
theorem dl_50 : decode jdk_65_method_56_code 50 = .ok (.ifCond .le 12, 3) := by decide +kernel
theorem dl_53 : decode jdk_65_method_56_code 53 = .ok (.iload 7, 2) := by decide +kernel
theorem dl_55 : decode jdk_65_method_56_code 55 = .ok (.iconst 1, 1) := by decide +kernel
theorem dl_56 : decode jdk_65_method_56_code 56 = .ok (.isub, 1) := by decide +kernel
theorem dl_57 : decode jdk_65_method_56_code 57 = .ok (.istore 6, 2) := by decide +kernel
theorem dl_59 : decode jdk_65_method_56_code 59 = .ok (.goto 6, 3) := by decide +kernel
theorem dl_65 : decode jdk_65_method_56_code 65 = .ok (.goto (-57), 3) := by decide +kernel
def QA29 (Z : State) (o0 : Addr) (y1 : Int64) (y2 : Int64) (kk_o0 : ClassId) (h0 : Heap) (n0 : Nat) (v : Option Value) (h : Heap) (L : List Loc) : Prop := v = some (.int (-1 : Int32)) ∧ Fr n0 L ∧ h = h0
set_option maxRecDepth 65536 in
set_option maxHeartbeats 40000000 in
theorem rmA29 (l : Launch) (Z : State) (a0 : Array Value) (hw : ∀ d ∈ tables_1, d.before a0 Z = true) (ws : List Jvm.Cond) (o0 : Addr) (y1 : Int64) (y2 : Int64) (kk_o0 : ClassId) (h0 : Heap) (n0 : Nat) (Z0 : n0 ≤ h0.size) (V_o0 : Arv Z h0 o0 kk_o0 .long (1 : Int32) [(.long y2)] (.long (0 : Int64))) (hq1 : ¬ (y2 < y1)) (hq2 : y1 < y2) :
    MetFree l mn11 (head1 (Jvm.Cond.code mn11 jdk_65_method_56_code 10 (some .int) :: ws) ({ frames := 0, cells := 0, slots := 0, locals := 0 } : Room)) (fun a U => a = #[(.ref o0), (.int (0 : Int32)), (.int (1 : Int32)), (.long y1)] ∧ Z.Warmed39 U.vm ∧ U.heap = h0) (fun _ _ _ _ _ => True) (fun _ U oc_ U' => ∃ v L, oc_ = .returned v ∧ QA29 Z o0 y1 y2 kk_o0 h0 n0 v U'.heap L ∧ FrameEnd U oc_ U' L ({ frames := 0, cells := 0, slots := 0, locals := 0 } : Room).cells ({ frames := 0, cells := 0, slots := 0, locals := 0 } : Room).slots) := by
  refine MetFree.of_bodySF (plainFor_of_name pn_java_util_Arrays) hisR ?_
  intro p e s m args below meth c s₁ Bd hml0 hP hK
  obtain ⟨rfl, hZ, hh⟩ := hP
  have hx := Bd.exec
  have hby := Bd.bytes
  have hml : c.maxLocals = 10 := hml0
  have hown : s.vm.findClass "java/util/Arrays" = some m.cls := findClass_of_methodNamed Bd.named
  have hnm := (name_of_methodNamed Bd.named Bd.method).1
  have X0 : Stand p l e ({ frames := 0, cells := 0, slots := 0, locals := 0 } : Room) s m #[(.ref o0), (.int (0 : Int32)), (.int (1 : Int32)), (.long y1)] below meth c s₁ [] 0 0 := Stand.of_body Bd
  have e0 : s₁.heap = h0 := by rw [← hh, Bd.state]; rfl
  have N0 := Fr.nil n0
  have pre0 : ∀ t, SS p e below s₁ (mkF m 0 #[vr o0, vi 0, vi 1, vl y1, sd, un, un, un, un, un] []) t → Steps p.tables e below (s₁.setTop (entryFrame m #[(.ref o0), (.int (0 : Int32)), (.int (1 : Int32)), (.long y1)] 10)) t := fun t k => castTop (efa_jdk_65_method_56_code_vvvv m o0 (0 : Int32) (1 : Int32) y1) k
  obtain ⟨EN, hEN⟩ : ∃ z, z = s₁.setTop (entryFrame m #[(.ref o0), (.int (0 : Int32)), (.int (1 : Int32)), (.long y1)] 10) := ⟨_, rfl⟩
  rw [← hEN] at pre0
  obtain ⟨cl1, Ar1, q1, S1, M1, HH1, GG1⟩ := id V_o0
  have hin1 : ¬ ((0 : Int32) < 0 ∨ cl1.slots.size ≤ ((0 : Int32)).toNatClampNeg) := inb_of S1 ⟨by decide, by decide⟩
  have hat1 : cl1.slots[((0 : Int32)).toNatClampNeg]? = some (.long y2) := Has.at HH1 hin1 rfl
  subst hEN
  obtain ⟨lfs, lhr, lhrun, lhended, lhW, lhsame⟩ := X0.leave (v := some (.int (-1 : Int32))) (fun h => by rw [Bd.returns] at h; cases h)
  refine ⟨_, _, pre0 _ ?_, lhrun, lhended, _, _, rfl, ?_, ⟨_, rfl⟩, lhW, lhsame.mono (by decide) (by decide)⟩
  · skip
    refine XS.iloadN X0.here hx rfl (hb hby dl_0) rfl ?_
    refine XS.istore X0.here hx rfl (hb hby dl_1) rfl (l' := #[vr o0, vi 0, vi 1, vl y1, sd, vi 0, un, un, un, un]) rfl ?_
    refine XS.iloadN X0.here hx rfl (hb hby dl_3) rfl ?_
    refine XS.iconst X0.here hx rfl (hb hby dl_4) ?_
    refine XS.isub X0.here hx rfl (hb hby dl_5) rfl ?_
    refine XS.istore X0.here hx rfl (hb hby dl_6) rfl (l' := #[vr o0, vi 0, vi 1, vl y1, sd, vi 0, vi 0, un, un, un]) rfl ?_
    refine XS.iload X0.here hx rfl (hb hby dl_8) rfl ?_
    refine XS.iload X0.here hx rfl (hb hby dl_10) rfl ?_
    show SS p e below s₁ (mkF m 12 #[vr o0, vi 0, vi 1, vl y1, sd, vi 0, vi 0, un, un, un] [(.int (0 : Int32)), (.int (0 : Int32))]) _
    refine XS.icmpNo X0.here hx rfl (hb hby dl_12) rfl (flt (by decide : ¬ ((0 : Int32) < (0 : Int32)))).2.2.1 ?_
    refine XS.iload X0.here hx rfl (hb hby dl_15) rfl ?_
    refine XS.iload X0.here hx rfl (hb hby dl_17) rfl ?_
    refine XS.iadd X0.here hx rfl (hb hby dl_19) rfl ?_
    refine XS.iconst X0.here hx rfl (hb hby dl_20) ?_
    refine XS.iushr X0.here hx rfl (hb hby dl_21) rfl ?_
    refine XS.istore X0.here hx rfl (hb hby dl_22) rfl (l' := #[vr o0, vi 0, vi 1, vl y1, sd, vi 0, vi 0, vi 0, un, un]) rfl ?_
    refine XS.aloadN X0.here hx rfl (hb hby dl_24) rfl rfl ?_
    show SS p e below s₁ (mkF m 25 #[vr o0, vi 0, vi 1, vl y1, sd, vi 0, vi 0, vi 0, un, un] [(.ref o0)]) _
    refine XS.iload X0.here hx rfl (hb hby dl_25) rfl ?_
    refine X0.laload hx (j := (0 : Int32)) (v := (.long y2)) (by (try rw [e0]); exact Ar1.1) (State.isArrayOf_alike hZ.alike Ar1.2.1) Ar1.2.2 hin1 hat1 (g := (mkF m 27 #[vr o0, vi 0, vi 1, vl y1, sd, vi 0, vi 0, vi 0, un, un] [(.int (0 : Int32)), (.ref o0)])) rfl rfl (hb hby dl_27) _ ?_
    refine XS.lstore X0.here hx rfl (hb hby dl_28) rfl (l' := #[vr o0, vi 0, vi 1, vl y1, sd, vi 0, vi 0, vi 0, vl y2, sd]) rfl ?_
    refine XS.lload X0.here hx rfl (hb hby dl_30) rfl ?_
    refine XS.lloadN X0.here hx rfl (hb hby dl_32) rfl ?_
    refine XS.lcmp X0.here hx rfl (hb hby dl_33) rfl ?_
    refine XS.ifYes X0.here hx rfl (pc0 := 34) (pc' := 46) rfl (hb hby dl_34) rfl ((if0 _ _).trans (flt (fun q => hq1 ((lw_lt y2 y1).mp q))).2.1) (by decide) (by decide) ?_
    refine XS.lload X0.here hx rfl (hb hby dl_46) rfl ?_
    refine XS.lloadN X0.here hx rfl (hb hby dl_48) rfl ?_
    refine XS.lcmp X0.here hx rfl (hb hby dl_49) rfl ?_
    show SS p e below s₁ (mkF m 50 #[vr o0, vi 0, vi 1, vl y1, sd, vi 0, vi 0, vi 0, vl y2, sd] [(.int (lcmpW y2 y1))]) _
    refine XS.ifNo X0.here hx rfl (hb hby dl_50) rfl ((if0 _ _).trans (tlt ((lw_gt y2 y1).mpr hq2)).2.2.2) ?_
    refine XS.iload X0.here hx rfl (hb hby dl_53) rfl ?_
    refine XS.iconst X0.here hx rfl (hb hby dl_55) ?_
    refine XS.isub X0.here hx rfl (hb hby dl_56) rfl ?_
    refine XS.istore X0.here hx rfl (hb hby dl_57) rfl (l' := #[vr o0, vi 0, vi 1, vl y1, sd, vi 0, vi (-1), vi 0, vl y2, sd]) rfl ?_
    refine XS.goto X0.here hx rfl (pc0 := 59) (pc' := 65) rfl (hb hby dl_59) (by decide) (by decide) ?_
    refine XS.goto X0.here hx rfl (pc0 := 65) (pc' := 8) rfl (hb hby dl_65) (by decide) (by decide) ?_
    refine XS.iload X0.here hx rfl (hb hby dl_8) rfl ?_
    show SS p e below s₁ (mkF m 10 #[vr o0, vi 0, vi 1, vl y1, sd, vi 0, vi (-1), vi 0, vl y2, sd] [(.int (0 : Int32))]) _
    refine XS.iload X0.here hx rfl (hb hby dl_10) rfl ?_
    refine XS.icmpYes X0.here hx rfl (pc0 := 12) (pc' := 68) rfl (hb hby dl_12) rfl (tlt (by decide : (-1 : Int32) < (0 : Int32))).2.2.1 (by decide) (by decide) ?_
    refine XS.iload X0.here hx rfl (hb hby dl_68) rfl ?_
    refine XS.iconst X0.here hx rfl (hb hby dl_70) ?_
    refine XS.iadd X0.here hx rfl (hb hby dl_71) rfl ?_
    refine XS.ineg X0.here hx rfl (hb hby dl_72) rfl ?_
    show SS p e below s₁ (mkF m 73 #[vr o0, vi 0, vi 1, vl y1, sd, vi 0, vi (-1), vi 0, vl y2, sd] [(.int (-1 : Int32))]) _
    exact retI X0 hx Bd.returns (hb hby dl_73) lhr
  · skip
    show QA29 Z o0 y1 y2 kk_o0 h0 n0 _ s₁.heap _
    rw [e0]
    exact ⟨rfl, N0, rfl⟩
def QA27 (Z : State) (o0 : Addr) (y1 : Int64) (y2 : Int64) (kk_o0 : ClassId) (h0 : Heap) (n0 : Nat) (v : Option Value) (h : Heap) (L : List Loc) : Prop := v = some (.int (-1 : Int32)) ∧ Fr n0 L ∧ h = h0
set_option maxRecDepth 65536 in
set_option maxHeartbeats 40000000 in
theorem rmA27 (l : Launch) (Z : State) (a0 : Array Value) (hw : ∀ d ∈ tables_1, d.before a0 Z = true) (ws : List Jvm.Cond) (o0 : Addr) (y1 : Int64) (y2 : Int64) (kk_o0 : ClassId) (h0 : Heap) (n0 : Nat) (Z0 : n0 ≤ h0.size) (V_o0 : Arv Z h0 o0 kk_o0 .long (1 : Int32) [(.long y2)] (.long (0 : Int64))) (hq1 : ¬ (y2 < y1)) (hq2 : y1 < y2) :
    MetFree l mn10 (head1 (Jvm.Cond.code mn10 jdk_65_method_55_code 5 (some .int) :: ws) ({ frames := 1, cells := 0, slots := 0, locals := 21 } : Room)) (fun a U => a = #[(.ref o0), (.int (0 : Int32)), (.int (1 : Int32)), (.long y1)] ∧ Z.Warmed39 U.vm ∧ U.heap = h0) (fun _ _ _ _ _ => True) (fun _ U oc_ U' => ∃ v L, oc_ = .returned v ∧ QA27 Z o0 y1 y2 kk_o0 h0 n0 v U'.heap L ∧ FrameEnd U oc_ U' L ({ frames := 1, cells := 0, slots := 0, locals := 21 } : Room).cells ({ frames := 1, cells := 0, slots := 0, locals := 21 } : Room).slots) := by
  refine MetFree.of_bodySF (plainFor_of_name pn_java_util_Arrays) hisR ?_
  intro p e s m args below meth c s₁ Bd hml0 hP hK
  obtain ⟨rfl, hZ, hh⟩ := hP
  have hx := Bd.exec
  have hby := Bd.bytes
  have hml : c.maxLocals = 5 := hml0
  have hown : s.vm.findClass "java/util/Arrays" = some m.cls := findClass_of_methodNamed Bd.named
  have hnm := (name_of_methodNamed Bd.named Bd.method).1
  have X0 : Stand p l e ({ frames := 1, cells := 0, slots := 0, locals := 21 } : Room) s m #[(.ref o0), (.int (0 : Int32)), (.int (1 : Int32)), (.long y1)] below meth c s₁ [] 0 0 := Stand.of_body Bd
  have e0 : s₁.heap = h0 := by rw [← hh, Bd.state]; rfl
  have N0 := Fr.nil n0
  have pre0 : ∀ t, SS p e below s₁ (mkF m 0 #[vr o0, vi 0, vi 1, vl y1, sd] []) t → Steps p.tables e below (s₁.setTop (entryFrame m #[(.ref o0), (.int (0 : Int32)), (.int (1 : Int32)), (.long y1)] 5)) t := fun t k => castTop (efa_jdk_65_method_55_code_vvvv m o0 (0 : Int32) (1 : Int32) y1) k
  obtain ⟨EN, hEN⟩ : ∃ z, z = s₁.setTop (entryFrame m #[(.ref o0), (.int (0 : Int32)), (.int (1 : Int32)), (.long y1)] 5) := ⟨_, rfl⟩
  rw [← hEN] at pre0
  obtain ⟨cl1, Ar1, -, S1, M1, -, -⟩ := id V_o0
  obtain ⟨_, _, ⟨T2, L2, kc2, ks2⟩, -, X2, ⟨Lc2, hQ2, l2, y2, z2⟩, st2⟩ := Jvm.LawKit.callS X0 hx (y := mn13) hown (mvT hZ (wd39 hw)) (mvT hZ (wd40 hw)) (mvT hZ (wd37 hw)) (mvT hZ (wd41 hw)) (by decide) (backOf (W := 0) (rmA13 l Z a0 hw []  h0 n0 Z0 ) hZ (wd41 hw) (wd37 hw) (by decide) (by decide)) (g := (mkF m 4 #[vr o0, vi 0, vi 1, vl y1, sd] [(.int (1 : Int32)), (.int (0 : Int32)), (.int (1 : Int32))])) rfl (by rw [hml]; rfl) (argsL := [(.int (1 : Int32)), (.int (0 : Int32)), (.int (1 : Int32))]) (rest := []) (lenOf pd__III_V rfl) rfl (by show 2 * 0 + _ ≤ _; exact Nat.le_of_eq rfl) (hb hby dc_4) (fun _ _ => ⟨rfl, e0, (by decide : 0 + 0 ≤ _), (by decide : 0 + 0 ≤ _)⟩)
  dsimp only [Pt.U, Pt.locs, Pt.cells, Pt.slots] at X2 l2 y2 z2 st2 hQ2
  subst l2 y2 z2
  obtain ⟨rfl, Nq2, eq2⟩ := hQ2
  have N2 := Fr.app N0 Nq2
  obtain ⟨_, _, ⟨T3, L3, kc3, ks3⟩, -, X3, ⟨Lc3, hQ3, l3, y3, z3⟩, st3⟩ := Jvm.LawKit.callS X2 hx (y := mn11) hown (mvT hZ (wd42 hw)) (mvT hZ (wd43 hw)) (mvT hZ (wd37 hw)) (mvT hZ (wd44 hw)) (by decide) (backOf (W := 0) (rmA29 l Z a0 hw [] o0 y1 y2 _ h0 n0 Z0 V_o0 hq1 hq2) hZ (wd44 hw) (wd37 hw) (by decide) (by decide)) (g := (mkF m 11 #[vr o0, vi 0, vi 1, vl y1, sd] [(.long y1), (.int (1 : Int32)), (.int (0 : Int32)), (.ref o0)])) rfl (by rw [hml]; rfl) (argsL := [(.ref o0), (.int (0 : Int32)), (.int (1 : Int32)), (.long y1)]) (rest := []) (lenOf pd___JIIJ_I rfl) rfl (by show 2 * 0 + _ ≤ _; exact Nat.le_of_eq rfl) (hb hby dc_11) (fun _ _ => ⟨rfl, eq2, (by decide : 0 + 0 ≤ _), (by decide : 0 + 0 ≤ _)⟩)
  dsimp only [Pt.U, Pt.locs, Pt.cells, Pt.slots] at X3 l3 y3 z3 st3 hQ3
  subst l3 y3 z3
  obtain ⟨rfl, Nq3, eq3⟩ := hQ3
  have N3 := Fr.app N2 Nq3
  subst hEN
  obtain ⟨lfs, lhr, lhrun, lhended, lhW, lhsame⟩ := X3.leave (v := some (.int (-1 : Int32))) (fun h => by rw [Bd.returns] at h; cases h)
  refine ⟨_, _, pre0 _ ?_, lhrun, lhended, _, _, rfl, ?_, ⟨_, rfl⟩, lhW, lhsame.mono (by decide) (by decide)⟩
  · skip
    refine XS.aloadN X0.here hx rfl (hb hby dc_0) rfl rfl ?_
    refine X0.arraylength hx (by (try rw [e0]); exact Ar1.1) (State.isArrayOf_alike hZ.alike Ar1.2.1) (g := (mkF m 1 #[vr o0, vi 0, vi 1, vl y1, sd] [(.ref o0)])) rfl rfl (hb hby dc_1) _ ?_
    rw [len_of S1 M1]
    refine XS.iloadN X0.here hx rfl (hb hby dc_2) rfl ?_
    refine XS.iloadN X0.here hx rfl (hb hby dc_3) rfl ?_
    refine st2 _ ?_
    refine XS.aloadN X2.here hx rfl (hb hby dc_7) rfl rfl ?_
    refine XS.iloadN X2.here hx rfl (hb hby dc_8) rfl ?_
    refine XS.iloadN X2.here hx rfl (hb hby dc_9) rfl ?_
    refine XS.lloadN X2.here hx rfl (hb hby dc_10) rfl ?_
    refine st3 _ ?_
    show SS p e below T3 (mkF m 14 #[vr o0, vi 0, vi 1, vl y1, sd] [(.int (-1 : Int32))]) _
    exact retI X3 hx Bd.returns (hb hby dc_14) lhr
  · skip
    show QA27 Z o0 y1 y2 kk_o0 h0 n0 _ T3.heap _
    rw [eq3]
    exact ⟨rfl, N3, rfl⟩
theorem dl_62 : decode jdk_65_method_56_code 62 = .ok (.iload 7, 2) := by decide +kernel
theorem dl_64 : decode jdk_65_method_56_code 64 = .ok (.ireturn, 1) := by decide +kernel
def QA32 (Z : State) (o0 : Addr) (y1 : Int64) (kk_o0 : ClassId) (h0 : Heap) (n0 : Nat) (v : Option Value) (h : Heap) (L : List Loc) : Prop := v = some (.int (0 : Int32)) ∧ Fr n0 L ∧ h = h0
set_option maxRecDepth 65536 in
set_option maxHeartbeats 40000000 in
theorem rmA32 (l : Launch) (Z : State) (a0 : Array Value) (hw : ∀ d ∈ tables_1, d.before a0 Z = true) (ws : List Jvm.Cond) (o0 : Addr) (y1 : Int64) (kk_o0 : ClassId) (h0 : Heap) (n0 : Nat) (Z0 : n0 ≤ h0.size) (V_o0 : Arv Z h0 o0 kk_o0 .long (1 : Int32) [(.long y1)] (.long (0 : Int64))) :
    MetFree l mn11 (head1 (Jvm.Cond.code mn11 jdk_65_method_56_code 10 (some .int) :: ws) ({ frames := 0, cells := 0, slots := 0, locals := 0 } : Room)) (fun a U => a = #[(.ref o0), (.int (0 : Int32)), (.int (1 : Int32)), (.long y1)] ∧ Z.Warmed39 U.vm ∧ U.heap = h0) (fun _ _ _ _ _ => True) (fun _ U oc_ U' => ∃ v L, oc_ = .returned v ∧ QA32 Z o0 y1 kk_o0 h0 n0 v U'.heap L ∧ FrameEnd U oc_ U' L ({ frames := 0, cells := 0, slots := 0, locals := 0 } : Room).cells ({ frames := 0, cells := 0, slots := 0, locals := 0 } : Room).slots) := by
  refine MetFree.of_bodySF (plainFor_of_name pn_java_util_Arrays) hisR ?_
  intro p e s m args below meth c s₁ Bd hml0 hP hK
  obtain ⟨rfl, hZ, hh⟩ := hP
  have hx := Bd.exec
  have hby := Bd.bytes
  have hml : c.maxLocals = 10 := hml0
  have hown : s.vm.findClass "java/util/Arrays" = some m.cls := findClass_of_methodNamed Bd.named
  have hnm := (name_of_methodNamed Bd.named Bd.method).1
  have X0 : Stand p l e ({ frames := 0, cells := 0, slots := 0, locals := 0 } : Room) s m #[(.ref o0), (.int (0 : Int32)), (.int (1 : Int32)), (.long y1)] below meth c s₁ [] 0 0 := Stand.of_body Bd
  have e0 : s₁.heap = h0 := by rw [← hh, Bd.state]; rfl
  have N0 := Fr.nil n0
  have pre0 : ∀ t, SS p e below s₁ (mkF m 0 #[vr o0, vi 0, vi 1, vl y1, sd, un, un, un, un, un] []) t → Steps p.tables e below (s₁.setTop (entryFrame m #[(.ref o0), (.int (0 : Int32)), (.int (1 : Int32)), (.long y1)] 10)) t := fun t k => castTop (efa_jdk_65_method_56_code_vvvv m o0 (0 : Int32) (1 : Int32) y1) k
  obtain ⟨EN, hEN⟩ : ∃ z, z = s₁.setTop (entryFrame m #[(.ref o0), (.int (0 : Int32)), (.int (1 : Int32)), (.long y1)] 10) := ⟨_, rfl⟩
  rw [← hEN] at pre0
  obtain ⟨cl1, Ar1, q1, S1, M1, HH1, GG1⟩ := id V_o0
  have hin1 : ¬ ((0 : Int32) < 0 ∨ cl1.slots.size ≤ ((0 : Int32)).toNatClampNeg) := inb_of S1 ⟨by decide, by decide⟩
  have hat1 : cl1.slots[((0 : Int32)).toNatClampNeg]? = some (.long y1) := Has.at HH1 hin1 rfl
  subst hEN
  obtain ⟨lfs, lhr, lhrun, lhended, lhW, lhsame⟩ := X0.leave (v := some (.int (0 : Int32))) (fun h => by rw [Bd.returns] at h; cases h)
  refine ⟨_, _, pre0 _ ?_, lhrun, lhended, _, _, rfl, ?_, ⟨_, rfl⟩, lhW, lhsame.mono (by decide) (by decide)⟩
  · skip
    refine XS.iloadN X0.here hx rfl (hb hby dl_0) rfl ?_
    refine XS.istore X0.here hx rfl (hb hby dl_1) rfl (l' := #[vr o0, vi 0, vi 1, vl y1, sd, vi 0, un, un, un, un]) rfl ?_
    refine XS.iloadN X0.here hx rfl (hb hby dl_3) rfl ?_
    refine XS.iconst X0.here hx rfl (hb hby dl_4) ?_
    refine XS.isub X0.here hx rfl (hb hby dl_5) rfl ?_
    refine XS.istore X0.here hx rfl (hb hby dl_6) rfl (l' := #[vr o0, vi 0, vi 1, vl y1, sd, vi 0, vi 0, un, un, un]) rfl ?_
    refine XS.iload X0.here hx rfl (hb hby dl_8) rfl ?_
    refine XS.iload X0.here hx rfl (hb hby dl_10) rfl ?_
    show SS p e below s₁ (mkF m 12 #[vr o0, vi 0, vi 1, vl y1, sd, vi 0, vi 0, un, un, un] [(.int (0 : Int32)), (.int (0 : Int32))]) _
    refine XS.icmpNo X0.here hx rfl (hb hby dl_12) rfl (flt (by decide : ¬ ((0 : Int32) < (0 : Int32)))).2.2.1 ?_
    refine XS.iload X0.here hx rfl (hb hby dl_15) rfl ?_
    refine XS.iload X0.here hx rfl (hb hby dl_17) rfl ?_
    refine XS.iadd X0.here hx rfl (hb hby dl_19) rfl ?_
    refine XS.iconst X0.here hx rfl (hb hby dl_20) ?_
    refine XS.iushr X0.here hx rfl (hb hby dl_21) rfl ?_
    refine XS.istore X0.here hx rfl (hb hby dl_22) rfl (l' := #[vr o0, vi 0, vi 1, vl y1, sd, vi 0, vi 0, vi 0, un, un]) rfl ?_
    refine XS.aloadN X0.here hx rfl (hb hby dl_24) rfl rfl ?_
    show SS p e below s₁ (mkF m 25 #[vr o0, vi 0, vi 1, vl y1, sd, vi 0, vi 0, vi 0, un, un] [(.ref o0)]) _
    refine XS.iload X0.here hx rfl (hb hby dl_25) rfl ?_
    refine X0.laload hx (j := (0 : Int32)) (v := (.long y1)) (by (try rw [e0]); exact Ar1.1) (State.isArrayOf_alike hZ.alike Ar1.2.1) Ar1.2.2 hin1 hat1 (g := (mkF m 27 #[vr o0, vi 0, vi 1, vl y1, sd, vi 0, vi 0, vi 0, un, un] [(.int (0 : Int32)), (.ref o0)])) rfl rfl (hb hby dl_27) _ ?_
    refine XS.lstore X0.here hx rfl (hb hby dl_28) rfl (l' := #[vr o0, vi 0, vi 1, vl y1, sd, vi 0, vi 0, vi 0, vl y1, sd]) rfl ?_
    refine XS.lload X0.here hx rfl (hb hby dl_30) rfl ?_
    refine XS.lloadN X0.here hx rfl (hb hby dl_32) rfl ?_
    refine XS.lcmp X0.here hx rfl (hb hby dl_33) rfl ?_
    refine XS.ifYes X0.here hx rfl (pc0 := 34) (pc' := 46) rfl (hb hby dl_34) rfl ((if0 _ _).trans (flt (fun q => (own_irr64 y1) ((lw_lt y1 y1).mp q))).2.1) (by decide) (by decide) ?_
    refine XS.lload X0.here hx rfl (hb hby dl_46) rfl ?_
    refine XS.lloadN X0.here hx rfl (hb hby dl_48) rfl ?_
    refine XS.lcmp X0.here hx rfl (hb hby dl_49) rfl ?_
    show SS p e below s₁ (mkF m 50 #[vr o0, vi 0, vi 1, vl y1, sd, vi 0, vi 0, vi 0, vl y1, sd] [(.int (lcmpW y1 y1))]) _
    refine XS.ifYes X0.here hx rfl (pc0 := 50) (pc' := 62) rfl (hb hby dl_50) rfl ((if0 _ _).trans (flt (fun q => (own_irr64 y1) ((lw_gt y1 y1).mp q))).2.2.2) (by decide) (by decide) ?_
    refine XS.iload X0.here hx rfl (hb hby dl_62) rfl ?_
    show SS p e below s₁ (mkF m 64 #[vr o0, vi 0, vi 1, vl y1, sd, vi 0, vi 0, vi 0, vl y1, sd] [(.int (0 : Int32))]) _
    exact retI X0 hx Bd.returns (hb hby dl_64) lhr
  · skip
    show QA32 Z o0 y1 kk_o0 h0 n0 _ s₁.heap _
    rw [e0]
    exact ⟨rfl, N0, rfl⟩
def QA30 (Z : State) (o0 : Addr) (y1 : Int64) (kk_o0 : ClassId) (h0 : Heap) (n0 : Nat) (v : Option Value) (h : Heap) (L : List Loc) : Prop := v = some (.int (0 : Int32)) ∧ Fr n0 L ∧ h = h0
set_option maxRecDepth 65536 in
set_option maxHeartbeats 40000000 in
theorem rmA30 (l : Launch) (Z : State) (a0 : Array Value) (hw : ∀ d ∈ tables_1, d.before a0 Z = true) (ws : List Jvm.Cond) (o0 : Addr) (y1 : Int64) (kk_o0 : ClassId) (h0 : Heap) (n0 : Nat) (Z0 : n0 ≤ h0.size) (V_o0 : Arv Z h0 o0 kk_o0 .long (1 : Int32) [(.long y1)] (.long (0 : Int64))) :
    MetFree l mn10 (head1 (Jvm.Cond.code mn10 jdk_65_method_55_code 5 (some .int) :: ws) ({ frames := 1, cells := 0, slots := 0, locals := 21 } : Room)) (fun a U => a = #[(.ref o0), (.int (0 : Int32)), (.int (1 : Int32)), (.long y1)] ∧ Z.Warmed39 U.vm ∧ U.heap = h0) (fun _ _ _ _ _ => True) (fun _ U oc_ U' => ∃ v L, oc_ = .returned v ∧ QA30 Z o0 y1 kk_o0 h0 n0 v U'.heap L ∧ FrameEnd U oc_ U' L ({ frames := 1, cells := 0, slots := 0, locals := 21 } : Room).cells ({ frames := 1, cells := 0, slots := 0, locals := 21 } : Room).slots) := by
  refine MetFree.of_bodySF (plainFor_of_name pn_java_util_Arrays) hisR ?_
  intro p e s m args below meth c s₁ Bd hml0 hP hK
  obtain ⟨rfl, hZ, hh⟩ := hP
  have hx := Bd.exec
  have hby := Bd.bytes
  have hml : c.maxLocals = 5 := hml0
  have hown : s.vm.findClass "java/util/Arrays" = some m.cls := findClass_of_methodNamed Bd.named
  have hnm := (name_of_methodNamed Bd.named Bd.method).1
  have X0 : Stand p l e ({ frames := 1, cells := 0, slots := 0, locals := 21 } : Room) s m #[(.ref o0), (.int (0 : Int32)), (.int (1 : Int32)), (.long y1)] below meth c s₁ [] 0 0 := Stand.of_body Bd
  have e0 : s₁.heap = h0 := by rw [← hh, Bd.state]; rfl
  have N0 := Fr.nil n0
  have pre0 : ∀ t, SS p e below s₁ (mkF m 0 #[vr o0, vi 0, vi 1, vl y1, sd] []) t → Steps p.tables e below (s₁.setTop (entryFrame m #[(.ref o0), (.int (0 : Int32)), (.int (1 : Int32)), (.long y1)] 5)) t := fun t k => castTop (efa_jdk_65_method_55_code_vvvv m o0 (0 : Int32) (1 : Int32) y1) k
  obtain ⟨EN, hEN⟩ : ∃ z, z = s₁.setTop (entryFrame m #[(.ref o0), (.int (0 : Int32)), (.int (1 : Int32)), (.long y1)] 5) := ⟨_, rfl⟩
  rw [← hEN] at pre0
  obtain ⟨cl1, Ar1, -, S1, M1, -, -⟩ := id V_o0
  obtain ⟨_, _, ⟨T2, L2, kc2, ks2⟩, -, X2, ⟨Lc2, hQ2, l2, y2, z2⟩, st2⟩ := Jvm.LawKit.callS X0 hx (y := mn13) hown (mvT hZ (wd39 hw)) (mvT hZ (wd40 hw)) (mvT hZ (wd37 hw)) (mvT hZ (wd41 hw)) (by decide) (backOf (W := 0) (rmA13 l Z a0 hw []  h0 n0 Z0 ) hZ (wd41 hw) (wd37 hw) (by decide) (by decide)) (g := (mkF m 4 #[vr o0, vi 0, vi 1, vl y1, sd] [(.int (1 : Int32)), (.int (0 : Int32)), (.int (1 : Int32))])) rfl (by rw [hml]; rfl) (argsL := [(.int (1 : Int32)), (.int (0 : Int32)), (.int (1 : Int32))]) (rest := []) (lenOf pd__III_V rfl) rfl (by show 2 * 0 + _ ≤ _; exact Nat.le_of_eq rfl) (hb hby dc_4) (fun _ _ => ⟨rfl, e0, (by decide : 0 + 0 ≤ _), (by decide : 0 + 0 ≤ _)⟩)
  dsimp only [Pt.U, Pt.locs, Pt.cells, Pt.slots] at X2 l2 y2 z2 st2 hQ2
  subst l2 y2 z2
  obtain ⟨rfl, Nq2, eq2⟩ := hQ2
  have N2 := Fr.app N0 Nq2
  obtain ⟨_, _, ⟨T3, L3, kc3, ks3⟩, -, X3, ⟨Lc3, hQ3, l3, y3, z3⟩, st3⟩ := Jvm.LawKit.callS X2 hx (y := mn11) hown (mvT hZ (wd42 hw)) (mvT hZ (wd43 hw)) (mvT hZ (wd37 hw)) (mvT hZ (wd44 hw)) (by decide) (backOf (W := 0) (rmA32 l Z a0 hw [] o0 y1 _ h0 n0 Z0 V_o0) hZ (wd44 hw) (wd37 hw) (by decide) (by decide)) (g := (mkF m 11 #[vr o0, vi 0, vi 1, vl y1, sd] [(.long y1), (.int (1 : Int32)), (.int (0 : Int32)), (.ref o0)])) rfl (by rw [hml]; rfl) (argsL := [(.ref o0), (.int (0 : Int32)), (.int (1 : Int32)), (.long y1)]) (rest := []) (lenOf pd___JIIJ_I rfl) rfl (by show 2 * 0 + _ ≤ _; exact Nat.le_of_eq rfl) (hb hby dc_11) (fun _ _ => ⟨rfl, eq2, (by decide : 0 + 0 ≤ _), (by decide : 0 + 0 ≤ _)⟩)
  dsimp only [Pt.U, Pt.locs, Pt.cells, Pt.slots] at X3 l3 y3 z3 st3 hQ3
  subst l3 y3 z3
  obtain ⟨rfl, Nq3, eq3⟩ := hQ3
  have N3 := Fr.app N2 Nq3
  subst hEN
  obtain ⟨lfs, lhr, lhrun, lhended, lhW, lhsame⟩ := X3.leave (v := some (.int (0 : Int32))) (fun h => by rw [Bd.returns] at h; cases h)
  refine ⟨_, _, pre0 _ ?_, lhrun, lhended, _, _, rfl, ?_, ⟨_, rfl⟩, lhW, lhsame.mono (by decide) (by decide)⟩
  · skip
    refine XS.aloadN X0.here hx rfl (hb hby dc_0) rfl rfl ?_
    refine X0.arraylength hx (by (try rw [e0]); exact Ar1.1) (State.isArrayOf_alike hZ.alike Ar1.2.1) (g := (mkF m 1 #[vr o0, vi 0, vi 1, vl y1, sd] [(.ref o0)])) rfl rfl (hb hby dc_1) _ ?_
    rw [len_of S1 M1]
    refine XS.iloadN X0.here hx rfl (hb hby dc_2) rfl ?_
    refine XS.iloadN X0.here hx rfl (hb hby dc_3) rfl ?_
    refine st2 _ ?_
    refine XS.aloadN X2.here hx rfl (hb hby dc_7) rfl rfl ?_
    refine XS.iloadN X2.here hx rfl (hb hby dc_8) rfl ?_
    refine XS.iloadN X2.here hx rfl (hb hby dc_9) rfl ?_
    refine XS.lloadN X2.here hx rfl (hb hby dc_10) rfl ?_
    refine st3 _ ?_
    show SS p e below T3 (mkF m 14 #[vr o0, vi 0, vi 1, vl y1, sd] [(.int (0 : Int32))]) _
    exact retI X3 hx Bd.returns (hb hby dc_14) lhr
  · skip
    show QA30 Z o0 y1 kk_o0 h0 n0 _ T3.heap _
    rw [eq3]
    exact ⟨rfl, N3, rfl⟩
def QA33 (Z : State) (o0 : Addr) (y1 : Int64) (kk_o0 : ClassId) (h0 : Heap) (n0 : Nat) (v : Option Value) (h : Heap) (L : List Loc) : Prop := v = none ∧ Fr n0 L ∧ Keep h0 h [o0] ∧ Arv Z h o0 kk_o0 .long (1 : Int32) [(.long (y1 + (0 : Int64)))] (.long (0 : Int64))
set_option maxRecDepth 65536 in
set_option maxHeartbeats 40000000 in
theorem rmA33 (l : Launch) (Z : State) (a0 : Array Value) (hw : ∀ d ∈ tables_1, d.before a0 Z = true) (ws : List Jvm.Cond) (o0 : Addr) (y1 : Int64) (kk_o0 : ClassId) (h0 : Heap) (n0 : Nat) (Z0 : n0 ≤ h0.size) (V_o0 : Arv Z h0 o0 kk_o0 .long (1 : Int32) [(.long y1)] (.long (0 : Int64))) (g_o0 : n0 ≤ o0) :
    MetFree l mn6 (head1 (Jvm.Cond.code mn6 prog_59_method_3_code 9 none :: ws) ({ frames := 0, cells := 0, slots := 0, locals := 0 } : Room)) (fun a U => a = #[(.ref o0), (.int (0 : Int32)), (.int (1 : Int32)), (.long (0 : Int64)), (.long (0 : Int64))] ∧ Z.Warmed39 U.vm ∧ U.heap = h0) (fun _ _ _ _ _ => True) (fun _ U oc_ U' => ∃ v L, oc_ = .returned v ∧ QA33 Z o0 y1 kk_o0 h0 n0 v U'.heap L ∧ FrameEnd U oc_ U' L ({ frames := 0, cells := 0, slots := 0, locals := 0 } : Room).cells ({ frames := 0, cells := 0, slots := 0, locals := 0 } : Room).slots) := by
  refine MetFree.of_bodySF (plainFor_of_name pn_com_example_strict_limiter_strictlimiter_WindowRecord) hisR ?_
  intro p e s m args below meth c s₁ Bd hml0 hP hK
  obtain ⟨rfl, hZ, hh⟩ := hP
  have hx := Bd.exec
  have hby := Bd.bytes
  have hml : c.maxLocals = 9 := hml0
  have hown : s.vm.findClass cn1 = some m.cls := findClass_of_methodNamed Bd.named
  have hnm := (name_of_methodNamed Bd.named Bd.method).1
  have X0 : Stand p l e ({ frames := 0, cells := 0, slots := 0, locals := 0 } : Room) s m #[(.ref o0), (.int (0 : Int32)), (.int (1 : Int32)), (.long (0 : Int64)), (.long (0 : Int64))] below meth c s₁ [] 0 0 := Stand.of_body Bd
  have e0 : s₁.heap = h0 := by rw [← hh, Bd.state]; rfl
  have N0 := Fr.nil n0
  have pre0 : ∀ t, SS p e below s₁ (mkF m 0 #[vr o0, vi 0, vi 1, vl 0, sd, vl 0, sd, un, un] []) t → Steps p.tables e below (s₁.setTop (entryFrame m #[(.ref o0), (.int (0 : Int32)), (.int (1 : Int32)), (.long (0 : Int64)), (.long (0 : Int64))] 9)) t := fun t k => castTop (efa_prog_59_method_3_code_vvvvv m o0 (0 : Int32) (1 : Int32) (0 : Int64) (0 : Int64)) k
  obtain ⟨EN, hEN⟩ : ∃ z, z = s₁.setTop (entryFrame m #[(.ref o0), (.int (0 : Int32)), (.int (1 : Int32)), (.long (0 : Int64)), (.long (0 : Int64))] 9) := ⟨_, rfl⟩
  rw [← hEN] at pre0
  obtain ⟨cl1, Ar1, q1, S1, M1, HH1, GG1⟩ := id V_o0
  have hin1 : ¬ ((0 : Int32) < 0 ∨ cl1.slots.size ≤ ((0 : Int32)).toNatClampNeg) := inb_of S1 ⟨by decide, by decide⟩
  have hat1 : cl1.slots[((0 : Int32)).toNatClampNeg]? = some (.long y1) := Has.at HH1 hin1 rfl
  obtain ⟨cl2, Ar2, q2, S2, M2, HH2, GG2⟩ := id V_o0
  have hin2 : ¬ ((0 : Int32) < 0 ∨ cl2.slots.size ≤ ((0 : Int32)).toNatClampNeg) := inb_of S2 ⟨by decide, by decide⟩
  obtain ⟨T3, h3, X3, e3, W3, st3⟩ := stJ X0 hx hZ e0 Ar2 (j := (0 : Int32)) hin2 (g := (mkF m 16 #[vr o0, vi 0, vi 1, vl 0, sd, vl 0, sd, vl y1, sd] [(.long (y1 + (0 : Int64))), (.int (0 : Int32)), (.ref o0)])) rfl rfl (hb hby db_16)
  have N3 := Fr.snoc X3 N0 g_o0
  have Z3 : n0 ≤ h3.size := by rw [W3.size]; exact Z0
  have K3 : Keep h0 h3 [o0] := ((Keep.refl h0 [o0]).wr W3 (Or.inl (List.mem_of_getElem? (i := 0) rfl)))
  have V3 := Arv.set Ar2 q2 S2 M2 HH2 GG2 rfl W3 0 rfl (Nat.le_of_ble_eq_true rfl)
  subst hEN
  obtain ⟨lfs, lhr, lhrun, lhended, lhW, lhsame⟩ := X3.leave (v := none) (fun _ => rfl)
  refine ⟨_, _, pre0 _ ?_, lhrun, lhended, _, _, rfl, ?_, ⟨_, rfl⟩, lhW, lhsame.mono (by decide) (by decide)⟩
  · skip
    refine XS.aloadN X0.here hx rfl (hb hby db_0) rfl rfl ?_
    refine XS.iloadN X0.here hx rfl (hb hby db_1) rfl ?_
    refine XS.iconst X0.here hx rfl (hb hby db_2) ?_
    refine XS.iadd X0.here hx rfl (hb hby db_3) rfl ?_
    refine X0.laload hx (j := (0 : Int32)) (v := (.long y1)) (by (try rw [e0]); exact Ar1.1) (State.isArrayOf_alike hZ.alike Ar1.2.1) Ar1.2.2 hin1 hat1 (g := (mkF m 4 #[vr o0, vi 0, vi 1, vl 0, sd, vl 0, sd, un, un] [(.int (0 : Int32)), (.ref o0)])) rfl rfl (hb hby db_4) _ ?_
    refine XS.lstore X0.here hx rfl (hb hby db_5) rfl (l' := #[vr o0, vi 0, vi 1, vl 0, sd, vl 0, sd, vl y1, sd]) rfl ?_
    refine XS.aloadN X0.here hx rfl (hb hby db_7) rfl rfl ?_
    refine XS.iloadN X0.here hx rfl (hb hby db_8) rfl ?_
    refine XS.iconst X0.here hx rfl (hb hby db_9) ?_
    refine XS.iadd X0.here hx rfl (hb hby db_10) rfl ?_
    refine XS.lload X0.here hx rfl (hb hby db_11) rfl ?_
    refine XS.lload X0.here hx rfl (hb hby db_13) rfl ?_
    refine XS.ladd X0.here hx rfl (hb hby db_15) rfl ?_
    show SS p e below s₁ (mkF m 16 #[vr o0, vi 0, vi 1, vl 0, sd, vl 0, sd, vl y1, sd] [(.long (y1 + (0 : Int64))), (.int (0 : Int32)), (.ref o0)]) _
    refine st3 _ ?_
    refine XS.iloadN X3.here hx rfl (hb hby db_17) rfl ?_
    refine XS.iconst X3.here hx rfl (hb hby db_18) ?_
    refine XS.icmpYes X3.here hx rfl (pc0 := 19) (pc' := 29) rfl (hb hby db_19) rfl (feq (by decide : ¬ ((1 : Int32) = (4 : Int32)))).2 (by decide) (by decide) ?_
    show SS p e below T3 (mkF m 29 #[vr o0, vi 0, vi 1, vl 0, sd, vl 0, sd, vl y1, sd] []) _
    exact X3.returnOut hx Bd.returns (hb hby db_29) lhr
  · skip
    show QA33 Z o0 y1 kk_o0 h0 n0 _ T3.heap _
    rw [e3]
    exact ⟨rfl, N3, K3, V3⟩
def QA37 (Z : State) (o0 : Addr) (y1 : Int64) (kk_o0 : ClassId) (h0 : Heap) (n0 : Nat) (v : Option Value) (h : Heap) (L : List Loc) : Prop := v = none ∧ Fr n0 L ∧ Keep h0 h [o0] ∧ Arv Z h o0 kk_o0 .long (4 : Int32) [(.long (y1 + (0 : Int64))), (.long (0 : Int64)), (.long (0 : Int64)), (.long (0 : Int64))] (.long (0 : Int64))
set_option maxRecDepth 65536 in
set_option maxHeartbeats 40000000 in
theorem rmA37 (l : Launch) (Z : State) (a0 : Array Value) (hw : ∀ d ∈ tables_1, d.before a0 Z = true) (ws : List Jvm.Cond) (o0 : Addr) (y1 : Int64) (kk_o0 : ClassId) (h0 : Heap) (n0 : Nat) (Z0 : n0 ≤ h0.size) (V_o0 : Arv Z h0 o0 kk_o0 .long (4 : Int32) [(.long y1), (.long (0 : Int64)), (.long (0 : Int64)), (.long (0 : Int64))] (.long (0 : Int64))) (g_o0 : n0 ≤ o0) :
    MetFree l mn6 (head1 (Jvm.Cond.code mn6 prog_59_method_3_code 9 none :: ws) ({ frames := 0, cells := 0, slots := 0, locals := 0 } : Room)) (fun a U => a = #[(.ref o0), (.int (0 : Int32)), (.int (4 : Int32)), (.long (0 : Int64)), (.long (0 : Int64))] ∧ Z.Warmed39 U.vm ∧ U.heap = h0) (fun _ _ _ _ _ => True) (fun _ U oc_ U' => ∃ v L, oc_ = .returned v ∧ QA37 Z o0 y1 kk_o0 h0 n0 v U'.heap L ∧ FrameEnd U oc_ U' L ({ frames := 0, cells := 0, slots := 0, locals := 0 } : Room).cells ({ frames := 0, cells := 0, slots := 0, locals := 0 } : Room).slots) := by
  refine MetFree.of_bodySF (plainFor_of_name pn_com_example_strict_limiter_strictlimiter_WindowRecord) hisR ?_
  intro p e s m args below meth c s₁ Bd hml0 hP hK
  obtain ⟨rfl, hZ, hh⟩ := hP
  have hx := Bd.exec
  have hby := Bd.bytes
  have hml : c.maxLocals = 9 := hml0
  have hown : s.vm.findClass cn1 = some m.cls := findClass_of_methodNamed Bd.named
  have hnm := (name_of_methodNamed Bd.named Bd.method).1
  have X0 : Stand p l e ({ frames := 0, cells := 0, slots := 0, locals := 0 } : Room) s m #[(.ref o0), (.int (0 : Int32)), (.int (4 : Int32)), (.long (0 : Int64)), (.long (0 : Int64))] below meth c s₁ [] 0 0 := Stand.of_body Bd
  have e0 : s₁.heap = h0 := by rw [← hh, Bd.state]; rfl
  have N0 := Fr.nil n0
  have pre0 : ∀ t, SS p e below s₁ (mkF m 0 #[vr o0, vi 0, vi 4, vl 0, sd, vl 0, sd, un, un] []) t → Steps p.tables e below (s₁.setTop (entryFrame m #[(.ref o0), (.int (0 : Int32)), (.int (4 : Int32)), (.long (0 : Int64)), (.long (0 : Int64))] 9)) t := fun t k => castTop (efa_prog_59_method_3_code_vvvvv m o0 (0 : Int32) (4 : Int32) (0 : Int64) (0 : Int64)) k
  obtain ⟨EN, hEN⟩ : ∃ z, z = s₁.setTop (entryFrame m #[(.ref o0), (.int (0 : Int32)), (.int (4 : Int32)), (.long (0 : Int64)), (.long (0 : Int64))] 9) := ⟨_, rfl⟩
  rw [← hEN] at pre0
  obtain ⟨cl1, Ar1, q1, S1, M1, HH1, GG1⟩ := id V_o0
  have hin1 : ¬ ((0 : Int32) < 0 ∨ cl1.slots.size ≤ ((0 : Int32)).toNatClampNeg) := inb_of S1 ⟨by decide, by decide⟩
  have hat1 : cl1.slots[((0 : Int32)).toNatClampNeg]? = some (.long y1) := Has.at HH1 hin1 rfl
  obtain ⟨cl2, Ar2, q2, S2, M2, HH2, GG2⟩ := id V_o0
  have hin2 : ¬ ((0 : Int32) < 0 ∨ cl2.slots.size ≤ ((0 : Int32)).toNatClampNeg) := inb_of S2 ⟨by decide, by decide⟩
  obtain ⟨T3, h3, X3, e3, W3, st3⟩ := stJ X0 hx hZ e0 Ar2 (j := (0 : Int32)) hin2 (g := (mkF m 16 #[vr o0, vi 0, vi 4, vl 0, sd, vl 0, sd, vl y1, sd] [(.long (y1 + (0 : Int64))), (.int (0 : Int32)), (.ref o0)])) rfl rfl (hb hby db_16)
  have N3 := Fr.snoc X3 N0 g_o0
  have Z3 : n0 ≤ h3.size := by rw [W3.size]; exact Z0
  have K3 : Keep h0 h3 [o0] := ((Keep.refl h0 [o0]).wr W3 (Or.inl (List.mem_of_getElem? (i := 0) rfl)))
  have V3 := Arv.set Ar2 q2 S2 M2 HH2 GG2 rfl W3 0 rfl (Nat.le_of_ble_eq_true rfl)
  subst hEN
  obtain ⟨lfs, lhr, lhrun, lhended, lhW, lhsame⟩ := X3.leave (v := none) (fun _ => rfl)
  refine ⟨_, _, pre0 _ ?_, lhrun, lhended, _, _, rfl, ?_, ⟨_, rfl⟩, lhW, lhsame.mono (by decide) (by decide)⟩
  · skip
    refine XS.aloadN X0.here hx rfl (hb hby db_0) rfl rfl ?_
    refine XS.iloadN X0.here hx rfl (hb hby db_1) rfl ?_
    refine XS.iconst X0.here hx rfl (hb hby db_2) ?_
    refine XS.iadd X0.here hx rfl (hb hby db_3) rfl ?_
    refine X0.laload hx (j := (0 : Int32)) (v := (.long y1)) (by (try rw [e0]); exact Ar1.1) (State.isArrayOf_alike hZ.alike Ar1.2.1) Ar1.2.2 hin1 hat1 (g := (mkF m 4 #[vr o0, vi 0, vi 4, vl 0, sd, vl 0, sd, un, un] [(.int (0 : Int32)), (.ref o0)])) rfl rfl (hb hby db_4) _ ?_
    refine XS.lstore X0.here hx rfl (hb hby db_5) rfl (l' := #[vr o0, vi 0, vi 4, vl 0, sd, vl 0, sd, vl y1, sd]) rfl ?_
    refine XS.aloadN X0.here hx rfl (hb hby db_7) rfl rfl ?_
    refine XS.iloadN X0.here hx rfl (hb hby db_8) rfl ?_
    refine XS.iconst X0.here hx rfl (hb hby db_9) ?_
    refine XS.iadd X0.here hx rfl (hb hby db_10) rfl ?_
    refine XS.lload X0.here hx rfl (hb hby db_11) rfl ?_
    refine XS.lload X0.here hx rfl (hb hby db_13) rfl ?_
    refine XS.ladd X0.here hx rfl (hb hby db_15) rfl ?_
    show SS p e below s₁ (mkF m 16 #[vr o0, vi 0, vi 4, vl 0, sd, vl 0, sd, vl y1, sd] [(.long (y1 + (0 : Int64))), (.int (0 : Int32)), (.ref o0)]) _
    refine st3 _ ?_
    refine XS.iloadN X3.here hx rfl (hb hby db_17) rfl ?_
    refine XS.iconst X3.here hx rfl (hb hby db_18) ?_
    refine XS.icmpNo X3.here hx rfl (hb hby db_19) rfl (teq (by decide : (4 : Int32) = (4 : Int32))).2 ?_
    refine XS.lload X3.here hx rfl (hb hby db_22) rfl ?_
    refine XS.lconst X3.here hx rfl (hb hby db_24) ?_
    refine XS.lcmp X3.here hx rfl (hb hby db_25) rfl ?_
    refine XS.ifNo X3.here hx rfl (hb hby db_26) rfl ((if0 _ _).trans (teq ((lw_eq (0 : Int64) (0 : Int64)).mpr (by decide : (0 : Int64) = (0 : Int64)))).2) ?_
    show SS p e below T3 (mkF m 29 #[vr o0, vi 0, vi 4, vl 0, sd, vl 0, sd, vl y1, sd] []) _
    exact X3.returnOut hx Bd.returns (hb hby db_29) lhr
  · skip
    show QA37 Z o0 y1 kk_o0 h0 n0 _ T3.heap _
    rw [e3]
    exact ⟨rfl, N3, K3, V3⟩
theorem dl_37 : decode jdk_65_method_56_code 37 = .ok (.iload 7, 2) := by decide +kernel
theorem dl_39 : decode jdk_65_method_56_code 39 = .ok (.iconst 1, 1) := by decide +kernel
theorem dl_40 : decode jdk_65_method_56_code 40 = .ok (.iadd, 1) := by decide +kernel
theorem dl_41 : decode jdk_65_method_56_code 41 = .ok (.istore 5, 2) := by decide +kernel
theorem dl_43 : decode jdk_65_method_56_code 43 = .ok (.goto 22, 3) := by decide +kernel
def QA40 (Z : State) (o0 : Addr) (y1 : Int64) (y2 : Int64) (kk_o0 : ClassId) (h0 : Heap) (n0 : Nat) (v : Option Value) (h : Heap) (L : List Loc) : Prop := v = some (.int (-2 : Int32)) ∧ Fr n0 L ∧ h = h0
set_option maxRecDepth 65536 in
set_option maxHeartbeats 40000000 in
theorem rmA40 (l : Launch) (Z : State) (a0 : Array Value) (hw : ∀ d ∈ tables_1, d.before a0 Z = true) (ws : List Jvm.Cond) (o0 : Addr) (y1 : Int64) (y2 : Int64) (kk_o0 : ClassId) (h0 : Heap) (n0 : Nat) (Z0 : n0 ≤ h0.size) (V_o0 : Arv Z h0 o0 kk_o0 .long (1 : Int32) [(.long y2)] (.long (0 : Int64))) (hq1 : y2 < y1) :
    MetFree l mn11 (head1 (Jvm.Cond.code mn11 jdk_65_method_56_code 10 (some .int) :: ws) ({ frames := 0, cells := 0, slots := 0, locals := 0 } : Room)) (fun a U => a = #[(.ref o0), (.int (0 : Int32)), (.int (1 : Int32)), (.long y1)] ∧ Z.Warmed39 U.vm ∧ U.heap = h0) (fun _ _ _ _ _ => True) (fun _ U oc_ U' => ∃ v L, oc_ = .returned v ∧ QA40 Z o0 y1 y2 kk_o0 h0 n0 v U'.heap L ∧ FrameEnd U oc_ U' L ({ frames := 0, cells := 0, slots := 0, locals := 0 } : Room).cells ({ frames := 0, cells := 0, slots := 0, locals := 0 } : Room).slots) := by
  refine MetFree.of_bodySF (plainFor_of_name pn_java_util_Arrays) hisR ?_
  intro p e s m args below meth c s₁ Bd hml0 hP hK
  obtain ⟨rfl, hZ, hh⟩ := hP
  have hx := Bd.exec
  have hby := Bd.bytes
  have hml : c.maxLocals = 10 := hml0
  have hown : s.vm.findClass "java/util/Arrays" = some m.cls := findClass_of_methodNamed Bd.named
  have hnm := (name_of_methodNamed Bd.named Bd.method).1
  have X0 : Stand p l e ({ frames := 0, cells := 0, slots := 0, locals := 0 } : Room) s m #[(.ref o0), (.int (0 : Int32)), (.int (1 : Int32)), (.long y1)] below meth c s₁ [] 0 0 := Stand.of_body Bd
  have e0 : s₁.heap = h0 := by rw [← hh, Bd.state]; rfl
  have N0 := Fr.nil n0
  have pre0 : ∀ t, SS p e below s₁ (mkF m 0 #[vr o0, vi 0, vi 1, vl y1, sd, un, un, un, un, un] []) t → Steps p.tables e below (s₁.setTop (entryFrame m #[(.ref o0), (.int (0 : Int32)), (.int (1 : Int32)), (.long y1)] 10)) t := fun t k => castTop (efa_jdk_65_method_56_code_vvvv m o0 (0 : Int32) (1 : Int32) y1) k
  obtain ⟨EN, hEN⟩ : ∃ z, z = s₁.setTop (entryFrame m #[(.ref o0), (.int (0 : Int32)), (.int (1 : Int32)), (.long y1)] 10) := ⟨_, rfl⟩
  rw [← hEN] at pre0
  obtain ⟨cl1, Ar1, q1, S1, M1, HH1, GG1⟩ := id V_o0
  have hin1 : ¬ ((0 : Int32) < 0 ∨ cl1.slots.size ≤ ((0 : Int32)).toNatClampNeg) := inb_of S1 ⟨by decide, by decide⟩
  have hat1 : cl1.slots[((0 : Int32)).toNatClampNeg]? = some (.long y2) := Has.at HH1 hin1 rfl
  subst hEN
  obtain ⟨lfs, lhr, lhrun, lhended, lhW, lhsame⟩ := X0.leave (v := some (.int (-2 : Int32))) (fun h => by rw [Bd.returns] at h; cases h)
  refine ⟨_, _, pre0 _ ?_, lhrun, lhended, _, _, rfl, ?_, ⟨_, rfl⟩, lhW, lhsame.mono (by decide) (by decide)⟩
  · skip
    refine XS.iloadN X0.here hx rfl (hb hby dl_0) rfl ?_
    refine XS.istore X0.here hx rfl (hb hby dl_1) rfl (l' := #[vr o0, vi 0, vi 1, vl y1, sd, vi 0, un, un, un, un]) rfl ?_
    refine XS.iloadN X0.here hx rfl (hb hby dl_3) rfl ?_
    refine XS.iconst X0.here hx rfl (hb hby dl_4) ?_
    refine XS.isub X0.here hx rfl (hb hby dl_5) rfl ?_
    refine XS.istore X0.here hx rfl (hb hby dl_6) rfl (l' := #[vr o0, vi 0, vi 1, vl y1, sd, vi 0, vi 0, un, un, un]) rfl ?_
    refine XS.iload X0.here hx rfl (hb hby dl_8) rfl ?_
    refine XS.iload X0.here hx rfl (hb hby dl_10) rfl ?_
    show SS p e below s₁ (mkF m 12 #[vr o0, vi 0, vi 1, vl y1, sd, vi 0, vi 0, un, un, un] [(.int (0 : Int32)), (.int (0 : Int32))]) _
    refine XS.icmpNo X0.here hx rfl (hb hby dl_12) rfl (flt (by decide : ¬ ((0 : Int32) < (0 : Int32)))).2.2.1 ?_
    refine XS.iload X0.here hx rfl (hb hby dl_15) rfl ?_
    refine XS.iload X0.here hx rfl (hb hby dl_17) rfl ?_
    refine XS.iadd X0.here hx rfl (hb hby dl_19) rfl ?_
    refine XS.iconst X0.here hx rfl (hb hby dl_20) ?_
    refine XS.iushr X0.here hx rfl (hb hby dl_21) rfl ?_
    refine XS.istore X0.here hx rfl (hb hby dl_22) rfl (l' := #[vr o0, vi 0, vi 1, vl y1, sd, vi 0, vi 0, vi 0, un, un]) rfl ?_
    refine XS.aloadN X0.here hx rfl (hb hby dl_24) rfl rfl ?_
    show SS p e below s₁ (mkF m 25 #[vr o0, vi 0, vi 1, vl y1, sd, vi 0, vi 0, vi 0, un, un] [(.ref o0)]) _
    refine XS.iload X0.here hx rfl (hb hby dl_25) rfl ?_
    refine X0.laload hx (j := (0 : Int32)) (v := (.long y2)) (by (try rw [e0]); exact Ar1.1) (State.isArrayOf_alike hZ.alike Ar1.2.1) Ar1.2.2 hin1 hat1 (g := (mkF m 27 #[vr o0, vi 0, vi 1, vl y1, sd, vi 0, vi 0, vi 0, un, un] [(.int (0 : Int32)), (.ref o0)])) rfl rfl (hb hby dl_27) _ ?_
    refine XS.lstore X0.here hx rfl (hb hby dl_28) rfl (l' := #[vr o0, vi 0, vi 1, vl y1, sd, vi 0, vi 0, vi 0, vl y2, sd]) rfl ?_
    refine XS.lload X0.here hx rfl (hb hby dl_30) rfl ?_
    refine XS.lloadN X0.here hx rfl (hb hby dl_32) rfl ?_
    refine XS.lcmp X0.here hx rfl (hb hby dl_33) rfl ?_
    refine XS.ifNo X0.here hx rfl (hb hby dl_34) rfl ((if0 _ _).trans (tlt ((lw_lt y2 y1).mpr hq1)).2.1) ?_
    refine XS.iload X0.here hx rfl (hb hby dl_37) rfl ?_
    refine XS.iconst X0.here hx rfl (hb hby dl_39) ?_
    refine XS.iadd X0.here hx rfl (hb hby dl_40) rfl ?_
    show SS p e below s₁ (mkF m 41 #[vr o0, vi 0, vi 1, vl y1, sd, vi 0, vi 0, vi 0, vl y2, sd] [(.int (1 : Int32))]) _
    refine XS.istore X0.here hx rfl (hb hby dl_41) rfl (l' := #[vr o0, vi 0, vi 1, vl y1, sd, vi 1, vi 0, vi 0, vl y2, sd]) rfl ?_
    refine XS.goto X0.here hx rfl (pc0 := 43) (pc' := 65) rfl (hb hby dl_43) (by decide) (by decide) ?_
    refine XS.goto X0.here hx rfl (pc0 := 65) (pc' := 8) rfl (hb hby dl_65) (by decide) (by decide) ?_
    refine XS.iload X0.here hx rfl (hb hby dl_8) rfl ?_
    refine XS.iload X0.here hx rfl (hb hby dl_10) rfl ?_
    refine XS.icmpYes X0.here hx rfl (pc0 := 12) (pc' := 68) rfl (hb hby dl_12) rfl (tlt (by decide : (0 : Int32) < (1 : Int32))).2.2.1 (by decide) (by decide) ?_
    refine XS.iload X0.here hx rfl (hb hby dl_68) rfl ?_
    refine XS.iconst X0.here hx rfl (hb hby dl_70) ?_
    show SS p e below s₁ (mkF m 71 #[vr o0, vi 0, vi 1, vl y1, sd, vi 1, vi 0, vi 0, vl y2, sd] [(.int (1 : Int32)), (.int (1 : Int32))]) _
    refine XS.iadd X0.here hx rfl (hb hby dl_71) rfl ?_
    refine XS.ineg X0.here hx rfl (hb hby dl_72) rfl ?_
    show SS p e below s₁ (mkF m 73 #[vr o0, vi 0, vi 1, vl y1, sd, vi 1, vi 0, vi 0, vl y2, sd] [(.int (-2 : Int32))]) _
    exact retI X0 hx Bd.returns (hb hby dl_73) lhr
  · skip
    show QA40 Z o0 y1 y2 kk_o0 h0 n0 _ s₁.heap _
    rw [e0]
    exact ⟨rfl, N0, rfl⟩
def QA38 (Z : State) (o0 : Addr) (y1 : Int64) (y2 : Int64) (kk_o0 : ClassId) (h0 : Heap) (n0 : Nat) (v : Option Value) (h : Heap) (L : List Loc) : Prop := v = some (.int (-2 : Int32)) ∧ Fr n0 L ∧ h = h0
set_option maxRecDepth 65536 in
set_option maxHeartbeats 40000000 in
theorem rmA38 (l : Launch) (Z : State) (a0 : Array Value) (hw : ∀ d ∈ tables_1, d.before a0 Z = true) (ws : List Jvm.Cond) (o0 : Addr) (y1 : Int64) (y2 : Int64) (kk_o0 : ClassId) (h0 : Heap) (n0 : Nat) (Z0 : n0 ≤ h0.size) (V_o0 : Arv Z h0 o0 kk_o0 .long (1 : Int32) [(.long y2)] (.long (0 : Int64))) (hq1 : y2 < y1) :
    MetFree l mn10 (head1 (Jvm.Cond.code mn10 jdk_65_method_55_code 5 (some .int) :: ws) ({ frames := 1, cells := 0, slots := 0, locals := 21 } : Room)) (fun a U => a = #[(.ref o0), (.int (0 : Int32)), (.int (1 : Int32)), (.long y1)] ∧ Z.Warmed39 U.vm ∧ U.heap = h0) (fun _ _ _ _ _ => True) (fun _ U oc_ U' => ∃ v L, oc_ = .returned v ∧ QA38 Z o0 y1 y2 kk_o0 h0 n0 v U'.heap L ∧ FrameEnd U oc_ U' L ({ frames := 1, cells := 0, slots := 0, locals := 21 } : Room).cells ({ frames := 1, cells := 0, slots := 0, locals := 21 } : Room).slots) := by
  refine MetFree.of_bodySF (plainFor_of_name pn_java_util_Arrays) hisR ?_
  intro p e s m args below meth c s₁ Bd hml0 hP hK
  obtain ⟨rfl, hZ, hh⟩ := hP
  have hx := Bd.exec
  have hby := Bd.bytes
  have hml : c.maxLocals = 5 := hml0
  have hown : s.vm.findClass "java/util/Arrays" = some m.cls := findClass_of_methodNamed Bd.named
  have hnm := (name_of_methodNamed Bd.named Bd.method).1
  have X0 : Stand p l e ({ frames := 1, cells := 0, slots := 0, locals := 21 } : Room) s m #[(.ref o0), (.int (0 : Int32)), (.int (1 : Int32)), (.long y1)] below meth c s₁ [] 0 0 := Stand.of_body Bd
  have e0 : s₁.heap = h0 := by rw [← hh, Bd.state]; rfl
  have N0 := Fr.nil n0
  have pre0 : ∀ t, SS p e below s₁ (mkF m 0 #[vr o0, vi 0, vi 1, vl y1, sd] []) t → Steps p.tables e below (s₁.setTop (entryFrame m #[(.ref o0), (.int (0 : Int32)), (.int (1 : Int32)), (.long y1)] 5)) t := fun t k => castTop (efa_jdk_65_method_55_code_vvvv m o0 (0 : Int32) (1 : Int32) y1) k
  obtain ⟨EN, hEN⟩ : ∃ z, z = s₁.setTop (entryFrame m #[(.ref o0), (.int (0 : Int32)), (.int (1 : Int32)), (.long y1)] 5) := ⟨_, rfl⟩
  rw [← hEN] at pre0
  obtain ⟨cl1, Ar1, -, S1, M1, -, -⟩ := id V_o0
  obtain ⟨_, _, ⟨T2, L2, kc2, ks2⟩, -, X2, ⟨Lc2, hQ2, l2, y2, z2⟩, st2⟩ := Jvm.LawKit.callS X0 hx (y := mn13) hown (mvT hZ (wd39 hw)) (mvT hZ (wd40 hw)) (mvT hZ (wd37 hw)) (mvT hZ (wd41 hw)) (by decide) (backOf (W := 0) (rmA13 l Z a0 hw []  h0 n0 Z0 ) hZ (wd41 hw) (wd37 hw) (by decide) (by decide)) (g := (mkF m 4 #[vr o0, vi 0, vi 1, vl y1, sd] [(.int (1 : Int32)), (.int (0 : Int32)), (.int (1 : Int32))])) rfl (by rw [hml]; rfl) (argsL := [(.int (1 : Int32)), (.int (0 : Int32)), (.int (1 : Int32))]) (rest := []) (lenOf pd__III_V rfl) rfl (by show 2 * 0 + _ ≤ _; exact Nat.le_of_eq rfl) (hb hby dc_4) (fun _ _ => ⟨rfl, e0, (by decide : 0 + 0 ≤ _), (by decide : 0 + 0 ≤ _)⟩)
  dsimp only [Pt.U, Pt.locs, Pt.cells, Pt.slots] at X2 l2 y2 z2 st2 hQ2
  subst l2 y2 z2
  obtain ⟨rfl, Nq2, eq2⟩ := hQ2
  have N2 := Fr.app N0 Nq2
  obtain ⟨_, _, ⟨T3, L3, kc3, ks3⟩, -, X3, ⟨Lc3, hQ3, l3, y3, z3⟩, st3⟩ := Jvm.LawKit.callS X2 hx (y := mn11) hown (mvT hZ (wd42 hw)) (mvT hZ (wd43 hw)) (mvT hZ (wd37 hw)) (mvT hZ (wd44 hw)) (by decide) (backOf (W := 0) (rmA40 l Z a0 hw [] o0 y1 y2 _ h0 n0 Z0 V_o0 hq1) hZ (wd44 hw) (wd37 hw) (by decide) (by decide)) (g := (mkF m 11 #[vr o0, vi 0, vi 1, vl y1, sd] [(.long y1), (.int (1 : Int32)), (.int (0 : Int32)), (.ref o0)])) rfl (by rw [hml]; rfl) (argsL := [(.ref o0), (.int (0 : Int32)), (.int (1 : Int32)), (.long y1)]) (rest := []) (lenOf pd___JIIJ_I rfl) rfl (by show 2 * 0 + _ ≤ _; exact Nat.le_of_eq rfl) (hb hby dc_11) (fun _ _ => ⟨rfl, eq2, (by decide : 0 + 0 ≤ _), (by decide : 0 + 0 ≤ _)⟩)
  dsimp only [Pt.U, Pt.locs, Pt.cells, Pt.slots] at X3 l3 y3 z3 st3 hQ3
  subst l3 y3 z3
  obtain ⟨rfl, Nq3, eq3⟩ := hQ3
  have N3 := Fr.app N2 Nq3
  subst hEN
  obtain ⟨lfs, lhr, lhrun, lhended, lhW, lhsame⟩ := X3.leave (v := some (.int (-2 : Int32))) (fun h => by rw [Bd.returns] at h; cases h)
  refine ⟨_, _, pre0 _ ?_, lhrun, lhended, _, _, rfl, ?_, ⟨_, rfl⟩, lhW, lhsame.mono (by decide) (by decide)⟩
  · skip
    refine XS.aloadN X0.here hx rfl (hb hby dc_0) rfl rfl ?_
    refine X0.arraylength hx (by (try rw [e0]); exact Ar1.1) (State.isArrayOf_alike hZ.alike Ar1.2.1) (g := (mkF m 1 #[vr o0, vi 0, vi 1, vl y1, sd] [(.ref o0)])) rfl rfl (hb hby dc_1) _ ?_
    rw [len_of S1 M1]
    refine XS.iloadN X0.here hx rfl (hb hby dc_2) rfl ?_
    refine XS.iloadN X0.here hx rfl (hb hby dc_3) rfl ?_
    refine st2 _ ?_
    refine XS.aloadN X2.here hx rfl (hb hby dc_7) rfl rfl ?_
    refine XS.iloadN X2.here hx rfl (hb hby dc_8) rfl ?_
    refine XS.iloadN X2.here hx rfl (hb hby dc_9) rfl ?_
    refine XS.lloadN X2.here hx rfl (hb hby dc_10) rfl ?_
    refine st3 _ ?_
    show SS p e below T3 (mkF m 14 #[vr o0, vi 0, vi 1, vl y1, sd] [(.int (-2 : Int32))]) _
    exact retI X3 hx Bd.returns (hb hby dc_14) lhr
  · skip
    show QA38 Z o0 y1 y2 kk_o0 h0 n0 _ T3.heap _
    rw [eq3]
    exact ⟨rfl, N3, rfl⟩
def QA44 (Z : State) (o0 : Addr) (y1 : Int64) (y2 : Int64) (kk_o0 : ClassId) (h0 : Heap) (n0 : Nat) (v : Option Value) (h : Heap) (L : List Loc) : Prop := v = none ∧ Fr n0 L ∧ Keep h0 h [o0] ∧ Arv Z h o0 kk_o0 .long (1 : Int32) [(.long (y2 + y1))] (.long (0 : Int64))
set_option maxRecDepth 65536 in
set_option maxHeartbeats 40000000 in
theorem rmA44 (l : Launch) (Z : State) (a0 : Array Value) (hw : ∀ d ∈ tables_1, d.before a0 Z = true) (ws : List Jvm.Cond) (o0 : Addr) (y1 : Int64) (y2 : Int64) (kk_o0 : ClassId) (h0 : Heap) (n0 : Nat) (Z0 : n0 ≤ h0.size) (V_o0 : Arv Z h0 o0 kk_o0 .long (1 : Int32) [(.long y2)] (.long (0 : Int64))) (g_o0 : n0 ≤ o0) :
    MetFree l mn6 (head1 (Jvm.Cond.code mn6 prog_59_method_3_code 9 none :: ws) ({ frames := 0, cells := 0, slots := 0, locals := 0 } : Room)) (fun a U => a = #[(.ref o0), (.int (0 : Int32)), (.int (1 : Int32)), (.long (0 : Int64)), (.long y1)] ∧ Z.Warmed39 U.vm ∧ U.heap = h0) (fun _ _ _ _ _ => True) (fun _ U oc_ U' => ∃ v L, oc_ = .returned v ∧ QA44 Z o0 y1 y2 kk_o0 h0 n0 v U'.heap L ∧ FrameEnd U oc_ U' L ({ frames := 0, cells := 0, slots := 0, locals := 0 } : Room).cells ({ frames := 0, cells := 0, slots := 0, locals := 0 } : Room).slots) := by
  refine MetFree.of_bodySF (plainFor_of_name pn_com_example_strict_limiter_strictlimiter_WindowRecord) hisR ?_
  intro p e s m args below meth c s₁ Bd hml0 hP hK
  obtain ⟨rfl, hZ, hh⟩ := hP
  have hx := Bd.exec
  have hby := Bd.bytes
  have hml : c.maxLocals = 9 := hml0
  have hown : s.vm.findClass cn1 = some m.cls := findClass_of_methodNamed Bd.named
  have hnm := (name_of_methodNamed Bd.named Bd.method).1
  have X0 : Stand p l e ({ frames := 0, cells := 0, slots := 0, locals := 0 } : Room) s m #[(.ref o0), (.int (0 : Int32)), (.int (1 : Int32)), (.long (0 : Int64)), (.long y1)] below meth c s₁ [] 0 0 := Stand.of_body Bd
  have e0 : s₁.heap = h0 := by rw [← hh, Bd.state]; rfl
  have N0 := Fr.nil n0
  have pre0 : ∀ t, SS p e below s₁ (mkF m 0 #[vr o0, vi 0, vi 1, vl 0, sd, vl y1, sd, un, un] []) t → Steps p.tables e below (s₁.setTop (entryFrame m #[(.ref o0), (.int (0 : Int32)), (.int (1 : Int32)), (.long (0 : Int64)), (.long y1)] 9)) t := fun t k => castTop (efa_prog_59_method_3_code_vvvvv m o0 (0 : Int32) (1 : Int32) (0 : Int64) y1) k
  obtain ⟨EN, hEN⟩ : ∃ z, z = s₁.setTop (entryFrame m #[(.ref o0), (.int (0 : Int32)), (.int (1 : Int32)), (.long (0 : Int64)), (.long y1)] 9) := ⟨_, rfl⟩
  rw [← hEN] at pre0
  obtain ⟨cl1, Ar1, q1, S1, M1, HH1, GG1⟩ := id V_o0
  have hin1 : ¬ ((0 : Int32) < 0 ∨ cl1.slots.size ≤ ((0 : Int32)).toNatClampNeg) := inb_of S1 ⟨by decide, by decide⟩
  have hat1 : cl1.slots[((0 : Int32)).toNatClampNeg]? = some (.long y2) := Has.at HH1 hin1 rfl
  obtain ⟨cl2, Ar2, q2, S2, M2, HH2, GG2⟩ := id V_o0
  have hin2 : ¬ ((0 : Int32) < 0 ∨ cl2.slots.size ≤ ((0 : Int32)).toNatClampNeg) := inb_of S2 ⟨by decide, by decide⟩
  obtain ⟨T3, h3, X3, e3, W3, st3⟩ := stJ X0 hx hZ e0 Ar2 (j := (0 : Int32)) hin2 (g := (mkF m 16 #[vr o0, vi 0, vi 1, vl 0, sd, vl y1, sd, vl y2, sd] [(.long (y2 + y1)), (.int (0 : Int32)), (.ref o0)])) rfl rfl (hb hby db_16)
  have N3 := Fr.snoc X3 N0 g_o0
  have Z3 : n0 ≤ h3.size := by rw [W3.size]; exact Z0
  have K3 : Keep h0 h3 [o0] := ((Keep.refl h0 [o0]).wr W3 (Or.inl (List.mem_of_getElem? (i := 0) rfl)))
  have V3 := Arv.set Ar2 q2 S2 M2 HH2 GG2 rfl W3 0 rfl (Nat.le_of_ble_eq_true rfl)
  subst hEN
  obtain ⟨lfs, lhr, lhrun, lhended, lhW, lhsame⟩ := X3.leave (v := none) (fun _ => rfl)
  refine ⟨_, _, pre0 _ ?_, lhrun, lhended, _, _, rfl, ?_, ⟨_, rfl⟩, lhW, lhsame.mono (by decide) (by decide)⟩
  · skip
    refine XS.aloadN X0.here hx rfl (hb hby db_0) rfl rfl ?_
    refine XS.iloadN X0.here hx rfl (hb hby db_1) rfl ?_
    refine XS.iconst X0.here hx rfl (hb hby db_2) ?_
    refine XS.iadd X0.here hx rfl (hb hby db_3) rfl ?_
    refine X0.laload hx (j := (0 : Int32)) (v := (.long y2)) (by (try rw [e0]); exact Ar1.1) (State.isArrayOf_alike hZ.alike Ar1.2.1) Ar1.2.2 hin1 hat1 (g := (mkF m 4 #[vr o0, vi 0, vi 1, vl 0, sd, vl y1, sd, un, un] [(.int (0 : Int32)), (.ref o0)])) rfl rfl (hb hby db_4) _ ?_
    refine XS.lstore X0.here hx rfl (hb hby db_5) rfl (l' := #[vr o0, vi 0, vi 1, vl 0, sd, vl y1, sd, vl y2, sd]) rfl ?_
    refine XS.aloadN X0.here hx rfl (hb hby db_7) rfl rfl ?_
    refine XS.iloadN X0.here hx rfl (hb hby db_8) rfl ?_
    refine XS.iconst X0.here hx rfl (hb hby db_9) ?_
    refine XS.iadd X0.here hx rfl (hb hby db_10) rfl ?_
    refine XS.lload X0.here hx rfl (hb hby db_11) rfl ?_
    refine XS.lload X0.here hx rfl (hb hby db_13) rfl ?_
    refine XS.ladd X0.here hx rfl (hb hby db_15) rfl ?_
    show SS p e below s₁ (mkF m 16 #[vr o0, vi 0, vi 1, vl 0, sd, vl y1, sd, vl y2, sd] [(.long (y2 + y1)), (.int (0 : Int32)), (.ref o0)]) _
    refine st3 _ ?_
    refine XS.iloadN X3.here hx rfl (hb hby db_17) rfl ?_
    refine XS.iconst X3.here hx rfl (hb hby db_18) ?_
    refine XS.icmpYes X3.here hx rfl (pc0 := 19) (pc' := 29) rfl (hb hby db_19) rfl (feq (by decide : ¬ ((1 : Int32) = (4 : Int32)))).2 (by decide) (by decide) ?_
    show SS p e below T3 (mkF m 29 #[vr o0, vi 0, vi 1, vl 0, sd, vl y1, sd, vl y2, sd] []) _
    exact X3.returnOut hx Bd.returns (hb hby db_29) lhr
  · skip
    show QA44 Z o0 y1 y2 kk_o0 h0 n0 _ T3.heap _
    rw [e3]
    exact ⟨rfl, N3, K3, V3⟩
theorem db_58 : decode prog_59_method_3_code 58 = .ok (.lload_n 3, 1) := by decide +kernel
theorem db_59 : decode prog_59_method_3_code 59 = .ok (.aload_n 0, 1) := by decide +kernel
theorem db_60 : decode prog_59_method_3_code 60 = .ok (.iload_n 1, 1) := by decide +kernel
theorem db_61 : decode prog_59_method_3_code 61 = .ok (.iconst 3, 1) := by decide +kernel
theorem db_62 : decode prog_59_method_3_code 62 = .ok (.iadd, 1) := by decide +kernel
theorem db_63 : decode prog_59_method_3_code 63 = .ok (.laload, 1) := by decide +kernel
theorem db_64 : decode prog_59_method_3_code 64 = .ok (.lcmp, 1) := by decide +kernel
theorem db_65 : decode prog_59_method_3_code 65 = .ok (.ifCond .lt 33, 3) := by decide +kernel
theorem db_68 : decode prog_59_method_3_code 68 = .ok (.aload_n 0, 1) := by decide +kernel
theorem db_69 : decode prog_59_method_3_code 69 = .ok (.iload_n 1, 1) := by decide +kernel
theorem db_70 : decode prog_59_method_3_code 70 = .ok (.iconst 2, 1) := by decide +kernel
theorem db_71 : decode prog_59_method_3_code 71 = .ok (.iadd, 1) := by decide +kernel
theorem db_72 : decode prog_59_method_3_code 72 = .ok (.lload 5, 2) := by decide +kernel
theorem db_74 : decode prog_59_method_3_code 74 = .ok (.lconst 1, 1) := by decide +kernel
theorem db_75 : decode prog_59_method_3_code 75 = .ok (.lcmp, 1) := by decide +kernel
theorem db_76 : decode prog_59_method_3_code 76 = .ok (.ifCond .le 7, 3) := by decide +kernel
theorem db_79 : decode prog_59_method_3_code 79 = .ok (.lload_n 3, 1) := by decide +kernel
theorem db_80 : decode prog_59_method_3_code 80 = .ok (.goto 8, 3) := by decide +kernel
theorem db_88 : decode prog_59_method_3_code 88 = .ok (.lastore, 1) := by decide +kernel
theorem db_89 : decode prog_59_method_3_code 89 = .ok (.aload_n 0, 1) := by decide +kernel
theorem db_90 : decode prog_59_method_3_code 90 = .ok (.iload_n 1, 1) := by decide +kernel
theorem db_91 : decode prog_59_method_3_code 91 = .ok (.iconst 3, 1) := by decide +kernel
theorem db_92 : decode prog_59_method_3_code 92 = .ok (.iadd, 1) := by decide +kernel
theorem db_93 : decode prog_59_method_3_code 93 = .ok (.lload_n 3, 1) := by decide +kernel
theorem db_94 : decode prog_59_method_3_code 94 = .ok (.lastore, 1) := by decide +kernel
theorem db_95 : decode prog_59_method_3_code 95 = .ok (.goto 26, 3) := by decide +kernel
def QA48 (Z : State) (o0 : Addr) (y1 : Int64) (y2 : Int64) (kk_o0 : ClassId) (h0 : Heap) (n0 : Nat) (v : Option Value) (h : Heap) (L : List Loc) : Prop := v = none ∧ Fr n0 L ∧ Keep h0 h [o0] ∧ Arv Z h o0 kk_o0 .long (4 : Int32) [(.long (y2 + y1)), (.long (0 : Int64)), (.long (0 : Int64)), (.long (0 : Int64))] (.long (0 : Int64))
set_option maxRecDepth 65536 in
set_option maxHeartbeats 40000000 in
theorem rmA48 (l : Launch) (Z : State) (a0 : Array Value) (hw : ∀ d ∈ tables_1, d.before a0 Z = true) (ws : List Jvm.Cond) (o0 : Addr) (y1 : Int64) (y2 : Int64) (kk_o0 : ClassId) (h0 : Heap) (n0 : Nat) (Z0 : n0 ≤ h0.size) (V_o0 : Arv Z h0 o0 kk_o0 .long (4 : Int32) [(.long y2), (.long (0 : Int64)), (.long (0 : Int64)), (.long (0 : Int64))] (.long (0 : Int64))) (g_o0 : n0 ≤ o0) (hq2 : ¬ (y1 = (0 : Int64))) (hq3 : ¬ (y2 = (0 : Int64))) (hq4 : (1 : Int64) < y1) :
    MetFree l mn6 (head1 (Jvm.Cond.code mn6 prog_59_method_3_code 9 none :: ws) ({ frames := 1, cells := 0, slots := 0, locals := 17 } : Room)) (fun a U => a = #[(.ref o0), (.int (0 : Int32)), (.int (4 : Int32)), (.long (0 : Int64)), (.long y1)] ∧ Z.Warmed39 U.vm ∧ U.heap = h0) (fun _ _ _ _ _ => True) (fun _ U oc_ U' => ∃ v L, oc_ = .returned v ∧ QA48 Z o0 y1 y2 kk_o0 h0 n0 v U'.heap L ∧ FrameEnd U oc_ U' L ({ frames := 1, cells := 0, slots := 0, locals := 17 } : Room).cells ({ frames := 1, cells := 0, slots := 0, locals := 17 } : Room).slots) := by
  refine MetFree.of_bodySF (plainFor_of_name pn_com_example_strict_limiter_strictlimiter_WindowRecord) hisR ?_
  intro p e s m args below meth c s₁ Bd hml0 hP hK
  obtain ⟨rfl, hZ, hh⟩ := hP
  have hx := Bd.exec
  have hby := Bd.bytes
  have hml : c.maxLocals = 9 := hml0
  have hown : s.vm.findClass cn1 = some m.cls := findClass_of_methodNamed Bd.named
  have hnm := (name_of_methodNamed Bd.named Bd.method).1
  have X0 : Stand p l e ({ frames := 1, cells := 0, slots := 0, locals := 17 } : Room) s m #[(.ref o0), (.int (0 : Int32)), (.int (4 : Int32)), (.long (0 : Int64)), (.long y1)] below meth c s₁ [] 0 0 := Stand.of_body Bd
  have e0 : s₁.heap = h0 := by rw [← hh, Bd.state]; rfl
  have N0 := Fr.nil n0
  have pre0 : ∀ t, SS p e below s₁ (mkF m 0 #[vr o0, vi 0, vi 4, vl 0, sd, vl y1, sd, un, un] []) t → Steps p.tables e below (s₁.setTop (entryFrame m #[(.ref o0), (.int (0 : Int32)), (.int (4 : Int32)), (.long (0 : Int64)), (.long y1)] 9)) t := fun t k => castTop (efa_prog_59_method_3_code_vvvvv m o0 (0 : Int32) (4 : Int32) (0 : Int64) y1) k
  obtain ⟨EN, hEN⟩ : ∃ z, z = s₁.setTop (entryFrame m #[(.ref o0), (.int (0 : Int32)), (.int (4 : Int32)), (.long (0 : Int64)), (.long y1)] 9) := ⟨_, rfl⟩
  rw [← hEN] at pre0
  obtain ⟨cl1, Ar1, q1, S1, M1, HH1, GG1⟩ := id V_o0
  have hin1 : ¬ ((0 : Int32) < 0 ∨ cl1.slots.size ≤ ((0 : Int32)).toNatClampNeg) := inb_of S1 ⟨by decide, by decide⟩
  have hat1 : cl1.slots[((0 : Int32)).toNatClampNeg]? = some (.long y2) := Has.at HH1 hin1 rfl
  obtain ⟨cl2, Ar2, q2, S2, M2, HH2, GG2⟩ := id V_o0
  have hin2 : ¬ ((0 : Int32) < 0 ∨ cl2.slots.size ≤ ((0 : Int32)).toNatClampNeg) := inb_of S2 ⟨by decide, by decide⟩
  obtain ⟨T3, h3, X3, e3, W3, st3⟩ := stJ X0 hx hZ e0 Ar2 (j := (0 : Int32)) hin2 (g := (mkF m 16 #[vr o0, vi 0, vi 4, vl 0, sd, vl y1, sd, vl y2, sd] [(.long (y2 + y1)), (.int (0 : Int32)), (.ref o0)])) rfl rfl (hb hby db_16)
  have N3 := Fr.snoc X3 N0 g_o0
  have Z3 : n0 ≤ h3.size := by rw [W3.size]; exact Z0
  have K3 : Keep h0 h3 [o0] := ((Keep.refl h0 [o0]).wr W3 (Or.inl (List.mem_of_getElem? (i := 0) rfl)))
  have V3 := Arv.set Ar2 q2 S2 M2 HH2 GG2 rfl W3 0 rfl (Nat.le_of_ble_eq_true rfl)
  obtain ⟨cl4, Ar4, q4, S4, M4, HH4, GG4⟩ := id V3
  have hin4 : ¬ ((3 : Int32) < 0 ∨ cl4.slots.size ≤ ((3 : Int32)).toNatClampNeg) := inb_of S4 ⟨by decide, by decide⟩
  have hat4 : cl4.slots[((3 : Int32)).toNatClampNeg]? = some (.long (0 : Int64)) := Has.at HH4 hin4 rfl
  obtain ⟨cl5, Ar5, q5, S5, M5, HH5, GG5⟩ := id V3
  have hin5 : ¬ ((2 : Int32) < 0 ∨ cl5.slots.size ≤ ((2 : Int32)).toNatClampNeg) := inb_of S5 ⟨by decide, by decide⟩
  obtain ⟨T6, h6, X6, e6, W6, st6⟩ := stJ X3 hx hZ e3 Ar5 (j := (2 : Int32)) hin5 (g := (mkF m 88 #[vr o0, vi 0, vi 4, vl 0, sd, vl y1, sd, vl y2, sd] [(.long (0 : Int64)), (.int (2 : Int32)), (.ref o0)])) rfl rfl (hb hby db_88)
  have N6 := Fr.snoc X6 N3 g_o0
  have Z6 : n0 ≤ h6.size := by rw [W6.size]; exact Z3
  have K6 := (K3.wr W6 (Or.inl (List.mem_of_getElem? (i := 0) rfl)))
  have V6 := Arv.set Ar5 q5 S5 M5 HH5 GG5 rfl W6 2 rfl (Nat.le_of_ble_eq_true rfl)
  obtain ⟨cl7, Ar7, q7, S7, M7, HH7, GG7⟩ := id V6
  have hin7 : ¬ ((3 : Int32) < 0 ∨ cl7.slots.size ≤ ((3 : Int32)).toNatClampNeg) := inb_of S7 ⟨by decide, by decide⟩
  obtain ⟨T8, h8, X8, e8, W8, st8⟩ := stJ X6 hx hZ e6 Ar7 (j := (3 : Int32)) hin7 (g := (mkF m 94 #[vr o0, vi 0, vi 4, vl 0, sd, vl y1, sd, vl y2, sd] [(.long (0 : Int64)), (.int (3 : Int32)), (.ref o0)])) rfl rfl (hb hby db_94)
  have N8 := Fr.snoc X8 N6 g_o0
  have Z8 : n0 ≤ h8.size := by rw [W8.size]; exact Z6
  have K8 := (K6.wr W8 (Or.inl (List.mem_of_getElem? (i := 0) rfl)))
  have V8 := Arv.set Ar7 q7 S7 M7 HH7 GG7 rfl W8 3 rfl (Nat.le_of_ble_eq_true rfl)
  obtain ⟨cl9, Ar9, q9, S9, M9, HH9, GG9⟩ := id V8
  have hin9 : ¬ ((1 : Int32) < 0 ∨ cl9.slots.size ≤ ((1 : Int32)).toNatClampNeg) := inb_of S9 ⟨by decide, by decide⟩
  have hat9 : cl9.slots[((1 : Int32)).toNatClampNeg]? = some (.long (0 : Int64)) := Has.at HH9 hin9 rfl
  obtain ⟨_, _, ⟨T10, L10, kc10, ks10⟩, -, X10, ⟨Lc10, hQ10, l10, y10, z10⟩, st10⟩ := Jvm.LawKit.callS X8 hx (y := mn9) hown (mvT hZ (wd69 hw)) (mvT hZ (wd70 hw)) (mvT hZ (wd51 hw)) (mvT hZ (wd71 hw)) (by decide) (backOf (W := 2) (rmA26 l Z a0 hw []  h8 n0 Z8 ) hZ (wd71 hw) (wd51 hw) (by decide) (by decide)) (g := (mkF m 131 #[vr o0, vi 0, vi 4, vl 0, sd, vl y1, sd, vl y2, sd] [(.long (0 : Int64)), (.long (0 : Int64)), (.int (1 : Int32)), (.ref o0)])) rfl (by rw [hml]; rfl) (argsL := [(.long (0 : Int64)), (.long (0 : Int64))]) (rest := [(.int (1 : Int32)), (.ref o0)]) (lenOf pd__JJ_J rfl) rfl (by show 2 * 0 + _ ≤ _; exact Nat.le_of_eq rfl) (hb hby db_131) (fun _ _ => ⟨rfl, e8, (by decide : 0 + 0 ≤ _), (by decide : 0 + 0 ≤ _)⟩)
  dsimp only [Pt.U, Pt.locs, Pt.cells, Pt.slots] at X10 l10 y10 z10 st10 hQ10
  subst l10 y10 z10
  obtain ⟨rfl, Nq10, eq10⟩ := hQ10
  have N10 := Fr.app N8 Nq10
  obtain ⟨cl11, Ar11, q11, S11, M11, HH11, GG11⟩ := id V8
  have hin11 : ¬ ((1 : Int32) < 0 ∨ cl11.slots.size ≤ ((1 : Int32)).toNatClampNeg) := inb_of S11 ⟨by decide, by decide⟩
  obtain ⟨T12, h12, X12, e12, W12, st12⟩ := stJ X10 hx hZ eq10 Ar11 (j := (1 : Int32)) hin11 (g := (mkF m 134 #[vr o0, vi 0, vi 4, vl 0, sd, vl y1, sd, vl y2, sd] [(.long (0 : Int64)), (.int (1 : Int32)), (.ref o0)])) rfl rfl (hb hby db_134)
  have N12 := Fr.snoc X12 N10 g_o0
  have Z12 : n0 ≤ h12.size := by rw [W12.size]; exact Z8
  have K12 := (K8.wr W12 (Or.inl (List.mem_of_getElem? (i := 0) rfl)))
  have V12 := Arv.set Ar11 q11 S11 M11 HH11 GG11 rfl W12 1 rfl (Nat.le_of_ble_eq_true rfl)
  subst hEN
  obtain ⟨lfs, lhr, lhrun, lhended, lhW, lhsame⟩ := X12.leave (v := none) (fun _ => rfl)
  refine ⟨_, _, pre0 _ ?_, lhrun, lhended, _, _, rfl, ?_, ⟨_, rfl⟩, lhW, lhsame.mono (by decide) (by decide)⟩
  · skip
    refine XS.aloadN X0.here hx rfl (hb hby db_0) rfl rfl ?_
    refine XS.iloadN X0.here hx rfl (hb hby db_1) rfl ?_
    refine XS.iconst X0.here hx rfl (hb hby db_2) ?_
    refine XS.iadd X0.here hx rfl (hb hby db_3) rfl ?_
    refine X0.laload hx (j := (0 : Int32)) (v := (.long y2)) (by (try rw [e0]); exact Ar1.1) (State.isArrayOf_alike hZ.alike Ar1.2.1) Ar1.2.2 hin1 hat1 (g := (mkF m 4 #[vr o0, vi 0, vi 4, vl 0, sd, vl y1, sd, un, un] [(.int (0 : Int32)), (.ref o0)])) rfl rfl (hb hby db_4) _ ?_
    refine XS.lstore X0.here hx rfl (hb hby db_5) rfl (l' := #[vr o0, vi 0, vi 4, vl 0, sd, vl y1, sd, vl y2, sd]) rfl ?_
    refine XS.aloadN X0.here hx rfl (hb hby db_7) rfl rfl ?_
    refine XS.iloadN X0.here hx rfl (hb hby db_8) rfl ?_
    refine XS.iconst X0.here hx rfl (hb hby db_9) ?_
    refine XS.iadd X0.here hx rfl (hb hby db_10) rfl ?_
    refine XS.lload X0.here hx rfl (hb hby db_11) rfl ?_
    refine XS.lload X0.here hx rfl (hb hby db_13) rfl ?_
    refine XS.ladd X0.here hx rfl (hb hby db_15) rfl ?_
    show SS p e below s₁ (mkF m 16 #[vr o0, vi 0, vi 4, vl 0, sd, vl y1, sd, vl y2, sd] [(.long (y2 + y1)), (.int (0 : Int32)), (.ref o0)]) _
    refine st3 _ ?_
    refine XS.iloadN X3.here hx rfl (hb hby db_17) rfl ?_
    refine XS.iconst X3.here hx rfl (hb hby db_18) ?_
    refine XS.icmpNo X3.here hx rfl (hb hby db_19) rfl (teq (by decide : (4 : Int32) = (4 : Int32))).2 ?_
    refine XS.lload X3.here hx rfl (hb hby db_22) rfl ?_
    refine XS.lconst X3.here hx rfl (hb hby db_24) ?_
    refine XS.lcmp X3.here hx rfl (hb hby db_25) rfl ?_
    refine XS.ifYes X3.here hx rfl (pc0 := 26) (pc' := 30) rfl (hb hby db_26) rfl ((if0 _ _).trans (feq (fun q => hq2 ((lw_eq y1 (0 : Int64)).mp q))).2) (by decide) (by decide) ?_
    refine XS.lload X3.here hx rfl (hb hby db_30) rfl ?_
    show SS p e below T3 (mkF m 32 #[vr o0, vi 0, vi 4, vl 0, sd, vl y1, sd, vl y2, sd] [(.long y2)]) _
    refine XS.lconst X3.here hx rfl (hb hby db_32) ?_
    refine XS.lcmp X3.here hx rfl (hb hby db_33) rfl ?_
    refine XS.ifYes X3.here hx rfl (pc0 := 34) (pc' := 58) rfl (hb hby db_34) rfl ((if0 _ _).trans (feq (fun q => hq3 ((lw_eq y2 (0 : Int64)).mp q))).2) (by decide) (by decide) ?_
    refine XS.lloadN X3.here hx rfl (hb hby db_58) rfl ?_
    refine XS.aloadN X3.here hx rfl (hb hby db_59) rfl rfl ?_
    refine XS.iloadN X3.here hx rfl (hb hby db_60) rfl ?_
    refine XS.iconst X3.here hx rfl (hb hby db_61) ?_
    refine XS.iadd X3.here hx rfl (hb hby db_62) rfl ?_
    show SS p e below T3 (mkF m 63 #[vr o0, vi 0, vi 4, vl 0, sd, vl y1, sd, vl y2, sd] [(.int (3 : Int32)), (.ref o0), (.long (0 : Int64))]) _
    refine X3.laload hx (j := (3 : Int32)) (v := (.long (0 : Int64))) (by (try rw [e3]); exact Ar4.1) (State.isArrayOf_alike hZ.alike Ar4.2.1) Ar4.2.2 hin4 hat4 (g := (mkF m 63 #[vr o0, vi 0, vi 4, vl 0, sd, vl y1, sd, vl y2, sd] [(.int (3 : Int32)), (.ref o0), (.long (0 : Int64))])) rfl rfl (hb hby db_63) _ ?_
    refine XS.lcmp X3.here hx rfl (hb hby db_64) rfl ?_
    refine XS.ifNo X3.here hx rfl (hb hby db_65) rfl ((if0 _ _).trans (flt (fun q => (by decide : ¬ ((0 : Int64) < (0 : Int64))) ((lw_lt (0 : Int64) (0 : Int64)).mp q))).1) ?_
    refine XS.aloadN X3.here hx rfl (hb hby db_68) rfl rfl ?_
    refine XS.iloadN X3.here hx rfl (hb hby db_69) rfl ?_
    refine XS.iconst X3.here hx rfl (hb hby db_70) ?_
    refine XS.iadd X3.here hx rfl (hb hby db_71) rfl ?_
    refine XS.lload X3.here hx rfl (hb hby db_72) rfl ?_
    refine XS.lconst X3.here hx rfl (hb hby db_74) ?_
    show SS p e below T3 (mkF m 75 #[vr o0, vi 0, vi 4, vl 0, sd, vl y1, sd, vl y2, sd] [(.long (1 : Int64)), (.long y1), (.int (2 : Int32)), (.ref o0)]) _
    refine XS.lcmp X3.here hx rfl (hb hby db_75) rfl ?_
    refine XS.ifNo X3.here hx rfl (hb hby db_76) rfl ((if0 _ _).trans (tlt ((lw_gt y1 (1 : Int64)).mpr hq4)).2.2.2) ?_
    refine XS.lloadN X3.here hx rfl (hb hby db_79) rfl ?_
    refine XS.goto X3.here hx rfl (pc0 := 80) (pc' := 88) rfl (hb hby db_80) (by decide) (by decide) ?_
    refine st6 _ ?_
    refine XS.aloadN X6.here hx rfl (hb hby db_89) rfl rfl ?_
    refine XS.iloadN X6.here hx rfl (hb hby db_90) rfl ?_
    refine XS.iconst X6.here hx rfl (hb hby db_91) ?_
    refine XS.iadd X6.here hx rfl (hb hby db_92) rfl ?_
    refine XS.lloadN X6.here hx rfl (hb hby db_93) rfl ?_
    refine st8 _ ?_
    refine XS.goto X8.here hx rfl (pc0 := 95) (pc' := 121) rfl (hb hby db_95) (by decide) (by decide) ?_
    refine XS.aloadN X8.here hx rfl (hb hby db_121) rfl rfl ?_
    refine XS.iloadN X8.here hx rfl (hb hby db_122) rfl ?_
    refine XS.iconst X8.here hx rfl (hb hby db_123) ?_
    refine XS.iadd X8.here hx rfl (hb hby db_124) rfl ?_
    refine XS.aloadN X8.here hx rfl (hb hby db_125) rfl rfl ?_
    refine XS.iloadN X8.here hx rfl (hb hby db_126) rfl ?_
    refine XS.iconst X8.here hx rfl (hb hby db_127) ?_
    show SS p e below T8 (mkF m 128 #[vr o0, vi 0, vi 4, vl 0, sd, vl y1, sd, vl y2, sd] [(.int (1 : Int32)), (.int (0 : Int32)), (.ref o0), (.int (1 : Int32)), (.ref o0)]) _
    refine XS.iadd X8.here hx rfl (hb hby db_128) rfl ?_
    refine X8.laload hx (j := (1 : Int32)) (v := (.long (0 : Int64))) (by (try rw [e8]); exact Ar9.1) (State.isArrayOf_alike hZ.alike Ar9.2.1) Ar9.2.2 hin9 hat9 (g := (mkF m 129 #[vr o0, vi 0, vi 4, vl 0, sd, vl y1, sd, vl y2, sd] [(.int (1 : Int32)), (.ref o0), (.int (1 : Int32)), (.ref o0)])) rfl rfl (hb hby db_129) _ ?_
    refine XS.lloadN X8.here hx rfl (hb hby db_130) rfl ?_
    refine st10 _ ?_
    refine st12 _ ?_
    show SS p e below T12 (mkF m 135 #[vr o0, vi 0, vi 4, vl 0, sd, vl y1, sd, vl y2, sd] []) _
    exact X12.returnOut hx Bd.returns (hb hby db_135) lhr
  · skip
    show QA48 Z o0 y1 y2 kk_o0 h0 n0 _ T12.heap _
    rw [e12]
    exact ⟨rfl, N12, K12, V12⟩
theorem db_83 : decode prog_59_method_3_code 83 = .ok (.aload_n 0, 1) := by decide +kernel
theorem db_84 : decode prog_59_method_3_code 84 = .ok (.iload_n 1, 1) := by decide +kernel
theorem db_85 : decode prog_59_method_3_code 85 = .ok (.iconst 3, 1) := by decide +kernel
theorem db_86 : decode prog_59_method_3_code 86 = .ok (.iadd, 1) := by decide +kernel
theorem db_87 : decode prog_59_method_3_code 87 = .ok (.laload, 1) := by decide +kernel
def QA53 (Z : State) (o0 : Addr) (y1 : Int64) (y2 : Int64) (kk_o0 : ClassId) (h0 : Heap) (n0 : Nat) (v : Option Value) (h : Heap) (L : List Loc) : Prop := v = none ∧ Fr n0 L ∧ Keep h0 h [o0] ∧ Arv Z h o0 kk_o0 .long (4 : Int32) [(.long (y2 + y1)), (.long (0 : Int64)), (.long (0 : Int64)), (.long (0 : Int64))] (.long (0 : Int64))
set_option maxRecDepth 65536 in
set_option maxHeartbeats 40000000 in
theorem rmA53 (l : Launch) (Z : State) (a0 : Array Value) (hw : ∀ d ∈ tables_1, d.before a0 Z = true) (ws : List Jvm.Cond) (o0 : Addr) (y1 : Int64) (y2 : Int64) (kk_o0 : ClassId) (h0 : Heap) (n0 : Nat) (Z0 : n0 ≤ h0.size) (V_o0 : Arv Z h0 o0 kk_o0 .long (4 : Int32) [(.long y2), (.long (0 : Int64)), (.long (0 : Int64)), (.long (0 : Int64))] (.long (0 : Int64))) (g_o0 : n0 ≤ o0) (hq2 : ¬ (y1 = (0 : Int64))) (hq3 : ¬ (y2 = (0 : Int64))) (hq4 : ¬ ((1 : Int64) < y1)) :
    MetFree l mn6 (head1 (Jvm.Cond.code mn6 prog_59_method_3_code 9 none :: ws) ({ frames := 1, cells := 0, slots := 0, locals := 17 } : Room)) (fun a U => a = #[(.ref o0), (.int (0 : Int32)), (.int (4 : Int32)), (.long (0 : Int64)), (.long y1)] ∧ Z.Warmed39 U.vm ∧ U.heap = h0) (fun _ _ _ _ _ => True) (fun _ U oc_ U' => ∃ v L, oc_ = .returned v ∧ QA53 Z o0 y1 y2 kk_o0 h0 n0 v U'.heap L ∧ FrameEnd U oc_ U' L ({ frames := 1, cells := 0, slots := 0, locals := 17 } : Room).cells ({ frames := 1, cells := 0, slots := 0, locals := 17 } : Room).slots) := by
  refine MetFree.of_bodySF (plainFor_of_name pn_com_example_strict_limiter_strictlimiter_WindowRecord) hisR ?_
  intro p e s m args below meth c s₁ Bd hml0 hP hK
  obtain ⟨rfl, hZ, hh⟩ := hP
  have hx := Bd.exec
  have hby := Bd.bytes
  have hml : c.maxLocals = 9 := hml0
  have hown : s.vm.findClass cn1 = some m.cls := findClass_of_methodNamed Bd.named
  have hnm := (name_of_methodNamed Bd.named Bd.method).1
  have X0 : Stand p l e ({ frames := 1, cells := 0, slots := 0, locals := 17 } : Room) s m #[(.ref o0), (.int (0 : Int32)), (.int (4 : Int32)), (.long (0 : Int64)), (.long y1)] below meth c s₁ [] 0 0 := Stand.of_body Bd
  have e0 : s₁.heap = h0 := by rw [← hh, Bd.state]; rfl
  have N0 := Fr.nil n0
  have pre0 : ∀ t, SS p e below s₁ (mkF m 0 #[vr o0, vi 0, vi 4, vl 0, sd, vl y1, sd, un, un] []) t → Steps p.tables e below (s₁.setTop (entryFrame m #[(.ref o0), (.int (0 : Int32)), (.int (4 : Int32)), (.long (0 : Int64)), (.long y1)] 9)) t := fun t k => castTop (efa_prog_59_method_3_code_vvvvv m o0 (0 : Int32) (4 : Int32) (0 : Int64) y1) k
  obtain ⟨EN, hEN⟩ : ∃ z, z = s₁.setTop (entryFrame m #[(.ref o0), (.int (0 : Int32)), (.int (4 : Int32)), (.long (0 : Int64)), (.long y1)] 9) := ⟨_, rfl⟩
  rw [← hEN] at pre0
  obtain ⟨cl1, Ar1, q1, S1, M1, HH1, GG1⟩ := id V_o0
  have hin1 : ¬ ((0 : Int32) < 0 ∨ cl1.slots.size ≤ ((0 : Int32)).toNatClampNeg) := inb_of S1 ⟨by decide, by decide⟩
  have hat1 : cl1.slots[((0 : Int32)).toNatClampNeg]? = some (.long y2) := Has.at HH1 hin1 rfl
  obtain ⟨cl2, Ar2, q2, S2, M2, HH2, GG2⟩ := id V_o0
  have hin2 : ¬ ((0 : Int32) < 0 ∨ cl2.slots.size ≤ ((0 : Int32)).toNatClampNeg) := inb_of S2 ⟨by decide, by decide⟩
  obtain ⟨T3, h3, X3, e3, W3, st3⟩ := stJ X0 hx hZ e0 Ar2 (j := (0 : Int32)) hin2 (g := (mkF m 16 #[vr o0, vi 0, vi 4, vl 0, sd, vl y1, sd, vl y2, sd] [(.long (y2 + y1)), (.int (0 : Int32)), (.ref o0)])) rfl rfl (hb hby db_16)
  have N3 := Fr.snoc X3 N0 g_o0
  have Z3 : n0 ≤ h3.size := by rw [W3.size]; exact Z0
  have K3 : Keep h0 h3 [o0] := ((Keep.refl h0 [o0]).wr W3 (Or.inl (List.mem_of_getElem? (i := 0) rfl)))
  have V3 := Arv.set Ar2 q2 S2 M2 HH2 GG2 rfl W3 0 rfl (Nat.le_of_ble_eq_true rfl)
  obtain ⟨cl4, Ar4, q4, S4, M4, HH4, GG4⟩ := id V3
  have hin4 : ¬ ((3 : Int32) < 0 ∨ cl4.slots.size ≤ ((3 : Int32)).toNatClampNeg) := inb_of S4 ⟨by decide, by decide⟩
  have hat4 : cl4.slots[((3 : Int32)).toNatClampNeg]? = some (.long (0 : Int64)) := Has.at HH4 hin4 rfl
  obtain ⟨cl5, Ar5, q5, S5, M5, HH5, GG5⟩ := id V3
  have hin5 : ¬ ((3 : Int32) < 0 ∨ cl5.slots.size ≤ ((3 : Int32)).toNatClampNeg) := inb_of S5 ⟨by decide, by decide⟩
  have hat5 : cl5.slots[((3 : Int32)).toNatClampNeg]? = some (.long (0 : Int64)) := Has.at HH5 hin5 rfl
  obtain ⟨cl6, Ar6, q6, S6, M6, HH6, GG6⟩ := id V3
  have hin6 : ¬ ((2 : Int32) < 0 ∨ cl6.slots.size ≤ ((2 : Int32)).toNatClampNeg) := inb_of S6 ⟨by decide, by decide⟩
  obtain ⟨T7, h7, X7, e7, W7, st7⟩ := stJ X3 hx hZ e3 Ar6 (j := (2 : Int32)) hin6 (g := (mkF m 88 #[vr o0, vi 0, vi 4, vl 0, sd, vl y1, sd, vl y2, sd] [(.long (0 : Int64)), (.int (2 : Int32)), (.ref o0)])) rfl rfl (hb hby db_88)
  have N7 := Fr.snoc X7 N3 g_o0
  have Z7 : n0 ≤ h7.size := by rw [W7.size]; exact Z3
  have K7 := (K3.wr W7 (Or.inl (List.mem_of_getElem? (i := 0) rfl)))
  have V7 := Arv.set Ar6 q6 S6 M6 HH6 GG6 rfl W7 2 rfl (Nat.le_of_ble_eq_true rfl)
  obtain ⟨cl8, Ar8, q8, S8, M8, HH8, GG8⟩ := id V7
  have hin8 : ¬ ((3 : Int32) < 0 ∨ cl8.slots.size ≤ ((3 : Int32)).toNatClampNeg) := inb_of S8 ⟨by decide, by decide⟩
  obtain ⟨T9, h9, X9, e9, W9, st9⟩ := stJ X7 hx hZ e7 Ar8 (j := (3 : Int32)) hin8 (g := (mkF m 94 #[vr o0, vi 0, vi 4, vl 0, sd, vl y1, sd, vl y2, sd] [(.long (0 : Int64)), (.int (3 : Int32)), (.ref o0)])) rfl rfl (hb hby db_94)
  have N9 := Fr.snoc X9 N7 g_o0
  have Z9 : n0 ≤ h9.size := by rw [W9.size]; exact Z7
  have K9 := (K7.wr W9 (Or.inl (List.mem_of_getElem? (i := 0) rfl)))
  have V9 := Arv.set Ar8 q8 S8 M8 HH8 GG8 rfl W9 3 rfl (Nat.le_of_ble_eq_true rfl)
  obtain ⟨cl10, Ar10, q10, S10, M10, HH10, GG10⟩ := id V9
  have hin10 : ¬ ((1 : Int32) < 0 ∨ cl10.slots.size ≤ ((1 : Int32)).toNatClampNeg) := inb_of S10 ⟨by decide, by decide⟩
  have hat10 : cl10.slots[((1 : Int32)).toNatClampNeg]? = some (.long (0 : Int64)) := Has.at HH10 hin10 rfl
  obtain ⟨_, _, ⟨T11, L11, kc11, ks11⟩, -, X11, ⟨Lc11, hQ11, l11, y11, z11⟩, st11⟩ := Jvm.LawKit.callS X9 hx (y := mn9) hown (mvT hZ (wd69 hw)) (mvT hZ (wd70 hw)) (mvT hZ (wd51 hw)) (mvT hZ (wd71 hw)) (by decide) (backOf (W := 2) (rmA26 l Z a0 hw []  h9 n0 Z9 ) hZ (wd71 hw) (wd51 hw) (by decide) (by decide)) (g := (mkF m 131 #[vr o0, vi 0, vi 4, vl 0, sd, vl y1, sd, vl y2, sd] [(.long (0 : Int64)), (.long (0 : Int64)), (.int (1 : Int32)), (.ref o0)])) rfl (by rw [hml]; rfl) (argsL := [(.long (0 : Int64)), (.long (0 : Int64))]) (rest := [(.int (1 : Int32)), (.ref o0)]) (lenOf pd__JJ_J rfl) rfl (by show 2 * 0 + _ ≤ _; exact Nat.le_of_eq rfl) (hb hby db_131) (fun _ _ => ⟨rfl, e9, (by decide : 0 + 0 ≤ _), (by decide : 0 + 0 ≤ _)⟩)
  dsimp only [Pt.U, Pt.locs, Pt.cells, Pt.slots] at X11 l11 y11 z11 st11 hQ11
  subst l11 y11 z11
  obtain ⟨rfl, Nq11, eq11⟩ := hQ11
  have N11 := Fr.app N9 Nq11
  obtain ⟨cl12, Ar12, q12, S12, M12, HH12, GG12⟩ := id V9
  have hin12 : ¬ ((1 : Int32) < 0 ∨ cl12.slots.size ≤ ((1 : Int32)).toNatClampNeg) := inb_of S12 ⟨by decide, by decide⟩
  obtain ⟨T13, h13, X13, e13, W13, st13⟩ := stJ X11 hx hZ eq11 Ar12 (j := (1 : Int32)) hin12 (g := (mkF m 134 #[vr o0, vi 0, vi 4, vl 0, sd, vl y1, sd, vl y2, sd] [(.long (0 : Int64)), (.int (1 : Int32)), (.ref o0)])) rfl rfl (hb hby db_134)
  have N13 := Fr.snoc X13 N11 g_o0
  have Z13 : n0 ≤ h13.size := by rw [W13.size]; exact Z9
  have K13 := (K9.wr W13 (Or.inl (List.mem_of_getElem? (i := 0) rfl)))
  have V13 := Arv.set Ar12 q12 S12 M12 HH12 GG12 rfl W13 1 rfl (Nat.le_of_ble_eq_true rfl)
  subst hEN
  obtain ⟨lfs, lhr, lhrun, lhended, lhW, lhsame⟩ := X13.leave (v := none) (fun _ => rfl)
  refine ⟨_, _, pre0 _ ?_, lhrun, lhended, _, _, rfl, ?_, ⟨_, rfl⟩, lhW, lhsame.mono (by decide) (by decide)⟩
  · skip
    refine XS.aloadN X0.here hx rfl (hb hby db_0) rfl rfl ?_
    refine XS.iloadN X0.here hx rfl (hb hby db_1) rfl ?_
    refine XS.iconst X0.here hx rfl (hb hby db_2) ?_
    refine XS.iadd X0.here hx rfl (hb hby db_3) rfl ?_
    refine X0.laload hx (j := (0 : Int32)) (v := (.long y2)) (by (try rw [e0]); exact Ar1.1) (State.isArrayOf_alike hZ.alike Ar1.2.1) Ar1.2.2 hin1 hat1 (g := (mkF m 4 #[vr o0, vi 0, vi 4, vl 0, sd, vl y1, sd, un, un] [(.int (0 : Int32)), (.ref o0)])) rfl rfl (hb hby db_4) _ ?_
    refine XS.lstore X0.here hx rfl (hb hby db_5) rfl (l' := #[vr o0, vi 0, vi 4, vl 0, sd, vl y1, sd, vl y2, sd]) rfl ?_
    refine XS.aloadN X0.here hx rfl (hb hby db_7) rfl rfl ?_
    refine XS.iloadN X0.here hx rfl (hb hby db_8) rfl ?_
    refine XS.iconst X0.here hx rfl (hb hby db_9) ?_
    refine XS.iadd X0.here hx rfl (hb hby db_10) rfl ?_
    refine XS.lload X0.here hx rfl (hb hby db_11) rfl ?_
    refine XS.lload X0.here hx rfl (hb hby db_13) rfl ?_
    refine XS.ladd X0.here hx rfl (hb hby db_15) rfl ?_
    show SS p e below s₁ (mkF m 16 #[vr o0, vi 0, vi 4, vl 0, sd, vl y1, sd, vl y2, sd] [(.long (y2 + y1)), (.int (0 : Int32)), (.ref o0)]) _
    refine st3 _ ?_
    refine XS.iloadN X3.here hx rfl (hb hby db_17) rfl ?_
    refine XS.iconst X3.here hx rfl (hb hby db_18) ?_
    refine XS.icmpNo X3.here hx rfl (hb hby db_19) rfl (teq (by decide : (4 : Int32) = (4 : Int32))).2 ?_
    refine XS.lload X3.here hx rfl (hb hby db_22) rfl ?_
    refine XS.lconst X3.here hx rfl (hb hby db_24) ?_
    refine XS.lcmp X3.here hx rfl (hb hby db_25) rfl ?_
    refine XS.ifYes X3.here hx rfl (pc0 := 26) (pc' := 30) rfl (hb hby db_26) rfl ((if0 _ _).trans (feq (fun q => hq2 ((lw_eq y1 (0 : Int64)).mp q))).2) (by decide) (by decide) ?_
    refine XS.lload X3.here hx rfl (hb hby db_30) rfl ?_
    show SS p e below T3 (mkF m 32 #[vr o0, vi 0, vi 4, vl 0, sd, vl y1, sd, vl y2, sd] [(.long y2)]) _
    refine XS.lconst X3.here hx rfl (hb hby db_32) ?_
    refine XS.lcmp X3.here hx rfl (hb hby db_33) rfl ?_
    refine XS.ifYes X3.here hx rfl (pc0 := 34) (pc' := 58) rfl (hb hby db_34) rfl ((if0 _ _).trans (feq (fun q => hq3 ((lw_eq y2 (0 : Int64)).mp q))).2) (by decide) (by decide) ?_
    refine XS.lloadN X3.here hx rfl (hb hby db_58) rfl ?_
    refine XS.aloadN X3.here hx rfl (hb hby db_59) rfl rfl ?_
    refine XS.iloadN X3.here hx rfl (hb hby db_60) rfl ?_
    refine XS.iconst X3.here hx rfl (hb hby db_61) ?_
    refine XS.iadd X3.here hx rfl (hb hby db_62) rfl ?_
    show SS p e below T3 (mkF m 63 #[vr o0, vi 0, vi 4, vl 0, sd, vl y1, sd, vl y2, sd] [(.int (3 : Int32)), (.ref o0), (.long (0 : Int64))]) _
    refine X3.laload hx (j := (3 : Int32)) (v := (.long (0 : Int64))) (by (try rw [e3]); exact Ar4.1) (State.isArrayOf_alike hZ.alike Ar4.2.1) Ar4.2.2 hin4 hat4 (g := (mkF m 63 #[vr o0, vi 0, vi 4, vl 0, sd, vl y1, sd, vl y2, sd] [(.int (3 : Int32)), (.ref o0), (.long (0 : Int64))])) rfl rfl (hb hby db_63) _ ?_
    refine XS.lcmp X3.here hx rfl (hb hby db_64) rfl ?_
    refine XS.ifNo X3.here hx rfl (hb hby db_65) rfl ((if0 _ _).trans (flt (fun q => (by decide : ¬ ((0 : Int64) < (0 : Int64))) ((lw_lt (0 : Int64) (0 : Int64)).mp q))).1) ?_
    refine XS.aloadN X3.here hx rfl (hb hby db_68) rfl rfl ?_
    refine XS.iloadN X3.here hx rfl (hb hby db_69) rfl ?_
    refine XS.iconst X3.here hx rfl (hb hby db_70) ?_
    refine XS.iadd X3.here hx rfl (hb hby db_71) rfl ?_
    refine XS.lload X3.here hx rfl (hb hby db_72) rfl ?_
    refine XS.lconst X3.here hx rfl (hb hby db_74) ?_
    show SS p e below T3 (mkF m 75 #[vr o0, vi 0, vi 4, vl 0, sd, vl y1, sd, vl y2, sd] [(.long (1 : Int64)), (.long y1), (.int (2 : Int32)), (.ref o0)]) _
    refine XS.lcmp X3.here hx rfl (hb hby db_75) rfl ?_
    refine XS.ifYes X3.here hx rfl (pc0 := 76) (pc' := 83) rfl (hb hby db_76) rfl ((if0 _ _).trans (flt (fun q => hq4 ((lw_gt y1 (1 : Int64)).mp q))).2.2.2) (by decide) (by decide) ?_
    refine XS.aloadN X3.here hx rfl (hb hby db_83) rfl rfl ?_
    refine XS.iloadN X3.here hx rfl (hb hby db_84) rfl ?_
    refine XS.iconst X3.here hx rfl (hb hby db_85) ?_
    refine XS.iadd X3.here hx rfl (hb hby db_86) rfl ?_
    refine X3.laload hx (j := (3 : Int32)) (v := (.long (0 : Int64))) (by (try rw [e3]); exact Ar5.1) (State.isArrayOf_alike hZ.alike Ar5.2.1) Ar5.2.2 hin5 hat5 (g := (mkF m 87 #[vr o0, vi 0, vi 4, vl 0, sd, vl y1, sd, vl y2, sd] [(.int (3 : Int32)), (.ref o0), (.int (2 : Int32)), (.ref o0)])) rfl rfl (hb hby db_87) _ ?_
    refine st7 _ ?_
    refine XS.aloadN X7.here hx rfl (hb hby db_89) rfl rfl ?_
    refine XS.iloadN X7.here hx rfl (hb hby db_90) rfl ?_
    refine XS.iconst X7.here hx rfl (hb hby db_91) ?_
    refine XS.iadd X7.here hx rfl (hb hby db_92) rfl ?_
    refine XS.lloadN X7.here hx rfl (hb hby db_93) rfl ?_
    refine st9 _ ?_
    refine XS.goto X9.here hx rfl (pc0 := 95) (pc' := 121) rfl (hb hby db_95) (by decide) (by decide) ?_
    refine XS.aloadN X9.here hx rfl (hb hby db_121) rfl rfl ?_
    refine XS.iloadN X9.here hx rfl (hb hby db_122) rfl ?_
    refine XS.iconst X9.here hx rfl (hb hby db_123) ?_
    refine XS.iadd X9.here hx rfl (hb hby db_124) rfl ?_
    refine XS.aloadN X9.here hx rfl (hb hby db_125) rfl rfl ?_
    refine XS.iloadN X9.here hx rfl (hb hby db_126) rfl ?_
    refine XS.iconst X9.here hx rfl (hb hby db_127) ?_
    show SS p e below T9 (mkF m 128 #[vr o0, vi 0, vi 4, vl 0, sd, vl y1, sd, vl y2, sd] [(.int (1 : Int32)), (.int (0 : Int32)), (.ref o0), (.int (1 : Int32)), (.ref o0)]) _
    refine XS.iadd X9.here hx rfl (hb hby db_128) rfl ?_
    refine X9.laload hx (j := (1 : Int32)) (v := (.long (0 : Int64))) (by (try rw [e9]); exact Ar10.1) (State.isArrayOf_alike hZ.alike Ar10.2.1) Ar10.2.2 hin10 hat10 (g := (mkF m 129 #[vr o0, vi 0, vi 4, vl 0, sd, vl y1, sd, vl y2, sd] [(.int (1 : Int32)), (.ref o0), (.int (1 : Int32)), (.ref o0)])) rfl rfl (hb hby db_129) _ ?_
    refine XS.lloadN X9.here hx rfl (hb hby db_130) rfl ?_
    refine st11 _ ?_
    refine st13 _ ?_
    show SS p e below T13 (mkF m 135 #[vr o0, vi 0, vi 4, vl 0, sd, vl y1, sd, vl y2, sd] []) _
    exact X13.returnOut hx Bd.returns (hb hby db_135) lhr
  · skip
    show QA53 Z o0 y1 y2 kk_o0 h0 n0 _ T13.heap _
    rw [e13]
    exact ⟨rfl, N13, K13, V13⟩
theorem ef_Ad2 (m : MethodId) (x0 : Addr) (x1 : Int64) (x2 : Int64) (x3 : Int64) (x4 : Int64) : entryFrame m #[(.ref x0), (.long x1), (.long x2), (.long x3), (.long x4)] 10 = mkF m 0 #[vr x0, vl x1, sd, vl x2, sd, vl x3, sd, vl x4, sd, un] [] := by first | (simp [entryFrame, mkF, argsToLocals, Value.category]; done) | rfl
def QAd2 (Z : State) (kw : Addr) (yy : Int64) (yc : Int64) (sA : Addr) (rA : Addr) (dA : Addr) (ksA : ClassId) (krA : ClassId) (kdA : ClassId) (yx : Int64) (c0 : Int64) (wd : Int32) (h0 : Heap) (n0 : Nat) (v : Option Value) (h : Heap) (L : List Loc) : Prop := v = none ∧ Fr n0 L ∧ Keep h0 h [rA, dA] ∧ Arv Z h dA kdA .long (1 : Int32) [(.long (0 : Int64))] (.long (0 : Int64))
set_option maxRecDepth 65536 in
set_option maxHeartbeats 40000000 in
theorem rmAd2 (l : Launch) (Z : State) (a0 : Array Value) (hw : ∀ d ∈ tables_1, d.before a0 Z = true) (ws : List Jvm.Cond) (kw : Addr) (yy : Int64) (yc : Int64) (sA : Addr) (rA : Addr) (dA : Addr) (ksA : ClassId) (krA : ClassId) (kdA : ClassId) (yx : Int64) (c0 : Int64) (wd : Int32) (h0 : Heap) (n0 : Nat) (Z0 : n0 ≤ h0.size) (g_k : n0 ≤ kw) (E_k : Exa Z h0 kw cn2) (F_s : Fld Z h0 kw cn2 "starts" "[J" (.ref sA)) (F_r : Fld Z h0 kw cn2 "records" "[J" (.ref rA)) (F_d : Fld Z h0 kw cn2 "decidedAt" "[J" (.ref dA)) (F_1 : Fld Z h0 kw cn2 "first" "I" (.int (0 : Int32))) (F_e : Fld Z h0 kw cn2 "end" "I" (.int (1 : Int32))) (F_w : Fld Z h0 kw cn2 "width" "I" (.int wd)) (V_s : Arv Z h0 sA ksA .long (1 : Int32) [(.long yx)] (.long (0 : Int64))) (hr : ((wd = (1 : Int32) ∧ Arv Z h0 rA krA .long (1 : Int32) [(.long c0)] (.long (0 : Int64))) ∨ (wd = (4 : Int32) ∧ Arv Z h0 rA krA .long (4 : Int32) [(.long c0), (.long (0 : Int64)), (.long (0 : Int64)), (.long (0 : Int64))] (.long (0 : Int64))))) (V_d : Arv Z h0 dA kdA .long (1 : Int32) [(.long (0 : Int64))] (.long (0 : Int64))) (g_r : n0 ≤ rA) (g_d : n0 ≤ dA) (hc0 : ¬ c0 = (0 : Int64)) (n_kw_sA : kw ≠ sA) (n_kw_rA : kw ≠ rA) (n_kw_dA : kw ≠ dA) (n_sA_rA : sA ≠ rA) (n_sA_dA : sA ≠ dA) (n_rA_dA : rA ≠ dA) (hcase : yc = (0 : Int64) ∨ ((0 : Int64) < yc ∧ yy = yx)) :
    MetFree l mn1 (head1 (Jvm.Cond.code mn1 prog_23_method_5_code 10 none :: ws) ({ frames := 3, cells := 0, slots := 0, locals := 90 } : Room)) (fun a U => a = #[(.ref kw), (.long yy), (.long (0 : Int64)), (.long yc), (.long (0 : Int64))] ∧ Z.Warmed39 U.vm ∧ U.heap = h0) (fun _ _ _ _ _ => True) (fun _ U oc_ U' => ∃ v L, oc_ = .returned v ∧ QAd2 Z kw yy yc sA rA dA ksA krA kdA yx c0 wd h0 n0 v U'.heap L ∧ FrameEnd U oc_ U' L ({ frames := 3, cells := 0, slots := 0, locals := 90 } : Room).cells ({ frames := 3, cells := 0, slots := 0, locals := 90 } : Room).slots) := by
  refine MetFree.of_bodySF (plainFor_of_name pn_com_example_strict_limiter_strictlimiter_KeptWindows) hisR ?_
  intro p e s m args below meth c s₁ Bd hml0 hP hK
  obtain ⟨rfl, hZ, hh⟩ := hP
  have hx := Bd.exec
  have hby := Bd.bytes
  have hml : c.maxLocals = 10 := hml0
  have hown : s.vm.findClass cn2 = some m.cls := findClass_of_methodNamed Bd.named
  have hnm := (name_of_methodNamed Bd.named Bd.method).1
  have X0 : Stand p l e ({ frames := 3, cells := 0, slots := 0, locals := 90 } : Room) s m #[(.ref kw), (.long yy), (.long (0 : Int64)), (.long yc), (.long (0 : Int64))] below meth c s₁ [] 0 0 := Stand.of_body Bd
  have e0 : s₁.heap = h0 := by rw [← hh, Bd.state]; rfl
  have N0 := Fr.nil n0
  have pre0 : ∀ t, SS p e below s₁ (mkF m 0 #[vr kw, vl yy, sd, vl 0, sd, vl yc, sd, vl 0, sd, un] []) t → Steps p.tables e below (s₁.setTop (entryFrame m #[(.ref kw), (.long yy), (.long (0 : Int64)), (.long yc), (.long (0 : Int64))] 10)) t := fun t k => castTop (ef_Ad2 m kw yy (0 : Int64) yc (0 : Int64)) k
  obtain ⟨EN, hEN⟩ : ∃ z, z = s₁.setTop (entryFrame m #[(.ref kw), (.long yy), (.long (0 : Int64)), (.long yc), (.long (0 : Int64))] 10) := ⟨_, rfl⟩
  rw [← hEN] at pre0
  rcases hcase with ez | ⟨hpos, ey⟩
  · skip
    have k1 : ∀ t, SS p e below s₁ (mkF m 0 #[vr kw, vl yy, sd, vl 0, sd, vl 0, sd, vl 0, sd, un] []) t → Steps p.tables e below (EN) t := by
      intro t kt
      refine pre0 t ?_
      rw [(ez : yc = (0 : Int64))]
      exact kt
    rcases own_tri64 yy yx with ho | ho | ho
    · skip
      have hox : ¬ yx < yy := fun q => by rw [Int64.lt_iff_toInt_lt] at q ho; omega
      have hoe : ¬ yx = yy := fun q => by rw [q] at ho; exact own_irr64 _ ho
      obtain ⟨T2, X2, e2, st2⟩ := getF X0 hx hZ hown (wf11 hw) Via.refl e0 F_s (g := (mkF m 1 #[vr kw, vl yy, sd, vl 0, sd, vl 0, sd, vl 0, sd, un] [(.ref kw)])) rfl rfl (hb hby dk_1)
      obtain ⟨T3, X3, e3, st3⟩ := getF X2 hx hZ hown (wf24 hw) Via.refl e2 F_1 (g := (mkF m 5 #[vr kw, vl yy, sd, vl 0, sd, vl 0, sd, vl 0, sd, un] [(.ref kw), (.ref sA)])) rfl rfl (hb hby dk_5)
      obtain ⟨T4, X4, e4, st4⟩ := getF X3 hx hZ hown (wf26 hw) Via.refl e3 F_e (g := (mkF m 9 #[vr kw, vl yy, sd, vl 0, sd, vl 0, sd, vl 0, sd, un] [(.ref kw), (.int (0 : Int32)), (.ref sA)])) rfl rfl (hb hby dk_9)
      obtain ⟨_, _, ⟨T5, L5, kc5, ks5⟩, -, X5, ⟨Lc5, hQ5, l5, y5, z5⟩, st5⟩ := Jvm.LawKit.callS X4 hx (y := mn10) hown (mvT hZ (wd35 hw)) (mvT hZ (wd36 hw)) (mvT hZ (wd37 hw)) (mvT hZ (wd38 hw)) (by decide) (backOf (W := 0) (rmA27 l Z a0 hw [] sA yy yx _ h0 n0 Z0 V_s hox ho) hZ (wd38 hw) (wd37 hw) (by decide) (by decide)) (g := (mkF m 13 #[vr kw, vl yy, sd, vl 0, sd, vl 0, sd, vl 0, sd, un] [(.long yy), (.int (1 : Int32)), (.int (0 : Int32)), (.ref sA)])) rfl (by rw [hml]; rfl) (argsL := [(.ref sA), (.int (0 : Int32)), (.int (1 : Int32)), (.long yy)]) (rest := []) (lenOf pd___JIIJ_I rfl) rfl (by show 2 * 0 + _ ≤ _; exact Nat.le_of_eq rfl) (hb hby dk_13) (fun _ _ => ⟨rfl, e4, (by decide : 0 + 0 ≤ _), (by decide : 0 + 0 ≤ _)⟩)
      dsimp only [Pt.U, Pt.locs, Pt.cells, Pt.slots] at X5 l5 y5 z5 st5 hQ5
      subst l5 y5 z5
      obtain ⟨rfl, Nq5, eq5⟩ := hQ5
      have N5 := Fr.app N0 Nq5
      subst hEN
      obtain ⟨lfs, lhr, lhrun, lhended, lhW, lhsame⟩ := X5.leave (v := none) (fun _ => rfl)
      refine ⟨_, _, k1 _ ?_, lhrun, lhended, _, _, rfl, ?_, ⟨_, rfl⟩, lhW, lhsame.mono (by decide) (by decide)⟩
      · skip
        refine XS.aloadN X0.here hx rfl (hb hby dk_0) rfl rfl ?_
        refine st2 _ ?_
        refine XS.aloadN X2.here hx rfl (hb hby dk_4) rfl rfl ?_
        refine st3 _ ?_
        refine XS.aloadN X3.here hx rfl (hb hby dk_8) rfl rfl ?_
        refine st4 _ ?_
        refine XS.lloadN X4.here hx rfl (hb hby dk_12) rfl ?_
        refine st5 _ ?_
        refine XS.istore X5.here hx rfl (hb hby dk_16) rfl (l' := #[vr kw, vl yy, sd, vl 0, sd, vl 0, sd, vl 0, sd, vi (-1)]) rfl ?_
        refine XS.iload X5.here hx rfl (hb hby dk_18) rfl ?_
        refine XS.ifNo X5.here hx rfl (hb hby dk_20) rfl ((if0 _ _).trans (tlt (by decide : (-1 : Int32) < (0 : Int32))).2.1) ?_
        refine XS.lload X5.here hx rfl (hb hby dk_23) rfl ?_
        refine XS.lconst X5.here hx rfl (hb hby dk_25) ?_
        refine XS.lcmp X5.here hx rfl (hb hby dk_26) rfl ?_
        refine XS.ifYes X5.here hx rfl (pc0 := 27) (pc' := 42) rfl (hb hby dk_27) rfl ((if0 _ _).trans (flt (fun q => (by decide : ¬ ((0 : Int64) < (0 : Int64))) ((lw_gt (0 : Int64) (0 : Int64)).mp q))).2.2.2) (by decide) (by decide) ?_
        refine XS.iload X5.here hx rfl (hb hby dk_42) rfl ?_
        show SS p e below T5 (mkF m 44 #[vr kw, vl yy, sd, vl 0, sd, vl 0, sd, vl 0, sd, vi (-1)] [(.int (-1 : Int32))]) _
        refine XS.ifYes X5.here hx rfl (pc0 := 44) (pc' := 77) rfl (hb hby dk_44) rfl ((if0 _ _).trans (tlt (by decide : (-1 : Int32) < (0 : Int32))).1) (by decide) (by decide) ?_
        show SS p e below T5 (mkF m 77 #[vr kw, vl yy, sd, vl 0, sd, vl 0, sd, vl 0, sd, vi (-1)] []) _
        exact X5.returnOut hx Bd.returns (hb hby dk_77) lhr
      · skip
        show QAd2 Z kw yy yc sA rA dA ksA krA kdA yx c0 wd h0 n0 _ T5.heap _
        rw [eq5]
        exact ⟨rfl, N5, (Keep.refl _ _), V_d⟩
    · skip
      have k6 : ∀ t, SS p e below s₁ (mkF m 0 #[vr kw, vl yx, sd, vl 0, sd, vl 0, sd, vl 0, sd, un] []) t → Steps p.tables e below (EN) t := by
        intro t kt
        refine k1 t ?_
        rw [(ho : yy = yx)]
        exact kt
      rcases hr with ⟨ew, V_r⟩ | ⟨ew, V_r⟩
      · skip
        have F_wl : Fld Z h0 kw cn2 "width" "I" (.int (1 : Int32)) := by rw [← ew]; exact F_w
        obtain ⟨T7, X7, e7, st7⟩ := getF X0 hx hZ hown (wf11 hw) Via.refl e0 F_s (g := (mkF m 1 #[vr kw, vl yx, sd, vl 0, sd, vl 0, sd, vl 0, sd, un] [(.ref kw)])) rfl rfl (hb hby dk_1)
        obtain ⟨T8, X8, e8, st8⟩ := getF X7 hx hZ hown (wf24 hw) Via.refl e7 F_1 (g := (mkF m 5 #[vr kw, vl yx, sd, vl 0, sd, vl 0, sd, vl 0, sd, un] [(.ref kw), (.ref sA)])) rfl rfl (hb hby dk_5)
        obtain ⟨T9, X9, e9, st9⟩ := getF X8 hx hZ hown (wf26 hw) Via.refl e8 F_e (g := (mkF m 9 #[vr kw, vl yx, sd, vl 0, sd, vl 0, sd, vl 0, sd, un] [(.ref kw), (.int (0 : Int32)), (.ref sA)])) rfl rfl (hb hby dk_9)
        obtain ⟨_, _, ⟨T10, L10, kc10, ks10⟩, -, X10, ⟨Lc10, hQ10, l10, y10, z10⟩, st10⟩ := Jvm.LawKit.callS X9 hx (y := mn10) hown (mvT hZ (wd35 hw)) (mvT hZ (wd36 hw)) (mvT hZ (wd37 hw)) (mvT hZ (wd38 hw)) (by decide) (backOf (W := 0) (rmA30 l Z a0 hw [] sA yx _ h0 n0 Z0 V_s) hZ (wd38 hw) (wd37 hw) (by decide) (by decide)) (g := (mkF m 13 #[vr kw, vl yx, sd, vl 0, sd, vl 0, sd, vl 0, sd, un] [(.long yx), (.int (1 : Int32)), (.int (0 : Int32)), (.ref sA)])) rfl (by rw [hml]; rfl) (argsL := [(.ref sA), (.int (0 : Int32)), (.int (1 : Int32)), (.long yx)]) (rest := []) (lenOf pd___JIIJ_I rfl) rfl (by show 2 * 0 + _ ≤ _; exact Nat.le_of_eq rfl) (hb hby dk_13) (fun _ _ => ⟨rfl, e9, (by decide : 0 + 0 ≤ _), (by decide : 0 + 0 ≤ _)⟩)
        dsimp only [Pt.U, Pt.locs, Pt.cells, Pt.slots] at X10 l10 y10 z10 st10 hQ10
        subst l10 y10 z10
        obtain ⟨rfl, Nq10, eq10⟩ := hQ10
        have N10 := Fr.app N0 Nq10
        obtain ⟨T11, X11, e11, st11⟩ := getF X10 hx hZ hown (wf13 hw) Via.refl eq10 F_r (g := (mkF m 48 #[vr kw, vl yx, sd, vl 0, sd, vl 0, sd, vl 0, sd, vi 0] [(.ref kw)])) rfl rfl (hb hby dk_48)
        obtain ⟨T12, X12, e12, st12⟩ := getF X11 hx hZ hown (wf17 hw) Via.refl e11 F_wl (g := (mkF m 54 #[vr kw, vl yx, sd, vl 0, sd, vl 0, sd, vl 0, sd, vi 0] [(.ref kw), (.int (0 : Int32)), (.ref rA)])) rfl rfl (hb hby dk_54)
        obtain ⟨T13, X13, e13, st13⟩ := getF X12 hx hZ hown (wf17 hw) Via.refl e12 F_wl (g := (mkF m 59 #[vr kw, vl yx, sd, vl 0, sd, vl 0, sd, vl 0, sd, vi 0] [(.ref kw), (.int (0 : Int32)), (.ref rA)])) rfl rfl (hb hby dk_59)
        obtain ⟨_, _, ⟨T14, L14, kc14, ks14⟩, -, X14, ⟨Lc14, hQ14, l14, y14, z14⟩, st14⟩ := Jvm.LawKit.callS X13 hx (y := mn6) hown (mvT hZ (wd65 hw)) (mvT hZ (wd66 hw)) (mvT hZ (wd67 hw)) (mvT hZ (wd68 hw)) (by decide) (backOf (W := 0) (rmA33 l Z a0 hw [] rA c0 _ h0 n0 Z0 V_r g_r) hZ (wd68 hw) (wd67 hw) (by decide) (by decide)) (g := (mkF m 65 #[vr kw, vl yx, sd, vl 0, sd, vl 0, sd, vl 0, sd, vi 0] [(.long (0 : Int64)), (.long (0 : Int64)), (.int (1 : Int32)), (.int (0 : Int32)), (.ref rA)])) rfl (by rw [hml]; rfl) (argsL := [(.ref rA), (.int (0 : Int32)), (.int (1 : Int32)), (.long (0 : Int64)), (.long (0 : Int64))]) (rest := []) (lenOf pd___JIIJJ_V rfl) rfl (by show 2 * 0 + _ ≤ _; exact Nat.le_of_eq rfl) (hb hby dk_65) (fun _ _ => ⟨rfl, e13, (by decide : 0 + 0 ≤ _), (by decide : 0 + 0 ≤ _)⟩)
        dsimp only [Pt.U, Pt.locs, Pt.cells, Pt.slots] at X14 l14 y14 z14 st14 hQ14
        subst l14 y14 z14
        obtain ⟨rfl, Nq14, Kq14, g14_0⟩ := hQ14
        have N14 := Fr.app N10 Nq14
        have Z14 := Nat.le_trans Z0 Kq14.1
        have K14 : Keep h0 T14.heap [rA, dA] := Keep.trans (Keep.refl h0 [rA, dA]) Kq14 (allS (Or.inl (List.mem_of_getElem? (i := 0) rfl)) all0)
        have f15 := (F_d.keep Kq14 (ninS n_kw_rA nin0))
        obtain ⟨T16, X16, e16, st16⟩ := getF X14 hx hZ hown (wf15 hw) Via.refl rfl f15 (g := (mkF m 69 #[vr kw, vl yx, sd, vl 0, sd, vl 0, sd, vl 0, sd, vi 0] [(.ref kw)])) rfl rfl (hb hby dk_69)
        have f17 := (V_d.keep Kq14 (ninS (Ne.symm n_rA_dA) nin0))
        obtain ⟨cl18, Ar18, q18, S18, M18, HH18, GG18⟩ := id f17
        have hin18 : ¬ ((0 : Int32) < 0 ∨ cl18.slots.size ≤ ((0 : Int32)).toNatClampNeg) := inb_of S18 ⟨by decide, by decide⟩
        obtain ⟨T19, h19, X19, e19, W19, st19⟩ := stJ X16 hx hZ e16 Ar18 (j := (0 : Int32)) hin18 (g := (mkF m 76 #[vr kw, vl yx, sd, vl 0, sd, vl 0, sd, vl 0, sd, vi 0] [(.long (0 : Int64)), (.int (0 : Int32)), (.ref dA)])) rfl rfl (hb hby dk_76)
        have N19 := Fr.snoc X19 N14 g_d
        have Z19 : n0 ≤ h19.size := by rw [W19.size]; exact Z14
        have K19 := (K14.wr W19 (Or.inl (List.mem_of_getElem? (i := 1) rfl)))
        have V19 := Arv.set Ar18 q18 S18 M18 HH18 GG18 rfl W19 0 rfl (Nat.le_of_ble_eq_true rfl)
        subst hEN
        obtain ⟨lfs, lhr, lhrun, lhended, lhW, lhsame⟩ := X19.leave (v := none) (fun _ => rfl)
        refine ⟨_, _, k6 _ ?_, lhrun, lhended, _, _, rfl, ?_, ⟨_, rfl⟩, lhW, lhsame.mono (by decide) (by decide)⟩
        · skip
          refine XS.aloadN X0.here hx rfl (hb hby dk_0) rfl rfl ?_
          refine st7 _ ?_
          refine XS.aloadN X7.here hx rfl (hb hby dk_4) rfl rfl ?_
          refine st8 _ ?_
          refine XS.aloadN X8.here hx rfl (hb hby dk_8) rfl rfl ?_
          refine st9 _ ?_
          refine XS.lloadN X9.here hx rfl (hb hby dk_12) rfl ?_
          refine st10 _ ?_
          refine XS.istore X10.here hx rfl (hb hby dk_16) rfl (l' := #[vr kw, vl yx, sd, vl 0, sd, vl 0, sd, vl 0, sd, vi 0]) rfl ?_
          refine XS.iload X10.here hx rfl (hb hby dk_18) rfl ?_
          refine XS.ifYes X10.here hx rfl (pc0 := 20) (pc' := 42) rfl (hb hby dk_20) rfl ((if0 _ _).trans (flt (by decide : ¬ ((0 : Int32) < (0 : Int32)))).2.1) (by decide) (by decide) ?_
          refine XS.iload X10.here hx rfl (hb hby dk_42) rfl ?_
          refine XS.ifNo X10.here hx rfl (hb hby dk_44) rfl ((if0 _ _).trans (flt (by decide : ¬ ((0 : Int32) < (0 : Int32)))).1) ?_
          refine XS.aloadN X10.here hx rfl (hb hby dk_47) rfl rfl ?_
          refine st11 _ ?_
          refine XS.iload X11.here hx rfl (hb hby dk_51) rfl ?_
          refine XS.aloadN X11.here hx rfl (hb hby dk_53) rfl rfl ?_
          refine st12 _ ?_
          refine XS.imul X12.here hx rfl (hb hby dk_57) rfl ?_
          refine XS.aloadN X12.here hx rfl (hb hby dk_58) rfl rfl ?_
          refine st13 _ ?_
          refine XS.lloadN X13.here hx rfl (hb hby dk_62) rfl ?_
          refine XS.lload X13.here hx rfl (hb hby dk_63) rfl ?_
          refine st14 _ ?_
          refine XS.aloadN X14.here hx rfl (hb hby dk_68) rfl rfl ?_
          refine st16 _ ?_
          refine XS.iload X16.here hx rfl (hb hby dk_72) rfl ?_
          refine XS.lload X16.here hx rfl (hb hby dk_74) rfl ?_
          refine st19 _ ?_
          show SS p e below T19 (mkF m 77 #[vr kw, vl yx, sd, vl 0, sd, vl 0, sd, vl 0, sd, vi 0] []) _
          exact X19.returnOut hx Bd.returns (hb hby dk_77) lhr
        · skip
          show QAd2 Z kw yy yc sA rA dA ksA krA kdA yx c0 wd h0 n0 _ T19.heap _
          rw [e19]
          exact ⟨rfl, N19, K19, V19⟩
      · skip
        have F_wl : Fld Z h0 kw cn2 "width" "I" (.int (4 : Int32)) := by rw [← ew]; exact F_w
        obtain ⟨T20, X20, e20, st20⟩ := getF X0 hx hZ hown (wf11 hw) Via.refl e0 F_s (g := (mkF m 1 #[vr kw, vl yx, sd, vl 0, sd, vl 0, sd, vl 0, sd, un] [(.ref kw)])) rfl rfl (hb hby dk_1)
        obtain ⟨T21, X21, e21, st21⟩ := getF X20 hx hZ hown (wf24 hw) Via.refl e20 F_1 (g := (mkF m 5 #[vr kw, vl yx, sd, vl 0, sd, vl 0, sd, vl 0, sd, un] [(.ref kw), (.ref sA)])) rfl rfl (hb hby dk_5)
        obtain ⟨T22, X22, e22, st22⟩ := getF X21 hx hZ hown (wf26 hw) Via.refl e21 F_e (g := (mkF m 9 #[vr kw, vl yx, sd, vl 0, sd, vl 0, sd, vl 0, sd, un] [(.ref kw), (.int (0 : Int32)), (.ref sA)])) rfl rfl (hb hby dk_9)
        obtain ⟨_, _, ⟨T23, L23, kc23, ks23⟩, -, X23, ⟨Lc23, hQ23, l23, y23, z23⟩, st23⟩ := Jvm.LawKit.callS X22 hx (y := mn10) hown (mvT hZ (wd35 hw)) (mvT hZ (wd36 hw)) (mvT hZ (wd37 hw)) (mvT hZ (wd38 hw)) (by decide) (backOf (W := 0) (rmA30 l Z a0 hw [] sA yx _ h0 n0 Z0 V_s) hZ (wd38 hw) (wd37 hw) (by decide) (by decide)) (g := (mkF m 13 #[vr kw, vl yx, sd, vl 0, sd, vl 0, sd, vl 0, sd, un] [(.long yx), (.int (1 : Int32)), (.int (0 : Int32)), (.ref sA)])) rfl (by rw [hml]; rfl) (argsL := [(.ref sA), (.int (0 : Int32)), (.int (1 : Int32)), (.long yx)]) (rest := []) (lenOf pd___JIIJ_I rfl) rfl (by show 2 * 0 + _ ≤ _; exact Nat.le_of_eq rfl) (hb hby dk_13) (fun _ _ => ⟨rfl, e22, (by decide : 0 + 0 ≤ _), (by decide : 0 + 0 ≤ _)⟩)
        dsimp only [Pt.U, Pt.locs, Pt.cells, Pt.slots] at X23 l23 y23 z23 st23 hQ23
        subst l23 y23 z23
        obtain ⟨rfl, Nq23, eq23⟩ := hQ23
        have N23 := Fr.app N0 Nq23
        obtain ⟨T24, X24, e24, st24⟩ := getF X23 hx hZ hown (wf13 hw) Via.refl eq23 F_r (g := (mkF m 48 #[vr kw, vl yx, sd, vl 0, sd, vl 0, sd, vl 0, sd, vi 0] [(.ref kw)])) rfl rfl (hb hby dk_48)
        obtain ⟨T25, X25, e25, st25⟩ := getF X24 hx hZ hown (wf17 hw) Via.refl e24 F_wl (g := (mkF m 54 #[vr kw, vl yx, sd, vl 0, sd, vl 0, sd, vl 0, sd, vi 0] [(.ref kw), (.int (0 : Int32)), (.ref rA)])) rfl rfl (hb hby dk_54)
        obtain ⟨T26, X26, e26, st26⟩ := getF X25 hx hZ hown (wf17 hw) Via.refl e25 F_wl (g := (mkF m 59 #[vr kw, vl yx, sd, vl 0, sd, vl 0, sd, vl 0, sd, vi 0] [(.ref kw), (.int (0 : Int32)), (.ref rA)])) rfl rfl (hb hby dk_59)
        obtain ⟨_, _, ⟨T27, L27, kc27, ks27⟩, -, X27, ⟨Lc27, hQ27, l27, y27, z27⟩, st27⟩ := Jvm.LawKit.callS X26 hx (y := mn6) hown (mvT hZ (wd65 hw)) (mvT hZ (wd66 hw)) (mvT hZ (wd67 hw)) (mvT hZ (wd68 hw)) (by decide) (backOf (W := 0) (rmA37 l Z a0 hw [] rA c0 _ h0 n0 Z0 V_r g_r) hZ (wd68 hw) (wd67 hw) (by decide) (by decide)) (g := (mkF m 65 #[vr kw, vl yx, sd, vl 0, sd, vl 0, sd, vl 0, sd, vi 0] [(.long (0 : Int64)), (.long (0 : Int64)), (.int (4 : Int32)), (.int (0 : Int32)), (.ref rA)])) rfl (by rw [hml]; rfl) (argsL := [(.ref rA), (.int (0 : Int32)), (.int (4 : Int32)), (.long (0 : Int64)), (.long (0 : Int64))]) (rest := []) (lenOf pd___JIIJJ_V rfl) rfl (by show 2 * 0 + _ ≤ _; exact Nat.le_of_eq rfl) (hb hby dk_65) (fun _ _ => ⟨rfl, e26, (by decide : 0 + 0 ≤ _), (by decide : 0 + 0 ≤ _)⟩)
        dsimp only [Pt.U, Pt.locs, Pt.cells, Pt.slots] at X27 l27 y27 z27 st27 hQ27
        subst l27 y27 z27
        obtain ⟨rfl, Nq27, Kq27, g27_0⟩ := hQ27
        have N27 := Fr.app N23 Nq27
        have Z27 := Nat.le_trans Z0 Kq27.1
        have K27 : Keep h0 T27.heap [rA, dA] := Keep.trans (Keep.refl h0 [rA, dA]) Kq27 (allS (Or.inl (List.mem_of_getElem? (i := 0) rfl)) all0)
        have f28 := (F_d.keep Kq27 (ninS n_kw_rA nin0))
        obtain ⟨T29, X29, e29, st29⟩ := getF X27 hx hZ hown (wf15 hw) Via.refl rfl f28 (g := (mkF m 69 #[vr kw, vl yx, sd, vl 0, sd, vl 0, sd, vl 0, sd, vi 0] [(.ref kw)])) rfl rfl (hb hby dk_69)
        have f30 := (V_d.keep Kq27 (ninS (Ne.symm n_rA_dA) nin0))
        obtain ⟨cl31, Ar31, q31, S31, M31, HH31, GG31⟩ := id f30
        have hin31 : ¬ ((0 : Int32) < 0 ∨ cl31.slots.size ≤ ((0 : Int32)).toNatClampNeg) := inb_of S31 ⟨by decide, by decide⟩
        obtain ⟨T32, h32, X32, e32, W32, st32⟩ := stJ X29 hx hZ e29 Ar31 (j := (0 : Int32)) hin31 (g := (mkF m 76 #[vr kw, vl yx, sd, vl 0, sd, vl 0, sd, vl 0, sd, vi 0] [(.long (0 : Int64)), (.int (0 : Int32)), (.ref dA)])) rfl rfl (hb hby dk_76)
        have N32 := Fr.snoc X32 N27 g_d
        have Z32 : n0 ≤ h32.size := by rw [W32.size]; exact Z27
        have K32 := (K27.wr W32 (Or.inl (List.mem_of_getElem? (i := 1) rfl)))
        have V32 := Arv.set Ar31 q31 S31 M31 HH31 GG31 rfl W32 0 rfl (Nat.le_of_ble_eq_true rfl)
        subst hEN
        obtain ⟨lfs, lhr, lhrun, lhended, lhW, lhsame⟩ := X32.leave (v := none) (fun _ => rfl)
        refine ⟨_, _, k6 _ ?_, lhrun, lhended, _, _, rfl, ?_, ⟨_, rfl⟩, lhW, lhsame.mono (by decide) (by decide)⟩
        · skip
          refine XS.aloadN X0.here hx rfl (hb hby dk_0) rfl rfl ?_
          refine st20 _ ?_
          refine XS.aloadN X20.here hx rfl (hb hby dk_4) rfl rfl ?_
          refine st21 _ ?_
          refine XS.aloadN X21.here hx rfl (hb hby dk_8) rfl rfl ?_
          refine st22 _ ?_
          refine XS.lloadN X22.here hx rfl (hb hby dk_12) rfl ?_
          refine st23 _ ?_
          refine XS.istore X23.here hx rfl (hb hby dk_16) rfl (l' := #[vr kw, vl yx, sd, vl 0, sd, vl 0, sd, vl 0, sd, vi 0]) rfl ?_
          refine XS.iload X23.here hx rfl (hb hby dk_18) rfl ?_
          refine XS.ifYes X23.here hx rfl (pc0 := 20) (pc' := 42) rfl (hb hby dk_20) rfl ((if0 _ _).trans (flt (by decide : ¬ ((0 : Int32) < (0 : Int32)))).2.1) (by decide) (by decide) ?_
          refine XS.iload X23.here hx rfl (hb hby dk_42) rfl ?_
          refine XS.ifNo X23.here hx rfl (hb hby dk_44) rfl ((if0 _ _).trans (flt (by decide : ¬ ((0 : Int32) < (0 : Int32)))).1) ?_
          refine XS.aloadN X23.here hx rfl (hb hby dk_47) rfl rfl ?_
          refine st24 _ ?_
          refine XS.iload X24.here hx rfl (hb hby dk_51) rfl ?_
          refine XS.aloadN X24.here hx rfl (hb hby dk_53) rfl rfl ?_
          refine st25 _ ?_
          refine XS.imul X25.here hx rfl (hb hby dk_57) rfl ?_
          refine XS.aloadN X25.here hx rfl (hb hby dk_58) rfl rfl ?_
          refine st26 _ ?_
          refine XS.lloadN X26.here hx rfl (hb hby dk_62) rfl ?_
          refine XS.lload X26.here hx rfl (hb hby dk_63) rfl ?_
          refine st27 _ ?_
          refine XS.aloadN X27.here hx rfl (hb hby dk_68) rfl rfl ?_
          refine st29 _ ?_
          refine XS.iload X29.here hx rfl (hb hby dk_72) rfl ?_
          refine XS.lload X29.here hx rfl (hb hby dk_74) rfl ?_
          refine st32 _ ?_
          show SS p e below T32 (mkF m 77 #[vr kw, vl yx, sd, vl 0, sd, vl 0, sd, vl 0, sd, vi 0] []) _
          exact X32.returnOut hx Bd.returns (hb hby dk_77) lhr
        · skip
          show QAd2 Z kw yy yc sA rA dA ksA krA kdA yx c0 wd h0 n0 _ T32.heap _
          rw [e32]
          exact ⟨rfl, N32, K32, V32⟩
    · skip
      have hox : ¬ yy < yx := fun q => by rw [Int64.lt_iff_toInt_lt] at q ho; omega
      have hoe : ¬ yx = yy := fun q => by rw [q] at ho; exact own_irr64 _ ho
      obtain ⟨T33, X33, e33, st33⟩ := getF X0 hx hZ hown (wf11 hw) Via.refl e0 F_s (g := (mkF m 1 #[vr kw, vl yy, sd, vl 0, sd, vl 0, sd, vl 0, sd, un] [(.ref kw)])) rfl rfl (hb hby dk_1)
      obtain ⟨T34, X34, e34, st34⟩ := getF X33 hx hZ hown (wf24 hw) Via.refl e33 F_1 (g := (mkF m 5 #[vr kw, vl yy, sd, vl 0, sd, vl 0, sd, vl 0, sd, un] [(.ref kw), (.ref sA)])) rfl rfl (hb hby dk_5)
      obtain ⟨T35, X35, e35, st35⟩ := getF X34 hx hZ hown (wf26 hw) Via.refl e34 F_e (g := (mkF m 9 #[vr kw, vl yy, sd, vl 0, sd, vl 0, sd, vl 0, sd, un] [(.ref kw), (.int (0 : Int32)), (.ref sA)])) rfl rfl (hb hby dk_9)
      obtain ⟨_, _, ⟨T36, L36, kc36, ks36⟩, -, X36, ⟨Lc36, hQ36, l36, y36, z36⟩, st36⟩ := Jvm.LawKit.callS X35 hx (y := mn10) hown (mvT hZ (wd35 hw)) (mvT hZ (wd36 hw)) (mvT hZ (wd37 hw)) (mvT hZ (wd38 hw)) (by decide) (backOf (W := 0) (rmA38 l Z a0 hw [] sA yy yx _ h0 n0 Z0 V_s ho) hZ (wd38 hw) (wd37 hw) (by decide) (by decide)) (g := (mkF m 13 #[vr kw, vl yy, sd, vl 0, sd, vl 0, sd, vl 0, sd, un] [(.long yy), (.int (1 : Int32)), (.int (0 : Int32)), (.ref sA)])) rfl (by rw [hml]; rfl) (argsL := [(.ref sA), (.int (0 : Int32)), (.int (1 : Int32)), (.long yy)]) (rest := []) (lenOf pd___JIIJ_I rfl) rfl (by show 2 * 0 + _ ≤ _; exact Nat.le_of_eq rfl) (hb hby dk_13) (fun _ _ => ⟨rfl, e35, (by decide : 0 + 0 ≤ _), (by decide : 0 + 0 ≤ _)⟩)
      dsimp only [Pt.U, Pt.locs, Pt.cells, Pt.slots] at X36 l36 y36 z36 st36 hQ36
      subst l36 y36 z36
      obtain ⟨rfl, Nq36, eq36⟩ := hQ36
      have N36 := Fr.app N0 Nq36
      subst hEN
      obtain ⟨lfs, lhr, lhrun, lhended, lhW, lhsame⟩ := X36.leave (v := none) (fun _ => rfl)
      refine ⟨_, _, k1 _ ?_, lhrun, lhended, _, _, rfl, ?_, ⟨_, rfl⟩, lhW, lhsame.mono (by decide) (by decide)⟩
      · skip
        refine XS.aloadN X0.here hx rfl (hb hby dk_0) rfl rfl ?_
        refine st33 _ ?_
        refine XS.aloadN X33.here hx rfl (hb hby dk_4) rfl rfl ?_
        refine st34 _ ?_
        refine XS.aloadN X34.here hx rfl (hb hby dk_8) rfl rfl ?_
        refine st35 _ ?_
        refine XS.lloadN X35.here hx rfl (hb hby dk_12) rfl ?_
        refine st36 _ ?_
        refine XS.istore X36.here hx rfl (hb hby dk_16) rfl (l' := #[vr kw, vl yy, sd, vl 0, sd, vl 0, sd, vl 0, sd, vi (-2)]) rfl ?_
        refine XS.iload X36.here hx rfl (hb hby dk_18) rfl ?_
        refine XS.ifNo X36.here hx rfl (hb hby dk_20) rfl ((if0 _ _).trans (tlt (by decide : (-2 : Int32) < (0 : Int32))).2.1) ?_
        refine XS.lload X36.here hx rfl (hb hby dk_23) rfl ?_
        refine XS.lconst X36.here hx rfl (hb hby dk_25) ?_
        refine XS.lcmp X36.here hx rfl (hb hby dk_26) rfl ?_
        refine XS.ifYes X36.here hx rfl (pc0 := 27) (pc' := 42) rfl (hb hby dk_27) rfl ((if0 _ _).trans (flt (fun q => (by decide : ¬ ((0 : Int64) < (0 : Int64))) ((lw_gt (0 : Int64) (0 : Int64)).mp q))).2.2.2) (by decide) (by decide) ?_
        refine XS.iload X36.here hx rfl (hb hby dk_42) rfl ?_
        show SS p e below T36 (mkF m 44 #[vr kw, vl yy, sd, vl 0, sd, vl 0, sd, vl 0, sd, vi (-2)] [(.int (-2 : Int32))]) _
        refine XS.ifYes X36.here hx rfl (pc0 := 44) (pc' := 77) rfl (hb hby dk_44) rfl ((if0 _ _).trans (tlt (by decide : (-2 : Int32) < (0 : Int32))).1) (by decide) (by decide) ?_
        show SS p e below T36 (mkF m 77 #[vr kw, vl yy, sd, vl 0, sd, vl 0, sd, vl 0, sd, vi (-2)] []) _
        exact X36.returnOut hx Bd.returns (hb hby dk_77) lhr
      · skip
        show QAd2 Z kw yy yc sA rA dA ksA krA kdA yx c0 wd h0 n0 _ T36.heap _
        rw [eq36]
        exact ⟨rfl, N36, (Keep.refl _ _), V_d⟩
  · skip
    have hne : ¬ yc = (0 : Int64) := fun q => by rw [q] at hpos; exact absurd hpos (by decide)
    have k37 : ∀ t, SS p e below s₁ (mkF m 0 #[vr kw, vl yx, sd, vl 0, sd, vl yc, sd, vl 0, sd, un] []) t → Steps p.tables e below (EN) t := by
      intro t kt
      refine pre0 t ?_
      rw [(ey : yy = yx)]
      exact kt
    rcases hr with ⟨ew, V_r⟩ | ⟨ew, V_r⟩
    · skip
      have F_wl : Fld Z h0 kw cn2 "width" "I" (.int (1 : Int32)) := by rw [← ew]; exact F_w
      obtain ⟨T38, X38, e38, st38⟩ := getF X0 hx hZ hown (wf11 hw) Via.refl e0 F_s (g := (mkF m 1 #[vr kw, vl yx, sd, vl 0, sd, vl yc, sd, vl 0, sd, un] [(.ref kw)])) rfl rfl (hb hby dk_1)
      obtain ⟨T39, X39, e39, st39⟩ := getF X38 hx hZ hown (wf24 hw) Via.refl e38 F_1 (g := (mkF m 5 #[vr kw, vl yx, sd, vl 0, sd, vl yc, sd, vl 0, sd, un] [(.ref kw), (.ref sA)])) rfl rfl (hb hby dk_5)
      obtain ⟨T40, X40, e40, st40⟩ := getF X39 hx hZ hown (wf26 hw) Via.refl e39 F_e (g := (mkF m 9 #[vr kw, vl yx, sd, vl 0, sd, vl yc, sd, vl 0, sd, un] [(.ref kw), (.int (0 : Int32)), (.ref sA)])) rfl rfl (hb hby dk_9)
      obtain ⟨_, _, ⟨T41, L41, kc41, ks41⟩, -, X41, ⟨Lc41, hQ41, l41, y41, z41⟩, st41⟩ := Jvm.LawKit.callS X40 hx (y := mn10) hown (mvT hZ (wd35 hw)) (mvT hZ (wd36 hw)) (mvT hZ (wd37 hw)) (mvT hZ (wd38 hw)) (by decide) (backOf (W := 0) (rmA30 l Z a0 hw [] sA yx _ h0 n0 Z0 V_s) hZ (wd38 hw) (wd37 hw) (by decide) (by decide)) (g := (mkF m 13 #[vr kw, vl yx, sd, vl 0, sd, vl yc, sd, vl 0, sd, un] [(.long yx), (.int (1 : Int32)), (.int (0 : Int32)), (.ref sA)])) rfl (by rw [hml]; rfl) (argsL := [(.ref sA), (.int (0 : Int32)), (.int (1 : Int32)), (.long yx)]) (rest := []) (lenOf pd___JIIJ_I rfl) rfl (by show 2 * 0 + _ ≤ _; exact Nat.le_of_eq rfl) (hb hby dk_13) (fun _ _ => ⟨rfl, e40, (by decide : 0 + 0 ≤ _), (by decide : 0 + 0 ≤ _)⟩)
      dsimp only [Pt.U, Pt.locs, Pt.cells, Pt.slots] at X41 l41 y41 z41 st41 hQ41
      subst l41 y41 z41
      obtain ⟨rfl, Nq41, eq41⟩ := hQ41
      have N41 := Fr.app N0 Nq41
      obtain ⟨T42, X42, e42, st42⟩ := getF X41 hx hZ hown (wf13 hw) Via.refl eq41 F_r (g := (mkF m 48 #[vr kw, vl yx, sd, vl 0, sd, vl yc, sd, vl 0, sd, vi 0] [(.ref kw)])) rfl rfl (hb hby dk_48)
      obtain ⟨T43, X43, e43, st43⟩ := getF X42 hx hZ hown (wf17 hw) Via.refl e42 F_wl (g := (mkF m 54 #[vr kw, vl yx, sd, vl 0, sd, vl yc, sd, vl 0, sd, vi 0] [(.ref kw), (.int (0 : Int32)), (.ref rA)])) rfl rfl (hb hby dk_54)
      obtain ⟨T44, X44, e44, st44⟩ := getF X43 hx hZ hown (wf17 hw) Via.refl e43 F_wl (g := (mkF m 59 #[vr kw, vl yx, sd, vl 0, sd, vl yc, sd, vl 0, sd, vi 0] [(.ref kw), (.int (0 : Int32)), (.ref rA)])) rfl rfl (hb hby dk_59)
      obtain ⟨_, _, ⟨T45, L45, kc45, ks45⟩, -, X45, ⟨Lc45, hQ45, l45, y45, z45⟩, st45⟩ := Jvm.LawKit.callS X44 hx (y := mn6) hown (mvT hZ (wd65 hw)) (mvT hZ (wd66 hw)) (mvT hZ (wd67 hw)) (mvT hZ (wd68 hw)) (by decide) (backOf (W := 0) (rmA44 l Z a0 hw [] rA yc c0 _ h0 n0 Z0 V_r g_r) hZ (wd68 hw) (wd67 hw) (by decide) (by decide)) (g := (mkF m 65 #[vr kw, vl yx, sd, vl 0, sd, vl yc, sd, vl 0, sd, vi 0] [(.long yc), (.long (0 : Int64)), (.int (1 : Int32)), (.int (0 : Int32)), (.ref rA)])) rfl (by rw [hml]; rfl) (argsL := [(.ref rA), (.int (0 : Int32)), (.int (1 : Int32)), (.long (0 : Int64)), (.long yc)]) (rest := []) (lenOf pd___JIIJJ_V rfl) rfl (by show 2 * 0 + _ ≤ _; exact Nat.le_of_eq rfl) (hb hby dk_65) (fun _ _ => ⟨rfl, e44, (by decide : 0 + 0 ≤ _), (by decide : 0 + 0 ≤ _)⟩)
      dsimp only [Pt.U, Pt.locs, Pt.cells, Pt.slots] at X45 l45 y45 z45 st45 hQ45
      subst l45 y45 z45
      obtain ⟨rfl, Nq45, Kq45, g45_0⟩ := hQ45
      have N45 := Fr.app N41 Nq45
      have Z45 := Nat.le_trans Z0 Kq45.1
      have K45 : Keep h0 T45.heap [rA, dA] := Keep.trans (Keep.refl h0 [rA, dA]) Kq45 (allS (Or.inl (List.mem_of_getElem? (i := 0) rfl)) all0)
      have f46 := (F_d.keep Kq45 (ninS n_kw_rA nin0))
      obtain ⟨T47, X47, e47, st47⟩ := getF X45 hx hZ hown (wf15 hw) Via.refl rfl f46 (g := (mkF m 69 #[vr kw, vl yx, sd, vl 0, sd, vl yc, sd, vl 0, sd, vi 0] [(.ref kw)])) rfl rfl (hb hby dk_69)
      have f48 := (V_d.keep Kq45 (ninS (Ne.symm n_rA_dA) nin0))
      obtain ⟨cl49, Ar49, q49, S49, M49, HH49, GG49⟩ := id f48
      have hin49 : ¬ ((0 : Int32) < 0 ∨ cl49.slots.size ≤ ((0 : Int32)).toNatClampNeg) := inb_of S49 ⟨by decide, by decide⟩
      obtain ⟨T50, h50, X50, e50, W50, st50⟩ := stJ X47 hx hZ e47 Ar49 (j := (0 : Int32)) hin49 (g := (mkF m 76 #[vr kw, vl yx, sd, vl 0, sd, vl yc, sd, vl 0, sd, vi 0] [(.long (0 : Int64)), (.int (0 : Int32)), (.ref dA)])) rfl rfl (hb hby dk_76)
      have N50 := Fr.snoc X50 N45 g_d
      have Z50 : n0 ≤ h50.size := by rw [W50.size]; exact Z45
      have K50 := (K45.wr W50 (Or.inl (List.mem_of_getElem? (i := 1) rfl)))
      have V50 := Arv.set Ar49 q49 S49 M49 HH49 GG49 rfl W50 0 rfl (Nat.le_of_ble_eq_true rfl)
      subst hEN
      obtain ⟨lfs, lhr, lhrun, lhended, lhW, lhsame⟩ := X50.leave (v := none) (fun _ => rfl)
      refine ⟨_, _, k37 _ ?_, lhrun, lhended, _, _, rfl, ?_, ⟨_, rfl⟩, lhW, lhsame.mono (by decide) (by decide)⟩
      · skip
        refine XS.aloadN X0.here hx rfl (hb hby dk_0) rfl rfl ?_
        refine st38 _ ?_
        refine XS.aloadN X38.here hx rfl (hb hby dk_4) rfl rfl ?_
        refine st39 _ ?_
        refine XS.aloadN X39.here hx rfl (hb hby dk_8) rfl rfl ?_
        refine st40 _ ?_
        refine XS.lloadN X40.here hx rfl (hb hby dk_12) rfl ?_
        refine st41 _ ?_
        refine XS.istore X41.here hx rfl (hb hby dk_16) rfl (l' := #[vr kw, vl yx, sd, vl 0, sd, vl yc, sd, vl 0, sd, vi 0]) rfl ?_
        refine XS.iload X41.here hx rfl (hb hby dk_18) rfl ?_
        refine XS.ifYes X41.here hx rfl (pc0 := 20) (pc' := 42) rfl (hb hby dk_20) rfl ((if0 _ _).trans (flt (by decide : ¬ ((0 : Int32) < (0 : Int32)))).2.1) (by decide) (by decide) ?_
        refine XS.iload X41.here hx rfl (hb hby dk_42) rfl ?_
        refine XS.ifNo X41.here hx rfl (hb hby dk_44) rfl ((if0 _ _).trans (flt (by decide : ¬ ((0 : Int32) < (0 : Int32)))).1) ?_
        refine XS.aloadN X41.here hx rfl (hb hby dk_47) rfl rfl ?_
        refine st42 _ ?_
        refine XS.iload X42.here hx rfl (hb hby dk_51) rfl ?_
        refine XS.aloadN X42.here hx rfl (hb hby dk_53) rfl rfl ?_
        refine st43 _ ?_
        refine XS.imul X43.here hx rfl (hb hby dk_57) rfl ?_
        refine XS.aloadN X43.here hx rfl (hb hby dk_58) rfl rfl ?_
        refine st44 _ ?_
        refine XS.lloadN X44.here hx rfl (hb hby dk_62) rfl ?_
        refine XS.lload X44.here hx rfl (hb hby dk_63) rfl ?_
        refine st45 _ ?_
        refine XS.aloadN X45.here hx rfl (hb hby dk_68) rfl rfl ?_
        refine st47 _ ?_
        refine XS.iload X47.here hx rfl (hb hby dk_72) rfl ?_
        refine XS.lload X47.here hx rfl (hb hby dk_74) rfl ?_
        refine st50 _ ?_
        show SS p e below T50 (mkF m 77 #[vr kw, vl yx, sd, vl 0, sd, vl yc, sd, vl 0, sd, vi 0] []) _
        exact X50.returnOut hx Bd.returns (hb hby dk_77) lhr
      · skip
        show QAd2 Z kw yy yc sA rA dA ksA krA kdA yx c0 wd h0 n0 _ T50.heap _
        rw [e50]
        exact ⟨rfl, N50, K50, V50⟩
    · skip
      have F_wl : Fld Z h0 kw cn2 "width" "I" (.int (4 : Int32)) := by rw [← ew]; exact F_w
      by_cases h1c : (1 : Int64) < yc
      · skip
        obtain ⟨T51, X51, e51, st51⟩ := getF X0 hx hZ hown (wf11 hw) Via.refl e0 F_s (g := (mkF m 1 #[vr kw, vl yx, sd, vl 0, sd, vl yc, sd, vl 0, sd, un] [(.ref kw)])) rfl rfl (hb hby dk_1)
        obtain ⟨T52, X52, e52, st52⟩ := getF X51 hx hZ hown (wf24 hw) Via.refl e51 F_1 (g := (mkF m 5 #[vr kw, vl yx, sd, vl 0, sd, vl yc, sd, vl 0, sd, un] [(.ref kw), (.ref sA)])) rfl rfl (hb hby dk_5)
        obtain ⟨T53, X53, e53, st53⟩ := getF X52 hx hZ hown (wf26 hw) Via.refl e52 F_e (g := (mkF m 9 #[vr kw, vl yx, sd, vl 0, sd, vl yc, sd, vl 0, sd, un] [(.ref kw), (.int (0 : Int32)), (.ref sA)])) rfl rfl (hb hby dk_9)
        obtain ⟨_, _, ⟨T54, L54, kc54, ks54⟩, -, X54, ⟨Lc54, hQ54, l54, y54, z54⟩, st54⟩ := Jvm.LawKit.callS X53 hx (y := mn10) hown (mvT hZ (wd35 hw)) (mvT hZ (wd36 hw)) (mvT hZ (wd37 hw)) (mvT hZ (wd38 hw)) (by decide) (backOf (W := 0) (rmA30 l Z a0 hw [] sA yx _ h0 n0 Z0 V_s) hZ (wd38 hw) (wd37 hw) (by decide) (by decide)) (g := (mkF m 13 #[vr kw, vl yx, sd, vl 0, sd, vl yc, sd, vl 0, sd, un] [(.long yx), (.int (1 : Int32)), (.int (0 : Int32)), (.ref sA)])) rfl (by rw [hml]; rfl) (argsL := [(.ref sA), (.int (0 : Int32)), (.int (1 : Int32)), (.long yx)]) (rest := []) (lenOf pd___JIIJ_I rfl) rfl (by show 2 * 0 + _ ≤ _; exact Nat.le_of_eq rfl) (hb hby dk_13) (fun _ _ => ⟨rfl, e53, (by decide : 0 + 0 ≤ _), (by decide : 0 + 0 ≤ _)⟩)
        dsimp only [Pt.U, Pt.locs, Pt.cells, Pt.slots] at X54 l54 y54 z54 st54 hQ54
        subst l54 y54 z54
        obtain ⟨rfl, Nq54, eq54⟩ := hQ54
        have N54 := Fr.app N0 Nq54
        obtain ⟨T55, X55, e55, st55⟩ := getF X54 hx hZ hown (wf13 hw) Via.refl eq54 F_r (g := (mkF m 48 #[vr kw, vl yx, sd, vl 0, sd, vl yc, sd, vl 0, sd, vi 0] [(.ref kw)])) rfl rfl (hb hby dk_48)
        obtain ⟨T56, X56, e56, st56⟩ := getF X55 hx hZ hown (wf17 hw) Via.refl e55 F_wl (g := (mkF m 54 #[vr kw, vl yx, sd, vl 0, sd, vl yc, sd, vl 0, sd, vi 0] [(.ref kw), (.int (0 : Int32)), (.ref rA)])) rfl rfl (hb hby dk_54)
        obtain ⟨T57, X57, e57, st57⟩ := getF X56 hx hZ hown (wf17 hw) Via.refl e56 F_wl (g := (mkF m 59 #[vr kw, vl yx, sd, vl 0, sd, vl yc, sd, vl 0, sd, vi 0] [(.ref kw), (.int (0 : Int32)), (.ref rA)])) rfl rfl (hb hby dk_59)
        obtain ⟨_, _, ⟨T58, L58, kc58, ks58⟩, -, X58, ⟨Lc58, hQ58, l58, y58, z58⟩, st58⟩ := Jvm.LawKit.callS X57 hx (y := mn6) hown (mvT hZ (wd65 hw)) (mvT hZ (wd66 hw)) (mvT hZ (wd67 hw)) (mvT hZ (wd68 hw)) (by decide) (backOf (W := 0) (rmA48 l Z a0 hw [] rA yc c0 _ h0 n0 Z0 V_r g_r hne hc0 h1c) hZ (wd68 hw) (wd67 hw) (by decide) (by decide)) (g := (mkF m 65 #[vr kw, vl yx, sd, vl 0, sd, vl yc, sd, vl 0, sd, vi 0] [(.long yc), (.long (0 : Int64)), (.int (4 : Int32)), (.int (0 : Int32)), (.ref rA)])) rfl (by rw [hml]; rfl) (argsL := [(.ref rA), (.int (0 : Int32)), (.int (4 : Int32)), (.long (0 : Int64)), (.long yc)]) (rest := []) (lenOf pd___JIIJJ_V rfl) rfl (by show 2 * 0 + _ ≤ _; exact Nat.le_of_eq rfl) (hb hby dk_65) (fun _ _ => ⟨rfl, e57, (by decide : 0 + 0 ≤ _), (by decide : 0 + 0 ≤ _)⟩)
        dsimp only [Pt.U, Pt.locs, Pt.cells, Pt.slots] at X58 l58 y58 z58 st58 hQ58
        subst l58 y58 z58
        obtain ⟨rfl, Nq58, Kq58, g58_0⟩ := hQ58
        have N58 := Fr.app N54 Nq58
        have Z58 := Nat.le_trans Z0 Kq58.1
        have K58 : Keep h0 T58.heap [rA, dA] := Keep.trans (Keep.refl h0 [rA, dA]) Kq58 (allS (Or.inl (List.mem_of_getElem? (i := 0) rfl)) all0)
        have f59 := (F_d.keep Kq58 (ninS n_kw_rA nin0))
        obtain ⟨T60, X60, e60, st60⟩ := getF X58 hx hZ hown (wf15 hw) Via.refl rfl f59 (g := (mkF m 69 #[vr kw, vl yx, sd, vl 0, sd, vl yc, sd, vl 0, sd, vi 0] [(.ref kw)])) rfl rfl (hb hby dk_69)
        have f61 := (V_d.keep Kq58 (ninS (Ne.symm n_rA_dA) nin0))
        obtain ⟨cl62, Ar62, q62, S62, M62, HH62, GG62⟩ := id f61
        have hin62 : ¬ ((0 : Int32) < 0 ∨ cl62.slots.size ≤ ((0 : Int32)).toNatClampNeg) := inb_of S62 ⟨by decide, by decide⟩
        obtain ⟨T63, h63, X63, e63, W63, st63⟩ := stJ X60 hx hZ e60 Ar62 (j := (0 : Int32)) hin62 (g := (mkF m 76 #[vr kw, vl yx, sd, vl 0, sd, vl yc, sd, vl 0, sd, vi 0] [(.long (0 : Int64)), (.int (0 : Int32)), (.ref dA)])) rfl rfl (hb hby dk_76)
        have N63 := Fr.snoc X63 N58 g_d
        have Z63 : n0 ≤ h63.size := by rw [W63.size]; exact Z58
        have K63 := (K58.wr W63 (Or.inl (List.mem_of_getElem? (i := 1) rfl)))
        have V63 := Arv.set Ar62 q62 S62 M62 HH62 GG62 rfl W63 0 rfl (Nat.le_of_ble_eq_true rfl)
        subst hEN
        obtain ⟨lfs, lhr, lhrun, lhended, lhW, lhsame⟩ := X63.leave (v := none) (fun _ => rfl)
        refine ⟨_, _, k37 _ ?_, lhrun, lhended, _, _, rfl, ?_, ⟨_, rfl⟩, lhW, lhsame.mono (by decide) (by decide)⟩
        · skip
          refine XS.aloadN X0.here hx rfl (hb hby dk_0) rfl rfl ?_
          refine st51 _ ?_
          refine XS.aloadN X51.here hx rfl (hb hby dk_4) rfl rfl ?_
          refine st52 _ ?_
          refine XS.aloadN X52.here hx rfl (hb hby dk_8) rfl rfl ?_
          refine st53 _ ?_
          refine XS.lloadN X53.here hx rfl (hb hby dk_12) rfl ?_
          refine st54 _ ?_
          refine XS.istore X54.here hx rfl (hb hby dk_16) rfl (l' := #[vr kw, vl yx, sd, vl 0, sd, vl yc, sd, vl 0, sd, vi 0]) rfl ?_
          refine XS.iload X54.here hx rfl (hb hby dk_18) rfl ?_
          refine XS.ifYes X54.here hx rfl (pc0 := 20) (pc' := 42) rfl (hb hby dk_20) rfl ((if0 _ _).trans (flt (by decide : ¬ ((0 : Int32) < (0 : Int32)))).2.1) (by decide) (by decide) ?_
          refine XS.iload X54.here hx rfl (hb hby dk_42) rfl ?_
          refine XS.ifNo X54.here hx rfl (hb hby dk_44) rfl ((if0 _ _).trans (flt (by decide : ¬ ((0 : Int32) < (0 : Int32)))).1) ?_
          refine XS.aloadN X54.here hx rfl (hb hby dk_47) rfl rfl ?_
          refine st55 _ ?_
          refine XS.iload X55.here hx rfl (hb hby dk_51) rfl ?_
          refine XS.aloadN X55.here hx rfl (hb hby dk_53) rfl rfl ?_
          refine st56 _ ?_
          refine XS.imul X56.here hx rfl (hb hby dk_57) rfl ?_
          refine XS.aloadN X56.here hx rfl (hb hby dk_58) rfl rfl ?_
          refine st57 _ ?_
          refine XS.lloadN X57.here hx rfl (hb hby dk_62) rfl ?_
          refine XS.lload X57.here hx rfl (hb hby dk_63) rfl ?_
          refine st58 _ ?_
          refine XS.aloadN X58.here hx rfl (hb hby dk_68) rfl rfl ?_
          refine st60 _ ?_
          refine XS.iload X60.here hx rfl (hb hby dk_72) rfl ?_
          refine XS.lload X60.here hx rfl (hb hby dk_74) rfl ?_
          refine st63 _ ?_
          show SS p e below T63 (mkF m 77 #[vr kw, vl yx, sd, vl 0, sd, vl yc, sd, vl 0, sd, vi 0] []) _
          exact X63.returnOut hx Bd.returns (hb hby dk_77) lhr
        · skip
          show QAd2 Z kw yy yc sA rA dA ksA krA kdA yx c0 wd h0 n0 _ T63.heap _
          rw [e63]
          exact ⟨rfl, N63, K63, V63⟩
      · skip
        obtain ⟨T64, X64, e64, st64⟩ := getF X0 hx hZ hown (wf11 hw) Via.refl e0 F_s (g := (mkF m 1 #[vr kw, vl yx, sd, vl 0, sd, vl yc, sd, vl 0, sd, un] [(.ref kw)])) rfl rfl (hb hby dk_1)
        obtain ⟨T65, X65, e65, st65⟩ := getF X64 hx hZ hown (wf24 hw) Via.refl e64 F_1 (g := (mkF m 5 #[vr kw, vl yx, sd, vl 0, sd, vl yc, sd, vl 0, sd, un] [(.ref kw), (.ref sA)])) rfl rfl (hb hby dk_5)
        obtain ⟨T66, X66, e66, st66⟩ := getF X65 hx hZ hown (wf26 hw) Via.refl e65 F_e (g := (mkF m 9 #[vr kw, vl yx, sd, vl 0, sd, vl yc, sd, vl 0, sd, un] [(.ref kw), (.int (0 : Int32)), (.ref sA)])) rfl rfl (hb hby dk_9)
        obtain ⟨_, _, ⟨T67, L67, kc67, ks67⟩, -, X67, ⟨Lc67, hQ67, l67, y67, z67⟩, st67⟩ := Jvm.LawKit.callS X66 hx (y := mn10) hown (mvT hZ (wd35 hw)) (mvT hZ (wd36 hw)) (mvT hZ (wd37 hw)) (mvT hZ (wd38 hw)) (by decide) (backOf (W := 0) (rmA30 l Z a0 hw [] sA yx _ h0 n0 Z0 V_s) hZ (wd38 hw) (wd37 hw) (by decide) (by decide)) (g := (mkF m 13 #[vr kw, vl yx, sd, vl 0, sd, vl yc, sd, vl 0, sd, un] [(.long yx), (.int (1 : Int32)), (.int (0 : Int32)), (.ref sA)])) rfl (by rw [hml]; rfl) (argsL := [(.ref sA), (.int (0 : Int32)), (.int (1 : Int32)), (.long yx)]) (rest := []) (lenOf pd___JIIJ_I rfl) rfl (by show 2 * 0 + _ ≤ _; exact Nat.le_of_eq rfl) (hb hby dk_13) (fun _ _ => ⟨rfl, e66, (by decide : 0 + 0 ≤ _), (by decide : 0 + 0 ≤ _)⟩)
        dsimp only [Pt.U, Pt.locs, Pt.cells, Pt.slots] at X67 l67 y67 z67 st67 hQ67
        subst l67 y67 z67
        obtain ⟨rfl, Nq67, eq67⟩ := hQ67
        have N67 := Fr.app N0 Nq67
        obtain ⟨T68, X68, e68, st68⟩ := getF X67 hx hZ hown (wf13 hw) Via.refl eq67 F_r (g := (mkF m 48 #[vr kw, vl yx, sd, vl 0, sd, vl yc, sd, vl 0, sd, vi 0] [(.ref kw)])) rfl rfl (hb hby dk_48)
        obtain ⟨T69, X69, e69, st69⟩ := getF X68 hx hZ hown (wf17 hw) Via.refl e68 F_wl (g := (mkF m 54 #[vr kw, vl yx, sd, vl 0, sd, vl yc, sd, vl 0, sd, vi 0] [(.ref kw), (.int (0 : Int32)), (.ref rA)])) rfl rfl (hb hby dk_54)
        obtain ⟨T70, X70, e70, st70⟩ := getF X69 hx hZ hown (wf17 hw) Via.refl e69 F_wl (g := (mkF m 59 #[vr kw, vl yx, sd, vl 0, sd, vl yc, sd, vl 0, sd, vi 0] [(.ref kw), (.int (0 : Int32)), (.ref rA)])) rfl rfl (hb hby dk_59)
        obtain ⟨_, _, ⟨T71, L71, kc71, ks71⟩, -, X71, ⟨Lc71, hQ71, l71, y71, z71⟩, st71⟩ := Jvm.LawKit.callS X70 hx (y := mn6) hown (mvT hZ (wd65 hw)) (mvT hZ (wd66 hw)) (mvT hZ (wd67 hw)) (mvT hZ (wd68 hw)) (by decide) (backOf (W := 0) (rmA53 l Z a0 hw [] rA yc c0 _ h0 n0 Z0 V_r g_r hne hc0 h1c) hZ (wd68 hw) (wd67 hw) (by decide) (by decide)) (g := (mkF m 65 #[vr kw, vl yx, sd, vl 0, sd, vl yc, sd, vl 0, sd, vi 0] [(.long yc), (.long (0 : Int64)), (.int (4 : Int32)), (.int (0 : Int32)), (.ref rA)])) rfl (by rw [hml]; rfl) (argsL := [(.ref rA), (.int (0 : Int32)), (.int (4 : Int32)), (.long (0 : Int64)), (.long yc)]) (rest := []) (lenOf pd___JIIJJ_V rfl) rfl (by show 2 * 0 + _ ≤ _; exact Nat.le_of_eq rfl) (hb hby dk_65) (fun _ _ => ⟨rfl, e70, (by decide : 0 + 0 ≤ _), (by decide : 0 + 0 ≤ _)⟩)
        dsimp only [Pt.U, Pt.locs, Pt.cells, Pt.slots] at X71 l71 y71 z71 st71 hQ71
        subst l71 y71 z71
        obtain ⟨rfl, Nq71, Kq71, g71_0⟩ := hQ71
        have N71 := Fr.app N67 Nq71
        have Z71 := Nat.le_trans Z0 Kq71.1
        have K71 : Keep h0 T71.heap [rA, dA] := Keep.trans (Keep.refl h0 [rA, dA]) Kq71 (allS (Or.inl (List.mem_of_getElem? (i := 0) rfl)) all0)
        have f72 := (F_d.keep Kq71 (ninS n_kw_rA nin0))
        obtain ⟨T73, X73, e73, st73⟩ := getF X71 hx hZ hown (wf15 hw) Via.refl rfl f72 (g := (mkF m 69 #[vr kw, vl yx, sd, vl 0, sd, vl yc, sd, vl 0, sd, vi 0] [(.ref kw)])) rfl rfl (hb hby dk_69)
        have f74 := (V_d.keep Kq71 (ninS (Ne.symm n_rA_dA) nin0))
        obtain ⟨cl75, Ar75, q75, S75, M75, HH75, GG75⟩ := id f74
        have hin75 : ¬ ((0 : Int32) < 0 ∨ cl75.slots.size ≤ ((0 : Int32)).toNatClampNeg) := inb_of S75 ⟨by decide, by decide⟩
        obtain ⟨T76, h76, X76, e76, W76, st76⟩ := stJ X73 hx hZ e73 Ar75 (j := (0 : Int32)) hin75 (g := (mkF m 76 #[vr kw, vl yx, sd, vl 0, sd, vl yc, sd, vl 0, sd, vi 0] [(.long (0 : Int64)), (.int (0 : Int32)), (.ref dA)])) rfl rfl (hb hby dk_76)
        have N76 := Fr.snoc X76 N71 g_d
        have Z76 : n0 ≤ h76.size := by rw [W76.size]; exact Z71
        have K76 := (K71.wr W76 (Or.inl (List.mem_of_getElem? (i := 1) rfl)))
        have V76 := Arv.set Ar75 q75 S75 M75 HH75 GG75 rfl W76 0 rfl (Nat.le_of_ble_eq_true rfl)
        subst hEN
        obtain ⟨lfs, lhr, lhrun, lhended, lhW, lhsame⟩ := X76.leave (v := none) (fun _ => rfl)
        refine ⟨_, _, k37 _ ?_, lhrun, lhended, _, _, rfl, ?_, ⟨_, rfl⟩, lhW, lhsame.mono (by decide) (by decide)⟩
        · skip
          refine XS.aloadN X0.here hx rfl (hb hby dk_0) rfl rfl ?_
          refine st64 _ ?_
          refine XS.aloadN X64.here hx rfl (hb hby dk_4) rfl rfl ?_
          refine st65 _ ?_
          refine XS.aloadN X65.here hx rfl (hb hby dk_8) rfl rfl ?_
          refine st66 _ ?_
          refine XS.lloadN X66.here hx rfl (hb hby dk_12) rfl ?_
          refine st67 _ ?_
          refine XS.istore X67.here hx rfl (hb hby dk_16) rfl (l' := #[vr kw, vl yx, sd, vl 0, sd, vl yc, sd, vl 0, sd, vi 0]) rfl ?_
          refine XS.iload X67.here hx rfl (hb hby dk_18) rfl ?_
          refine XS.ifYes X67.here hx rfl (pc0 := 20) (pc' := 42) rfl (hb hby dk_20) rfl ((if0 _ _).trans (flt (by decide : ¬ ((0 : Int32) < (0 : Int32)))).2.1) (by decide) (by decide) ?_
          refine XS.iload X67.here hx rfl (hb hby dk_42) rfl ?_
          refine XS.ifNo X67.here hx rfl (hb hby dk_44) rfl ((if0 _ _).trans (flt (by decide : ¬ ((0 : Int32) < (0 : Int32)))).1) ?_
          refine XS.aloadN X67.here hx rfl (hb hby dk_47) rfl rfl ?_
          refine st68 _ ?_
          refine XS.iload X68.here hx rfl (hb hby dk_51) rfl ?_
          refine XS.aloadN X68.here hx rfl (hb hby dk_53) rfl rfl ?_
          refine st69 _ ?_
          refine XS.imul X69.here hx rfl (hb hby dk_57) rfl ?_
          refine XS.aloadN X69.here hx rfl (hb hby dk_58) rfl rfl ?_
          refine st70 _ ?_
          refine XS.lloadN X70.here hx rfl (hb hby dk_62) rfl ?_
          refine XS.lload X70.here hx rfl (hb hby dk_63) rfl ?_
          refine st71 _ ?_
          refine XS.aloadN X71.here hx rfl (hb hby dk_68) rfl rfl ?_
          refine st73 _ ?_
          refine XS.iload X73.here hx rfl (hb hby dk_72) rfl ?_
          refine XS.lload X73.here hx rfl (hb hby dk_74) rfl ?_
          refine st76 _ ?_
          show SS p e below T76 (mkF m 77 #[vr kw, vl yx, sd, vl 0, sd, vl yc, sd, vl 0, sd, vi 0] []) _
          exact X76.returnOut hx Bd.returns (hb hby dk_77) lhr
        · skip
          show QAd2 Z kw yy yc sA rA dA ksA krA kdA yx c0 wd h0 n0 _ T76.heap _
          rw [e76]
          exact ⟨rfl, N76, K76, V76⟩
theorem dj_9 : decode jdk_29_method_65_code 9 = .ok (.iload_n 1, 1) := by decide +kernel
def QA59 (Z : State)  (h0 : Heap) (n0 : Nat) (v : Option Value) (h : Heap) (L : List Loc) : Prop := v = some (.int (2 : Int32)) ∧ Fr n0 L ∧ h = h0
set_option maxRecDepth 65536 in
set_option maxHeartbeats 40000000 in
theorem rmA59 (l : Launch) (Z : State) (a0 : Array Value) (hw : ∀ d ∈ tables_1, d.before a0 Z = true) (ws : List Jvm.Cond)  (h0 : Heap) (n0 : Nat) (Z0 : n0 ≤ h0.size) :
    MetFree l mn7 (head1 (Jvm.Cond.code mn7 jdk_29_method_65_code 2 (some .int) :: ws) ({ frames := 0, cells := 0, slots := 0, locals := 0 } : Room)) (fun a U => a = #[(.int (1 : Int32)), (.int (2 : Int32))] ∧ Z.Warmed39 U.vm ∧ U.heap = h0) (fun _ _ _ _ _ => True) (fun _ U oc_ U' => ∃ v L, oc_ = .returned v ∧ QA59 Z  h0 n0 v U'.heap L ∧ FrameEnd U oc_ U' L ({ frames := 0, cells := 0, slots := 0, locals := 0 } : Room).cells ({ frames := 0, cells := 0, slots := 0, locals := 0 } : Room).slots) := by
  refine MetFree.of_bodySF (Jvm.Free.JP.mathPlain rfl (by decide +kernel)) hisR ?_
  intro p e s m args below meth c s₁ Bd hml0 hP hK
  obtain ⟨rfl, hZ, hh⟩ := hP
  have hx := Bd.exec
  have hby := Bd.bytes
  have hml : c.maxLocals = 2 := hml0
  have hown : s.vm.findClass "java/lang/Math" = some m.cls := findClass_of_methodNamed Bd.named
  have hnm := (name_of_methodNamed Bd.named Bd.method).1
  have X0 : Stand p l e ({ frames := 0, cells := 0, slots := 0, locals := 0 } : Room) s m #[(.int (1 : Int32)), (.int (2 : Int32))] below meth c s₁ [] 0 0 := Stand.of_body Bd
  have e0 : s₁.heap = h0 := by rw [← hh, Bd.state]; rfl
  have N0 := Fr.nil n0
  have pre0 : ∀ t, SS p e below s₁ (mkF m 0 #[vi 1, vi 2] []) t → Steps p.tables e below (s₁.setTop (entryFrame m #[(.int (1 : Int32)), (.int (2 : Int32))] 2)) t := fun t k => castTop (efa_jdk_29_method_65_code_vv m (1 : Int32) (2 : Int32)) k
  obtain ⟨EN, hEN⟩ : ∃ z, z = s₁.setTop (entryFrame m #[(.int (1 : Int32)), (.int (2 : Int32))] 2) := ⟨_, rfl⟩
  rw [← hEN] at pre0
  subst hEN
  obtain ⟨lfs, lhr, lhrun, lhended, lhW, lhsame⟩ := X0.leave (v := some (.int (2 : Int32))) (fun h => by rw [Bd.returns] at h; cases h)
  refine ⟨_, _, pre0 _ ?_, lhrun, lhended, _, _, rfl, ?_, ⟨_, rfl⟩, lhW, lhsame.mono (by decide) (by decide)⟩
  · skip
    refine XS.iloadN X0.here hx rfl (hb hby dj_0) rfl ?_
    refine XS.iloadN X0.here hx rfl (hb hby dj_1) rfl ?_
    refine XS.icmpYes X0.here hx rfl (pc0 := 2) (pc' := 9) rfl (hb hby dj_2) rfl (tlt (by decide : (1 : Int32) < (2 : Int32))).1 (by decide) (by decide) ?_
    refine XS.iloadN X0.here hx rfl (hb hby dj_9) rfl ?_
    show SS p e below s₁ (mkF m 10 #[vi 1, vi 2] [(.int (2 : Int32))]) _
    exact retI X0 hx Bd.returns (hb hby dj_10) lhr
  · skip
    show QA59 Z  h0 n0 _ s₁.heap _
    rw [e0]
    exact ⟨rfl, N0, rfl⟩
def QA60 (Z : State) (o0 : Addr) (o1 : Addr) (y2 : Int64) (kk_o1 : ClassId) (h0 : Heap) (n0 : Nat) (v : Option Value) (h : Heap) (L : List Loc) : Prop := ∃ (b1 : Addr) (kk_b1 : ClassId), v = some (.ref b1) ∧ Fr n0 L ∧ Keep h0 h [] ∧ h0.size ≤ b1 ∧ Arv Z h b1 kk_b1 .long (2 : Int32) [(.long y2), (.long (0 : Int64))] (.long (0 : Int64))
set_option maxRecDepth 65536 in
set_option maxHeartbeats 40000000 in
theorem rmA60 (l : Launch) (Z : State) (a0 : Array Value) (hw : ∀ d ∈ tables_1, d.before a0 Z = true) (ws : List Jvm.Cond) (o0 : Addr) (o1 : Addr) (y2 : Int64) (kk_o1 : ClassId) (h0 : Heap) (n0 : Nat) (Z0 : n0 ≤ h0.size) (F_o0_first : Fld Z h0 o0 cn2 "first" "I" (.int (0 : Int32))) (F_o0_end : Fld Z h0 o0 cn2 "end" "I" (.int (1 : Int32))) (V_o1 : Arv Z h0 o1 kk_o1 .long (1 : Int32) [(.long y2)] (.long (0 : Int64))) :
    MetFree l mn5 (head1 (Jvm.Cond.code mn5 prog_23_method_8_code 5 (some (.array .long)) :: ws) ({ frames := 1, cells := 1, slots := 2, locals := 36 } : Room)) (fun a U => a = #[(.ref o0), (.ref o1), (.int (1 : Int32)), (.int (2 : Int32))] ∧ Z.Warmed39 U.vm ∧ U.heap = h0) (fun _ _ _ _ _ => True) (fun _ U oc_ U' => ∃ v L, oc_ = .returned v ∧ QA60 Z o0 o1 y2 kk_o1 h0 n0 v U'.heap L ∧ FrameEnd U oc_ U' L ({ frames := 1, cells := 1, slots := 2, locals := 36 } : Room).cells ({ frames := 1, cells := 1, slots := 2, locals := 36 } : Room).slots) := by
  refine MetFree.of_bodySF (plainFor_of_name pn_com_example_strict_limiter_strictlimiter_KeptWindows) hisR ?_
  intro p e s m args below meth c s₁ Bd hml0 hP hK
  obtain ⟨rfl, hZ, hh⟩ := hP
  have hx := Bd.exec
  have hby := Bd.bytes
  have hml : c.maxLocals = 5 := hml0
  have hown : s.vm.findClass cn2 = some m.cls := findClass_of_methodNamed Bd.named
  have hnm := (name_of_methodNamed Bd.named Bd.method).1
  have X0 : Stand p l e ({ frames := 1, cells := 1, slots := 2, locals := 36 } : Room) s m #[(.ref o0), (.ref o1), (.int (1 : Int32)), (.int (2 : Int32))] below meth c s₁ [] 0 0 := Stand.of_body Bd
  have e0 : s₁.heap = h0 := by rw [← hh, Bd.state]; rfl
  have N0 := Fr.nil n0
  have pre0 : ∀ t, SS p e below s₁ (mkF m 0 #[vr o0, vr o1, vi 1, vi 2, un] []) t → Steps p.tables e below (s₁.setTop (entryFrame m #[(.ref o0), (.ref o1), (.int (1 : Int32)), (.int (2 : Int32))] 5)) t := fun t k => castTop (efa_prog_23_method_8_code_vvvv m o0 o1 (1 : Int32) (2 : Int32)) k
  obtain ⟨EN, hEN⟩ : ∃ z, z = s₁.setTop (entryFrame m #[(.ref o0), (.ref o1), (.int (1 : Int32)), (.int (2 : Int32))] 5) := ⟨_, rfl⟩
  rw [← hEN] at pre0
  obtain ⟨T1, h1, kk1, X1, e1, E1, A1, st1⟩ := newP X0 hx hZ (aty := .long) (wd57 hw) e0 (g := (mkF m 3 #[vr o0, vr o1, vi 1, vi 2, un] [(.int (2 : Int32))])) rfl (hb hby dd_3) rfl (by decide) (cap := 2) (by decide) (by decide) (by decide) (by decide)
  obtain ⟨b1, g1⟩ : ∃ z, z = h0.size := ⟨_, rfl⟩
  rw [← g1] at A1 st1
  have ge_b1 : n0 ≤ b1 := Nat.le_trans Z0 (Nat.le_of_eq g1.symm)
  have sz_b1 : h0.size ≤ b1 := Nat.le_trans (Nat.le_refl _) (Nat.le_of_eq g1.symm)
  have Z1 := Nat.le_trans Z0 E1.1
  have K1 : Keep h0 h1 [] := ((Keep.refl h0 []).ext E1)
  have V1 : Arv Z h1 b1 kk1 .long (2 : Int32) [(.long (0 : Int64)), (.long (0 : Int64))] (.long (0 : Int64)) := (Arv.new A1 (by decide)).pad (pad_rep [] (.long (0 : Int64)) 2)
  have f2 := (F_o0_first.ext E1)
  obtain ⟨T3, X3, e3, st3⟩ := getF X1 hx hZ hown (wf24 hw) Via.refl e1 f2 (g := (mkF m 9 #[vr o0, vr o1, vi 1, vi 2, vr b1] [(.ref o0), (.ref o1)])) rfl rfl (hb hby dd_9)
  have f4 := (F_o0_end.ext E1)
  obtain ⟨T5, X5, e5, st5⟩ := getF X3 hx hZ hown (wf26 hw) Via.refl e3 f4 (g := (mkF m 18 #[vr o0, vr o1, vi 1, vi 2, vr b1] [(.ref o0), (.int (0 : Int32)), (.ref b1), (.int (0 : Int32)), (.ref o1)])) rfl rfl (hb hby dd_18)
  obtain ⟨T6, X6, e6, st6⟩ := getF X5 hx hZ hown (wf24 hw) Via.refl e5 f2 (g := (mkF m 22 #[vr o0, vr o1, vi 1, vi 2, vr b1] [(.ref o0), (.int (1 : Int32)), (.int (0 : Int32)), (.ref b1), (.int (0 : Int32)), (.ref o1)])) rfl rfl (hb hby dd_22)
  have f7 := (V_o1.ext E1)
  obtain ⟨T8, h8, Lq8, X8, e8, Nq8, Kq8, Vq8, st8⟩ := cpA X6 hx hZ hown (wd58 hw) (wd61 hw) (wd59 hw) (wd60 hw) e6 (us := [(.long y2)]) f7 V1 (Or.inl ⟨rfl, rfl⟩) (by decide) (by decide) (by decide) (by first | decide | exact Nat.le_of_ble_eq_true rfl) (by first | decide | exact Nat.le_of_ble_eq_true rfl) (by rfl) (by first | decide | exact Nat.le_of_ble_eq_true rfl) N0 ge_b1 (g := (mkF m 28 #[vr o0, vr o1, vi 1, vi 2, vr b1] [(.int (1 : Int32)), (.int (0 : Int32)), (.ref b1), (.int (0 : Int32)), (.ref o1)])) rfl (by rw [hml]; rfl) rfl (hb hby dd_28) (by decide) (W := 0) (by show 2 * 0 + _ ≤ _; exact Nat.le_of_eq rfl) (by decide)
  have Z8 := Nat.le_trans Z1 Kq8.1
  have K8 := Keep.trans K1 Kq8 (allS (Or.inr sz_b1) all0)
  have V8 : Arv Z h8 b1 _ .long (2 : Int32) [(.long y2), (.long (0 : Int64))] (.long (0 : Int64)) := Vq8
  subst hEN
  obtain ⟨lfs, lhr, lhrun, lhended, lhW, lhsame⟩ := X8.leave (v := some (.ref b1)) (fun h => by rw [Bd.returns] at h; cases h)
  refine ⟨_, _, pre0 _ ?_, lhrun, lhended, _, _, rfl, ?_, ⟨_, rfl⟩, lhW, lhsame.mono (by decide) (by decide)⟩
  · skip
    refine XS.iloadN X0.here hx rfl (hb hby dd_0) rfl ?_
    refine XS.iloadN X0.here hx rfl (hb hby dd_1) rfl ?_
    refine XS.imul X0.here hx rfl (hb hby dd_2) rfl ?_
    refine st1 _ ?_
    refine XS.astore X1.here hx rfl (hb hby dd_5) rfl rfl (l' := #[vr o0, vr o1, vi 1, vi 2, vr b1]) rfl ?_
    refine XS.aloadN X1.here hx rfl (hb hby dd_7) rfl rfl ?_
    refine XS.aloadN X1.here hx rfl (hb hby dd_8) rfl rfl ?_
    refine st3 _ ?_
    refine XS.iloadN X3.here hx rfl (hb hby dd_12) rfl ?_
    refine XS.imul X3.here hx rfl (hb hby dd_13) rfl ?_
    refine XS.aload X3.here hx rfl (hb hby dd_14) rfl rfl ?_
    refine XS.iconst X3.here hx rfl (hb hby dd_16) ?_
    refine XS.aloadN X3.here hx rfl (hb hby dd_17) rfl rfl ?_
    refine st5 _ ?_
    refine XS.aloadN X5.here hx rfl (hb hby dd_21) rfl rfl ?_
    refine st6 _ ?_
    refine XS.isub X6.here hx rfl (hb hby dd_25) rfl ?_
    refine XS.iloadN X6.here hx rfl (hb hby dd_26) rfl ?_
    refine XS.imul X6.here hx rfl (hb hby dd_27) rfl ?_
    refine st8 _ ?_
    refine XS.aload X8.here hx rfl (hb hby dd_31) rfl rfl ?_
    show SS p e below T8 (mkF m 33 #[vr o0, vr o1, vi 1, vi 2, vr b1] [(.ref b1)]) _
    exact retOut X8 hx Bd.returns rfl (Or.inr (Or.inr (Or.inr (Or.inr ⟨rfl, rfl, rfl⟩)))) (hb hby dd_33) lhr
  · skip
    show QA60 Z o0 o1 y2 kk_o1 h0 n0 _ T8.heap _
    rw [e8]
    exact ⟨b1, _, rfl, Nq8, K8, sz_b1, V8⟩
def QA62 (Z : State) (o0 : Addr) (o1 : Addr) (kk_o1 : ClassId) (h0 : Heap) (n0 : Nat) (v : Option Value) (h : Heap) (L : List Loc) : Prop := ∃ (b1 : Addr) (kk_b1 : ClassId), v = some (.ref b1) ∧ Fr n0 L ∧ Keep h0 h [] ∧ h0.size ≤ b1 ∧ Arv Z h b1 kk_b1 .long (2 : Int32) [(.long (0 : Int64)), (.long (0 : Int64))] (.long (0 : Int64))
set_option maxRecDepth 65536 in
set_option maxHeartbeats 40000000 in
theorem rmA62 (l : Launch) (Z : State) (a0 : Array Value) (hw : ∀ d ∈ tables_1, d.before a0 Z = true) (ws : List Jvm.Cond) (o0 : Addr) (o1 : Addr) (kk_o1 : ClassId) (h0 : Heap) (n0 : Nat) (Z0 : n0 ≤ h0.size) (F_o0_first : Fld Z h0 o0 cn2 "first" "I" (.int (0 : Int32))) (F_o0_end : Fld Z h0 o0 cn2 "end" "I" (.int (1 : Int32))) (V_o1 : Arv Z h0 o1 kk_o1 .long (1 : Int32) [(.long (0 : Int64))] (.long (0 : Int64))) :
    MetFree l mn5 (head1 (Jvm.Cond.code mn5 prog_23_method_8_code 5 (some (.array .long)) :: ws) ({ frames := 1, cells := 1, slots := 2, locals := 36 } : Room)) (fun a U => a = #[(.ref o0), (.ref o1), (.int (1 : Int32)), (.int (2 : Int32))] ∧ Z.Warmed39 U.vm ∧ U.heap = h0) (fun _ _ _ _ _ => True) (fun _ U oc_ U' => ∃ v L, oc_ = .returned v ∧ QA62 Z o0 o1 kk_o1 h0 n0 v U'.heap L ∧ FrameEnd U oc_ U' L ({ frames := 1, cells := 1, slots := 2, locals := 36 } : Room).cells ({ frames := 1, cells := 1, slots := 2, locals := 36 } : Room).slots) := by
  refine MetFree.of_bodySF (plainFor_of_name pn_com_example_strict_limiter_strictlimiter_KeptWindows) hisR ?_
  intro p e s m args below meth c s₁ Bd hml0 hP hK
  obtain ⟨rfl, hZ, hh⟩ := hP
  have hx := Bd.exec
  have hby := Bd.bytes
  have hml : c.maxLocals = 5 := hml0
  have hown : s.vm.findClass cn2 = some m.cls := findClass_of_methodNamed Bd.named
  have hnm := (name_of_methodNamed Bd.named Bd.method).1
  have X0 : Stand p l e ({ frames := 1, cells := 1, slots := 2, locals := 36 } : Room) s m #[(.ref o0), (.ref o1), (.int (1 : Int32)), (.int (2 : Int32))] below meth c s₁ [] 0 0 := Stand.of_body Bd
  have e0 : s₁.heap = h0 := by rw [← hh, Bd.state]; rfl
  have N0 := Fr.nil n0
  have pre0 : ∀ t, SS p e below s₁ (mkF m 0 #[vr o0, vr o1, vi 1, vi 2, un] []) t → Steps p.tables e below (s₁.setTop (entryFrame m #[(.ref o0), (.ref o1), (.int (1 : Int32)), (.int (2 : Int32))] 5)) t := fun t k => castTop (efa_prog_23_method_8_code_vvvv m o0 o1 (1 : Int32) (2 : Int32)) k
  obtain ⟨EN, hEN⟩ : ∃ z, z = s₁.setTop (entryFrame m #[(.ref o0), (.ref o1), (.int (1 : Int32)), (.int (2 : Int32))] 5) := ⟨_, rfl⟩
  rw [← hEN] at pre0
  obtain ⟨T1, h1, kk1, X1, e1, E1, A1, st1⟩ := newP X0 hx hZ (aty := .long) (wd57 hw) e0 (g := (mkF m 3 #[vr o0, vr o1, vi 1, vi 2, un] [(.int (2 : Int32))])) rfl (hb hby dd_3) rfl (by decide) (cap := 2) (by decide) (by decide) (by decide) (by decide)
  obtain ⟨b1, g1⟩ : ∃ z, z = h0.size := ⟨_, rfl⟩
  rw [← g1] at A1 st1
  have ge_b1 : n0 ≤ b1 := Nat.le_trans Z0 (Nat.le_of_eq g1.symm)
  have sz_b1 : h0.size ≤ b1 := Nat.le_trans (Nat.le_refl _) (Nat.le_of_eq g1.symm)
  have Z1 := Nat.le_trans Z0 E1.1
  have K1 : Keep h0 h1 [] := ((Keep.refl h0 []).ext E1)
  have V1 : Arv Z h1 b1 kk1 .long (2 : Int32) [(.long (0 : Int64)), (.long (0 : Int64))] (.long (0 : Int64)) := (Arv.new A1 (by decide)).pad (pad_rep [] (.long (0 : Int64)) 2)
  have f2 := (F_o0_first.ext E1)
  obtain ⟨T3, X3, e3, st3⟩ := getF X1 hx hZ hown (wf24 hw) Via.refl e1 f2 (g := (mkF m 9 #[vr o0, vr o1, vi 1, vi 2, vr b1] [(.ref o0), (.ref o1)])) rfl rfl (hb hby dd_9)
  have f4 := (F_o0_end.ext E1)
  obtain ⟨T5, X5, e5, st5⟩ := getF X3 hx hZ hown (wf26 hw) Via.refl e3 f4 (g := (mkF m 18 #[vr o0, vr o1, vi 1, vi 2, vr b1] [(.ref o0), (.int (0 : Int32)), (.ref b1), (.int (0 : Int32)), (.ref o1)])) rfl rfl (hb hby dd_18)
  obtain ⟨T6, X6, e6, st6⟩ := getF X5 hx hZ hown (wf24 hw) Via.refl e5 f2 (g := (mkF m 22 #[vr o0, vr o1, vi 1, vi 2, vr b1] [(.ref o0), (.int (1 : Int32)), (.int (0 : Int32)), (.ref b1), (.int (0 : Int32)), (.ref o1)])) rfl rfl (hb hby dd_22)
  have f7 := (V_o1.ext E1)
  obtain ⟨T8, h8, Lq8, X8, e8, Nq8, Kq8, Vq8, st8⟩ := cpA X6 hx hZ hown (wd58 hw) (wd61 hw) (wd59 hw) (wd60 hw) e6 (us := [(.long (0 : Int64))]) f7 V1 (Or.inl ⟨rfl, rfl⟩) (by decide) (by decide) (by decide) (by first | decide | exact Nat.le_of_ble_eq_true rfl) (by first | decide | exact Nat.le_of_ble_eq_true rfl) (by rfl) (by first | decide | exact Nat.le_of_ble_eq_true rfl) N0 ge_b1 (g := (mkF m 28 #[vr o0, vr o1, vi 1, vi 2, vr b1] [(.int (1 : Int32)), (.int (0 : Int32)), (.ref b1), (.int (0 : Int32)), (.ref o1)])) rfl (by rw [hml]; rfl) rfl (hb hby dd_28) (by decide) (W := 0) (by show 2 * 0 + _ ≤ _; exact Nat.le_of_eq rfl) (by decide)
  have Z8 := Nat.le_trans Z1 Kq8.1
  have K8 := Keep.trans K1 Kq8 (allS (Or.inr sz_b1) all0)
  have V8 : Arv Z h8 b1 _ .long (2 : Int32) [(.long (0 : Int64)), (.long (0 : Int64))] (.long (0 : Int64)) := Vq8
  subst hEN
  obtain ⟨lfs, lhr, lhrun, lhended, lhW, lhsame⟩ := X8.leave (v := some (.ref b1)) (fun h => by rw [Bd.returns] at h; cases h)
  refine ⟨_, _, pre0 _ ?_, lhrun, lhended, _, _, rfl, ?_, ⟨_, rfl⟩, lhW, lhsame.mono (by decide) (by decide)⟩
  · skip
    refine XS.iloadN X0.here hx rfl (hb hby dd_0) rfl ?_
    refine XS.iloadN X0.here hx rfl (hb hby dd_1) rfl ?_
    refine XS.imul X0.here hx rfl (hb hby dd_2) rfl ?_
    refine st1 _ ?_
    refine XS.astore X1.here hx rfl (hb hby dd_5) rfl rfl (l' := #[vr o0, vr o1, vi 1, vi 2, vr b1]) rfl ?_
    refine XS.aloadN X1.here hx rfl (hb hby dd_7) rfl rfl ?_
    refine XS.aloadN X1.here hx rfl (hb hby dd_8) rfl rfl ?_
    refine st3 _ ?_
    refine XS.iloadN X3.here hx rfl (hb hby dd_12) rfl ?_
    refine XS.imul X3.here hx rfl (hb hby dd_13) rfl ?_
    refine XS.aload X3.here hx rfl (hb hby dd_14) rfl rfl ?_
    refine XS.iconst X3.here hx rfl (hb hby dd_16) ?_
    refine XS.aloadN X3.here hx rfl (hb hby dd_17) rfl rfl ?_
    refine st5 _ ?_
    refine XS.aloadN X5.here hx rfl (hb hby dd_21) rfl rfl ?_
    refine st6 _ ?_
    refine XS.isub X6.here hx rfl (hb hby dd_25) rfl ?_
    refine XS.iloadN X6.here hx rfl (hb hby dd_26) rfl ?_
    refine XS.imul X6.here hx rfl (hb hby dd_27) rfl ?_
    refine st8 _ ?_
    refine XS.aload X8.here hx rfl (hb hby dd_31) rfl rfl ?_
    show SS p e below T8 (mkF m 33 #[vr o0, vr o1, vi 1, vi 2, vr b1] [(.ref b1)]) _
    exact retOut X8 hx Bd.returns rfl (Or.inr (Or.inr (Or.inr (Or.inr ⟨rfl, rfl, rfl⟩)))) (hb hby dd_33) lhr
  · skip
    show QA62 Z o0 o1 kk_o1 h0 n0 _ T8.heap _
    rw [e8]
    exact ⟨b1, _, rfl, Nq8, K8, sz_b1, V8⟩
def QA64 (Z : State)  (h0 : Heap) (n0 : Nat) (v : Option Value) (h : Heap) (L : List Loc) : Prop := v = none ∧ Fr n0 L ∧ h = h0
set_option maxRecDepth 65536 in
set_option maxHeartbeats 40000000 in
theorem rmA64 (l : Launch) (Z : State) (a0 : Array Value) (hw : ∀ d ∈ tables_1, d.before a0 Z = true) (ws : List Jvm.Cond)  (h0 : Heap) (n0 : Nat) (Z0 : n0 ≤ h0.size) :
    MetFree l mn13 (head1 (Jvm.Cond.code mn13 jdk_65_method_30_code 3 none :: ws) ({ frames := 0, cells := 0, slots := 0, locals := 0 } : Room)) (fun a U => a = #[(.int (2 : Int32)), (.int (0 : Int32)), (.int (1 : Int32))] ∧ Z.Warmed39 U.vm ∧ U.heap = h0) (fun _ _ _ _ _ => True) (fun _ U oc_ U' => ∃ v L, oc_ = .returned v ∧ QA64 Z  h0 n0 v U'.heap L ∧ FrameEnd U oc_ U' L ({ frames := 0, cells := 0, slots := 0, locals := 0 } : Room).cells ({ frames := 0, cells := 0, slots := 0, locals := 0 } : Room).slots) := by
  refine MetFree.of_bodySF (plainFor_of_name pn_java_util_Arrays) hisR ?_
  intro p e s m args below meth c s₁ Bd hml0 hP hK
  obtain ⟨rfl, hZ, hh⟩ := hP
  have hx := Bd.exec
  have hby := Bd.bytes
  have hml : c.maxLocals = 3 := hml0
  have hown : s.vm.findClass "java/util/Arrays" = some m.cls := findClass_of_methodNamed Bd.named
  have hnm := (name_of_methodNamed Bd.named Bd.method).1
  have X0 : Stand p l e ({ frames := 0, cells := 0, slots := 0, locals := 0 } : Room) s m #[(.int (2 : Int32)), (.int (0 : Int32)), (.int (1 : Int32))] below meth c s₁ [] 0 0 := Stand.of_body Bd
  have e0 : s₁.heap = h0 := by rw [← hh, Bd.state]; rfl
  have N0 := Fr.nil n0
  have pre0 : ∀ t, SS p e below s₁ (mkF m 0 #[vi 2, vi 0, vi 1] []) t → Steps p.tables e below (s₁.setTop (entryFrame m #[(.int (2 : Int32)), (.int (0 : Int32)), (.int (1 : Int32))] 3)) t := fun t k => castTop (efa_jdk_65_method_30_code_vvv m (2 : Int32) (0 : Int32) (1 : Int32)) k
  obtain ⟨EN, hEN⟩ : ∃ z, z = s₁.setTop (entryFrame m #[(.int (2 : Int32)), (.int (0 : Int32)), (.int (1 : Int32))] 3) := ⟨_, rfl⟩
  rw [← hEN] at pre0
  subst hEN
  obtain ⟨lfs, lhr, lhrun, lhended, lhW, lhsame⟩ := X0.leave (v := none) (fun _ => rfl)
  refine ⟨_, _, pre0 _ ?_, lhrun, lhended, _, _, rfl, ?_, ⟨_, rfl⟩, lhW, lhsame.mono (by decide) (by decide)⟩
  · skip
    refine XS.iloadN X0.here hx rfl (hb hby di_0) rfl ?_
    refine XS.iloadN X0.here hx rfl (hb hby di_1) rfl ?_
    refine XS.icmpYes X0.here hx rfl (pc0 := 2) (pc' := 46) rfl (hb hby di_2) rfl (flt (by decide : ¬ ((1 : Int32) < (0 : Int32)))).2.2.2 (by decide) (by decide) ?_
    refine XS.iloadN X0.here hx rfl (hb hby di_46) rfl ?_
    refine XS.ifYes X0.here hx rfl (pc0 := 47) (pc' := 59) rfl (hb hby di_47) rfl ((if0 _ _).trans (flt (by decide : ¬ ((0 : Int32) < (0 : Int32)))).2.1) (by decide) (by decide) ?_
    refine XS.iloadN X0.here hx rfl (hb hby di_59) rfl ?_
    refine XS.iloadN X0.here hx rfl (hb hby di_60) rfl ?_
    refine XS.icmpYes X0.here hx rfl (pc0 := 61) (pc' := 73) rfl (hb hby di_61) rfl (flt (by decide : ¬ ((2 : Int32) < (1 : Int32)))).2.2.2 (by decide) (by decide) ?_
    show SS p e below s₁ (mkF m 73 #[vi 2, vi 0, vi 1] []) _
    exact X0.returnOut hx Bd.returns (hb hby di_73) lhr
  · skip
    show QA64 Z  h0 n0 _ s₁.heap _
    rw [e0]
    exact ⟨rfl, N0, rfl⟩
def QA63 (Z : State) (o0 : Addr) (y1 : Int64) (kk_o0 : ClassId) (h0 : Heap) (n0 : Nat) (v : Option Value) (h : Heap) (L : List Loc) : Prop := v = none ∧ Fr n0 L ∧ Keep h0 h [o0] ∧ Arv Z h o0 kk_o0 .long (2 : Int32) [(.long (0 : Int64)), (.long y1)] (.long (0 : Int64))
set_option maxRecDepth 65536 in
set_option maxHeartbeats 40000000 in
theorem rmA63 (l : Launch) (Z : State) (a0 : Array Value) (hw : ∀ d ∈ tables_1, d.before a0 Z = true) (ws : List Jvm.Cond) (o0 : Addr) (y1 : Int64) (kk_o0 : ClassId) (h0 : Heap) (n0 : Nat) (Z0 : n0 ≤ h0.size) (V_o0 : Arv Z h0 o0 kk_o0 .long (2 : Int32) [(.long y1), (.long y1)] (.long (0 : Int64))) (g_o0 : n0 ≤ o0) :
    MetFree l mn12 (head1 (Jvm.Cond.code mn12 jdk_65_method_102_code 6 none :: ws) ({ frames := 1, cells := 0, slots := 0, locals := 14 } : Room)) (fun a U => a = #[(.ref o0), (.int (0 : Int32)), (.int (1 : Int32)), (.long (0 : Int64))] ∧ Z.Warmed39 U.vm ∧ U.heap = h0) (fun _ _ _ _ _ => True) (fun _ U oc_ U' => ∃ v L, oc_ = .returned v ∧ QA63 Z o0 y1 kk_o0 h0 n0 v U'.heap L ∧ FrameEnd U oc_ U' L ({ frames := 1, cells := 0, slots := 0, locals := 14 } : Room).cells ({ frames := 1, cells := 0, slots := 0, locals := 14 } : Room).slots) := by
  refine MetFree.of_bodySF (plainFor_of_name pn_java_util_Arrays) hisR ?_
  intro p e s m args below meth c s₁ Bd hml0 hP hK
  obtain ⟨rfl, hZ, hh⟩ := hP
  have hx := Bd.exec
  have hby := Bd.bytes
  have hml : c.maxLocals = 6 := hml0
  have hown : s.vm.findClass "java/util/Arrays" = some m.cls := findClass_of_methodNamed Bd.named
  have hnm := (name_of_methodNamed Bd.named Bd.method).1
  have X0 : Stand p l e ({ frames := 1, cells := 0, slots := 0, locals := 14 } : Room) s m #[(.ref o0), (.int (0 : Int32)), (.int (1 : Int32)), (.long (0 : Int64))] below meth c s₁ [] 0 0 := Stand.of_body Bd
  have e0 : s₁.heap = h0 := by rw [← hh, Bd.state]; rfl
  have N0 := Fr.nil n0
  have pre0 : ∀ t, SS p e below s₁ (mkF m 0 #[vr o0, vi 0, vi 1, vl 0, sd, un] []) t → Steps p.tables e below (s₁.setTop (entryFrame m #[(.ref o0), (.int (0 : Int32)), (.int (1 : Int32)), (.long (0 : Int64))] 6)) t := fun t k => castTop (efa_jdk_65_method_102_code_vvvv m o0 (0 : Int32) (1 : Int32) (0 : Int64)) k
  obtain ⟨EN, hEN⟩ : ∃ z, z = s₁.setTop (entryFrame m #[(.ref o0), (.int (0 : Int32)), (.int (1 : Int32)), (.long (0 : Int64))] 6) := ⟨_, rfl⟩
  rw [← hEN] at pre0
  obtain ⟨cl1, Ar1, -, S1, M1, -, -⟩ := id V_o0
  obtain ⟨_, _, ⟨T2, L2, kc2, ks2⟩, -, X2, ⟨Lc2, hQ2, l2, y2, z2⟩, st2⟩ := Jvm.LawKit.callS X0 hx (y := mn13) hown (mvT hZ (wd39 hw)) (mvT hZ (wd40 hw)) (mvT hZ (wd37 hw)) (mvT hZ (wd41 hw)) (by decide) (backOf (W := 0) (rmA64 l Z a0 hw []  h0 n0 Z0 ) hZ (wd41 hw) (wd37 hw) (by decide) (by decide)) (g := (mkF m 4 #[vr o0, vi 0, vi 1, vl 0, sd, un] [(.int (1 : Int32)), (.int (0 : Int32)), (.int (2 : Int32))])) rfl (by rw [hml]; rfl) (argsL := [(.int (2 : Int32)), (.int (0 : Int32)), (.int (1 : Int32))]) (rest := []) (lenOf pd__III_V rfl) rfl (by show 2 * 0 + _ ≤ _; exact Nat.le_of_eq rfl) (hb hby da_4) (fun _ _ => ⟨rfl, e0, (by decide : 0 + 0 ≤ _), (by decide : 0 + 0 ≤ _)⟩)
  dsimp only [Pt.U, Pt.locs, Pt.cells, Pt.slots] at X2 l2 y2 z2 st2 hQ2
  subst l2 y2 z2
  obtain ⟨rfl, Nq2, eq2⟩ := hQ2
  have N2 := Fr.app N0 Nq2
  obtain ⟨cl3, Ar3, q3, S3, M3, HH3, GG3⟩ := id V_o0
  have hin3 : ¬ ((0 : Int32) < 0 ∨ cl3.slots.size ≤ ((0 : Int32)).toNatClampNeg) := inb_of S3 ⟨by decide, by decide⟩
  obtain ⟨T4, h4, X4, e4, W4, st4⟩ := stJ X2 hx hZ eq2 Ar3 (j := (0 : Int32)) hin3 (g := (mkF m 20 #[vr o0, vi 0, vi 1, vl 0, sd, vi 0] [(.long (0 : Int64)), (.int (0 : Int32)), (.ref o0)])) rfl rfl (hb hby da_20)
  have N4 := Fr.snoc X4 N2 g_o0
  have Z4 : n0 ≤ h4.size := by rw [W4.size]; exact Z0
  have K4 : Keep h0 h4 [o0] := ((Keep.refl h0 [o0]).wr W4 (Or.inl (List.mem_of_getElem? (i := 0) rfl)))
  have V4 := Arv.set Ar3 q3 S3 M3 HH3 GG3 rfl W4 0 rfl (Nat.le_of_ble_eq_true rfl)
  subst hEN
  obtain ⟨lfs, lhr, lhrun, lhended, lhW, lhsame⟩ := X4.leave (v := none) (fun _ => rfl)
  refine ⟨_, _, pre0 _ ?_, lhrun, lhended, _, _, rfl, ?_, ⟨_, rfl⟩, lhW, lhsame.mono (by decide) (by decide)⟩
  · skip
    refine XS.aloadN X0.here hx rfl (hb hby da_0) rfl rfl ?_
    refine X0.arraylength hx (by (try rw [e0]); exact Ar1.1) (State.isArrayOf_alike hZ.alike Ar1.2.1) (g := (mkF m 1 #[vr o0, vi 0, vi 1, vl 0, sd, un] [(.ref o0)])) rfl rfl (hb hby da_1) _ ?_
    rw [len_of S1 M1]
    refine XS.iloadN X0.here hx rfl (hb hby da_2) rfl ?_
    refine XS.iloadN X0.here hx rfl (hb hby da_3) rfl ?_
    refine st2 _ ?_
    refine XS.iloadN X2.here hx rfl (hb hby da_7) rfl ?_
    refine XS.istore X2.here hx rfl (hb hby da_8) rfl (l' := #[vr o0, vi 0, vi 1, vl 0, sd, vi 0]) rfl ?_
    refine XS.iload X2.here hx rfl (hb hby da_10) rfl ?_
    refine XS.iloadN X2.here hx rfl (hb hby da_12) rfl ?_
    refine XS.icmpNo X2.here hx rfl (hb hby da_13) rfl (tlt (by decide : (0 : Int32) < (1 : Int32))).2.1 ?_
    refine XS.aloadN X2.here hx rfl (hb hby da_16) rfl rfl ?_
    refine XS.iload X2.here hx rfl (hb hby da_17) rfl ?_
    refine XS.lloadN X2.here hx rfl (hb hby da_19) rfl ?_
    show SS p e below T2 (mkF m 20 #[vr o0, vi 0, vi 1, vl 0, sd, vi 0] [(.long (0 : Int64)), (.int (0 : Int32)), (.ref o0)]) _
    refine st4 _ ?_
    refine XS.iinc X4.here hx rfl (hb hby da_21) rfl (l' := #[vr o0, vi 0, vi 1, vl 0, sd, vi 1]) rfl ?_
    refine XS.goto X4.here hx rfl (pc0 := 24) (pc' := 10) rfl (hb hby da_24) (by decide) (by decide) ?_
    refine XS.iload X4.here hx rfl (hb hby da_10) rfl ?_
    refine XS.iloadN X4.here hx rfl (hb hby da_12) rfl ?_
    refine XS.icmpYes X4.here hx rfl (pc0 := 13) (pc' := 27) rfl (hb hby da_13) rfl (flt (by decide : ¬ ((1 : Int32) < (1 : Int32)))).2.1 (by decide) (by decide) ?_
    show SS p e below T4 (mkF m 27 #[vr o0, vi 0, vi 1, vl 0, sd, vi 1] []) _
    exact X4.returnOut hx Bd.returns (hb hby da_27) lhr
  · skip
    show QA63 Z o0 y1 kk_o0 h0 n0 _ T4.heap _
    rw [e4]
    exact ⟨rfl, N4, K4, V4⟩
def QA58 (Z : State) (o0 : Addr) (y1 : Int64) (o2 : Addr) (y3 : Int64) (kk_o2 : ClassId) (o4 : Addr) (y5 : Int64) (kk_o4 : ClassId) (o6 : Addr) (kk_o6 : ClassId) (h0 : Heap) (n0 : Nat) (v : Option Value) (h : Heap) (L : List Loc) : Prop := ∃ (b10_0 : Addr) (b23_0 : Addr) (b37_0 : Addr) (kk_b10_0 : ClassId) (kk_b23_0 : ClassId) (kk_b37_0 : ClassId), v = some (.int (0 : Int32)) ∧ Fr n0 L ∧ Keep h0 h [o0] ∧ h0.size ≤ b10_0 ∧ h0.size ≤ b23_0 ∧ h0.size ≤ b37_0 ∧ b10_0 ≠ b23_0 ∧ b10_0 ≠ b37_0 ∧ b23_0 ≠ b37_0 ∧ Fld Z h o0 cn2 "end" "I" (.int (2 : Int32)) ∧ Fld Z h o0 cn2 "starts" "[J" (.ref b10_0) ∧ Fld Z h o0 cn2 "first" "I" (.int (0 : Int32)) ∧ Exa Z h o0 cn2 ∧ Arv Z h b10_0 kk_b10_0 .long (2 : Int32) [(.long y1), (.long y3)] (.long (0 : Int64)) ∧ Fld Z h o0 cn2 "records" "[J" (.ref b23_0) ∧ Fld Z h o0 cn2 "width" "I" (.int (1 : Int32)) ∧ Arv Z h b23_0 kk_b23_0 .long (2 : Int32) [(.long (0 : Int64)), (.long y5)] (.long (0 : Int64)) ∧ Fld Z h o0 cn2 "decidedAt" "[J" (.ref b37_0) ∧ Arv Z h b37_0 kk_b37_0 .long (2 : Int32) [(.long (0 : Int64)), (.long (0 : Int64))] (.long (0 : Int64))
set_option maxRecDepth 65536 in
set_option maxHeartbeats 40000000 in
theorem rmA58 (l : Launch) (Z : State) (a0 : Array Value) (hw : ∀ d ∈ tables_1, d.before a0 Z = true) (ws : List Jvm.Cond) (o0 : Addr) (y1 : Int64) (o2 : Addr) (y3 : Int64) (kk_o2 : ClassId) (o4 : Addr) (y5 : Int64) (kk_o4 : ClassId) (o6 : Addr) (kk_o6 : ClassId) (h0 : Heap) (n0 : Nat) (Z0 : n0 ≤ h0.size) (F_o0_end : Fld Z h0 o0 cn2 "end" "I" (.int (1 : Int32))) (F_o0_starts : Fld Z h0 o0 cn2 "starts" "[J" (.ref o2)) (V_o2 : Arv Z h0 o2 kk_o2 .long (1 : Int32) [(.long y3)] (.long (0 : Int64))) (F_o0_first : Fld Z h0 o0 cn2 "first" "I" (.int (0 : Int32))) (E_o0 : Exa Z h0 o0 cn2) (g_o0 : n0 ≤ o0) (F_o0_records : Fld Z h0 o0 cn2 "records" "[J" (.ref o4)) (F_o0_width : Fld Z h0 o0 cn2 "width" "I" (.int (1 : Int32))) (V_o4 : Arv Z h0 o4 kk_o4 .long (1 : Int32) [(.long y5)] (.long (0 : Int64))) (ne_o4_o0 : o4 ≠ o0) (ne_o2_o0 : o2 ≠ o0) (F_o0_decidedAt : Fld Z h0 o0 cn2 "decidedAt" "[J" (.ref o6)) (V_o6 : Arv Z h0 o6 kk_o6 .long (1 : Int32) [(.long (0 : Int64))] (.long (0 : Int64))) (ne_o6_o0 : o6 ≠ o0) :
    MetFree l mn4 (head1 (Jvm.Cond.code mn4 prog_23_method_7_code 7 (some .int) :: ws) ({ frames := 2, cells := 3, slots := 6, locals := 53 } : Room)) (fun a U => a = #[(.ref o0), (.int (0 : Int32)), (.long y1)] ∧ Z.Warmed39 U.vm ∧ U.heap = h0) (fun _ _ _ _ _ => True) (fun _ U oc_ U' => ∃ v L, oc_ = .returned v ∧ QA58 Z o0 y1 o2 y3 kk_o2 o4 y5 kk_o4 o6 kk_o6 h0 n0 v U'.heap L ∧ FrameEnd U oc_ U' L ({ frames := 2, cells := 3, slots := 6, locals := 53 } : Room).cells ({ frames := 2, cells := 3, slots := 6, locals := 53 } : Room).slots) := by
  refine MetFree.of_bodySF (plainFor_of_name pn_com_example_strict_limiter_strictlimiter_KeptWindows) hisR ?_
  intro p e s m args below meth c s₁ Bd hml0 hP hK
  obtain ⟨rfl, hZ, hh⟩ := hP
  have hx := Bd.exec
  have hby := Bd.bytes
  have hml : c.maxLocals = 7 := hml0
  have hown : s.vm.findClass cn2 = some m.cls := findClass_of_methodNamed Bd.named
  have hnm := (name_of_methodNamed Bd.named Bd.method).1
  have X0 : Stand p l e ({ frames := 2, cells := 3, slots := 6, locals := 53 } : Room) s m #[(.ref o0), (.int (0 : Int32)), (.long y1)] below meth c s₁ [] 0 0 := Stand.of_body Bd
  have e0 : s₁.heap = h0 := by rw [← hh, Bd.state]; rfl
  have N0 := Fr.nil n0
  have pre0 : ∀ t, SS p e below s₁ (mkF m 0 #[vr o0, vi 0, vl y1, sd, un, un, un] []) t → Steps p.tables e below (s₁.setTop (entryFrame m #[(.ref o0), (.int (0 : Int32)), (.long y1)] 7)) t := fun t k => castTop (efa_prog_23_method_7_code_vvv m o0 (0 : Int32) y1) k
  obtain ⟨EN, hEN⟩ : ∃ z, z = s₁.setTop (entryFrame m #[(.ref o0), (.int (0 : Int32)), (.long y1)] 7) := ⟨_, rfl⟩
  rw [← hEN] at pre0
  obtain ⟨T1, X1, e1, st1⟩ := getF X0 hx hZ hown (wf26 hw) Via.refl e0 F_o0_end (g := (mkF m 4 #[vr o0, vi 0, vl y1, sd, vi 0, un, un] [(.ref o0)])) rfl rfl (hb hby dn_4)
  obtain ⟨T2, X2, e2, st2⟩ := getF X1 hx hZ hown (wf11 hw) Via.refl e1 F_o0_starts (g := (mkF m 8 #[vr o0, vi 0, vl y1, sd, vi 0, un, un] [(.ref o0), (.int (1 : Int32))])) rfl rfl (hb hby dn_8)
  obtain ⟨cl3, Ar3, -, S3, M3, -, -⟩ := id V_o2
  obtain ⟨T4, X4, e4, st4⟩ := getF X2 hx hZ hown (wf26 hw) Via.refl e2 F_o0_end (g := (mkF m 16 #[vr o0, vi 0, vl y1, sd, vi 0, un, un] [(.ref o0)])) rfl rfl (hb hby dn_16)
  obtain ⟨T5, X5, e5, st5⟩ := getF X4 hx hZ hown (wf24 hw) Via.refl e4 F_o0_first (g := (mkF m 20 #[vr o0, vi 0, vl y1, sd, vi 0, un, un] [(.ref o0), (.int (1 : Int32))])) rfl rfl (hb hby dn_20)
  obtain ⟨T6, X6, e6, st6⟩ := getF X5 hx hZ hown (wf11 hw) Via.refl e5 F_o0_starts (g := (mkF m 29 #[vr o0, vi 0, vl y1, sd, vi 0, vi 1, un] [(.ref o0), (.int (1 : Int32))])) rfl rfl (hb hby dn_29)
  obtain ⟨cl7, Ar7, -, S7, M7, -, -⟩ := id V_o2
  obtain ⟨_, _, ⟨T8, L8, kc8, ks8⟩, -, X8, ⟨Lc8, hQ8, l8, y8, z8⟩, st8⟩ := Jvm.LawKit.callS X6 hx (y := mn7) hown (mvT hZ (wd49 hw)) (mvT hZ (wd50 hw)) (mvT hZ (wd51 hw)) (mvT hZ (wd52 hw)) (by decide) (backOf (W := 0) (rmA59 l Z a0 hw []  h0 n0 Z0 ) hZ (wd52 hw) (wd51 hw) (by decide) (by decide)) (g := (mkF m 41 #[vr o0, vi 0, vl y1, sd, vi 0, vi 1, un] [(.int (2 : Int32)), (.int (1 : Int32))])) rfl (by rw [hml]; rfl) (argsL := [(.int (1 : Int32)), (.int (2 : Int32))]) (rest := []) (lenOf pd__II_I rfl) rfl (by show 2 * 0 + _ ≤ _; exact Nat.le_of_eq rfl) (hb hby dn_41) (fun _ _ => ⟨rfl, e6, (by decide : 0 + 0 ≤ _), (by decide : 0 + 0 ≤ _)⟩)
  dsimp only [Pt.U, Pt.locs, Pt.cells, Pt.slots] at X8 l8 y8 z8 st8 hQ8
  subst l8 y8 z8
  obtain ⟨rfl, Nq8, eq8⟩ := hQ8
  have N8 := Fr.app N0 Nq8
  obtain ⟨T9, X9, e9, st9⟩ := getF X8 hx hZ hown (wf11 hw) Via.refl eq8 F_o0_starts (g := (mkF m 57 #[vr o0, vi 0, vl y1, sd, vi 0, vi 1, vi 2] [(.ref o0), (.ref o0), (.ref o0)])) rfl rfl (hb hby dn_57)
  obtain ⟨cq10, q10, q10'⟩ := E_o0.cell
  obtain ⟨_, _, ⟨T10, L10, kc10, ks10⟩, -, X10, ⟨Lc10, hQ10, l10, y10, z10⟩, st10⟩ := X9.privateBack hx (y := mn5) hown (mvT hZ (wd53 hw)) (mvT hZ (wd54 hw)) (own_selPriv (mvT hZ (wd1 hw)) (Cond.privateMethod_at (mvP hZ (wd55 hw) (args := #[]))) (mvT hZ (wd54 hw)) (by decide)) (Cond.privateMethod_at (mvP hZ (wd55 hw) (args := #[]))) (mvT hZ (wd56 hw)) (by decide) (backOf (W := 1) (rmA60 l Z a0 hw [] o0 o2 y3 _ h0 n0 Z0 F_o0_first F_o0_end V_o2) hZ (wd56 hw) (wd2 hw) (by decide) (by decide)) (g := (mkF m 63 #[vr o0, vi 0, vl y1, sd, vi 0, vi 1, vi 2] [(.int (2 : Int32)), (.int (1 : Int32)), (.ref o2), (.ref o0), (.ref o0)])) rfl (by rw [hml]; rfl) (Steps.refl _) (a := o0) (by rw [e9]; exact q10) q10' (argsL := [(.ref o2), (.int (1 : Int32)), (.int (2 : Int32))]) (rest := [(.ref o0)]) (lenOf pd___JII__J rfl) rfl (by show 2 * 0 + _ ≤ _; exact Nat.le_of_eq rfl) (hb hby dn_63) (fun _ _ => ⟨rfl, e9, (by decide : 0 + 1 ≤ _), (by decide : 0 + 2 ≤ _)⟩)
  dsimp only [Pt.U, Pt.locs, Pt.cells, Pt.slots] at X10 l10 y10 z10 st10 hQ10
  subst l10 y10 z10
  obtain ⟨b10_0, kv10_1, rfl, Nq10, Kq10, sz10_0, g10_0⟩ := hQ10
  have N10 := Fr.app N8 Nq10
  have Z10 := Nat.le_trans Z0 Kq10.1
  have K10 : Keep h0 T10.heap [o0] := Keep.trans (Keep.refl h0 [o0]) Kq10 all0
  have ne_o0_b10_0 := own_ne F_o0_end.lt sz10_0
  have ne_o2_b10_0 := own_ne V_o2.lt sz10_0
  have ge_b10_0 := Nat.le_trans Z0 sz10_0
  have sz_b10_0 : h0.size ≤ b10_0 := Nat.le_trans (Nat.le_refl _) sz10_0
  have f11 := (E_o0.keep Kq10)
  have f12 := (F_o0_starts.keep Kq10 nin0)
  obtain ⟨T13, h13, X13, e13, W13, st13⟩ := putF X10 hx hZ hown (wf11 hw) Via.refl rfl f12 f11 (Or.inl (wd12 hw)) (wd1 hw) (ty := (.array .long)) (by decide) rfl rfl (g := (mkF m 66 #[vr o0, vi 0, vl y1, sd, vi 0, vi 1, vi 2] [(.ref b10_0), (.ref o0)])) rfl rfl (hb hby dn_66)
  have N13 := Fr.snoc X13 N10 g_o0
  have Z13 : n0 ≤ h13.size := by rw [W13.size]; exact Z10
  have K13 := (K10.wr W13 (Or.inl (List.mem_of_getElem? (i := 0) rfl)))
  have Fw13 := f12.same W13
  have f14 := ((F_o0_records.keep Kq10 nin0).other W13 (Or.inr (sn5 hw)))
  obtain ⟨T15, X15, e15, st15⟩ := getF X13 hx hZ hown (wf13 hw) Via.refl e13 f14 (g := (mkF m 72 #[vr o0, vi 0, vl y1, sd, vi 0, vi 1, vi 2] [(.ref o0), (.ref o0), (.ref o0)])) rfl rfl (hb hby dn_72)
  have f16 := ((F_o0_width.keep Kq10 nin0).other W13 (Or.inr (sn25 hw)))
  obtain ⟨T17, X17, e17, st17⟩ := getF X15 hx hZ hown (wf17 hw) Via.refl e15 f16 (g := (mkF m 76 #[vr o0, vi 0, vl y1, sd, vi 0, vi 1, vi 2] [(.ref o0), (.ref o4), (.ref o0), (.ref o0)])) rfl rfl (hb hby dn_76)
  have f18 := ((F_o0_first.keep Kq10 nin0).other W13 (Or.inr (sn15 hw)))
  have f19 := ((F_o0_end.keep Kq10 nin0).other W13 (Or.inr (sn20 hw)))
  have f20 := ((V_o4.keep Kq10 nin0).other W13 ne_o4_o0)
  have f21 := ((V_o2.keep Kq10 nin0).other W13 ne_o2_o0)
  have f22 := (g10_0.other W13 (Ne.symm ne_o0_b10_0))
  have f24 := (f11.wr W13)
  obtain ⟨cq23, q23, q23'⟩ := f24.cell
  obtain ⟨_, _, ⟨T23, L23, kc23, ks23⟩, -, X23, ⟨Lc23, hQ23, l23, y23, z23⟩, st23⟩ := X17.privateBack hx (y := mn5) hown (mvT hZ (wd53 hw)) (mvT hZ (wd54 hw)) (own_selPriv (mvT hZ (wd1 hw)) (Cond.privateMethod_at (mvP hZ (wd55 hw) (args := #[]))) (mvT hZ (wd54 hw)) (by decide)) (Cond.privateMethod_at (mvP hZ (wd55 hw) (args := #[]))) (mvT hZ (wd56 hw)) (by decide) (backOf (W := 1) (rmA60 l Z a0 hw [] o0 o4 y5 _ h13 n0 Z13 f18 f19 f20) hZ (wd56 hw) (wd2 hw) (by decide) (by decide)) (g := (mkF m 81 #[vr o0, vi 0, vl y1, sd, vi 0, vi 1, vi 2] [(.int (2 : Int32)), (.int (1 : Int32)), (.ref o4), (.ref o0), (.ref o0)])) rfl (by rw [hml]; rfl) (Steps.refl _) (a := o0) (by rw [e17]; exact q23) q23' (argsL := [(.ref o4), (.int (1 : Int32)), (.int (2 : Int32))]) (rest := [(.ref o0)]) (lenOf pd___JII__J rfl) rfl (by show 2 * 0 + _ ≤ _; exact Nat.le_of_eq rfl) (hb hby dn_81) (fun _ _ => ⟨rfl, e17, (by decide : 1 + 1 ≤ _), (by decide : 2 + 2 ≤ _)⟩)
  dsimp only [Pt.U, Pt.locs, Pt.cells, Pt.slots] at X23 l23 y23 z23 st23 hQ23
  subst l23 y23 z23
  obtain ⟨b23_0, kv23_1, rfl, Nq23, Kq23, sz23_0, g23_0⟩ := hQ23
  have N23 := Fr.app N13 Nq23
  have Z23 := Nat.le_trans Z13 Kq23.1
  have K23 := Keep.trans K13 Kq23 all0
  have ne_o0_b23_0 := own_ne f19.lt sz23_0
  have ne_o2_b23_0 := own_ne f21.lt sz23_0
  have ne_b10_0_b23_0 := own_ne f22.lt sz23_0
  have ne_o4_b23_0 := own_ne f20.lt sz23_0
  have ge_b23_0 := Nat.le_trans Z13 sz23_0
  have sz_b23_0 := Nat.le_trans K13.1 sz23_0
  have f25 := (f24.keep Kq23)
  have f26 := (f14.keep Kq23 nin0)
  obtain ⟨T27, h27, X27, e27, W27, st27⟩ := putF X23 hx hZ hown (wf13 hw) Via.refl rfl f26 f25 (Or.inl (wd14 hw)) (wd1 hw) (ty := (.array .long)) (by decide) rfl rfl (g := (mkF m 84 #[vr o0, vi 0, vl y1, sd, vi 0, vi 1, vi 2] [(.ref b23_0), (.ref o0)])) rfl rfl (hb hby dn_84)
  have N27 := Fr.snoc X27 N23 g_o0
  have Z27 : n0 ≤ h27.size := by rw [W27.size]; exact Z23
  have K27 := (K23.wr W27 (Or.inl (List.mem_of_getElem? (i := 0) rfl)))
  have Fw27 := f26.same W27
  have f28 := ((((F_o0_decidedAt.keep Kq10 nin0).other W13 (Or.inr (sn10 hw))).keep Kq23 nin0).other W27 (Or.inr (sn11 hw)))
  obtain ⟨T29, X29, e29, st29⟩ := getF X27 hx hZ hown (wf15 hw) Via.refl e27 f28 (g := (mkF m 90 #[vr o0, vi 0, vl y1, sd, vi 0, vi 1, vi 2] [(.ref o0), (.ref o0), (.ref o0)])) rfl rfl (hb hby dn_90)
  have f30 := ((f18.keep Kq23 nin0).other W27 (Or.inr (sn16 hw)))
  have f31 := ((f19.keep Kq23 nin0).other W27 (Or.inr (sn21 hw)))
  have f32 := ((((V_o6.keep Kq10 nin0).other W13 ne_o6_o0).keep Kq23 nin0).other W27 ne_o6_o0)
  have f33 := ((f21.keep Kq23 nin0).other W27 ne_o2_o0)
  have f34 := ((f22.keep Kq23 nin0).other W27 (Ne.symm ne_o0_b10_0))
  have f35 := ((f20.keep Kq23 nin0).other W27 ne_o4_o0)
  have f36 := (g23_0.other W27 (Ne.symm ne_o0_b23_0))
  have f38 := (f25.wr W27)
  obtain ⟨cq37, q37, q37'⟩ := f38.cell
  obtain ⟨_, _, ⟨T37, L37, kc37, ks37⟩, -, X37, ⟨Lc37, hQ37, l37, y37, z37⟩, st37⟩ := X29.privateBack hx (y := mn5) hown (mvT hZ (wd53 hw)) (mvT hZ (wd54 hw)) (own_selPriv (mvT hZ (wd1 hw)) (Cond.privateMethod_at (mvP hZ (wd55 hw) (args := #[]))) (mvT hZ (wd54 hw)) (by decide)) (Cond.privateMethod_at (mvP hZ (wd55 hw) (args := #[]))) (mvT hZ (wd56 hw)) (by decide) (backOf (W := 1) (rmA62 l Z a0 hw [] o0 o6 _ h27 n0 Z27 f30 f31 f32) hZ (wd56 hw) (wd2 hw) (by decide) (by decide)) (g := (mkF m 96 #[vr o0, vi 0, vl y1, sd, vi 0, vi 1, vi 2] [(.int (2 : Int32)), (.int (1 : Int32)), (.ref o6), (.ref o0), (.ref o0)])) rfl (by rw [hml]; rfl) (Steps.refl _) (a := o0) (by rw [e29]; exact q37) q37' (argsL := [(.ref o6), (.int (1 : Int32)), (.int (2 : Int32))]) (rest := [(.ref o0)]) (lenOf pd___JII__J rfl) rfl (by show 2 * 0 + _ ≤ _; exact Nat.le_of_eq rfl) (hb hby dn_96) (fun _ _ => ⟨rfl, e29, (by decide : 2 + 1 ≤ _), (by decide : 4 + 2 ≤ _)⟩)
  dsimp only [Pt.U, Pt.locs, Pt.cells, Pt.slots] at X37 l37 y37 z37 st37 hQ37
  subst l37 y37 z37
  obtain ⟨b37_0, kv37_1, rfl, Nq37, Kq37, sz37_0, g37_0⟩ := hQ37
  have N37 := Fr.app N27 Nq37
  have Z37 := Nat.le_trans Z27 Kq37.1
  have K37 := Keep.trans K27 Kq37 all0
  have ne_o0_b37_0 := own_ne f31.lt sz37_0
  have ne_o2_b37_0 := own_ne f33.lt sz37_0
  have ne_b10_0_b37_0 := own_ne f34.lt sz37_0
  have ne_o4_b37_0 := own_ne f35.lt sz37_0
  have ne_b23_0_b37_0 := own_ne f36.lt sz37_0
  have ne_o6_b37_0 := own_ne f32.lt sz37_0
  have ge_b37_0 := Nat.le_trans Z27 sz37_0
  have sz_b37_0 := Nat.le_trans K27.1 sz37_0
  have f39 := (f38.keep Kq37)
  have f40 := (f28.keep Kq37 nin0)
  obtain ⟨T41, h41, X41, e41, W41, st41⟩ := putF X37 hx hZ hown (wf15 hw) Via.refl rfl f40 f39 (Or.inl (wd16 hw)) (wd1 hw) (ty := (.array .long)) (by decide) rfl rfl (g := (mkF m 99 #[vr o0, vi 0, vl y1, sd, vi 0, vi 1, vi 2] [(.ref b37_0), (.ref o0)])) rfl rfl (hb hby dn_99)
  have N41 := Fr.snoc X41 N37 g_o0
  have Z41 : n0 ≤ h41.size := by rw [W41.size]; exact Z37
  have K41 := (K37.wr W41 (Or.inl (List.mem_of_getElem? (i := 0) rfl)))
  have Fw41 := f40.same W41
  have f42 := ((f30.keep Kq37 nin0).other W41 (Or.inr (sn17 hw)))
  obtain ⟨T43, X43, e43, st43⟩ := getF X41 hx hZ hown (wf24 hw) Via.refl e41 f42 (g := (mkF m 105 #[vr o0, vi 0, vl y1, sd, vi 0, vi 1, vi 2] [(.ref o0), (.int (0 : Int32))])) rfl rfl (hb hby dn_105)
  have f44 := (f39.wr W41)
  obtain ⟨T45, h45, X45, e45, W45, st45⟩ := putF X43 hx hZ hown (wf24 hw) Via.refl e43 f42 f44 (Or.inl (wd25 hw)) (wd1 hw) (ty := .int) (by decide) rfl rfl (g := (mkF m 113 #[vr o0, vi 0, vl y1, sd, vi 0, vi 1, vi 2] [(.int (0 : Int32)), (.ref o0)])) rfl rfl (hb hby dn_113)
  have N45 := Fr.snoc X45 N41 g_o0
  have Z45 : n0 ≤ h45.size := by rw [W45.size]; exact Z41
  have K45 := (K41.wr W45 (Or.inl (List.mem_of_getElem? (i := 0) rfl)))
  have Fw45 := f42.same W45
  have f46 := (f44.wr W45)
  have f47 := (((f31.keep Kq37 nin0).other W41 (Or.inr (sn22 hw))).other W45 (Or.inr (sn23 hw)))
  obtain ⟨T48, h48, X48, e48, W48, st48⟩ := putF X45 hx hZ hown (wf26 hw) Via.refl e45 f47 f46 (Or.inl (wd27 hw)) (wd1 hw) (ty := .int) (by decide) rfl rfl (g := (mkF m 119 #[vr o0, vi 0, vl y1, sd, vi 0, vi 1, vi 2] [(.int (1 : Int32)), (.ref o0)])) rfl rfl (hb hby dn_119)
  have N48 := Fr.snoc X48 N45 g_o0
  have Z48 : n0 ≤ h48.size := by rw [W48.size]; exact Z45
  have K48 := (K45.wr W48 (Or.inl (List.mem_of_getElem? (i := 0) rfl)))
  have Fw48 := f47.same W48
  have f49 := ((((((Fw13.keep Kq23 nin0).other W27 (Or.inr (sn0 hw))).keep Kq37 nin0).other W41 (Or.inr (sn1 hw))).other W45 (Or.inr (sn2 hw))).other W48 (Or.inr (sn3 hw)))
  obtain ⟨T50, X50, e50, st50⟩ := getF X48 hx hZ hown (wf11 hw) Via.refl e48 f49 (g := (mkF m 123 #[vr o0, vi 0, vl y1, sd, vi 0, vi 1, vi 2] [(.ref o0)])) rfl rfl (hb hby dn_123)
  obtain ⟨T51, X51, e51, st51⟩ := getF X50 hx hZ hown (wf11 hw) Via.refl e50 f49 (g := (mkF m 129 #[vr o0, vi 0, vl y1, sd, vi 0, vi 1, vi 2] [(.ref o0), (.int (0 : Int32)), (.ref b10_0)])) rfl rfl (hb hby dn_129)
  obtain ⟨T52, X52, e52, st52⟩ := getF X51 hx hZ hown (wf26 hw) Via.refl e51 Fw48 (g := (mkF m 137 #[vr o0, vi 0, vl y1, sd, vi 0, vi 1, vi 2] [(.ref o0), (.int (1 : Int32)), (.ref b10_0), (.int (0 : Int32)), (.ref b10_0)])) rfl rfl (hb hby dn_137)
  have f53 := ((((f34.keep Kq37 nin0).other W41 (Ne.symm ne_o0_b10_0)).other W45 (Ne.symm ne_o0_b10_0)).other W48 (Ne.symm ne_o0_b10_0))
  obtain ⟨T54, h54, Lq54, X54, e54, Nq54, Kq54, Vq54, st54⟩ := cpA X52 hx hZ hown (wd58 hw) (wd61 hw) (wd59 hw) (wd60 hw) e52 (us := [(.long y3)]) f53 f53 (Or.inl ⟨rfl, rfl⟩) (by decide) (by decide) (by decide) (by first | decide | exact Nat.le_of_ble_eq_true rfl) (by first | decide | exact Nat.le_of_ble_eq_true rfl) (by rfl) (by first | decide | exact Nat.le_of_ble_eq_true rfl) N48 ge_b10_0 (g := (mkF m 143 #[vr o0, vi 0, vl y1, sd, vi 0, vi 1, vi 2] [(.int (1 : Int32)), (.int (1 : Int32)), (.ref b10_0), (.int (0 : Int32)), (.ref b10_0)])) rfl (by rw [hml]; rfl) rfl (hb hby dn_143) (by decide) (W := 0) (by show 2 * 0 + _ ≤ _; exact Nat.le_of_eq rfl) (by decide)
  have Z54 := Nat.le_trans Z48 Kq54.1
  have K54 := Keep.trans K48 Kq54 (allS (Or.inr sz_b10_0) all0)
  have V54 : Arv Z h54 b10_0 _ .long (2 : Int32) [(.long y3), (.long y3)] (.long (0 : Int64)) := Vq54
  have f55 := (((((Fw27.keep Kq37 nin0).other W41 (Or.inr (sn6 hw))).other W45 (Or.inr (sn7 hw))).other W48 (Or.inr (sn8 hw))).keep Kq54 (ninS ne_o0_b10_0 nin0))
  obtain ⟨T56, X56, e56, st56⟩ := getF X54 hx hZ hown (wf13 hw) Via.refl e54 f55 (g := (mkF m 147 #[vr o0, vi 0, vl y1, sd, vi 0, vi 1, vi 2] [(.ref o0)])) rfl rfl (hb hby dn_147)
  have f57 := (((((((f16.keep Kq23 nin0).other W27 (Or.inr (sn26 hw))).keep Kq37 nin0).other W41 (Or.inr (sn27 hw))).other W45 (Or.inr (sn28 hw))).other W48 (Or.inr (sn29 hw))).keep Kq54 (ninS ne_o0_b10_0 nin0))
  obtain ⟨T58, X58, e58, st58⟩ := getF X56 hx hZ hown (wf17 hw) Via.refl e56 f57 (g := (mkF m 153 #[vr o0, vi 0, vl y1, sd, vi 0, vi 1, vi 2] [(.ref o0), (.int (0 : Int32)), (.ref b23_0)])) rfl rfl (hb hby dn_153)
  obtain ⟨T59, X59, e59, st59⟩ := getF X58 hx hZ hown (wf13 hw) Via.refl e58 f55 (g := (mkF m 158 #[vr o0, vi 0, vl y1, sd, vi 0, vi 1, vi 2] [(.ref o0), (.int (0 : Int32)), (.ref b23_0)])) rfl rfl (hb hby dn_158)
  obtain ⟨T60, X60, e60, st60⟩ := getF X59 hx hZ hown (wf17 hw) Via.refl e59 f57 (g := (mkF m 166 #[vr o0, vi 0, vl y1, sd, vi 0, vi 1, vi 2] [(.ref o0), (.int (1 : Int32)), (.ref b23_0), (.int (0 : Int32)), (.ref b23_0)])) rfl rfl (hb hby dn_166)
  have f61 := (Fw48.keep Kq54 (ninS ne_o0_b10_0 nin0))
  obtain ⟨T62, X62, e62, st62⟩ := getF X60 hx hZ hown (wf26 hw) Via.refl e60 f61 (g := (mkF m 171 #[vr o0, vi 0, vl y1, sd, vi 0, vi 1, vi 2] [(.ref o0), (.int (1 : Int32)), (.ref b23_0), (.int (0 : Int32)), (.ref b23_0)])) rfl rfl (hb hby dn_171)
  obtain ⟨T63, X63, e63, st63⟩ := getF X62 hx hZ hown (wf17 hw) Via.refl e62 f57 (g := (mkF m 178 #[vr o0, vi 0, vl y1, sd, vi 0, vi 1, vi 2] [(.ref o0), (.int (1 : Int32)), (.int (1 : Int32)), (.ref b23_0), (.int (0 : Int32)), (.ref b23_0)])) rfl rfl (hb hby dn_178)
  have f64 := (((((f36.keep Kq37 nin0).other W41 (Ne.symm ne_o0_b23_0)).other W45 (Ne.symm ne_o0_b23_0)).other W48 (Ne.symm ne_o0_b23_0)).keep Kq54 (ninS (Ne.symm ne_b10_0_b23_0) nin0))
  obtain ⟨T65, h65, Lq65, X65, e65, Nq65, Kq65, Vq65, st65⟩ := cpA X63 hx hZ hown (wd58 hw) (wd61 hw) (wd59 hw) (wd60 hw) e63 (us := [(.long y5)]) f64 f64 (Or.inl ⟨rfl, rfl⟩) (by decide) (by decide) (by decide) (by first | decide | exact Nat.le_of_ble_eq_true rfl) (by first | decide | exact Nat.le_of_ble_eq_true rfl) (by rfl) (by first | decide | exact Nat.le_of_ble_eq_true rfl) Nq54 ge_b23_0 (g := (mkF m 182 #[vr o0, vi 0, vl y1, sd, vi 0, vi 1, vi 2] [(.int (1 : Int32)), (.int (1 : Int32)), (.ref b23_0), (.int (0 : Int32)), (.ref b23_0)])) rfl (by rw [hml]; rfl) rfl (hb hby dn_182) (by decide) (W := 0) (by show 2 * 0 + _ ≤ _; exact Nat.le_of_eq rfl) (by decide)
  have Z65 := Nat.le_trans Z54 Kq65.1
  have K65 := Keep.trans K54 Kq65 (allS (Or.inr sz_b23_0) all0)
  have V65 : Arv Z h65 b23_0 _ .long (2 : Int32) [(.long y5), (.long y5)] (.long (0 : Int64)) := Vq65
  have f66 := ((((Fw41.other W45 (Or.inr (sn12 hw))).other W48 (Or.inr (sn13 hw))).keep Kq54 (ninS ne_o0_b10_0 nin0)).keep Kq65 (ninS ne_o0_b23_0 nin0))
  obtain ⟨T67, X67, e67, st67⟩ := getF X65 hx hZ hown (wf15 hw) Via.refl e65 f66 (g := (mkF m 186 #[vr o0, vi 0, vl y1, sd, vi 0, vi 1, vi 2] [(.ref o0)])) rfl rfl (hb hby dn_186)
  obtain ⟨T68, X68, e68, st68⟩ := getF X67 hx hZ hown (wf15 hw) Via.refl e67 f66 (g := (mkF m 192 #[vr o0, vi 0, vl y1, sd, vi 0, vi 1, vi 2] [(.ref o0), (.int (0 : Int32)), (.ref b37_0)])) rfl rfl (hb hby dn_192)
  have f69 := (f61.keep Kq65 (ninS ne_o0_b23_0 nin0))
  obtain ⟨T70, X70, e70, st70⟩ := getF X68 hx hZ hown (wf26 hw) Via.refl e68 f69 (g := (mkF m 200 #[vr o0, vi 0, vl y1, sd, vi 0, vi 1, vi 2] [(.ref o0), (.int (1 : Int32)), (.ref b37_0), (.int (0 : Int32)), (.ref b37_0)])) rfl rfl (hb hby dn_200)
  have f71 := (((((g37_0.other W41 (Ne.symm ne_o0_b37_0)).other W45 (Ne.symm ne_o0_b37_0)).other W48 (Ne.symm ne_o0_b37_0)).keep Kq54 (ninS (Ne.symm ne_b10_0_b37_0) nin0)).keep Kq65 (ninS (Ne.symm ne_b23_0_b37_0) nin0))
  obtain ⟨T72, h72, Lq72, X72, e72, Nq72, Kq72, Vq72, st72⟩ := cpA X70 hx hZ hown (wd58 hw) (wd61 hw) (wd59 hw) (wd60 hw) e70 (us := [(.long (0 : Int64))]) f71 f71 (Or.inl ⟨rfl, rfl⟩) (by decide) (by decide) (by decide) (by first | decide | exact Nat.le_of_ble_eq_true rfl) (by first | decide | exact Nat.le_of_ble_eq_true rfl) (by rfl) (by first | decide | exact Nat.le_of_ble_eq_true rfl) Nq65 ge_b37_0 (g := (mkF m 206 #[vr o0, vi 0, vl y1, sd, vi 0, vi 1, vi 2] [(.int (1 : Int32)), (.int (1 : Int32)), (.ref b37_0), (.int (0 : Int32)), (.ref b37_0)])) rfl (by rw [hml]; rfl) rfl (hb hby dn_206) (by decide) (W := 0) (by show 2 * 0 + _ ≤ _; exact Nat.le_of_eq rfl) (by decide)
  have Z72 := Nat.le_trans Z65 Kq72.1
  have K72 := Keep.trans K65 Kq72 (allS (Or.inr sz_b37_0) all0)
  have V72 : Arv Z h72 b37_0 _ .long (2 : Int32) [(.long (0 : Int64)), (.long (0 : Int64))] (.long (0 : Int64)) := Vq72
  have f73 := (((f49.keep Kq54 (ninS ne_o0_b10_0 nin0)).keep Kq65 (ninS ne_o0_b23_0 nin0)).keep Kq72 (ninS ne_o0_b37_0 nin0))
  obtain ⟨T74, X74, e74, st74⟩ := getF X72 hx hZ hown (wf11 hw) Via.refl e72 f73 (g := (mkF m 210 #[vr o0, vi 0, vl y1, sd, vi 0, vi 1, vi 2] [(.ref o0)])) rfl rfl (hb hby dn_210)
  have f75 := ((V54.keep Kq65 (ninS ne_b10_0_b23_0 nin0)).keep Kq72 (ninS ne_b10_0_b37_0 nin0))
  obtain ⟨cl76, Ar76, q76, S76, M76, HH76, GG76⟩ := id f75
  have hin76 : ¬ ((0 : Int32) < 0 ∨ cl76.slots.size ≤ ((0 : Int32)).toNatClampNeg) := inb_of S76 ⟨by decide, by decide⟩
  obtain ⟨T77, h77, X77, e77, W77, st77⟩ := stJ X74 hx hZ e74 Ar76 (j := (0 : Int32)) hin76 (g := (mkF m 216 #[vr o0, vi 0, vl y1, sd, vi 0, vi 1, vi 2] [(.long y1), (.int (0 : Int32)), (.ref b10_0)])) rfl rfl (hb hby dn_216)
  have N77 := Fr.snoc X77 Nq72 ge_b10_0
  have Z77 : n0 ≤ h77.size := by rw [W77.size]; exact Z72
  have K77 := (K72.wr W77 (Or.inr sz_b10_0))
  have V77 := Arv.set Ar76 q76 S76 M76 HH76 GG76 rfl W77 0 rfl (Nat.le_of_ble_eq_true rfl)
  have f78 := (((f55.keep Kq65 (ninS ne_o0_b23_0 nin0)).keep Kq72 (ninS ne_o0_b37_0 nin0)).other W77 (Or.inl ne_o0_b10_0))
  obtain ⟨T79, X79, e79, st79⟩ := getF X77 hx hZ hown (wf13 hw) Via.refl e77 f78 (g := (mkF m 218 #[vr o0, vi 0, vl y1, sd, vi 0, vi 1, vi 2] [(.ref o0)])) rfl rfl (hb hby dn_218)
  have f80 := (((f57.keep Kq65 (ninS ne_o0_b23_0 nin0)).keep Kq72 (ninS ne_o0_b37_0 nin0)).other W77 (Or.inl ne_o0_b10_0))
  obtain ⟨T81, X81, e81, st81⟩ := getF X79 hx hZ hown (wf17 hw) Via.refl e79 f80 (g := (mkF m 224 #[vr o0, vi 0, vl y1, sd, vi 0, vi 1, vi 2] [(.ref o0), (.int (0 : Int32)), (.ref b23_0)])) rfl rfl (hb hby dn_224)
  obtain ⟨T82, X82, e82, st82⟩ := getF X81 hx hZ hown (wf17 hw) Via.refl e81 f80 (g := (mkF m 233 #[vr o0, vi 0, vl y1, sd, vi 0, vi 1, vi 2] [(.ref o0), (.int (1 : Int32)), (.int (0 : Int32)), (.ref b23_0)])) rfl rfl (hb hby dn_233)
  have f83 := ((V65.keep Kq72 (ninS ne_b23_0_b37_0 nin0)).other W77 (Ne.symm ne_b10_0_b23_0))
  obtain ⟨_, _, ⟨T84, L84, kc84, ks84⟩, -, X84, ⟨Lc84, hQ84, l84, y84, z84⟩, st84⟩ := Jvm.LawKit.callS X82 hx (y := mn12) hown (mvT hZ (wd62 hw)) (mvT hZ (wd63 hw)) (mvT hZ (wd37 hw)) (mvT hZ (wd64 hw)) (by decide) (backOf (W := 0) (rmA63 l Z a0 hw [] b23_0 y5 _ h77 n0 Z77 f83 ge_b23_0) hZ (wd64 hw) (wd37 hw) (by decide) (by decide)) (g := (mkF m 238 #[vr o0, vi 0, vl y1, sd, vi 0, vi 1, vi 2] [(.long (0 : Int64)), (.int (1 : Int32)), (.int (0 : Int32)), (.ref b23_0)])) rfl (by rw [hml]; rfl) (argsL := [(.ref b23_0), (.int (0 : Int32)), (.int (1 : Int32)), (.long (0 : Int64))]) (rest := []) (lenOf pd___JIIJ_V rfl) rfl (by show 2 * 0 + _ ≤ _; exact Nat.le_of_eq rfl) (hb hby dn_238) (fun _ _ => ⟨rfl, e82, (by decide : 3 + 0 ≤ _), (by decide : 6 + 0 ≤ _)⟩)
  dsimp only [Pt.U, Pt.locs, Pt.cells, Pt.slots] at X84 l84 y84 z84 st84 hQ84
  subst l84 y84 z84
  obtain ⟨rfl, Nq84, Kq84, g84_0⟩ := hQ84
  have N84 := Fr.app N77 Nq84
  have Z84 := Nat.le_trans Z77 Kq84.1
  have K84 := Keep.trans K77 Kq84 (allS (Or.inr sz_b23_0) all0)
  have f85 := (((f69.keep Kq72 (ninS ne_o0_b37_0 nin0)).other W77 (Or.inl ne_o0_b10_0)).keep Kq84 (ninS ne_o0_b23_0 nin0))
  obtain ⟨T86, X86, e86, st86⟩ := getF X84 hx hZ hown (wf26 hw) Via.refl rfl f85 (g := (mkF m 243 #[vr o0, vi 0, vl y1, sd, vi 0, vi 1, vi 2] [(.ref o0), (.ref o0)])) rfl rfl (hb hby dn_243)
  have f87 := ((((((f46.wr W48).keep Kq54).keep Kq65).keep Kq72).wr W77).keep Kq84)
  obtain ⟨T88, h88, X88, e88, W88, st88⟩ := putF X86 hx hZ hown (wf26 hw) Via.refl e86 f85 f87 (Or.inl (wd27 hw)) (wd1 hw) (ty := .int) (by decide) rfl rfl (g := (mkF m 248 #[vr o0, vi 0, vl y1, sd, vi 0, vi 1, vi 2] [(.int (2 : Int32)), (.ref o0)])) rfl rfl (hb hby dn_248)
  have N88 := Fr.snoc X88 N84 g_o0
  have Z88 : n0 ≤ h88.size := by rw [W88.size]; exact Z84
  have K88 := (K84.wr W88 (Or.inl (List.mem_of_getElem? (i := 0) rfl)))
  have Fw88 := f85.same W88
  have f89 := (((f73.other W77 (Or.inl ne_o0_b10_0)).keep Kq84 (ninS ne_o0_b23_0 nin0)).other W88 (Or.inr (sn3 hw)))
  have f90 := (((((((Fw45.other W48 (Or.inr (sn18 hw))).keep Kq54 (ninS ne_o0_b10_0 nin0)).keep Kq65 (ninS ne_o0_b23_0 nin0)).keep Kq72 (ninS ne_o0_b37_0 nin0)).other W77 (Or.inl ne_o0_b10_0)).keep Kq84 (ninS ne_o0_b23_0 nin0)).other W88 (Or.inr (sn18 hw)))
  have f91 := (f87.wr W88)
  have f92 := ((V77.keep Kq84 (ninS ne_b10_0_b23_0 nin0)).other W88 (Ne.symm ne_o0_b10_0))
  have f93 := ((f78.keep Kq84 (ninS ne_o0_b23_0 nin0)).other W88 (Or.inr (sn8 hw)))
  have f94 := ((f80.keep Kq84 (ninS ne_o0_b23_0 nin0)).other W88 (Or.inr (sn29 hw)))
  have f95 := (g84_0.other W88 (Ne.symm ne_o0_b23_0))
  have f96 := ((((f66.keep Kq72 (ninS ne_o0_b37_0 nin0)).other W77 (Or.inl ne_o0_b10_0)).keep Kq84 (ninS ne_o0_b23_0 nin0)).other W88 (Or.inr (sn13 hw)))
  have f97 := (((V72.other W77 (Ne.symm ne_b10_0_b37_0)).keep Kq84 (ninS (Ne.symm ne_b23_0_b37_0) nin0)).other W88 (Ne.symm ne_o0_b37_0))
  subst hEN
  obtain ⟨lfs, lhr, lhrun, lhended, lhW, lhsame⟩ := X88.leave (v := some (.int (0 : Int32))) (fun h => by rw [Bd.returns] at h; cases h)
  refine ⟨_, _, pre0 _ ?_, lhrun, lhended, _, _, rfl, ?_, ⟨_, rfl⟩, lhW, lhsame.mono (by decide) (by decide)⟩
  · skip
    refine XS.iloadN X0.here hx rfl (hb hby dn_0) rfl ?_
    refine XS.istore X0.here hx rfl (hb hby dn_1) rfl (l' := #[vr o0, vi 0, vl y1, sd, vi 0, un, un]) rfl ?_
    refine XS.aloadN X0.here hx rfl (hb hby dn_3) rfl rfl ?_
    refine st1 _ ?_
    refine XS.aloadN X1.here hx rfl (hb hby dn_7) rfl rfl ?_
    refine st2 _ ?_
    refine X2.arraylength hx (by (try rw [e2]); exact Ar3.1) (State.isArrayOf_alike hZ.alike Ar3.2.1) (g := (mkF m 11 #[vr o0, vi 0, vl y1, sd, vi 0, un, un] [(.ref o2), (.int (1 : Int32))])) rfl rfl (hb hby dn_11) _ ?_
    rw [len_of S3 M3]
    refine XS.icmpNo X2.here hx rfl (hb hby dn_12) rfl (teq (by decide : (1 : Int32) = (1 : Int32))).2 ?_
    refine XS.aloadN X2.here hx rfl (hb hby dn_15) rfl rfl ?_
    refine st4 _ ?_
    refine XS.aloadN X4.here hx rfl (hb hby dn_19) rfl rfl ?_
    refine st5 _ ?_
    refine XS.isub X5.here hx rfl (hb hby dn_23) rfl ?_
    refine XS.istore X5.here hx rfl (hb hby dn_24) rfl (l' := #[vr o0, vi 0, vl y1, sd, vi 0, vi 1, un]) rfl ?_
    refine XS.iload X5.here hx rfl (hb hby dn_26) rfl ?_
    refine XS.aloadN X5.here hx rfl (hb hby dn_28) rfl rfl ?_
    refine st6 _ ?_
    refine X6.arraylength hx (by (try rw [e6]); exact Ar7.1) (State.isArrayOf_alike hZ.alike Ar7.2.1) (g := (mkF m 32 #[vr o0, vi 0, vl y1, sd, vi 0, vi 1, un] [(.ref o2), (.int (1 : Int32))])) rfl rfl (hb hby dn_32) _ ?_
    rw [len_of S7 M7]
    refine XS.icmpNo X6.here hx rfl (hb hby dn_33) rfl (teq (by decide : (1 : Int32) = (1 : Int32))).2 ?_
    refine XS.iconst X6.here hx rfl (hb hby dn_36) ?_
    refine XS.iconst X6.here hx rfl (hb hby dn_37) ?_
    refine XS.iload X6.here hx rfl (hb hby dn_38) rfl ?_
    refine XS.imul X6.here hx rfl (hb hby dn_40) rfl ?_
    refine st8 _ ?_
    refine XS.goto X8.here hx rfl (pc0 := 44) (pc' := 52) rfl (hb hby dn_44) (by decide) (by decide) ?_
    refine XS.istore X8.here hx rfl (hb hby dn_52) rfl (l' := #[vr o0, vi 0, vl y1, sd, vi 0, vi 1, vi 2]) rfl ?_
    refine XS.aloadN X8.here hx rfl (hb hby dn_54) rfl rfl ?_
    refine XS.aloadN X8.here hx rfl (hb hby dn_55) rfl rfl ?_
    refine XS.aloadN X8.here hx rfl (hb hby dn_56) rfl rfl ?_
    refine st9 _ ?_
    refine XS.iconst X9.here hx rfl (hb hby dn_60) ?_
    refine XS.iload X9.here hx rfl (hb hby dn_61) rfl ?_
    refine st10.trans ?_
    refine st13 _ ?_
    refine XS.aloadN X13.here hx rfl (hb hby dn_69) rfl rfl ?_
    refine XS.aloadN X13.here hx rfl (hb hby dn_70) rfl rfl ?_
    refine XS.aloadN X13.here hx rfl (hb hby dn_71) rfl rfl ?_
    refine st15 _ ?_
    refine XS.aloadN X15.here hx rfl (hb hby dn_75) rfl rfl ?_
    refine st17 _ ?_
    refine XS.iload X17.here hx rfl (hb hby dn_79) rfl ?_
    refine st23.trans ?_
    refine st27 _ ?_
    refine XS.aloadN X27.here hx rfl (hb hby dn_87) rfl rfl ?_
    refine XS.aloadN X27.here hx rfl (hb hby dn_88) rfl rfl ?_
    refine XS.aloadN X27.here hx rfl (hb hby dn_89) rfl rfl ?_
    refine st29 _ ?_
    refine XS.iconst X29.here hx rfl (hb hby dn_93) ?_
    refine XS.iload X29.here hx rfl (hb hby dn_94) rfl ?_
    refine st37.trans ?_
    refine st41 _ ?_
    refine XS.iload X41.here hx rfl (hb hby dn_102) rfl ?_
    refine XS.aloadN X41.here hx rfl (hb hby dn_104) rfl rfl ?_
    refine st43 _ ?_
    refine XS.isub X43.here hx rfl (hb hby dn_108) rfl ?_
    refine XS.istore X43.here hx rfl (hb hby dn_109) rfl (l' := #[vr o0, vi 0, vl y1, sd, vi 0, vi 1, vi 2]) rfl ?_
    refine XS.aloadN X43.here hx rfl (hb hby dn_111) rfl rfl ?_
    refine XS.iconst X43.here hx rfl (hb hby dn_112) ?_
    refine st45 _ ?_
    refine XS.aloadN X45.here hx rfl (hb hby dn_116) rfl rfl ?_
    refine XS.iload X45.here hx rfl (hb hby dn_117) rfl ?_
    refine st48 _ ?_
    refine XS.aloadN X48.here hx rfl (hb hby dn_122) rfl rfl ?_
    refine st50 _ ?_
    refine XS.iload X50.here hx rfl (hb hby dn_126) rfl ?_
    refine XS.aloadN X50.here hx rfl (hb hby dn_128) rfl rfl ?_
    refine st51 _ ?_
    refine XS.iload X51.here hx rfl (hb hby dn_132) rfl ?_
    refine XS.iconst X51.here hx rfl (hb hby dn_134) ?_
    refine XS.iadd X51.here hx rfl (hb hby dn_135) rfl ?_
    refine XS.aloadN X51.here hx rfl (hb hby dn_136) rfl rfl ?_
    refine st52 _ ?_
    refine XS.iload X52.here hx rfl (hb hby dn_140) rfl ?_
    refine XS.isub X52.here hx rfl (hb hby dn_142) rfl ?_
    refine st54 _ ?_
    refine XS.aloadN X54.here hx rfl (hb hby dn_146) rfl rfl ?_
    refine st56 _ ?_
    refine XS.iload X56.here hx rfl (hb hby dn_150) rfl ?_
    refine XS.aloadN X56.here hx rfl (hb hby dn_152) rfl rfl ?_
    refine st58 _ ?_
    refine XS.imul X58.here hx rfl (hb hby dn_156) rfl ?_
    refine XS.aloadN X58.here hx rfl (hb hby dn_157) rfl rfl ?_
    refine st59 _ ?_
    refine XS.iload X59.here hx rfl (hb hby dn_161) rfl ?_
    refine XS.iconst X59.here hx rfl (hb hby dn_163) ?_
    refine XS.iadd X59.here hx rfl (hb hby dn_164) rfl ?_
    refine XS.aloadN X59.here hx rfl (hb hby dn_165) rfl rfl ?_
    refine st60 _ ?_
    refine XS.imul X60.here hx rfl (hb hby dn_169) rfl ?_
    refine XS.aloadN X60.here hx rfl (hb hby dn_170) rfl rfl ?_
    refine st62 _ ?_
    refine XS.iload X62.here hx rfl (hb hby dn_174) rfl ?_
    refine XS.isub X62.here hx rfl (hb hby dn_176) rfl ?_
    refine XS.aloadN X62.here hx rfl (hb hby dn_177) rfl rfl ?_
    refine st63 _ ?_
    refine XS.imul X63.here hx rfl (hb hby dn_181) rfl ?_
    refine st65 _ ?_
    refine XS.aloadN X65.here hx rfl (hb hby dn_185) rfl rfl ?_
    refine st67 _ ?_
    refine XS.iload X67.here hx rfl (hb hby dn_189) rfl ?_
    refine XS.aloadN X67.here hx rfl (hb hby dn_191) rfl rfl ?_
    refine st68 _ ?_
    refine XS.iload X68.here hx rfl (hb hby dn_195) rfl ?_
    refine XS.iconst X68.here hx rfl (hb hby dn_197) ?_
    refine XS.iadd X68.here hx rfl (hb hby dn_198) rfl ?_
    refine XS.aloadN X68.here hx rfl (hb hby dn_199) rfl rfl ?_
    refine st70 _ ?_
    refine XS.iload X70.here hx rfl (hb hby dn_203) rfl ?_
    refine XS.isub X70.here hx rfl (hb hby dn_205) rfl ?_
    refine st72 _ ?_
    refine XS.aloadN X72.here hx rfl (hb hby dn_209) rfl rfl ?_
    refine st74 _ ?_
    refine XS.iload X74.here hx rfl (hb hby dn_213) rfl ?_
    refine XS.lloadN X74.here hx rfl (hb hby dn_215) rfl ?_
    refine st77 _ ?_
    refine XS.aloadN X77.here hx rfl (hb hby dn_217) rfl rfl ?_
    refine st79 _ ?_
    refine XS.iload X79.here hx rfl (hb hby dn_221) rfl ?_
    refine XS.aloadN X79.here hx rfl (hb hby dn_223) rfl rfl ?_
    refine st81 _ ?_
    refine XS.imul X81.here hx rfl (hb hby dn_227) rfl ?_
    refine XS.iload X81.here hx rfl (hb hby dn_228) rfl ?_
    refine XS.iconst X81.here hx rfl (hb hby dn_230) ?_
    refine XS.iadd X81.here hx rfl (hb hby dn_231) rfl ?_
    refine XS.aloadN X81.here hx rfl (hb hby dn_232) rfl rfl ?_
    refine st82 _ ?_
    refine XS.imul X82.here hx rfl (hb hby dn_236) rfl ?_
    refine XS.lconst X82.here hx rfl (hb hby dn_237) ?_
    refine st84 _ ?_
    refine XS.aloadN X84.here hx rfl (hb hby dn_241) rfl rfl ?_
    refine XS.dup X84.here hx rfl (hb hby dn_242) rfl rfl ?_
    refine st86 _ ?_
    refine XS.iconst X86.here hx rfl (hb hby dn_246) ?_
    refine XS.iadd X86.here hx rfl (hb hby dn_247) rfl ?_
    refine st88 _ ?_
    refine XS.iload X88.here hx rfl (hb hby dn_251) rfl ?_
    show SS p e below T88 (mkF m 253 #[vr o0, vi 0, vl y1, sd, vi 0, vi 1, vi 2] [(.int (0 : Int32))]) _
    exact retI X88 hx Bd.returns (hb hby dn_253) lhr
  · skip
    show QA58 Z o0 y1 o2 y3 kk_o2 o4 y5 kk_o4 o6 kk_o6 h0 n0 _ T88.heap _
    rw [e88]
    exact ⟨b10_0, b23_0, b37_0, _, _, _, rfl, N88, K88, sz_b10_0, sz_b23_0, sz_b37_0, ne_b10_0_b23_0, ne_b10_0_b37_0, ne_b23_0_b37_0, Fw88, f89, f90, f91, f92, f93, f94, f95, f96, f97⟩
def QA65 (Z : State) (o0 : Addr) (y1 : Int64) (y2 : Int64) (kk_o0 : ClassId) (h0 : Heap) (n0 : Nat) (v : Option Value) (h : Heap) (L : List Loc) : Prop := v = none ∧ Fr n0 L ∧ Keep h0 h [o0] ∧ Arv Z h o0 kk_o0 .long (2 : Int32) [(.long ((0 : Int64) + y1)), (.long y2)] (.long (0 : Int64))
set_option maxRecDepth 65536 in
set_option maxHeartbeats 40000000 in
theorem rmA65 (l : Launch) (Z : State) (a0 : Array Value) (hw : ∀ d ∈ tables_1, d.before a0 Z = true) (ws : List Jvm.Cond) (o0 : Addr) (y1 : Int64) (y2 : Int64) (kk_o0 : ClassId) (h0 : Heap) (n0 : Nat) (Z0 : n0 ≤ h0.size) (V_o0 : Arv Z h0 o0 kk_o0 .long (2 : Int32) [(.long (0 : Int64)), (.long y2)] (.long (0 : Int64))) (g_o0 : n0 ≤ o0) :
    MetFree l mn6 (head1 (Jvm.Cond.code mn6 prog_59_method_3_code 9 none :: ws) ({ frames := 0, cells := 0, slots := 0, locals := 0 } : Room)) (fun a U => a = #[(.ref o0), (.int (0 : Int32)), (.int (1 : Int32)), (.long (0 : Int64)), (.long y1)] ∧ Z.Warmed39 U.vm ∧ U.heap = h0) (fun _ _ _ _ _ => True) (fun _ U oc_ U' => ∃ v L, oc_ = .returned v ∧ QA65 Z o0 y1 y2 kk_o0 h0 n0 v U'.heap L ∧ FrameEnd U oc_ U' L ({ frames := 0, cells := 0, slots := 0, locals := 0 } : Room).cells ({ frames := 0, cells := 0, slots := 0, locals := 0 } : Room).slots) := by
  refine MetFree.of_bodySF (plainFor_of_name pn_com_example_strict_limiter_strictlimiter_WindowRecord) hisR ?_
  intro p e s m args below meth c s₁ Bd hml0 hP hK
  obtain ⟨rfl, hZ, hh⟩ := hP
  have hx := Bd.exec
  have hby := Bd.bytes
  have hml : c.maxLocals = 9 := hml0
  have hown : s.vm.findClass cn1 = some m.cls := findClass_of_methodNamed Bd.named
  have hnm := (name_of_methodNamed Bd.named Bd.method).1
  have X0 : Stand p l e ({ frames := 0, cells := 0, slots := 0, locals := 0 } : Room) s m #[(.ref o0), (.int (0 : Int32)), (.int (1 : Int32)), (.long (0 : Int64)), (.long y1)] below meth c s₁ [] 0 0 := Stand.of_body Bd
  have e0 : s₁.heap = h0 := by rw [← hh, Bd.state]; rfl
  have N0 := Fr.nil n0
  have pre0 : ∀ t, SS p e below s₁ (mkF m 0 #[vr o0, vi 0, vi 1, vl 0, sd, vl y1, sd, un, un] []) t → Steps p.tables e below (s₁.setTop (entryFrame m #[(.ref o0), (.int (0 : Int32)), (.int (1 : Int32)), (.long (0 : Int64)), (.long y1)] 9)) t := fun t k => castTop (efa_prog_59_method_3_code_vvvvv m o0 (0 : Int32) (1 : Int32) (0 : Int64) y1) k
  obtain ⟨EN, hEN⟩ : ∃ z, z = s₁.setTop (entryFrame m #[(.ref o0), (.int (0 : Int32)), (.int (1 : Int32)), (.long (0 : Int64)), (.long y1)] 9) := ⟨_, rfl⟩
  rw [← hEN] at pre0
  obtain ⟨cl1, Ar1, q1, S1, M1, HH1, GG1⟩ := id V_o0
  have hin1 : ¬ ((0 : Int32) < 0 ∨ cl1.slots.size ≤ ((0 : Int32)).toNatClampNeg) := inb_of S1 ⟨by decide, by decide⟩
  have hat1 : cl1.slots[((0 : Int32)).toNatClampNeg]? = some (.long (0 : Int64)) := Has.at HH1 hin1 rfl
  obtain ⟨cl2, Ar2, q2, S2, M2, HH2, GG2⟩ := id V_o0
  have hin2 : ¬ ((0 : Int32) < 0 ∨ cl2.slots.size ≤ ((0 : Int32)).toNatClampNeg) := inb_of S2 ⟨by decide, by decide⟩
  obtain ⟨T3, h3, X3, e3, W3, st3⟩ := stJ X0 hx hZ e0 Ar2 (j := (0 : Int32)) hin2 (g := (mkF m 16 #[vr o0, vi 0, vi 1, vl 0, sd, vl y1, sd, vl 0, sd] [(.long ((0 : Int64) + y1)), (.int (0 : Int32)), (.ref o0)])) rfl rfl (hb hby db_16)
  have N3 := Fr.snoc X3 N0 g_o0
  have Z3 : n0 ≤ h3.size := by rw [W3.size]; exact Z0
  have K3 : Keep h0 h3 [o0] := ((Keep.refl h0 [o0]).wr W3 (Or.inl (List.mem_of_getElem? (i := 0) rfl)))
  have V3 := Arv.set Ar2 q2 S2 M2 HH2 GG2 rfl W3 0 rfl (Nat.le_of_ble_eq_true rfl)
  subst hEN
  obtain ⟨lfs, lhr, lhrun, lhended, lhW, lhsame⟩ := X3.leave (v := none) (fun _ => rfl)
  refine ⟨_, _, pre0 _ ?_, lhrun, lhended, _, _, rfl, ?_, ⟨_, rfl⟩, lhW, lhsame.mono (by decide) (by decide)⟩
  · skip
    refine XS.aloadN X0.here hx rfl (hb hby db_0) rfl rfl ?_
    refine XS.iloadN X0.here hx rfl (hb hby db_1) rfl ?_
    refine XS.iconst X0.here hx rfl (hb hby db_2) ?_
    refine XS.iadd X0.here hx rfl (hb hby db_3) rfl ?_
    refine X0.laload hx (j := (0 : Int32)) (v := (.long (0 : Int64))) (by (try rw [e0]); exact Ar1.1) (State.isArrayOf_alike hZ.alike Ar1.2.1) Ar1.2.2 hin1 hat1 (g := (mkF m 4 #[vr o0, vi 0, vi 1, vl 0, sd, vl y1, sd, un, un] [(.int (0 : Int32)), (.ref o0)])) rfl rfl (hb hby db_4) _ ?_
    refine XS.lstore X0.here hx rfl (hb hby db_5) rfl (l' := #[vr o0, vi 0, vi 1, vl 0, sd, vl y1, sd, vl 0, sd]) rfl ?_
    refine XS.aloadN X0.here hx rfl (hb hby db_7) rfl rfl ?_
    refine XS.iloadN X0.here hx rfl (hb hby db_8) rfl ?_
    refine XS.iconst X0.here hx rfl (hb hby db_9) ?_
    refine XS.iadd X0.here hx rfl (hb hby db_10) rfl ?_
    refine XS.lload X0.here hx rfl (hb hby db_11) rfl ?_
    refine XS.lload X0.here hx rfl (hb hby db_13) rfl ?_
    refine XS.ladd X0.here hx rfl (hb hby db_15) rfl ?_
    show SS p e below s₁ (mkF m 16 #[vr o0, vi 0, vi 1, vl 0, sd, vl y1, sd, vl 0, sd] [(.long ((0 : Int64) + y1)), (.int (0 : Int32)), (.ref o0)]) _
    refine st3 _ ?_
    refine XS.iloadN X3.here hx rfl (hb hby db_17) rfl ?_
    refine XS.iconst X3.here hx rfl (hb hby db_18) ?_
    refine XS.icmpYes X3.here hx rfl (pc0 := 19) (pc' := 29) rfl (hb hby db_19) rfl (feq (by decide : ¬ ((1 : Int32) = (4 : Int32)))).2 (by decide) (by decide) ?_
    show SS p e below T3 (mkF m 29 #[vr o0, vi 0, vi 1, vl 0, sd, vl y1, sd, vl 0, sd] []) _
    exact X3.returnOut hx Bd.returns (hb hby db_29) lhr
  · skip
    show QA65 Z o0 y1 y2 kk_o0 h0 n0 _ T3.heap _
    rw [e3]
    exact ⟨rfl, N3, K3, V3⟩
def QA72 (Z : State) (o0 : Addr) (o1 : Addr) (y2 : Int64) (kk_o1 : ClassId) (h0 : Heap) (n0 : Nat) (v : Option Value) (h : Heap) (L : List Loc) : Prop := ∃ (b1 : Addr) (kk_b1 : ClassId), v = some (.ref b1) ∧ Fr n0 L ∧ Keep h0 h [] ∧ h0.size ≤ b1 ∧ Arv Z h b1 kk_b1 .long (8 : Int32) [(.long y2), (.long (0 : Int64)), (.long (0 : Int64)), (.long (0 : Int64)), (.long (0 : Int64)), (.long (0 : Int64)), (.long (0 : Int64)), (.long (0 : Int64))] (.long (0 : Int64))
set_option maxRecDepth 65536 in
set_option maxHeartbeats 40000000 in
theorem rmA72 (l : Launch) (Z : State) (a0 : Array Value) (hw : ∀ d ∈ tables_1, d.before a0 Z = true) (ws : List Jvm.Cond) (o0 : Addr) (o1 : Addr) (y2 : Int64) (kk_o1 : ClassId) (h0 : Heap) (n0 : Nat) (Z0 : n0 ≤ h0.size) (F_o0_first : Fld Z h0 o0 cn2 "first" "I" (.int (0 : Int32))) (F_o0_end : Fld Z h0 o0 cn2 "end" "I" (.int (1 : Int32))) (V_o1 : Arv Z h0 o1 kk_o1 .long (4 : Int32) [(.long y2), (.long (0 : Int64)), (.long (0 : Int64)), (.long (0 : Int64))] (.long (0 : Int64))) :
    MetFree l mn5 (head1 (Jvm.Cond.code mn5 prog_23_method_8_code 5 (some (.array .long)) :: ws) ({ frames := 1, cells := 1, slots := 8, locals := 36 } : Room)) (fun a U => a = #[(.ref o0), (.ref o1), (.int (4 : Int32)), (.int (2 : Int32))] ∧ Z.Warmed39 U.vm ∧ U.heap = h0) (fun _ _ _ _ _ => True) (fun _ U oc_ U' => ∃ v L, oc_ = .returned v ∧ QA72 Z o0 o1 y2 kk_o1 h0 n0 v U'.heap L ∧ FrameEnd U oc_ U' L ({ frames := 1, cells := 1, slots := 8, locals := 36 } : Room).cells ({ frames := 1, cells := 1, slots := 8, locals := 36 } : Room).slots) := by
  refine MetFree.of_bodySF (plainFor_of_name pn_com_example_strict_limiter_strictlimiter_KeptWindows) hisR ?_
  intro p e s m args below meth c s₁ Bd hml0 hP hK
  obtain ⟨rfl, hZ, hh⟩ := hP
  have hx := Bd.exec
  have hby := Bd.bytes
  have hml : c.maxLocals = 5 := hml0
  have hown : s.vm.findClass cn2 = some m.cls := findClass_of_methodNamed Bd.named
  have hnm := (name_of_methodNamed Bd.named Bd.method).1
  have X0 : Stand p l e ({ frames := 1, cells := 1, slots := 8, locals := 36 } : Room) s m #[(.ref o0), (.ref o1), (.int (4 : Int32)), (.int (2 : Int32))] below meth c s₁ [] 0 0 := Stand.of_body Bd
  have e0 : s₁.heap = h0 := by rw [← hh, Bd.state]; rfl
  have N0 := Fr.nil n0
  have pre0 : ∀ t, SS p e below s₁ (mkF m 0 #[vr o0, vr o1, vi 4, vi 2, un] []) t → Steps p.tables e below (s₁.setTop (entryFrame m #[(.ref o0), (.ref o1), (.int (4 : Int32)), (.int (2 : Int32))] 5)) t := fun t k => castTop (efa_prog_23_method_8_code_vvvv m o0 o1 (4 : Int32) (2 : Int32)) k
  obtain ⟨EN, hEN⟩ : ∃ z, z = s₁.setTop (entryFrame m #[(.ref o0), (.ref o1), (.int (4 : Int32)), (.int (2 : Int32))] 5) := ⟨_, rfl⟩
  rw [← hEN] at pre0
  obtain ⟨T1, h1, kk1, X1, e1, E1, A1, st1⟩ := newP X0 hx hZ (aty := .long) (wd57 hw) e0 (g := (mkF m 3 #[vr o0, vr o1, vi 4, vi 2, un] [(.int (8 : Int32))])) rfl (hb hby dd_3) rfl (by decide) (cap := 8) (by decide) (by decide) (by decide) (by decide)
  obtain ⟨b1, g1⟩ : ∃ z, z = h0.size := ⟨_, rfl⟩
  rw [← g1] at A1 st1
  have ge_b1 : n0 ≤ b1 := Nat.le_trans Z0 (Nat.le_of_eq g1.symm)
  have sz_b1 : h0.size ≤ b1 := Nat.le_trans (Nat.le_refl _) (Nat.le_of_eq g1.symm)
  have Z1 := Nat.le_trans Z0 E1.1
  have K1 : Keep h0 h1 [] := ((Keep.refl h0 []).ext E1)
  have V1 : Arv Z h1 b1 kk1 .long (8 : Int32) [(.long (0 : Int64)), (.long (0 : Int64)), (.long (0 : Int64)), (.long (0 : Int64)), (.long (0 : Int64)), (.long (0 : Int64)), (.long (0 : Int64)), (.long (0 : Int64))] (.long (0 : Int64)) := (Arv.new A1 (by decide)).pad (pad_rep [] (.long (0 : Int64)) 8)
  have f2 := (F_o0_first.ext E1)
  obtain ⟨T3, X3, e3, st3⟩ := getF X1 hx hZ hown (wf24 hw) Via.refl e1 f2 (g := (mkF m 9 #[vr o0, vr o1, vi 4, vi 2, vr b1] [(.ref o0), (.ref o1)])) rfl rfl (hb hby dd_9)
  have f4 := (F_o0_end.ext E1)
  obtain ⟨T5, X5, e5, st5⟩ := getF X3 hx hZ hown (wf26 hw) Via.refl e3 f4 (g := (mkF m 18 #[vr o0, vr o1, vi 4, vi 2, vr b1] [(.ref o0), (.int (0 : Int32)), (.ref b1), (.int (0 : Int32)), (.ref o1)])) rfl rfl (hb hby dd_18)
  obtain ⟨T6, X6, e6, st6⟩ := getF X5 hx hZ hown (wf24 hw) Via.refl e5 f2 (g := (mkF m 22 #[vr o0, vr o1, vi 4, vi 2, vr b1] [(.ref o0), (.int (1 : Int32)), (.int (0 : Int32)), (.ref b1), (.int (0 : Int32)), (.ref o1)])) rfl rfl (hb hby dd_22)
  have f7 := (V_o1.ext E1)
  obtain ⟨T8, h8, Lq8, X8, e8, Nq8, Kq8, Vq8, st8⟩ := cpA X6 hx hZ hown (wd58 hw) (wd61 hw) (wd59 hw) (wd60 hw) e6 (us := [(.long y2), (.long (0 : Int64)), (.long (0 : Int64)), (.long (0 : Int64))]) f7 V1 (Or.inl ⟨rfl, rfl⟩) (by decide) (by decide) (by decide) (by first | decide | exact Nat.le_of_ble_eq_true rfl) (by first | decide | exact Nat.le_of_ble_eq_true rfl) (by rfl) (by first | decide | exact Nat.le_of_ble_eq_true rfl) N0 ge_b1 (g := (mkF m 28 #[vr o0, vr o1, vi 4, vi 2, vr b1] [(.int (4 : Int32)), (.int (0 : Int32)), (.ref b1), (.int (0 : Int32)), (.ref o1)])) rfl (by rw [hml]; rfl) rfl (hb hby dd_28) (by decide) (W := 0) (by show 2 * 0 + _ ≤ _; exact Nat.le_of_eq rfl) (by decide)
  have Z8 := Nat.le_trans Z1 Kq8.1
  have K8 := Keep.trans K1 Kq8 (allS (Or.inr sz_b1) all0)
  have V8 : Arv Z h8 b1 _ .long (8 : Int32) [(.long y2), (.long (0 : Int64)), (.long (0 : Int64)), (.long (0 : Int64)), (.long (0 : Int64)), (.long (0 : Int64)), (.long (0 : Int64)), (.long (0 : Int64))] (.long (0 : Int64)) := Vq8
  subst hEN
  obtain ⟨lfs, lhr, lhrun, lhended, lhW, lhsame⟩ := X8.leave (v := some (.ref b1)) (fun h => by rw [Bd.returns] at h; cases h)
  refine ⟨_, _, pre0 _ ?_, lhrun, lhended, _, _, rfl, ?_, ⟨_, rfl⟩, lhW, lhsame.mono (by decide) (by decide)⟩
  · skip
    refine XS.iloadN X0.here hx rfl (hb hby dd_0) rfl ?_
    refine XS.iloadN X0.here hx rfl (hb hby dd_1) rfl ?_
    refine XS.imul X0.here hx rfl (hb hby dd_2) rfl ?_
    refine st1 _ ?_
    refine XS.astore X1.here hx rfl (hb hby dd_5) rfl rfl (l' := #[vr o0, vr o1, vi 4, vi 2, vr b1]) rfl ?_
    refine XS.aloadN X1.here hx rfl (hb hby dd_7) rfl rfl ?_
    refine XS.aloadN X1.here hx rfl (hb hby dd_8) rfl rfl ?_
    refine st3 _ ?_
    refine XS.iloadN X3.here hx rfl (hb hby dd_12) rfl ?_
    refine XS.imul X3.here hx rfl (hb hby dd_13) rfl ?_
    refine XS.aload X3.here hx rfl (hb hby dd_14) rfl rfl ?_
    refine XS.iconst X3.here hx rfl (hb hby dd_16) ?_
    refine XS.aloadN X3.here hx rfl (hb hby dd_17) rfl rfl ?_
    refine st5 _ ?_
    refine XS.aloadN X5.here hx rfl (hb hby dd_21) rfl rfl ?_
    refine st6 _ ?_
    refine XS.isub X6.here hx rfl (hb hby dd_25) rfl ?_
    refine XS.iloadN X6.here hx rfl (hb hby dd_26) rfl ?_
    refine XS.imul X6.here hx rfl (hb hby dd_27) rfl ?_
    refine st8 _ ?_
    refine XS.aload X8.here hx rfl (hb hby dd_31) rfl rfl ?_
    show SS p e below T8 (mkF m 33 #[vr o0, vr o1, vi 4, vi 2, vr b1] [(.ref b1)]) _
    exact retOut X8 hx Bd.returns rfl (Or.inr (Or.inr (Or.inr (Or.inr ⟨rfl, rfl, rfl⟩)))) (hb hby dd_33) lhr
  · skip
    show QA72 Z o0 o1 y2 kk_o1 h0 n0 _ T8.heap _
    rw [e8]
    exact ⟨b1, _, rfl, Nq8, K8, sz_b1, V8⟩
def QA75 (Z : State)  (h0 : Heap) (n0 : Nat) (v : Option Value) (h : Heap) (L : List Loc) : Prop := v = none ∧ Fr n0 L ∧ h = h0
set_option maxRecDepth 65536 in
set_option maxHeartbeats 40000000 in
theorem rmA75 (l : Launch) (Z : State) (a0 : Array Value) (hw : ∀ d ∈ tables_1, d.before a0 Z = true) (ws : List Jvm.Cond)  (h0 : Heap) (n0 : Nat) (Z0 : n0 ≤ h0.size) :
    MetFree l mn13 (head1 (Jvm.Cond.code mn13 jdk_65_method_30_code 3 none :: ws) ({ frames := 0, cells := 0, slots := 0, locals := 0 } : Room)) (fun a U => a = #[(.int (8 : Int32)), (.int (0 : Int32)), (.int (4 : Int32))] ∧ Z.Warmed39 U.vm ∧ U.heap = h0) (fun _ _ _ _ _ => True) (fun _ U oc_ U' => ∃ v L, oc_ = .returned v ∧ QA75 Z  h0 n0 v U'.heap L ∧ FrameEnd U oc_ U' L ({ frames := 0, cells := 0, slots := 0, locals := 0 } : Room).cells ({ frames := 0, cells := 0, slots := 0, locals := 0 } : Room).slots) := by
  refine MetFree.of_bodySF (plainFor_of_name pn_java_util_Arrays) hisR ?_
  intro p e s m args below meth c s₁ Bd hml0 hP hK
  obtain ⟨rfl, hZ, hh⟩ := hP
  have hx := Bd.exec
  have hby := Bd.bytes
  have hml : c.maxLocals = 3 := hml0
  have hown : s.vm.findClass "java/util/Arrays" = some m.cls := findClass_of_methodNamed Bd.named
  have hnm := (name_of_methodNamed Bd.named Bd.method).1
  have X0 : Stand p l e ({ frames := 0, cells := 0, slots := 0, locals := 0 } : Room) s m #[(.int (8 : Int32)), (.int (0 : Int32)), (.int (4 : Int32))] below meth c s₁ [] 0 0 := Stand.of_body Bd
  have e0 : s₁.heap = h0 := by rw [← hh, Bd.state]; rfl
  have N0 := Fr.nil n0
  have pre0 : ∀ t, SS p e below s₁ (mkF m 0 #[vi 8, vi 0, vi 4] []) t → Steps p.tables e below (s₁.setTop (entryFrame m #[(.int (8 : Int32)), (.int (0 : Int32)), (.int (4 : Int32))] 3)) t := fun t k => castTop (efa_jdk_65_method_30_code_vvv m (8 : Int32) (0 : Int32) (4 : Int32)) k
  obtain ⟨EN, hEN⟩ : ∃ z, z = s₁.setTop (entryFrame m #[(.int (8 : Int32)), (.int (0 : Int32)), (.int (4 : Int32))] 3) := ⟨_, rfl⟩
  rw [← hEN] at pre0
  subst hEN
  obtain ⟨lfs, lhr, lhrun, lhended, lhW, lhsame⟩ := X0.leave (v := none) (fun _ => rfl)
  refine ⟨_, _, pre0 _ ?_, lhrun, lhended, _, _, rfl, ?_, ⟨_, rfl⟩, lhW, lhsame.mono (by decide) (by decide)⟩
  · skip
    refine XS.iloadN X0.here hx rfl (hb hby di_0) rfl ?_
    refine XS.iloadN X0.here hx rfl (hb hby di_1) rfl ?_
    refine XS.icmpYes X0.here hx rfl (pc0 := 2) (pc' := 46) rfl (hb hby di_2) rfl (flt (by decide : ¬ ((4 : Int32) < (0 : Int32)))).2.2.2 (by decide) (by decide) ?_
    refine XS.iloadN X0.here hx rfl (hb hby di_46) rfl ?_
    refine XS.ifYes X0.here hx rfl (pc0 := 47) (pc' := 59) rfl (hb hby di_47) rfl ((if0 _ _).trans (flt (by decide : ¬ ((0 : Int32) < (0 : Int32)))).2.1) (by decide) (by decide) ?_
    refine XS.iloadN X0.here hx rfl (hb hby di_59) rfl ?_
    refine XS.iloadN X0.here hx rfl (hb hby di_60) rfl ?_
    refine XS.icmpYes X0.here hx rfl (pc0 := 61) (pc' := 73) rfl (hb hby di_61) rfl (flt (by decide : ¬ ((8 : Int32) < (4 : Int32)))).2.2.2 (by decide) (by decide) ?_
    show SS p e below s₁ (mkF m 73 #[vi 8, vi 0, vi 4] []) _
    exact X0.returnOut hx Bd.returns (hb hby di_73) lhr
  · skip
    show QA75 Z  h0 n0 _ s₁.heap _
    rw [e0]
    exact ⟨rfl, N0, rfl⟩
def QA74 (Z : State) (o0 : Addr) (y1 : Int64) (kk_o0 : ClassId) (h0 : Heap) (n0 : Nat) (v : Option Value) (h : Heap) (L : List Loc) : Prop := v = none ∧ Fr n0 L ∧ Keep h0 h [o0] ∧ Arv Z h o0 kk_o0 .long (8 : Int32) [(.long (0 : Int64)), (.long (0 : Int64)), (.long (0 : Int64)), (.long (0 : Int64)), (.long y1), (.long (0 : Int64)), (.long (0 : Int64)), (.long (0 : Int64))] (.long (0 : Int64))
set_option maxRecDepth 65536 in
set_option maxHeartbeats 40000000 in
theorem rmA74 (l : Launch) (Z : State) (a0 : Array Value) (hw : ∀ d ∈ tables_1, d.before a0 Z = true) (ws : List Jvm.Cond) (o0 : Addr) (y1 : Int64) (kk_o0 : ClassId) (h0 : Heap) (n0 : Nat) (Z0 : n0 ≤ h0.size) (V_o0 : Arv Z h0 o0 kk_o0 .long (8 : Int32) [(.long y1), (.long (0 : Int64)), (.long (0 : Int64)), (.long (0 : Int64)), (.long y1), (.long (0 : Int64)), (.long (0 : Int64)), (.long (0 : Int64))] (.long (0 : Int64))) (g_o0 : n0 ≤ o0) :
    MetFree l mn12 (head1 (Jvm.Cond.code mn12 jdk_65_method_102_code 6 none :: ws) ({ frames := 1, cells := 0, slots := 0, locals := 14 } : Room)) (fun a U => a = #[(.ref o0), (.int (0 : Int32)), (.int (4 : Int32)), (.long (0 : Int64))] ∧ Z.Warmed39 U.vm ∧ U.heap = h0) (fun _ _ _ _ _ => True) (fun _ U oc_ U' => ∃ v L, oc_ = .returned v ∧ QA74 Z o0 y1 kk_o0 h0 n0 v U'.heap L ∧ FrameEnd U oc_ U' L ({ frames := 1, cells := 0, slots := 0, locals := 14 } : Room).cells ({ frames := 1, cells := 0, slots := 0, locals := 14 } : Room).slots) := by
  refine MetFree.of_bodySF (plainFor_of_name pn_java_util_Arrays) hisR ?_
  intro p e s m args below meth c s₁ Bd hml0 hP hK
  obtain ⟨rfl, hZ, hh⟩ := hP
  have hx := Bd.exec
  have hby := Bd.bytes
  have hml : c.maxLocals = 6 := hml0
  have hown : s.vm.findClass "java/util/Arrays" = some m.cls := findClass_of_methodNamed Bd.named
  have hnm := (name_of_methodNamed Bd.named Bd.method).1
  have X0 : Stand p l e ({ frames := 1, cells := 0, slots := 0, locals := 14 } : Room) s m #[(.ref o0), (.int (0 : Int32)), (.int (4 : Int32)), (.long (0 : Int64))] below meth c s₁ [] 0 0 := Stand.of_body Bd
  have e0 : s₁.heap = h0 := by rw [← hh, Bd.state]; rfl
  have N0 := Fr.nil n0
  have pre0 : ∀ t, SS p e below s₁ (mkF m 0 #[vr o0, vi 0, vi 4, vl 0, sd, un] []) t → Steps p.tables e below (s₁.setTop (entryFrame m #[(.ref o0), (.int (0 : Int32)), (.int (4 : Int32)), (.long (0 : Int64))] 6)) t := fun t k => castTop (efa_jdk_65_method_102_code_vvvv m o0 (0 : Int32) (4 : Int32) (0 : Int64)) k
  obtain ⟨EN, hEN⟩ : ∃ z, z = s₁.setTop (entryFrame m #[(.ref o0), (.int (0 : Int32)), (.int (4 : Int32)), (.long (0 : Int64))] 6) := ⟨_, rfl⟩
  rw [← hEN] at pre0
  obtain ⟨cl1, Ar1, -, S1, M1, -, -⟩ := id V_o0
  obtain ⟨_, _, ⟨T2, L2, kc2, ks2⟩, -, X2, ⟨Lc2, hQ2, l2, y2, z2⟩, st2⟩ := Jvm.LawKit.callS X0 hx (y := mn13) hown (mvT hZ (wd39 hw)) (mvT hZ (wd40 hw)) (mvT hZ (wd37 hw)) (mvT hZ (wd41 hw)) (by decide) (backOf (W := 0) (rmA75 l Z a0 hw []  h0 n0 Z0 ) hZ (wd41 hw) (wd37 hw) (by decide) (by decide)) (g := (mkF m 4 #[vr o0, vi 0, vi 4, vl 0, sd, un] [(.int (4 : Int32)), (.int (0 : Int32)), (.int (8 : Int32))])) rfl (by rw [hml]; rfl) (argsL := [(.int (8 : Int32)), (.int (0 : Int32)), (.int (4 : Int32))]) (rest := []) (lenOf pd__III_V rfl) rfl (by show 2 * 0 + _ ≤ _; exact Nat.le_of_eq rfl) (hb hby da_4) (fun _ _ => ⟨rfl, e0, (by decide : 0 + 0 ≤ _), (by decide : 0 + 0 ≤ _)⟩)
  dsimp only [Pt.U, Pt.locs, Pt.cells, Pt.slots] at X2 l2 y2 z2 st2 hQ2
  subst l2 y2 z2
  obtain ⟨rfl, Nq2, eq2⟩ := hQ2
  have N2 := Fr.app N0 Nq2
  obtain ⟨cl3, Ar3, q3, S3, M3, HH3, GG3⟩ := id V_o0
  have hin3 : ¬ ((0 : Int32) < 0 ∨ cl3.slots.size ≤ ((0 : Int32)).toNatClampNeg) := inb_of S3 ⟨by decide, by decide⟩
  obtain ⟨T4, h4, X4, e4, W4, st4⟩ := stJ X2 hx hZ eq2 Ar3 (j := (0 : Int32)) hin3 (g := (mkF m 20 #[vr o0, vi 0, vi 4, vl 0, sd, vi 0] [(.long (0 : Int64)), (.int (0 : Int32)), (.ref o0)])) rfl rfl (hb hby da_20)
  have N4 := Fr.snoc X4 N2 g_o0
  have Z4 : n0 ≤ h4.size := by rw [W4.size]; exact Z0
  have K4 : Keep h0 h4 [o0] := ((Keep.refl h0 [o0]).wr W4 (Or.inl (List.mem_of_getElem? (i := 0) rfl)))
  have V4 := Arv.set Ar3 q3 S3 M3 HH3 GG3 rfl W4 0 rfl (Nat.le_of_ble_eq_true rfl)
  obtain ⟨cl5, Ar5, q5, S5, M5, HH5, GG5⟩ := id V4
  have hin5 : ¬ ((1 : Int32) < 0 ∨ cl5.slots.size ≤ ((1 : Int32)).toNatClampNeg) := inb_of S5 ⟨by decide, by decide⟩
  obtain ⟨T6, h6, X6, e6, W6, st6⟩ := stJ X4 hx hZ e4 Ar5 (j := (1 : Int32)) hin5 (g := (mkF m 20 #[vr o0, vi 0, vi 4, vl 0, sd, vi 1] [(.long (0 : Int64)), (.int (1 : Int32)), (.ref o0)])) rfl rfl (hb hby da_20)
  have N6 := Fr.snoc X6 N4 g_o0
  have Z6 : n0 ≤ h6.size := by rw [W6.size]; exact Z4
  have K6 := (K4.wr W6 (Or.inl (List.mem_of_getElem? (i := 0) rfl)))
  have V6 := Arv.set Ar5 q5 S5 M5 HH5 GG5 rfl W6 1 rfl (Nat.le_of_ble_eq_true rfl)
  obtain ⟨cl7, Ar7, q7, S7, M7, HH7, GG7⟩ := id V6
  have hin7 : ¬ ((2 : Int32) < 0 ∨ cl7.slots.size ≤ ((2 : Int32)).toNatClampNeg) := inb_of S7 ⟨by decide, by decide⟩
  obtain ⟨T8, h8, X8, e8, W8, st8⟩ := stJ X6 hx hZ e6 Ar7 (j := (2 : Int32)) hin7 (g := (mkF m 20 #[vr o0, vi 0, vi 4, vl 0, sd, vi 2] [(.long (0 : Int64)), (.int (2 : Int32)), (.ref o0)])) rfl rfl (hb hby da_20)
  have N8 := Fr.snoc X8 N6 g_o0
  have Z8 : n0 ≤ h8.size := by rw [W8.size]; exact Z6
  have K8 := (K6.wr W8 (Or.inl (List.mem_of_getElem? (i := 0) rfl)))
  have V8 := Arv.set Ar7 q7 S7 M7 HH7 GG7 rfl W8 2 rfl (Nat.le_of_ble_eq_true rfl)
  obtain ⟨cl9, Ar9, q9, S9, M9, HH9, GG9⟩ := id V8
  have hin9 : ¬ ((3 : Int32) < 0 ∨ cl9.slots.size ≤ ((3 : Int32)).toNatClampNeg) := inb_of S9 ⟨by decide, by decide⟩
  obtain ⟨T10, h10, X10, e10, W10, st10⟩ := stJ X8 hx hZ e8 Ar9 (j := (3 : Int32)) hin9 (g := (mkF m 20 #[vr o0, vi 0, vi 4, vl 0, sd, vi 3] [(.long (0 : Int64)), (.int (3 : Int32)), (.ref o0)])) rfl rfl (hb hby da_20)
  have N10 := Fr.snoc X10 N8 g_o0
  have Z10 : n0 ≤ h10.size := by rw [W10.size]; exact Z8
  have K10 := (K8.wr W10 (Or.inl (List.mem_of_getElem? (i := 0) rfl)))
  have V10 := Arv.set Ar9 q9 S9 M9 HH9 GG9 rfl W10 3 rfl (Nat.le_of_ble_eq_true rfl)
  subst hEN
  obtain ⟨lfs, lhr, lhrun, lhended, lhW, lhsame⟩ := X10.leave (v := none) (fun _ => rfl)
  refine ⟨_, _, pre0 _ ?_, lhrun, lhended, _, _, rfl, ?_, ⟨_, rfl⟩, lhW, lhsame.mono (by decide) (by decide)⟩
  · skip
    refine XS.aloadN X0.here hx rfl (hb hby da_0) rfl rfl ?_
    refine X0.arraylength hx (by (try rw [e0]); exact Ar1.1) (State.isArrayOf_alike hZ.alike Ar1.2.1) (g := (mkF m 1 #[vr o0, vi 0, vi 4, vl 0, sd, un] [(.ref o0)])) rfl rfl (hb hby da_1) _ ?_
    rw [len_of S1 M1]
    refine XS.iloadN X0.here hx rfl (hb hby da_2) rfl ?_
    refine XS.iloadN X0.here hx rfl (hb hby da_3) rfl ?_
    refine st2 _ ?_
    refine XS.iloadN X2.here hx rfl (hb hby da_7) rfl ?_
    refine XS.istore X2.here hx rfl (hb hby da_8) rfl (l' := #[vr o0, vi 0, vi 4, vl 0, sd, vi 0]) rfl ?_
    refine XS.iload X2.here hx rfl (hb hby da_10) rfl ?_
    refine XS.iloadN X2.here hx rfl (hb hby da_12) rfl ?_
    refine XS.icmpNo X2.here hx rfl (hb hby da_13) rfl (tlt (by decide : (0 : Int32) < (4 : Int32))).2.1 ?_
    refine XS.aloadN X2.here hx rfl (hb hby da_16) rfl rfl ?_
    refine XS.iload X2.here hx rfl (hb hby da_17) rfl ?_
    refine XS.lloadN X2.here hx rfl (hb hby da_19) rfl ?_
    show SS p e below T2 (mkF m 20 #[vr o0, vi 0, vi 4, vl 0, sd, vi 0] [(.long (0 : Int64)), (.int (0 : Int32)), (.ref o0)]) _
    refine st4 _ ?_
    refine XS.iinc X4.here hx rfl (hb hby da_21) rfl (l' := #[vr o0, vi 0, vi 4, vl 0, sd, vi 1]) rfl ?_
    refine XS.goto X4.here hx rfl (pc0 := 24) (pc' := 10) rfl (hb hby da_24) (by decide) (by decide) ?_
    refine XS.iload X4.here hx rfl (hb hby da_10) rfl ?_
    refine XS.iloadN X4.here hx rfl (hb hby da_12) rfl ?_
    refine XS.icmpNo X4.here hx rfl (hb hby da_13) rfl (tlt (by decide : (1 : Int32) < (4 : Int32))).2.1 ?_
    refine XS.aloadN X4.here hx rfl (hb hby da_16) rfl rfl ?_
    refine XS.iload X4.here hx rfl (hb hby da_17) rfl ?_
    refine XS.lloadN X4.here hx rfl (hb hby da_19) rfl ?_
    show SS p e below T4 (mkF m 20 #[vr o0, vi 0, vi 4, vl 0, sd, vi 1] [(.long (0 : Int64)), (.int (1 : Int32)), (.ref o0)]) _
    refine st6 _ ?_
    refine XS.iinc X6.here hx rfl (hb hby da_21) rfl (l' := #[vr o0, vi 0, vi 4, vl 0, sd, vi 2]) rfl ?_
    refine XS.goto X6.here hx rfl (pc0 := 24) (pc' := 10) rfl (hb hby da_24) (by decide) (by decide) ?_
    refine XS.iload X6.here hx rfl (hb hby da_10) rfl ?_
    refine XS.iloadN X6.here hx rfl (hb hby da_12) rfl ?_
    refine XS.icmpNo X6.here hx rfl (hb hby da_13) rfl (tlt (by decide : (2 : Int32) < (4 : Int32))).2.1 ?_
    refine XS.aloadN X6.here hx rfl (hb hby da_16) rfl rfl ?_
    refine XS.iload X6.here hx rfl (hb hby da_17) rfl ?_
    refine XS.lloadN X6.here hx rfl (hb hby da_19) rfl ?_
    show SS p e below T6 (mkF m 20 #[vr o0, vi 0, vi 4, vl 0, sd, vi 2] [(.long (0 : Int64)), (.int (2 : Int32)), (.ref o0)]) _
    refine st8 _ ?_
    refine XS.iinc X8.here hx rfl (hb hby da_21) rfl (l' := #[vr o0, vi 0, vi 4, vl 0, sd, vi 3]) rfl ?_
    refine XS.goto X8.here hx rfl (pc0 := 24) (pc' := 10) rfl (hb hby da_24) (by decide) (by decide) ?_
    refine XS.iload X8.here hx rfl (hb hby da_10) rfl ?_
    refine XS.iloadN X8.here hx rfl (hb hby da_12) rfl ?_
    refine XS.icmpNo X8.here hx rfl (hb hby da_13) rfl (tlt (by decide : (3 : Int32) < (4 : Int32))).2.1 ?_
    refine XS.aloadN X8.here hx rfl (hb hby da_16) rfl rfl ?_
    refine XS.iload X8.here hx rfl (hb hby da_17) rfl ?_
    refine XS.lloadN X8.here hx rfl (hb hby da_19) rfl ?_
    show SS p e below T8 (mkF m 20 #[vr o0, vi 0, vi 4, vl 0, sd, vi 3] [(.long (0 : Int64)), (.int (3 : Int32)), (.ref o0)]) _
    refine st10 _ ?_
    refine XS.iinc X10.here hx rfl (hb hby da_21) rfl (l' := #[vr o0, vi 0, vi 4, vl 0, sd, vi 4]) rfl ?_
    refine XS.goto X10.here hx rfl (pc0 := 24) (pc' := 10) rfl (hb hby da_24) (by decide) (by decide) ?_
    refine XS.iload X10.here hx rfl (hb hby da_10) rfl ?_
    refine XS.iloadN X10.here hx rfl (hb hby da_12) rfl ?_
    refine XS.icmpYes X10.here hx rfl (pc0 := 13) (pc' := 27) rfl (hb hby da_13) rfl (flt (by decide : ¬ ((4 : Int32) < (4 : Int32)))).2.1 (by decide) (by decide) ?_
    show SS p e below T10 (mkF m 27 #[vr o0, vi 0, vi 4, vl 0, sd, vi 4] []) _
    exact X10.returnOut hx Bd.returns (hb hby da_27) lhr
  · skip
    show QA74 Z o0 y1 kk_o0 h0 n0 _ T10.heap _
    rw [e10]
    exact ⟨rfl, N10, K10, V10⟩
def QA69 (Z : State) (o0 : Addr) (y1 : Int64) (o2 : Addr) (y3 : Int64) (kk_o2 : ClassId) (o4 : Addr) (y5 : Int64) (kk_o4 : ClassId) (o6 : Addr) (kk_o6 : ClassId) (h0 : Heap) (n0 : Nat) (v : Option Value) (h : Heap) (L : List Loc) : Prop := ∃ (b10_0 : Addr) (b23_0 : Addr) (b37_0 : Addr) (kk_b10_0 : ClassId) (kk_b23_0 : ClassId) (kk_b37_0 : ClassId), v = some (.int (0 : Int32)) ∧ Fr n0 L ∧ Keep h0 h [o0] ∧ h0.size ≤ b10_0 ∧ h0.size ≤ b23_0 ∧ h0.size ≤ b37_0 ∧ b10_0 ≠ b23_0 ∧ b10_0 ≠ b37_0 ∧ b23_0 ≠ b37_0 ∧ Fld Z h o0 cn2 "end" "I" (.int (2 : Int32)) ∧ Fld Z h o0 cn2 "starts" "[J" (.ref b10_0) ∧ Fld Z h o0 cn2 "first" "I" (.int (0 : Int32)) ∧ Exa Z h o0 cn2 ∧ Arv Z h b10_0 kk_b10_0 .long (2 : Int32) [(.long y1), (.long y3)] (.long (0 : Int64)) ∧ Fld Z h o0 cn2 "records" "[J" (.ref b23_0) ∧ Fld Z h o0 cn2 "width" "I" (.int (4 : Int32)) ∧ Arv Z h b23_0 kk_b23_0 .long (8 : Int32) [(.long (0 : Int64)), (.long (0 : Int64)), (.long (0 : Int64)), (.long (0 : Int64)), (.long y5), (.long (0 : Int64)), (.long (0 : Int64)), (.long (0 : Int64))] (.long (0 : Int64)) ∧ Fld Z h o0 cn2 "decidedAt" "[J" (.ref b37_0) ∧ Arv Z h b37_0 kk_b37_0 .long (2 : Int32) [(.long (0 : Int64)), (.long (0 : Int64))] (.long (0 : Int64))
set_option maxRecDepth 65536 in
set_option maxHeartbeats 40000000 in
theorem rmA69 (l : Launch) (Z : State) (a0 : Array Value) (hw : ∀ d ∈ tables_1, d.before a0 Z = true) (ws : List Jvm.Cond) (o0 : Addr) (y1 : Int64) (o2 : Addr) (y3 : Int64) (kk_o2 : ClassId) (o4 : Addr) (y5 : Int64) (kk_o4 : ClassId) (o6 : Addr) (kk_o6 : ClassId) (h0 : Heap) (n0 : Nat) (Z0 : n0 ≤ h0.size) (F_o0_end : Fld Z h0 o0 cn2 "end" "I" (.int (1 : Int32))) (F_o0_starts : Fld Z h0 o0 cn2 "starts" "[J" (.ref o2)) (V_o2 : Arv Z h0 o2 kk_o2 .long (1 : Int32) [(.long y3)] (.long (0 : Int64))) (F_o0_first : Fld Z h0 o0 cn2 "first" "I" (.int (0 : Int32))) (E_o0 : Exa Z h0 o0 cn2) (g_o0 : n0 ≤ o0) (F_o0_records : Fld Z h0 o0 cn2 "records" "[J" (.ref o4)) (F_o0_width : Fld Z h0 o0 cn2 "width" "I" (.int (4 : Int32))) (V_o4 : Arv Z h0 o4 kk_o4 .long (4 : Int32) [(.long y5), (.long (0 : Int64)), (.long (0 : Int64)), (.long (0 : Int64))] (.long (0 : Int64))) (ne_o4_o0 : o4 ≠ o0) (ne_o2_o0 : o2 ≠ o0) (F_o0_decidedAt : Fld Z h0 o0 cn2 "decidedAt" "[J" (.ref o6)) (V_o6 : Arv Z h0 o6 kk_o6 .long (1 : Int32) [(.long (0 : Int64))] (.long (0 : Int64))) (ne_o6_o0 : o6 ≠ o0) :
    MetFree l mn4 (head1 (Jvm.Cond.code mn4 prog_23_method_7_code 7 (some .int) :: ws) ({ frames := 2, cells := 3, slots := 12, locals := 53 } : Room)) (fun a U => a = #[(.ref o0), (.int (0 : Int32)), (.long y1)] ∧ Z.Warmed39 U.vm ∧ U.heap = h0) (fun _ _ _ _ _ => True) (fun _ U oc_ U' => ∃ v L, oc_ = .returned v ∧ QA69 Z o0 y1 o2 y3 kk_o2 o4 y5 kk_o4 o6 kk_o6 h0 n0 v U'.heap L ∧ FrameEnd U oc_ U' L ({ frames := 2, cells := 3, slots := 12, locals := 53 } : Room).cells ({ frames := 2, cells := 3, slots := 12, locals := 53 } : Room).slots) := by
  refine MetFree.of_bodySF (plainFor_of_name pn_com_example_strict_limiter_strictlimiter_KeptWindows) hisR ?_
  intro p e s m args below meth c s₁ Bd hml0 hP hK
  obtain ⟨rfl, hZ, hh⟩ := hP
  have hx := Bd.exec
  have hby := Bd.bytes
  have hml : c.maxLocals = 7 := hml0
  have hown : s.vm.findClass cn2 = some m.cls := findClass_of_methodNamed Bd.named
  have hnm := (name_of_methodNamed Bd.named Bd.method).1
  have X0 : Stand p l e ({ frames := 2, cells := 3, slots := 12, locals := 53 } : Room) s m #[(.ref o0), (.int (0 : Int32)), (.long y1)] below meth c s₁ [] 0 0 := Stand.of_body Bd
  have e0 : s₁.heap = h0 := by rw [← hh, Bd.state]; rfl
  have N0 := Fr.nil n0
  have pre0 : ∀ t, SS p e below s₁ (mkF m 0 #[vr o0, vi 0, vl y1, sd, un, un, un] []) t → Steps p.tables e below (s₁.setTop (entryFrame m #[(.ref o0), (.int (0 : Int32)), (.long y1)] 7)) t := fun t k => castTop (efa_prog_23_method_7_code_vvv m o0 (0 : Int32) y1) k
  obtain ⟨EN, hEN⟩ : ∃ z, z = s₁.setTop (entryFrame m #[(.ref o0), (.int (0 : Int32)), (.long y1)] 7) := ⟨_, rfl⟩
  rw [← hEN] at pre0
  obtain ⟨T1, X1, e1, st1⟩ := getF X0 hx hZ hown (wf26 hw) Via.refl e0 F_o0_end (g := (mkF m 4 #[vr o0, vi 0, vl y1, sd, vi 0, un, un] [(.ref o0)])) rfl rfl (hb hby dn_4)
  obtain ⟨T2, X2, e2, st2⟩ := getF X1 hx hZ hown (wf11 hw) Via.refl e1 F_o0_starts (g := (mkF m 8 #[vr o0, vi 0, vl y1, sd, vi 0, un, un] [(.ref o0), (.int (1 : Int32))])) rfl rfl (hb hby dn_8)
  obtain ⟨cl3, Ar3, -, S3, M3, -, -⟩ := id V_o2
  obtain ⟨T4, X4, e4, st4⟩ := getF X2 hx hZ hown (wf26 hw) Via.refl e2 F_o0_end (g := (mkF m 16 #[vr o0, vi 0, vl y1, sd, vi 0, un, un] [(.ref o0)])) rfl rfl (hb hby dn_16)
  obtain ⟨T5, X5, e5, st5⟩ := getF X4 hx hZ hown (wf24 hw) Via.refl e4 F_o0_first (g := (mkF m 20 #[vr o0, vi 0, vl y1, sd, vi 0, un, un] [(.ref o0), (.int (1 : Int32))])) rfl rfl (hb hby dn_20)
  obtain ⟨T6, X6, e6, st6⟩ := getF X5 hx hZ hown (wf11 hw) Via.refl e5 F_o0_starts (g := (mkF m 29 #[vr o0, vi 0, vl y1, sd, vi 0, vi 1, un] [(.ref o0), (.int (1 : Int32))])) rfl rfl (hb hby dn_29)
  obtain ⟨cl7, Ar7, -, S7, M7, -, -⟩ := id V_o2
  obtain ⟨_, _, ⟨T8, L8, kc8, ks8⟩, -, X8, ⟨Lc8, hQ8, l8, y8, z8⟩, st8⟩ := Jvm.LawKit.callS X6 hx (y := mn7) hown (mvT hZ (wd49 hw)) (mvT hZ (wd50 hw)) (mvT hZ (wd51 hw)) (mvT hZ (wd52 hw)) (by decide) (backOf (W := 0) (rmA59 l Z a0 hw []  h0 n0 Z0 ) hZ (wd52 hw) (wd51 hw) (by decide) (by decide)) (g := (mkF m 41 #[vr o0, vi 0, vl y1, sd, vi 0, vi 1, un] [(.int (2 : Int32)), (.int (1 : Int32))])) rfl (by rw [hml]; rfl) (argsL := [(.int (1 : Int32)), (.int (2 : Int32))]) (rest := []) (lenOf pd__II_I rfl) rfl (by show 2 * 0 + _ ≤ _; exact Nat.le_of_eq rfl) (hb hby dn_41) (fun _ _ => ⟨rfl, e6, (by decide : 0 + 0 ≤ _), (by decide : 0 + 0 ≤ _)⟩)
  dsimp only [Pt.U, Pt.locs, Pt.cells, Pt.slots] at X8 l8 y8 z8 st8 hQ8
  subst l8 y8 z8
  obtain ⟨rfl, Nq8, eq8⟩ := hQ8
  have N8 := Fr.app N0 Nq8
  obtain ⟨T9, X9, e9, st9⟩ := getF X8 hx hZ hown (wf11 hw) Via.refl eq8 F_o0_starts (g := (mkF m 57 #[vr o0, vi 0, vl y1, sd, vi 0, vi 1, vi 2] [(.ref o0), (.ref o0), (.ref o0)])) rfl rfl (hb hby dn_57)
  obtain ⟨cq10, q10, q10'⟩ := E_o0.cell
  obtain ⟨_, _, ⟨T10, L10, kc10, ks10⟩, -, X10, ⟨Lc10, hQ10, l10, y10, z10⟩, st10⟩ := X9.privateBack hx (y := mn5) hown (mvT hZ (wd53 hw)) (mvT hZ (wd54 hw)) (own_selPriv (mvT hZ (wd1 hw)) (Cond.privateMethod_at (mvP hZ (wd55 hw) (args := #[]))) (mvT hZ (wd54 hw)) (by decide)) (Cond.privateMethod_at (mvP hZ (wd55 hw) (args := #[]))) (mvT hZ (wd56 hw)) (by decide) (backOf (W := 1) (rmA60 l Z a0 hw [] o0 o2 y3 _ h0 n0 Z0 F_o0_first F_o0_end V_o2) hZ (wd56 hw) (wd2 hw) (by decide) (by decide)) (g := (mkF m 63 #[vr o0, vi 0, vl y1, sd, vi 0, vi 1, vi 2] [(.int (2 : Int32)), (.int (1 : Int32)), (.ref o2), (.ref o0), (.ref o0)])) rfl (by rw [hml]; rfl) (Steps.refl _) (a := o0) (by rw [e9]; exact q10) q10' (argsL := [(.ref o2), (.int (1 : Int32)), (.int (2 : Int32))]) (rest := [(.ref o0)]) (lenOf pd___JII__J rfl) rfl (by show 2 * 0 + _ ≤ _; exact Nat.le_of_eq rfl) (hb hby dn_63) (fun _ _ => ⟨rfl, e9, (by decide : 0 + 1 ≤ _), (by decide : 0 + 2 ≤ _)⟩)
  dsimp only [Pt.U, Pt.locs, Pt.cells, Pt.slots] at X10 l10 y10 z10 st10 hQ10
  subst l10 y10 z10
  obtain ⟨b10_0, kv10_1, rfl, Nq10, Kq10, sz10_0, g10_0⟩ := hQ10
  have N10 := Fr.app N8 Nq10
  have Z10 := Nat.le_trans Z0 Kq10.1
  have K10 : Keep h0 T10.heap [o0] := Keep.trans (Keep.refl h0 [o0]) Kq10 all0
  have ne_o0_b10_0 := own_ne F_o0_end.lt sz10_0
  have ne_o2_b10_0 := own_ne V_o2.lt sz10_0
  have ge_b10_0 := Nat.le_trans Z0 sz10_0
  have sz_b10_0 : h0.size ≤ b10_0 := Nat.le_trans (Nat.le_refl _) sz10_0
  have f11 := (E_o0.keep Kq10)
  have f12 := (F_o0_starts.keep Kq10 nin0)
  obtain ⟨T13, h13, X13, e13, W13, st13⟩ := putF X10 hx hZ hown (wf11 hw) Via.refl rfl f12 f11 (Or.inl (wd12 hw)) (wd1 hw) (ty := (.array .long)) (by decide) rfl rfl (g := (mkF m 66 #[vr o0, vi 0, vl y1, sd, vi 0, vi 1, vi 2] [(.ref b10_0), (.ref o0)])) rfl rfl (hb hby dn_66)
  have N13 := Fr.snoc X13 N10 g_o0
  have Z13 : n0 ≤ h13.size := by rw [W13.size]; exact Z10
  have K13 := (K10.wr W13 (Or.inl (List.mem_of_getElem? (i := 0) rfl)))
  have Fw13 := f12.same W13
  have f14 := ((F_o0_records.keep Kq10 nin0).other W13 (Or.inr (sn5 hw)))
  obtain ⟨T15, X15, e15, st15⟩ := getF X13 hx hZ hown (wf13 hw) Via.refl e13 f14 (g := (mkF m 72 #[vr o0, vi 0, vl y1, sd, vi 0, vi 1, vi 2] [(.ref o0), (.ref o0), (.ref o0)])) rfl rfl (hb hby dn_72)
  have f16 := ((F_o0_width.keep Kq10 nin0).other W13 (Or.inr (sn25 hw)))
  obtain ⟨T17, X17, e17, st17⟩ := getF X15 hx hZ hown (wf17 hw) Via.refl e15 f16 (g := (mkF m 76 #[vr o0, vi 0, vl y1, sd, vi 0, vi 1, vi 2] [(.ref o0), (.ref o4), (.ref o0), (.ref o0)])) rfl rfl (hb hby dn_76)
  have f18 := ((F_o0_first.keep Kq10 nin0).other W13 (Or.inr (sn15 hw)))
  have f19 := ((F_o0_end.keep Kq10 nin0).other W13 (Or.inr (sn20 hw)))
  have f20 := ((V_o4.keep Kq10 nin0).other W13 ne_o4_o0)
  have f21 := ((V_o2.keep Kq10 nin0).other W13 ne_o2_o0)
  have f22 := (g10_0.other W13 (Ne.symm ne_o0_b10_0))
  have f24 := (f11.wr W13)
  obtain ⟨cq23, q23, q23'⟩ := f24.cell
  obtain ⟨_, _, ⟨T23, L23, kc23, ks23⟩, -, X23, ⟨Lc23, hQ23, l23, y23, z23⟩, st23⟩ := X17.privateBack hx (y := mn5) hown (mvT hZ (wd53 hw)) (mvT hZ (wd54 hw)) (own_selPriv (mvT hZ (wd1 hw)) (Cond.privateMethod_at (mvP hZ (wd55 hw) (args := #[]))) (mvT hZ (wd54 hw)) (by decide)) (Cond.privateMethod_at (mvP hZ (wd55 hw) (args := #[]))) (mvT hZ (wd56 hw)) (by decide) (backOf (W := 1) (rmA72 l Z a0 hw [] o0 o4 y5 _ h13 n0 Z13 f18 f19 f20) hZ (wd56 hw) (wd2 hw) (by decide) (by decide)) (g := (mkF m 81 #[vr o0, vi 0, vl y1, sd, vi 0, vi 1, vi 2] [(.int (2 : Int32)), (.int (4 : Int32)), (.ref o4), (.ref o0), (.ref o0)])) rfl (by rw [hml]; rfl) (Steps.refl _) (a := o0) (by rw [e17]; exact q23) q23' (argsL := [(.ref o4), (.int (4 : Int32)), (.int (2 : Int32))]) (rest := [(.ref o0)]) (lenOf pd___JII__J rfl) rfl (by show 2 * 0 + _ ≤ _; exact Nat.le_of_eq rfl) (hb hby dn_81) (fun _ _ => ⟨rfl, e17, (by decide : 1 + 1 ≤ _), (by decide : 2 + 8 ≤ _)⟩)
  dsimp only [Pt.U, Pt.locs, Pt.cells, Pt.slots] at X23 l23 y23 z23 st23 hQ23
  subst l23 y23 z23
  obtain ⟨b23_0, kv23_1, rfl, Nq23, Kq23, sz23_0, g23_0⟩ := hQ23
  have N23 := Fr.app N13 Nq23
  have Z23 := Nat.le_trans Z13 Kq23.1
  have K23 := Keep.trans K13 Kq23 all0
  have ne_o0_b23_0 := own_ne f19.lt sz23_0
  have ne_o2_b23_0 := own_ne f21.lt sz23_0
  have ne_b10_0_b23_0 := own_ne f22.lt sz23_0
  have ne_o4_b23_0 := own_ne f20.lt sz23_0
  have ge_b23_0 := Nat.le_trans Z13 sz23_0
  have sz_b23_0 := Nat.le_trans K13.1 sz23_0
  have f25 := (f24.keep Kq23)
  have f26 := (f14.keep Kq23 nin0)
  obtain ⟨T27, h27, X27, e27, W27, st27⟩ := putF X23 hx hZ hown (wf13 hw) Via.refl rfl f26 f25 (Or.inl (wd14 hw)) (wd1 hw) (ty := (.array .long)) (by decide) rfl rfl (g := (mkF m 84 #[vr o0, vi 0, vl y1, sd, vi 0, vi 1, vi 2] [(.ref b23_0), (.ref o0)])) rfl rfl (hb hby dn_84)
  have N27 := Fr.snoc X27 N23 g_o0
  have Z27 : n0 ≤ h27.size := by rw [W27.size]; exact Z23
  have K27 := (K23.wr W27 (Or.inl (List.mem_of_getElem? (i := 0) rfl)))
  have Fw27 := f26.same W27
  have f28 := ((((F_o0_decidedAt.keep Kq10 nin0).other W13 (Or.inr (sn10 hw))).keep Kq23 nin0).other W27 (Or.inr (sn11 hw)))
  obtain ⟨T29, X29, e29, st29⟩ := getF X27 hx hZ hown (wf15 hw) Via.refl e27 f28 (g := (mkF m 90 #[vr o0, vi 0, vl y1, sd, vi 0, vi 1, vi 2] [(.ref o0), (.ref o0), (.ref o0)])) rfl rfl (hb hby dn_90)
  have f30 := ((f18.keep Kq23 nin0).other W27 (Or.inr (sn16 hw)))
  have f31 := ((f19.keep Kq23 nin0).other W27 (Or.inr (sn21 hw)))
  have f32 := ((((V_o6.keep Kq10 nin0).other W13 ne_o6_o0).keep Kq23 nin0).other W27 ne_o6_o0)
  have f33 := ((f21.keep Kq23 nin0).other W27 ne_o2_o0)
  have f34 := ((f22.keep Kq23 nin0).other W27 (Ne.symm ne_o0_b10_0))
  have f35 := ((f20.keep Kq23 nin0).other W27 ne_o4_o0)
  have f36 := (g23_0.other W27 (Ne.symm ne_o0_b23_0))
  have f38 := (f25.wr W27)
  obtain ⟨cq37, q37, q37'⟩ := f38.cell
  obtain ⟨_, _, ⟨T37, L37, kc37, ks37⟩, -, X37, ⟨Lc37, hQ37, l37, y37, z37⟩, st37⟩ := X29.privateBack hx (y := mn5) hown (mvT hZ (wd53 hw)) (mvT hZ (wd54 hw)) (own_selPriv (mvT hZ (wd1 hw)) (Cond.privateMethod_at (mvP hZ (wd55 hw) (args := #[]))) (mvT hZ (wd54 hw)) (by decide)) (Cond.privateMethod_at (mvP hZ (wd55 hw) (args := #[]))) (mvT hZ (wd56 hw)) (by decide) (backOf (W := 1) (rmA62 l Z a0 hw [] o0 o6 _ h27 n0 Z27 f30 f31 f32) hZ (wd56 hw) (wd2 hw) (by decide) (by decide)) (g := (mkF m 96 #[vr o0, vi 0, vl y1, sd, vi 0, vi 1, vi 2] [(.int (2 : Int32)), (.int (1 : Int32)), (.ref o6), (.ref o0), (.ref o0)])) rfl (by rw [hml]; rfl) (Steps.refl _) (a := o0) (by rw [e29]; exact q37) q37' (argsL := [(.ref o6), (.int (1 : Int32)), (.int (2 : Int32))]) (rest := [(.ref o0)]) (lenOf pd___JII__J rfl) rfl (by show 2 * 0 + _ ≤ _; exact Nat.le_of_eq rfl) (hb hby dn_96) (fun _ _ => ⟨rfl, e29, (by decide : 2 + 1 ≤ _), (by decide : 10 + 2 ≤ _)⟩)
  dsimp only [Pt.U, Pt.locs, Pt.cells, Pt.slots] at X37 l37 y37 z37 st37 hQ37
  subst l37 y37 z37
  obtain ⟨b37_0, kv37_1, rfl, Nq37, Kq37, sz37_0, g37_0⟩ := hQ37
  have N37 := Fr.app N27 Nq37
  have Z37 := Nat.le_trans Z27 Kq37.1
  have K37 := Keep.trans K27 Kq37 all0
  have ne_o0_b37_0 := own_ne f31.lt sz37_0
  have ne_o2_b37_0 := own_ne f33.lt sz37_0
  have ne_b10_0_b37_0 := own_ne f34.lt sz37_0
  have ne_o4_b37_0 := own_ne f35.lt sz37_0
  have ne_b23_0_b37_0 := own_ne f36.lt sz37_0
  have ne_o6_b37_0 := own_ne f32.lt sz37_0
  have ge_b37_0 := Nat.le_trans Z27 sz37_0
  have sz_b37_0 := Nat.le_trans K27.1 sz37_0
  have f39 := (f38.keep Kq37)
  have f40 := (f28.keep Kq37 nin0)
  obtain ⟨T41, h41, X41, e41, W41, st41⟩ := putF X37 hx hZ hown (wf15 hw) Via.refl rfl f40 f39 (Or.inl (wd16 hw)) (wd1 hw) (ty := (.array .long)) (by decide) rfl rfl (g := (mkF m 99 #[vr o0, vi 0, vl y1, sd, vi 0, vi 1, vi 2] [(.ref b37_0), (.ref o0)])) rfl rfl (hb hby dn_99)
  have N41 := Fr.snoc X41 N37 g_o0
  have Z41 : n0 ≤ h41.size := by rw [W41.size]; exact Z37
  have K41 := (K37.wr W41 (Or.inl (List.mem_of_getElem? (i := 0) rfl)))
  have Fw41 := f40.same W41
  have f42 := ((f30.keep Kq37 nin0).other W41 (Or.inr (sn17 hw)))
  obtain ⟨T43, X43, e43, st43⟩ := getF X41 hx hZ hown (wf24 hw) Via.refl e41 f42 (g := (mkF m 105 #[vr o0, vi 0, vl y1, sd, vi 0, vi 1, vi 2] [(.ref o0), (.int (0 : Int32))])) rfl rfl (hb hby dn_105)
  have f44 := (f39.wr W41)
  obtain ⟨T45, h45, X45, e45, W45, st45⟩ := putF X43 hx hZ hown (wf24 hw) Via.refl e43 f42 f44 (Or.inl (wd25 hw)) (wd1 hw) (ty := .int) (by decide) rfl rfl (g := (mkF m 113 #[vr o0, vi 0, vl y1, sd, vi 0, vi 1, vi 2] [(.int (0 : Int32)), (.ref o0)])) rfl rfl (hb hby dn_113)
  have N45 := Fr.snoc X45 N41 g_o0
  have Z45 : n0 ≤ h45.size := by rw [W45.size]; exact Z41
  have K45 := (K41.wr W45 (Or.inl (List.mem_of_getElem? (i := 0) rfl)))
  have Fw45 := f42.same W45
  have f46 := (f44.wr W45)
  have f47 := (((f31.keep Kq37 nin0).other W41 (Or.inr (sn22 hw))).other W45 (Or.inr (sn23 hw)))
  obtain ⟨T48, h48, X48, e48, W48, st48⟩ := putF X45 hx hZ hown (wf26 hw) Via.refl e45 f47 f46 (Or.inl (wd27 hw)) (wd1 hw) (ty := .int) (by decide) rfl rfl (g := (mkF m 119 #[vr o0, vi 0, vl y1, sd, vi 0, vi 1, vi 2] [(.int (1 : Int32)), (.ref o0)])) rfl rfl (hb hby dn_119)
  have N48 := Fr.snoc X48 N45 g_o0
  have Z48 : n0 ≤ h48.size := by rw [W48.size]; exact Z45
  have K48 := (K45.wr W48 (Or.inl (List.mem_of_getElem? (i := 0) rfl)))
  have Fw48 := f47.same W48
  have f49 := ((((((Fw13.keep Kq23 nin0).other W27 (Or.inr (sn0 hw))).keep Kq37 nin0).other W41 (Or.inr (sn1 hw))).other W45 (Or.inr (sn2 hw))).other W48 (Or.inr (sn3 hw)))
  obtain ⟨T50, X50, e50, st50⟩ := getF X48 hx hZ hown (wf11 hw) Via.refl e48 f49 (g := (mkF m 123 #[vr o0, vi 0, vl y1, sd, vi 0, vi 1, vi 2] [(.ref o0)])) rfl rfl (hb hby dn_123)
  obtain ⟨T51, X51, e51, st51⟩ := getF X50 hx hZ hown (wf11 hw) Via.refl e50 f49 (g := (mkF m 129 #[vr o0, vi 0, vl y1, sd, vi 0, vi 1, vi 2] [(.ref o0), (.int (0 : Int32)), (.ref b10_0)])) rfl rfl (hb hby dn_129)
  obtain ⟨T52, X52, e52, st52⟩ := getF X51 hx hZ hown (wf26 hw) Via.refl e51 Fw48 (g := (mkF m 137 #[vr o0, vi 0, vl y1, sd, vi 0, vi 1, vi 2] [(.ref o0), (.int (1 : Int32)), (.ref b10_0), (.int (0 : Int32)), (.ref b10_0)])) rfl rfl (hb hby dn_137)
  have f53 := ((((f34.keep Kq37 nin0).other W41 (Ne.symm ne_o0_b10_0)).other W45 (Ne.symm ne_o0_b10_0)).other W48 (Ne.symm ne_o0_b10_0))
  obtain ⟨T54, h54, Lq54, X54, e54, Nq54, Kq54, Vq54, st54⟩ := cpA X52 hx hZ hown (wd58 hw) (wd61 hw) (wd59 hw) (wd60 hw) e52 (us := [(.long y3)]) f53 f53 (Or.inl ⟨rfl, rfl⟩) (by decide) (by decide) (by decide) (by first | decide | exact Nat.le_of_ble_eq_true rfl) (by first | decide | exact Nat.le_of_ble_eq_true rfl) (by rfl) (by first | decide | exact Nat.le_of_ble_eq_true rfl) N48 ge_b10_0 (g := (mkF m 143 #[vr o0, vi 0, vl y1, sd, vi 0, vi 1, vi 2] [(.int (1 : Int32)), (.int (1 : Int32)), (.ref b10_0), (.int (0 : Int32)), (.ref b10_0)])) rfl (by rw [hml]; rfl) rfl (hb hby dn_143) (by decide) (W := 0) (by show 2 * 0 + _ ≤ _; exact Nat.le_of_eq rfl) (by decide)
  have Z54 := Nat.le_trans Z48 Kq54.1
  have K54 := Keep.trans K48 Kq54 (allS (Or.inr sz_b10_0) all0)
  have V54 : Arv Z h54 b10_0 _ .long (2 : Int32) [(.long y3), (.long y3)] (.long (0 : Int64)) := Vq54
  have f55 := (((((Fw27.keep Kq37 nin0).other W41 (Or.inr (sn6 hw))).other W45 (Or.inr (sn7 hw))).other W48 (Or.inr (sn8 hw))).keep Kq54 (ninS ne_o0_b10_0 nin0))
  obtain ⟨T56, X56, e56, st56⟩ := getF X54 hx hZ hown (wf13 hw) Via.refl e54 f55 (g := (mkF m 147 #[vr o0, vi 0, vl y1, sd, vi 0, vi 1, vi 2] [(.ref o0)])) rfl rfl (hb hby dn_147)
  have f57 := (((((((f16.keep Kq23 nin0).other W27 (Or.inr (sn26 hw))).keep Kq37 nin0).other W41 (Or.inr (sn27 hw))).other W45 (Or.inr (sn28 hw))).other W48 (Or.inr (sn29 hw))).keep Kq54 (ninS ne_o0_b10_0 nin0))
  obtain ⟨T58, X58, e58, st58⟩ := getF X56 hx hZ hown (wf17 hw) Via.refl e56 f57 (g := (mkF m 153 #[vr o0, vi 0, vl y1, sd, vi 0, vi 1, vi 2] [(.ref o0), (.int (0 : Int32)), (.ref b23_0)])) rfl rfl (hb hby dn_153)
  obtain ⟨T59, X59, e59, st59⟩ := getF X58 hx hZ hown (wf13 hw) Via.refl e58 f55 (g := (mkF m 158 #[vr o0, vi 0, vl y1, sd, vi 0, vi 1, vi 2] [(.ref o0), (.int (0 : Int32)), (.ref b23_0)])) rfl rfl (hb hby dn_158)
  obtain ⟨T60, X60, e60, st60⟩ := getF X59 hx hZ hown (wf17 hw) Via.refl e59 f57 (g := (mkF m 166 #[vr o0, vi 0, vl y1, sd, vi 0, vi 1, vi 2] [(.ref o0), (.int (1 : Int32)), (.ref b23_0), (.int (0 : Int32)), (.ref b23_0)])) rfl rfl (hb hby dn_166)
  have f61 := (Fw48.keep Kq54 (ninS ne_o0_b10_0 nin0))
  obtain ⟨T62, X62, e62, st62⟩ := getF X60 hx hZ hown (wf26 hw) Via.refl e60 f61 (g := (mkF m 171 #[vr o0, vi 0, vl y1, sd, vi 0, vi 1, vi 2] [(.ref o0), (.int (4 : Int32)), (.ref b23_0), (.int (0 : Int32)), (.ref b23_0)])) rfl rfl (hb hby dn_171)
  obtain ⟨T63, X63, e63, st63⟩ := getF X62 hx hZ hown (wf17 hw) Via.refl e62 f57 (g := (mkF m 178 #[vr o0, vi 0, vl y1, sd, vi 0, vi 1, vi 2] [(.ref o0), (.int (1 : Int32)), (.int (4 : Int32)), (.ref b23_0), (.int (0 : Int32)), (.ref b23_0)])) rfl rfl (hb hby dn_178)
  have f64 := (((((f36.keep Kq37 nin0).other W41 (Ne.symm ne_o0_b23_0)).other W45 (Ne.symm ne_o0_b23_0)).other W48 (Ne.symm ne_o0_b23_0)).keep Kq54 (ninS (Ne.symm ne_b10_0_b23_0) nin0))
  obtain ⟨T65, h65, Lq65, X65, e65, Nq65, Kq65, Vq65, st65⟩ := cpA X63 hx hZ hown (wd58 hw) (wd61 hw) (wd59 hw) (wd60 hw) e63 (us := [(.long y5), (.long (0 : Int64)), (.long (0 : Int64)), (.long (0 : Int64))]) f64 f64 (Or.inl ⟨rfl, rfl⟩) (by decide) (by decide) (by decide) (by first | decide | exact Nat.le_of_ble_eq_true rfl) (by first | decide | exact Nat.le_of_ble_eq_true rfl) (by rfl) (by first | decide | exact Nat.le_of_ble_eq_true rfl) Nq54 ge_b23_0 (g := (mkF m 182 #[vr o0, vi 0, vl y1, sd, vi 0, vi 1, vi 2] [(.int (4 : Int32)), (.int (4 : Int32)), (.ref b23_0), (.int (0 : Int32)), (.ref b23_0)])) rfl (by rw [hml]; rfl) rfl (hb hby dn_182) (by decide) (W := 0) (by show 2 * 0 + _ ≤ _; exact Nat.le_of_eq rfl) (by decide)
  have Z65 := Nat.le_trans Z54 Kq65.1
  have K65 := Keep.trans K54 Kq65 (allS (Or.inr sz_b23_0) all0)
  have V65 : Arv Z h65 b23_0 _ .long (8 : Int32) [(.long y5), (.long (0 : Int64)), (.long (0 : Int64)), (.long (0 : Int64)), (.long y5), (.long (0 : Int64)), (.long (0 : Int64)), (.long (0 : Int64))] (.long (0 : Int64)) := Vq65
  have f66 := ((((Fw41.other W45 (Or.inr (sn12 hw))).other W48 (Or.inr (sn13 hw))).keep Kq54 (ninS ne_o0_b10_0 nin0)).keep Kq65 (ninS ne_o0_b23_0 nin0))
  obtain ⟨T67, X67, e67, st67⟩ := getF X65 hx hZ hown (wf15 hw) Via.refl e65 f66 (g := (mkF m 186 #[vr o0, vi 0, vl y1, sd, vi 0, vi 1, vi 2] [(.ref o0)])) rfl rfl (hb hby dn_186)
  obtain ⟨T68, X68, e68, st68⟩ := getF X67 hx hZ hown (wf15 hw) Via.refl e67 f66 (g := (mkF m 192 #[vr o0, vi 0, vl y1, sd, vi 0, vi 1, vi 2] [(.ref o0), (.int (0 : Int32)), (.ref b37_0)])) rfl rfl (hb hby dn_192)
  have f69 := (f61.keep Kq65 (ninS ne_o0_b23_0 nin0))
  obtain ⟨T70, X70, e70, st70⟩ := getF X68 hx hZ hown (wf26 hw) Via.refl e68 f69 (g := (mkF m 200 #[vr o0, vi 0, vl y1, sd, vi 0, vi 1, vi 2] [(.ref o0), (.int (1 : Int32)), (.ref b37_0), (.int (0 : Int32)), (.ref b37_0)])) rfl rfl (hb hby dn_200)
  have f71 := (((((g37_0.other W41 (Ne.symm ne_o0_b37_0)).other W45 (Ne.symm ne_o0_b37_0)).other W48 (Ne.symm ne_o0_b37_0)).keep Kq54 (ninS (Ne.symm ne_b10_0_b37_0) nin0)).keep Kq65 (ninS (Ne.symm ne_b23_0_b37_0) nin0))
  obtain ⟨T72, h72, Lq72, X72, e72, Nq72, Kq72, Vq72, st72⟩ := cpA X70 hx hZ hown (wd58 hw) (wd61 hw) (wd59 hw) (wd60 hw) e70 (us := [(.long (0 : Int64))]) f71 f71 (Or.inl ⟨rfl, rfl⟩) (by decide) (by decide) (by decide) (by first | decide | exact Nat.le_of_ble_eq_true rfl) (by first | decide | exact Nat.le_of_ble_eq_true rfl) (by rfl) (by first | decide | exact Nat.le_of_ble_eq_true rfl) Nq65 ge_b37_0 (g := (mkF m 206 #[vr o0, vi 0, vl y1, sd, vi 0, vi 1, vi 2] [(.int (1 : Int32)), (.int (1 : Int32)), (.ref b37_0), (.int (0 : Int32)), (.ref b37_0)])) rfl (by rw [hml]; rfl) rfl (hb hby dn_206) (by decide) (W := 0) (by show 2 * 0 + _ ≤ _; exact Nat.le_of_eq rfl) (by decide)
  have Z72 := Nat.le_trans Z65 Kq72.1
  have K72 := Keep.trans K65 Kq72 (allS (Or.inr sz_b37_0) all0)
  have V72 : Arv Z h72 b37_0 _ .long (2 : Int32) [(.long (0 : Int64)), (.long (0 : Int64))] (.long (0 : Int64)) := Vq72
  have f73 := (((f49.keep Kq54 (ninS ne_o0_b10_0 nin0)).keep Kq65 (ninS ne_o0_b23_0 nin0)).keep Kq72 (ninS ne_o0_b37_0 nin0))
  obtain ⟨T74, X74, e74, st74⟩ := getF X72 hx hZ hown (wf11 hw) Via.refl e72 f73 (g := (mkF m 210 #[vr o0, vi 0, vl y1, sd, vi 0, vi 1, vi 2] [(.ref o0)])) rfl rfl (hb hby dn_210)
  have f75 := ((V54.keep Kq65 (ninS ne_b10_0_b23_0 nin0)).keep Kq72 (ninS ne_b10_0_b37_0 nin0))
  obtain ⟨cl76, Ar76, q76, S76, M76, HH76, GG76⟩ := id f75
  have hin76 : ¬ ((0 : Int32) < 0 ∨ cl76.slots.size ≤ ((0 : Int32)).toNatClampNeg) := inb_of S76 ⟨by decide, by decide⟩
  obtain ⟨T77, h77, X77, e77, W77, st77⟩ := stJ X74 hx hZ e74 Ar76 (j := (0 : Int32)) hin76 (g := (mkF m 216 #[vr o0, vi 0, vl y1, sd, vi 0, vi 1, vi 2] [(.long y1), (.int (0 : Int32)), (.ref b10_0)])) rfl rfl (hb hby dn_216)
  have N77 := Fr.snoc X77 Nq72 ge_b10_0
  have Z77 : n0 ≤ h77.size := by rw [W77.size]; exact Z72
  have K77 := (K72.wr W77 (Or.inr sz_b10_0))
  have V77 := Arv.set Ar76 q76 S76 M76 HH76 GG76 rfl W77 0 rfl (Nat.le_of_ble_eq_true rfl)
  have f78 := (((f55.keep Kq65 (ninS ne_o0_b23_0 nin0)).keep Kq72 (ninS ne_o0_b37_0 nin0)).other W77 (Or.inl ne_o0_b10_0))
  obtain ⟨T79, X79, e79, st79⟩ := getF X77 hx hZ hown (wf13 hw) Via.refl e77 f78 (g := (mkF m 218 #[vr o0, vi 0, vl y1, sd, vi 0, vi 1, vi 2] [(.ref o0)])) rfl rfl (hb hby dn_218)
  have f80 := (((f57.keep Kq65 (ninS ne_o0_b23_0 nin0)).keep Kq72 (ninS ne_o0_b37_0 nin0)).other W77 (Or.inl ne_o0_b10_0))
  obtain ⟨T81, X81, e81, st81⟩ := getF X79 hx hZ hown (wf17 hw) Via.refl e79 f80 (g := (mkF m 224 #[vr o0, vi 0, vl y1, sd, vi 0, vi 1, vi 2] [(.ref o0), (.int (0 : Int32)), (.ref b23_0)])) rfl rfl (hb hby dn_224)
  obtain ⟨T82, X82, e82, st82⟩ := getF X81 hx hZ hown (wf17 hw) Via.refl e81 f80 (g := (mkF m 233 #[vr o0, vi 0, vl y1, sd, vi 0, vi 1, vi 2] [(.ref o0), (.int (1 : Int32)), (.int (0 : Int32)), (.ref b23_0)])) rfl rfl (hb hby dn_233)
  have f83 := ((V65.keep Kq72 (ninS ne_b23_0_b37_0 nin0)).other W77 (Ne.symm ne_b10_0_b23_0))
  obtain ⟨_, _, ⟨T84, L84, kc84, ks84⟩, -, X84, ⟨Lc84, hQ84, l84, y84, z84⟩, st84⟩ := Jvm.LawKit.callS X82 hx (y := mn12) hown (mvT hZ (wd62 hw)) (mvT hZ (wd63 hw)) (mvT hZ (wd37 hw)) (mvT hZ (wd64 hw)) (by decide) (backOf (W := 0) (rmA74 l Z a0 hw [] b23_0 y5 _ h77 n0 Z77 f83 ge_b23_0) hZ (wd64 hw) (wd37 hw) (by decide) (by decide)) (g := (mkF m 238 #[vr o0, vi 0, vl y1, sd, vi 0, vi 1, vi 2] [(.long (0 : Int64)), (.int (4 : Int32)), (.int (0 : Int32)), (.ref b23_0)])) rfl (by rw [hml]; rfl) (argsL := [(.ref b23_0), (.int (0 : Int32)), (.int (4 : Int32)), (.long (0 : Int64))]) (rest := []) (lenOf pd___JIIJ_V rfl) rfl (by show 2 * 0 + _ ≤ _; exact Nat.le_of_eq rfl) (hb hby dn_238) (fun _ _ => ⟨rfl, e82, (by decide : 3 + 0 ≤ _), (by decide : 12 + 0 ≤ _)⟩)
  dsimp only [Pt.U, Pt.locs, Pt.cells, Pt.slots] at X84 l84 y84 z84 st84 hQ84
  subst l84 y84 z84
  obtain ⟨rfl, Nq84, Kq84, g84_0⟩ := hQ84
  have N84 := Fr.app N77 Nq84
  have Z84 := Nat.le_trans Z77 Kq84.1
  have K84 := Keep.trans K77 Kq84 (allS (Or.inr sz_b23_0) all0)
  have f85 := (((f69.keep Kq72 (ninS ne_o0_b37_0 nin0)).other W77 (Or.inl ne_o0_b10_0)).keep Kq84 (ninS ne_o0_b23_0 nin0))
  obtain ⟨T86, X86, e86, st86⟩ := getF X84 hx hZ hown (wf26 hw) Via.refl rfl f85 (g := (mkF m 243 #[vr o0, vi 0, vl y1, sd, vi 0, vi 1, vi 2] [(.ref o0), (.ref o0)])) rfl rfl (hb hby dn_243)
  have f87 := ((((((f46.wr W48).keep Kq54).keep Kq65).keep Kq72).wr W77).keep Kq84)
  obtain ⟨T88, h88, X88, e88, W88, st88⟩ := putF X86 hx hZ hown (wf26 hw) Via.refl e86 f85 f87 (Or.inl (wd27 hw)) (wd1 hw) (ty := .int) (by decide) rfl rfl (g := (mkF m 248 #[vr o0, vi 0, vl y1, sd, vi 0, vi 1, vi 2] [(.int (2 : Int32)), (.ref o0)])) rfl rfl (hb hby dn_248)
  have N88 := Fr.snoc X88 N84 g_o0
  have Z88 : n0 ≤ h88.size := by rw [W88.size]; exact Z84
  have K88 := (K84.wr W88 (Or.inl (List.mem_of_getElem? (i := 0) rfl)))
  have Fw88 := f85.same W88
  have f89 := (((f73.other W77 (Or.inl ne_o0_b10_0)).keep Kq84 (ninS ne_o0_b23_0 nin0)).other W88 (Or.inr (sn3 hw)))
  have f90 := (((((((Fw45.other W48 (Or.inr (sn18 hw))).keep Kq54 (ninS ne_o0_b10_0 nin0)).keep Kq65 (ninS ne_o0_b23_0 nin0)).keep Kq72 (ninS ne_o0_b37_0 nin0)).other W77 (Or.inl ne_o0_b10_0)).keep Kq84 (ninS ne_o0_b23_0 nin0)).other W88 (Or.inr (sn18 hw)))
  have f91 := (f87.wr W88)
  have f92 := ((V77.keep Kq84 (ninS ne_b10_0_b23_0 nin0)).other W88 (Ne.symm ne_o0_b10_0))
  have f93 := ((f78.keep Kq84 (ninS ne_o0_b23_0 nin0)).other W88 (Or.inr (sn8 hw)))
  have f94 := ((f80.keep Kq84 (ninS ne_o0_b23_0 nin0)).other W88 (Or.inr (sn29 hw)))
  have f95 := (g84_0.other W88 (Ne.symm ne_o0_b23_0))
  have f96 := ((((f66.keep Kq72 (ninS ne_o0_b37_0 nin0)).other W77 (Or.inl ne_o0_b10_0)).keep Kq84 (ninS ne_o0_b23_0 nin0)).other W88 (Or.inr (sn13 hw)))
  have f97 := (((V72.other W77 (Ne.symm ne_b10_0_b37_0)).keep Kq84 (ninS (Ne.symm ne_b23_0_b37_0) nin0)).other W88 (Ne.symm ne_o0_b37_0))
  subst hEN
  obtain ⟨lfs, lhr, lhrun, lhended, lhW, lhsame⟩ := X88.leave (v := some (.int (0 : Int32))) (fun h => by rw [Bd.returns] at h; cases h)
  refine ⟨_, _, pre0 _ ?_, lhrun, lhended, _, _, rfl, ?_, ⟨_, rfl⟩, lhW, lhsame.mono (by decide) (by decide)⟩
  · skip
    refine XS.iloadN X0.here hx rfl (hb hby dn_0) rfl ?_
    refine XS.istore X0.here hx rfl (hb hby dn_1) rfl (l' := #[vr o0, vi 0, vl y1, sd, vi 0, un, un]) rfl ?_
    refine XS.aloadN X0.here hx rfl (hb hby dn_3) rfl rfl ?_
    refine st1 _ ?_
    refine XS.aloadN X1.here hx rfl (hb hby dn_7) rfl rfl ?_
    refine st2 _ ?_
    refine X2.arraylength hx (by (try rw [e2]); exact Ar3.1) (State.isArrayOf_alike hZ.alike Ar3.2.1) (g := (mkF m 11 #[vr o0, vi 0, vl y1, sd, vi 0, un, un] [(.ref o2), (.int (1 : Int32))])) rfl rfl (hb hby dn_11) _ ?_
    rw [len_of S3 M3]
    refine XS.icmpNo X2.here hx rfl (hb hby dn_12) rfl (teq (by decide : (1 : Int32) = (1 : Int32))).2 ?_
    refine XS.aloadN X2.here hx rfl (hb hby dn_15) rfl rfl ?_
    refine st4 _ ?_
    refine XS.aloadN X4.here hx rfl (hb hby dn_19) rfl rfl ?_
    refine st5 _ ?_
    refine XS.isub X5.here hx rfl (hb hby dn_23) rfl ?_
    refine XS.istore X5.here hx rfl (hb hby dn_24) rfl (l' := #[vr o0, vi 0, vl y1, sd, vi 0, vi 1, un]) rfl ?_
    refine XS.iload X5.here hx rfl (hb hby dn_26) rfl ?_
    refine XS.aloadN X5.here hx rfl (hb hby dn_28) rfl rfl ?_
    refine st6 _ ?_
    refine X6.arraylength hx (by (try rw [e6]); exact Ar7.1) (State.isArrayOf_alike hZ.alike Ar7.2.1) (g := (mkF m 32 #[vr o0, vi 0, vl y1, sd, vi 0, vi 1, un] [(.ref o2), (.int (1 : Int32))])) rfl rfl (hb hby dn_32) _ ?_
    rw [len_of S7 M7]
    refine XS.icmpNo X6.here hx rfl (hb hby dn_33) rfl (teq (by decide : (1 : Int32) = (1 : Int32))).2 ?_
    refine XS.iconst X6.here hx rfl (hb hby dn_36) ?_
    refine XS.iconst X6.here hx rfl (hb hby dn_37) ?_
    refine XS.iload X6.here hx rfl (hb hby dn_38) rfl ?_
    refine XS.imul X6.here hx rfl (hb hby dn_40) rfl ?_
    refine st8 _ ?_
    refine XS.goto X8.here hx rfl (pc0 := 44) (pc' := 52) rfl (hb hby dn_44) (by decide) (by decide) ?_
    refine XS.istore X8.here hx rfl (hb hby dn_52) rfl (l' := #[vr o0, vi 0, vl y1, sd, vi 0, vi 1, vi 2]) rfl ?_
    refine XS.aloadN X8.here hx rfl (hb hby dn_54) rfl rfl ?_
    refine XS.aloadN X8.here hx rfl (hb hby dn_55) rfl rfl ?_
    refine XS.aloadN X8.here hx rfl (hb hby dn_56) rfl rfl ?_
    refine st9 _ ?_
    refine XS.iconst X9.here hx rfl (hb hby dn_60) ?_
    refine XS.iload X9.here hx rfl (hb hby dn_61) rfl ?_
    refine st10.trans ?_
    refine st13 _ ?_
    refine XS.aloadN X13.here hx rfl (hb hby dn_69) rfl rfl ?_
    refine XS.aloadN X13.here hx rfl (hb hby dn_70) rfl rfl ?_
    refine XS.aloadN X13.here hx rfl (hb hby dn_71) rfl rfl ?_
    refine st15 _ ?_
    refine XS.aloadN X15.here hx rfl (hb hby dn_75) rfl rfl ?_
    refine st17 _ ?_
    refine XS.iload X17.here hx rfl (hb hby dn_79) rfl ?_
    refine st23.trans ?_
    refine st27 _ ?_
    refine XS.aloadN X27.here hx rfl (hb hby dn_87) rfl rfl ?_
    refine XS.aloadN X27.here hx rfl (hb hby dn_88) rfl rfl ?_
    refine XS.aloadN X27.here hx rfl (hb hby dn_89) rfl rfl ?_
    refine st29 _ ?_
    refine XS.iconst X29.here hx rfl (hb hby dn_93) ?_
    refine XS.iload X29.here hx rfl (hb hby dn_94) rfl ?_
    refine st37.trans ?_
    refine st41 _ ?_
    refine XS.iload X41.here hx rfl (hb hby dn_102) rfl ?_
    refine XS.aloadN X41.here hx rfl (hb hby dn_104) rfl rfl ?_
    refine st43 _ ?_
    refine XS.isub X43.here hx rfl (hb hby dn_108) rfl ?_
    refine XS.istore X43.here hx rfl (hb hby dn_109) rfl (l' := #[vr o0, vi 0, vl y1, sd, vi 0, vi 1, vi 2]) rfl ?_
    refine XS.aloadN X43.here hx rfl (hb hby dn_111) rfl rfl ?_
    refine XS.iconst X43.here hx rfl (hb hby dn_112) ?_
    refine st45 _ ?_
    refine XS.aloadN X45.here hx rfl (hb hby dn_116) rfl rfl ?_
    refine XS.iload X45.here hx rfl (hb hby dn_117) rfl ?_
    refine st48 _ ?_
    refine XS.aloadN X48.here hx rfl (hb hby dn_122) rfl rfl ?_
    refine st50 _ ?_
    refine XS.iload X50.here hx rfl (hb hby dn_126) rfl ?_
    refine XS.aloadN X50.here hx rfl (hb hby dn_128) rfl rfl ?_
    refine st51 _ ?_
    refine XS.iload X51.here hx rfl (hb hby dn_132) rfl ?_
    refine XS.iconst X51.here hx rfl (hb hby dn_134) ?_
    refine XS.iadd X51.here hx rfl (hb hby dn_135) rfl ?_
    refine XS.aloadN X51.here hx rfl (hb hby dn_136) rfl rfl ?_
    refine st52 _ ?_
    refine XS.iload X52.here hx rfl (hb hby dn_140) rfl ?_
    refine XS.isub X52.here hx rfl (hb hby dn_142) rfl ?_
    refine st54 _ ?_
    refine XS.aloadN X54.here hx rfl (hb hby dn_146) rfl rfl ?_
    refine st56 _ ?_
    refine XS.iload X56.here hx rfl (hb hby dn_150) rfl ?_
    refine XS.aloadN X56.here hx rfl (hb hby dn_152) rfl rfl ?_
    refine st58 _ ?_
    refine XS.imul X58.here hx rfl (hb hby dn_156) rfl ?_
    refine XS.aloadN X58.here hx rfl (hb hby dn_157) rfl rfl ?_
    refine st59 _ ?_
    refine XS.iload X59.here hx rfl (hb hby dn_161) rfl ?_
    refine XS.iconst X59.here hx rfl (hb hby dn_163) ?_
    refine XS.iadd X59.here hx rfl (hb hby dn_164) rfl ?_
    refine XS.aloadN X59.here hx rfl (hb hby dn_165) rfl rfl ?_
    refine st60 _ ?_
    refine XS.imul X60.here hx rfl (hb hby dn_169) rfl ?_
    refine XS.aloadN X60.here hx rfl (hb hby dn_170) rfl rfl ?_
    refine st62 _ ?_
    refine XS.iload X62.here hx rfl (hb hby dn_174) rfl ?_
    refine XS.isub X62.here hx rfl (hb hby dn_176) rfl ?_
    refine XS.aloadN X62.here hx rfl (hb hby dn_177) rfl rfl ?_
    refine st63 _ ?_
    refine XS.imul X63.here hx rfl (hb hby dn_181) rfl ?_
    refine st65 _ ?_
    refine XS.aloadN X65.here hx rfl (hb hby dn_185) rfl rfl ?_
    refine st67 _ ?_
    refine XS.iload X67.here hx rfl (hb hby dn_189) rfl ?_
    refine XS.aloadN X67.here hx rfl (hb hby dn_191) rfl rfl ?_
    refine st68 _ ?_
    refine XS.iload X68.here hx rfl (hb hby dn_195) rfl ?_
    refine XS.iconst X68.here hx rfl (hb hby dn_197) ?_
    refine XS.iadd X68.here hx rfl (hb hby dn_198) rfl ?_
    refine XS.aloadN X68.here hx rfl (hb hby dn_199) rfl rfl ?_
    refine st70 _ ?_
    refine XS.iload X70.here hx rfl (hb hby dn_203) rfl ?_
    refine XS.isub X70.here hx rfl (hb hby dn_205) rfl ?_
    refine st72 _ ?_
    refine XS.aloadN X72.here hx rfl (hb hby dn_209) rfl rfl ?_
    refine st74 _ ?_
    refine XS.iload X74.here hx rfl (hb hby dn_213) rfl ?_
    refine XS.lloadN X74.here hx rfl (hb hby dn_215) rfl ?_
    refine st77 _ ?_
    refine XS.aloadN X77.here hx rfl (hb hby dn_217) rfl rfl ?_
    refine st79 _ ?_
    refine XS.iload X79.here hx rfl (hb hby dn_221) rfl ?_
    refine XS.aloadN X79.here hx rfl (hb hby dn_223) rfl rfl ?_
    refine st81 _ ?_
    refine XS.imul X81.here hx rfl (hb hby dn_227) rfl ?_
    refine XS.iload X81.here hx rfl (hb hby dn_228) rfl ?_
    refine XS.iconst X81.here hx rfl (hb hby dn_230) ?_
    refine XS.iadd X81.here hx rfl (hb hby dn_231) rfl ?_
    refine XS.aloadN X81.here hx rfl (hb hby dn_232) rfl rfl ?_
    refine st82 _ ?_
    refine XS.imul X82.here hx rfl (hb hby dn_236) rfl ?_
    refine XS.lconst X82.here hx rfl (hb hby dn_237) ?_
    refine st84 _ ?_
    refine XS.aloadN X84.here hx rfl (hb hby dn_241) rfl rfl ?_
    refine XS.dup X84.here hx rfl (hb hby dn_242) rfl rfl ?_
    refine st86 _ ?_
    refine XS.iconst X86.here hx rfl (hb hby dn_246) ?_
    refine XS.iadd X86.here hx rfl (hb hby dn_247) rfl ?_
    refine st88 _ ?_
    refine XS.iload X88.here hx rfl (hb hby dn_251) rfl ?_
    show SS p e below T88 (mkF m 253 #[vr o0, vi 0, vl y1, sd, vi 0, vi 1, vi 2] [(.int (0 : Int32))]) _
    exact retI X88 hx Bd.returns (hb hby dn_253) lhr
  · skip
    show QA69 Z o0 y1 o2 y3 kk_o2 o4 y5 kk_o4 o6 kk_o6 h0 n0 _ T88.heap _
    rw [e88]
    exact ⟨b10_0, b23_0, b37_0, _, _, _, rfl, N88, K88, sz_b10_0, sz_b23_0, sz_b37_0, ne_b10_0_b23_0, ne_b10_0_b37_0, ne_b23_0_b37_0, Fw88, f89, f90, f91, f92, f93, f94, f95, f96, f97⟩
def QA76 (Z : State) (o0 : Addr) (y1 : Int64) (y2 : Int64) (kk_o0 : ClassId) (h0 : Heap) (n0 : Nat) (v : Option Value) (h : Heap) (L : List Loc) : Prop := v = none ∧ Fr n0 L ∧ Keep h0 h [o0] ∧ Arv Z h o0 kk_o0 .long (8 : Int32) [(.long ((0 : Int64) + y1)), (.long (0 : Int64)), (.long (0 : Int64)), (.long (0 : Int64)), (.long y2), (.long (0 : Int64)), (.long (0 : Int64)), (.long (0 : Int64))] (.long (0 : Int64))
set_option maxRecDepth 65536 in
set_option maxHeartbeats 40000000 in
theorem rmA76 (l : Launch) (Z : State) (a0 : Array Value) (hw : ∀ d ∈ tables_1, d.before a0 Z = true) (ws : List Jvm.Cond) (o0 : Addr) (y1 : Int64) (y2 : Int64) (kk_o0 : ClassId) (h0 : Heap) (n0 : Nat) (Z0 : n0 ≤ h0.size) (V_o0 : Arv Z h0 o0 kk_o0 .long (8 : Int32) [(.long (0 : Int64)), (.long (0 : Int64)), (.long (0 : Int64)), (.long (0 : Int64)), (.long y2), (.long (0 : Int64)), (.long (0 : Int64)), (.long (0 : Int64))] (.long (0 : Int64))) (g_o0 : n0 ≤ o0) (hq2 : ¬ (y1 = (0 : Int64))) :
    MetFree l mn6 (head1 (Jvm.Cond.code mn6 prog_59_method_3_code 9 none :: ws) ({ frames := 1, cells := 0, slots := 0, locals := 17 } : Room)) (fun a U => a = #[(.ref o0), (.int (0 : Int32)), (.int (4 : Int32)), (.long (0 : Int64)), (.long y1)] ∧ Z.Warmed39 U.vm ∧ U.heap = h0) (fun _ _ _ _ _ => True) (fun _ U oc_ U' => ∃ v L, oc_ = .returned v ∧ QA76 Z o0 y1 y2 kk_o0 h0 n0 v U'.heap L ∧ FrameEnd U oc_ U' L ({ frames := 1, cells := 0, slots := 0, locals := 17 } : Room).cells ({ frames := 1, cells := 0, slots := 0, locals := 17 } : Room).slots) := by
  refine MetFree.of_bodySF (plainFor_of_name pn_com_example_strict_limiter_strictlimiter_WindowRecord) hisR ?_
  intro p e s m args below meth c s₁ Bd hml0 hP hK
  obtain ⟨rfl, hZ, hh⟩ := hP
  have hx := Bd.exec
  have hby := Bd.bytes
  have hml : c.maxLocals = 9 := hml0
  have hown : s.vm.findClass cn1 = some m.cls := findClass_of_methodNamed Bd.named
  have hnm := (name_of_methodNamed Bd.named Bd.method).1
  have X0 : Stand p l e ({ frames := 1, cells := 0, slots := 0, locals := 17 } : Room) s m #[(.ref o0), (.int (0 : Int32)), (.int (4 : Int32)), (.long (0 : Int64)), (.long y1)] below meth c s₁ [] 0 0 := Stand.of_body Bd
  have e0 : s₁.heap = h0 := by rw [← hh, Bd.state]; rfl
  have N0 := Fr.nil n0
  have pre0 : ∀ t, SS p e below s₁ (mkF m 0 #[vr o0, vi 0, vi 4, vl 0, sd, vl y1, sd, un, un] []) t → Steps p.tables e below (s₁.setTop (entryFrame m #[(.ref o0), (.int (0 : Int32)), (.int (4 : Int32)), (.long (0 : Int64)), (.long y1)] 9)) t := fun t k => castTop (efa_prog_59_method_3_code_vvvvv m o0 (0 : Int32) (4 : Int32) (0 : Int64) y1) k
  obtain ⟨EN, hEN⟩ : ∃ z, z = s₁.setTop (entryFrame m #[(.ref o0), (.int (0 : Int32)), (.int (4 : Int32)), (.long (0 : Int64)), (.long y1)] 9) := ⟨_, rfl⟩
  rw [← hEN] at pre0
  obtain ⟨cl1, Ar1, q1, S1, M1, HH1, GG1⟩ := id V_o0
  have hin1 : ¬ ((0 : Int32) < 0 ∨ cl1.slots.size ≤ ((0 : Int32)).toNatClampNeg) := inb_of S1 ⟨by decide, by decide⟩
  have hat1 : cl1.slots[((0 : Int32)).toNatClampNeg]? = some (.long (0 : Int64)) := Has.at HH1 hin1 rfl
  obtain ⟨cl2, Ar2, q2, S2, M2, HH2, GG2⟩ := id V_o0
  have hin2 : ¬ ((0 : Int32) < 0 ∨ cl2.slots.size ≤ ((0 : Int32)).toNatClampNeg) := inb_of S2 ⟨by decide, by decide⟩
  obtain ⟨T3, h3, X3, e3, W3, st3⟩ := stJ X0 hx hZ e0 Ar2 (j := (0 : Int32)) hin2 (g := (mkF m 16 #[vr o0, vi 0, vi 4, vl 0, sd, vl y1, sd, vl 0, sd] [(.long ((0 : Int64) + y1)), (.int (0 : Int32)), (.ref o0)])) rfl rfl (hb hby db_16)
  have N3 := Fr.snoc X3 N0 g_o0
  have Z3 : n0 ≤ h3.size := by rw [W3.size]; exact Z0
  have K3 : Keep h0 h3 [o0] := ((Keep.refl h0 [o0]).wr W3 (Or.inl (List.mem_of_getElem? (i := 0) rfl)))
  have V3 := Arv.set Ar2 q2 S2 M2 HH2 GG2 rfl W3 0 rfl (Nat.le_of_ble_eq_true rfl)
  obtain ⟨cl4, Ar4, q4, S4, M4, HH4, GG4⟩ := id V3
  have hin4 : ¬ ((1 : Int32) < 0 ∨ cl4.slots.size ≤ ((1 : Int32)).toNatClampNeg) := inb_of S4 ⟨by decide, by decide⟩
  obtain ⟨T5, h5, X5, e5, W5, st5⟩ := stJ X3 hx hZ e3 Ar4 (j := (1 : Int32)) hin4 (g := (mkF m 42 #[vr o0, vi 0, vi 4, vl 0, sd, vl y1, sd, vl 0, sd] [(.long (0 : Int64)), (.int (1 : Int32)), (.ref o0)])) rfl rfl (hb hby db_42)
  have N5 := Fr.snoc X5 N3 g_o0
  have Z5 : n0 ≤ h5.size := by rw [W5.size]; exact Z3
  have K5 := (K3.wr W5 (Or.inl (List.mem_of_getElem? (i := 0) rfl)))
  have V5 := Arv.set Ar4 q4 S4 M4 HH4 GG4 rfl W5 1 rfl (Nat.le_of_ble_eq_true rfl)
  obtain ⟨cl6, Ar6, q6, S6, M6, HH6, GG6⟩ := id V5
  have hin6 : ¬ ((2 : Int32) < 0 ∨ cl6.slots.size ≤ ((2 : Int32)).toNatClampNeg) := inb_of S6 ⟨by decide, by decide⟩
  obtain ⟨T7, h7, X7, e7, W7, st7⟩ := stJ X5 hx hZ e5 Ar6 (j := (2 : Int32)) hin6 (g := (mkF m 48 #[vr o0, vi 0, vi 4, vl 0, sd, vl y1, sd, vl 0, sd] [(.long (0 : Int64)), (.int (2 : Int32)), (.ref o0)])) rfl rfl (hb hby db_48)
  have N7 := Fr.snoc X7 N5 g_o0
  have Z7 : n0 ≤ h7.size := by rw [W7.size]; exact Z5
  have K7 := (K5.wr W7 (Or.inl (List.mem_of_getElem? (i := 0) rfl)))
  have V7 := Arv.set Ar6 q6 S6 M6 HH6 GG6 rfl W7 2 rfl (Nat.le_of_ble_eq_true rfl)
  obtain ⟨cl8, Ar8, q8, S8, M8, HH8, GG8⟩ := id V7
  have hin8 : ¬ ((3 : Int32) < 0 ∨ cl8.slots.size ≤ ((3 : Int32)).toNatClampNeg) := inb_of S8 ⟨by decide, by decide⟩
  obtain ⟨T9, h9, X9, e9, W9, st9⟩ := stJ X7 hx hZ e7 Ar8 (j := (3 : Int32)) hin8 (g := (mkF m 54 #[vr o0, vi 0, vi 4, vl 0, sd, vl y1, sd, vl 0, sd] [(.long (0 : Int64)), (.int (3 : Int32)), (.ref o0)])) rfl rfl (hb hby db_54)
  have N9 := Fr.snoc X9 N7 g_o0
  have Z9 : n0 ≤ h9.size := by rw [W9.size]; exact Z7
  have K9 := (K7.wr W9 (Or.inl (List.mem_of_getElem? (i := 0) rfl)))
  have V9 := Arv.set Ar8 q8 S8 M8 HH8 GG8 rfl W9 3 rfl (Nat.le_of_ble_eq_true rfl)
  obtain ⟨cl10, Ar10, q10, S10, M10, HH10, GG10⟩ := id V9
  have hin10 : ¬ ((1 : Int32) < 0 ∨ cl10.slots.size ≤ ((1 : Int32)).toNatClampNeg) := inb_of S10 ⟨by decide, by decide⟩
  have hat10 : cl10.slots[((1 : Int32)).toNatClampNeg]? = some (.long (0 : Int64)) := Has.at HH10 hin10 rfl
  obtain ⟨_, _, ⟨T11, L11, kc11, ks11⟩, -, X11, ⟨Lc11, hQ11, l11, y11, z11⟩, st11⟩ := Jvm.LawKit.callS X9 hx (y := mn9) hown (mvT hZ (wd69 hw)) (mvT hZ (wd70 hw)) (mvT hZ (wd51 hw)) (mvT hZ (wd71 hw)) (by decide) (backOf (W := 2) (rmA26 l Z a0 hw []  h9 n0 Z9 ) hZ (wd71 hw) (wd51 hw) (by decide) (by decide)) (g := (mkF m 131 #[vr o0, vi 0, vi 4, vl 0, sd, vl y1, sd, vl 0, sd] [(.long (0 : Int64)), (.long (0 : Int64)), (.int (1 : Int32)), (.ref o0)])) rfl (by rw [hml]; rfl) (argsL := [(.long (0 : Int64)), (.long (0 : Int64))]) (rest := [(.int (1 : Int32)), (.ref o0)]) (lenOf pd__JJ_J rfl) rfl (by show 2 * 0 + _ ≤ _; exact Nat.le_of_eq rfl) (hb hby db_131) (fun _ _ => ⟨rfl, e9, (by decide : 0 + 0 ≤ _), (by decide : 0 + 0 ≤ _)⟩)
  dsimp only [Pt.U, Pt.locs, Pt.cells, Pt.slots] at X11 l11 y11 z11 st11 hQ11
  subst l11 y11 z11
  obtain ⟨rfl, Nq11, eq11⟩ := hQ11
  have N11 := Fr.app N9 Nq11
  obtain ⟨cl12, Ar12, q12, S12, M12, HH12, GG12⟩ := id V9
  have hin12 : ¬ ((1 : Int32) < 0 ∨ cl12.slots.size ≤ ((1 : Int32)).toNatClampNeg) := inb_of S12 ⟨by decide, by decide⟩
  obtain ⟨T13, h13, X13, e13, W13, st13⟩ := stJ X11 hx hZ eq11 Ar12 (j := (1 : Int32)) hin12 (g := (mkF m 134 #[vr o0, vi 0, vi 4, vl 0, sd, vl y1, sd, vl 0, sd] [(.long (0 : Int64)), (.int (1 : Int32)), (.ref o0)])) rfl rfl (hb hby db_134)
  have N13 := Fr.snoc X13 N11 g_o0
  have Z13 : n0 ≤ h13.size := by rw [W13.size]; exact Z9
  have K13 := (K9.wr W13 (Or.inl (List.mem_of_getElem? (i := 0) rfl)))
  have V13 := Arv.set Ar12 q12 S12 M12 HH12 GG12 rfl W13 1 rfl (Nat.le_of_ble_eq_true rfl)
  subst hEN
  obtain ⟨lfs, lhr, lhrun, lhended, lhW, lhsame⟩ := X13.leave (v := none) (fun _ => rfl)
  refine ⟨_, _, pre0 _ ?_, lhrun, lhended, _, _, rfl, ?_, ⟨_, rfl⟩, lhW, lhsame.mono (by decide) (by decide)⟩
  · skip
    refine XS.aloadN X0.here hx rfl (hb hby db_0) rfl rfl ?_
    refine XS.iloadN X0.here hx rfl (hb hby db_1) rfl ?_
    refine XS.iconst X0.here hx rfl (hb hby db_2) ?_
    refine XS.iadd X0.here hx rfl (hb hby db_3) rfl ?_
    refine X0.laload hx (j := (0 : Int32)) (v := (.long (0 : Int64))) (by (try rw [e0]); exact Ar1.1) (State.isArrayOf_alike hZ.alike Ar1.2.1) Ar1.2.2 hin1 hat1 (g := (mkF m 4 #[vr o0, vi 0, vi 4, vl 0, sd, vl y1, sd, un, un] [(.int (0 : Int32)), (.ref o0)])) rfl rfl (hb hby db_4) _ ?_
    refine XS.lstore X0.here hx rfl (hb hby db_5) rfl (l' := #[vr o0, vi 0, vi 4, vl 0, sd, vl y1, sd, vl 0, sd]) rfl ?_
    refine XS.aloadN X0.here hx rfl (hb hby db_7) rfl rfl ?_
    refine XS.iloadN X0.here hx rfl (hb hby db_8) rfl ?_
    refine XS.iconst X0.here hx rfl (hb hby db_9) ?_
    refine XS.iadd X0.here hx rfl (hb hby db_10) rfl ?_
    refine XS.lload X0.here hx rfl (hb hby db_11) rfl ?_
    refine XS.lload X0.here hx rfl (hb hby db_13) rfl ?_
    refine XS.ladd X0.here hx rfl (hb hby db_15) rfl ?_
    show SS p e below s₁ (mkF m 16 #[vr o0, vi 0, vi 4, vl 0, sd, vl y1, sd, vl 0, sd] [(.long ((0 : Int64) + y1)), (.int (0 : Int32)), (.ref o0)]) _
    refine st3 _ ?_
    refine XS.iloadN X3.here hx rfl (hb hby db_17) rfl ?_
    refine XS.iconst X3.here hx rfl (hb hby db_18) ?_
    refine XS.icmpNo X3.here hx rfl (hb hby db_19) rfl (teq (by decide : (4 : Int32) = (4 : Int32))).2 ?_
    refine XS.lload X3.here hx rfl (hb hby db_22) rfl ?_
    refine XS.lconst X3.here hx rfl (hb hby db_24) ?_
    refine XS.lcmp X3.here hx rfl (hb hby db_25) rfl ?_
    refine XS.ifYes X3.here hx rfl (pc0 := 26) (pc' := 30) rfl (hb hby db_26) rfl ((if0 _ _).trans (feq (fun q => hq2 ((lw_eq y1 (0 : Int64)).mp q))).2) (by decide) (by decide) ?_
    refine XS.lload X3.here hx rfl (hb hby db_30) rfl ?_
    show SS p e below T3 (mkF m 32 #[vr o0, vi 0, vi 4, vl 0, sd, vl y1, sd, vl 0, sd] [(.long (0 : Int64))]) _
    refine XS.lconst X3.here hx rfl (hb hby db_32) ?_
    refine XS.lcmp X3.here hx rfl (hb hby db_33) rfl ?_
    refine XS.ifNo X3.here hx rfl (hb hby db_34) rfl ((if0 _ _).trans (teq ((lw_eq (0 : Int64) (0 : Int64)).mpr (by decide : (0 : Int64) = (0 : Int64)))).2) ?_
    refine XS.aloadN X3.here hx rfl (hb hby db_37) rfl rfl ?_
    refine XS.iloadN X3.here hx rfl (hb hby db_38) rfl ?_
    refine XS.iconst X3.here hx rfl (hb hby db_39) ?_
    refine XS.iadd X3.here hx rfl (hb hby db_40) rfl ?_
    refine XS.lloadN X3.here hx rfl (hb hby db_41) rfl ?_
    show SS p e below T3 (mkF m 42 #[vr o0, vi 0, vi 4, vl 0, sd, vl y1, sd, vl 0, sd] [(.long (0 : Int64)), (.int (1 : Int32)), (.ref o0)]) _
    refine st5 _ ?_
    refine XS.aloadN X5.here hx rfl (hb hby db_43) rfl rfl ?_
    refine XS.iloadN X5.here hx rfl (hb hby db_44) rfl ?_
    refine XS.iconst X5.here hx rfl (hb hby db_45) ?_
    refine XS.iadd X5.here hx rfl (hb hby db_46) rfl ?_
    refine XS.lloadN X5.here hx rfl (hb hby db_47) rfl ?_
    refine st7 _ ?_
    refine XS.aloadN X7.here hx rfl (hb hby db_49) rfl rfl ?_
    refine XS.iloadN X7.here hx rfl (hb hby db_50) rfl ?_
    refine XS.iconst X7.here hx rfl (hb hby db_51) ?_
    refine XS.iadd X7.here hx rfl (hb hby db_52) rfl ?_
    refine XS.lloadN X7.here hx rfl (hb hby db_53) rfl ?_
    refine st9 _ ?_
    refine XS.goto X9.here hx rfl (pc0 := 55) (pc' := 121) rfl (hb hby db_55) (by decide) (by decide) ?_
    refine XS.aloadN X9.here hx rfl (hb hby db_121) rfl rfl ?_
    refine XS.iloadN X9.here hx rfl (hb hby db_122) rfl ?_
    refine XS.iconst X9.here hx rfl (hb hby db_123) ?_
    refine XS.iadd X9.here hx rfl (hb hby db_124) rfl ?_
    refine XS.aloadN X9.here hx rfl (hb hby db_125) rfl rfl ?_
    refine XS.iloadN X9.here hx rfl (hb hby db_126) rfl ?_
    refine XS.iconst X9.here hx rfl (hb hby db_127) ?_
    show SS p e below T9 (mkF m 128 #[vr o0, vi 0, vi 4, vl 0, sd, vl y1, sd, vl 0, sd] [(.int (1 : Int32)), (.int (0 : Int32)), (.ref o0), (.int (1 : Int32)), (.ref o0)]) _
    refine XS.iadd X9.here hx rfl (hb hby db_128) rfl ?_
    refine X9.laload hx (j := (1 : Int32)) (v := (.long (0 : Int64))) (by (try rw [e9]); exact Ar10.1) (State.isArrayOf_alike hZ.alike Ar10.2.1) Ar10.2.2 hin10 hat10 (g := (mkF m 129 #[vr o0, vi 0, vi 4, vl 0, sd, vl y1, sd, vl 0, sd] [(.int (1 : Int32)), (.ref o0), (.int (1 : Int32)), (.ref o0)])) rfl rfl (hb hby db_129) _ ?_
    refine XS.lloadN X9.here hx rfl (hb hby db_130) rfl ?_
    refine st11 _ ?_
    refine st13 _ ?_
    show SS p e below T13 (mkF m 135 #[vr o0, vi 0, vi 4, vl 0, sd, vl y1, sd, vl 0, sd] []) _
    exact X13.returnOut hx Bd.returns (hb hby db_135) lhr
  · skip
    show QA76 Z o0 y1 y2 kk_o0 h0 n0 _ T13.heap _
    rw [e13]
    exact ⟨rfl, N13, K13, V13⟩
theorem ef_Ad4 (m : MethodId) (x0 : Addr) (x1 : Int64) (x2 : Int64) (x3 : Int64) (x4 : Int64) : entryFrame m #[(.ref x0), (.long x1), (.long x2), (.long x3), (.long x4)] 10 = mkF m 0 #[vr x0, vl x1, sd, vl x2, sd, vl x3, sd, vl x4, sd, un] [] := by first | (simp [entryFrame, mkF, argsToLocals, Value.category]; done) | rfl
def QAd4 (Z : State) (kw : Addr) (yy : Int64) (yc : Int64) (sA : Addr) (rA : Addr) (dA : Addr) (ksA : ClassId) (krA : ClassId) (kdA : ClassId) (yx : Int64) (c0 : Int64) (wd : Int32) (h0 : Heap) (n0 : Nat) (v : Option Value) (h : Heap) (L : List Loc) : Prop := ∃ (sB dB : Addr) (ksB kdB : ClassId), v = none ∧ Fr n0 L ∧ Keep h0 h [kw] ∧ h0.size ≤ sB ∧ h0.size ≤ dB ∧ sB ≠ dB ∧ Exa Z h kw cn2 ∧ Fld Z h kw cn2 "starts" "[J" (.ref sB) ∧ Fld Z h kw cn2 "decidedAt" "[J" (.ref dB) ∧ Fld Z h kw cn2 "first" "I" (.int (0 : Int32)) ∧ Fld Z h kw cn2 "end" "I" (.int (2 : Int32)) ∧ Arv Z h sB ksB .long (2 : Int32) [(.long yy), (.long yx)] (.long (0 : Int64)) ∧ Arv Z h dB kdB .long (2 : Int32) [(.long (0 : Int64)), (.long (0 : Int64))] (.long (0 : Int64))
set_option maxRecDepth 65536 in
set_option maxHeartbeats 40000000 in
theorem rmAd4 (l : Launch) (Z : State) (a0 : Array Value) (hw : ∀ d ∈ tables_1, d.before a0 Z = true) (ws : List Jvm.Cond) (kw : Addr) (yy : Int64) (yc : Int64) (sA : Addr) (rA : Addr) (dA : Addr) (ksA : ClassId) (krA : ClassId) (kdA : ClassId) (yx : Int64) (c0 : Int64) (wd : Int32) (h0 : Heap) (n0 : Nat) (Z0 : n0 ≤ h0.size) (g_k : n0 ≤ kw) (E_k : Exa Z h0 kw cn2) (F_s : Fld Z h0 kw cn2 "starts" "[J" (.ref sA)) (F_r : Fld Z h0 kw cn2 "records" "[J" (.ref rA)) (F_d : Fld Z h0 kw cn2 "decidedAt" "[J" (.ref dA)) (F_1 : Fld Z h0 kw cn2 "first" "I" (.int (0 : Int32))) (F_e : Fld Z h0 kw cn2 "end" "I" (.int (1 : Int32))) (F_w : Fld Z h0 kw cn2 "width" "I" (.int wd)) (V_s : Arv Z h0 sA ksA .long (1 : Int32) [(.long yx)] (.long (0 : Int64))) (hr : ((wd = (1 : Int32) ∧ Arv Z h0 rA krA .long (1 : Int32) [(.long c0)] (.long (0 : Int64))) ∨ (wd = (4 : Int32) ∧ Arv Z h0 rA krA .long (4 : Int32) [(.long c0), (.long (0 : Int64)), (.long (0 : Int64)), (.long (0 : Int64))] (.long (0 : Int64))))) (V_d : Arv Z h0 dA kdA .long (1 : Int32) [(.long (0 : Int64))] (.long (0 : Int64))) (g_r : n0 ≤ rA) (g_d : n0 ≤ dA) (hc0 : ¬ c0 = (0 : Int64)) (n_kw_sA : kw ≠ sA) (n_kw_rA : kw ≠ rA) (n_kw_dA : kw ≠ dA) (n_sA_rA : sA ≠ rA) (n_sA_dA : sA ≠ dA) (n_rA_dA : rA ≠ dA) (hpos : (0 : Int64) < yc) (ho : yy < yx) :
    MetFree l mn1 (head1 (Jvm.Cond.code mn1 prog_23_method_5_code 10 none :: ws) ({ frames := 5, cells := 3, slots := 12, locals := 150 } : Room)) (fun a U => a = #[(.ref kw), (.long yy), (.long (0 : Int64)), (.long yc), (.long (0 : Int64))] ∧ Z.Warmed39 U.vm ∧ U.heap = h0) (fun _ _ _ _ _ => True) (fun _ U oc_ U' => ∃ v L, oc_ = .returned v ∧ QAd4 Z kw yy yc sA rA dA ksA krA kdA yx c0 wd h0 n0 v U'.heap L ∧ FrameEnd U oc_ U' L ({ frames := 5, cells := 3, slots := 12, locals := 150 } : Room).cells ({ frames := 5, cells := 3, slots := 12, locals := 150 } : Room).slots) := by
  refine MetFree.of_bodySF (plainFor_of_name pn_com_example_strict_limiter_strictlimiter_KeptWindows) hisR ?_
  intro p e s m args below meth c s₁ Bd hml0 hP hK
  obtain ⟨rfl, hZ, hh⟩ := hP
  have hx := Bd.exec
  have hby := Bd.bytes
  have hml : c.maxLocals = 10 := hml0
  have hown : s.vm.findClass cn2 = some m.cls := findClass_of_methodNamed Bd.named
  have hnm := (name_of_methodNamed Bd.named Bd.method).1
  have X0 : Stand p l e ({ frames := 5, cells := 3, slots := 12, locals := 150 } : Room) s m #[(.ref kw), (.long yy), (.long (0 : Int64)), (.long yc), (.long (0 : Int64))] below meth c s₁ [] 0 0 := Stand.of_body Bd
  have e0 : s₁.heap = h0 := by rw [← hh, Bd.state]; rfl
  have N0 := Fr.nil n0
  have pre0 : ∀ t, SS p e below s₁ (mkF m 0 #[vr kw, vl yy, sd, vl 0, sd, vl yc, sd, vl 0, sd, un] []) t → Steps p.tables e below (s₁.setTop (entryFrame m #[(.ref kw), (.long yy), (.long (0 : Int64)), (.long yc), (.long (0 : Int64))] 10)) t := fun t k => castTop (ef_Ad4 m kw yy (0 : Int64) yc (0 : Int64)) k
  obtain ⟨EN, hEN⟩ : ∃ z, z = s₁.setTop (entryFrame m #[(.ref kw), (.long yy), (.long (0 : Int64)), (.long yc), (.long (0 : Int64))] 10) := ⟨_, rfl⟩
  rw [← hEN] at pre0
  have hne : ¬ yc = (0 : Int64) := fun q => by rw [q] at hpos; exact absurd hpos (by decide)
  have hox : ¬ yx < yy := fun q => by rw [Int64.lt_iff_toInt_lt] at q ho; omega
  have hoe : ¬ yx = yy := fun q => by rw [q] at ho; exact own_irr64 _ ho
  rcases hr with ⟨ew, V_r⟩ | ⟨ew, V_r⟩
  · skip
    have F_wl : Fld Z h0 kw cn2 "width" "I" (.int (1 : Int32)) := by rw [← ew]; exact F_w
    obtain ⟨T1, X1, e1, st1⟩ := getF X0 hx hZ hown (wf11 hw) Via.refl e0 F_s (g := (mkF m 1 #[vr kw, vl yy, sd, vl 0, sd, vl yc, sd, vl 0, sd, un] [(.ref kw)])) rfl rfl (hb hby dk_1)
    obtain ⟨T2, X2, e2, st2⟩ := getF X1 hx hZ hown (wf24 hw) Via.refl e1 F_1 (g := (mkF m 5 #[vr kw, vl yy, sd, vl 0, sd, vl yc, sd, vl 0, sd, un] [(.ref kw), (.ref sA)])) rfl rfl (hb hby dk_5)
    obtain ⟨T3, X3, e3, st3⟩ := getF X2 hx hZ hown (wf26 hw) Via.refl e2 F_e (g := (mkF m 9 #[vr kw, vl yy, sd, vl 0, sd, vl yc, sd, vl 0, sd, un] [(.ref kw), (.int (0 : Int32)), (.ref sA)])) rfl rfl (hb hby dk_9)
    obtain ⟨_, _, ⟨T4, L4, kc4, ks4⟩, -, X4, ⟨Lc4, hQ4, l4, y4, z4⟩, st4⟩ := Jvm.LawKit.callS X3 hx (y := mn10) hown (mvT hZ (wd35 hw)) (mvT hZ (wd36 hw)) (mvT hZ (wd37 hw)) (mvT hZ (wd38 hw)) (by decide) (backOf (W := 0) (rmA27 l Z a0 hw [] sA yy yx _ h0 n0 Z0 V_s hox ho) hZ (wd38 hw) (wd37 hw) (by decide) (by decide)) (g := (mkF m 13 #[vr kw, vl yy, sd, vl 0, sd, vl yc, sd, vl 0, sd, un] [(.long yy), (.int (1 : Int32)), (.int (0 : Int32)), (.ref sA)])) rfl (by rw [hml]; rfl) (argsL := [(.ref sA), (.int (0 : Int32)), (.int (1 : Int32)), (.long yy)]) (rest := []) (lenOf pd___JIIJ_I rfl) rfl (by show 2 * 0 + _ ≤ _; exact Nat.le_of_eq rfl) (hb hby dk_13) (fun _ _ => ⟨rfl, e3, (by decide : 0 + 0 ≤ _), (by decide : 0 + 0 ≤ _)⟩)
    dsimp only [Pt.U, Pt.locs, Pt.cells, Pt.slots] at X4 l4 y4 z4 st4 hQ4
    subst l4 y4 z4
    obtain ⟨rfl, Nq4, eq4⟩ := hQ4
    have N4 := Fr.app N0 Nq4
    obtain ⟨cq5, q5, q5'⟩ := E_k.cell
    obtain ⟨_, _, ⟨T5, L5, kc5, ks5⟩, -, X5, ⟨Lc5, hQ5, l5, y5, z5⟩, st5⟩ := X4.privateBack hx (y := mn4) hown (mvT hZ (wd45 hw)) (mvT hZ (wd46 hw)) (own_selPriv (mvT hZ (wd1 hw)) (Cond.privateMethod_at (mvP hZ (wd47 hw) (args := #[]))) (mvT hZ (wd46 hw)) (by decide)) (Cond.privateMethod_at (mvP hZ (wd47 hw) (args := #[]))) (mvT hZ (wd48 hw)) (by decide) (backOf (W := 0) (rmA58 l Z a0 hw [] kw yy sA yx _ rA c0 _ dA _ h0 n0 Z0 F_e F_s V_s F_1 E_k g_k F_r F_wl V_r (Ne.symm n_kw_rA) (Ne.symm n_kw_sA) F_d V_d (Ne.symm n_kw_dA)) hZ (wd48 hw) (wd2 hw) (by decide) (by decide)) (g := (mkF m 37 #[vr kw, vl yy, sd, vl 0, sd, vl yc, sd, vl 0, sd, vi (-1)] [(.long yy), (.int (0 : Int32)), (.ref kw)])) rfl (by rw [hml]; rfl) (Steps.refl _) (a := kw) (by rw [eq4]; exact q5) q5' (argsL := [(.int (0 : Int32)), (.long yy)]) (rest := []) (lenOf pd__IJ_I rfl) rfl (by show 2 * 0 + _ ≤ _; exact Nat.le_of_eq rfl) (hb hby dk_37) (fun _ _ => ⟨rfl, eq4, (by decide : 0 + 3 ≤ _), (by decide : 0 + 6 ≤ _)⟩)
    dsimp only [Pt.U, Pt.locs, Pt.cells, Pt.slots] at X5 l5 y5 z5 st5 hQ5
    subst l5 y5 z5
    obtain ⟨b5_0, b5_1, b5_2, kv5_3, kv5_4, kv5_5, rfl, Nq5, Kq5, sz5_0, sz5_1, sz5_2, g5_0, g5_1, g5_2, g5_3, g5_4, g5_5, g5_6, g5_7, g5_8, g5_9, g5_10, g5_11, g5_12⟩ := hQ5
    have N5 := Fr.app N4 Nq5
    have Z5 := Nat.le_trans Z0 Kq5.1
    have K5 : Keep h0 T5.heap [kw] := Keep.trans (Keep.refl h0 [kw]) Kq5 (allS (Or.inl (List.mem_of_getElem? (i := 0) rfl)) all0)
    have ne_kw_b5_0 := own_ne E_k.lt sz5_0
    have ne_sA_b5_0 := own_ne V_s.lt sz5_0
    have ne_rA_b5_0 := own_ne V_r.lt sz5_0
    have ne_dA_b5_0 := own_ne V_d.lt sz5_0
    have ge_b5_0 := Nat.le_trans Z0 sz5_0
    have sz_b5_0 : h0.size ≤ b5_0 := Nat.le_trans (Nat.le_refl _) sz5_0
    have ne_kw_b5_1 := own_ne E_k.lt sz5_1
    have ne_sA_b5_1 := own_ne V_s.lt sz5_1
    have ne_rA_b5_1 := own_ne V_r.lt sz5_1
    have ne_dA_b5_1 := own_ne V_d.lt sz5_1
    have ge_b5_1 := Nat.le_trans Z0 sz5_1
    have sz_b5_1 : h0.size ≤ b5_1 := Nat.le_trans (Nat.le_refl _) sz5_1
    have ne_kw_b5_2 := own_ne E_k.lt sz5_2
    have ne_sA_b5_2 := own_ne V_s.lt sz5_2
    have ne_rA_b5_2 := own_ne V_r.lt sz5_2
    have ne_dA_b5_2 := own_ne V_d.lt sz5_2
    have ge_b5_2 := Nat.le_trans Z0 sz5_2
    have sz_b5_2 : h0.size ≤ b5_2 := Nat.le_trans (Nat.le_refl _) sz5_2
    obtain ⟨T6, X6, e6, st6⟩ := getF X5 hx hZ hown (wf13 hw) Via.refl rfl g5_8 (g := (mkF m 48 #[vr kw, vl yy, sd, vl 0, sd, vl yc, sd, vl 0, sd, vi 0] [(.ref kw)])) rfl rfl (hb hby dk_48)
    obtain ⟨T7, X7, e7, st7⟩ := getF X6 hx hZ hown (wf17 hw) Via.refl e6 g5_9 (g := (mkF m 54 #[vr kw, vl yy, sd, vl 0, sd, vl yc, sd, vl 0, sd, vi 0] [(.ref kw), (.int (0 : Int32)), (.ref b5_1)])) rfl rfl (hb hby dk_54)
    obtain ⟨T8, X8, e8, st8⟩ := getF X7 hx hZ hown (wf17 hw) Via.refl e7 g5_9 (g := (mkF m 59 #[vr kw, vl yy, sd, vl 0, sd, vl yc, sd, vl 0, sd, vi 0] [(.ref kw), (.int (0 : Int32)), (.ref b5_1)])) rfl rfl (hb hby dk_59)
    obtain ⟨_, _, ⟨T9, L9, kc9, ks9⟩, -, X9, ⟨Lc9, hQ9, l9, y9, z9⟩, st9⟩ := Jvm.LawKit.callS X8 hx (y := mn6) hown (mvT hZ (wd65 hw)) (mvT hZ (wd66 hw)) (mvT hZ (wd67 hw)) (mvT hZ (wd68 hw)) (by decide) (backOf (W := 0) (rmA65 l Z a0 hw [] b5_1 yc c0 _ T5.heap n0 Z5 g5_10 ge_b5_1) hZ (wd68 hw) (wd67 hw) (by decide) (by decide)) (g := (mkF m 65 #[vr kw, vl yy, sd, vl 0, sd, vl yc, sd, vl 0, sd, vi 0] [(.long yc), (.long (0 : Int64)), (.int (1 : Int32)), (.int (0 : Int32)), (.ref b5_1)])) rfl (by rw [hml]; rfl) (argsL := [(.ref b5_1), (.int (0 : Int32)), (.int (1 : Int32)), (.long (0 : Int64)), (.long yc)]) (rest := []) (lenOf pd___JIIJJ_V rfl) rfl (by show 2 * 0 + _ ≤ _; exact Nat.le_of_eq rfl) (hb hby dk_65) (fun _ _ => ⟨rfl, e8, (by decide : 3 + 0 ≤ _), (by decide : 6 + 0 ≤ _)⟩)
    dsimp only [Pt.U, Pt.locs, Pt.cells, Pt.slots] at X9 l9 y9 z9 st9 hQ9
    subst l9 y9 z9
    obtain ⟨rfl, Nq9, Kq9, g9_0⟩ := hQ9
    have N9 := Fr.app N5 Nq9
    have Z9 := Nat.le_trans Z5 Kq9.1
    have K9 := Keep.trans K5 Kq9 (allS (Or.inr sz_b5_1) all0)
    have f10 := (g5_11.keep Kq9 (ninS ne_kw_b5_1 nin0))
    obtain ⟨T11, X11, e11, st11⟩ := getF X9 hx hZ hown (wf15 hw) Via.refl rfl f10 (g := (mkF m 69 #[vr kw, vl yy, sd, vl 0, sd, vl yc, sd, vl 0, sd, vi 0] [(.ref kw)])) rfl rfl (hb hby dk_69)
    have f12 := (g5_12.keep Kq9 (ninS (Ne.symm g5_2) nin0))
    obtain ⟨cl13, Ar13, q13, S13, M13, HH13, GG13⟩ := id f12
    have hin13 : ¬ ((0 : Int32) < 0 ∨ cl13.slots.size ≤ ((0 : Int32)).toNatClampNeg) := inb_of S13 ⟨by decide, by decide⟩
    obtain ⟨T14, h14, X14, e14, W14, st14⟩ := stJ X11 hx hZ e11 Ar13 (j := (0 : Int32)) hin13 (g := (mkF m 76 #[vr kw, vl yy, sd, vl 0, sd, vl yc, sd, vl 0, sd, vi 0] [(.long (0 : Int64)), (.int (0 : Int32)), (.ref b5_2)])) rfl rfl (hb hby dk_76)
    have N14 := Fr.snoc X14 N9 ge_b5_2
    have Z14 : n0 ≤ h14.size := by rw [W14.size]; exact Z9
    have K14 := (K9.wr W14 (Or.inr sz_b5_2))
    have V14 := Arv.set Ar13 q13 S13 M13 HH13 GG13 rfl W14 0 rfl (Nat.le_of_ble_eq_true rfl)
    subst hEN
    obtain ⟨lfs, lhr, lhrun, lhended, lhW, lhsame⟩ := X14.leave (v := none) (fun _ => rfl)
    refine ⟨_, _, pre0 _ ?_, lhrun, lhended, _, _, rfl, ?_, ⟨_, rfl⟩, lhW, lhsame.mono (by decide) (by decide)⟩
    · skip
      refine XS.aloadN X0.here hx rfl (hb hby dk_0) rfl rfl ?_
      refine st1 _ ?_
      refine XS.aloadN X1.here hx rfl (hb hby dk_4) rfl rfl ?_
      refine st2 _ ?_
      refine XS.aloadN X2.here hx rfl (hb hby dk_8) rfl rfl ?_
      refine st3 _ ?_
      refine XS.lloadN X3.here hx rfl (hb hby dk_12) rfl ?_
      refine st4 _ ?_
      refine XS.istore X4.here hx rfl (hb hby dk_16) rfl (l' := #[vr kw, vl yy, sd, vl 0, sd, vl yc, sd, vl 0, sd, vi (-1)]) rfl ?_
      refine XS.iload X4.here hx rfl (hb hby dk_18) rfl ?_
      refine XS.ifNo X4.here hx rfl (hb hby dk_20) rfl ((if0 _ _).trans (tlt (by decide : (-1 : Int32) < (0 : Int32))).2.1) ?_
      refine XS.lload X4.here hx rfl (hb hby dk_23) rfl ?_
      refine XS.lconst X4.here hx rfl (hb hby dk_25) ?_
      refine XS.lcmp X4.here hx rfl (hb hby dk_26) rfl ?_
      refine XS.ifNo X4.here hx rfl (hb hby dk_27) rfl ((if0 _ _).trans (tlt ((lw_gt yc (0 : Int64)).mpr hpos)).2.2.2) ?_
      refine XS.aloadN X4.here hx rfl (hb hby dk_30) rfl rfl ?_
      show SS p e below T4 (mkF m 31 #[vr kw, vl yy, sd, vl 0, sd, vl yc, sd, vl 0, sd, vi (-1)] [(.ref kw)]) _
      refine XS.iload X4.here hx rfl (hb hby dk_31) rfl ?_
      refine XS.ineg X4.here hx rfl (hb hby dk_33) rfl ?_
      refine XS.iconst X4.here hx rfl (hb hby dk_34) ?_
      refine XS.isub X4.here hx rfl (hb hby dk_35) rfl ?_
      refine XS.lloadN X4.here hx rfl (hb hby dk_36) rfl ?_
      refine st5.trans ?_
      refine XS.istore X5.here hx rfl (hb hby dk_40) rfl (l' := #[vr kw, vl yy, sd, vl 0, sd, vl yc, sd, vl 0, sd, vi 0]) rfl ?_
      refine XS.iload X5.here hx rfl (hb hby dk_42) rfl ?_
      refine XS.ifNo X5.here hx rfl (hb hby dk_44) rfl ((if0 _ _).trans (flt (by decide : ¬ ((0 : Int32) < (0 : Int32)))).1) ?_
      refine XS.aloadN X5.here hx rfl (hb hby dk_47) rfl rfl ?_
      refine st6 _ ?_
      refine XS.iload X6.here hx rfl (hb hby dk_51) rfl ?_
      refine XS.aloadN X6.here hx rfl (hb hby dk_53) rfl rfl ?_
      refine st7 _ ?_
      refine XS.imul X7.here hx rfl (hb hby dk_57) rfl ?_
      refine XS.aloadN X7.here hx rfl (hb hby dk_58) rfl rfl ?_
      refine st8 _ ?_
      refine XS.lloadN X8.here hx rfl (hb hby dk_62) rfl ?_
      refine XS.lload X8.here hx rfl (hb hby dk_63) rfl ?_
      refine st9 _ ?_
      refine XS.aloadN X9.here hx rfl (hb hby dk_68) rfl rfl ?_
      refine st11 _ ?_
      refine XS.iload X11.here hx rfl (hb hby dk_72) rfl ?_
      refine XS.lload X11.here hx rfl (hb hby dk_74) rfl ?_
      refine st14 _ ?_
      show SS p e below T14 (mkF m 77 #[vr kw, vl yy, sd, vl 0, sd, vl yc, sd, vl 0, sd, vi 0] []) _
      exact X14.returnOut hx Bd.returns (hb hby dk_77) lhr
    · skip
      show QAd4 Z kw yy yc sA rA dA ksA krA kdA yx c0 wd h0 n0 _ T14.heap _
      rw [e14]
      have f15 := ((g5_6.keep Kq9).wr W14)
      have f16 := ((g5_4.keep Kq9 (ninS ne_kw_b5_1 nin0)).other W14 (Or.inl ne_kw_b5_2))
      have f17 := (f10.other W14 (Or.inl ne_kw_b5_2))
      have f18 := ((g5_5.keep Kq9 (ninS ne_kw_b5_1 nin0)).other W14 (Or.inl ne_kw_b5_2))
      have f19 := ((g5_3.keep Kq9 (ninS ne_kw_b5_1 nin0)).other W14 (Or.inl ne_kw_b5_2))
      have f20 := ((g5_7.keep Kq9 (ninS g5_0 nin0)).other W14 g5_1)
      exact ⟨b5_0, b5_2, _, _, rfl, N14, K14, sz_b5_0, sz_b5_2, g5_1, f15, f16, f17, f18, f19, f20, V14⟩
  · skip
    have F_wl : Fld Z h0 kw cn2 "width" "I" (.int (4 : Int32)) := by rw [← ew]; exact F_w
    obtain ⟨T21, X21, e21, st21⟩ := getF X0 hx hZ hown (wf11 hw) Via.refl e0 F_s (g := (mkF m 1 #[vr kw, vl yy, sd, vl 0, sd, vl yc, sd, vl 0, sd, un] [(.ref kw)])) rfl rfl (hb hby dk_1)
    obtain ⟨T22, X22, e22, st22⟩ := getF X21 hx hZ hown (wf24 hw) Via.refl e21 F_1 (g := (mkF m 5 #[vr kw, vl yy, sd, vl 0, sd, vl yc, sd, vl 0, sd, un] [(.ref kw), (.ref sA)])) rfl rfl (hb hby dk_5)
    obtain ⟨T23, X23, e23, st23⟩ := getF X22 hx hZ hown (wf26 hw) Via.refl e22 F_e (g := (mkF m 9 #[vr kw, vl yy, sd, vl 0, sd, vl yc, sd, vl 0, sd, un] [(.ref kw), (.int (0 : Int32)), (.ref sA)])) rfl rfl (hb hby dk_9)
    obtain ⟨_, _, ⟨T24, L24, kc24, ks24⟩, -, X24, ⟨Lc24, hQ24, l24, y24, z24⟩, st24⟩ := Jvm.LawKit.callS X23 hx (y := mn10) hown (mvT hZ (wd35 hw)) (mvT hZ (wd36 hw)) (mvT hZ (wd37 hw)) (mvT hZ (wd38 hw)) (by decide) (backOf (W := 0) (rmA27 l Z a0 hw [] sA yy yx _ h0 n0 Z0 V_s hox ho) hZ (wd38 hw) (wd37 hw) (by decide) (by decide)) (g := (mkF m 13 #[vr kw, vl yy, sd, vl 0, sd, vl yc, sd, vl 0, sd, un] [(.long yy), (.int (1 : Int32)), (.int (0 : Int32)), (.ref sA)])) rfl (by rw [hml]; rfl) (argsL := [(.ref sA), (.int (0 : Int32)), (.int (1 : Int32)), (.long yy)]) (rest := []) (lenOf pd___JIIJ_I rfl) rfl (by show 2 * 0 + _ ≤ _; exact Nat.le_of_eq rfl) (hb hby dk_13) (fun _ _ => ⟨rfl, e23, (by decide : 0 + 0 ≤ _), (by decide : 0 + 0 ≤ _)⟩)
    dsimp only [Pt.U, Pt.locs, Pt.cells, Pt.slots] at X24 l24 y24 z24 st24 hQ24
    subst l24 y24 z24
    obtain ⟨rfl, Nq24, eq24⟩ := hQ24
    have N24 := Fr.app N0 Nq24
    obtain ⟨cq25, q25, q25'⟩ := E_k.cell
    obtain ⟨_, _, ⟨T25, L25, kc25, ks25⟩, -, X25, ⟨Lc25, hQ25, l25, y25, z25⟩, st25⟩ := X24.privateBack hx (y := mn4) hown (mvT hZ (wd45 hw)) (mvT hZ (wd46 hw)) (own_selPriv (mvT hZ (wd1 hw)) (Cond.privateMethod_at (mvP hZ (wd47 hw) (args := #[]))) (mvT hZ (wd46 hw)) (by decide)) (Cond.privateMethod_at (mvP hZ (wd47 hw) (args := #[]))) (mvT hZ (wd48 hw)) (by decide) (backOf (W := 0) (rmA69 l Z a0 hw [] kw yy sA yx _ rA c0 _ dA _ h0 n0 Z0 F_e F_s V_s F_1 E_k g_k F_r F_wl V_r (Ne.symm n_kw_rA) (Ne.symm n_kw_sA) F_d V_d (Ne.symm n_kw_dA)) hZ (wd48 hw) (wd2 hw) (by decide) (by decide)) (g := (mkF m 37 #[vr kw, vl yy, sd, vl 0, sd, vl yc, sd, vl 0, sd, vi (-1)] [(.long yy), (.int (0 : Int32)), (.ref kw)])) rfl (by rw [hml]; rfl) (Steps.refl _) (a := kw) (by rw [eq24]; exact q25) q25' (argsL := [(.int (0 : Int32)), (.long yy)]) (rest := []) (lenOf pd__IJ_I rfl) rfl (by show 2 * 0 + _ ≤ _; exact Nat.le_of_eq rfl) (hb hby dk_37) (fun _ _ => ⟨rfl, eq24, (by decide : 0 + 3 ≤ _), (by decide : 0 + 12 ≤ _)⟩)
    dsimp only [Pt.U, Pt.locs, Pt.cells, Pt.slots] at X25 l25 y25 z25 st25 hQ25
    subst l25 y25 z25
    obtain ⟨b25_0, b25_1, b25_2, kv25_3, kv25_4, kv25_5, rfl, Nq25, Kq25, sz25_0, sz25_1, sz25_2, g25_0, g25_1, g25_2, g25_3, g25_4, g25_5, g25_6, g25_7, g25_8, g25_9, g25_10, g25_11, g25_12⟩ := hQ25
    have N25 := Fr.app N24 Nq25
    have Z25 := Nat.le_trans Z0 Kq25.1
    have K25 : Keep h0 T25.heap [kw] := Keep.trans (Keep.refl h0 [kw]) Kq25 (allS (Or.inl (List.mem_of_getElem? (i := 0) rfl)) all0)
    have ne_kw_b25_0 := own_ne E_k.lt sz25_0
    have ne_sA_b25_0 := own_ne V_s.lt sz25_0
    have ne_rA_b25_0 := own_ne V_r.lt sz25_0
    have ne_dA_b25_0 := own_ne V_d.lt sz25_0
    have ge_b25_0 := Nat.le_trans Z0 sz25_0
    have sz_b25_0 : h0.size ≤ b25_0 := Nat.le_trans (Nat.le_refl _) sz25_0
    have ne_kw_b25_1 := own_ne E_k.lt sz25_1
    have ne_sA_b25_1 := own_ne V_s.lt sz25_1
    have ne_rA_b25_1 := own_ne V_r.lt sz25_1
    have ne_dA_b25_1 := own_ne V_d.lt sz25_1
    have ge_b25_1 := Nat.le_trans Z0 sz25_1
    have sz_b25_1 : h0.size ≤ b25_1 := Nat.le_trans (Nat.le_refl _) sz25_1
    have ne_kw_b25_2 := own_ne E_k.lt sz25_2
    have ne_sA_b25_2 := own_ne V_s.lt sz25_2
    have ne_rA_b25_2 := own_ne V_r.lt sz25_2
    have ne_dA_b25_2 := own_ne V_d.lt sz25_2
    have ge_b25_2 := Nat.le_trans Z0 sz25_2
    have sz_b25_2 : h0.size ≤ b25_2 := Nat.le_trans (Nat.le_refl _) sz25_2
    obtain ⟨T26, X26, e26, st26⟩ := getF X25 hx hZ hown (wf13 hw) Via.refl rfl g25_8 (g := (mkF m 48 #[vr kw, vl yy, sd, vl 0, sd, vl yc, sd, vl 0, sd, vi 0] [(.ref kw)])) rfl rfl (hb hby dk_48)
    obtain ⟨T27, X27, e27, st27⟩ := getF X26 hx hZ hown (wf17 hw) Via.refl e26 g25_9 (g := (mkF m 54 #[vr kw, vl yy, sd, vl 0, sd, vl yc, sd, vl 0, sd, vi 0] [(.ref kw), (.int (0 : Int32)), (.ref b25_1)])) rfl rfl (hb hby dk_54)
    obtain ⟨T28, X28, e28, st28⟩ := getF X27 hx hZ hown (wf17 hw) Via.refl e27 g25_9 (g := (mkF m 59 #[vr kw, vl yy, sd, vl 0, sd, vl yc, sd, vl 0, sd, vi 0] [(.ref kw), (.int (0 : Int32)), (.ref b25_1)])) rfl rfl (hb hby dk_59)
    obtain ⟨_, _, ⟨T29, L29, kc29, ks29⟩, -, X29, ⟨Lc29, hQ29, l29, y29, z29⟩, st29⟩ := Jvm.LawKit.callS X28 hx (y := mn6) hown (mvT hZ (wd65 hw)) (mvT hZ (wd66 hw)) (mvT hZ (wd67 hw)) (mvT hZ (wd68 hw)) (by decide) (backOf (W := 0) (rmA76 l Z a0 hw [] b25_1 yc c0 _ T25.heap n0 Z25 g25_10 ge_b25_1 hne) hZ (wd68 hw) (wd67 hw) (by decide) (by decide)) (g := (mkF m 65 #[vr kw, vl yy, sd, vl 0, sd, vl yc, sd, vl 0, sd, vi 0] [(.long yc), (.long (0 : Int64)), (.int (4 : Int32)), (.int (0 : Int32)), (.ref b25_1)])) rfl (by rw [hml]; rfl) (argsL := [(.ref b25_1), (.int (0 : Int32)), (.int (4 : Int32)), (.long (0 : Int64)), (.long yc)]) (rest := []) (lenOf pd___JIIJJ_V rfl) rfl (by show 2 * 0 + _ ≤ _; exact Nat.le_of_eq rfl) (hb hby dk_65) (fun _ _ => ⟨rfl, e28, (by decide : 3 + 0 ≤ _), (by decide : 12 + 0 ≤ _)⟩)
    dsimp only [Pt.U, Pt.locs, Pt.cells, Pt.slots] at X29 l29 y29 z29 st29 hQ29
    subst l29 y29 z29
    obtain ⟨rfl, Nq29, Kq29, g29_0⟩ := hQ29
    have N29 := Fr.app N25 Nq29
    have Z29 := Nat.le_trans Z25 Kq29.1
    have K29 := Keep.trans K25 Kq29 (allS (Or.inr sz_b25_1) all0)
    have f30 := (g25_11.keep Kq29 (ninS ne_kw_b25_1 nin0))
    obtain ⟨T31, X31, e31, st31⟩ := getF X29 hx hZ hown (wf15 hw) Via.refl rfl f30 (g := (mkF m 69 #[vr kw, vl yy, sd, vl 0, sd, vl yc, sd, vl 0, sd, vi 0] [(.ref kw)])) rfl rfl (hb hby dk_69)
    have f32 := (g25_12.keep Kq29 (ninS (Ne.symm g25_2) nin0))
    obtain ⟨cl33, Ar33, q33, S33, M33, HH33, GG33⟩ := id f32
    have hin33 : ¬ ((0 : Int32) < 0 ∨ cl33.slots.size ≤ ((0 : Int32)).toNatClampNeg) := inb_of S33 ⟨by decide, by decide⟩
    obtain ⟨T34, h34, X34, e34, W34, st34⟩ := stJ X31 hx hZ e31 Ar33 (j := (0 : Int32)) hin33 (g := (mkF m 76 #[vr kw, vl yy, sd, vl 0, sd, vl yc, sd, vl 0, sd, vi 0] [(.long (0 : Int64)), (.int (0 : Int32)), (.ref b25_2)])) rfl rfl (hb hby dk_76)
    have N34 := Fr.snoc X34 N29 ge_b25_2
    have Z34 : n0 ≤ h34.size := by rw [W34.size]; exact Z29
    have K34 := (K29.wr W34 (Or.inr sz_b25_2))
    have V34 := Arv.set Ar33 q33 S33 M33 HH33 GG33 rfl W34 0 rfl (Nat.le_of_ble_eq_true rfl)
    subst hEN
    obtain ⟨lfs, lhr, lhrun, lhended, lhW, lhsame⟩ := X34.leave (v := none) (fun _ => rfl)
    refine ⟨_, _, pre0 _ ?_, lhrun, lhended, _, _, rfl, ?_, ⟨_, rfl⟩, lhW, lhsame.mono (by decide) (by decide)⟩
    · skip
      refine XS.aloadN X0.here hx rfl (hb hby dk_0) rfl rfl ?_
      refine st21 _ ?_
      refine XS.aloadN X21.here hx rfl (hb hby dk_4) rfl rfl ?_
      refine st22 _ ?_
      refine XS.aloadN X22.here hx rfl (hb hby dk_8) rfl rfl ?_
      refine st23 _ ?_
      refine XS.lloadN X23.here hx rfl (hb hby dk_12) rfl ?_
      refine st24 _ ?_
      refine XS.istore X24.here hx rfl (hb hby dk_16) rfl (l' := #[vr kw, vl yy, sd, vl 0, sd, vl yc, sd, vl 0, sd, vi (-1)]) rfl ?_
      refine XS.iload X24.here hx rfl (hb hby dk_18) rfl ?_
      refine XS.ifNo X24.here hx rfl (hb hby dk_20) rfl ((if0 _ _).trans (tlt (by decide : (-1 : Int32) < (0 : Int32))).2.1) ?_
      refine XS.lload X24.here hx rfl (hb hby dk_23) rfl ?_
      refine XS.lconst X24.here hx rfl (hb hby dk_25) ?_
      refine XS.lcmp X24.here hx rfl (hb hby dk_26) rfl ?_
      refine XS.ifNo X24.here hx rfl (hb hby dk_27) rfl ((if0 _ _).trans (tlt ((lw_gt yc (0 : Int64)).mpr hpos)).2.2.2) ?_
      refine XS.aloadN X24.here hx rfl (hb hby dk_30) rfl rfl ?_
      show SS p e below T24 (mkF m 31 #[vr kw, vl yy, sd, vl 0, sd, vl yc, sd, vl 0, sd, vi (-1)] [(.ref kw)]) _
      refine XS.iload X24.here hx rfl (hb hby dk_31) rfl ?_
      refine XS.ineg X24.here hx rfl (hb hby dk_33) rfl ?_
      refine XS.iconst X24.here hx rfl (hb hby dk_34) ?_
      refine XS.isub X24.here hx rfl (hb hby dk_35) rfl ?_
      refine XS.lloadN X24.here hx rfl (hb hby dk_36) rfl ?_
      refine st25.trans ?_
      refine XS.istore X25.here hx rfl (hb hby dk_40) rfl (l' := #[vr kw, vl yy, sd, vl 0, sd, vl yc, sd, vl 0, sd, vi 0]) rfl ?_
      refine XS.iload X25.here hx rfl (hb hby dk_42) rfl ?_
      refine XS.ifNo X25.here hx rfl (hb hby dk_44) rfl ((if0 _ _).trans (flt (by decide : ¬ ((0 : Int32) < (0 : Int32)))).1) ?_
      refine XS.aloadN X25.here hx rfl (hb hby dk_47) rfl rfl ?_
      refine st26 _ ?_
      refine XS.iload X26.here hx rfl (hb hby dk_51) rfl ?_
      refine XS.aloadN X26.here hx rfl (hb hby dk_53) rfl rfl ?_
      refine st27 _ ?_
      refine XS.imul X27.here hx rfl (hb hby dk_57) rfl ?_
      refine XS.aloadN X27.here hx rfl (hb hby dk_58) rfl rfl ?_
      refine st28 _ ?_
      refine XS.lloadN X28.here hx rfl (hb hby dk_62) rfl ?_
      refine XS.lload X28.here hx rfl (hb hby dk_63) rfl ?_
      refine st29 _ ?_
      refine XS.aloadN X29.here hx rfl (hb hby dk_68) rfl rfl ?_
      refine st31 _ ?_
      refine XS.iload X31.here hx rfl (hb hby dk_72) rfl ?_
      refine XS.lload X31.here hx rfl (hb hby dk_74) rfl ?_
      refine st34 _ ?_
      show SS p e below T34 (mkF m 77 #[vr kw, vl yy, sd, vl 0, sd, vl yc, sd, vl 0, sd, vi 0] []) _
      exact X34.returnOut hx Bd.returns (hb hby dk_77) lhr
    · skip
      show QAd4 Z kw yy yc sA rA dA ksA krA kdA yx c0 wd h0 n0 _ T34.heap _
      rw [e34]
      have f35 := ((g25_6.keep Kq29).wr W34)
      have f36 := ((g25_4.keep Kq29 (ninS ne_kw_b25_1 nin0)).other W34 (Or.inl ne_kw_b25_2))
      have f37 := (f30.other W34 (Or.inl ne_kw_b25_2))
      have f38 := ((g25_5.keep Kq29 (ninS ne_kw_b25_1 nin0)).other W34 (Or.inl ne_kw_b25_2))
      have f39 := ((g25_3.keep Kq29 (ninS ne_kw_b25_1 nin0)).other W34 (Or.inl ne_kw_b25_2))
      have f40 := ((g25_7.keep Kq29 (ninS g25_0 nin0)).other W34 g25_1)
      exact ⟨b25_0, b25_2, _, _, rfl, N34, K34, sz_b25_0, sz_b25_2, g25_1, f35, f36, f37, f38, f39, f40, V34⟩
def QA87 (Z : State)  (h0 : Heap) (n0 : Nat) (v : Option Value) (h : Heap) (L : List Loc) : Prop := v = none ∧ Fr n0 L ∧ h = h0
set_option maxRecDepth 65536 in
set_option maxHeartbeats 40000000 in
theorem rmA87 (l : Launch) (Z : State) (a0 : Array Value) (hw : ∀ d ∈ tables_1, d.before a0 Z = true) (ws : List Jvm.Cond)  (h0 : Heap) (n0 : Nat) (Z0 : n0 ≤ h0.size) :
    MetFree l mn13 (head1 (Jvm.Cond.code mn13 jdk_65_method_30_code 3 none :: ws) ({ frames := 0, cells := 0, slots := 0, locals := 0 } : Room)) (fun a U => a = #[(.int (2 : Int32)), (.int (1 : Int32)), (.int (2 : Int32))] ∧ Z.Warmed39 U.vm ∧ U.heap = h0) (fun _ _ _ _ _ => True) (fun _ U oc_ U' => ∃ v L, oc_ = .returned v ∧ QA87 Z  h0 n0 v U'.heap L ∧ FrameEnd U oc_ U' L ({ frames := 0, cells := 0, slots := 0, locals := 0 } : Room).cells ({ frames := 0, cells := 0, slots := 0, locals := 0 } : Room).slots) := by
  refine MetFree.of_bodySF (plainFor_of_name pn_java_util_Arrays) hisR ?_
  intro p e s m args below meth c s₁ Bd hml0 hP hK
  obtain ⟨rfl, hZ, hh⟩ := hP
  have hx := Bd.exec
  have hby := Bd.bytes
  have hml : c.maxLocals = 3 := hml0
  have hown : s.vm.findClass "java/util/Arrays" = some m.cls := findClass_of_methodNamed Bd.named
  have hnm := (name_of_methodNamed Bd.named Bd.method).1
  have X0 : Stand p l e ({ frames := 0, cells := 0, slots := 0, locals := 0 } : Room) s m #[(.int (2 : Int32)), (.int (1 : Int32)), (.int (2 : Int32))] below meth c s₁ [] 0 0 := Stand.of_body Bd
  have e0 : s₁.heap = h0 := by rw [← hh, Bd.state]; rfl
  have N0 := Fr.nil n0
  have pre0 : ∀ t, SS p e below s₁ (mkF m 0 #[vi 2, vi 1, vi 2] []) t → Steps p.tables e below (s₁.setTop (entryFrame m #[(.int (2 : Int32)), (.int (1 : Int32)), (.int (2 : Int32))] 3)) t := fun t k => castTop (efa_jdk_65_method_30_code_vvv m (2 : Int32) (1 : Int32) (2 : Int32)) k
  obtain ⟨EN, hEN⟩ : ∃ z, z = s₁.setTop (entryFrame m #[(.int (2 : Int32)), (.int (1 : Int32)), (.int (2 : Int32))] 3) := ⟨_, rfl⟩
  rw [← hEN] at pre0
  subst hEN
  obtain ⟨lfs, lhr, lhrun, lhended, lhW, lhsame⟩ := X0.leave (v := none) (fun _ => rfl)
  refine ⟨_, _, pre0 _ ?_, lhrun, lhended, _, _, rfl, ?_, ⟨_, rfl⟩, lhW, lhsame.mono (by decide) (by decide)⟩
  · skip
    refine XS.iloadN X0.here hx rfl (hb hby di_0) rfl ?_
    refine XS.iloadN X0.here hx rfl (hb hby di_1) rfl ?_
    refine XS.icmpYes X0.here hx rfl (pc0 := 2) (pc' := 46) rfl (hb hby di_2) rfl (flt (by decide : ¬ ((2 : Int32) < (1 : Int32)))).2.2.2 (by decide) (by decide) ?_
    refine XS.iloadN X0.here hx rfl (hb hby di_46) rfl ?_
    refine XS.ifYes X0.here hx rfl (pc0 := 47) (pc' := 59) rfl (hb hby di_47) rfl ((if0 _ _).trans (flt (by decide : ¬ ((1 : Int32) < (0 : Int32)))).2.1) (by decide) (by decide) ?_
    refine XS.iloadN X0.here hx rfl (hb hby di_59) rfl ?_
    refine XS.iloadN X0.here hx rfl (hb hby di_60) rfl ?_
    refine XS.icmpYes X0.here hx rfl (pc0 := 61) (pc' := 73) rfl (hb hby di_61) rfl (flt (by decide : ¬ ((2 : Int32) < (2 : Int32)))).2.2.2 (by decide) (by decide) ?_
    show SS p e below s₁ (mkF m 73 #[vi 2, vi 1, vi 2] []) _
    exact X0.returnOut hx Bd.returns (hb hby di_73) lhr
  · skip
    show QA87 Z  h0 n0 _ s₁.heap _
    rw [e0]
    exact ⟨rfl, N0, rfl⟩
def QA86 (Z : State) (o0 : Addr) (y1 : Int64) (kk_o0 : ClassId) (h0 : Heap) (n0 : Nat) (v : Option Value) (h : Heap) (L : List Loc) : Prop := v = none ∧ Fr n0 L ∧ Keep h0 h [o0] ∧ Arv Z h o0 kk_o0 .long (2 : Int32) [(.long y1), (.long (0 : Int64))] (.long (0 : Int64))
set_option maxRecDepth 65536 in
set_option maxHeartbeats 40000000 in
theorem rmA86 (l : Launch) (Z : State) (a0 : Array Value) (hw : ∀ d ∈ tables_1, d.before a0 Z = true) (ws : List Jvm.Cond) (o0 : Addr) (y1 : Int64) (kk_o0 : ClassId) (h0 : Heap) (n0 : Nat) (Z0 : n0 ≤ h0.size) (V_o0 : Arv Z h0 o0 kk_o0 .long (2 : Int32) [(.long y1), (.long (0 : Int64))] (.long (0 : Int64))) (g_o0 : n0 ≤ o0) :
    MetFree l mn12 (head1 (Jvm.Cond.code mn12 jdk_65_method_102_code 6 none :: ws) ({ frames := 1, cells := 0, slots := 0, locals := 14 } : Room)) (fun a U => a = #[(.ref o0), (.int (1 : Int32)), (.int (2 : Int32)), (.long (0 : Int64))] ∧ Z.Warmed39 U.vm ∧ U.heap = h0) (fun _ _ _ _ _ => True) (fun _ U oc_ U' => ∃ v L, oc_ = .returned v ∧ QA86 Z o0 y1 kk_o0 h0 n0 v U'.heap L ∧ FrameEnd U oc_ U' L ({ frames := 1, cells := 0, slots := 0, locals := 14 } : Room).cells ({ frames := 1, cells := 0, slots := 0, locals := 14 } : Room).slots) := by
  refine MetFree.of_bodySF (plainFor_of_name pn_java_util_Arrays) hisR ?_
  intro p e s m args below meth c s₁ Bd hml0 hP hK
  obtain ⟨rfl, hZ, hh⟩ := hP
  have hx := Bd.exec
  have hby := Bd.bytes
  have hml : c.maxLocals = 6 := hml0
  have hown : s.vm.findClass "java/util/Arrays" = some m.cls := findClass_of_methodNamed Bd.named
  have hnm := (name_of_methodNamed Bd.named Bd.method).1
  have X0 : Stand p l e ({ frames := 1, cells := 0, slots := 0, locals := 14 } : Room) s m #[(.ref o0), (.int (1 : Int32)), (.int (2 : Int32)), (.long (0 : Int64))] below meth c s₁ [] 0 0 := Stand.of_body Bd
  have e0 : s₁.heap = h0 := by rw [← hh, Bd.state]; rfl
  have N0 := Fr.nil n0
  have pre0 : ∀ t, SS p e below s₁ (mkF m 0 #[vr o0, vi 1, vi 2, vl 0, sd, un] []) t → Steps p.tables e below (s₁.setTop (entryFrame m #[(.ref o0), (.int (1 : Int32)), (.int (2 : Int32)), (.long (0 : Int64))] 6)) t := fun t k => castTop (efa_jdk_65_method_102_code_vvvv m o0 (1 : Int32) (2 : Int32) (0 : Int64)) k
  obtain ⟨EN, hEN⟩ : ∃ z, z = s₁.setTop (entryFrame m #[(.ref o0), (.int (1 : Int32)), (.int (2 : Int32)), (.long (0 : Int64))] 6) := ⟨_, rfl⟩
  rw [← hEN] at pre0
  obtain ⟨cl1, Ar1, -, S1, M1, -, -⟩ := id V_o0
  obtain ⟨_, _, ⟨T2, L2, kc2, ks2⟩, -, X2, ⟨Lc2, hQ2, l2, y2, z2⟩, st2⟩ := Jvm.LawKit.callS X0 hx (y := mn13) hown (mvT hZ (wd39 hw)) (mvT hZ (wd40 hw)) (mvT hZ (wd37 hw)) (mvT hZ (wd41 hw)) (by decide) (backOf (W := 0) (rmA87 l Z a0 hw []  h0 n0 Z0 ) hZ (wd41 hw) (wd37 hw) (by decide) (by decide)) (g := (mkF m 4 #[vr o0, vi 1, vi 2, vl 0, sd, un] [(.int (2 : Int32)), (.int (1 : Int32)), (.int (2 : Int32))])) rfl (by rw [hml]; rfl) (argsL := [(.int (2 : Int32)), (.int (1 : Int32)), (.int (2 : Int32))]) (rest := []) (lenOf pd__III_V rfl) rfl (by show 2 * 0 + _ ≤ _; exact Nat.le_of_eq rfl) (hb hby da_4) (fun _ _ => ⟨rfl, e0, (by decide : 0 + 0 ≤ _), (by decide : 0 + 0 ≤ _)⟩)
  dsimp only [Pt.U, Pt.locs, Pt.cells, Pt.slots] at X2 l2 y2 z2 st2 hQ2
  subst l2 y2 z2
  obtain ⟨rfl, Nq2, eq2⟩ := hQ2
  have N2 := Fr.app N0 Nq2
  obtain ⟨cl3, Ar3, q3, S3, M3, HH3, GG3⟩ := id V_o0
  have hin3 : ¬ ((1 : Int32) < 0 ∨ cl3.slots.size ≤ ((1 : Int32)).toNatClampNeg) := inb_of S3 ⟨by decide, by decide⟩
  obtain ⟨T4, h4, X4, e4, W4, st4⟩ := stJ X2 hx hZ eq2 Ar3 (j := (1 : Int32)) hin3 (g := (mkF m 20 #[vr o0, vi 1, vi 2, vl 0, sd, vi 1] [(.long (0 : Int64)), (.int (1 : Int32)), (.ref o0)])) rfl rfl (hb hby da_20)
  have N4 := Fr.snoc X4 N2 g_o0
  have Z4 : n0 ≤ h4.size := by rw [W4.size]; exact Z0
  have K4 : Keep h0 h4 [o0] := ((Keep.refl h0 [o0]).wr W4 (Or.inl (List.mem_of_getElem? (i := 0) rfl)))
  have V4 := Arv.set Ar3 q3 S3 M3 HH3 GG3 rfl W4 1 rfl (Nat.le_of_ble_eq_true rfl)
  subst hEN
  obtain ⟨lfs, lhr, lhrun, lhended, lhW, lhsame⟩ := X4.leave (v := none) (fun _ => rfl)
  refine ⟨_, _, pre0 _ ?_, lhrun, lhended, _, _, rfl, ?_, ⟨_, rfl⟩, lhW, lhsame.mono (by decide) (by decide)⟩
  · skip
    refine XS.aloadN X0.here hx rfl (hb hby da_0) rfl rfl ?_
    refine X0.arraylength hx (by (try rw [e0]); exact Ar1.1) (State.isArrayOf_alike hZ.alike Ar1.2.1) (g := (mkF m 1 #[vr o0, vi 1, vi 2, vl 0, sd, un] [(.ref o0)])) rfl rfl (hb hby da_1) _ ?_
    rw [len_of S1 M1]
    refine XS.iloadN X0.here hx rfl (hb hby da_2) rfl ?_
    refine XS.iloadN X0.here hx rfl (hb hby da_3) rfl ?_
    refine st2 _ ?_
    refine XS.iloadN X2.here hx rfl (hb hby da_7) rfl ?_
    refine XS.istore X2.here hx rfl (hb hby da_8) rfl (l' := #[vr o0, vi 1, vi 2, vl 0, sd, vi 1]) rfl ?_
    refine XS.iload X2.here hx rfl (hb hby da_10) rfl ?_
    refine XS.iloadN X2.here hx rfl (hb hby da_12) rfl ?_
    refine XS.icmpNo X2.here hx rfl (hb hby da_13) rfl (tlt (by decide : (1 : Int32) < (2 : Int32))).2.1 ?_
    refine XS.aloadN X2.here hx rfl (hb hby da_16) rfl rfl ?_
    refine XS.iload X2.here hx rfl (hb hby da_17) rfl ?_
    refine XS.lloadN X2.here hx rfl (hb hby da_19) rfl ?_
    show SS p e below T2 (mkF m 20 #[vr o0, vi 1, vi 2, vl 0, sd, vi 1] [(.long (0 : Int64)), (.int (1 : Int32)), (.ref o0)]) _
    refine st4 _ ?_
    refine XS.iinc X4.here hx rfl (hb hby da_21) rfl (l' := #[vr o0, vi 1, vi 2, vl 0, sd, vi 2]) rfl ?_
    refine XS.goto X4.here hx rfl (pc0 := 24) (pc' := 10) rfl (hb hby da_24) (by decide) (by decide) ?_
    refine XS.iload X4.here hx rfl (hb hby da_10) rfl ?_
    refine XS.iloadN X4.here hx rfl (hb hby da_12) rfl ?_
    refine XS.icmpYes X4.here hx rfl (pc0 := 13) (pc' := 27) rfl (hb hby da_13) rfl (flt (by decide : ¬ ((2 : Int32) < (2 : Int32)))).2.1 (by decide) (by decide) ?_
    show SS p e below T4 (mkF m 27 #[vr o0, vi 1, vi 2, vl 0, sd, vi 2] []) _
    exact X4.returnOut hx Bd.returns (hb hby da_27) lhr
  · skip
    show QA86 Z o0 y1 kk_o0 h0 n0 _ T4.heap _
    rw [e4]
    exact ⟨rfl, N4, K4, V4⟩
def QA81 (Z : State) (o0 : Addr) (y1 : Int64) (o2 : Addr) (y3 : Int64) (kk_o2 : ClassId) (o4 : Addr) (y5 : Int64) (kk_o4 : ClassId) (o6 : Addr) (kk_o6 : ClassId) (h0 : Heap) (n0 : Nat) (v : Option Value) (h : Heap) (L : List Loc) : Prop := ∃ (b10_0 : Addr) (b23_0 : Addr) (b37_0 : Addr) (kk_b10_0 : ClassId) (kk_b23_0 : ClassId) (kk_b37_0 : ClassId), v = some (.int (1 : Int32)) ∧ Fr n0 L ∧ Keep h0 h [o0] ∧ h0.size ≤ b10_0 ∧ h0.size ≤ b23_0 ∧ h0.size ≤ b37_0 ∧ b10_0 ≠ b23_0 ∧ b10_0 ≠ b37_0 ∧ b23_0 ≠ b37_0 ∧ Fld Z h o0 cn2 "end" "I" (.int (2 : Int32)) ∧ Fld Z h o0 cn2 "starts" "[J" (.ref b10_0) ∧ Fld Z h o0 cn2 "first" "I" (.int (0 : Int32)) ∧ Exa Z h o0 cn2 ∧ Arv Z h b10_0 kk_b10_0 .long (2 : Int32) [(.long y3), (.long y1)] (.long (0 : Int64)) ∧ Fld Z h o0 cn2 "records" "[J" (.ref b23_0) ∧ Fld Z h o0 cn2 "width" "I" (.int (1 : Int32)) ∧ Arv Z h b23_0 kk_b23_0 .long (2 : Int32) [(.long y5), (.long (0 : Int64))] (.long (0 : Int64)) ∧ Fld Z h o0 cn2 "decidedAt" "[J" (.ref b37_0) ∧ Arv Z h b37_0 kk_b37_0 .long (2 : Int32) [(.long (0 : Int64)), (.long (0 : Int64))] (.long (0 : Int64))
set_option maxRecDepth 65536 in
set_option maxHeartbeats 40000000 in
theorem rmA81 (l : Launch) (Z : State) (a0 : Array Value) (hw : ∀ d ∈ tables_1, d.before a0 Z = true) (ws : List Jvm.Cond) (o0 : Addr) (y1 : Int64) (o2 : Addr) (y3 : Int64) (kk_o2 : ClassId) (o4 : Addr) (y5 : Int64) (kk_o4 : ClassId) (o6 : Addr) (kk_o6 : ClassId) (h0 : Heap) (n0 : Nat) (Z0 : n0 ≤ h0.size) (F_o0_end : Fld Z h0 o0 cn2 "end" "I" (.int (1 : Int32))) (F_o0_starts : Fld Z h0 o0 cn2 "starts" "[J" (.ref o2)) (V_o2 : Arv Z h0 o2 kk_o2 .long (1 : Int32) [(.long y3)] (.long (0 : Int64))) (F_o0_first : Fld Z h0 o0 cn2 "first" "I" (.int (0 : Int32))) (E_o0 : Exa Z h0 o0 cn2) (g_o0 : n0 ≤ o0) (F_o0_records : Fld Z h0 o0 cn2 "records" "[J" (.ref o4)) (F_o0_width : Fld Z h0 o0 cn2 "width" "I" (.int (1 : Int32))) (V_o4 : Arv Z h0 o4 kk_o4 .long (1 : Int32) [(.long y5)] (.long (0 : Int64))) (ne_o4_o0 : o4 ≠ o0) (ne_o2_o0 : o2 ≠ o0) (F_o0_decidedAt : Fld Z h0 o0 cn2 "decidedAt" "[J" (.ref o6)) (V_o6 : Arv Z h0 o6 kk_o6 .long (1 : Int32) [(.long (0 : Int64))] (.long (0 : Int64))) (ne_o6_o0 : o6 ≠ o0) :
    MetFree l mn4 (head1 (Jvm.Cond.code mn4 prog_23_method_7_code 7 (some .int) :: ws) ({ frames := 2, cells := 3, slots := 6, locals := 53 } : Room)) (fun a U => a = #[(.ref o0), (.int (1 : Int32)), (.long y1)] ∧ Z.Warmed39 U.vm ∧ U.heap = h0) (fun _ _ _ _ _ => True) (fun _ U oc_ U' => ∃ v L, oc_ = .returned v ∧ QA81 Z o0 y1 o2 y3 kk_o2 o4 y5 kk_o4 o6 kk_o6 h0 n0 v U'.heap L ∧ FrameEnd U oc_ U' L ({ frames := 2, cells := 3, slots := 6, locals := 53 } : Room).cells ({ frames := 2, cells := 3, slots := 6, locals := 53 } : Room).slots) := by
  refine MetFree.of_bodySF (plainFor_of_name pn_com_example_strict_limiter_strictlimiter_KeptWindows) hisR ?_
  intro p e s m args below meth c s₁ Bd hml0 hP hK
  obtain ⟨rfl, hZ, hh⟩ := hP
  have hx := Bd.exec
  have hby := Bd.bytes
  have hml : c.maxLocals = 7 := hml0
  have hown : s.vm.findClass cn2 = some m.cls := findClass_of_methodNamed Bd.named
  have hnm := (name_of_methodNamed Bd.named Bd.method).1
  have X0 : Stand p l e ({ frames := 2, cells := 3, slots := 6, locals := 53 } : Room) s m #[(.ref o0), (.int (1 : Int32)), (.long y1)] below meth c s₁ [] 0 0 := Stand.of_body Bd
  have e0 : s₁.heap = h0 := by rw [← hh, Bd.state]; rfl
  have N0 := Fr.nil n0
  have pre0 : ∀ t, SS p e below s₁ (mkF m 0 #[vr o0, vi 1, vl y1, sd, un, un, un] []) t → Steps p.tables e below (s₁.setTop (entryFrame m #[(.ref o0), (.int (1 : Int32)), (.long y1)] 7)) t := fun t k => castTop (efa_prog_23_method_7_code_vvv m o0 (1 : Int32) y1) k
  obtain ⟨EN, hEN⟩ : ∃ z, z = s₁.setTop (entryFrame m #[(.ref o0), (.int (1 : Int32)), (.long y1)] 7) := ⟨_, rfl⟩
  rw [← hEN] at pre0
  obtain ⟨T1, X1, e1, st1⟩ := getF X0 hx hZ hown (wf26 hw) Via.refl e0 F_o0_end (g := (mkF m 4 #[vr o0, vi 1, vl y1, sd, vi 1, un, un] [(.ref o0)])) rfl rfl (hb hby dn_4)
  obtain ⟨T2, X2, e2, st2⟩ := getF X1 hx hZ hown (wf11 hw) Via.refl e1 F_o0_starts (g := (mkF m 8 #[vr o0, vi 1, vl y1, sd, vi 1, un, un] [(.ref o0), (.int (1 : Int32))])) rfl rfl (hb hby dn_8)
  obtain ⟨cl3, Ar3, -, S3, M3, -, -⟩ := id V_o2
  obtain ⟨T4, X4, e4, st4⟩ := getF X2 hx hZ hown (wf26 hw) Via.refl e2 F_o0_end (g := (mkF m 16 #[vr o0, vi 1, vl y1, sd, vi 1, un, un] [(.ref o0)])) rfl rfl (hb hby dn_16)
  obtain ⟨T5, X5, e5, st5⟩ := getF X4 hx hZ hown (wf24 hw) Via.refl e4 F_o0_first (g := (mkF m 20 #[vr o0, vi 1, vl y1, sd, vi 1, un, un] [(.ref o0), (.int (1 : Int32))])) rfl rfl (hb hby dn_20)
  obtain ⟨T6, X6, e6, st6⟩ := getF X5 hx hZ hown (wf11 hw) Via.refl e5 F_o0_starts (g := (mkF m 29 #[vr o0, vi 1, vl y1, sd, vi 1, vi 1, un] [(.ref o0), (.int (1 : Int32))])) rfl rfl (hb hby dn_29)
  obtain ⟨cl7, Ar7, -, S7, M7, -, -⟩ := id V_o2
  obtain ⟨_, _, ⟨T8, L8, kc8, ks8⟩, -, X8, ⟨Lc8, hQ8, l8, y8, z8⟩, st8⟩ := Jvm.LawKit.callS X6 hx (y := mn7) hown (mvT hZ (wd49 hw)) (mvT hZ (wd50 hw)) (mvT hZ (wd51 hw)) (mvT hZ (wd52 hw)) (by decide) (backOf (W := 0) (rmA59 l Z a0 hw []  h0 n0 Z0 ) hZ (wd52 hw) (wd51 hw) (by decide) (by decide)) (g := (mkF m 41 #[vr o0, vi 1, vl y1, sd, vi 1, vi 1, un] [(.int (2 : Int32)), (.int (1 : Int32))])) rfl (by rw [hml]; rfl) (argsL := [(.int (1 : Int32)), (.int (2 : Int32))]) (rest := []) (lenOf pd__II_I rfl) rfl (by show 2 * 0 + _ ≤ _; exact Nat.le_of_eq rfl) (hb hby dn_41) (fun _ _ => ⟨rfl, e6, (by decide : 0 + 0 ≤ _), (by decide : 0 + 0 ≤ _)⟩)
  dsimp only [Pt.U, Pt.locs, Pt.cells, Pt.slots] at X8 l8 y8 z8 st8 hQ8
  subst l8 y8 z8
  obtain ⟨rfl, Nq8, eq8⟩ := hQ8
  have N8 := Fr.app N0 Nq8
  obtain ⟨T9, X9, e9, st9⟩ := getF X8 hx hZ hown (wf11 hw) Via.refl eq8 F_o0_starts (g := (mkF m 57 #[vr o0, vi 1, vl y1, sd, vi 1, vi 1, vi 2] [(.ref o0), (.ref o0), (.ref o0)])) rfl rfl (hb hby dn_57)
  obtain ⟨cq10, q10, q10'⟩ := E_o0.cell
  obtain ⟨_, _, ⟨T10, L10, kc10, ks10⟩, -, X10, ⟨Lc10, hQ10, l10, y10, z10⟩, st10⟩ := X9.privateBack hx (y := mn5) hown (mvT hZ (wd53 hw)) (mvT hZ (wd54 hw)) (own_selPriv (mvT hZ (wd1 hw)) (Cond.privateMethod_at (mvP hZ (wd55 hw) (args := #[]))) (mvT hZ (wd54 hw)) (by decide)) (Cond.privateMethod_at (mvP hZ (wd55 hw) (args := #[]))) (mvT hZ (wd56 hw)) (by decide) (backOf (W := 1) (rmA60 l Z a0 hw [] o0 o2 y3 _ h0 n0 Z0 F_o0_first F_o0_end V_o2) hZ (wd56 hw) (wd2 hw) (by decide) (by decide)) (g := (mkF m 63 #[vr o0, vi 1, vl y1, sd, vi 1, vi 1, vi 2] [(.int (2 : Int32)), (.int (1 : Int32)), (.ref o2), (.ref o0), (.ref o0)])) rfl (by rw [hml]; rfl) (Steps.refl _) (a := o0) (by rw [e9]; exact q10) q10' (argsL := [(.ref o2), (.int (1 : Int32)), (.int (2 : Int32))]) (rest := [(.ref o0)]) (lenOf pd___JII__J rfl) rfl (by show 2 * 0 + _ ≤ _; exact Nat.le_of_eq rfl) (hb hby dn_63) (fun _ _ => ⟨rfl, e9, (by decide : 0 + 1 ≤ _), (by decide : 0 + 2 ≤ _)⟩)
  dsimp only [Pt.U, Pt.locs, Pt.cells, Pt.slots] at X10 l10 y10 z10 st10 hQ10
  subst l10 y10 z10
  obtain ⟨b10_0, kv10_1, rfl, Nq10, Kq10, sz10_0, g10_0⟩ := hQ10
  have N10 := Fr.app N8 Nq10
  have Z10 := Nat.le_trans Z0 Kq10.1
  have K10 : Keep h0 T10.heap [o0] := Keep.trans (Keep.refl h0 [o0]) Kq10 all0
  have ne_o0_b10_0 := own_ne F_o0_end.lt sz10_0
  have ne_o2_b10_0 := own_ne V_o2.lt sz10_0
  have ge_b10_0 := Nat.le_trans Z0 sz10_0
  have sz_b10_0 : h0.size ≤ b10_0 := Nat.le_trans (Nat.le_refl _) sz10_0
  have f11 := (E_o0.keep Kq10)
  have f12 := (F_o0_starts.keep Kq10 nin0)
  obtain ⟨T13, h13, X13, e13, W13, st13⟩ := putF X10 hx hZ hown (wf11 hw) Via.refl rfl f12 f11 (Or.inl (wd12 hw)) (wd1 hw) (ty := (.array .long)) (by decide) rfl rfl (g := (mkF m 66 #[vr o0, vi 1, vl y1, sd, vi 1, vi 1, vi 2] [(.ref b10_0), (.ref o0)])) rfl rfl (hb hby dn_66)
  have N13 := Fr.snoc X13 N10 g_o0
  have Z13 : n0 ≤ h13.size := by rw [W13.size]; exact Z10
  have K13 := (K10.wr W13 (Or.inl (List.mem_of_getElem? (i := 0) rfl)))
  have Fw13 := f12.same W13
  have f14 := ((F_o0_records.keep Kq10 nin0).other W13 (Or.inr (sn5 hw)))
  obtain ⟨T15, X15, e15, st15⟩ := getF X13 hx hZ hown (wf13 hw) Via.refl e13 f14 (g := (mkF m 72 #[vr o0, vi 1, vl y1, sd, vi 1, vi 1, vi 2] [(.ref o0), (.ref o0), (.ref o0)])) rfl rfl (hb hby dn_72)
  have f16 := ((F_o0_width.keep Kq10 nin0).other W13 (Or.inr (sn25 hw)))
  obtain ⟨T17, X17, e17, st17⟩ := getF X15 hx hZ hown (wf17 hw) Via.refl e15 f16 (g := (mkF m 76 #[vr o0, vi 1, vl y1, sd, vi 1, vi 1, vi 2] [(.ref o0), (.ref o4), (.ref o0), (.ref o0)])) rfl rfl (hb hby dn_76)
  have f18 := ((F_o0_first.keep Kq10 nin0).other W13 (Or.inr (sn15 hw)))
  have f19 := ((F_o0_end.keep Kq10 nin0).other W13 (Or.inr (sn20 hw)))
  have f20 := ((V_o4.keep Kq10 nin0).other W13 ne_o4_o0)
  have f21 := ((V_o2.keep Kq10 nin0).other W13 ne_o2_o0)
  have f22 := (g10_0.other W13 (Ne.symm ne_o0_b10_0))
  have f24 := (f11.wr W13)
  obtain ⟨cq23, q23, q23'⟩ := f24.cell
  obtain ⟨_, _, ⟨T23, L23, kc23, ks23⟩, -, X23, ⟨Lc23, hQ23, l23, y23, z23⟩, st23⟩ := X17.privateBack hx (y := mn5) hown (mvT hZ (wd53 hw)) (mvT hZ (wd54 hw)) (own_selPriv (mvT hZ (wd1 hw)) (Cond.privateMethod_at (mvP hZ (wd55 hw) (args := #[]))) (mvT hZ (wd54 hw)) (by decide)) (Cond.privateMethod_at (mvP hZ (wd55 hw) (args := #[]))) (mvT hZ (wd56 hw)) (by decide) (backOf (W := 1) (rmA60 l Z a0 hw [] o0 o4 y5 _ h13 n0 Z13 f18 f19 f20) hZ (wd56 hw) (wd2 hw) (by decide) (by decide)) (g := (mkF m 81 #[vr o0, vi 1, vl y1, sd, vi 1, vi 1, vi 2] [(.int (2 : Int32)), (.int (1 : Int32)), (.ref o4), (.ref o0), (.ref o0)])) rfl (by rw [hml]; rfl) (Steps.refl _) (a := o0) (by rw [e17]; exact q23) q23' (argsL := [(.ref o4), (.int (1 : Int32)), (.int (2 : Int32))]) (rest := [(.ref o0)]) (lenOf pd___JII__J rfl) rfl (by show 2 * 0 + _ ≤ _; exact Nat.le_of_eq rfl) (hb hby dn_81) (fun _ _ => ⟨rfl, e17, (by decide : 1 + 1 ≤ _), (by decide : 2 + 2 ≤ _)⟩)
  dsimp only [Pt.U, Pt.locs, Pt.cells, Pt.slots] at X23 l23 y23 z23 st23 hQ23
  subst l23 y23 z23
  obtain ⟨b23_0, kv23_1, rfl, Nq23, Kq23, sz23_0, g23_0⟩ := hQ23
  have N23 := Fr.app N13 Nq23
  have Z23 := Nat.le_trans Z13 Kq23.1
  have K23 := Keep.trans K13 Kq23 all0
  have ne_o0_b23_0 := own_ne f19.lt sz23_0
  have ne_o2_b23_0 := own_ne f21.lt sz23_0
  have ne_b10_0_b23_0 := own_ne f22.lt sz23_0
  have ne_o4_b23_0 := own_ne f20.lt sz23_0
  have ge_b23_0 := Nat.le_trans Z13 sz23_0
  have sz_b23_0 := Nat.le_trans K13.1 sz23_0
  have f25 := (f24.keep Kq23)
  have f26 := (f14.keep Kq23 nin0)
  obtain ⟨T27, h27, X27, e27, W27, st27⟩ := putF X23 hx hZ hown (wf13 hw) Via.refl rfl f26 f25 (Or.inl (wd14 hw)) (wd1 hw) (ty := (.array .long)) (by decide) rfl rfl (g := (mkF m 84 #[vr o0, vi 1, vl y1, sd, vi 1, vi 1, vi 2] [(.ref b23_0), (.ref o0)])) rfl rfl (hb hby dn_84)
  have N27 := Fr.snoc X27 N23 g_o0
  have Z27 : n0 ≤ h27.size := by rw [W27.size]; exact Z23
  have K27 := (K23.wr W27 (Or.inl (List.mem_of_getElem? (i := 0) rfl)))
  have Fw27 := f26.same W27
  have f28 := ((((F_o0_decidedAt.keep Kq10 nin0).other W13 (Or.inr (sn10 hw))).keep Kq23 nin0).other W27 (Or.inr (sn11 hw)))
  obtain ⟨T29, X29, e29, st29⟩ := getF X27 hx hZ hown (wf15 hw) Via.refl e27 f28 (g := (mkF m 90 #[vr o0, vi 1, vl y1, sd, vi 1, vi 1, vi 2] [(.ref o0), (.ref o0), (.ref o0)])) rfl rfl (hb hby dn_90)
  have f30 := ((f18.keep Kq23 nin0).other W27 (Or.inr (sn16 hw)))
  have f31 := ((f19.keep Kq23 nin0).other W27 (Or.inr (sn21 hw)))
  have f32 := ((((V_o6.keep Kq10 nin0).other W13 ne_o6_o0).keep Kq23 nin0).other W27 ne_o6_o0)
  have f33 := ((f21.keep Kq23 nin0).other W27 ne_o2_o0)
  have f34 := ((f22.keep Kq23 nin0).other W27 (Ne.symm ne_o0_b10_0))
  have f35 := ((f20.keep Kq23 nin0).other W27 ne_o4_o0)
  have f36 := (g23_0.other W27 (Ne.symm ne_o0_b23_0))
  have f38 := (f25.wr W27)
  obtain ⟨cq37, q37, q37'⟩ := f38.cell
  obtain ⟨_, _, ⟨T37, L37, kc37, ks37⟩, -, X37, ⟨Lc37, hQ37, l37, y37, z37⟩, st37⟩ := X29.privateBack hx (y := mn5) hown (mvT hZ (wd53 hw)) (mvT hZ (wd54 hw)) (own_selPriv (mvT hZ (wd1 hw)) (Cond.privateMethod_at (mvP hZ (wd55 hw) (args := #[]))) (mvT hZ (wd54 hw)) (by decide)) (Cond.privateMethod_at (mvP hZ (wd55 hw) (args := #[]))) (mvT hZ (wd56 hw)) (by decide) (backOf (W := 1) (rmA62 l Z a0 hw [] o0 o6 _ h27 n0 Z27 f30 f31 f32) hZ (wd56 hw) (wd2 hw) (by decide) (by decide)) (g := (mkF m 96 #[vr o0, vi 1, vl y1, sd, vi 1, vi 1, vi 2] [(.int (2 : Int32)), (.int (1 : Int32)), (.ref o6), (.ref o0), (.ref o0)])) rfl (by rw [hml]; rfl) (Steps.refl _) (a := o0) (by rw [e29]; exact q37) q37' (argsL := [(.ref o6), (.int (1 : Int32)), (.int (2 : Int32))]) (rest := [(.ref o0)]) (lenOf pd___JII__J rfl) rfl (by show 2 * 0 + _ ≤ _; exact Nat.le_of_eq rfl) (hb hby dn_96) (fun _ _ => ⟨rfl, e29, (by decide : 2 + 1 ≤ _), (by decide : 4 + 2 ≤ _)⟩)
  dsimp only [Pt.U, Pt.locs, Pt.cells, Pt.slots] at X37 l37 y37 z37 st37 hQ37
  subst l37 y37 z37
  obtain ⟨b37_0, kv37_1, rfl, Nq37, Kq37, sz37_0, g37_0⟩ := hQ37
  have N37 := Fr.app N27 Nq37
  have Z37 := Nat.le_trans Z27 Kq37.1
  have K37 := Keep.trans K27 Kq37 all0
  have ne_o0_b37_0 := own_ne f31.lt sz37_0
  have ne_o2_b37_0 := own_ne f33.lt sz37_0
  have ne_b10_0_b37_0 := own_ne f34.lt sz37_0
  have ne_o4_b37_0 := own_ne f35.lt sz37_0
  have ne_b23_0_b37_0 := own_ne f36.lt sz37_0
  have ne_o6_b37_0 := own_ne f32.lt sz37_0
  have ge_b37_0 := Nat.le_trans Z27 sz37_0
  have sz_b37_0 := Nat.le_trans K27.1 sz37_0
  have f39 := (f38.keep Kq37)
  have f40 := (f28.keep Kq37 nin0)
  obtain ⟨T41, h41, X41, e41, W41, st41⟩ := putF X37 hx hZ hown (wf15 hw) Via.refl rfl f40 f39 (Or.inl (wd16 hw)) (wd1 hw) (ty := (.array .long)) (by decide) rfl rfl (g := (mkF m 99 #[vr o0, vi 1, vl y1, sd, vi 1, vi 1, vi 2] [(.ref b37_0), (.ref o0)])) rfl rfl (hb hby dn_99)
  have N41 := Fr.snoc X41 N37 g_o0
  have Z41 : n0 ≤ h41.size := by rw [W41.size]; exact Z37
  have K41 := (K37.wr W41 (Or.inl (List.mem_of_getElem? (i := 0) rfl)))
  have Fw41 := f40.same W41
  have f42 := ((f30.keep Kq37 nin0).other W41 (Or.inr (sn17 hw)))
  obtain ⟨T43, X43, e43, st43⟩ := getF X41 hx hZ hown (wf24 hw) Via.refl e41 f42 (g := (mkF m 105 #[vr o0, vi 1, vl y1, sd, vi 1, vi 1, vi 2] [(.ref o0), (.int (1 : Int32))])) rfl rfl (hb hby dn_105)
  have f44 := (f39.wr W41)
  obtain ⟨T45, h45, X45, e45, W45, st45⟩ := putF X43 hx hZ hown (wf24 hw) Via.refl e43 f42 f44 (Or.inl (wd25 hw)) (wd1 hw) (ty := .int) (by decide) rfl rfl (g := (mkF m 113 #[vr o0, vi 1, vl y1, sd, vi 1, vi 1, vi 2] [(.int (0 : Int32)), (.ref o0)])) rfl rfl (hb hby dn_113)
  have N45 := Fr.snoc X45 N41 g_o0
  have Z45 : n0 ≤ h45.size := by rw [W45.size]; exact Z41
  have K45 := (K41.wr W45 (Or.inl (List.mem_of_getElem? (i := 0) rfl)))
  have Fw45 := f42.same W45
  have f46 := (f44.wr W45)
  have f47 := (((f31.keep Kq37 nin0).other W41 (Or.inr (sn22 hw))).other W45 (Or.inr (sn23 hw)))
  obtain ⟨T48, h48, X48, e48, W48, st48⟩ := putF X45 hx hZ hown (wf26 hw) Via.refl e45 f47 f46 (Or.inl (wd27 hw)) (wd1 hw) (ty := .int) (by decide) rfl rfl (g := (mkF m 119 #[vr o0, vi 1, vl y1, sd, vi 1, vi 1, vi 2] [(.int (1 : Int32)), (.ref o0)])) rfl rfl (hb hby dn_119)
  have N48 := Fr.snoc X48 N45 g_o0
  have Z48 : n0 ≤ h48.size := by rw [W48.size]; exact Z45
  have K48 := (K45.wr W48 (Or.inl (List.mem_of_getElem? (i := 0) rfl)))
  have Fw48 := f47.same W48
  have f49 := ((((((Fw13.keep Kq23 nin0).other W27 (Or.inr (sn0 hw))).keep Kq37 nin0).other W41 (Or.inr (sn1 hw))).other W45 (Or.inr (sn2 hw))).other W48 (Or.inr (sn3 hw)))
  obtain ⟨T50, X50, e50, st50⟩ := getF X48 hx hZ hown (wf11 hw) Via.refl e48 f49 (g := (mkF m 123 #[vr o0, vi 1, vl y1, sd, vi 1, vi 1, vi 2] [(.ref o0)])) rfl rfl (hb hby dn_123)
  obtain ⟨T51, X51, e51, st51⟩ := getF X50 hx hZ hown (wf11 hw) Via.refl e50 f49 (g := (mkF m 129 #[vr o0, vi 1, vl y1, sd, vi 1, vi 1, vi 2] [(.ref o0), (.int (1 : Int32)), (.ref b10_0)])) rfl rfl (hb hby dn_129)
  obtain ⟨T52, X52, e52, st52⟩ := getF X51 hx hZ hown (wf26 hw) Via.refl e51 Fw48 (g := (mkF m 137 #[vr o0, vi 1, vl y1, sd, vi 1, vi 1, vi 2] [(.ref o0), (.int (2 : Int32)), (.ref b10_0), (.int (1 : Int32)), (.ref b10_0)])) rfl rfl (hb hby dn_137)
  have f53 := ((((f34.keep Kq37 nin0).other W41 (Ne.symm ne_o0_b10_0)).other W45 (Ne.symm ne_o0_b10_0)).other W48 (Ne.symm ne_o0_b10_0))
  obtain ⟨T54, h54, Lq54, X54, e54, Nq54, Kq54, Vq54, st54⟩ := cpA X52 hx hZ hown (wd58 hw) (wd61 hw) (wd59 hw) (wd60 hw) e52 (us := []) f53 f53 (Or.inl ⟨rfl, rfl⟩) (by decide) (by decide) (by decide) (by first | decide | exact Nat.le_of_ble_eq_true rfl) (by first | decide | exact Nat.le_of_ble_eq_true rfl) (by rfl) (by first | decide | exact Nat.le_of_ble_eq_true rfl) N48 ge_b10_0 (g := (mkF m 143 #[vr o0, vi 1, vl y1, sd, vi 1, vi 1, vi 2] [(.int (0 : Int32)), (.int (2 : Int32)), (.ref b10_0), (.int (1 : Int32)), (.ref b10_0)])) rfl (by rw [hml]; rfl) rfl (hb hby dn_143) (by decide) (W := 0) (by show 2 * 0 + _ ≤ _; exact Nat.le_of_eq rfl) (by decide)
  have Z54 := Nat.le_trans Z48 Kq54.1
  have K54 := Keep.trans K48 Kq54 (allS (Or.inr sz_b10_0) all0)
  have V54 : Arv Z h54 b10_0 _ .long (2 : Int32) [(.long y3), (.long (0 : Int64))] (.long (0 : Int64)) := Vq54
  have f55 := (((((Fw27.keep Kq37 nin0).other W41 (Or.inr (sn6 hw))).other W45 (Or.inr (sn7 hw))).other W48 (Or.inr (sn8 hw))).keep Kq54 (ninS ne_o0_b10_0 nin0))
  obtain ⟨T56, X56, e56, st56⟩ := getF X54 hx hZ hown (wf13 hw) Via.refl e54 f55 (g := (mkF m 147 #[vr o0, vi 1, vl y1, sd, vi 1, vi 1, vi 2] [(.ref o0)])) rfl rfl (hb hby dn_147)
  have f57 := (((((((f16.keep Kq23 nin0).other W27 (Or.inr (sn26 hw))).keep Kq37 nin0).other W41 (Or.inr (sn27 hw))).other W45 (Or.inr (sn28 hw))).other W48 (Or.inr (sn29 hw))).keep Kq54 (ninS ne_o0_b10_0 nin0))
  obtain ⟨T58, X58, e58, st58⟩ := getF X56 hx hZ hown (wf17 hw) Via.refl e56 f57 (g := (mkF m 153 #[vr o0, vi 1, vl y1, sd, vi 1, vi 1, vi 2] [(.ref o0), (.int (1 : Int32)), (.ref b23_0)])) rfl rfl (hb hby dn_153)
  obtain ⟨T59, X59, e59, st59⟩ := getF X58 hx hZ hown (wf13 hw) Via.refl e58 f55 (g := (mkF m 158 #[vr o0, vi 1, vl y1, sd, vi 1, vi 1, vi 2] [(.ref o0), (.int (1 : Int32)), (.ref b23_0)])) rfl rfl (hb hby dn_158)
  obtain ⟨T60, X60, e60, st60⟩ := getF X59 hx hZ hown (wf17 hw) Via.refl e59 f57 (g := (mkF m 166 #[vr o0, vi 1, vl y1, sd, vi 1, vi 1, vi 2] [(.ref o0), (.int (2 : Int32)), (.ref b23_0), (.int (1 : Int32)), (.ref b23_0)])) rfl rfl (hb hby dn_166)
  have f61 := (Fw48.keep Kq54 (ninS ne_o0_b10_0 nin0))
  obtain ⟨T62, X62, e62, st62⟩ := getF X60 hx hZ hown (wf26 hw) Via.refl e60 f61 (g := (mkF m 171 #[vr o0, vi 1, vl y1, sd, vi 1, vi 1, vi 2] [(.ref o0), (.int (2 : Int32)), (.ref b23_0), (.int (1 : Int32)), (.ref b23_0)])) rfl rfl (hb hby dn_171)
  obtain ⟨T63, X63, e63, st63⟩ := getF X62 hx hZ hown (wf17 hw) Via.refl e62 f57 (g := (mkF m 178 #[vr o0, vi 1, vl y1, sd, vi 1, vi 1, vi 2] [(.ref o0), (.int (0 : Int32)), (.int (2 : Int32)), (.ref b23_0), (.int (1 : Int32)), (.ref b23_0)])) rfl rfl (hb hby dn_178)
  have f64 := (((((f36.keep Kq37 nin0).other W41 (Ne.symm ne_o0_b23_0)).other W45 (Ne.symm ne_o0_b23_0)).other W48 (Ne.symm ne_o0_b23_0)).keep Kq54 (ninS (Ne.symm ne_b10_0_b23_0) nin0))
  obtain ⟨T65, h65, Lq65, X65, e65, Nq65, Kq65, Vq65, st65⟩ := cpA X63 hx hZ hown (wd58 hw) (wd61 hw) (wd59 hw) (wd60 hw) e63 (us := []) f64 f64 (Or.inl ⟨rfl, rfl⟩) (by decide) (by decide) (by decide) (by first | decide | exact Nat.le_of_ble_eq_true rfl) (by first | decide | exact Nat.le_of_ble_eq_true rfl) (by rfl) (by first | decide | exact Nat.le_of_ble_eq_true rfl) Nq54 ge_b23_0 (g := (mkF m 182 #[vr o0, vi 1, vl y1, sd, vi 1, vi 1, vi 2] [(.int (0 : Int32)), (.int (2 : Int32)), (.ref b23_0), (.int (1 : Int32)), (.ref b23_0)])) rfl (by rw [hml]; rfl) rfl (hb hby dn_182) (by decide) (W := 0) (by show 2 * 0 + _ ≤ _; exact Nat.le_of_eq rfl) (by decide)
  have Z65 := Nat.le_trans Z54 Kq65.1
  have K65 := Keep.trans K54 Kq65 (allS (Or.inr sz_b23_0) all0)
  have V65 : Arv Z h65 b23_0 _ .long (2 : Int32) [(.long y5), (.long (0 : Int64))] (.long (0 : Int64)) := Vq65
  have f66 := ((((Fw41.other W45 (Or.inr (sn12 hw))).other W48 (Or.inr (sn13 hw))).keep Kq54 (ninS ne_o0_b10_0 nin0)).keep Kq65 (ninS ne_o0_b23_0 nin0))
  obtain ⟨T67, X67, e67, st67⟩ := getF X65 hx hZ hown (wf15 hw) Via.refl e65 f66 (g := (mkF m 186 #[vr o0, vi 1, vl y1, sd, vi 1, vi 1, vi 2] [(.ref o0)])) rfl rfl (hb hby dn_186)
  obtain ⟨T68, X68, e68, st68⟩ := getF X67 hx hZ hown (wf15 hw) Via.refl e67 f66 (g := (mkF m 192 #[vr o0, vi 1, vl y1, sd, vi 1, vi 1, vi 2] [(.ref o0), (.int (1 : Int32)), (.ref b37_0)])) rfl rfl (hb hby dn_192)
  have f69 := (f61.keep Kq65 (ninS ne_o0_b23_0 nin0))
  obtain ⟨T70, X70, e70, st70⟩ := getF X68 hx hZ hown (wf26 hw) Via.refl e68 f69 (g := (mkF m 200 #[vr o0, vi 1, vl y1, sd, vi 1, vi 1, vi 2] [(.ref o0), (.int (2 : Int32)), (.ref b37_0), (.int (1 : Int32)), (.ref b37_0)])) rfl rfl (hb hby dn_200)
  have f71 := (((((g37_0.other W41 (Ne.symm ne_o0_b37_0)).other W45 (Ne.symm ne_o0_b37_0)).other W48 (Ne.symm ne_o0_b37_0)).keep Kq54 (ninS (Ne.symm ne_b10_0_b37_0) nin0)).keep Kq65 (ninS (Ne.symm ne_b23_0_b37_0) nin0))
  obtain ⟨T72, h72, Lq72, X72, e72, Nq72, Kq72, Vq72, st72⟩ := cpA X70 hx hZ hown (wd58 hw) (wd61 hw) (wd59 hw) (wd60 hw) e70 (us := []) f71 f71 (Or.inl ⟨rfl, rfl⟩) (by decide) (by decide) (by decide) (by first | decide | exact Nat.le_of_ble_eq_true rfl) (by first | decide | exact Nat.le_of_ble_eq_true rfl) (by rfl) (by first | decide | exact Nat.le_of_ble_eq_true rfl) Nq65 ge_b37_0 (g := (mkF m 206 #[vr o0, vi 1, vl y1, sd, vi 1, vi 1, vi 2] [(.int (0 : Int32)), (.int (2 : Int32)), (.ref b37_0), (.int (1 : Int32)), (.ref b37_0)])) rfl (by rw [hml]; rfl) rfl (hb hby dn_206) (by decide) (W := 0) (by show 2 * 0 + _ ≤ _; exact Nat.le_of_eq rfl) (by decide)
  have Z72 := Nat.le_trans Z65 Kq72.1
  have K72 := Keep.trans K65 Kq72 (allS (Or.inr sz_b37_0) all0)
  have V72 : Arv Z h72 b37_0 _ .long (2 : Int32) [(.long (0 : Int64)), (.long (0 : Int64))] (.long (0 : Int64)) := Vq72
  have f73 := (((f49.keep Kq54 (ninS ne_o0_b10_0 nin0)).keep Kq65 (ninS ne_o0_b23_0 nin0)).keep Kq72 (ninS ne_o0_b37_0 nin0))
  obtain ⟨T74, X74, e74, st74⟩ := getF X72 hx hZ hown (wf11 hw) Via.refl e72 f73 (g := (mkF m 210 #[vr o0, vi 1, vl y1, sd, vi 1, vi 1, vi 2] [(.ref o0)])) rfl rfl (hb hby dn_210)
  have f75 := ((V54.keep Kq65 (ninS ne_b10_0_b23_0 nin0)).keep Kq72 (ninS ne_b10_0_b37_0 nin0))
  obtain ⟨cl76, Ar76, q76, S76, M76, HH76, GG76⟩ := id f75
  have hin76 : ¬ ((1 : Int32) < 0 ∨ cl76.slots.size ≤ ((1 : Int32)).toNatClampNeg) := inb_of S76 ⟨by decide, by decide⟩
  obtain ⟨T77, h77, X77, e77, W77, st77⟩ := stJ X74 hx hZ e74 Ar76 (j := (1 : Int32)) hin76 (g := (mkF m 216 #[vr o0, vi 1, vl y1, sd, vi 1, vi 1, vi 2] [(.long y1), (.int (1 : Int32)), (.ref b10_0)])) rfl rfl (hb hby dn_216)
  have N77 := Fr.snoc X77 Nq72 ge_b10_0
  have Z77 : n0 ≤ h77.size := by rw [W77.size]; exact Z72
  have K77 := (K72.wr W77 (Or.inr sz_b10_0))
  have V77 := Arv.set Ar76 q76 S76 M76 HH76 GG76 rfl W77 1 rfl (Nat.le_of_ble_eq_true rfl)
  have f78 := (((f55.keep Kq65 (ninS ne_o0_b23_0 nin0)).keep Kq72 (ninS ne_o0_b37_0 nin0)).other W77 (Or.inl ne_o0_b10_0))
  obtain ⟨T79, X79, e79, st79⟩ := getF X77 hx hZ hown (wf13 hw) Via.refl e77 f78 (g := (mkF m 218 #[vr o0, vi 1, vl y1, sd, vi 1, vi 1, vi 2] [(.ref o0)])) rfl rfl (hb hby dn_218)
  have f80 := (((f57.keep Kq65 (ninS ne_o0_b23_0 nin0)).keep Kq72 (ninS ne_o0_b37_0 nin0)).other W77 (Or.inl ne_o0_b10_0))
  obtain ⟨T81, X81, e81, st81⟩ := getF X79 hx hZ hown (wf17 hw) Via.refl e79 f80 (g := (mkF m 224 #[vr o0, vi 1, vl y1, sd, vi 1, vi 1, vi 2] [(.ref o0), (.int (1 : Int32)), (.ref b23_0)])) rfl rfl (hb hby dn_224)
  obtain ⟨T82, X82, e82, st82⟩ := getF X81 hx hZ hown (wf17 hw) Via.refl e81 f80 (g := (mkF m 233 #[vr o0, vi 1, vl y1, sd, vi 1, vi 1, vi 2] [(.ref o0), (.int (2 : Int32)), (.int (1 : Int32)), (.ref b23_0)])) rfl rfl (hb hby dn_233)
  have f83 := ((V65.keep Kq72 (ninS ne_b23_0_b37_0 nin0)).other W77 (Ne.symm ne_b10_0_b23_0))
  obtain ⟨_, _, ⟨T84, L84, kc84, ks84⟩, -, X84, ⟨Lc84, hQ84, l84, y84, z84⟩, st84⟩ := Jvm.LawKit.callS X82 hx (y := mn12) hown (mvT hZ (wd62 hw)) (mvT hZ (wd63 hw)) (mvT hZ (wd37 hw)) (mvT hZ (wd64 hw)) (by decide) (backOf (W := 0) (rmA86 l Z a0 hw [] b23_0 y5 _ h77 n0 Z77 f83 ge_b23_0) hZ (wd64 hw) (wd37 hw) (by decide) (by decide)) (g := (mkF m 238 #[vr o0, vi 1, vl y1, sd, vi 1, vi 1, vi 2] [(.long (0 : Int64)), (.int (2 : Int32)), (.int (1 : Int32)), (.ref b23_0)])) rfl (by rw [hml]; rfl) (argsL := [(.ref b23_0), (.int (1 : Int32)), (.int (2 : Int32)), (.long (0 : Int64))]) (rest := []) (lenOf pd___JIIJ_V rfl) rfl (by show 2 * 0 + _ ≤ _; exact Nat.le_of_eq rfl) (hb hby dn_238) (fun _ _ => ⟨rfl, e82, (by decide : 3 + 0 ≤ _), (by decide : 6 + 0 ≤ _)⟩)
  dsimp only [Pt.U, Pt.locs, Pt.cells, Pt.slots] at X84 l84 y84 z84 st84 hQ84
  subst l84 y84 z84
  obtain ⟨rfl, Nq84, Kq84, g84_0⟩ := hQ84
  have N84 := Fr.app N77 Nq84
  have Z84 := Nat.le_trans Z77 Kq84.1
  have K84 := Keep.trans K77 Kq84 (allS (Or.inr sz_b23_0) all0)
  have f85 := (((f69.keep Kq72 (ninS ne_o0_b37_0 nin0)).other W77 (Or.inl ne_o0_b10_0)).keep Kq84 (ninS ne_o0_b23_0 nin0))
  obtain ⟨T86, X86, e86, st86⟩ := getF X84 hx hZ hown (wf26 hw) Via.refl rfl f85 (g := (mkF m 243 #[vr o0, vi 1, vl y1, sd, vi 1, vi 1, vi 2] [(.ref o0), (.ref o0)])) rfl rfl (hb hby dn_243)
  have f87 := ((((((f46.wr W48).keep Kq54).keep Kq65).keep Kq72).wr W77).keep Kq84)
  obtain ⟨T88, h88, X88, e88, W88, st88⟩ := putF X86 hx hZ hown (wf26 hw) Via.refl e86 f85 f87 (Or.inl (wd27 hw)) (wd1 hw) (ty := .int) (by decide) rfl rfl (g := (mkF m 248 #[vr o0, vi 1, vl y1, sd, vi 1, vi 1, vi 2] [(.int (2 : Int32)), (.ref o0)])) rfl rfl (hb hby dn_248)
  have N88 := Fr.snoc X88 N84 g_o0
  have Z88 : n0 ≤ h88.size := by rw [W88.size]; exact Z84
  have K88 := (K84.wr W88 (Or.inl (List.mem_of_getElem? (i := 0) rfl)))
  have Fw88 := f85.same W88
  have f89 := (((f73.other W77 (Or.inl ne_o0_b10_0)).keep Kq84 (ninS ne_o0_b23_0 nin0)).other W88 (Or.inr (sn3 hw)))
  have f90 := (((((((Fw45.other W48 (Or.inr (sn18 hw))).keep Kq54 (ninS ne_o0_b10_0 nin0)).keep Kq65 (ninS ne_o0_b23_0 nin0)).keep Kq72 (ninS ne_o0_b37_0 nin0)).other W77 (Or.inl ne_o0_b10_0)).keep Kq84 (ninS ne_o0_b23_0 nin0)).other W88 (Or.inr (sn18 hw)))
  have f91 := (f87.wr W88)
  have f92 := ((V77.keep Kq84 (ninS ne_b10_0_b23_0 nin0)).other W88 (Ne.symm ne_o0_b10_0))
  have f93 := ((f78.keep Kq84 (ninS ne_o0_b23_0 nin0)).other W88 (Or.inr (sn8 hw)))
  have f94 := ((f80.keep Kq84 (ninS ne_o0_b23_0 nin0)).other W88 (Or.inr (sn29 hw)))
  have f95 := (g84_0.other W88 (Ne.symm ne_o0_b23_0))
  have f96 := ((((f66.keep Kq72 (ninS ne_o0_b37_0 nin0)).other W77 (Or.inl ne_o0_b10_0)).keep Kq84 (ninS ne_o0_b23_0 nin0)).other W88 (Or.inr (sn13 hw)))
  have f97 := (((V72.other W77 (Ne.symm ne_b10_0_b37_0)).keep Kq84 (ninS (Ne.symm ne_b23_0_b37_0) nin0)).other W88 (Ne.symm ne_o0_b37_0))
  subst hEN
  obtain ⟨lfs, lhr, lhrun, lhended, lhW, lhsame⟩ := X88.leave (v := some (.int (1 : Int32))) (fun h => by rw [Bd.returns] at h; cases h)
  refine ⟨_, _, pre0 _ ?_, lhrun, lhended, _, _, rfl, ?_, ⟨_, rfl⟩, lhW, lhsame.mono (by decide) (by decide)⟩
  · skip
    refine XS.iloadN X0.here hx rfl (hb hby dn_0) rfl ?_
    refine XS.istore X0.here hx rfl (hb hby dn_1) rfl (l' := #[vr o0, vi 1, vl y1, sd, vi 1, un, un]) rfl ?_
    refine XS.aloadN X0.here hx rfl (hb hby dn_3) rfl rfl ?_
    refine st1 _ ?_
    refine XS.aloadN X1.here hx rfl (hb hby dn_7) rfl rfl ?_
    refine st2 _ ?_
    refine X2.arraylength hx (by (try rw [e2]); exact Ar3.1) (State.isArrayOf_alike hZ.alike Ar3.2.1) (g := (mkF m 11 #[vr o0, vi 1, vl y1, sd, vi 1, un, un] [(.ref o2), (.int (1 : Int32))])) rfl rfl (hb hby dn_11) _ ?_
    rw [len_of S3 M3]
    refine XS.icmpNo X2.here hx rfl (hb hby dn_12) rfl (teq (by decide : (1 : Int32) = (1 : Int32))).2 ?_
    refine XS.aloadN X2.here hx rfl (hb hby dn_15) rfl rfl ?_
    refine st4 _ ?_
    refine XS.aloadN X4.here hx rfl (hb hby dn_19) rfl rfl ?_
    refine st5 _ ?_
    refine XS.isub X5.here hx rfl (hb hby dn_23) rfl ?_
    refine XS.istore X5.here hx rfl (hb hby dn_24) rfl (l' := #[vr o0, vi 1, vl y1, sd, vi 1, vi 1, un]) rfl ?_
    refine XS.iload X5.here hx rfl (hb hby dn_26) rfl ?_
    refine XS.aloadN X5.here hx rfl (hb hby dn_28) rfl rfl ?_
    refine st6 _ ?_
    refine X6.arraylength hx (by (try rw [e6]); exact Ar7.1) (State.isArrayOf_alike hZ.alike Ar7.2.1) (g := (mkF m 32 #[vr o0, vi 1, vl y1, sd, vi 1, vi 1, un] [(.ref o2), (.int (1 : Int32))])) rfl rfl (hb hby dn_32) _ ?_
    rw [len_of S7 M7]
    refine XS.icmpNo X6.here hx rfl (hb hby dn_33) rfl (teq (by decide : (1 : Int32) = (1 : Int32))).2 ?_
    refine XS.iconst X6.here hx rfl (hb hby dn_36) ?_
    refine XS.iconst X6.here hx rfl (hb hby dn_37) ?_
    refine XS.iload X6.here hx rfl (hb hby dn_38) rfl ?_
    refine XS.imul X6.here hx rfl (hb hby dn_40) rfl ?_
    refine st8 _ ?_
    refine XS.goto X8.here hx rfl (pc0 := 44) (pc' := 52) rfl (hb hby dn_44) (by decide) (by decide) ?_
    refine XS.istore X8.here hx rfl (hb hby dn_52) rfl (l' := #[vr o0, vi 1, vl y1, sd, vi 1, vi 1, vi 2]) rfl ?_
    refine XS.aloadN X8.here hx rfl (hb hby dn_54) rfl rfl ?_
    refine XS.aloadN X8.here hx rfl (hb hby dn_55) rfl rfl ?_
    refine XS.aloadN X8.here hx rfl (hb hby dn_56) rfl rfl ?_
    refine st9 _ ?_
    refine XS.iconst X9.here hx rfl (hb hby dn_60) ?_
    refine XS.iload X9.here hx rfl (hb hby dn_61) rfl ?_
    refine st10.trans ?_
    refine st13 _ ?_
    refine XS.aloadN X13.here hx rfl (hb hby dn_69) rfl rfl ?_
    refine XS.aloadN X13.here hx rfl (hb hby dn_70) rfl rfl ?_
    refine XS.aloadN X13.here hx rfl (hb hby dn_71) rfl rfl ?_
    refine st15 _ ?_
    refine XS.aloadN X15.here hx rfl (hb hby dn_75) rfl rfl ?_
    refine st17 _ ?_
    refine XS.iload X17.here hx rfl (hb hby dn_79) rfl ?_
    refine st23.trans ?_
    refine st27 _ ?_
    refine XS.aloadN X27.here hx rfl (hb hby dn_87) rfl rfl ?_
    refine XS.aloadN X27.here hx rfl (hb hby dn_88) rfl rfl ?_
    refine XS.aloadN X27.here hx rfl (hb hby dn_89) rfl rfl ?_
    refine st29 _ ?_
    refine XS.iconst X29.here hx rfl (hb hby dn_93) ?_
    refine XS.iload X29.here hx rfl (hb hby dn_94) rfl ?_
    refine st37.trans ?_
    refine st41 _ ?_
    refine XS.iload X41.here hx rfl (hb hby dn_102) rfl ?_
    refine XS.aloadN X41.here hx rfl (hb hby dn_104) rfl rfl ?_
    refine st43 _ ?_
    refine XS.isub X43.here hx rfl (hb hby dn_108) rfl ?_
    refine XS.istore X43.here hx rfl (hb hby dn_109) rfl (l' := #[vr o0, vi 1, vl y1, sd, vi 1, vi 1, vi 2]) rfl ?_
    refine XS.aloadN X43.here hx rfl (hb hby dn_111) rfl rfl ?_
    refine XS.iconst X43.here hx rfl (hb hby dn_112) ?_
    refine st45 _ ?_
    refine XS.aloadN X45.here hx rfl (hb hby dn_116) rfl rfl ?_
    refine XS.iload X45.here hx rfl (hb hby dn_117) rfl ?_
    refine st48 _ ?_
    refine XS.aloadN X48.here hx rfl (hb hby dn_122) rfl rfl ?_
    refine st50 _ ?_
    refine XS.iload X50.here hx rfl (hb hby dn_126) rfl ?_
    refine XS.aloadN X50.here hx rfl (hb hby dn_128) rfl rfl ?_
    refine st51 _ ?_
    refine XS.iload X51.here hx rfl (hb hby dn_132) rfl ?_
    refine XS.iconst X51.here hx rfl (hb hby dn_134) ?_
    refine XS.iadd X51.here hx rfl (hb hby dn_135) rfl ?_
    refine XS.aloadN X51.here hx rfl (hb hby dn_136) rfl rfl ?_
    refine st52 _ ?_
    refine XS.iload X52.here hx rfl (hb hby dn_140) rfl ?_
    refine XS.isub X52.here hx rfl (hb hby dn_142) rfl ?_
    refine st54 _ ?_
    refine XS.aloadN X54.here hx rfl (hb hby dn_146) rfl rfl ?_
    refine st56 _ ?_
    refine XS.iload X56.here hx rfl (hb hby dn_150) rfl ?_
    refine XS.aloadN X56.here hx rfl (hb hby dn_152) rfl rfl ?_
    refine st58 _ ?_
    refine XS.imul X58.here hx rfl (hb hby dn_156) rfl ?_
    refine XS.aloadN X58.here hx rfl (hb hby dn_157) rfl rfl ?_
    refine st59 _ ?_
    refine XS.iload X59.here hx rfl (hb hby dn_161) rfl ?_
    refine XS.iconst X59.here hx rfl (hb hby dn_163) ?_
    refine XS.iadd X59.here hx rfl (hb hby dn_164) rfl ?_
    refine XS.aloadN X59.here hx rfl (hb hby dn_165) rfl rfl ?_
    refine st60 _ ?_
    refine XS.imul X60.here hx rfl (hb hby dn_169) rfl ?_
    refine XS.aloadN X60.here hx rfl (hb hby dn_170) rfl rfl ?_
    refine st62 _ ?_
    refine XS.iload X62.here hx rfl (hb hby dn_174) rfl ?_
    refine XS.isub X62.here hx rfl (hb hby dn_176) rfl ?_
    refine XS.aloadN X62.here hx rfl (hb hby dn_177) rfl rfl ?_
    refine st63 _ ?_
    refine XS.imul X63.here hx rfl (hb hby dn_181) rfl ?_
    refine st65 _ ?_
    refine XS.aloadN X65.here hx rfl (hb hby dn_185) rfl rfl ?_
    refine st67 _ ?_
    refine XS.iload X67.here hx rfl (hb hby dn_189) rfl ?_
    refine XS.aloadN X67.here hx rfl (hb hby dn_191) rfl rfl ?_
    refine st68 _ ?_
    refine XS.iload X68.here hx rfl (hb hby dn_195) rfl ?_
    refine XS.iconst X68.here hx rfl (hb hby dn_197) ?_
    refine XS.iadd X68.here hx rfl (hb hby dn_198) rfl ?_
    refine XS.aloadN X68.here hx rfl (hb hby dn_199) rfl rfl ?_
    refine st70 _ ?_
    refine XS.iload X70.here hx rfl (hb hby dn_203) rfl ?_
    refine XS.isub X70.here hx rfl (hb hby dn_205) rfl ?_
    refine st72 _ ?_
    refine XS.aloadN X72.here hx rfl (hb hby dn_209) rfl rfl ?_
    refine st74 _ ?_
    refine XS.iload X74.here hx rfl (hb hby dn_213) rfl ?_
    refine XS.lloadN X74.here hx rfl (hb hby dn_215) rfl ?_
    refine st77 _ ?_
    refine XS.aloadN X77.here hx rfl (hb hby dn_217) rfl rfl ?_
    refine st79 _ ?_
    refine XS.iload X79.here hx rfl (hb hby dn_221) rfl ?_
    refine XS.aloadN X79.here hx rfl (hb hby dn_223) rfl rfl ?_
    refine st81 _ ?_
    refine XS.imul X81.here hx rfl (hb hby dn_227) rfl ?_
    refine XS.iload X81.here hx rfl (hb hby dn_228) rfl ?_
    refine XS.iconst X81.here hx rfl (hb hby dn_230) ?_
    refine XS.iadd X81.here hx rfl (hb hby dn_231) rfl ?_
    refine XS.aloadN X81.here hx rfl (hb hby dn_232) rfl rfl ?_
    refine st82 _ ?_
    refine XS.imul X82.here hx rfl (hb hby dn_236) rfl ?_
    refine XS.lconst X82.here hx rfl (hb hby dn_237) ?_
    refine st84 _ ?_
    refine XS.aloadN X84.here hx rfl (hb hby dn_241) rfl rfl ?_
    refine XS.dup X84.here hx rfl (hb hby dn_242) rfl rfl ?_
    refine st86 _ ?_
    refine XS.iconst X86.here hx rfl (hb hby dn_246) ?_
    refine XS.iadd X86.here hx rfl (hb hby dn_247) rfl ?_
    refine st88 _ ?_
    refine XS.iload X88.here hx rfl (hb hby dn_251) rfl ?_
    show SS p e below T88 (mkF m 253 #[vr o0, vi 1, vl y1, sd, vi 1, vi 1, vi 2] [(.int (1 : Int32))]) _
    exact retI X88 hx Bd.returns (hb hby dn_253) lhr
  · skip
    show QA81 Z o0 y1 o2 y3 kk_o2 o4 y5 kk_o4 o6 kk_o6 h0 n0 _ T88.heap _
    rw [e88]
    exact ⟨b10_0, b23_0, b37_0, _, _, _, rfl, N88, K88, sz_b10_0, sz_b23_0, sz_b37_0, ne_b10_0_b23_0, ne_b10_0_b37_0, ne_b23_0_b37_0, Fw88, f89, f90, f91, f92, f93, f94, f95, f96, f97⟩
def QA88 (Z : State) (o0 : Addr) (y1 : Int64) (y2 : Int64) (kk_o0 : ClassId) (h0 : Heap) (n0 : Nat) (v : Option Value) (h : Heap) (L : List Loc) : Prop := v = none ∧ Fr n0 L ∧ Keep h0 h [o0] ∧ Arv Z h o0 kk_o0 .long (2 : Int32) [(.long y2), (.long ((0 : Int64) + y1))] (.long (0 : Int64))
set_option maxRecDepth 65536 in
set_option maxHeartbeats 40000000 in
theorem rmA88 (l : Launch) (Z : State) (a0 : Array Value) (hw : ∀ d ∈ tables_1, d.before a0 Z = true) (ws : List Jvm.Cond) (o0 : Addr) (y1 : Int64) (y2 : Int64) (kk_o0 : ClassId) (h0 : Heap) (n0 : Nat) (Z0 : n0 ≤ h0.size) (V_o0 : Arv Z h0 o0 kk_o0 .long (2 : Int32) [(.long y2), (.long (0 : Int64))] (.long (0 : Int64))) (g_o0 : n0 ≤ o0) :
    MetFree l mn6 (head1 (Jvm.Cond.code mn6 prog_59_method_3_code 9 none :: ws) ({ frames := 0, cells := 0, slots := 0, locals := 0 } : Room)) (fun a U => a = #[(.ref o0), (.int (1 : Int32)), (.int (1 : Int32)), (.long (0 : Int64)), (.long y1)] ∧ Z.Warmed39 U.vm ∧ U.heap = h0) (fun _ _ _ _ _ => True) (fun _ U oc_ U' => ∃ v L, oc_ = .returned v ∧ QA88 Z o0 y1 y2 kk_o0 h0 n0 v U'.heap L ∧ FrameEnd U oc_ U' L ({ frames := 0, cells := 0, slots := 0, locals := 0 } : Room).cells ({ frames := 0, cells := 0, slots := 0, locals := 0 } : Room).slots) := by
  refine MetFree.of_bodySF (plainFor_of_name pn_com_example_strict_limiter_strictlimiter_WindowRecord) hisR ?_
  intro p e s m args below meth c s₁ Bd hml0 hP hK
  obtain ⟨rfl, hZ, hh⟩ := hP
  have hx := Bd.exec
  have hby := Bd.bytes
  have hml : c.maxLocals = 9 := hml0
  have hown : s.vm.findClass cn1 = some m.cls := findClass_of_methodNamed Bd.named
  have hnm := (name_of_methodNamed Bd.named Bd.method).1
  have X0 : Stand p l e ({ frames := 0, cells := 0, slots := 0, locals := 0 } : Room) s m #[(.ref o0), (.int (1 : Int32)), (.int (1 : Int32)), (.long (0 : Int64)), (.long y1)] below meth c s₁ [] 0 0 := Stand.of_body Bd
  have e0 : s₁.heap = h0 := by rw [← hh, Bd.state]; rfl
  have N0 := Fr.nil n0
  have pre0 : ∀ t, SS p e below s₁ (mkF m 0 #[vr o0, vi 1, vi 1, vl 0, sd, vl y1, sd, un, un] []) t → Steps p.tables e below (s₁.setTop (entryFrame m #[(.ref o0), (.int (1 : Int32)), (.int (1 : Int32)), (.long (0 : Int64)), (.long y1)] 9)) t := fun t k => castTop (efa_prog_59_method_3_code_vvvvv m o0 (1 : Int32) (1 : Int32) (0 : Int64) y1) k
  obtain ⟨EN, hEN⟩ : ∃ z, z = s₁.setTop (entryFrame m #[(.ref o0), (.int (1 : Int32)), (.int (1 : Int32)), (.long (0 : Int64)), (.long y1)] 9) := ⟨_, rfl⟩
  rw [← hEN] at pre0
  obtain ⟨cl1, Ar1, q1, S1, M1, HH1, GG1⟩ := id V_o0
  have hin1 : ¬ ((1 : Int32) < 0 ∨ cl1.slots.size ≤ ((1 : Int32)).toNatClampNeg) := inb_of S1 ⟨by decide, by decide⟩
  have hat1 : cl1.slots[((1 : Int32)).toNatClampNeg]? = some (.long (0 : Int64)) := Has.at HH1 hin1 rfl
  obtain ⟨cl2, Ar2, q2, S2, M2, HH2, GG2⟩ := id V_o0
  have hin2 : ¬ ((1 : Int32) < 0 ∨ cl2.slots.size ≤ ((1 : Int32)).toNatClampNeg) := inb_of S2 ⟨by decide, by decide⟩
  obtain ⟨T3, h3, X3, e3, W3, st3⟩ := stJ X0 hx hZ e0 Ar2 (j := (1 : Int32)) hin2 (g := (mkF m 16 #[vr o0, vi 1, vi 1, vl 0, sd, vl y1, sd, vl 0, sd] [(.long ((0 : Int64) + y1)), (.int (1 : Int32)), (.ref o0)])) rfl rfl (hb hby db_16)
  have N3 := Fr.snoc X3 N0 g_o0
  have Z3 : n0 ≤ h3.size := by rw [W3.size]; exact Z0
  have K3 : Keep h0 h3 [o0] := ((Keep.refl h0 [o0]).wr W3 (Or.inl (List.mem_of_getElem? (i := 0) rfl)))
  have V3 := Arv.set Ar2 q2 S2 M2 HH2 GG2 rfl W3 1 rfl (Nat.le_of_ble_eq_true rfl)
  subst hEN
  obtain ⟨lfs, lhr, lhrun, lhended, lhW, lhsame⟩ := X3.leave (v := none) (fun _ => rfl)
  refine ⟨_, _, pre0 _ ?_, lhrun, lhended, _, _, rfl, ?_, ⟨_, rfl⟩, lhW, lhsame.mono (by decide) (by decide)⟩
  · skip
    refine XS.aloadN X0.here hx rfl (hb hby db_0) rfl rfl ?_
    refine XS.iloadN X0.here hx rfl (hb hby db_1) rfl ?_
    refine XS.iconst X0.here hx rfl (hb hby db_2) ?_
    refine XS.iadd X0.here hx rfl (hb hby db_3) rfl ?_
    refine X0.laload hx (j := (1 : Int32)) (v := (.long (0 : Int64))) (by (try rw [e0]); exact Ar1.1) (State.isArrayOf_alike hZ.alike Ar1.2.1) Ar1.2.2 hin1 hat1 (g := (mkF m 4 #[vr o0, vi 1, vi 1, vl 0, sd, vl y1, sd, un, un] [(.int (1 : Int32)), (.ref o0)])) rfl rfl (hb hby db_4) _ ?_
    refine XS.lstore X0.here hx rfl (hb hby db_5) rfl (l' := #[vr o0, vi 1, vi 1, vl 0, sd, vl y1, sd, vl 0, sd]) rfl ?_
    refine XS.aloadN X0.here hx rfl (hb hby db_7) rfl rfl ?_
    refine XS.iloadN X0.here hx rfl (hb hby db_8) rfl ?_
    refine XS.iconst X0.here hx rfl (hb hby db_9) ?_
    refine XS.iadd X0.here hx rfl (hb hby db_10) rfl ?_
    refine XS.lload X0.here hx rfl (hb hby db_11) rfl ?_
    refine XS.lload X0.here hx rfl (hb hby db_13) rfl ?_
    refine XS.ladd X0.here hx rfl (hb hby db_15) rfl ?_
    show SS p e below s₁ (mkF m 16 #[vr o0, vi 1, vi 1, vl 0, sd, vl y1, sd, vl 0, sd] [(.long ((0 : Int64) + y1)), (.int (1 : Int32)), (.ref o0)]) _
    refine st3 _ ?_
    refine XS.iloadN X3.here hx rfl (hb hby db_17) rfl ?_
    refine XS.iconst X3.here hx rfl (hb hby db_18) ?_
    refine XS.icmpYes X3.here hx rfl (pc0 := 19) (pc' := 29) rfl (hb hby db_19) rfl (feq (by decide : ¬ ((1 : Int32) = (4 : Int32)))).2 (by decide) (by decide) ?_
    show SS p e below T3 (mkF m 29 #[vr o0, vi 1, vi 1, vl 0, sd, vl y1, sd, vl 0, sd] []) _
    exact X3.returnOut hx Bd.returns (hb hby db_29) lhr
  · skip
    show QA88 Z o0 y1 y2 kk_o0 h0 n0 _ T3.heap _
    rw [e3]
    exact ⟨rfl, N3, K3, V3⟩
def QA98 (Z : State)  (h0 : Heap) (n0 : Nat) (v : Option Value) (h : Heap) (L : List Loc) : Prop := v = none ∧ Fr n0 L ∧ h = h0
set_option maxRecDepth 65536 in
set_option maxHeartbeats 40000000 in
theorem rmA98 (l : Launch) (Z : State) (a0 : Array Value) (hw : ∀ d ∈ tables_1, d.before a0 Z = true) (ws : List Jvm.Cond)  (h0 : Heap) (n0 : Nat) (Z0 : n0 ≤ h0.size) :
    MetFree l mn13 (head1 (Jvm.Cond.code mn13 jdk_65_method_30_code 3 none :: ws) ({ frames := 0, cells := 0, slots := 0, locals := 0 } : Room)) (fun a U => a = #[(.int (8 : Int32)), (.int (4 : Int32)), (.int (8 : Int32))] ∧ Z.Warmed39 U.vm ∧ U.heap = h0) (fun _ _ _ _ _ => True) (fun _ U oc_ U' => ∃ v L, oc_ = .returned v ∧ QA98 Z  h0 n0 v U'.heap L ∧ FrameEnd U oc_ U' L ({ frames := 0, cells := 0, slots := 0, locals := 0 } : Room).cells ({ frames := 0, cells := 0, slots := 0, locals := 0 } : Room).slots) := by
  refine MetFree.of_bodySF (plainFor_of_name pn_java_util_Arrays) hisR ?_
  intro p e s m args below meth c s₁ Bd hml0 hP hK
  obtain ⟨rfl, hZ, hh⟩ := hP
  have hx := Bd.exec
  have hby := Bd.bytes
  have hml : c.maxLocals = 3 := hml0
  have hown : s.vm.findClass "java/util/Arrays" = some m.cls := findClass_of_methodNamed Bd.named
  have hnm := (name_of_methodNamed Bd.named Bd.method).1
  have X0 : Stand p l e ({ frames := 0, cells := 0, slots := 0, locals := 0 } : Room) s m #[(.int (8 : Int32)), (.int (4 : Int32)), (.int (8 : Int32))] below meth c s₁ [] 0 0 := Stand.of_body Bd
  have e0 : s₁.heap = h0 := by rw [← hh, Bd.state]; rfl
  have N0 := Fr.nil n0
  have pre0 : ∀ t, SS p e below s₁ (mkF m 0 #[vi 8, vi 4, vi 8] []) t → Steps p.tables e below (s₁.setTop (entryFrame m #[(.int (8 : Int32)), (.int (4 : Int32)), (.int (8 : Int32))] 3)) t := fun t k => castTop (efa_jdk_65_method_30_code_vvv m (8 : Int32) (4 : Int32) (8 : Int32)) k
  obtain ⟨EN, hEN⟩ : ∃ z, z = s₁.setTop (entryFrame m #[(.int (8 : Int32)), (.int (4 : Int32)), (.int (8 : Int32))] 3) := ⟨_, rfl⟩
  rw [← hEN] at pre0
  subst hEN
  obtain ⟨lfs, lhr, lhrun, lhended, lhW, lhsame⟩ := X0.leave (v := none) (fun _ => rfl)
  refine ⟨_, _, pre0 _ ?_, lhrun, lhended, _, _, rfl, ?_, ⟨_, rfl⟩, lhW, lhsame.mono (by decide) (by decide)⟩
  · skip
    refine XS.iloadN X0.here hx rfl (hb hby di_0) rfl ?_
    refine XS.iloadN X0.here hx rfl (hb hby di_1) rfl ?_
    refine XS.icmpYes X0.here hx rfl (pc0 := 2) (pc' := 46) rfl (hb hby di_2) rfl (flt (by decide : ¬ ((8 : Int32) < (4 : Int32)))).2.2.2 (by decide) (by decide) ?_
    refine XS.iloadN X0.here hx rfl (hb hby di_46) rfl ?_
    refine XS.ifYes X0.here hx rfl (pc0 := 47) (pc' := 59) rfl (hb hby di_47) rfl ((if0 _ _).trans (flt (by decide : ¬ ((4 : Int32) < (0 : Int32)))).2.1) (by decide) (by decide) ?_
    refine XS.iloadN X0.here hx rfl (hb hby di_59) rfl ?_
    refine XS.iloadN X0.here hx rfl (hb hby di_60) rfl ?_
    refine XS.icmpYes X0.here hx rfl (pc0 := 61) (pc' := 73) rfl (hb hby di_61) rfl (flt (by decide : ¬ ((8 : Int32) < (8 : Int32)))).2.2.2 (by decide) (by decide) ?_
    show SS p e below s₁ (mkF m 73 #[vi 8, vi 4, vi 8] []) _
    exact X0.returnOut hx Bd.returns (hb hby di_73) lhr
  · skip
    show QA98 Z  h0 n0 _ s₁.heap _
    rw [e0]
    exact ⟨rfl, N0, rfl⟩
def QA97 (Z : State) (o0 : Addr) (y1 : Int64) (kk_o0 : ClassId) (h0 : Heap) (n0 : Nat) (v : Option Value) (h : Heap) (L : List Loc) : Prop := v = none ∧ Fr n0 L ∧ Keep h0 h [o0] ∧ Arv Z h o0 kk_o0 .long (8 : Int32) [(.long y1), (.long (0 : Int64)), (.long (0 : Int64)), (.long (0 : Int64)), (.long (0 : Int64)), (.long (0 : Int64)), (.long (0 : Int64)), (.long (0 : Int64))] (.long (0 : Int64))
set_option maxRecDepth 65536 in
set_option maxHeartbeats 40000000 in
theorem rmA97 (l : Launch) (Z : State) (a0 : Array Value) (hw : ∀ d ∈ tables_1, d.before a0 Z = true) (ws : List Jvm.Cond) (o0 : Addr) (y1 : Int64) (kk_o0 : ClassId) (h0 : Heap) (n0 : Nat) (Z0 : n0 ≤ h0.size) (V_o0 : Arv Z h0 o0 kk_o0 .long (8 : Int32) [(.long y1), (.long (0 : Int64)), (.long (0 : Int64)), (.long (0 : Int64)), (.long (0 : Int64)), (.long (0 : Int64)), (.long (0 : Int64)), (.long (0 : Int64))] (.long (0 : Int64))) (g_o0 : n0 ≤ o0) :
    MetFree l mn12 (head1 (Jvm.Cond.code mn12 jdk_65_method_102_code 6 none :: ws) ({ frames := 1, cells := 0, slots := 0, locals := 14 } : Room)) (fun a U => a = #[(.ref o0), (.int (4 : Int32)), (.int (8 : Int32)), (.long (0 : Int64))] ∧ Z.Warmed39 U.vm ∧ U.heap = h0) (fun _ _ _ _ _ => True) (fun _ U oc_ U' => ∃ v L, oc_ = .returned v ∧ QA97 Z o0 y1 kk_o0 h0 n0 v U'.heap L ∧ FrameEnd U oc_ U' L ({ frames := 1, cells := 0, slots := 0, locals := 14 } : Room).cells ({ frames := 1, cells := 0, slots := 0, locals := 14 } : Room).slots) := by
  refine MetFree.of_bodySF (plainFor_of_name pn_java_util_Arrays) hisR ?_
  intro p e s m args below meth c s₁ Bd hml0 hP hK
  obtain ⟨rfl, hZ, hh⟩ := hP
  have hx := Bd.exec
  have hby := Bd.bytes
  have hml : c.maxLocals = 6 := hml0
  have hown : s.vm.findClass "java/util/Arrays" = some m.cls := findClass_of_methodNamed Bd.named
  have hnm := (name_of_methodNamed Bd.named Bd.method).1
  have X0 : Stand p l e ({ frames := 1, cells := 0, slots := 0, locals := 14 } : Room) s m #[(.ref o0), (.int (4 : Int32)), (.int (8 : Int32)), (.long (0 : Int64))] below meth c s₁ [] 0 0 := Stand.of_body Bd
  have e0 : s₁.heap = h0 := by rw [← hh, Bd.state]; rfl
  have N0 := Fr.nil n0
  have pre0 : ∀ t, SS p e below s₁ (mkF m 0 #[vr o0, vi 4, vi 8, vl 0, sd, un] []) t → Steps p.tables e below (s₁.setTop (entryFrame m #[(.ref o0), (.int (4 : Int32)), (.int (8 : Int32)), (.long (0 : Int64))] 6)) t := fun t k => castTop (efa_jdk_65_method_102_code_vvvv m o0 (4 : Int32) (8 : Int32) (0 : Int64)) k
  obtain ⟨EN, hEN⟩ : ∃ z, z = s₁.setTop (entryFrame m #[(.ref o0), (.int (4 : Int32)), (.int (8 : Int32)), (.long (0 : Int64))] 6) := ⟨_, rfl⟩
  rw [← hEN] at pre0
  obtain ⟨cl1, Ar1, -, S1, M1, -, -⟩ := id V_o0
  obtain ⟨_, _, ⟨T2, L2, kc2, ks2⟩, -, X2, ⟨Lc2, hQ2, l2, y2, z2⟩, st2⟩ := Jvm.LawKit.callS X0 hx (y := mn13) hown (mvT hZ (wd39 hw)) (mvT hZ (wd40 hw)) (mvT hZ (wd37 hw)) (mvT hZ (wd41 hw)) (by decide) (backOf (W := 0) (rmA98 l Z a0 hw []  h0 n0 Z0 ) hZ (wd41 hw) (wd37 hw) (by decide) (by decide)) (g := (mkF m 4 #[vr o0, vi 4, vi 8, vl 0, sd, un] [(.int (8 : Int32)), (.int (4 : Int32)), (.int (8 : Int32))])) rfl (by rw [hml]; rfl) (argsL := [(.int (8 : Int32)), (.int (4 : Int32)), (.int (8 : Int32))]) (rest := []) (lenOf pd__III_V rfl) rfl (by show 2 * 0 + _ ≤ _; exact Nat.le_of_eq rfl) (hb hby da_4) (fun _ _ => ⟨rfl, e0, (by decide : 0 + 0 ≤ _), (by decide : 0 + 0 ≤ _)⟩)
  dsimp only [Pt.U, Pt.locs, Pt.cells, Pt.slots] at X2 l2 y2 z2 st2 hQ2
  subst l2 y2 z2
  obtain ⟨rfl, Nq2, eq2⟩ := hQ2
  have N2 := Fr.app N0 Nq2
  obtain ⟨cl3, Ar3, q3, S3, M3, HH3, GG3⟩ := id V_o0
  have hin3 : ¬ ((4 : Int32) < 0 ∨ cl3.slots.size ≤ ((4 : Int32)).toNatClampNeg) := inb_of S3 ⟨by decide, by decide⟩
  obtain ⟨T4, h4, X4, e4, W4, st4⟩ := stJ X2 hx hZ eq2 Ar3 (j := (4 : Int32)) hin3 (g := (mkF m 20 #[vr o0, vi 4, vi 8, vl 0, sd, vi 4] [(.long (0 : Int64)), (.int (4 : Int32)), (.ref o0)])) rfl rfl (hb hby da_20)
  have N4 := Fr.snoc X4 N2 g_o0
  have Z4 : n0 ≤ h4.size := by rw [W4.size]; exact Z0
  have K4 : Keep h0 h4 [o0] := ((Keep.refl h0 [o0]).wr W4 (Or.inl (List.mem_of_getElem? (i := 0) rfl)))
  have V4 := Arv.set Ar3 q3 S3 M3 HH3 GG3 rfl W4 4 rfl (Nat.le_of_ble_eq_true rfl)
  obtain ⟨cl5, Ar5, q5, S5, M5, HH5, GG5⟩ := id V4
  have hin5 : ¬ ((5 : Int32) < 0 ∨ cl5.slots.size ≤ ((5 : Int32)).toNatClampNeg) := inb_of S5 ⟨by decide, by decide⟩
  obtain ⟨T6, h6, X6, e6, W6, st6⟩ := stJ X4 hx hZ e4 Ar5 (j := (5 : Int32)) hin5 (g := (mkF m 20 #[vr o0, vi 4, vi 8, vl 0, sd, vi 5] [(.long (0 : Int64)), (.int (5 : Int32)), (.ref o0)])) rfl rfl (hb hby da_20)
  have N6 := Fr.snoc X6 N4 g_o0
  have Z6 : n0 ≤ h6.size := by rw [W6.size]; exact Z4
  have K6 := (K4.wr W6 (Or.inl (List.mem_of_getElem? (i := 0) rfl)))
  have V6 := Arv.set Ar5 q5 S5 M5 HH5 GG5 rfl W6 5 rfl (Nat.le_of_ble_eq_true rfl)
  obtain ⟨cl7, Ar7, q7, S7, M7, HH7, GG7⟩ := id V6
  have hin7 : ¬ ((6 : Int32) < 0 ∨ cl7.slots.size ≤ ((6 : Int32)).toNatClampNeg) := inb_of S7 ⟨by decide, by decide⟩
  obtain ⟨T8, h8, X8, e8, W8, st8⟩ := stJ X6 hx hZ e6 Ar7 (j := (6 : Int32)) hin7 (g := (mkF m 20 #[vr o0, vi 4, vi 8, vl 0, sd, vi 6] [(.long (0 : Int64)), (.int (6 : Int32)), (.ref o0)])) rfl rfl (hb hby da_20)
  have N8 := Fr.snoc X8 N6 g_o0
  have Z8 : n0 ≤ h8.size := by rw [W8.size]; exact Z6
  have K8 := (K6.wr W8 (Or.inl (List.mem_of_getElem? (i := 0) rfl)))
  have V8 := Arv.set Ar7 q7 S7 M7 HH7 GG7 rfl W8 6 rfl (Nat.le_of_ble_eq_true rfl)
  obtain ⟨cl9, Ar9, q9, S9, M9, HH9, GG9⟩ := id V8
  have hin9 : ¬ ((7 : Int32) < 0 ∨ cl9.slots.size ≤ ((7 : Int32)).toNatClampNeg) := inb_of S9 ⟨by decide, by decide⟩
  obtain ⟨T10, h10, X10, e10, W10, st10⟩ := stJ X8 hx hZ e8 Ar9 (j := (7 : Int32)) hin9 (g := (mkF m 20 #[vr o0, vi 4, vi 8, vl 0, sd, vi 7] [(.long (0 : Int64)), (.int (7 : Int32)), (.ref o0)])) rfl rfl (hb hby da_20)
  have N10 := Fr.snoc X10 N8 g_o0
  have Z10 : n0 ≤ h10.size := by rw [W10.size]; exact Z8
  have K10 := (K8.wr W10 (Or.inl (List.mem_of_getElem? (i := 0) rfl)))
  have V10 := Arv.set Ar9 q9 S9 M9 HH9 GG9 rfl W10 7 rfl (Nat.le_of_ble_eq_true rfl)
  subst hEN
  obtain ⟨lfs, lhr, lhrun, lhended, lhW, lhsame⟩ := X10.leave (v := none) (fun _ => rfl)
  refine ⟨_, _, pre0 _ ?_, lhrun, lhended, _, _, rfl, ?_, ⟨_, rfl⟩, lhW, lhsame.mono (by decide) (by decide)⟩
  · skip
    refine XS.aloadN X0.here hx rfl (hb hby da_0) rfl rfl ?_
    refine X0.arraylength hx (by (try rw [e0]); exact Ar1.1) (State.isArrayOf_alike hZ.alike Ar1.2.1) (g := (mkF m 1 #[vr o0, vi 4, vi 8, vl 0, sd, un] [(.ref o0)])) rfl rfl (hb hby da_1) _ ?_
    rw [len_of S1 M1]
    refine XS.iloadN X0.here hx rfl (hb hby da_2) rfl ?_
    refine XS.iloadN X0.here hx rfl (hb hby da_3) rfl ?_
    refine st2 _ ?_
    refine XS.iloadN X2.here hx rfl (hb hby da_7) rfl ?_
    refine XS.istore X2.here hx rfl (hb hby da_8) rfl (l' := #[vr o0, vi 4, vi 8, vl 0, sd, vi 4]) rfl ?_
    refine XS.iload X2.here hx rfl (hb hby da_10) rfl ?_
    refine XS.iloadN X2.here hx rfl (hb hby da_12) rfl ?_
    refine XS.icmpNo X2.here hx rfl (hb hby da_13) rfl (tlt (by decide : (4 : Int32) < (8 : Int32))).2.1 ?_
    refine XS.aloadN X2.here hx rfl (hb hby da_16) rfl rfl ?_
    refine XS.iload X2.here hx rfl (hb hby da_17) rfl ?_
    refine XS.lloadN X2.here hx rfl (hb hby da_19) rfl ?_
    show SS p e below T2 (mkF m 20 #[vr o0, vi 4, vi 8, vl 0, sd, vi 4] [(.long (0 : Int64)), (.int (4 : Int32)), (.ref o0)]) _
    refine st4 _ ?_
    refine XS.iinc X4.here hx rfl (hb hby da_21) rfl (l' := #[vr o0, vi 4, vi 8, vl 0, sd, vi 5]) rfl ?_
    refine XS.goto X4.here hx rfl (pc0 := 24) (pc' := 10) rfl (hb hby da_24) (by decide) (by decide) ?_
    refine XS.iload X4.here hx rfl (hb hby da_10) rfl ?_
    refine XS.iloadN X4.here hx rfl (hb hby da_12) rfl ?_
    refine XS.icmpNo X4.here hx rfl (hb hby da_13) rfl (tlt (by decide : (5 : Int32) < (8 : Int32))).2.1 ?_
    refine XS.aloadN X4.here hx rfl (hb hby da_16) rfl rfl ?_
    refine XS.iload X4.here hx rfl (hb hby da_17) rfl ?_
    refine XS.lloadN X4.here hx rfl (hb hby da_19) rfl ?_
    show SS p e below T4 (mkF m 20 #[vr o0, vi 4, vi 8, vl 0, sd, vi 5] [(.long (0 : Int64)), (.int (5 : Int32)), (.ref o0)]) _
    refine st6 _ ?_
    refine XS.iinc X6.here hx rfl (hb hby da_21) rfl (l' := #[vr o0, vi 4, vi 8, vl 0, sd, vi 6]) rfl ?_
    refine XS.goto X6.here hx rfl (pc0 := 24) (pc' := 10) rfl (hb hby da_24) (by decide) (by decide) ?_
    refine XS.iload X6.here hx rfl (hb hby da_10) rfl ?_
    refine XS.iloadN X6.here hx rfl (hb hby da_12) rfl ?_
    refine XS.icmpNo X6.here hx rfl (hb hby da_13) rfl (tlt (by decide : (6 : Int32) < (8 : Int32))).2.1 ?_
    refine XS.aloadN X6.here hx rfl (hb hby da_16) rfl rfl ?_
    refine XS.iload X6.here hx rfl (hb hby da_17) rfl ?_
    refine XS.lloadN X6.here hx rfl (hb hby da_19) rfl ?_
    show SS p e below T6 (mkF m 20 #[vr o0, vi 4, vi 8, vl 0, sd, vi 6] [(.long (0 : Int64)), (.int (6 : Int32)), (.ref o0)]) _
    refine st8 _ ?_
    refine XS.iinc X8.here hx rfl (hb hby da_21) rfl (l' := #[vr o0, vi 4, vi 8, vl 0, sd, vi 7]) rfl ?_
    refine XS.goto X8.here hx rfl (pc0 := 24) (pc' := 10) rfl (hb hby da_24) (by decide) (by decide) ?_
    refine XS.iload X8.here hx rfl (hb hby da_10) rfl ?_
    refine XS.iloadN X8.here hx rfl (hb hby da_12) rfl ?_
    refine XS.icmpNo X8.here hx rfl (hb hby da_13) rfl (tlt (by decide : (7 : Int32) < (8 : Int32))).2.1 ?_
    refine XS.aloadN X8.here hx rfl (hb hby da_16) rfl rfl ?_
    refine XS.iload X8.here hx rfl (hb hby da_17) rfl ?_
    refine XS.lloadN X8.here hx rfl (hb hby da_19) rfl ?_
    show SS p e below T8 (mkF m 20 #[vr o0, vi 4, vi 8, vl 0, sd, vi 7] [(.long (0 : Int64)), (.int (7 : Int32)), (.ref o0)]) _
    refine st10 _ ?_
    refine XS.iinc X10.here hx rfl (hb hby da_21) rfl (l' := #[vr o0, vi 4, vi 8, vl 0, sd, vi 8]) rfl ?_
    refine XS.goto X10.here hx rfl (pc0 := 24) (pc' := 10) rfl (hb hby da_24) (by decide) (by decide) ?_
    refine XS.iload X10.here hx rfl (hb hby da_10) rfl ?_
    refine XS.iloadN X10.here hx rfl (hb hby da_12) rfl ?_
    refine XS.icmpYes X10.here hx rfl (pc0 := 13) (pc' := 27) rfl (hb hby da_13) rfl (flt (by decide : ¬ ((8 : Int32) < (8 : Int32)))).2.1 (by decide) (by decide) ?_
    show SS p e below T10 (mkF m 27 #[vr o0, vi 4, vi 8, vl 0, sd, vi 8] []) _
    exact X10.returnOut hx Bd.returns (hb hby da_27) lhr
  · skip
    show QA97 Z o0 y1 kk_o0 h0 n0 _ T10.heap _
    rw [e10]
    exact ⟨rfl, N10, K10, V10⟩
def QA92 (Z : State) (o0 : Addr) (y1 : Int64) (o2 : Addr) (y3 : Int64) (kk_o2 : ClassId) (o4 : Addr) (y5 : Int64) (kk_o4 : ClassId) (o6 : Addr) (kk_o6 : ClassId) (h0 : Heap) (n0 : Nat) (v : Option Value) (h : Heap) (L : List Loc) : Prop := ∃ (b10_0 : Addr) (b23_0 : Addr) (b37_0 : Addr) (kk_b10_0 : ClassId) (kk_b23_0 : ClassId) (kk_b37_0 : ClassId), v = some (.int (1 : Int32)) ∧ Fr n0 L ∧ Keep h0 h [o0] ∧ h0.size ≤ b10_0 ∧ h0.size ≤ b23_0 ∧ h0.size ≤ b37_0 ∧ b10_0 ≠ b23_0 ∧ b10_0 ≠ b37_0 ∧ b23_0 ≠ b37_0 ∧ Fld Z h o0 cn2 "end" "I" (.int (2 : Int32)) ∧ Fld Z h o0 cn2 "starts" "[J" (.ref b10_0) ∧ Fld Z h o0 cn2 "first" "I" (.int (0 : Int32)) ∧ Exa Z h o0 cn2 ∧ Arv Z h b10_0 kk_b10_0 .long (2 : Int32) [(.long y3), (.long y1)] (.long (0 : Int64)) ∧ Fld Z h o0 cn2 "records" "[J" (.ref b23_0) ∧ Fld Z h o0 cn2 "width" "I" (.int (4 : Int32)) ∧ Arv Z h b23_0 kk_b23_0 .long (8 : Int32) [(.long y5), (.long (0 : Int64)), (.long (0 : Int64)), (.long (0 : Int64)), (.long (0 : Int64)), (.long (0 : Int64)), (.long (0 : Int64)), (.long (0 : Int64))] (.long (0 : Int64)) ∧ Fld Z h o0 cn2 "decidedAt" "[J" (.ref b37_0) ∧ Arv Z h b37_0 kk_b37_0 .long (2 : Int32) [(.long (0 : Int64)), (.long (0 : Int64))] (.long (0 : Int64))
set_option maxRecDepth 65536 in
set_option maxHeartbeats 40000000 in
theorem rmA92 (l : Launch) (Z : State) (a0 : Array Value) (hw : ∀ d ∈ tables_1, d.before a0 Z = true) (ws : List Jvm.Cond) (o0 : Addr) (y1 : Int64) (o2 : Addr) (y3 : Int64) (kk_o2 : ClassId) (o4 : Addr) (y5 : Int64) (kk_o4 : ClassId) (o6 : Addr) (kk_o6 : ClassId) (h0 : Heap) (n0 : Nat) (Z0 : n0 ≤ h0.size) (F_o0_end : Fld Z h0 o0 cn2 "end" "I" (.int (1 : Int32))) (F_o0_starts : Fld Z h0 o0 cn2 "starts" "[J" (.ref o2)) (V_o2 : Arv Z h0 o2 kk_o2 .long (1 : Int32) [(.long y3)] (.long (0 : Int64))) (F_o0_first : Fld Z h0 o0 cn2 "first" "I" (.int (0 : Int32))) (E_o0 : Exa Z h0 o0 cn2) (g_o0 : n0 ≤ o0) (F_o0_records : Fld Z h0 o0 cn2 "records" "[J" (.ref o4)) (F_o0_width : Fld Z h0 o0 cn2 "width" "I" (.int (4 : Int32))) (V_o4 : Arv Z h0 o4 kk_o4 .long (4 : Int32) [(.long y5), (.long (0 : Int64)), (.long (0 : Int64)), (.long (0 : Int64))] (.long (0 : Int64))) (ne_o4_o0 : o4 ≠ o0) (ne_o2_o0 : o2 ≠ o0) (F_o0_decidedAt : Fld Z h0 o0 cn2 "decidedAt" "[J" (.ref o6)) (V_o6 : Arv Z h0 o6 kk_o6 .long (1 : Int32) [(.long (0 : Int64))] (.long (0 : Int64))) (ne_o6_o0 : o6 ≠ o0) :
    MetFree l mn4 (head1 (Jvm.Cond.code mn4 prog_23_method_7_code 7 (some .int) :: ws) ({ frames := 2, cells := 3, slots := 12, locals := 53 } : Room)) (fun a U => a = #[(.ref o0), (.int (1 : Int32)), (.long y1)] ∧ Z.Warmed39 U.vm ∧ U.heap = h0) (fun _ _ _ _ _ => True) (fun _ U oc_ U' => ∃ v L, oc_ = .returned v ∧ QA92 Z o0 y1 o2 y3 kk_o2 o4 y5 kk_o4 o6 kk_o6 h0 n0 v U'.heap L ∧ FrameEnd U oc_ U' L ({ frames := 2, cells := 3, slots := 12, locals := 53 } : Room).cells ({ frames := 2, cells := 3, slots := 12, locals := 53 } : Room).slots) := by
  refine MetFree.of_bodySF (plainFor_of_name pn_com_example_strict_limiter_strictlimiter_KeptWindows) hisR ?_
  intro p e s m args below meth c s₁ Bd hml0 hP hK
  obtain ⟨rfl, hZ, hh⟩ := hP
  have hx := Bd.exec
  have hby := Bd.bytes
  have hml : c.maxLocals = 7 := hml0
  have hown : s.vm.findClass cn2 = some m.cls := findClass_of_methodNamed Bd.named
  have hnm := (name_of_methodNamed Bd.named Bd.method).1
  have X0 : Stand p l e ({ frames := 2, cells := 3, slots := 12, locals := 53 } : Room) s m #[(.ref o0), (.int (1 : Int32)), (.long y1)] below meth c s₁ [] 0 0 := Stand.of_body Bd
  have e0 : s₁.heap = h0 := by rw [← hh, Bd.state]; rfl
  have N0 := Fr.nil n0
  have pre0 : ∀ t, SS p e below s₁ (mkF m 0 #[vr o0, vi 1, vl y1, sd, un, un, un] []) t → Steps p.tables e below (s₁.setTop (entryFrame m #[(.ref o0), (.int (1 : Int32)), (.long y1)] 7)) t := fun t k => castTop (efa_prog_23_method_7_code_vvv m o0 (1 : Int32) y1) k
  obtain ⟨EN, hEN⟩ : ∃ z, z = s₁.setTop (entryFrame m #[(.ref o0), (.int (1 : Int32)), (.long y1)] 7) := ⟨_, rfl⟩
  rw [← hEN] at pre0
  obtain ⟨T1, X1, e1, st1⟩ := getF X0 hx hZ hown (wf26 hw) Via.refl e0 F_o0_end (g := (mkF m 4 #[vr o0, vi 1, vl y1, sd, vi 1, un, un] [(.ref o0)])) rfl rfl (hb hby dn_4)
  obtain ⟨T2, X2, e2, st2⟩ := getF X1 hx hZ hown (wf11 hw) Via.refl e1 F_o0_starts (g := (mkF m 8 #[vr o0, vi 1, vl y1, sd, vi 1, un, un] [(.ref o0), (.int (1 : Int32))])) rfl rfl (hb hby dn_8)
  obtain ⟨cl3, Ar3, -, S3, M3, -, -⟩ := id V_o2
  obtain ⟨T4, X4, e4, st4⟩ := getF X2 hx hZ hown (wf26 hw) Via.refl e2 F_o0_end (g := (mkF m 16 #[vr o0, vi 1, vl y1, sd, vi 1, un, un] [(.ref o0)])) rfl rfl (hb hby dn_16)
  obtain ⟨T5, X5, e5, st5⟩ := getF X4 hx hZ hown (wf24 hw) Via.refl e4 F_o0_first (g := (mkF m 20 #[vr o0, vi 1, vl y1, sd, vi 1, un, un] [(.ref o0), (.int (1 : Int32))])) rfl rfl (hb hby dn_20)
  obtain ⟨T6, X6, e6, st6⟩ := getF X5 hx hZ hown (wf11 hw) Via.refl e5 F_o0_starts (g := (mkF m 29 #[vr o0, vi 1, vl y1, sd, vi 1, vi 1, un] [(.ref o0), (.int (1 : Int32))])) rfl rfl (hb hby dn_29)
  obtain ⟨cl7, Ar7, -, S7, M7, -, -⟩ := id V_o2
  obtain ⟨_, _, ⟨T8, L8, kc8, ks8⟩, -, X8, ⟨Lc8, hQ8, l8, y8, z8⟩, st8⟩ := Jvm.LawKit.callS X6 hx (y := mn7) hown (mvT hZ (wd49 hw)) (mvT hZ (wd50 hw)) (mvT hZ (wd51 hw)) (mvT hZ (wd52 hw)) (by decide) (backOf (W := 0) (rmA59 l Z a0 hw []  h0 n0 Z0 ) hZ (wd52 hw) (wd51 hw) (by decide) (by decide)) (g := (mkF m 41 #[vr o0, vi 1, vl y1, sd, vi 1, vi 1, un] [(.int (2 : Int32)), (.int (1 : Int32))])) rfl (by rw [hml]; rfl) (argsL := [(.int (1 : Int32)), (.int (2 : Int32))]) (rest := []) (lenOf pd__II_I rfl) rfl (by show 2 * 0 + _ ≤ _; exact Nat.le_of_eq rfl) (hb hby dn_41) (fun _ _ => ⟨rfl, e6, (by decide : 0 + 0 ≤ _), (by decide : 0 + 0 ≤ _)⟩)
  dsimp only [Pt.U, Pt.locs, Pt.cells, Pt.slots] at X8 l8 y8 z8 st8 hQ8
  subst l8 y8 z8
  obtain ⟨rfl, Nq8, eq8⟩ := hQ8
  have N8 := Fr.app N0 Nq8
  obtain ⟨T9, X9, e9, st9⟩ := getF X8 hx hZ hown (wf11 hw) Via.refl eq8 F_o0_starts (g := (mkF m 57 #[vr o0, vi 1, vl y1, sd, vi 1, vi 1, vi 2] [(.ref o0), (.ref o0), (.ref o0)])) rfl rfl (hb hby dn_57)
  obtain ⟨cq10, q10, q10'⟩ := E_o0.cell
  obtain ⟨_, _, ⟨T10, L10, kc10, ks10⟩, -, X10, ⟨Lc10, hQ10, l10, y10, z10⟩, st10⟩ := X9.privateBack hx (y := mn5) hown (mvT hZ (wd53 hw)) (mvT hZ (wd54 hw)) (own_selPriv (mvT hZ (wd1 hw)) (Cond.privateMethod_at (mvP hZ (wd55 hw) (args := #[]))) (mvT hZ (wd54 hw)) (by decide)) (Cond.privateMethod_at (mvP hZ (wd55 hw) (args := #[]))) (mvT hZ (wd56 hw)) (by decide) (backOf (W := 1) (rmA60 l Z a0 hw [] o0 o2 y3 _ h0 n0 Z0 F_o0_first F_o0_end V_o2) hZ (wd56 hw) (wd2 hw) (by decide) (by decide)) (g := (mkF m 63 #[vr o0, vi 1, vl y1, sd, vi 1, vi 1, vi 2] [(.int (2 : Int32)), (.int (1 : Int32)), (.ref o2), (.ref o0), (.ref o0)])) rfl (by rw [hml]; rfl) (Steps.refl _) (a := o0) (by rw [e9]; exact q10) q10' (argsL := [(.ref o2), (.int (1 : Int32)), (.int (2 : Int32))]) (rest := [(.ref o0)]) (lenOf pd___JII__J rfl) rfl (by show 2 * 0 + _ ≤ _; exact Nat.le_of_eq rfl) (hb hby dn_63) (fun _ _ => ⟨rfl, e9, (by decide : 0 + 1 ≤ _), (by decide : 0 + 2 ≤ _)⟩)
  dsimp only [Pt.U, Pt.locs, Pt.cells, Pt.slots] at X10 l10 y10 z10 st10 hQ10
  subst l10 y10 z10
  obtain ⟨b10_0, kv10_1, rfl, Nq10, Kq10, sz10_0, g10_0⟩ := hQ10
  have N10 := Fr.app N8 Nq10
  have Z10 := Nat.le_trans Z0 Kq10.1
  have K10 : Keep h0 T10.heap [o0] := Keep.trans (Keep.refl h0 [o0]) Kq10 all0
  have ne_o0_b10_0 := own_ne F_o0_end.lt sz10_0
  have ne_o2_b10_0 := own_ne V_o2.lt sz10_0
  have ge_b10_0 := Nat.le_trans Z0 sz10_0
  have sz_b10_0 : h0.size ≤ b10_0 := Nat.le_trans (Nat.le_refl _) sz10_0
  have f11 := (E_o0.keep Kq10)
  have f12 := (F_o0_starts.keep Kq10 nin0)
  obtain ⟨T13, h13, X13, e13, W13, st13⟩ := putF X10 hx hZ hown (wf11 hw) Via.refl rfl f12 f11 (Or.inl (wd12 hw)) (wd1 hw) (ty := (.array .long)) (by decide) rfl rfl (g := (mkF m 66 #[vr o0, vi 1, vl y1, sd, vi 1, vi 1, vi 2] [(.ref b10_0), (.ref o0)])) rfl rfl (hb hby dn_66)
  have N13 := Fr.snoc X13 N10 g_o0
  have Z13 : n0 ≤ h13.size := by rw [W13.size]; exact Z10
  have K13 := (K10.wr W13 (Or.inl (List.mem_of_getElem? (i := 0) rfl)))
  have Fw13 := f12.same W13
  have f14 := ((F_o0_records.keep Kq10 nin0).other W13 (Or.inr (sn5 hw)))
  obtain ⟨T15, X15, e15, st15⟩ := getF X13 hx hZ hown (wf13 hw) Via.refl e13 f14 (g := (mkF m 72 #[vr o0, vi 1, vl y1, sd, vi 1, vi 1, vi 2] [(.ref o0), (.ref o0), (.ref o0)])) rfl rfl (hb hby dn_72)
  have f16 := ((F_o0_width.keep Kq10 nin0).other W13 (Or.inr (sn25 hw)))
  obtain ⟨T17, X17, e17, st17⟩ := getF X15 hx hZ hown (wf17 hw) Via.refl e15 f16 (g := (mkF m 76 #[vr o0, vi 1, vl y1, sd, vi 1, vi 1, vi 2] [(.ref o0), (.ref o4), (.ref o0), (.ref o0)])) rfl rfl (hb hby dn_76)
  have f18 := ((F_o0_first.keep Kq10 nin0).other W13 (Or.inr (sn15 hw)))
  have f19 := ((F_o0_end.keep Kq10 nin0).other W13 (Or.inr (sn20 hw)))
  have f20 := ((V_o4.keep Kq10 nin0).other W13 ne_o4_o0)
  have f21 := ((V_o2.keep Kq10 nin0).other W13 ne_o2_o0)
  have f22 := (g10_0.other W13 (Ne.symm ne_o0_b10_0))
  have f24 := (f11.wr W13)
  obtain ⟨cq23, q23, q23'⟩ := f24.cell
  obtain ⟨_, _, ⟨T23, L23, kc23, ks23⟩, -, X23, ⟨Lc23, hQ23, l23, y23, z23⟩, st23⟩ := X17.privateBack hx (y := mn5) hown (mvT hZ (wd53 hw)) (mvT hZ (wd54 hw)) (own_selPriv (mvT hZ (wd1 hw)) (Cond.privateMethod_at (mvP hZ (wd55 hw) (args := #[]))) (mvT hZ (wd54 hw)) (by decide)) (Cond.privateMethod_at (mvP hZ (wd55 hw) (args := #[]))) (mvT hZ (wd56 hw)) (by decide) (backOf (W := 1) (rmA72 l Z a0 hw [] o0 o4 y5 _ h13 n0 Z13 f18 f19 f20) hZ (wd56 hw) (wd2 hw) (by decide) (by decide)) (g := (mkF m 81 #[vr o0, vi 1, vl y1, sd, vi 1, vi 1, vi 2] [(.int (2 : Int32)), (.int (4 : Int32)), (.ref o4), (.ref o0), (.ref o0)])) rfl (by rw [hml]; rfl) (Steps.refl _) (a := o0) (by rw [e17]; exact q23) q23' (argsL := [(.ref o4), (.int (4 : Int32)), (.int (2 : Int32))]) (rest := [(.ref o0)]) (lenOf pd___JII__J rfl) rfl (by show 2 * 0 + _ ≤ _; exact Nat.le_of_eq rfl) (hb hby dn_81) (fun _ _ => ⟨rfl, e17, (by decide : 1 + 1 ≤ _), (by decide : 2 + 8 ≤ _)⟩)
  dsimp only [Pt.U, Pt.locs, Pt.cells, Pt.slots] at X23 l23 y23 z23 st23 hQ23
  subst l23 y23 z23
  obtain ⟨b23_0, kv23_1, rfl, Nq23, Kq23, sz23_0, g23_0⟩ := hQ23
  have N23 := Fr.app N13 Nq23
  have Z23 := Nat.le_trans Z13 Kq23.1
  have K23 := Keep.trans K13 Kq23 all0
  have ne_o0_b23_0 := own_ne f19.lt sz23_0
  have ne_o2_b23_0 := own_ne f21.lt sz23_0
  have ne_b10_0_b23_0 := own_ne f22.lt sz23_0
  have ne_o4_b23_0 := own_ne f20.lt sz23_0
  have ge_b23_0 := Nat.le_trans Z13 sz23_0
  have sz_b23_0 := Nat.le_trans K13.1 sz23_0
  have f25 := (f24.keep Kq23)
  have f26 := (f14.keep Kq23 nin0)
  obtain ⟨T27, h27, X27, e27, W27, st27⟩ := putF X23 hx hZ hown (wf13 hw) Via.refl rfl f26 f25 (Or.inl (wd14 hw)) (wd1 hw) (ty := (.array .long)) (by decide) rfl rfl (g := (mkF m 84 #[vr o0, vi 1, vl y1, sd, vi 1, vi 1, vi 2] [(.ref b23_0), (.ref o0)])) rfl rfl (hb hby dn_84)
  have N27 := Fr.snoc X27 N23 g_o0
  have Z27 : n0 ≤ h27.size := by rw [W27.size]; exact Z23
  have K27 := (K23.wr W27 (Or.inl (List.mem_of_getElem? (i := 0) rfl)))
  have Fw27 := f26.same W27
  have f28 := ((((F_o0_decidedAt.keep Kq10 nin0).other W13 (Or.inr (sn10 hw))).keep Kq23 nin0).other W27 (Or.inr (sn11 hw)))
  obtain ⟨T29, X29, e29, st29⟩ := getF X27 hx hZ hown (wf15 hw) Via.refl e27 f28 (g := (mkF m 90 #[vr o0, vi 1, vl y1, sd, vi 1, vi 1, vi 2] [(.ref o0), (.ref o0), (.ref o0)])) rfl rfl (hb hby dn_90)
  have f30 := ((f18.keep Kq23 nin0).other W27 (Or.inr (sn16 hw)))
  have f31 := ((f19.keep Kq23 nin0).other W27 (Or.inr (sn21 hw)))
  have f32 := ((((V_o6.keep Kq10 nin0).other W13 ne_o6_o0).keep Kq23 nin0).other W27 ne_o6_o0)
  have f33 := ((f21.keep Kq23 nin0).other W27 ne_o2_o0)
  have f34 := ((f22.keep Kq23 nin0).other W27 (Ne.symm ne_o0_b10_0))
  have f35 := ((f20.keep Kq23 nin0).other W27 ne_o4_o0)
  have f36 := (g23_0.other W27 (Ne.symm ne_o0_b23_0))
  have f38 := (f25.wr W27)
  obtain ⟨cq37, q37, q37'⟩ := f38.cell
  obtain ⟨_, _, ⟨T37, L37, kc37, ks37⟩, -, X37, ⟨Lc37, hQ37, l37, y37, z37⟩, st37⟩ := X29.privateBack hx (y := mn5) hown (mvT hZ (wd53 hw)) (mvT hZ (wd54 hw)) (own_selPriv (mvT hZ (wd1 hw)) (Cond.privateMethod_at (mvP hZ (wd55 hw) (args := #[]))) (mvT hZ (wd54 hw)) (by decide)) (Cond.privateMethod_at (mvP hZ (wd55 hw) (args := #[]))) (mvT hZ (wd56 hw)) (by decide) (backOf (W := 1) (rmA62 l Z a0 hw [] o0 o6 _ h27 n0 Z27 f30 f31 f32) hZ (wd56 hw) (wd2 hw) (by decide) (by decide)) (g := (mkF m 96 #[vr o0, vi 1, vl y1, sd, vi 1, vi 1, vi 2] [(.int (2 : Int32)), (.int (1 : Int32)), (.ref o6), (.ref o0), (.ref o0)])) rfl (by rw [hml]; rfl) (Steps.refl _) (a := o0) (by rw [e29]; exact q37) q37' (argsL := [(.ref o6), (.int (1 : Int32)), (.int (2 : Int32))]) (rest := [(.ref o0)]) (lenOf pd___JII__J rfl) rfl (by show 2 * 0 + _ ≤ _; exact Nat.le_of_eq rfl) (hb hby dn_96) (fun _ _ => ⟨rfl, e29, (by decide : 2 + 1 ≤ _), (by decide : 10 + 2 ≤ _)⟩)
  dsimp only [Pt.U, Pt.locs, Pt.cells, Pt.slots] at X37 l37 y37 z37 st37 hQ37
  subst l37 y37 z37
  obtain ⟨b37_0, kv37_1, rfl, Nq37, Kq37, sz37_0, g37_0⟩ := hQ37
  have N37 := Fr.app N27 Nq37
  have Z37 := Nat.le_trans Z27 Kq37.1
  have K37 := Keep.trans K27 Kq37 all0
  have ne_o0_b37_0 := own_ne f31.lt sz37_0
  have ne_o2_b37_0 := own_ne f33.lt sz37_0
  have ne_b10_0_b37_0 := own_ne f34.lt sz37_0
  have ne_o4_b37_0 := own_ne f35.lt sz37_0
  have ne_b23_0_b37_0 := own_ne f36.lt sz37_0
  have ne_o6_b37_0 := own_ne f32.lt sz37_0
  have ge_b37_0 := Nat.le_trans Z27 sz37_0
  have sz_b37_0 := Nat.le_trans K27.1 sz37_0
  have f39 := (f38.keep Kq37)
  have f40 := (f28.keep Kq37 nin0)
  obtain ⟨T41, h41, X41, e41, W41, st41⟩ := putF X37 hx hZ hown (wf15 hw) Via.refl rfl f40 f39 (Or.inl (wd16 hw)) (wd1 hw) (ty := (.array .long)) (by decide) rfl rfl (g := (mkF m 99 #[vr o0, vi 1, vl y1, sd, vi 1, vi 1, vi 2] [(.ref b37_0), (.ref o0)])) rfl rfl (hb hby dn_99)
  have N41 := Fr.snoc X41 N37 g_o0
  have Z41 : n0 ≤ h41.size := by rw [W41.size]; exact Z37
  have K41 := (K37.wr W41 (Or.inl (List.mem_of_getElem? (i := 0) rfl)))
  have Fw41 := f40.same W41
  have f42 := ((f30.keep Kq37 nin0).other W41 (Or.inr (sn17 hw)))
  obtain ⟨T43, X43, e43, st43⟩ := getF X41 hx hZ hown (wf24 hw) Via.refl e41 f42 (g := (mkF m 105 #[vr o0, vi 1, vl y1, sd, vi 1, vi 1, vi 2] [(.ref o0), (.int (1 : Int32))])) rfl rfl (hb hby dn_105)
  have f44 := (f39.wr W41)
  obtain ⟨T45, h45, X45, e45, W45, st45⟩ := putF X43 hx hZ hown (wf24 hw) Via.refl e43 f42 f44 (Or.inl (wd25 hw)) (wd1 hw) (ty := .int) (by decide) rfl rfl (g := (mkF m 113 #[vr o0, vi 1, vl y1, sd, vi 1, vi 1, vi 2] [(.int (0 : Int32)), (.ref o0)])) rfl rfl (hb hby dn_113)
  have N45 := Fr.snoc X45 N41 g_o0
  have Z45 : n0 ≤ h45.size := by rw [W45.size]; exact Z41
  have K45 := (K41.wr W45 (Or.inl (List.mem_of_getElem? (i := 0) rfl)))
  have Fw45 := f42.same W45
  have f46 := (f44.wr W45)
  have f47 := (((f31.keep Kq37 nin0).other W41 (Or.inr (sn22 hw))).other W45 (Or.inr (sn23 hw)))
  obtain ⟨T48, h48, X48, e48, W48, st48⟩ := putF X45 hx hZ hown (wf26 hw) Via.refl e45 f47 f46 (Or.inl (wd27 hw)) (wd1 hw) (ty := .int) (by decide) rfl rfl (g := (mkF m 119 #[vr o0, vi 1, vl y1, sd, vi 1, vi 1, vi 2] [(.int (1 : Int32)), (.ref o0)])) rfl rfl (hb hby dn_119)
  have N48 := Fr.snoc X48 N45 g_o0
  have Z48 : n0 ≤ h48.size := by rw [W48.size]; exact Z45
  have K48 := (K45.wr W48 (Or.inl (List.mem_of_getElem? (i := 0) rfl)))
  have Fw48 := f47.same W48
  have f49 := ((((((Fw13.keep Kq23 nin0).other W27 (Or.inr (sn0 hw))).keep Kq37 nin0).other W41 (Or.inr (sn1 hw))).other W45 (Or.inr (sn2 hw))).other W48 (Or.inr (sn3 hw)))
  obtain ⟨T50, X50, e50, st50⟩ := getF X48 hx hZ hown (wf11 hw) Via.refl e48 f49 (g := (mkF m 123 #[vr o0, vi 1, vl y1, sd, vi 1, vi 1, vi 2] [(.ref o0)])) rfl rfl (hb hby dn_123)
  obtain ⟨T51, X51, e51, st51⟩ := getF X50 hx hZ hown (wf11 hw) Via.refl e50 f49 (g := (mkF m 129 #[vr o0, vi 1, vl y1, sd, vi 1, vi 1, vi 2] [(.ref o0), (.int (1 : Int32)), (.ref b10_0)])) rfl rfl (hb hby dn_129)
  obtain ⟨T52, X52, e52, st52⟩ := getF X51 hx hZ hown (wf26 hw) Via.refl e51 Fw48 (g := (mkF m 137 #[vr o0, vi 1, vl y1, sd, vi 1, vi 1, vi 2] [(.ref o0), (.int (2 : Int32)), (.ref b10_0), (.int (1 : Int32)), (.ref b10_0)])) rfl rfl (hb hby dn_137)
  have f53 := ((((f34.keep Kq37 nin0).other W41 (Ne.symm ne_o0_b10_0)).other W45 (Ne.symm ne_o0_b10_0)).other W48 (Ne.symm ne_o0_b10_0))
  obtain ⟨T54, h54, Lq54, X54, e54, Nq54, Kq54, Vq54, st54⟩ := cpA X52 hx hZ hown (wd58 hw) (wd61 hw) (wd59 hw) (wd60 hw) e52 (us := []) f53 f53 (Or.inl ⟨rfl, rfl⟩) (by decide) (by decide) (by decide) (by first | decide | exact Nat.le_of_ble_eq_true rfl) (by first | decide | exact Nat.le_of_ble_eq_true rfl) (by rfl) (by first | decide | exact Nat.le_of_ble_eq_true rfl) N48 ge_b10_0 (g := (mkF m 143 #[vr o0, vi 1, vl y1, sd, vi 1, vi 1, vi 2] [(.int (0 : Int32)), (.int (2 : Int32)), (.ref b10_0), (.int (1 : Int32)), (.ref b10_0)])) rfl (by rw [hml]; rfl) rfl (hb hby dn_143) (by decide) (W := 0) (by show 2 * 0 + _ ≤ _; exact Nat.le_of_eq rfl) (by decide)
  have Z54 := Nat.le_trans Z48 Kq54.1
  have K54 := Keep.trans K48 Kq54 (allS (Or.inr sz_b10_0) all0)
  have V54 : Arv Z h54 b10_0 _ .long (2 : Int32) [(.long y3), (.long (0 : Int64))] (.long (0 : Int64)) := Vq54
  have f55 := (((((Fw27.keep Kq37 nin0).other W41 (Or.inr (sn6 hw))).other W45 (Or.inr (sn7 hw))).other W48 (Or.inr (sn8 hw))).keep Kq54 (ninS ne_o0_b10_0 nin0))
  obtain ⟨T56, X56, e56, st56⟩ := getF X54 hx hZ hown (wf13 hw) Via.refl e54 f55 (g := (mkF m 147 #[vr o0, vi 1, vl y1, sd, vi 1, vi 1, vi 2] [(.ref o0)])) rfl rfl (hb hby dn_147)
  have f57 := (((((((f16.keep Kq23 nin0).other W27 (Or.inr (sn26 hw))).keep Kq37 nin0).other W41 (Or.inr (sn27 hw))).other W45 (Or.inr (sn28 hw))).other W48 (Or.inr (sn29 hw))).keep Kq54 (ninS ne_o0_b10_0 nin0))
  obtain ⟨T58, X58, e58, st58⟩ := getF X56 hx hZ hown (wf17 hw) Via.refl e56 f57 (g := (mkF m 153 #[vr o0, vi 1, vl y1, sd, vi 1, vi 1, vi 2] [(.ref o0), (.int (1 : Int32)), (.ref b23_0)])) rfl rfl (hb hby dn_153)
  obtain ⟨T59, X59, e59, st59⟩ := getF X58 hx hZ hown (wf13 hw) Via.refl e58 f55 (g := (mkF m 158 #[vr o0, vi 1, vl y1, sd, vi 1, vi 1, vi 2] [(.ref o0), (.int (4 : Int32)), (.ref b23_0)])) rfl rfl (hb hby dn_158)
  obtain ⟨T60, X60, e60, st60⟩ := getF X59 hx hZ hown (wf17 hw) Via.refl e59 f57 (g := (mkF m 166 #[vr o0, vi 1, vl y1, sd, vi 1, vi 1, vi 2] [(.ref o0), (.int (2 : Int32)), (.ref b23_0), (.int (4 : Int32)), (.ref b23_0)])) rfl rfl (hb hby dn_166)
  have f61 := (Fw48.keep Kq54 (ninS ne_o0_b10_0 nin0))
  obtain ⟨T62, X62, e62, st62⟩ := getF X60 hx hZ hown (wf26 hw) Via.refl e60 f61 (g := (mkF m 171 #[vr o0, vi 1, vl y1, sd, vi 1, vi 1, vi 2] [(.ref o0), (.int (8 : Int32)), (.ref b23_0), (.int (4 : Int32)), (.ref b23_0)])) rfl rfl (hb hby dn_171)
  obtain ⟨T63, X63, e63, st63⟩ := getF X62 hx hZ hown (wf17 hw) Via.refl e62 f57 (g := (mkF m 178 #[vr o0, vi 1, vl y1, sd, vi 1, vi 1, vi 2] [(.ref o0), (.int (0 : Int32)), (.int (8 : Int32)), (.ref b23_0), (.int (4 : Int32)), (.ref b23_0)])) rfl rfl (hb hby dn_178)
  have f64 := (((((f36.keep Kq37 nin0).other W41 (Ne.symm ne_o0_b23_0)).other W45 (Ne.symm ne_o0_b23_0)).other W48 (Ne.symm ne_o0_b23_0)).keep Kq54 (ninS (Ne.symm ne_b10_0_b23_0) nin0))
  obtain ⟨T65, h65, Lq65, X65, e65, Nq65, Kq65, Vq65, st65⟩ := cpA X63 hx hZ hown (wd58 hw) (wd61 hw) (wd59 hw) (wd60 hw) e63 (us := []) f64 f64 (Or.inl ⟨rfl, rfl⟩) (by decide) (by decide) (by decide) (by first | decide | exact Nat.le_of_ble_eq_true rfl) (by first | decide | exact Nat.le_of_ble_eq_true rfl) (by rfl) (by first | decide | exact Nat.le_of_ble_eq_true rfl) Nq54 ge_b23_0 (g := (mkF m 182 #[vr o0, vi 1, vl y1, sd, vi 1, vi 1, vi 2] [(.int (0 : Int32)), (.int (8 : Int32)), (.ref b23_0), (.int (4 : Int32)), (.ref b23_0)])) rfl (by rw [hml]; rfl) rfl (hb hby dn_182) (by decide) (W := 0) (by show 2 * 0 + _ ≤ _; exact Nat.le_of_eq rfl) (by decide)
  have Z65 := Nat.le_trans Z54 Kq65.1
  have K65 := Keep.trans K54 Kq65 (allS (Or.inr sz_b23_0) all0)
  have V65 : Arv Z h65 b23_0 _ .long (8 : Int32) [(.long y5), (.long (0 : Int64)), (.long (0 : Int64)), (.long (0 : Int64)), (.long (0 : Int64)), (.long (0 : Int64)), (.long (0 : Int64)), (.long (0 : Int64))] (.long (0 : Int64)) := Vq65
  have f66 := ((((Fw41.other W45 (Or.inr (sn12 hw))).other W48 (Or.inr (sn13 hw))).keep Kq54 (ninS ne_o0_b10_0 nin0)).keep Kq65 (ninS ne_o0_b23_0 nin0))
  obtain ⟨T67, X67, e67, st67⟩ := getF X65 hx hZ hown (wf15 hw) Via.refl e65 f66 (g := (mkF m 186 #[vr o0, vi 1, vl y1, sd, vi 1, vi 1, vi 2] [(.ref o0)])) rfl rfl (hb hby dn_186)
  obtain ⟨T68, X68, e68, st68⟩ := getF X67 hx hZ hown (wf15 hw) Via.refl e67 f66 (g := (mkF m 192 #[vr o0, vi 1, vl y1, sd, vi 1, vi 1, vi 2] [(.ref o0), (.int (1 : Int32)), (.ref b37_0)])) rfl rfl (hb hby dn_192)
  have f69 := (f61.keep Kq65 (ninS ne_o0_b23_0 nin0))
  obtain ⟨T70, X70, e70, st70⟩ := getF X68 hx hZ hown (wf26 hw) Via.refl e68 f69 (g := (mkF m 200 #[vr o0, vi 1, vl y1, sd, vi 1, vi 1, vi 2] [(.ref o0), (.int (2 : Int32)), (.ref b37_0), (.int (1 : Int32)), (.ref b37_0)])) rfl rfl (hb hby dn_200)
  have f71 := (((((g37_0.other W41 (Ne.symm ne_o0_b37_0)).other W45 (Ne.symm ne_o0_b37_0)).other W48 (Ne.symm ne_o0_b37_0)).keep Kq54 (ninS (Ne.symm ne_b10_0_b37_0) nin0)).keep Kq65 (ninS (Ne.symm ne_b23_0_b37_0) nin0))
  obtain ⟨T72, h72, Lq72, X72, e72, Nq72, Kq72, Vq72, st72⟩ := cpA X70 hx hZ hown (wd58 hw) (wd61 hw) (wd59 hw) (wd60 hw) e70 (us := []) f71 f71 (Or.inl ⟨rfl, rfl⟩) (by decide) (by decide) (by decide) (by first | decide | exact Nat.le_of_ble_eq_true rfl) (by first | decide | exact Nat.le_of_ble_eq_true rfl) (by rfl) (by first | decide | exact Nat.le_of_ble_eq_true rfl) Nq65 ge_b37_0 (g := (mkF m 206 #[vr o0, vi 1, vl y1, sd, vi 1, vi 1, vi 2] [(.int (0 : Int32)), (.int (2 : Int32)), (.ref b37_0), (.int (1 : Int32)), (.ref b37_0)])) rfl (by rw [hml]; rfl) rfl (hb hby dn_206) (by decide) (W := 0) (by show 2 * 0 + _ ≤ _; exact Nat.le_of_eq rfl) (by decide)
  have Z72 := Nat.le_trans Z65 Kq72.1
  have K72 := Keep.trans K65 Kq72 (allS (Or.inr sz_b37_0) all0)
  have V72 : Arv Z h72 b37_0 _ .long (2 : Int32) [(.long (0 : Int64)), (.long (0 : Int64))] (.long (0 : Int64)) := Vq72
  have f73 := (((f49.keep Kq54 (ninS ne_o0_b10_0 nin0)).keep Kq65 (ninS ne_o0_b23_0 nin0)).keep Kq72 (ninS ne_o0_b37_0 nin0))
  obtain ⟨T74, X74, e74, st74⟩ := getF X72 hx hZ hown (wf11 hw) Via.refl e72 f73 (g := (mkF m 210 #[vr o0, vi 1, vl y1, sd, vi 1, vi 1, vi 2] [(.ref o0)])) rfl rfl (hb hby dn_210)
  have f75 := ((V54.keep Kq65 (ninS ne_b10_0_b23_0 nin0)).keep Kq72 (ninS ne_b10_0_b37_0 nin0))
  obtain ⟨cl76, Ar76, q76, S76, M76, HH76, GG76⟩ := id f75
  have hin76 : ¬ ((1 : Int32) < 0 ∨ cl76.slots.size ≤ ((1 : Int32)).toNatClampNeg) := inb_of S76 ⟨by decide, by decide⟩
  obtain ⟨T77, h77, X77, e77, W77, st77⟩ := stJ X74 hx hZ e74 Ar76 (j := (1 : Int32)) hin76 (g := (mkF m 216 #[vr o0, vi 1, vl y1, sd, vi 1, vi 1, vi 2] [(.long y1), (.int (1 : Int32)), (.ref b10_0)])) rfl rfl (hb hby dn_216)
  have N77 := Fr.snoc X77 Nq72 ge_b10_0
  have Z77 : n0 ≤ h77.size := by rw [W77.size]; exact Z72
  have K77 := (K72.wr W77 (Or.inr sz_b10_0))
  have V77 := Arv.set Ar76 q76 S76 M76 HH76 GG76 rfl W77 1 rfl (Nat.le_of_ble_eq_true rfl)
  have f78 := (((f55.keep Kq65 (ninS ne_o0_b23_0 nin0)).keep Kq72 (ninS ne_o0_b37_0 nin0)).other W77 (Or.inl ne_o0_b10_0))
  obtain ⟨T79, X79, e79, st79⟩ := getF X77 hx hZ hown (wf13 hw) Via.refl e77 f78 (g := (mkF m 218 #[vr o0, vi 1, vl y1, sd, vi 1, vi 1, vi 2] [(.ref o0)])) rfl rfl (hb hby dn_218)
  have f80 := (((f57.keep Kq65 (ninS ne_o0_b23_0 nin0)).keep Kq72 (ninS ne_o0_b37_0 nin0)).other W77 (Or.inl ne_o0_b10_0))
  obtain ⟨T81, X81, e81, st81⟩ := getF X79 hx hZ hown (wf17 hw) Via.refl e79 f80 (g := (mkF m 224 #[vr o0, vi 1, vl y1, sd, vi 1, vi 1, vi 2] [(.ref o0), (.int (1 : Int32)), (.ref b23_0)])) rfl rfl (hb hby dn_224)
  obtain ⟨T82, X82, e82, st82⟩ := getF X81 hx hZ hown (wf17 hw) Via.refl e81 f80 (g := (mkF m 233 #[vr o0, vi 1, vl y1, sd, vi 1, vi 1, vi 2] [(.ref o0), (.int (2 : Int32)), (.int (4 : Int32)), (.ref b23_0)])) rfl rfl (hb hby dn_233)
  have f83 := ((V65.keep Kq72 (ninS ne_b23_0_b37_0 nin0)).other W77 (Ne.symm ne_b10_0_b23_0))
  obtain ⟨_, _, ⟨T84, L84, kc84, ks84⟩, -, X84, ⟨Lc84, hQ84, l84, y84, z84⟩, st84⟩ := Jvm.LawKit.callS X82 hx (y := mn12) hown (mvT hZ (wd62 hw)) (mvT hZ (wd63 hw)) (mvT hZ (wd37 hw)) (mvT hZ (wd64 hw)) (by decide) (backOf (W := 0) (rmA97 l Z a0 hw [] b23_0 y5 _ h77 n0 Z77 f83 ge_b23_0) hZ (wd64 hw) (wd37 hw) (by decide) (by decide)) (g := (mkF m 238 #[vr o0, vi 1, vl y1, sd, vi 1, vi 1, vi 2] [(.long (0 : Int64)), (.int (8 : Int32)), (.int (4 : Int32)), (.ref b23_0)])) rfl (by rw [hml]; rfl) (argsL := [(.ref b23_0), (.int (4 : Int32)), (.int (8 : Int32)), (.long (0 : Int64))]) (rest := []) (lenOf pd___JIIJ_V rfl) rfl (by show 2 * 0 + _ ≤ _; exact Nat.le_of_eq rfl) (hb hby dn_238) (fun _ _ => ⟨rfl, e82, (by decide : 3 + 0 ≤ _), (by decide : 12 + 0 ≤ _)⟩)
  dsimp only [Pt.U, Pt.locs, Pt.cells, Pt.slots] at X84 l84 y84 z84 st84 hQ84
  subst l84 y84 z84
  obtain ⟨rfl, Nq84, Kq84, g84_0⟩ := hQ84
  have N84 := Fr.app N77 Nq84
  have Z84 := Nat.le_trans Z77 Kq84.1
  have K84 := Keep.trans K77 Kq84 (allS (Or.inr sz_b23_0) all0)
  have f85 := (((f69.keep Kq72 (ninS ne_o0_b37_0 nin0)).other W77 (Or.inl ne_o0_b10_0)).keep Kq84 (ninS ne_o0_b23_0 nin0))
  obtain ⟨T86, X86, e86, st86⟩ := getF X84 hx hZ hown (wf26 hw) Via.refl rfl f85 (g := (mkF m 243 #[vr o0, vi 1, vl y1, sd, vi 1, vi 1, vi 2] [(.ref o0), (.ref o0)])) rfl rfl (hb hby dn_243)
  have f87 := ((((((f46.wr W48).keep Kq54).keep Kq65).keep Kq72).wr W77).keep Kq84)
  obtain ⟨T88, h88, X88, e88, W88, st88⟩ := putF X86 hx hZ hown (wf26 hw) Via.refl e86 f85 f87 (Or.inl (wd27 hw)) (wd1 hw) (ty := .int) (by decide) rfl rfl (g := (mkF m 248 #[vr o0, vi 1, vl y1, sd, vi 1, vi 1, vi 2] [(.int (2 : Int32)), (.ref o0)])) rfl rfl (hb hby dn_248)
  have N88 := Fr.snoc X88 N84 g_o0
  have Z88 : n0 ≤ h88.size := by rw [W88.size]; exact Z84
  have K88 := (K84.wr W88 (Or.inl (List.mem_of_getElem? (i := 0) rfl)))
  have Fw88 := f85.same W88
  have f89 := (((f73.other W77 (Or.inl ne_o0_b10_0)).keep Kq84 (ninS ne_o0_b23_0 nin0)).other W88 (Or.inr (sn3 hw)))
  have f90 := (((((((Fw45.other W48 (Or.inr (sn18 hw))).keep Kq54 (ninS ne_o0_b10_0 nin0)).keep Kq65 (ninS ne_o0_b23_0 nin0)).keep Kq72 (ninS ne_o0_b37_0 nin0)).other W77 (Or.inl ne_o0_b10_0)).keep Kq84 (ninS ne_o0_b23_0 nin0)).other W88 (Or.inr (sn18 hw)))
  have f91 := (f87.wr W88)
  have f92 := ((V77.keep Kq84 (ninS ne_b10_0_b23_0 nin0)).other W88 (Ne.symm ne_o0_b10_0))
  have f93 := ((f78.keep Kq84 (ninS ne_o0_b23_0 nin0)).other W88 (Or.inr (sn8 hw)))
  have f94 := ((f80.keep Kq84 (ninS ne_o0_b23_0 nin0)).other W88 (Or.inr (sn29 hw)))
  have f95 := (g84_0.other W88 (Ne.symm ne_o0_b23_0))
  have f96 := ((((f66.keep Kq72 (ninS ne_o0_b37_0 nin0)).other W77 (Or.inl ne_o0_b10_0)).keep Kq84 (ninS ne_o0_b23_0 nin0)).other W88 (Or.inr (sn13 hw)))
  have f97 := (((V72.other W77 (Ne.symm ne_b10_0_b37_0)).keep Kq84 (ninS (Ne.symm ne_b23_0_b37_0) nin0)).other W88 (Ne.symm ne_o0_b37_0))
  subst hEN
  obtain ⟨lfs, lhr, lhrun, lhended, lhW, lhsame⟩ := X88.leave (v := some (.int (1 : Int32))) (fun h => by rw [Bd.returns] at h; cases h)
  refine ⟨_, _, pre0 _ ?_, lhrun, lhended, _, _, rfl, ?_, ⟨_, rfl⟩, lhW, lhsame.mono (by decide) (by decide)⟩
  · skip
    refine XS.iloadN X0.here hx rfl (hb hby dn_0) rfl ?_
    refine XS.istore X0.here hx rfl (hb hby dn_1) rfl (l' := #[vr o0, vi 1, vl y1, sd, vi 1, un, un]) rfl ?_
    refine XS.aloadN X0.here hx rfl (hb hby dn_3) rfl rfl ?_
    refine st1 _ ?_
    refine XS.aloadN X1.here hx rfl (hb hby dn_7) rfl rfl ?_
    refine st2 _ ?_
    refine X2.arraylength hx (by (try rw [e2]); exact Ar3.1) (State.isArrayOf_alike hZ.alike Ar3.2.1) (g := (mkF m 11 #[vr o0, vi 1, vl y1, sd, vi 1, un, un] [(.ref o2), (.int (1 : Int32))])) rfl rfl (hb hby dn_11) _ ?_
    rw [len_of S3 M3]
    refine XS.icmpNo X2.here hx rfl (hb hby dn_12) rfl (teq (by decide : (1 : Int32) = (1 : Int32))).2 ?_
    refine XS.aloadN X2.here hx rfl (hb hby dn_15) rfl rfl ?_
    refine st4 _ ?_
    refine XS.aloadN X4.here hx rfl (hb hby dn_19) rfl rfl ?_
    refine st5 _ ?_
    refine XS.isub X5.here hx rfl (hb hby dn_23) rfl ?_
    refine XS.istore X5.here hx rfl (hb hby dn_24) rfl (l' := #[vr o0, vi 1, vl y1, sd, vi 1, vi 1, un]) rfl ?_
    refine XS.iload X5.here hx rfl (hb hby dn_26) rfl ?_
    refine XS.aloadN X5.here hx rfl (hb hby dn_28) rfl rfl ?_
    refine st6 _ ?_
    refine X6.arraylength hx (by (try rw [e6]); exact Ar7.1) (State.isArrayOf_alike hZ.alike Ar7.2.1) (g := (mkF m 32 #[vr o0, vi 1, vl y1, sd, vi 1, vi 1, un] [(.ref o2), (.int (1 : Int32))])) rfl rfl (hb hby dn_32) _ ?_
    rw [len_of S7 M7]
    refine XS.icmpNo X6.here hx rfl (hb hby dn_33) rfl (teq (by decide : (1 : Int32) = (1 : Int32))).2 ?_
    refine XS.iconst X6.here hx rfl (hb hby dn_36) ?_
    refine XS.iconst X6.here hx rfl (hb hby dn_37) ?_
    refine XS.iload X6.here hx rfl (hb hby dn_38) rfl ?_
    refine XS.imul X6.here hx rfl (hb hby dn_40) rfl ?_
    refine st8 _ ?_
    refine XS.goto X8.here hx rfl (pc0 := 44) (pc' := 52) rfl (hb hby dn_44) (by decide) (by decide) ?_
    refine XS.istore X8.here hx rfl (hb hby dn_52) rfl (l' := #[vr o0, vi 1, vl y1, sd, vi 1, vi 1, vi 2]) rfl ?_
    refine XS.aloadN X8.here hx rfl (hb hby dn_54) rfl rfl ?_
    refine XS.aloadN X8.here hx rfl (hb hby dn_55) rfl rfl ?_
    refine XS.aloadN X8.here hx rfl (hb hby dn_56) rfl rfl ?_
    refine st9 _ ?_
    refine XS.iconst X9.here hx rfl (hb hby dn_60) ?_
    refine XS.iload X9.here hx rfl (hb hby dn_61) rfl ?_
    refine st10.trans ?_
    refine st13 _ ?_
    refine XS.aloadN X13.here hx rfl (hb hby dn_69) rfl rfl ?_
    refine XS.aloadN X13.here hx rfl (hb hby dn_70) rfl rfl ?_
    refine XS.aloadN X13.here hx rfl (hb hby dn_71) rfl rfl ?_
    refine st15 _ ?_
    refine XS.aloadN X15.here hx rfl (hb hby dn_75) rfl rfl ?_
    refine st17 _ ?_
    refine XS.iload X17.here hx rfl (hb hby dn_79) rfl ?_
    refine st23.trans ?_
    refine st27 _ ?_
    refine XS.aloadN X27.here hx rfl (hb hby dn_87) rfl rfl ?_
    refine XS.aloadN X27.here hx rfl (hb hby dn_88) rfl rfl ?_
    refine XS.aloadN X27.here hx rfl (hb hby dn_89) rfl rfl ?_
    refine st29 _ ?_
    refine XS.iconst X29.here hx rfl (hb hby dn_93) ?_
    refine XS.iload X29.here hx rfl (hb hby dn_94) rfl ?_
    refine st37.trans ?_
    refine st41 _ ?_
    refine XS.iload X41.here hx rfl (hb hby dn_102) rfl ?_
    refine XS.aloadN X41.here hx rfl (hb hby dn_104) rfl rfl ?_
    refine st43 _ ?_
    refine XS.isub X43.here hx rfl (hb hby dn_108) rfl ?_
    refine XS.istore X43.here hx rfl (hb hby dn_109) rfl (l' := #[vr o0, vi 1, vl y1, sd, vi 1, vi 1, vi 2]) rfl ?_
    refine XS.aloadN X43.here hx rfl (hb hby dn_111) rfl rfl ?_
    refine XS.iconst X43.here hx rfl (hb hby dn_112) ?_
    refine st45 _ ?_
    refine XS.aloadN X45.here hx rfl (hb hby dn_116) rfl rfl ?_
    refine XS.iload X45.here hx rfl (hb hby dn_117) rfl ?_
    refine st48 _ ?_
    refine XS.aloadN X48.here hx rfl (hb hby dn_122) rfl rfl ?_
    refine st50 _ ?_
    refine XS.iload X50.here hx rfl (hb hby dn_126) rfl ?_
    refine XS.aloadN X50.here hx rfl (hb hby dn_128) rfl rfl ?_
    refine st51 _ ?_
    refine XS.iload X51.here hx rfl (hb hby dn_132) rfl ?_
    refine XS.iconst X51.here hx rfl (hb hby dn_134) ?_
    refine XS.iadd X51.here hx rfl (hb hby dn_135) rfl ?_
    refine XS.aloadN X51.here hx rfl (hb hby dn_136) rfl rfl ?_
    refine st52 _ ?_
    refine XS.iload X52.here hx rfl (hb hby dn_140) rfl ?_
    refine XS.isub X52.here hx rfl (hb hby dn_142) rfl ?_
    refine st54 _ ?_
    refine XS.aloadN X54.here hx rfl (hb hby dn_146) rfl rfl ?_
    refine st56 _ ?_
    refine XS.iload X56.here hx rfl (hb hby dn_150) rfl ?_
    refine XS.aloadN X56.here hx rfl (hb hby dn_152) rfl rfl ?_
    refine st58 _ ?_
    refine XS.imul X58.here hx rfl (hb hby dn_156) rfl ?_
    refine XS.aloadN X58.here hx rfl (hb hby dn_157) rfl rfl ?_
    refine st59 _ ?_
    refine XS.iload X59.here hx rfl (hb hby dn_161) rfl ?_
    refine XS.iconst X59.here hx rfl (hb hby dn_163) ?_
    refine XS.iadd X59.here hx rfl (hb hby dn_164) rfl ?_
    refine XS.aloadN X59.here hx rfl (hb hby dn_165) rfl rfl ?_
    refine st60 _ ?_
    refine XS.imul X60.here hx rfl (hb hby dn_169) rfl ?_
    refine XS.aloadN X60.here hx rfl (hb hby dn_170) rfl rfl ?_
    refine st62 _ ?_
    refine XS.iload X62.here hx rfl (hb hby dn_174) rfl ?_
    refine XS.isub X62.here hx rfl (hb hby dn_176) rfl ?_
    refine XS.aloadN X62.here hx rfl (hb hby dn_177) rfl rfl ?_
    refine st63 _ ?_
    refine XS.imul X63.here hx rfl (hb hby dn_181) rfl ?_
    refine st65 _ ?_
    refine XS.aloadN X65.here hx rfl (hb hby dn_185) rfl rfl ?_
    refine st67 _ ?_
    refine XS.iload X67.here hx rfl (hb hby dn_189) rfl ?_
    refine XS.aloadN X67.here hx rfl (hb hby dn_191) rfl rfl ?_
    refine st68 _ ?_
    refine XS.iload X68.here hx rfl (hb hby dn_195) rfl ?_
    refine XS.iconst X68.here hx rfl (hb hby dn_197) ?_
    refine XS.iadd X68.here hx rfl (hb hby dn_198) rfl ?_
    refine XS.aloadN X68.here hx rfl (hb hby dn_199) rfl rfl ?_
    refine st70 _ ?_
    refine XS.iload X70.here hx rfl (hb hby dn_203) rfl ?_
    refine XS.isub X70.here hx rfl (hb hby dn_205) rfl ?_
    refine st72 _ ?_
    refine XS.aloadN X72.here hx rfl (hb hby dn_209) rfl rfl ?_
    refine st74 _ ?_
    refine XS.iload X74.here hx rfl (hb hby dn_213) rfl ?_
    refine XS.lloadN X74.here hx rfl (hb hby dn_215) rfl ?_
    refine st77 _ ?_
    refine XS.aloadN X77.here hx rfl (hb hby dn_217) rfl rfl ?_
    refine st79 _ ?_
    refine XS.iload X79.here hx rfl (hb hby dn_221) rfl ?_
    refine XS.aloadN X79.here hx rfl (hb hby dn_223) rfl rfl ?_
    refine st81 _ ?_
    refine XS.imul X81.here hx rfl (hb hby dn_227) rfl ?_
    refine XS.iload X81.here hx rfl (hb hby dn_228) rfl ?_
    refine XS.iconst X81.here hx rfl (hb hby dn_230) ?_
    refine XS.iadd X81.here hx rfl (hb hby dn_231) rfl ?_
    refine XS.aloadN X81.here hx rfl (hb hby dn_232) rfl rfl ?_
    refine st82 _ ?_
    refine XS.imul X82.here hx rfl (hb hby dn_236) rfl ?_
    refine XS.lconst X82.here hx rfl (hb hby dn_237) ?_
    refine st84 _ ?_
    refine XS.aloadN X84.here hx rfl (hb hby dn_241) rfl rfl ?_
    refine XS.dup X84.here hx rfl (hb hby dn_242) rfl rfl ?_
    refine st86 _ ?_
    refine XS.iconst X86.here hx rfl (hb hby dn_246) ?_
    refine XS.iadd X86.here hx rfl (hb hby dn_247) rfl ?_
    refine st88 _ ?_
    refine XS.iload X88.here hx rfl (hb hby dn_251) rfl ?_
    show SS p e below T88 (mkF m 253 #[vr o0, vi 1, vl y1, sd, vi 1, vi 1, vi 2] [(.int (1 : Int32))]) _
    exact retI X88 hx Bd.returns (hb hby dn_253) lhr
  · skip
    show QA92 Z o0 y1 o2 y3 kk_o2 o4 y5 kk_o4 o6 kk_o6 h0 n0 _ T88.heap _
    rw [e88]
    exact ⟨b10_0, b23_0, b37_0, _, _, _, rfl, N88, K88, sz_b10_0, sz_b23_0, sz_b37_0, ne_b10_0_b23_0, ne_b10_0_b37_0, ne_b23_0_b37_0, Fw88, f89, f90, f91, f92, f93, f94, f95, f96, f97⟩
def QA99 (Z : State) (o0 : Addr) (y1 : Int64) (y2 : Int64) (kk_o0 : ClassId) (h0 : Heap) (n0 : Nat) (v : Option Value) (h : Heap) (L : List Loc) : Prop := v = none ∧ Fr n0 L ∧ Keep h0 h [o0] ∧ Arv Z h o0 kk_o0 .long (8 : Int32) [(.long y2), (.long (0 : Int64)), (.long (0 : Int64)), (.long (0 : Int64)), (.long ((0 : Int64) + y1)), (.long (0 : Int64)), (.long (0 : Int64)), (.long (0 : Int64))] (.long (0 : Int64))
set_option maxRecDepth 65536 in
set_option maxHeartbeats 40000000 in
theorem rmA99 (l : Launch) (Z : State) (a0 : Array Value) (hw : ∀ d ∈ tables_1, d.before a0 Z = true) (ws : List Jvm.Cond) (o0 : Addr) (y1 : Int64) (y2 : Int64) (kk_o0 : ClassId) (h0 : Heap) (n0 : Nat) (Z0 : n0 ≤ h0.size) (V_o0 : Arv Z h0 o0 kk_o0 .long (8 : Int32) [(.long y2), (.long (0 : Int64)), (.long (0 : Int64)), (.long (0 : Int64)), (.long (0 : Int64)), (.long (0 : Int64)), (.long (0 : Int64)), (.long (0 : Int64))] (.long (0 : Int64))) (g_o0 : n0 ≤ o0) (hq2 : ¬ (y1 = (0 : Int64))) :
    MetFree l mn6 (head1 (Jvm.Cond.code mn6 prog_59_method_3_code 9 none :: ws) ({ frames := 1, cells := 0, slots := 0, locals := 17 } : Room)) (fun a U => a = #[(.ref o0), (.int (4 : Int32)), (.int (4 : Int32)), (.long (0 : Int64)), (.long y1)] ∧ Z.Warmed39 U.vm ∧ U.heap = h0) (fun _ _ _ _ _ => True) (fun _ U oc_ U' => ∃ v L, oc_ = .returned v ∧ QA99 Z o0 y1 y2 kk_o0 h0 n0 v U'.heap L ∧ FrameEnd U oc_ U' L ({ frames := 1, cells := 0, slots := 0, locals := 17 } : Room).cells ({ frames := 1, cells := 0, slots := 0, locals := 17 } : Room).slots) := by
  refine MetFree.of_bodySF (plainFor_of_name pn_com_example_strict_limiter_strictlimiter_WindowRecord) hisR ?_
  intro p e s m args below meth c s₁ Bd hml0 hP hK
  obtain ⟨rfl, hZ, hh⟩ := hP
  have hx := Bd.exec
  have hby := Bd.bytes
  have hml : c.maxLocals = 9 := hml0
  have hown : s.vm.findClass cn1 = some m.cls := findClass_of_methodNamed Bd.named
  have hnm := (name_of_methodNamed Bd.named Bd.method).1
  have X0 : Stand p l e ({ frames := 1, cells := 0, slots := 0, locals := 17 } : Room) s m #[(.ref o0), (.int (4 : Int32)), (.int (4 : Int32)), (.long (0 : Int64)), (.long y1)] below meth c s₁ [] 0 0 := Stand.of_body Bd
  have e0 : s₁.heap = h0 := by rw [← hh, Bd.state]; rfl
  have N0 := Fr.nil n0
  have pre0 : ∀ t, SS p e below s₁ (mkF m 0 #[vr o0, vi 4, vi 4, vl 0, sd, vl y1, sd, un, un] []) t → Steps p.tables e below (s₁.setTop (entryFrame m #[(.ref o0), (.int (4 : Int32)), (.int (4 : Int32)), (.long (0 : Int64)), (.long y1)] 9)) t := fun t k => castTop (efa_prog_59_method_3_code_vvvvv m o0 (4 : Int32) (4 : Int32) (0 : Int64) y1) k
  obtain ⟨EN, hEN⟩ : ∃ z, z = s₁.setTop (entryFrame m #[(.ref o0), (.int (4 : Int32)), (.int (4 : Int32)), (.long (0 : Int64)), (.long y1)] 9) := ⟨_, rfl⟩
  rw [← hEN] at pre0
  obtain ⟨cl1, Ar1, q1, S1, M1, HH1, GG1⟩ := id V_o0
  have hin1 : ¬ ((4 : Int32) < 0 ∨ cl1.slots.size ≤ ((4 : Int32)).toNatClampNeg) := inb_of S1 ⟨by decide, by decide⟩
  have hat1 : cl1.slots[((4 : Int32)).toNatClampNeg]? = some (.long (0 : Int64)) := Has.at HH1 hin1 rfl
  obtain ⟨cl2, Ar2, q2, S2, M2, HH2, GG2⟩ := id V_o0
  have hin2 : ¬ ((4 : Int32) < 0 ∨ cl2.slots.size ≤ ((4 : Int32)).toNatClampNeg) := inb_of S2 ⟨by decide, by decide⟩
  obtain ⟨T3, h3, X3, e3, W3, st3⟩ := stJ X0 hx hZ e0 Ar2 (j := (4 : Int32)) hin2 (g := (mkF m 16 #[vr o0, vi 4, vi 4, vl 0, sd, vl y1, sd, vl 0, sd] [(.long ((0 : Int64) + y1)), (.int (4 : Int32)), (.ref o0)])) rfl rfl (hb hby db_16)
  have N3 := Fr.snoc X3 N0 g_o0
  have Z3 : n0 ≤ h3.size := by rw [W3.size]; exact Z0
  have K3 : Keep h0 h3 [o0] := ((Keep.refl h0 [o0]).wr W3 (Or.inl (List.mem_of_getElem? (i := 0) rfl)))
  have V3 := Arv.set Ar2 q2 S2 M2 HH2 GG2 rfl W3 4 rfl (Nat.le_of_ble_eq_true rfl)
  obtain ⟨cl4, Ar4, q4, S4, M4, HH4, GG4⟩ := id V3
  have hin4 : ¬ ((5 : Int32) < 0 ∨ cl4.slots.size ≤ ((5 : Int32)).toNatClampNeg) := inb_of S4 ⟨by decide, by decide⟩
  obtain ⟨T5, h5, X5, e5, W5, st5⟩ := stJ X3 hx hZ e3 Ar4 (j := (5 : Int32)) hin4 (g := (mkF m 42 #[vr o0, vi 4, vi 4, vl 0, sd, vl y1, sd, vl 0, sd] [(.long (0 : Int64)), (.int (5 : Int32)), (.ref o0)])) rfl rfl (hb hby db_42)
  have N5 := Fr.snoc X5 N3 g_o0
  have Z5 : n0 ≤ h5.size := by rw [W5.size]; exact Z3
  have K5 := (K3.wr W5 (Or.inl (List.mem_of_getElem? (i := 0) rfl)))
  have V5 := Arv.set Ar4 q4 S4 M4 HH4 GG4 rfl W5 5 rfl (Nat.le_of_ble_eq_true rfl)
  obtain ⟨cl6, Ar6, q6, S6, M6, HH6, GG6⟩ := id V5
  have hin6 : ¬ ((6 : Int32) < 0 ∨ cl6.slots.size ≤ ((6 : Int32)).toNatClampNeg) := inb_of S6 ⟨by decide, by decide⟩
  obtain ⟨T7, h7, X7, e7, W7, st7⟩ := stJ X5 hx hZ e5 Ar6 (j := (6 : Int32)) hin6 (g := (mkF m 48 #[vr o0, vi 4, vi 4, vl 0, sd, vl y1, sd, vl 0, sd] [(.long (0 : Int64)), (.int (6 : Int32)), (.ref o0)])) rfl rfl (hb hby db_48)
  have N7 := Fr.snoc X7 N5 g_o0
  have Z7 : n0 ≤ h7.size := by rw [W7.size]; exact Z5
  have K7 := (K5.wr W7 (Or.inl (List.mem_of_getElem? (i := 0) rfl)))
  have V7 := Arv.set Ar6 q6 S6 M6 HH6 GG6 rfl W7 6 rfl (Nat.le_of_ble_eq_true rfl)
  obtain ⟨cl8, Ar8, q8, S8, M8, HH8, GG8⟩ := id V7
  have hin8 : ¬ ((7 : Int32) < 0 ∨ cl8.slots.size ≤ ((7 : Int32)).toNatClampNeg) := inb_of S8 ⟨by decide, by decide⟩
  obtain ⟨T9, h9, X9, e9, W9, st9⟩ := stJ X7 hx hZ e7 Ar8 (j := (7 : Int32)) hin8 (g := (mkF m 54 #[vr o0, vi 4, vi 4, vl 0, sd, vl y1, sd, vl 0, sd] [(.long (0 : Int64)), (.int (7 : Int32)), (.ref o0)])) rfl rfl (hb hby db_54)
  have N9 := Fr.snoc X9 N7 g_o0
  have Z9 : n0 ≤ h9.size := by rw [W9.size]; exact Z7
  have K9 := (K7.wr W9 (Or.inl (List.mem_of_getElem? (i := 0) rfl)))
  have V9 := Arv.set Ar8 q8 S8 M8 HH8 GG8 rfl W9 7 rfl (Nat.le_of_ble_eq_true rfl)
  obtain ⟨cl10, Ar10, q10, S10, M10, HH10, GG10⟩ := id V9
  have hin10 : ¬ ((5 : Int32) < 0 ∨ cl10.slots.size ≤ ((5 : Int32)).toNatClampNeg) := inb_of S10 ⟨by decide, by decide⟩
  have hat10 : cl10.slots[((5 : Int32)).toNatClampNeg]? = some (.long (0 : Int64)) := Has.at HH10 hin10 rfl
  obtain ⟨_, _, ⟨T11, L11, kc11, ks11⟩, -, X11, ⟨Lc11, hQ11, l11, y11, z11⟩, st11⟩ := Jvm.LawKit.callS X9 hx (y := mn9) hown (mvT hZ (wd69 hw)) (mvT hZ (wd70 hw)) (mvT hZ (wd51 hw)) (mvT hZ (wd71 hw)) (by decide) (backOf (W := 2) (rmA26 l Z a0 hw []  h9 n0 Z9 ) hZ (wd71 hw) (wd51 hw) (by decide) (by decide)) (g := (mkF m 131 #[vr o0, vi 4, vi 4, vl 0, sd, vl y1, sd, vl 0, sd] [(.long (0 : Int64)), (.long (0 : Int64)), (.int (5 : Int32)), (.ref o0)])) rfl (by rw [hml]; rfl) (argsL := [(.long (0 : Int64)), (.long (0 : Int64))]) (rest := [(.int (5 : Int32)), (.ref o0)]) (lenOf pd__JJ_J rfl) rfl (by show 2 * 0 + _ ≤ _; exact Nat.le_of_eq rfl) (hb hby db_131) (fun _ _ => ⟨rfl, e9, (by decide : 0 + 0 ≤ _), (by decide : 0 + 0 ≤ _)⟩)
  dsimp only [Pt.U, Pt.locs, Pt.cells, Pt.slots] at X11 l11 y11 z11 st11 hQ11
  subst l11 y11 z11
  obtain ⟨rfl, Nq11, eq11⟩ := hQ11
  have N11 := Fr.app N9 Nq11
  obtain ⟨cl12, Ar12, q12, S12, M12, HH12, GG12⟩ := id V9
  have hin12 : ¬ ((5 : Int32) < 0 ∨ cl12.slots.size ≤ ((5 : Int32)).toNatClampNeg) := inb_of S12 ⟨by decide, by decide⟩
  obtain ⟨T13, h13, X13, e13, W13, st13⟩ := stJ X11 hx hZ eq11 Ar12 (j := (5 : Int32)) hin12 (g := (mkF m 134 #[vr o0, vi 4, vi 4, vl 0, sd, vl y1, sd, vl 0, sd] [(.long (0 : Int64)), (.int (5 : Int32)), (.ref o0)])) rfl rfl (hb hby db_134)
  have N13 := Fr.snoc X13 N11 g_o0
  have Z13 : n0 ≤ h13.size := by rw [W13.size]; exact Z9
  have K13 := (K9.wr W13 (Or.inl (List.mem_of_getElem? (i := 0) rfl)))
  have V13 := Arv.set Ar12 q12 S12 M12 HH12 GG12 rfl W13 5 rfl (Nat.le_of_ble_eq_true rfl)
  subst hEN
  obtain ⟨lfs, lhr, lhrun, lhended, lhW, lhsame⟩ := X13.leave (v := none) (fun _ => rfl)
  refine ⟨_, _, pre0 _ ?_, lhrun, lhended, _, _, rfl, ?_, ⟨_, rfl⟩, lhW, lhsame.mono (by decide) (by decide)⟩
  · skip
    refine XS.aloadN X0.here hx rfl (hb hby db_0) rfl rfl ?_
    refine XS.iloadN X0.here hx rfl (hb hby db_1) rfl ?_
    refine XS.iconst X0.here hx rfl (hb hby db_2) ?_
    refine XS.iadd X0.here hx rfl (hb hby db_3) rfl ?_
    refine X0.laload hx (j := (4 : Int32)) (v := (.long (0 : Int64))) (by (try rw [e0]); exact Ar1.1) (State.isArrayOf_alike hZ.alike Ar1.2.1) Ar1.2.2 hin1 hat1 (g := (mkF m 4 #[vr o0, vi 4, vi 4, vl 0, sd, vl y1, sd, un, un] [(.int (4 : Int32)), (.ref o0)])) rfl rfl (hb hby db_4) _ ?_
    refine XS.lstore X0.here hx rfl (hb hby db_5) rfl (l' := #[vr o0, vi 4, vi 4, vl 0, sd, vl y1, sd, vl 0, sd]) rfl ?_
    refine XS.aloadN X0.here hx rfl (hb hby db_7) rfl rfl ?_
    refine XS.iloadN X0.here hx rfl (hb hby db_8) rfl ?_
    refine XS.iconst X0.here hx rfl (hb hby db_9) ?_
    refine XS.iadd X0.here hx rfl (hb hby db_10) rfl ?_
    refine XS.lload X0.here hx rfl (hb hby db_11) rfl ?_
    refine XS.lload X0.here hx rfl (hb hby db_13) rfl ?_
    refine XS.ladd X0.here hx rfl (hb hby db_15) rfl ?_
    show SS p e below s₁ (mkF m 16 #[vr o0, vi 4, vi 4, vl 0, sd, vl y1, sd, vl 0, sd] [(.long ((0 : Int64) + y1)), (.int (4 : Int32)), (.ref o0)]) _
    refine st3 _ ?_
    refine XS.iloadN X3.here hx rfl (hb hby db_17) rfl ?_
    refine XS.iconst X3.here hx rfl (hb hby db_18) ?_
    refine XS.icmpNo X3.here hx rfl (hb hby db_19) rfl (teq (by decide : (4 : Int32) = (4 : Int32))).2 ?_
    refine XS.lload X3.here hx rfl (hb hby db_22) rfl ?_
    refine XS.lconst X3.here hx rfl (hb hby db_24) ?_
    refine XS.lcmp X3.here hx rfl (hb hby db_25) rfl ?_
    refine XS.ifYes X3.here hx rfl (pc0 := 26) (pc' := 30) rfl (hb hby db_26) rfl ((if0 _ _).trans (feq (fun q => hq2 ((lw_eq y1 (0 : Int64)).mp q))).2) (by decide) (by decide) ?_
    refine XS.lload X3.here hx rfl (hb hby db_30) rfl ?_
    show SS p e below T3 (mkF m 32 #[vr o0, vi 4, vi 4, vl 0, sd, vl y1, sd, vl 0, sd] [(.long (0 : Int64))]) _
    refine XS.lconst X3.here hx rfl (hb hby db_32) ?_
    refine XS.lcmp X3.here hx rfl (hb hby db_33) rfl ?_
    refine XS.ifNo X3.here hx rfl (hb hby db_34) rfl ((if0 _ _).trans (teq ((lw_eq (0 : Int64) (0 : Int64)).mpr (by decide : (0 : Int64) = (0 : Int64)))).2) ?_
    refine XS.aloadN X3.here hx rfl (hb hby db_37) rfl rfl ?_
    refine XS.iloadN X3.here hx rfl (hb hby db_38) rfl ?_
    refine XS.iconst X3.here hx rfl (hb hby db_39) ?_
    refine XS.iadd X3.here hx rfl (hb hby db_40) rfl ?_
    refine XS.lloadN X3.here hx rfl (hb hby db_41) rfl ?_
    show SS p e below T3 (mkF m 42 #[vr o0, vi 4, vi 4, vl 0, sd, vl y1, sd, vl 0, sd] [(.long (0 : Int64)), (.int (5 : Int32)), (.ref o0)]) _
    refine st5 _ ?_
    refine XS.aloadN X5.here hx rfl (hb hby db_43) rfl rfl ?_
    refine XS.iloadN X5.here hx rfl (hb hby db_44) rfl ?_
    refine XS.iconst X5.here hx rfl (hb hby db_45) ?_
    refine XS.iadd X5.here hx rfl (hb hby db_46) rfl ?_
    refine XS.lloadN X5.here hx rfl (hb hby db_47) rfl ?_
    refine st7 _ ?_
    refine XS.aloadN X7.here hx rfl (hb hby db_49) rfl rfl ?_
    refine XS.iloadN X7.here hx rfl (hb hby db_50) rfl ?_
    refine XS.iconst X7.here hx rfl (hb hby db_51) ?_
    refine XS.iadd X7.here hx rfl (hb hby db_52) rfl ?_
    refine XS.lloadN X7.here hx rfl (hb hby db_53) rfl ?_
    refine st9 _ ?_
    refine XS.goto X9.here hx rfl (pc0 := 55) (pc' := 121) rfl (hb hby db_55) (by decide) (by decide) ?_
    refine XS.aloadN X9.here hx rfl (hb hby db_121) rfl rfl ?_
    refine XS.iloadN X9.here hx rfl (hb hby db_122) rfl ?_
    refine XS.iconst X9.here hx rfl (hb hby db_123) ?_
    refine XS.iadd X9.here hx rfl (hb hby db_124) rfl ?_
    refine XS.aloadN X9.here hx rfl (hb hby db_125) rfl rfl ?_
    refine XS.iloadN X9.here hx rfl (hb hby db_126) rfl ?_
    refine XS.iconst X9.here hx rfl (hb hby db_127) ?_
    show SS p e below T9 (mkF m 128 #[vr o0, vi 4, vi 4, vl 0, sd, vl y1, sd, vl 0, sd] [(.int (1 : Int32)), (.int (4 : Int32)), (.ref o0), (.int (5 : Int32)), (.ref o0)]) _
    refine XS.iadd X9.here hx rfl (hb hby db_128) rfl ?_
    refine X9.laload hx (j := (5 : Int32)) (v := (.long (0 : Int64))) (by (try rw [e9]); exact Ar10.1) (State.isArrayOf_alike hZ.alike Ar10.2.1) Ar10.2.2 hin10 hat10 (g := (mkF m 129 #[vr o0, vi 4, vi 4, vl 0, sd, vl y1, sd, vl 0, sd] [(.int (5 : Int32)), (.ref o0), (.int (5 : Int32)), (.ref o0)])) rfl rfl (hb hby db_129) _ ?_
    refine XS.lloadN X9.here hx rfl (hb hby db_130) rfl ?_
    refine st11 _ ?_
    refine st13 _ ?_
    show SS p e below T13 (mkF m 135 #[vr o0, vi 4, vi 4, vl 0, sd, vl y1, sd, vl 0, sd] []) _
    exact X13.returnOut hx Bd.returns (hb hby db_135) lhr
  · skip
    show QA99 Z o0 y1 y2 kk_o0 h0 n0 _ T13.heap _
    rw [e13]
    exact ⟨rfl, N13, K13, V13⟩
theorem ef_Ad5 (m : MethodId) (x0 : Addr) (x1 : Int64) (x2 : Int64) (x3 : Int64) (x4 : Int64) : entryFrame m #[(.ref x0), (.long x1), (.long x2), (.long x3), (.long x4)] 10 = mkF m 0 #[vr x0, vl x1, sd, vl x2, sd, vl x3, sd, vl x4, sd, un] [] := by first | (simp [entryFrame, mkF, argsToLocals, Value.category]; done) | rfl
def QAd5 (Z : State) (kw : Addr) (yy : Int64) (yc : Int64) (sA : Addr) (rA : Addr) (dA : Addr) (ksA : ClassId) (krA : ClassId) (kdA : ClassId) (yx : Int64) (c0 : Int64) (wd : Int32) (h0 : Heap) (n0 : Nat) (v : Option Value) (h : Heap) (L : List Loc) : Prop := ∃ (sB dB : Addr) (ksB kdB : ClassId), v = none ∧ Fr n0 L ∧ Keep h0 h [kw] ∧ h0.size ≤ sB ∧ h0.size ≤ dB ∧ sB ≠ dB ∧ Exa Z h kw cn2 ∧ Fld Z h kw cn2 "starts" "[J" (.ref sB) ∧ Fld Z h kw cn2 "decidedAt" "[J" (.ref dB) ∧ Fld Z h kw cn2 "first" "I" (.int (0 : Int32)) ∧ Fld Z h kw cn2 "end" "I" (.int (2 : Int32)) ∧ Arv Z h sB ksB .long (2 : Int32) [(.long yx), (.long yy)] (.long (0 : Int64)) ∧ Arv Z h dB kdB .long (2 : Int32) [(.long (0 : Int64)), (.long (0 : Int64))] (.long (0 : Int64))
set_option maxRecDepth 65536 in
set_option maxHeartbeats 40000000 in
theorem rmAd5 (l : Launch) (Z : State) (a0 : Array Value) (hw : ∀ d ∈ tables_1, d.before a0 Z = true) (ws : List Jvm.Cond) (kw : Addr) (yy : Int64) (yc : Int64) (sA : Addr) (rA : Addr) (dA : Addr) (ksA : ClassId) (krA : ClassId) (kdA : ClassId) (yx : Int64) (c0 : Int64) (wd : Int32) (h0 : Heap) (n0 : Nat) (Z0 : n0 ≤ h0.size) (g_k : n0 ≤ kw) (E_k : Exa Z h0 kw cn2) (F_s : Fld Z h0 kw cn2 "starts" "[J" (.ref sA)) (F_r : Fld Z h0 kw cn2 "records" "[J" (.ref rA)) (F_d : Fld Z h0 kw cn2 "decidedAt" "[J" (.ref dA)) (F_1 : Fld Z h0 kw cn2 "first" "I" (.int (0 : Int32))) (F_e : Fld Z h0 kw cn2 "end" "I" (.int (1 : Int32))) (F_w : Fld Z h0 kw cn2 "width" "I" (.int wd)) (V_s : Arv Z h0 sA ksA .long (1 : Int32) [(.long yx)] (.long (0 : Int64))) (hr : ((wd = (1 : Int32) ∧ Arv Z h0 rA krA .long (1 : Int32) [(.long c0)] (.long (0 : Int64))) ∨ (wd = (4 : Int32) ∧ Arv Z h0 rA krA .long (4 : Int32) [(.long c0), (.long (0 : Int64)), (.long (0 : Int64)), (.long (0 : Int64))] (.long (0 : Int64))))) (V_d : Arv Z h0 dA kdA .long (1 : Int32) [(.long (0 : Int64))] (.long (0 : Int64))) (g_r : n0 ≤ rA) (g_d : n0 ≤ dA) (hc0 : ¬ c0 = (0 : Int64)) (n_kw_sA : kw ≠ sA) (n_kw_rA : kw ≠ rA) (n_kw_dA : kw ≠ dA) (n_sA_rA : sA ≠ rA) (n_sA_dA : sA ≠ dA) (n_rA_dA : rA ≠ dA) (hpos : (0 : Int64) < yc) (ho : yx < yy) :
    MetFree l mn1 (head1 (Jvm.Cond.code mn1 prog_23_method_5_code 10 none :: ws) ({ frames := 5, cells := 3, slots := 12, locals := 150 } : Room)) (fun a U => a = #[(.ref kw), (.long yy), (.long (0 : Int64)), (.long yc), (.long (0 : Int64))] ∧ Z.Warmed39 U.vm ∧ U.heap = h0) (fun _ _ _ _ _ => True) (fun _ U oc_ U' => ∃ v L, oc_ = .returned v ∧ QAd5 Z kw yy yc sA rA dA ksA krA kdA yx c0 wd h0 n0 v U'.heap L ∧ FrameEnd U oc_ U' L ({ frames := 5, cells := 3, slots := 12, locals := 150 } : Room).cells ({ frames := 5, cells := 3, slots := 12, locals := 150 } : Room).slots) := by
  refine MetFree.of_bodySF (plainFor_of_name pn_com_example_strict_limiter_strictlimiter_KeptWindows) hisR ?_
  intro p e s m args below meth c s₁ Bd hml0 hP hK
  obtain ⟨rfl, hZ, hh⟩ := hP
  have hx := Bd.exec
  have hby := Bd.bytes
  have hml : c.maxLocals = 10 := hml0
  have hown : s.vm.findClass cn2 = some m.cls := findClass_of_methodNamed Bd.named
  have hnm := (name_of_methodNamed Bd.named Bd.method).1
  have X0 : Stand p l e ({ frames := 5, cells := 3, slots := 12, locals := 150 } : Room) s m #[(.ref kw), (.long yy), (.long (0 : Int64)), (.long yc), (.long (0 : Int64))] below meth c s₁ [] 0 0 := Stand.of_body Bd
  have e0 : s₁.heap = h0 := by rw [← hh, Bd.state]; rfl
  have N0 := Fr.nil n0
  have pre0 : ∀ t, SS p e below s₁ (mkF m 0 #[vr kw, vl yy, sd, vl 0, sd, vl yc, sd, vl 0, sd, un] []) t → Steps p.tables e below (s₁.setTop (entryFrame m #[(.ref kw), (.long yy), (.long (0 : Int64)), (.long yc), (.long (0 : Int64))] 10)) t := fun t k => castTop (ef_Ad5 m kw yy (0 : Int64) yc (0 : Int64)) k
  obtain ⟨EN, hEN⟩ : ∃ z, z = s₁.setTop (entryFrame m #[(.ref kw), (.long yy), (.long (0 : Int64)), (.long yc), (.long (0 : Int64))] 10) := ⟨_, rfl⟩
  rw [← hEN] at pre0
  have hne : ¬ yc = (0 : Int64) := fun q => by rw [q] at hpos; exact absurd hpos (by decide)
  have hox : ¬ yy < yx := fun q => by rw [Int64.lt_iff_toInt_lt] at q ho; omega
  have hoe : ¬ yx = yy := fun q => by rw [q] at ho; exact own_irr64 _ ho
  rcases hr with ⟨ew, V_r⟩ | ⟨ew, V_r⟩
  · skip
    have F_wl : Fld Z h0 kw cn2 "width" "I" (.int (1 : Int32)) := by rw [← ew]; exact F_w
    obtain ⟨T1, X1, e1, st1⟩ := getF X0 hx hZ hown (wf11 hw) Via.refl e0 F_s (g := (mkF m 1 #[vr kw, vl yy, sd, vl 0, sd, vl yc, sd, vl 0, sd, un] [(.ref kw)])) rfl rfl (hb hby dk_1)
    obtain ⟨T2, X2, e2, st2⟩ := getF X1 hx hZ hown (wf24 hw) Via.refl e1 F_1 (g := (mkF m 5 #[vr kw, vl yy, sd, vl 0, sd, vl yc, sd, vl 0, sd, un] [(.ref kw), (.ref sA)])) rfl rfl (hb hby dk_5)
    obtain ⟨T3, X3, e3, st3⟩ := getF X2 hx hZ hown (wf26 hw) Via.refl e2 F_e (g := (mkF m 9 #[vr kw, vl yy, sd, vl 0, sd, vl yc, sd, vl 0, sd, un] [(.ref kw), (.int (0 : Int32)), (.ref sA)])) rfl rfl (hb hby dk_9)
    obtain ⟨_, _, ⟨T4, L4, kc4, ks4⟩, -, X4, ⟨Lc4, hQ4, l4, y4, z4⟩, st4⟩ := Jvm.LawKit.callS X3 hx (y := mn10) hown (mvT hZ (wd35 hw)) (mvT hZ (wd36 hw)) (mvT hZ (wd37 hw)) (mvT hZ (wd38 hw)) (by decide) (backOf (W := 0) (rmA38 l Z a0 hw [] sA yy yx _ h0 n0 Z0 V_s ho) hZ (wd38 hw) (wd37 hw) (by decide) (by decide)) (g := (mkF m 13 #[vr kw, vl yy, sd, vl 0, sd, vl yc, sd, vl 0, sd, un] [(.long yy), (.int (1 : Int32)), (.int (0 : Int32)), (.ref sA)])) rfl (by rw [hml]; rfl) (argsL := [(.ref sA), (.int (0 : Int32)), (.int (1 : Int32)), (.long yy)]) (rest := []) (lenOf pd___JIIJ_I rfl) rfl (by show 2 * 0 + _ ≤ _; exact Nat.le_of_eq rfl) (hb hby dk_13) (fun _ _ => ⟨rfl, e3, (by decide : 0 + 0 ≤ _), (by decide : 0 + 0 ≤ _)⟩)
    dsimp only [Pt.U, Pt.locs, Pt.cells, Pt.slots] at X4 l4 y4 z4 st4 hQ4
    subst l4 y4 z4
    obtain ⟨rfl, Nq4, eq4⟩ := hQ4
    have N4 := Fr.app N0 Nq4
    obtain ⟨cq5, q5, q5'⟩ := E_k.cell
    obtain ⟨_, _, ⟨T5, L5, kc5, ks5⟩, -, X5, ⟨Lc5, hQ5, l5, y5, z5⟩, st5⟩ := X4.privateBack hx (y := mn4) hown (mvT hZ (wd45 hw)) (mvT hZ (wd46 hw)) (own_selPriv (mvT hZ (wd1 hw)) (Cond.privateMethod_at (mvP hZ (wd47 hw) (args := #[]))) (mvT hZ (wd46 hw)) (by decide)) (Cond.privateMethod_at (mvP hZ (wd47 hw) (args := #[]))) (mvT hZ (wd48 hw)) (by decide) (backOf (W := 0) (rmA81 l Z a0 hw [] kw yy sA yx _ rA c0 _ dA _ h0 n0 Z0 F_e F_s V_s F_1 E_k g_k F_r F_wl V_r (Ne.symm n_kw_rA) (Ne.symm n_kw_sA) F_d V_d (Ne.symm n_kw_dA)) hZ (wd48 hw) (wd2 hw) (by decide) (by decide)) (g := (mkF m 37 #[vr kw, vl yy, sd, vl 0, sd, vl yc, sd, vl 0, sd, vi (-2)] [(.long yy), (.int (1 : Int32)), (.ref kw)])) rfl (by rw [hml]; rfl) (Steps.refl _) (a := kw) (by rw [eq4]; exact q5) q5' (argsL := [(.int (1 : Int32)), (.long yy)]) (rest := []) (lenOf pd__IJ_I rfl) rfl (by show 2 * 0 + _ ≤ _; exact Nat.le_of_eq rfl) (hb hby dk_37) (fun _ _ => ⟨rfl, eq4, (by decide : 0 + 3 ≤ _), (by decide : 0 + 6 ≤ _)⟩)
    dsimp only [Pt.U, Pt.locs, Pt.cells, Pt.slots] at X5 l5 y5 z5 st5 hQ5
    subst l5 y5 z5
    obtain ⟨b5_0, b5_1, b5_2, kv5_3, kv5_4, kv5_5, rfl, Nq5, Kq5, sz5_0, sz5_1, sz5_2, g5_0, g5_1, g5_2, g5_3, g5_4, g5_5, g5_6, g5_7, g5_8, g5_9, g5_10, g5_11, g5_12⟩ := hQ5
    have N5 := Fr.app N4 Nq5
    have Z5 := Nat.le_trans Z0 Kq5.1
    have K5 : Keep h0 T5.heap [kw] := Keep.trans (Keep.refl h0 [kw]) Kq5 (allS (Or.inl (List.mem_of_getElem? (i := 0) rfl)) all0)
    have ne_kw_b5_0 := own_ne E_k.lt sz5_0
    have ne_sA_b5_0 := own_ne V_s.lt sz5_0
    have ne_rA_b5_0 := own_ne V_r.lt sz5_0
    have ne_dA_b5_0 := own_ne V_d.lt sz5_0
    have ge_b5_0 := Nat.le_trans Z0 sz5_0
    have sz_b5_0 : h0.size ≤ b5_0 := Nat.le_trans (Nat.le_refl _) sz5_0
    have ne_kw_b5_1 := own_ne E_k.lt sz5_1
    have ne_sA_b5_1 := own_ne V_s.lt sz5_1
    have ne_rA_b5_1 := own_ne V_r.lt sz5_1
    have ne_dA_b5_1 := own_ne V_d.lt sz5_1
    have ge_b5_1 := Nat.le_trans Z0 sz5_1
    have sz_b5_1 : h0.size ≤ b5_1 := Nat.le_trans (Nat.le_refl _) sz5_1
    have ne_kw_b5_2 := own_ne E_k.lt sz5_2
    have ne_sA_b5_2 := own_ne V_s.lt sz5_2
    have ne_rA_b5_2 := own_ne V_r.lt sz5_2
    have ne_dA_b5_2 := own_ne V_d.lt sz5_2
    have ge_b5_2 := Nat.le_trans Z0 sz5_2
    have sz_b5_2 : h0.size ≤ b5_2 := Nat.le_trans (Nat.le_refl _) sz5_2
    obtain ⟨T6, X6, e6, st6⟩ := getF X5 hx hZ hown (wf13 hw) Via.refl rfl g5_8 (g := (mkF m 48 #[vr kw, vl yy, sd, vl 0, sd, vl yc, sd, vl 0, sd, vi 1] [(.ref kw)])) rfl rfl (hb hby dk_48)
    obtain ⟨T7, X7, e7, st7⟩ := getF X6 hx hZ hown (wf17 hw) Via.refl e6 g5_9 (g := (mkF m 54 #[vr kw, vl yy, sd, vl 0, sd, vl yc, sd, vl 0, sd, vi 1] [(.ref kw), (.int (1 : Int32)), (.ref b5_1)])) rfl rfl (hb hby dk_54)
    obtain ⟨T8, X8, e8, st8⟩ := getF X7 hx hZ hown (wf17 hw) Via.refl e7 g5_9 (g := (mkF m 59 #[vr kw, vl yy, sd, vl 0, sd, vl yc, sd, vl 0, sd, vi 1] [(.ref kw), (.int (1 : Int32)), (.ref b5_1)])) rfl rfl (hb hby dk_59)
    obtain ⟨_, _, ⟨T9, L9, kc9, ks9⟩, -, X9, ⟨Lc9, hQ9, l9, y9, z9⟩, st9⟩ := Jvm.LawKit.callS X8 hx (y := mn6) hown (mvT hZ (wd65 hw)) (mvT hZ (wd66 hw)) (mvT hZ (wd67 hw)) (mvT hZ (wd68 hw)) (by decide) (backOf (W := 0) (rmA88 l Z a0 hw [] b5_1 yc c0 _ T5.heap n0 Z5 g5_10 ge_b5_1) hZ (wd68 hw) (wd67 hw) (by decide) (by decide)) (g := (mkF m 65 #[vr kw, vl yy, sd, vl 0, sd, vl yc, sd, vl 0, sd, vi 1] [(.long yc), (.long (0 : Int64)), (.int (1 : Int32)), (.int (1 : Int32)), (.ref b5_1)])) rfl (by rw [hml]; rfl) (argsL := [(.ref b5_1), (.int (1 : Int32)), (.int (1 : Int32)), (.long (0 : Int64)), (.long yc)]) (rest := []) (lenOf pd___JIIJJ_V rfl) rfl (by show 2 * 0 + _ ≤ _; exact Nat.le_of_eq rfl) (hb hby dk_65) (fun _ _ => ⟨rfl, e8, (by decide : 3 + 0 ≤ _), (by decide : 6 + 0 ≤ _)⟩)
    dsimp only [Pt.U, Pt.locs, Pt.cells, Pt.slots] at X9 l9 y9 z9 st9 hQ9
    subst l9 y9 z9
    obtain ⟨rfl, Nq9, Kq9, g9_0⟩ := hQ9
    have N9 := Fr.app N5 Nq9
    have Z9 := Nat.le_trans Z5 Kq9.1
    have K9 := Keep.trans K5 Kq9 (allS (Or.inr sz_b5_1) all0)
    have f10 := (g5_11.keep Kq9 (ninS ne_kw_b5_1 nin0))
    obtain ⟨T11, X11, e11, st11⟩ := getF X9 hx hZ hown (wf15 hw) Via.refl rfl f10 (g := (mkF m 69 #[vr kw, vl yy, sd, vl 0, sd, vl yc, sd, vl 0, sd, vi 1] [(.ref kw)])) rfl rfl (hb hby dk_69)
    have f12 := (g5_12.keep Kq9 (ninS (Ne.symm g5_2) nin0))
    obtain ⟨cl13, Ar13, q13, S13, M13, HH13, GG13⟩ := id f12
    have hin13 : ¬ ((1 : Int32) < 0 ∨ cl13.slots.size ≤ ((1 : Int32)).toNatClampNeg) := inb_of S13 ⟨by decide, by decide⟩
    obtain ⟨T14, h14, X14, e14, W14, st14⟩ := stJ X11 hx hZ e11 Ar13 (j := (1 : Int32)) hin13 (g := (mkF m 76 #[vr kw, vl yy, sd, vl 0, sd, vl yc, sd, vl 0, sd, vi 1] [(.long (0 : Int64)), (.int (1 : Int32)), (.ref b5_2)])) rfl rfl (hb hby dk_76)
    have N14 := Fr.snoc X14 N9 ge_b5_2
    have Z14 : n0 ≤ h14.size := by rw [W14.size]; exact Z9
    have K14 := (K9.wr W14 (Or.inr sz_b5_2))
    have V14 := Arv.set Ar13 q13 S13 M13 HH13 GG13 rfl W14 1 rfl (Nat.le_of_ble_eq_true rfl)
    subst hEN
    obtain ⟨lfs, lhr, lhrun, lhended, lhW, lhsame⟩ := X14.leave (v := none) (fun _ => rfl)
    refine ⟨_, _, pre0 _ ?_, lhrun, lhended, _, _, rfl, ?_, ⟨_, rfl⟩, lhW, lhsame.mono (by decide) (by decide)⟩
    · skip
      refine XS.aloadN X0.here hx rfl (hb hby dk_0) rfl rfl ?_
      refine st1 _ ?_
      refine XS.aloadN X1.here hx rfl (hb hby dk_4) rfl rfl ?_
      refine st2 _ ?_
      refine XS.aloadN X2.here hx rfl (hb hby dk_8) rfl rfl ?_
      refine st3 _ ?_
      refine XS.lloadN X3.here hx rfl (hb hby dk_12) rfl ?_
      refine st4 _ ?_
      refine XS.istore X4.here hx rfl (hb hby dk_16) rfl (l' := #[vr kw, vl yy, sd, vl 0, sd, vl yc, sd, vl 0, sd, vi (-2)]) rfl ?_
      refine XS.iload X4.here hx rfl (hb hby dk_18) rfl ?_
      refine XS.ifNo X4.here hx rfl (hb hby dk_20) rfl ((if0 _ _).trans (tlt (by decide : (-2 : Int32) < (0 : Int32))).2.1) ?_
      refine XS.lload X4.here hx rfl (hb hby dk_23) rfl ?_
      refine XS.lconst X4.here hx rfl (hb hby dk_25) ?_
      refine XS.lcmp X4.here hx rfl (hb hby dk_26) rfl ?_
      refine XS.ifNo X4.here hx rfl (hb hby dk_27) rfl ((if0 _ _).trans (tlt ((lw_gt yc (0 : Int64)).mpr hpos)).2.2.2) ?_
      refine XS.aloadN X4.here hx rfl (hb hby dk_30) rfl rfl ?_
      show SS p e below T4 (mkF m 31 #[vr kw, vl yy, sd, vl 0, sd, vl yc, sd, vl 0, sd, vi (-2)] [(.ref kw)]) _
      refine XS.iload X4.here hx rfl (hb hby dk_31) rfl ?_
      refine XS.ineg X4.here hx rfl (hb hby dk_33) rfl ?_
      refine XS.iconst X4.here hx rfl (hb hby dk_34) ?_
      refine XS.isub X4.here hx rfl (hb hby dk_35) rfl ?_
      refine XS.lloadN X4.here hx rfl (hb hby dk_36) rfl ?_
      refine st5.trans ?_
      refine XS.istore X5.here hx rfl (hb hby dk_40) rfl (l' := #[vr kw, vl yy, sd, vl 0, sd, vl yc, sd, vl 0, sd, vi 1]) rfl ?_
      refine XS.iload X5.here hx rfl (hb hby dk_42) rfl ?_
      refine XS.ifNo X5.here hx rfl (hb hby dk_44) rfl ((if0 _ _).trans (flt (by decide : ¬ ((1 : Int32) < (0 : Int32)))).1) ?_
      refine XS.aloadN X5.here hx rfl (hb hby dk_47) rfl rfl ?_
      refine st6 _ ?_
      refine XS.iload X6.here hx rfl (hb hby dk_51) rfl ?_
      refine XS.aloadN X6.here hx rfl (hb hby dk_53) rfl rfl ?_
      refine st7 _ ?_
      refine XS.imul X7.here hx rfl (hb hby dk_57) rfl ?_
      refine XS.aloadN X7.here hx rfl (hb hby dk_58) rfl rfl ?_
      refine st8 _ ?_
      refine XS.lloadN X8.here hx rfl (hb hby dk_62) rfl ?_
      refine XS.lload X8.here hx rfl (hb hby dk_63) rfl ?_
      refine st9 _ ?_
      refine XS.aloadN X9.here hx rfl (hb hby dk_68) rfl rfl ?_
      refine st11 _ ?_
      refine XS.iload X11.here hx rfl (hb hby dk_72) rfl ?_
      refine XS.lload X11.here hx rfl (hb hby dk_74) rfl ?_
      refine st14 _ ?_
      show SS p e below T14 (mkF m 77 #[vr kw, vl yy, sd, vl 0, sd, vl yc, sd, vl 0, sd, vi 1] []) _
      exact X14.returnOut hx Bd.returns (hb hby dk_77) lhr
    · skip
      show QAd5 Z kw yy yc sA rA dA ksA krA kdA yx c0 wd h0 n0 _ T14.heap _
      rw [e14]
      have f15 := ((g5_6.keep Kq9).wr W14)
      have f16 := ((g5_4.keep Kq9 (ninS ne_kw_b5_1 nin0)).other W14 (Or.inl ne_kw_b5_2))
      have f17 := (f10.other W14 (Or.inl ne_kw_b5_2))
      have f18 := ((g5_5.keep Kq9 (ninS ne_kw_b5_1 nin0)).other W14 (Or.inl ne_kw_b5_2))
      have f19 := ((g5_3.keep Kq9 (ninS ne_kw_b5_1 nin0)).other W14 (Or.inl ne_kw_b5_2))
      have f20 := ((g5_7.keep Kq9 (ninS g5_0 nin0)).other W14 g5_1)
      exact ⟨b5_0, b5_2, _, _, rfl, N14, K14, sz_b5_0, sz_b5_2, g5_1, f15, f16, f17, f18, f19, f20, V14⟩
  · skip
    have F_wl : Fld Z h0 kw cn2 "width" "I" (.int (4 : Int32)) := by rw [← ew]; exact F_w
    obtain ⟨T21, X21, e21, st21⟩ := getF X0 hx hZ hown (wf11 hw) Via.refl e0 F_s (g := (mkF m 1 #[vr kw, vl yy, sd, vl 0, sd, vl yc, sd, vl 0, sd, un] [(.ref kw)])) rfl rfl (hb hby dk_1)
    obtain ⟨T22, X22, e22, st22⟩ := getF X21 hx hZ hown (wf24 hw) Via.refl e21 F_1 (g := (mkF m 5 #[vr kw, vl yy, sd, vl 0, sd, vl yc, sd, vl 0, sd, un] [(.ref kw), (.ref sA)])) rfl rfl (hb hby dk_5)
    obtain ⟨T23, X23, e23, st23⟩ := getF X22 hx hZ hown (wf26 hw) Via.refl e22 F_e (g := (mkF m 9 #[vr kw, vl yy, sd, vl 0, sd, vl yc, sd, vl 0, sd, un] [(.ref kw), (.int (0 : Int32)), (.ref sA)])) rfl rfl (hb hby dk_9)
    obtain ⟨_, _, ⟨T24, L24, kc24, ks24⟩, -, X24, ⟨Lc24, hQ24, l24, y24, z24⟩, st24⟩ := Jvm.LawKit.callS X23 hx (y := mn10) hown (mvT hZ (wd35 hw)) (mvT hZ (wd36 hw)) (mvT hZ (wd37 hw)) (mvT hZ (wd38 hw)) (by decide) (backOf (W := 0) (rmA38 l Z a0 hw [] sA yy yx _ h0 n0 Z0 V_s ho) hZ (wd38 hw) (wd37 hw) (by decide) (by decide)) (g := (mkF m 13 #[vr kw, vl yy, sd, vl 0, sd, vl yc, sd, vl 0, sd, un] [(.long yy), (.int (1 : Int32)), (.int (0 : Int32)), (.ref sA)])) rfl (by rw [hml]; rfl) (argsL := [(.ref sA), (.int (0 : Int32)), (.int (1 : Int32)), (.long yy)]) (rest := []) (lenOf pd___JIIJ_I rfl) rfl (by show 2 * 0 + _ ≤ _; exact Nat.le_of_eq rfl) (hb hby dk_13) (fun _ _ => ⟨rfl, e23, (by decide : 0 + 0 ≤ _), (by decide : 0 + 0 ≤ _)⟩)
    dsimp only [Pt.U, Pt.locs, Pt.cells, Pt.slots] at X24 l24 y24 z24 st24 hQ24
    subst l24 y24 z24
    obtain ⟨rfl, Nq24, eq24⟩ := hQ24
    have N24 := Fr.app N0 Nq24
    obtain ⟨cq25, q25, q25'⟩ := E_k.cell
    obtain ⟨_, _, ⟨T25, L25, kc25, ks25⟩, -, X25, ⟨Lc25, hQ25, l25, y25, z25⟩, st25⟩ := X24.privateBack hx (y := mn4) hown (mvT hZ (wd45 hw)) (mvT hZ (wd46 hw)) (own_selPriv (mvT hZ (wd1 hw)) (Cond.privateMethod_at (mvP hZ (wd47 hw) (args := #[]))) (mvT hZ (wd46 hw)) (by decide)) (Cond.privateMethod_at (mvP hZ (wd47 hw) (args := #[]))) (mvT hZ (wd48 hw)) (by decide) (backOf (W := 0) (rmA92 l Z a0 hw [] kw yy sA yx _ rA c0 _ dA _ h0 n0 Z0 F_e F_s V_s F_1 E_k g_k F_r F_wl V_r (Ne.symm n_kw_rA) (Ne.symm n_kw_sA) F_d V_d (Ne.symm n_kw_dA)) hZ (wd48 hw) (wd2 hw) (by decide) (by decide)) (g := (mkF m 37 #[vr kw, vl yy, sd, vl 0, sd, vl yc, sd, vl 0, sd, vi (-2)] [(.long yy), (.int (1 : Int32)), (.ref kw)])) rfl (by rw [hml]; rfl) (Steps.refl _) (a := kw) (by rw [eq24]; exact q25) q25' (argsL := [(.int (1 : Int32)), (.long yy)]) (rest := []) (lenOf pd__IJ_I rfl) rfl (by show 2 * 0 + _ ≤ _; exact Nat.le_of_eq rfl) (hb hby dk_37) (fun _ _ => ⟨rfl, eq24, (by decide : 0 + 3 ≤ _), (by decide : 0 + 12 ≤ _)⟩)
    dsimp only [Pt.U, Pt.locs, Pt.cells, Pt.slots] at X25 l25 y25 z25 st25 hQ25
    subst l25 y25 z25
    obtain ⟨b25_0, b25_1, b25_2, kv25_3, kv25_4, kv25_5, rfl, Nq25, Kq25, sz25_0, sz25_1, sz25_2, g25_0, g25_1, g25_2, g25_3, g25_4, g25_5, g25_6, g25_7, g25_8, g25_9, g25_10, g25_11, g25_12⟩ := hQ25
    have N25 := Fr.app N24 Nq25
    have Z25 := Nat.le_trans Z0 Kq25.1
    have K25 : Keep h0 T25.heap [kw] := Keep.trans (Keep.refl h0 [kw]) Kq25 (allS (Or.inl (List.mem_of_getElem? (i := 0) rfl)) all0)
    have ne_kw_b25_0 := own_ne E_k.lt sz25_0
    have ne_sA_b25_0 := own_ne V_s.lt sz25_0
    have ne_rA_b25_0 := own_ne V_r.lt sz25_0
    have ne_dA_b25_0 := own_ne V_d.lt sz25_0
    have ge_b25_0 := Nat.le_trans Z0 sz25_0
    have sz_b25_0 : h0.size ≤ b25_0 := Nat.le_trans (Nat.le_refl _) sz25_0
    have ne_kw_b25_1 := own_ne E_k.lt sz25_1
    have ne_sA_b25_1 := own_ne V_s.lt sz25_1
    have ne_rA_b25_1 := own_ne V_r.lt sz25_1
    have ne_dA_b25_1 := own_ne V_d.lt sz25_1
    have ge_b25_1 := Nat.le_trans Z0 sz25_1
    have sz_b25_1 : h0.size ≤ b25_1 := Nat.le_trans (Nat.le_refl _) sz25_1
    have ne_kw_b25_2 := own_ne E_k.lt sz25_2
    have ne_sA_b25_2 := own_ne V_s.lt sz25_2
    have ne_rA_b25_2 := own_ne V_r.lt sz25_2
    have ne_dA_b25_2 := own_ne V_d.lt sz25_2
    have ge_b25_2 := Nat.le_trans Z0 sz25_2
    have sz_b25_2 : h0.size ≤ b25_2 := Nat.le_trans (Nat.le_refl _) sz25_2
    obtain ⟨T26, X26, e26, st26⟩ := getF X25 hx hZ hown (wf13 hw) Via.refl rfl g25_8 (g := (mkF m 48 #[vr kw, vl yy, sd, vl 0, sd, vl yc, sd, vl 0, sd, vi 1] [(.ref kw)])) rfl rfl (hb hby dk_48)
    obtain ⟨T27, X27, e27, st27⟩ := getF X26 hx hZ hown (wf17 hw) Via.refl e26 g25_9 (g := (mkF m 54 #[vr kw, vl yy, sd, vl 0, sd, vl yc, sd, vl 0, sd, vi 1] [(.ref kw), (.int (1 : Int32)), (.ref b25_1)])) rfl rfl (hb hby dk_54)
    obtain ⟨T28, X28, e28, st28⟩ := getF X27 hx hZ hown (wf17 hw) Via.refl e27 g25_9 (g := (mkF m 59 #[vr kw, vl yy, sd, vl 0, sd, vl yc, sd, vl 0, sd, vi 1] [(.ref kw), (.int (4 : Int32)), (.ref b25_1)])) rfl rfl (hb hby dk_59)
    obtain ⟨_, _, ⟨T29, L29, kc29, ks29⟩, -, X29, ⟨Lc29, hQ29, l29, y29, z29⟩, st29⟩ := Jvm.LawKit.callS X28 hx (y := mn6) hown (mvT hZ (wd65 hw)) (mvT hZ (wd66 hw)) (mvT hZ (wd67 hw)) (mvT hZ (wd68 hw)) (by decide) (backOf (W := 0) (rmA99 l Z a0 hw [] b25_1 yc c0 _ T25.heap n0 Z25 g25_10 ge_b25_1 hne) hZ (wd68 hw) (wd67 hw) (by decide) (by decide)) (g := (mkF m 65 #[vr kw, vl yy, sd, vl 0, sd, vl yc, sd, vl 0, sd, vi 1] [(.long yc), (.long (0 : Int64)), (.int (4 : Int32)), (.int (4 : Int32)), (.ref b25_1)])) rfl (by rw [hml]; rfl) (argsL := [(.ref b25_1), (.int (4 : Int32)), (.int (4 : Int32)), (.long (0 : Int64)), (.long yc)]) (rest := []) (lenOf pd___JIIJJ_V rfl) rfl (by show 2 * 0 + _ ≤ _; exact Nat.le_of_eq rfl) (hb hby dk_65) (fun _ _ => ⟨rfl, e28, (by decide : 3 + 0 ≤ _), (by decide : 12 + 0 ≤ _)⟩)
    dsimp only [Pt.U, Pt.locs, Pt.cells, Pt.slots] at X29 l29 y29 z29 st29 hQ29
    subst l29 y29 z29
    obtain ⟨rfl, Nq29, Kq29, g29_0⟩ := hQ29
    have N29 := Fr.app N25 Nq29
    have Z29 := Nat.le_trans Z25 Kq29.1
    have K29 := Keep.trans K25 Kq29 (allS (Or.inr sz_b25_1) all0)
    have f30 := (g25_11.keep Kq29 (ninS ne_kw_b25_1 nin0))
    obtain ⟨T31, X31, e31, st31⟩ := getF X29 hx hZ hown (wf15 hw) Via.refl rfl f30 (g := (mkF m 69 #[vr kw, vl yy, sd, vl 0, sd, vl yc, sd, vl 0, sd, vi 1] [(.ref kw)])) rfl rfl (hb hby dk_69)
    have f32 := (g25_12.keep Kq29 (ninS (Ne.symm g25_2) nin0))
    obtain ⟨cl33, Ar33, q33, S33, M33, HH33, GG33⟩ := id f32
    have hin33 : ¬ ((1 : Int32) < 0 ∨ cl33.slots.size ≤ ((1 : Int32)).toNatClampNeg) := inb_of S33 ⟨by decide, by decide⟩
    obtain ⟨T34, h34, X34, e34, W34, st34⟩ := stJ X31 hx hZ e31 Ar33 (j := (1 : Int32)) hin33 (g := (mkF m 76 #[vr kw, vl yy, sd, vl 0, sd, vl yc, sd, vl 0, sd, vi 1] [(.long (0 : Int64)), (.int (1 : Int32)), (.ref b25_2)])) rfl rfl (hb hby dk_76)
    have N34 := Fr.snoc X34 N29 ge_b25_2
    have Z34 : n0 ≤ h34.size := by rw [W34.size]; exact Z29
    have K34 := (K29.wr W34 (Or.inr sz_b25_2))
    have V34 := Arv.set Ar33 q33 S33 M33 HH33 GG33 rfl W34 1 rfl (Nat.le_of_ble_eq_true rfl)
    subst hEN
    obtain ⟨lfs, lhr, lhrun, lhended, lhW, lhsame⟩ := X34.leave (v := none) (fun _ => rfl)
    refine ⟨_, _, pre0 _ ?_, lhrun, lhended, _, _, rfl, ?_, ⟨_, rfl⟩, lhW, lhsame.mono (by decide) (by decide)⟩
    · skip
      refine XS.aloadN X0.here hx rfl (hb hby dk_0) rfl rfl ?_
      refine st21 _ ?_
      refine XS.aloadN X21.here hx rfl (hb hby dk_4) rfl rfl ?_
      refine st22 _ ?_
      refine XS.aloadN X22.here hx rfl (hb hby dk_8) rfl rfl ?_
      refine st23 _ ?_
      refine XS.lloadN X23.here hx rfl (hb hby dk_12) rfl ?_
      refine st24 _ ?_
      refine XS.istore X24.here hx rfl (hb hby dk_16) rfl (l' := #[vr kw, vl yy, sd, vl 0, sd, vl yc, sd, vl 0, sd, vi (-2)]) rfl ?_
      refine XS.iload X24.here hx rfl (hb hby dk_18) rfl ?_
      refine XS.ifNo X24.here hx rfl (hb hby dk_20) rfl ((if0 _ _).trans (tlt (by decide : (-2 : Int32) < (0 : Int32))).2.1) ?_
      refine XS.lload X24.here hx rfl (hb hby dk_23) rfl ?_
      refine XS.lconst X24.here hx rfl (hb hby dk_25) ?_
      refine XS.lcmp X24.here hx rfl (hb hby dk_26) rfl ?_
      refine XS.ifNo X24.here hx rfl (hb hby dk_27) rfl ((if0 _ _).trans (tlt ((lw_gt yc (0 : Int64)).mpr hpos)).2.2.2) ?_
      refine XS.aloadN X24.here hx rfl (hb hby dk_30) rfl rfl ?_
      show SS p e below T24 (mkF m 31 #[vr kw, vl yy, sd, vl 0, sd, vl yc, sd, vl 0, sd, vi (-2)] [(.ref kw)]) _
      refine XS.iload X24.here hx rfl (hb hby dk_31) rfl ?_
      refine XS.ineg X24.here hx rfl (hb hby dk_33) rfl ?_
      refine XS.iconst X24.here hx rfl (hb hby dk_34) ?_
      refine XS.isub X24.here hx rfl (hb hby dk_35) rfl ?_
      refine XS.lloadN X24.here hx rfl (hb hby dk_36) rfl ?_
      refine st25.trans ?_
      refine XS.istore X25.here hx rfl (hb hby dk_40) rfl (l' := #[vr kw, vl yy, sd, vl 0, sd, vl yc, sd, vl 0, sd, vi 1]) rfl ?_
      refine XS.iload X25.here hx rfl (hb hby dk_42) rfl ?_
      refine XS.ifNo X25.here hx rfl (hb hby dk_44) rfl ((if0 _ _).trans (flt (by decide : ¬ ((1 : Int32) < (0 : Int32)))).1) ?_
      refine XS.aloadN X25.here hx rfl (hb hby dk_47) rfl rfl ?_
      refine st26 _ ?_
      refine XS.iload X26.here hx rfl (hb hby dk_51) rfl ?_
      refine XS.aloadN X26.here hx rfl (hb hby dk_53) rfl rfl ?_
      refine st27 _ ?_
      refine XS.imul X27.here hx rfl (hb hby dk_57) rfl ?_
      refine XS.aloadN X27.here hx rfl (hb hby dk_58) rfl rfl ?_
      refine st28 _ ?_
      refine XS.lloadN X28.here hx rfl (hb hby dk_62) rfl ?_
      refine XS.lload X28.here hx rfl (hb hby dk_63) rfl ?_
      refine st29 _ ?_
      refine XS.aloadN X29.here hx rfl (hb hby dk_68) rfl rfl ?_
      refine st31 _ ?_
      refine XS.iload X31.here hx rfl (hb hby dk_72) rfl ?_
      refine XS.lload X31.here hx rfl (hb hby dk_74) rfl ?_
      refine st34 _ ?_
      show SS p e below T34 (mkF m 77 #[vr kw, vl yy, sd, vl 0, sd, vl yc, sd, vl 0, sd, vi 1] []) _
      exact X34.returnOut hx Bd.returns (hb hby dk_77) lhr
    · skip
      show QAd5 Z kw yy yc sA rA dA ksA krA kdA yx c0 wd h0 n0 _ T34.heap _
      rw [e34]
      have f35 := ((g25_6.keep Kq29).wr W34)
      have f36 := ((g25_4.keep Kq29 (ninS ne_kw_b25_1 nin0)).other W34 (Or.inl ne_kw_b25_2))
      have f37 := (f30.other W34 (Or.inl ne_kw_b25_2))
      have f38 := ((g25_5.keep Kq29 (ninS ne_kw_b25_1 nin0)).other W34 (Or.inl ne_kw_b25_2))
      have f39 := ((g25_3.keep Kq29 (ninS ne_kw_b25_1 nin0)).other W34 (Or.inl ne_kw_b25_2))
      have f40 := ((g25_7.keep Kq29 (ninS g25_0 nin0)).other W34 g25_1)
      exact ⟨b25_0, b25_2, _, _, rfl, N34, K34, sz_b25_0, sz_b25_2, g25_1, f35, f36, f37, f38, f39, f40, V34⟩
theorem ef_Fg1 (m : MethodId) (x0 : Addr) (x1 : Int64) (x2 : Int64) (x3 : Int64) : entryFrame m #[(.ref x0), (.long x1), (.long x2), (.long x3)] 7 = mkF m 0 #[vr x0, vl x1, sd, vl x2, sd, vl x3, sd] [] := by first | (simp [entryFrame, mkF, argsToLocals, Value.category]; done) | rfl
theorem de_0 : decode prog_23_method_2_code 0 = .ok (.aload_n 0, 1) := by decide +kernel
theorem de_1 : decode prog_23_method_2_code 1 = .ok (.getfield 26, 3) := by decide +kernel
theorem de_4 : decode prog_23_method_2_code 4 = .ok (.aload_n 0, 1) := by decide +kernel
theorem de_5 : decode prog_23_method_2_code 5 = .ok (.getfield 29, 3) := by decide +kernel
theorem de_8 : decode prog_23_method_2_code 8 = .ok (.if_icmp .ge 51, 3) := by decide +kernel
theorem de_11 : decode prog_23_method_2_code 11 = .ok (.aload_n 0, 1) := by decide +kernel
theorem de_12 : decode prog_23_method_2_code 12 = .ok (.getfield 13, 3) := by decide +kernel
theorem de_15 : decode prog_23_method_2_code 15 = .ok (.aload_n 0, 1) := by decide +kernel
theorem de_16 : decode prog_23_method_2_code 16 = .ok (.getfield 26, 3) := by decide +kernel
theorem de_19 : decode prog_23_method_2_code 19 = .ok (.laload, 1) := by decide +kernel
theorem de_20 : decode prog_23_method_2_code 20 = .ok (.ldc2_w 32, 3) := by decide +kernel
theorem de_23 : decode prog_23_method_2_code 23 = .ok (.ldiv, 1) := by decide +kernel
theorem de_24 : decode prog_23_method_2_code 24 = .ok (.lload_n 1, 1) := by decide +kernel
theorem de_25 : decode prog_23_method_2_code 25 = .ok (.lcmp, 1) := by decide +kernel
theorem de_26 : decode prog_23_method_2_code 26 = .ok (.ifCond .gt 33, 3) := by decide +kernel
theorem de_59 : decode prog_23_method_2_code 59 = .ok (.return_, 1) := by decide +kernel
theorem de_29 : decode prog_23_method_2_code 29 = .ok (.lload_n 3, 1) := by decide +kernel
theorem de_30 : decode prog_23_method_2_code 30 = .ok (.aload_n 0, 1) := by decide +kernel
theorem de_31 : decode prog_23_method_2_code 31 = .ok (.getfield 19, 3) := by decide +kernel
theorem de_34 : decode prog_23_method_2_code 34 = .ok (.aload_n 0, 1) := by decide +kernel
theorem de_35 : decode prog_23_method_2_code 35 = .ok (.getfield 26, 3) := by decide +kernel
theorem de_38 : decode prog_23_method_2_code 38 = .ok (.laload, 1) := by decide +kernel
theorem de_39 : decode prog_23_method_2_code 39 = .ok (.lsub, 1) := by decide +kernel
theorem de_40 : decode prog_23_method_2_code 40 = .ok (.lload 5, 2) := by decide +kernel
theorem de_42 : decode prog_23_method_2_code 42 = .ok (.lcmp, 1) := by decide +kernel
theorem de_43 : decode prog_23_method_2_code 43 = .ok (.ifCond .lt 16, 3) := by decide +kernel
theorem de_46 : decode prog_23_method_2_code 46 = .ok (.aload_n 0, 1) := by decide +kernel
theorem de_47 : decode prog_23_method_2_code 47 = .ok (.dup, 1) := by decide +kernel
theorem de_48 : decode prog_23_method_2_code 48 = .ok (.getfield 26, 3) := by decide +kernel
theorem de_51 : decode prog_23_method_2_code 51 = .ok (.iconst 1, 1) := by decide +kernel
theorem de_52 : decode prog_23_method_2_code 52 = .ok (.iadd, 1) := by decide +kernel
theorem de_53 : decode prog_23_method_2_code 53 = .ok (.putfield 26, 3) := by decide +kernel
theorem de_56 : decode prog_23_method_2_code 56 = .ok (.goto (-56), 3) := by decide +kernel
def QFg1 (Z : State) (kw : Addr) (yl : Int64) (ye : Int64) (yg : Int64) (sA : Addr) (dA : Addr) (ksA : ClassId) (kdA : ClassId) (yx : Int64) (h0 : Heap) (n0 : Nat) (v : Option Value) (h : Heap) (L : List Loc) : Prop := ∃ fi : Int32, v = none ∧ Fr n0 L ∧ Keep h0 h [kw] ∧ Exa Z h kw cn2 ∧ Fld Z h kw cn2 "starts" "[J" (.ref sA) ∧ Fld Z h kw cn2 "first" "I" (.int fi) ∧ Fld Z h kw cn2 "end" "I" (.int (1 : Int32)) ∧ own_g1 fi yx yl ye yg
set_option maxRecDepth 65536 in
set_option maxHeartbeats 40000000 in
theorem rmFg1 (l : Launch) (Z : State) (a0 : Array Value) (hw : ∀ d ∈ tables_1, d.before a0 Z = true) (ws : List Jvm.Cond) (kw : Addr) (yl : Int64) (ye : Int64) (yg : Int64) (sA : Addr) (dA : Addr) (ksA : ClassId) (kdA : ClassId) (yx : Int64) (h0 : Heap) (n0 : Nat) (Z0 : n0 ≤ h0.size) (g_k : n0 ≤ kw) (E_k : Exa Z h0 kw cn2) (F_s : Fld Z h0 kw cn2 "starts" "[J" (.ref sA)) (F_d : Fld Z h0 kw cn2 "decidedAt" "[J" (.ref dA)) (F_1 : Fld Z h0 kw cn2 "first" "I" (.int (0 : Int32))) (F_e : Fld Z h0 kw cn2 "end" "I" (.int (1 : Int32))) (V_s : Arv Z h0 sA ksA .long (1 : Int32) [(.long yx)] (.long (0 : Int64))) (V_d : Arv Z h0 dA kdA .long (1 : Int32) [(.long (0 : Int64))] (.long (0 : Int64))) (n1 : kw ≠ sA) (n2 : kw ≠ dA) :
    MetFree l mn3 (head1 (Jvm.Cond.code mn3 prog_23_method_2_code 7 none :: ws) ({ frames := 0, cells := 0, slots := 0, locals := 0 } : Room)) (fun a U => a = #[(.ref kw), (.long yl), (.long ye), (.long yg)] ∧ Z.Warmed39 U.vm ∧ U.heap = h0) (fun _ _ _ _ _ => True) (fun _ U oc_ U' => ∃ v L, oc_ = .returned v ∧ QFg1 Z kw yl ye yg sA dA ksA kdA yx h0 n0 v U'.heap L ∧ FrameEnd U oc_ U' L ({ frames := 0, cells := 0, slots := 0, locals := 0 } : Room).cells ({ frames := 0, cells := 0, slots := 0, locals := 0 } : Room).slots) := by
  refine MetFree.of_bodySF (plainFor_of_name pn_com_example_strict_limiter_strictlimiter_KeptWindows) hisR ?_
  intro p e s m args below meth c s₁ Bd hml0 hP hK
  obtain ⟨rfl, hZ, hh⟩ := hP
  have hx := Bd.exec
  have hby := Bd.bytes
  have hml : c.maxLocals = 7 := hml0
  have hown : s.vm.findClass cn2 = some m.cls := findClass_of_methodNamed Bd.named
  have hnm := (name_of_methodNamed Bd.named Bd.method).1
  have X0 : Stand p l e ({ frames := 0, cells := 0, slots := 0, locals := 0 } : Room) s m #[(.ref kw), (.long yl), (.long ye), (.long yg)] below meth c s₁ [] 0 0 := Stand.of_body Bd
  have e0 : s₁.heap = h0 := by rw [← hh, Bd.state]; rfl
  have N0 := Fr.nil n0
  have pre0 : ∀ t, SS p e below s₁ (mkF m 0 #[vr kw, vl yl, sd, vl ye, sd, vl yg, sd] []) t → Steps p.tables e below (s₁.setTop (entryFrame m #[(.ref kw), (.long yl), (.long ye), (.long yg)] 7)) t := fun t k => castTop (ef_Fg1 m kw yl ye yg) k
  obtain ⟨EN, hEN⟩ : ∃ z, z = s₁.setTop (entryFrame m #[(.ref kw), (.long yl), (.long ye), (.long yg)] 7) := ⟨_, rfl⟩
  rw [← hEN] at pre0
  obtain ⟨T1, X1, e1, st1⟩ := getF X0 hx hZ hown (wf24 hw) Via.refl e0 F_1 (g := (mkF m 1 #[vr kw, vl yl, sd, vl ye, sd, vl yg, sd] [(.ref kw)])) rfl rfl (hb hby de_1)
  obtain ⟨T2, X2, e2, st2⟩ := getF X1 hx hZ hown (wf26 hw) Via.refl e1 F_e (g := (mkF m 5 #[vr kw, vl yl, sd, vl ye, sd, vl yg, sd] [(.ref kw), (.int (0 : Int32))])) rfl rfl (hb hby de_5)
  obtain ⟨T3, X3, e3, st3⟩ := getF X2 hx hZ hown (wf11 hw) Via.refl e2 F_s (g := (mkF m 12 #[vr kw, vl yl, sd, vl ye, sd, vl yg, sd] [(.ref kw)])) rfl rfl (hb hby de_12)
  obtain ⟨T4, X4, e4, st4⟩ := getF X3 hx hZ hown (wf24 hw) Via.refl e3 F_1 (g := (mkF m 16 #[vr kw, vl yl, sd, vl ye, sd, vl yg, sd] [(.ref kw), (.ref sA)])) rfl rfl (hb hby de_16)
  obtain ⟨cl5, Ar5, q5, S5, M5, HH5, GG5⟩ := id V_s
  have hin5 : ¬ ((0 : Int32) < 0 ∨ cl5.slots.size ≤ ((0 : Int32)).toNatClampNeg) := inb_of S5 ⟨by decide, by decide⟩
  have hat5 : cl5.slots[((0 : Int32)).toNatClampNeg]? = some (.long yx) := Has.at HH5 hin5 rfl
  have k6 : ∀ t, SS p e below T4 (mkF m 26 #[vr kw, vl yl, sd, vl ye, sd, vl yg, sd] [(.int (lcmpW (yx / (1000000000 : Int64)) yl))]) t → Steps p.tables e below (EN) t := by
    intro t kt
    refine pre0 t ?_
    refine XS.aloadN X0.here hx rfl (hb hby de_0) rfl rfl ?_
    refine st1 _ ?_
    refine XS.aloadN X1.here hx rfl (hb hby de_4) rfl rfl ?_
    refine st2 _ ?_
    refine XS.icmpNo X2.here hx rfl (hb hby de_8) rfl (tlt (by decide : (0 : Int32) < (1 : Int32))).2.1 ?_
    refine XS.aloadN X2.here hx rfl (hb hby de_11) rfl rfl ?_
    refine st3 _ ?_
    refine XS.aloadN X3.here hx rfl (hb hby de_15) rfl rfl ?_
    refine st4 _ ?_
    refine X4.laload hx (j := (0 : Int32)) (v := (.long yx)) (by (try rw [e4]); exact Ar5.1) (State.isArrayOf_alike hZ.alike Ar5.2.1) Ar5.2.2 hin5 hat5 (g := (mkF m 19 #[vr kw, vl yl, sd, vl ye, sd, vl yg, sd] [(.int (0 : Int32)), (.ref sA)])) rfl rfl (hb hby de_19) _ ?_
    refine X4.ldc2Long hx hown (mvT hZ (wd77 hw)) (g := (mkF m 20 #[vr kw, vl yl, sd, vl ye, sd, vl yg, sd] [(.long yx)])) rfl (hb hby de_20) _ ?_
    refine XS.ldiv X4.here hx rfl (hb hby de_23) rfl (by decide) ?_
    refine XS.lloadN X4.here hx rfl (hb hby de_24) rfl ?_
    refine XS.lcmp X4.here hx rfl (hb hby de_25) rfl ?_
    exact kt
  by_cases hc7 : yl < (yx / (1000000000 : Int64))
  · skip
    subst hEN
    obtain ⟨lfs, lhr, lhrun, lhended, lhW, lhsame⟩ := X4.leave (v := none) (fun _ => rfl)
    refine ⟨_, _, k6 _ ?_, lhrun, lhended, _, _, rfl, ?_, ⟨_, rfl⟩, lhW, lhsame.mono (by decide) (by decide)⟩
    · skip
      refine XS.ifYes X4.here hx rfl (pc0 := 26) (pc' := 59) rfl (hb hby de_26) rfl ((if0 _ _).trans (tlt ((lw_gt (yx / (1000000000 : Int64)) yl).mpr hc7)).2.2.1) (by decide) (by decide) ?_
      show SS p e below T4 (mkF m 59 #[vr kw, vl yl, sd, vl ye, sd, vl yg, sd] []) _
      exact X4.returnOut hx Bd.returns (hb hby de_59) lhr
    · skip
      show QFg1 Z kw yl ye yg sA dA ksA kdA yx h0 n0 _ T4.heap _
      rw [e4]
      exact ⟨(0 : Int32), rfl, N0, (Keep.refl _ _), E_k, F_s, F_1, F_e, (Or.inl ⟨rfl, Or.inl hc7⟩)⟩
  · skip
    obtain ⟨T8, X8, e8, st8⟩ := getF X4 hx hZ hown (wf15 hw) Via.refl e4 F_d (g := (mkF m 31 #[vr kw, vl yl, sd, vl ye, sd, vl yg, sd] [(.ref kw), (.long ye)])) rfl rfl (hb hby de_31)
    obtain ⟨T9, X9, e9, st9⟩ := getF X8 hx hZ hown (wf24 hw) Via.refl e8 F_1 (g := (mkF m 35 #[vr kw, vl yl, sd, vl ye, sd, vl yg, sd] [(.ref kw), (.ref dA), (.long ye)])) rfl rfl (hb hby de_35)
    obtain ⟨cl10, Ar10, q10, S10, M10, HH10, GG10⟩ := id V_d
    have hin10 : ¬ ((0 : Int32) < 0 ∨ cl10.slots.size ≤ ((0 : Int32)).toNatClampNeg) := inb_of S10 ⟨by decide, by decide⟩
    have hat10 : cl10.slots[((0 : Int32)).toNatClampNeg]? = some (.long (0 : Int64)) := Has.at HH10 hin10 rfl
    have k11 : ∀ t, SS p e below T9 (mkF m 43 #[vr kw, vl yl, sd, vl ye, sd, vl yg, sd] [(.int (lcmpW (ye - (0 : Int64)) yg))]) t → Steps p.tables e below (EN) t := by
      intro t kt
      refine k6 t ?_
      refine XS.ifNo X4.here hx rfl (hb hby de_26) rfl ((if0 _ _).trans (flt (fun q => hc7 ((lw_gt (yx / (1000000000 : Int64)) yl).mp q))).2.2.1) ?_
      refine XS.lloadN X4.here hx rfl (hb hby de_29) rfl ?_
      refine XS.aloadN X4.here hx rfl (hb hby de_30) rfl rfl ?_
      refine st8 _ ?_
      refine XS.aloadN X8.here hx rfl (hb hby de_34) rfl rfl ?_
      refine st9 _ ?_
      refine X9.laload hx (j := (0 : Int32)) (v := (.long (0 : Int64))) (by (try rw [e9]); exact Ar10.1) (State.isArrayOf_alike hZ.alike Ar10.2.1) Ar10.2.2 hin10 hat10 (g := (mkF m 38 #[vr kw, vl yl, sd, vl ye, sd, vl yg, sd] [(.int (0 : Int32)), (.ref dA), (.long ye)])) rfl rfl (hb hby de_38) _ ?_
      refine XS.lsub X9.here hx rfl (hb hby de_39) rfl ?_
      refine XS.lload X9.here hx rfl (hb hby de_40) rfl ?_
      refine XS.lcmp X9.here hx rfl (hb hby de_42) rfl ?_
      exact kt
    by_cases hc12 : (ye - (0 : Int64)) < yg
    · skip
      subst hEN
      obtain ⟨lfs, lhr, lhrun, lhended, lhW, lhsame⟩ := X9.leave (v := none) (fun _ => rfl)
      refine ⟨_, _, k11 _ ?_, lhrun, lhended, _, _, rfl, ?_, ⟨_, rfl⟩, lhW, lhsame.mono (by decide) (by decide)⟩
      · skip
        refine XS.ifYes X9.here hx rfl (pc0 := 43) (pc' := 59) rfl (hb hby de_43) rfl ((if0 _ _).trans (tlt ((lw_lt (ye - (0 : Int64)) yg).mpr hc12)).1) (by decide) (by decide) ?_
        show SS p e below T9 (mkF m 59 #[vr kw, vl yl, sd, vl ye, sd, vl yg, sd] []) _
        exact X9.returnOut hx Bd.returns (hb hby de_59) lhr
      · skip
        show QFg1 Z kw yl ye yg sA dA ksA kdA yx h0 n0 _ T9.heap _
        rw [e9]
        exact ⟨(0 : Int32), rfl, N0, (Keep.refl _ _), E_k, F_s, F_1, F_e, (Or.inl ⟨rfl, Or.inr hc12⟩)⟩
    · skip
      obtain ⟨T13, X13, e13, st13⟩ := getF X9 hx hZ hown (wf24 hw) Via.refl e9 F_1 (g := (mkF m 48 #[vr kw, vl yl, sd, vl ye, sd, vl yg, sd] [(.ref kw), (.ref kw)])) rfl rfl (hb hby de_48)
      obtain ⟨T14, h14, X14, e14, W14, st14⟩ := putF X13 hx hZ hown (wf24 hw) Via.refl e13 F_1 E_k (Or.inl (wd25 hw)) (wd1 hw) (ty := .int) (by decide) rfl rfl (g := (mkF m 53 #[vr kw, vl yl, sd, vl ye, sd, vl yg, sd] [(.int (1 : Int32)), (.ref kw)])) rfl rfl (hb hby de_53)
      have N14 := Fr.snoc X14 N0 g_k
      have Z14 : n0 ≤ h14.size := by rw [W14.size]; exact Z0
      have K14 : Keep h0 h14 [kw] := ((Keep.refl h0 [kw]).wr W14 (Or.inl (List.mem_of_getElem? (i := 0) rfl)))
      have Fw14 := F_1.same W14
      obtain ⟨T15, X15, e15, st15⟩ := getF X14 hx hZ hown (wf24 hw) Via.refl e14 Fw14 (g := (mkF m 1 #[vr kw, vl yl, sd, vl ye, sd, vl yg, sd] [(.ref kw)])) rfl rfl (hb hby de_1)
      have f16 := (F_e.other W14 (Or.inr (sn23 hw)))
      obtain ⟨T17, X17, e17, st17⟩ := getF X15 hx hZ hown (wf26 hw) Via.refl e15 f16 (g := (mkF m 5 #[vr kw, vl yl, sd, vl ye, sd, vl yg, sd] [(.ref kw), (.int (1 : Int32))])) rfl rfl (hb hby de_5)
      subst hEN
      obtain ⟨lfs, lhr, lhrun, lhended, lhW, lhsame⟩ := X17.leave (v := none) (fun _ => rfl)
      refine ⟨_, _, k11 _ ?_, lhrun, lhended, _, _, rfl, ?_, ⟨_, rfl⟩, lhW, lhsame.mono (by decide) (by decide)⟩
      · skip
        refine XS.ifNo X9.here hx rfl (hb hby de_43) rfl ((if0 _ _).trans (flt (fun q => hc12 ((lw_lt (ye - (0 : Int64)) yg).mp q))).1) ?_
        refine XS.aloadN X9.here hx rfl (hb hby de_46) rfl rfl ?_
        refine XS.dup X9.here hx rfl (hb hby de_47) rfl rfl ?_
        refine st13 _ ?_
        refine XS.iconst X13.here hx rfl (hb hby de_51) ?_
        refine XS.iadd X13.here hx rfl (hb hby de_52) rfl ?_
        refine st14 _ ?_
        refine XS.goto X14.here hx rfl (pc0 := 56) (pc' := 0) rfl (hb hby de_56) (by decide) (by decide) ?_
        refine XS.aloadN X14.here hx rfl (hb hby de_0) rfl rfl ?_
        refine st15 _ ?_
        refine XS.aloadN X15.here hx rfl (hb hby de_4) rfl rfl ?_
        refine st17 _ ?_
        refine XS.icmpYes X17.here hx rfl (pc0 := 8) (pc' := 59) rfl (hb hby de_8) rfl (flt (by decide : ¬ ((1 : Int32) < (1 : Int32)))).2.1 (by decide) (by decide) ?_
        show SS p e below T17 (mkF m 59 #[vr kw, vl yl, sd, vl ye, sd, vl yg, sd] []) _
        exact X17.returnOut hx Bd.returns (hb hby de_59) lhr
      · skip
        show QFg1 Z kw yl ye yg sA dA ksA kdA yx h0 n0 _ T17.heap _
        rw [e17]
        have f18 := (E_k.wr W14)
        have f19 := (F_s.other W14 (Or.inr (sn2 hw)))
        exact ⟨(1 : Int32), rfl, N14, K14, f18, f19, Fw14, f16, (Or.inr ⟨rfl, hc7, hc12⟩)⟩
theorem ef_Fg2 (m : MethodId) (x0 : Addr) (x1 : Int64) (x2 : Int64) (x3 : Int64) : entryFrame m #[(.ref x0), (.long x1), (.long x2), (.long x3)] 7 = mkF m 0 #[vr x0, vl x1, sd, vl x2, sd, vl x3, sd] [] := by first | (simp [entryFrame, mkF, argsToLocals, Value.category]; done) | rfl
def QFg2 (Z : State) (kw : Addr) (yl : Int64) (ye : Int64) (yg : Int64) (sA : Addr) (dA : Addr) (ksA : ClassId) (kdA : ClassId) (yx : Int64) (yz : Int64) (h0 : Heap) (n0 : Nat) (v : Option Value) (h : Heap) (L : List Loc) : Prop := ∃ fi : Int32, v = none ∧ Fr n0 L ∧ Keep h0 h [kw] ∧ Exa Z h kw cn2 ∧ Fld Z h kw cn2 "starts" "[J" (.ref sA) ∧ Fld Z h kw cn2 "first" "I" (.int fi) ∧ Fld Z h kw cn2 "end" "I" (.int (2 : Int32)) ∧ own_g2 fi yx yz yl ye yg
set_option maxRecDepth 65536 in
set_option maxHeartbeats 40000000 in
theorem rmFg2 (l : Launch) (Z : State) (a0 : Array Value) (hw : ∀ d ∈ tables_1, d.before a0 Z = true) (ws : List Jvm.Cond) (kw : Addr) (yl : Int64) (ye : Int64) (yg : Int64) (sA : Addr) (dA : Addr) (ksA : ClassId) (kdA : ClassId) (yx : Int64) (yz : Int64) (h0 : Heap) (n0 : Nat) (Z0 : n0 ≤ h0.size) (g_k : n0 ≤ kw) (E_k : Exa Z h0 kw cn2) (F_s : Fld Z h0 kw cn2 "starts" "[J" (.ref sA)) (F_d : Fld Z h0 kw cn2 "decidedAt" "[J" (.ref dA)) (F_1 : Fld Z h0 kw cn2 "first" "I" (.int (0 : Int32))) (F_e : Fld Z h0 kw cn2 "end" "I" (.int (2 : Int32))) (V_s : Arv Z h0 sA ksA .long (2 : Int32) [(.long yx), (.long yz)] (.long (0 : Int64))) (V_d : Arv Z h0 dA kdA .long (2 : Int32) [(.long (0 : Int64)), (.long (0 : Int64))] (.long (0 : Int64))) (n1 : kw ≠ sA) (n2 : kw ≠ dA) :
    MetFree l mn3 (head1 (Jvm.Cond.code mn3 prog_23_method_2_code 7 none :: ws) ({ frames := 0, cells := 0, slots := 0, locals := 0 } : Room)) (fun a U => a = #[(.ref kw), (.long yl), (.long ye), (.long yg)] ∧ Z.Warmed39 U.vm ∧ U.heap = h0) (fun _ _ _ _ _ => True) (fun _ U oc_ U' => ∃ v L, oc_ = .returned v ∧ QFg2 Z kw yl ye yg sA dA ksA kdA yx yz h0 n0 v U'.heap L ∧ FrameEnd U oc_ U' L ({ frames := 0, cells := 0, slots := 0, locals := 0 } : Room).cells ({ frames := 0, cells := 0, slots := 0, locals := 0 } : Room).slots) := by
  refine MetFree.of_bodySF (plainFor_of_name pn_com_example_strict_limiter_strictlimiter_KeptWindows) hisR ?_
  intro p e s m args below meth c s₁ Bd hml0 hP hK
  obtain ⟨rfl, hZ, hh⟩ := hP
  have hx := Bd.exec
  have hby := Bd.bytes
  have hml : c.maxLocals = 7 := hml0
  have hown : s.vm.findClass cn2 = some m.cls := findClass_of_methodNamed Bd.named
  have hnm := (name_of_methodNamed Bd.named Bd.method).1
  have X0 : Stand p l e ({ frames := 0, cells := 0, slots := 0, locals := 0 } : Room) s m #[(.ref kw), (.long yl), (.long ye), (.long yg)] below meth c s₁ [] 0 0 := Stand.of_body Bd
  have e0 : s₁.heap = h0 := by rw [← hh, Bd.state]; rfl
  have N0 := Fr.nil n0
  have pre0 : ∀ t, SS p e below s₁ (mkF m 0 #[vr kw, vl yl, sd, vl ye, sd, vl yg, sd] []) t → Steps p.tables e below (s₁.setTop (entryFrame m #[(.ref kw), (.long yl), (.long ye), (.long yg)] 7)) t := fun t k => castTop (ef_Fg2 m kw yl ye yg) k
  obtain ⟨EN, hEN⟩ : ∃ z, z = s₁.setTop (entryFrame m #[(.ref kw), (.long yl), (.long ye), (.long yg)] 7) := ⟨_, rfl⟩
  rw [← hEN] at pre0
  obtain ⟨T1, X1, e1, st1⟩ := getF X0 hx hZ hown (wf24 hw) Via.refl e0 F_1 (g := (mkF m 1 #[vr kw, vl yl, sd, vl ye, sd, vl yg, sd] [(.ref kw)])) rfl rfl (hb hby de_1)
  obtain ⟨T2, X2, e2, st2⟩ := getF X1 hx hZ hown (wf26 hw) Via.refl e1 F_e (g := (mkF m 5 #[vr kw, vl yl, sd, vl ye, sd, vl yg, sd] [(.ref kw), (.int (0 : Int32))])) rfl rfl (hb hby de_5)
  obtain ⟨T3, X3, e3, st3⟩ := getF X2 hx hZ hown (wf11 hw) Via.refl e2 F_s (g := (mkF m 12 #[vr kw, vl yl, sd, vl ye, sd, vl yg, sd] [(.ref kw)])) rfl rfl (hb hby de_12)
  obtain ⟨T4, X4, e4, st4⟩ := getF X3 hx hZ hown (wf24 hw) Via.refl e3 F_1 (g := (mkF m 16 #[vr kw, vl yl, sd, vl ye, sd, vl yg, sd] [(.ref kw), (.ref sA)])) rfl rfl (hb hby de_16)
  obtain ⟨cl5, Ar5, q5, S5, M5, HH5, GG5⟩ := id V_s
  have hin5 : ¬ ((0 : Int32) < 0 ∨ cl5.slots.size ≤ ((0 : Int32)).toNatClampNeg) := inb_of S5 ⟨by decide, by decide⟩
  have hat5 : cl5.slots[((0 : Int32)).toNatClampNeg]? = some (.long yx) := Has.at HH5 hin5 rfl
  have k6 : ∀ t, SS p e below T4 (mkF m 26 #[vr kw, vl yl, sd, vl ye, sd, vl yg, sd] [(.int (lcmpW (yx / (1000000000 : Int64)) yl))]) t → Steps p.tables e below (EN) t := by
    intro t kt
    refine pre0 t ?_
    refine XS.aloadN X0.here hx rfl (hb hby de_0) rfl rfl ?_
    refine st1 _ ?_
    refine XS.aloadN X1.here hx rfl (hb hby de_4) rfl rfl ?_
    refine st2 _ ?_
    refine XS.icmpNo X2.here hx rfl (hb hby de_8) rfl (tlt (by decide : (0 : Int32) < (2 : Int32))).2.1 ?_
    refine XS.aloadN X2.here hx rfl (hb hby de_11) rfl rfl ?_
    refine st3 _ ?_
    refine XS.aloadN X3.here hx rfl (hb hby de_15) rfl rfl ?_
    refine st4 _ ?_
    refine X4.laload hx (j := (0 : Int32)) (v := (.long yx)) (by (try rw [e4]); exact Ar5.1) (State.isArrayOf_alike hZ.alike Ar5.2.1) Ar5.2.2 hin5 hat5 (g := (mkF m 19 #[vr kw, vl yl, sd, vl ye, sd, vl yg, sd] [(.int (0 : Int32)), (.ref sA)])) rfl rfl (hb hby de_19) _ ?_
    refine X4.ldc2Long hx hown (mvT hZ (wd77 hw)) (g := (mkF m 20 #[vr kw, vl yl, sd, vl ye, sd, vl yg, sd] [(.long yx)])) rfl (hb hby de_20) _ ?_
    refine XS.ldiv X4.here hx rfl (hb hby de_23) rfl (by decide) ?_
    refine XS.lloadN X4.here hx rfl (hb hby de_24) rfl ?_
    refine XS.lcmp X4.here hx rfl (hb hby de_25) rfl ?_
    exact kt
  by_cases hc7 : yl < (yx / (1000000000 : Int64))
  · skip
    subst hEN
    obtain ⟨lfs, lhr, lhrun, lhended, lhW, lhsame⟩ := X4.leave (v := none) (fun _ => rfl)
    refine ⟨_, _, k6 _ ?_, lhrun, lhended, _, _, rfl, ?_, ⟨_, rfl⟩, lhW, lhsame.mono (by decide) (by decide)⟩
    · skip
      refine XS.ifYes X4.here hx rfl (pc0 := 26) (pc' := 59) rfl (hb hby de_26) rfl ((if0 _ _).trans (tlt ((lw_gt (yx / (1000000000 : Int64)) yl).mpr hc7)).2.2.1) (by decide) (by decide) ?_
      show SS p e below T4 (mkF m 59 #[vr kw, vl yl, sd, vl ye, sd, vl yg, sd] []) _
      exact X4.returnOut hx Bd.returns (hb hby de_59) lhr
    · skip
      show QFg2 Z kw yl ye yg sA dA ksA kdA yx yz h0 n0 _ T4.heap _
      rw [e4]
      exact ⟨(0 : Int32), rfl, N0, (Keep.refl _ _), E_k, F_s, F_1, F_e, (Or.inl ⟨rfl, Or.inl hc7⟩)⟩
  · skip
    obtain ⟨T8, X8, e8, st8⟩ := getF X4 hx hZ hown (wf15 hw) Via.refl e4 F_d (g := (mkF m 31 #[vr kw, vl yl, sd, vl ye, sd, vl yg, sd] [(.ref kw), (.long ye)])) rfl rfl (hb hby de_31)
    obtain ⟨T9, X9, e9, st9⟩ := getF X8 hx hZ hown (wf24 hw) Via.refl e8 F_1 (g := (mkF m 35 #[vr kw, vl yl, sd, vl ye, sd, vl yg, sd] [(.ref kw), (.ref dA), (.long ye)])) rfl rfl (hb hby de_35)
    obtain ⟨cl10, Ar10, q10, S10, M10, HH10, GG10⟩ := id V_d
    have hin10 : ¬ ((0 : Int32) < 0 ∨ cl10.slots.size ≤ ((0 : Int32)).toNatClampNeg) := inb_of S10 ⟨by decide, by decide⟩
    have hat10 : cl10.slots[((0 : Int32)).toNatClampNeg]? = some (.long (0 : Int64)) := Has.at HH10 hin10 rfl
    have k11 : ∀ t, SS p e below T9 (mkF m 43 #[vr kw, vl yl, sd, vl ye, sd, vl yg, sd] [(.int (lcmpW (ye - (0 : Int64)) yg))]) t → Steps p.tables e below (EN) t := by
      intro t kt
      refine k6 t ?_
      refine XS.ifNo X4.here hx rfl (hb hby de_26) rfl ((if0 _ _).trans (flt (fun q => hc7 ((lw_gt (yx / (1000000000 : Int64)) yl).mp q))).2.2.1) ?_
      refine XS.lloadN X4.here hx rfl (hb hby de_29) rfl ?_
      refine XS.aloadN X4.here hx rfl (hb hby de_30) rfl rfl ?_
      refine st8 _ ?_
      refine XS.aloadN X8.here hx rfl (hb hby de_34) rfl rfl ?_
      refine st9 _ ?_
      refine X9.laload hx (j := (0 : Int32)) (v := (.long (0 : Int64))) (by (try rw [e9]); exact Ar10.1) (State.isArrayOf_alike hZ.alike Ar10.2.1) Ar10.2.2 hin10 hat10 (g := (mkF m 38 #[vr kw, vl yl, sd, vl ye, sd, vl yg, sd] [(.int (0 : Int32)), (.ref dA), (.long ye)])) rfl rfl (hb hby de_38) _ ?_
      refine XS.lsub X9.here hx rfl (hb hby de_39) rfl ?_
      refine XS.lload X9.here hx rfl (hb hby de_40) rfl ?_
      refine XS.lcmp X9.here hx rfl (hb hby de_42) rfl ?_
      exact kt
    by_cases hc12 : (ye - (0 : Int64)) < yg
    · skip
      subst hEN
      obtain ⟨lfs, lhr, lhrun, lhended, lhW, lhsame⟩ := X9.leave (v := none) (fun _ => rfl)
      refine ⟨_, _, k11 _ ?_, lhrun, lhended, _, _, rfl, ?_, ⟨_, rfl⟩, lhW, lhsame.mono (by decide) (by decide)⟩
      · skip
        refine XS.ifYes X9.here hx rfl (pc0 := 43) (pc' := 59) rfl (hb hby de_43) rfl ((if0 _ _).trans (tlt ((lw_lt (ye - (0 : Int64)) yg).mpr hc12)).1) (by decide) (by decide) ?_
        show SS p e below T9 (mkF m 59 #[vr kw, vl yl, sd, vl ye, sd, vl yg, sd] []) _
        exact X9.returnOut hx Bd.returns (hb hby de_59) lhr
      · skip
        show QFg2 Z kw yl ye yg sA dA ksA kdA yx yz h0 n0 _ T9.heap _
        rw [e9]
        exact ⟨(0 : Int32), rfl, N0, (Keep.refl _ _), E_k, F_s, F_1, F_e, (Or.inl ⟨rfl, Or.inr hc12⟩)⟩
    · skip
      obtain ⟨T13, X13, e13, st13⟩ := getF X9 hx hZ hown (wf24 hw) Via.refl e9 F_1 (g := (mkF m 48 #[vr kw, vl yl, sd, vl ye, sd, vl yg, sd] [(.ref kw), (.ref kw)])) rfl rfl (hb hby de_48)
      obtain ⟨T14, h14, X14, e14, W14, st14⟩ := putF X13 hx hZ hown (wf24 hw) Via.refl e13 F_1 E_k (Or.inl (wd25 hw)) (wd1 hw) (ty := .int) (by decide) rfl rfl (g := (mkF m 53 #[vr kw, vl yl, sd, vl ye, sd, vl yg, sd] [(.int (1 : Int32)), (.ref kw)])) rfl rfl (hb hby de_53)
      have N14 := Fr.snoc X14 N0 g_k
      have Z14 : n0 ≤ h14.size := by rw [W14.size]; exact Z0
      have K14 : Keep h0 h14 [kw] := ((Keep.refl h0 [kw]).wr W14 (Or.inl (List.mem_of_getElem? (i := 0) rfl)))
      have Fw14 := F_1.same W14
      obtain ⟨T15, X15, e15, st15⟩ := getF X14 hx hZ hown (wf24 hw) Via.refl e14 Fw14 (g := (mkF m 1 #[vr kw, vl yl, sd, vl ye, sd, vl yg, sd] [(.ref kw)])) rfl rfl (hb hby de_1)
      have f16 := (F_e.other W14 (Or.inr (sn23 hw)))
      obtain ⟨T17, X17, e17, st17⟩ := getF X15 hx hZ hown (wf26 hw) Via.refl e15 f16 (g := (mkF m 5 #[vr kw, vl yl, sd, vl ye, sd, vl yg, sd] [(.ref kw), (.int (1 : Int32))])) rfl rfl (hb hby de_5)
      have f18 := (F_s.other W14 (Or.inr (sn2 hw)))
      obtain ⟨T19, X19, e19, st19⟩ := getF X17 hx hZ hown (wf11 hw) Via.refl e17 f18 (g := (mkF m 12 #[vr kw, vl yl, sd, vl ye, sd, vl yg, sd] [(.ref kw)])) rfl rfl (hb hby de_12)
      obtain ⟨T20, X20, e20, st20⟩ := getF X19 hx hZ hown (wf24 hw) Via.refl e19 Fw14 (g := (mkF m 16 #[vr kw, vl yl, sd, vl ye, sd, vl yg, sd] [(.ref kw), (.ref sA)])) rfl rfl (hb hby de_16)
      have f21 := (V_s.other W14 (Ne.symm n1))
      obtain ⟨cl22, Ar22, q22, S22, M22, HH22, GG22⟩ := id f21
      have hin22 : ¬ ((1 : Int32) < 0 ∨ cl22.slots.size ≤ ((1 : Int32)).toNatClampNeg) := inb_of S22 ⟨by decide, by decide⟩
      have hat22 : cl22.slots[((1 : Int32)).toNatClampNeg]? = some (.long yz) := Has.at HH22 hin22 rfl
      have k23 : ∀ t, SS p e below T20 (mkF m 26 #[vr kw, vl yl, sd, vl ye, sd, vl yg, sd] [(.int (lcmpW (yz / (1000000000 : Int64)) yl))]) t → Steps p.tables e below (EN) t := by
        intro t kt
        refine k11 t ?_
        refine XS.ifNo X9.here hx rfl (hb hby de_43) rfl ((if0 _ _).trans (flt (fun q => hc12 ((lw_lt (ye - (0 : Int64)) yg).mp q))).1) ?_
        refine XS.aloadN X9.here hx rfl (hb hby de_46) rfl rfl ?_
        refine XS.dup X9.here hx rfl (hb hby de_47) rfl rfl ?_
        refine st13 _ ?_
        refine XS.iconst X13.here hx rfl (hb hby de_51) ?_
        refine XS.iadd X13.here hx rfl (hb hby de_52) rfl ?_
        refine st14 _ ?_
        refine XS.goto X14.here hx rfl (pc0 := 56) (pc' := 0) rfl (hb hby de_56) (by decide) (by decide) ?_
        refine XS.aloadN X14.here hx rfl (hb hby de_0) rfl rfl ?_
        refine st15 _ ?_
        refine XS.aloadN X15.here hx rfl (hb hby de_4) rfl rfl ?_
        refine st17 _ ?_
        refine XS.icmpNo X17.here hx rfl (hb hby de_8) rfl (tlt (by decide : (1 : Int32) < (2 : Int32))).2.1 ?_
        refine XS.aloadN X17.here hx rfl (hb hby de_11) rfl rfl ?_
        refine st19 _ ?_
        refine XS.aloadN X19.here hx rfl (hb hby de_15) rfl rfl ?_
        refine st20 _ ?_
        refine X20.laload hx (j := (1 : Int32)) (v := (.long yz)) (by (try rw [e20]); exact Ar22.1) (State.isArrayOf_alike hZ.alike Ar22.2.1) Ar22.2.2 hin22 hat22 (g := (mkF m 19 #[vr kw, vl yl, sd, vl ye, sd, vl yg, sd] [(.int (1 : Int32)), (.ref sA)])) rfl rfl (hb hby de_19) _ ?_
        refine X20.ldc2Long hx hown (mvT hZ (wd77 hw)) (g := (mkF m 20 #[vr kw, vl yl, sd, vl ye, sd, vl yg, sd] [(.long yz)])) rfl (hb hby de_20) _ ?_
        refine XS.ldiv X20.here hx rfl (hb hby de_23) rfl (by decide) ?_
        refine XS.lloadN X20.here hx rfl (hb hby de_24) rfl ?_
        refine XS.lcmp X20.here hx rfl (hb hby de_25) rfl ?_
        exact kt
      by_cases hc24 : yl < (yz / (1000000000 : Int64))
      · skip
        subst hEN
        obtain ⟨lfs, lhr, lhrun, lhended, lhW, lhsame⟩ := X20.leave (v := none) (fun _ => rfl)
        refine ⟨_, _, k23 _ ?_, lhrun, lhended, _, _, rfl, ?_, ⟨_, rfl⟩, lhW, lhsame.mono (by decide) (by decide)⟩
        · skip
          refine XS.ifYes X20.here hx rfl (pc0 := 26) (pc' := 59) rfl (hb hby de_26) rfl ((if0 _ _).trans (tlt ((lw_gt (yz / (1000000000 : Int64)) yl).mpr hc24)).2.2.1) (by decide) (by decide) ?_
          show SS p e below T20 (mkF m 59 #[vr kw, vl yl, sd, vl ye, sd, vl yg, sd] []) _
          exact X20.returnOut hx Bd.returns (hb hby de_59) lhr
        · skip
          show QFg2 Z kw yl ye yg sA dA ksA kdA yx yz h0 n0 _ T20.heap _
          rw [e20]
          have f25 := (E_k.wr W14)
          exact ⟨(1 : Int32), rfl, N14, K14, f25, f18, Fw14, f16, (Or.inr (Or.inl ⟨rfl, hc7, hc12, hc24⟩))⟩
      · skip
        have f26 := (F_d.other W14 (Or.inr (sn12 hw)))
        obtain ⟨T27, X27, e27, st27⟩ := getF X20 hx hZ hown (wf15 hw) Via.refl e20 f26 (g := (mkF m 31 #[vr kw, vl yl, sd, vl ye, sd, vl yg, sd] [(.ref kw), (.long ye)])) rfl rfl (hb hby de_31)
        obtain ⟨T28, X28, e28, st28⟩ := getF X27 hx hZ hown (wf24 hw) Via.refl e27 Fw14 (g := (mkF m 35 #[vr kw, vl yl, sd, vl ye, sd, vl yg, sd] [(.ref kw), (.ref dA), (.long ye)])) rfl rfl (hb hby de_35)
        have f29 := (V_d.other W14 (Ne.symm n2))
        obtain ⟨cl30, Ar30, q30, S30, M30, HH30, GG30⟩ := id f29
        have hin30 : ¬ ((1 : Int32) < 0 ∨ cl30.slots.size ≤ ((1 : Int32)).toNatClampNeg) := inb_of S30 ⟨by decide, by decide⟩
        have hat30 : cl30.slots[((1 : Int32)).toNatClampNeg]? = some (.long (0 : Int64)) := Has.at HH30 hin30 rfl
        obtain ⟨T31, X31, e31, st31⟩ := getF X28 hx hZ hown (wf24 hw) Via.refl e28 Fw14 (g := (mkF m 48 #[vr kw, vl yl, sd, vl ye, sd, vl yg, sd] [(.ref kw), (.ref kw)])) rfl rfl (hb hby de_48)
        have f32 := (E_k.wr W14)
        obtain ⟨T33, h33, X33, e33, W33, st33⟩ := putF X31 hx hZ hown (wf24 hw) Via.refl e31 Fw14 f32 (Or.inl (wd25 hw)) (wd1 hw) (ty := .int) (by decide) rfl rfl (g := (mkF m 53 #[vr kw, vl yl, sd, vl ye, sd, vl yg, sd] [(.int (2 : Int32)), (.ref kw)])) rfl rfl (hb hby de_53)
        have N33 := Fr.snoc X33 N14 g_k
        have Z33 : n0 ≤ h33.size := by rw [W33.size]; exact Z14
        have K33 := (K14.wr W33 (Or.inl (List.mem_of_getElem? (i := 0) rfl)))
        have Fw33 := Fw14.same W33
        obtain ⟨T34, X34, e34, st34⟩ := getF X33 hx hZ hown (wf24 hw) Via.refl e33 Fw33 (g := (mkF m 1 #[vr kw, vl yl, sd, vl ye, sd, vl yg, sd] [(.ref kw)])) rfl rfl (hb hby de_1)
        have f35 := (f16.other W33 (Or.inr (sn23 hw)))
        obtain ⟨T36, X36, e36, st36⟩ := getF X34 hx hZ hown (wf26 hw) Via.refl e34 f35 (g := (mkF m 5 #[vr kw, vl yl, sd, vl ye, sd, vl yg, sd] [(.ref kw), (.int (2 : Int32))])) rfl rfl (hb hby de_5)
        subst hEN
        obtain ⟨lfs, lhr, lhrun, lhended, lhW, lhsame⟩ := X36.leave (v := none) (fun _ => rfl)
        refine ⟨_, _, k23 _ ?_, lhrun, lhended, _, _, rfl, ?_, ⟨_, rfl⟩, lhW, lhsame.mono (by decide) (by decide)⟩
        · skip
          refine XS.ifNo X20.here hx rfl (hb hby de_26) rfl ((if0 _ _).trans (flt (fun q => hc24 ((lw_gt (yz / (1000000000 : Int64)) yl).mp q))).2.2.1) ?_
          refine XS.lloadN X20.here hx rfl (hb hby de_29) rfl ?_
          refine XS.aloadN X20.here hx rfl (hb hby de_30) rfl rfl ?_
          refine st27 _ ?_
          refine XS.aloadN X27.here hx rfl (hb hby de_34) rfl rfl ?_
          refine st28 _ ?_
          refine X28.laload hx (j := (1 : Int32)) (v := (.long (0 : Int64))) (by (try rw [e28]); exact Ar30.1) (State.isArrayOf_alike hZ.alike Ar30.2.1) Ar30.2.2 hin30 hat30 (g := (mkF m 38 #[vr kw, vl yl, sd, vl ye, sd, vl yg, sd] [(.int (1 : Int32)), (.ref dA), (.long ye)])) rfl rfl (hb hby de_38) _ ?_
          refine XS.lsub X28.here hx rfl (hb hby de_39) rfl ?_
          refine XS.lload X28.here hx rfl (hb hby de_40) rfl ?_
          refine XS.lcmp X28.here hx rfl (hb hby de_42) rfl ?_
          refine XS.ifNo X28.here hx rfl (hb hby de_43) rfl ((if0 _ _).trans (flt (fun q => hc12 ((lw_lt (ye - (0 : Int64)) yg).mp q))).1) ?_
          refine XS.aloadN X28.here hx rfl (hb hby de_46) rfl rfl ?_
          refine XS.dup X28.here hx rfl (hb hby de_47) rfl rfl ?_
          refine st31 _ ?_
          refine XS.iconst X31.here hx rfl (hb hby de_51) ?_
          refine XS.iadd X31.here hx rfl (hb hby de_52) rfl ?_
          refine st33 _ ?_
          refine XS.goto X33.here hx rfl (pc0 := 56) (pc' := 0) rfl (hb hby de_56) (by decide) (by decide) ?_
          refine XS.aloadN X33.here hx rfl (hb hby de_0) rfl rfl ?_
          refine st34 _ ?_
          refine XS.aloadN X34.here hx rfl (hb hby de_4) rfl rfl ?_
          refine st36 _ ?_
          refine XS.icmpYes X36.here hx rfl (pc0 := 8) (pc' := 59) rfl (hb hby de_8) rfl (flt (by decide : ¬ ((2 : Int32) < (2 : Int32)))).2.1 (by decide) (by decide) ?_
          show SS p e below T36 (mkF m 59 #[vr kw, vl yl, sd, vl ye, sd, vl yg, sd] []) _
          exact X36.returnOut hx Bd.returns (hb hby de_59) lhr
        · skip
          show QFg2 Z kw yl ye yg sA dA ksA kdA yx yz h0 n0 _ T36.heap _
          rw [e36]
          have f37 := (f32.wr W33)
          have f38 := (f18.other W33 (Or.inr (sn2 hw)))
          exact ⟨(2 : Int32), rfl, N33, K33, f37, f38, Fw33, f35, (Or.inr (Or.inr ⟨rfl, hc7, hc12, hc24⟩))⟩
theorem ef_Fs1 (m : MethodId) (x0 : Addr) : entryFrame m #[(.ref x0)] 1 = mkF m 0 #[vr x0] [] := by first | (simp [entryFrame, mkF, argsToLocals, Value.category]; done) | rfl
theorem dh_0 : decode prog_23_method_3_code 0 = .ok (.aload_n 0, 1) := by decide +kernel
theorem dh_1 : decode prog_23_method_3_code 1 = .ok (.getfield 26, 3) := by decide +kernel
theorem dh_4 : decode prog_23_method_3_code 4 = .ok (.aload_n 0, 1) := by decide +kernel
theorem dh_5 : decode prog_23_method_3_code 5 = .ok (.getfield 29, 3) := by decide +kernel
theorem dh_8 : decode prog_23_method_3_code 8 = .ok (.if_icmp .ge 15, 3) := by decide +kernel
theorem dh_11 : decode prog_23_method_3_code 11 = .ok (.aload_n 0, 1) := by decide +kernel
theorem dh_12 : decode prog_23_method_3_code 12 = .ok (.getfield 13, 3) := by decide +kernel
theorem dh_15 : decode prog_23_method_3_code 15 = .ok (.aload_n 0, 1) := by decide +kernel
theorem dh_16 : decode prog_23_method_3_code 16 = .ok (.getfield 26, 3) := by decide +kernel
theorem dh_19 : decode prog_23_method_3_code 19 = .ok (.laload, 1) := by decide +kernel
theorem dh_20 : decode prog_23_method_3_code 20 = .ok (.goto 6, 3) := by decide +kernel
theorem dh_26 : decode prog_23_method_3_code 26 = .ok (.lreturn, 1) := by decide +kernel
theorem dh_23 : decode prog_23_method_3_code 23 = .ok (.ldc2_w 36, 3) := by decide +kernel
def QFs1 (Z : State) (kw : Addr) (sA : Addr) (ksA : ClassId) (fi : Int32) (yx : Int64) (h0 : Heap) (n0 : Nat) (v : Option Value) (h : Heap) (L : List Loc) : Prop := v = some (.long (own_p1 fi yx)) ∧ Fr n0 L ∧ h = h0
set_option maxRecDepth 65536 in
set_option maxHeartbeats 40000000 in
theorem rmFs1 (l : Launch) (Z : State) (a0 : Array Value) (hw : ∀ d ∈ tables_1, d.before a0 Z = true) (ws : List Jvm.Cond) (kw : Addr) (sA : Addr) (ksA : ClassId) (fi : Int32) (yx : Int64) (h0 : Heap) (n0 : Nat) (Z0 : n0 ≤ h0.size) (F_s : Fld Z h0 kw cn2 "starts" "[J" (.ref sA)) (F_1 : Fld Z h0 kw cn2 "first" "I" (.int fi)) (F_e : Fld Z h0 kw cn2 "end" "I" (.int (1 : Int32))) (V_s : Arv Z h0 sA ksA .long (1 : Int32) [(.long yx)] (.long (0 : Int64))) (hf : fi = (0 : Int32) ∨ fi = (1 : Int32)) :
    MetFree l mn2 (head1 (Jvm.Cond.code mn2 prog_23_method_3_code 1 (some .long) :: ws) ({ frames := 0, cells := 0, slots := 0, locals := 0 } : Room)) (fun a U => a = #[(.ref kw)] ∧ Z.Warmed39 U.vm ∧ U.heap = h0) (fun _ _ _ _ _ => True) (fun _ U oc_ U' => ∃ v L, oc_ = .returned v ∧ QFs1 Z kw sA ksA fi yx h0 n0 v U'.heap L ∧ FrameEnd U oc_ U' L ({ frames := 0, cells := 0, slots := 0, locals := 0 } : Room).cells ({ frames := 0, cells := 0, slots := 0, locals := 0 } : Room).slots) := by
  refine MetFree.of_bodySF (plainFor_of_name pn_com_example_strict_limiter_strictlimiter_KeptWindows) hisR ?_
  intro p e s m args below meth c s₁ Bd hml0 hP hK
  obtain ⟨rfl, hZ, hh⟩ := hP
  have hx := Bd.exec
  have hby := Bd.bytes
  have hml : c.maxLocals = 1 := hml0
  have hown : s.vm.findClass cn2 = some m.cls := findClass_of_methodNamed Bd.named
  have hnm := (name_of_methodNamed Bd.named Bd.method).1
  have X0 : Stand p l e ({ frames := 0, cells := 0, slots := 0, locals := 0 } : Room) s m #[(.ref kw)] below meth c s₁ [] 0 0 := Stand.of_body Bd
  have e0 : s₁.heap = h0 := by rw [← hh, Bd.state]; rfl
  have N0 := Fr.nil n0
  have pre0 : ∀ t, SS p e below s₁ (mkF m 0 #[vr kw] []) t → Steps p.tables e below (s₁.setTop (entryFrame m #[(.ref kw)] 1)) t := fun t k => castTop (ef_Fs1 m kw) k
  obtain ⟨EN, hEN⟩ : ∃ z, z = s₁.setTop (entryFrame m #[(.ref kw)] 1) := ⟨_, rfl⟩
  rw [← hEN] at pre0
  rcases hf with ei | ei
  · skip
    have F_l : Fld Z h0 kw cn2 "first" "I" (.int (0 : Int32)) := by rw [← ei]; exact F_1
    obtain ⟨T1, X1, e1, st1⟩ := getF X0 hx hZ hown (wf24 hw) Via.refl e0 F_l (g := (mkF m 1 #[vr kw] [(.ref kw)])) rfl rfl (hb hby dh_1)
    obtain ⟨T2, X2, e2, st2⟩ := getF X1 hx hZ hown (wf26 hw) Via.refl e1 F_e (g := (mkF m 5 #[vr kw] [(.ref kw), (.int (0 : Int32))])) rfl rfl (hb hby dh_5)
    obtain ⟨T3, X3, e3, st3⟩ := getF X2 hx hZ hown (wf11 hw) Via.refl e2 F_s (g := (mkF m 12 #[vr kw] [(.ref kw)])) rfl rfl (hb hby dh_12)
    obtain ⟨T4, X4, e4, st4⟩ := getF X3 hx hZ hown (wf24 hw) Via.refl e3 F_l (g := (mkF m 16 #[vr kw] [(.ref kw), (.ref sA)])) rfl rfl (hb hby dh_16)
    obtain ⟨cl5, Ar5, q5, S5, M5, HH5, GG5⟩ := id V_s
    have hin5 : ¬ ((0 : Int32) < 0 ∨ cl5.slots.size ≤ ((0 : Int32)).toNatClampNeg) := inb_of S5 ⟨by decide, by decide⟩
    have hat5 : cl5.slots[((0 : Int32)).toNatClampNeg]? = some (.long yx) := Has.at HH5 hin5 rfl
    subst hEN
    obtain ⟨lfs, lhr, lhrun, lhended, lhW, lhsame⟩ := X4.leave (v := some (.long yx)) (fun h => by rw [Bd.returns] at h; cases h)
    refine ⟨_, _, pre0 _ ?_, lhrun, lhended, _, _, rfl, ?_, ⟨_, rfl⟩, lhW, lhsame.mono (by decide) (by decide)⟩
    · skip
      refine XS.aloadN X0.here hx rfl (hb hby dh_0) rfl rfl ?_
      refine st1 _ ?_
      refine XS.aloadN X1.here hx rfl (hb hby dh_4) rfl rfl ?_
      refine st2 _ ?_
      refine XS.icmpNo X2.here hx rfl (hb hby dh_8) rfl (tlt (by decide : (0 : Int32) < (1 : Int32))).2.1 ?_
      refine XS.aloadN X2.here hx rfl (hb hby dh_11) rfl rfl ?_
      refine st3 _ ?_
      refine XS.aloadN X3.here hx rfl (hb hby dh_15) rfl rfl ?_
      refine st4 _ ?_
      refine X4.laload hx (j := (0 : Int32)) (v := (.long yx)) (by (try rw [e4]); exact Ar5.1) (State.isArrayOf_alike hZ.alike Ar5.2.1) Ar5.2.2 hin5 hat5 (g := (mkF m 19 #[vr kw] [(.int (0 : Int32)), (.ref sA)])) rfl rfl (hb hby dh_19) _ ?_
      refine XS.goto X4.here hx rfl (pc0 := 20) (pc' := 26) rfl (hb hby dh_20) (by decide) (by decide) ?_
      show SS p e below T4 (mkF m 26 #[vr kw] [(.long yx)]) _
      exact retOut X4 hx Bd.returns rfl (Or.inr (Or.inl ⟨rfl, rfl, _, rfl⟩)) (hb hby dh_26) lhr
    · skip
      show QFs1 Z kw sA ksA fi yx h0 n0 _ T4.heap _
      rw [e4]
      refine ⟨?_, N0, rfl⟩
      rw [ei, own_p1_0]
  · skip
    have F_l : Fld Z h0 kw cn2 "first" "I" (.int (1 : Int32)) := by rw [← ei]; exact F_1
    obtain ⟨T6, X6, e6, st6⟩ := getF X0 hx hZ hown (wf24 hw) Via.refl e0 F_l (g := (mkF m 1 #[vr kw] [(.ref kw)])) rfl rfl (hb hby dh_1)
    obtain ⟨T7, X7, e7, st7⟩ := getF X6 hx hZ hown (wf26 hw) Via.refl e6 F_e (g := (mkF m 5 #[vr kw] [(.ref kw), (.int (1 : Int32))])) rfl rfl (hb hby dh_5)
    subst hEN
    obtain ⟨lfs, lhr, lhrun, lhended, lhW, lhsame⟩ := X7.leave (v := some (.long (9223372036854775807 : Int64))) (fun h => by rw [Bd.returns] at h; cases h)
    refine ⟨_, _, pre0 _ ?_, lhrun, lhended, _, _, rfl, ?_, ⟨_, rfl⟩, lhW, lhsame.mono (by decide) (by decide)⟩
    · skip
      refine XS.aloadN X0.here hx rfl (hb hby dh_0) rfl rfl ?_
      refine st6 _ ?_
      refine XS.aloadN X6.here hx rfl (hb hby dh_4) rfl rfl ?_
      refine st7 _ ?_
      refine XS.icmpYes X7.here hx rfl (pc0 := 8) (pc' := 23) rfl (hb hby dh_8) rfl (flt (by decide : ¬ ((1 : Int32) < (1 : Int32)))).2.1 (by decide) (by decide) ?_
      refine X7.ldc2Long hx hown (mvT hZ (wd28 hw)) (g := (mkF m 23 #[vr kw] [])) rfl (hb hby dh_23) _ ?_
      show SS p e below T7 (mkF m 26 #[vr kw] [(.long (9223372036854775807 : Int64))]) _
      exact retOut X7 hx Bd.returns rfl (Or.inr (Or.inl ⟨rfl, rfl, _, rfl⟩)) (hb hby dh_26) lhr
    · skip
      show QFs1 Z kw sA ksA fi yx h0 n0 _ T7.heap _
      rw [e7]
      refine ⟨?_, N0, rfl⟩
      rw [ei, own_p1_1]
theorem ef_Fs2 (m : MethodId) (x0 : Addr) : entryFrame m #[(.ref x0)] 1 = mkF m 0 #[vr x0] [] := by first | (simp [entryFrame, mkF, argsToLocals, Value.category]; done) | rfl
def QFs2 (Z : State) (kw : Addr) (sA : Addr) (ksA : ClassId) (fi : Int32) (yx : Int64) (yz : Int64) (h0 : Heap) (n0 : Nat) (v : Option Value) (h : Heap) (L : List Loc) : Prop := v = some (.long (own_p2 fi yx yz)) ∧ Fr n0 L ∧ h = h0
set_option maxRecDepth 65536 in
set_option maxHeartbeats 40000000 in
theorem rmFs2 (l : Launch) (Z : State) (a0 : Array Value) (hw : ∀ d ∈ tables_1, d.before a0 Z = true) (ws : List Jvm.Cond) (kw : Addr) (sA : Addr) (ksA : ClassId) (fi : Int32) (yx : Int64) (yz : Int64) (h0 : Heap) (n0 : Nat) (Z0 : n0 ≤ h0.size) (F_s : Fld Z h0 kw cn2 "starts" "[J" (.ref sA)) (F_1 : Fld Z h0 kw cn2 "first" "I" (.int fi)) (F_e : Fld Z h0 kw cn2 "end" "I" (.int (2 : Int32))) (V_s : Arv Z h0 sA ksA .long (2 : Int32) [(.long yx), (.long yz)] (.long (0 : Int64))) (hf : fi = (0 : Int32) ∨ fi = (1 : Int32) ∨ fi = (2 : Int32)) :
    MetFree l mn2 (head1 (Jvm.Cond.code mn2 prog_23_method_3_code 1 (some .long) :: ws) ({ frames := 0, cells := 0, slots := 0, locals := 0 } : Room)) (fun a U => a = #[(.ref kw)] ∧ Z.Warmed39 U.vm ∧ U.heap = h0) (fun _ _ _ _ _ => True) (fun _ U oc_ U' => ∃ v L, oc_ = .returned v ∧ QFs2 Z kw sA ksA fi yx yz h0 n0 v U'.heap L ∧ FrameEnd U oc_ U' L ({ frames := 0, cells := 0, slots := 0, locals := 0 } : Room).cells ({ frames := 0, cells := 0, slots := 0, locals := 0 } : Room).slots) := by
  refine MetFree.of_bodySF (plainFor_of_name pn_com_example_strict_limiter_strictlimiter_KeptWindows) hisR ?_
  intro p e s m args below meth c s₁ Bd hml0 hP hK
  obtain ⟨rfl, hZ, hh⟩ := hP
  have hx := Bd.exec
  have hby := Bd.bytes
  have hml : c.maxLocals = 1 := hml0
  have hown : s.vm.findClass cn2 = some m.cls := findClass_of_methodNamed Bd.named
  have hnm := (name_of_methodNamed Bd.named Bd.method).1
  have X0 : Stand p l e ({ frames := 0, cells := 0, slots := 0, locals := 0 } : Room) s m #[(.ref kw)] below meth c s₁ [] 0 0 := Stand.of_body Bd
  have e0 : s₁.heap = h0 := by rw [← hh, Bd.state]; rfl
  have N0 := Fr.nil n0
  have pre0 : ∀ t, SS p e below s₁ (mkF m 0 #[vr kw] []) t → Steps p.tables e below (s₁.setTop (entryFrame m #[(.ref kw)] 1)) t := fun t k => castTop (ef_Fs2 m kw) k
  obtain ⟨EN, hEN⟩ : ∃ z, z = s₁.setTop (entryFrame m #[(.ref kw)] 1) := ⟨_, rfl⟩
  rw [← hEN] at pre0
  rcases hf with ei | ei | ei
  · skip
    have F_l : Fld Z h0 kw cn2 "first" "I" (.int (0 : Int32)) := by rw [← ei]; exact F_1
    obtain ⟨T1, X1, e1, st1⟩ := getF X0 hx hZ hown (wf24 hw) Via.refl e0 F_l (g := (mkF m 1 #[vr kw] [(.ref kw)])) rfl rfl (hb hby dh_1)
    obtain ⟨T2, X2, e2, st2⟩ := getF X1 hx hZ hown (wf26 hw) Via.refl e1 F_e (g := (mkF m 5 #[vr kw] [(.ref kw), (.int (0 : Int32))])) rfl rfl (hb hby dh_5)
    obtain ⟨T3, X3, e3, st3⟩ := getF X2 hx hZ hown (wf11 hw) Via.refl e2 F_s (g := (mkF m 12 #[vr kw] [(.ref kw)])) rfl rfl (hb hby dh_12)
    obtain ⟨T4, X4, e4, st4⟩ := getF X3 hx hZ hown (wf24 hw) Via.refl e3 F_l (g := (mkF m 16 #[vr kw] [(.ref kw), (.ref sA)])) rfl rfl (hb hby dh_16)
    obtain ⟨cl5, Ar5, q5, S5, M5, HH5, GG5⟩ := id V_s
    have hin5 : ¬ ((0 : Int32) < 0 ∨ cl5.slots.size ≤ ((0 : Int32)).toNatClampNeg) := inb_of S5 ⟨by decide, by decide⟩
    have hat5 : cl5.slots[((0 : Int32)).toNatClampNeg]? = some (.long yx) := Has.at HH5 hin5 rfl
    subst hEN
    obtain ⟨lfs, lhr, lhrun, lhended, lhW, lhsame⟩ := X4.leave (v := some (.long yx)) (fun h => by rw [Bd.returns] at h; cases h)
    refine ⟨_, _, pre0 _ ?_, lhrun, lhended, _, _, rfl, ?_, ⟨_, rfl⟩, lhW, lhsame.mono (by decide) (by decide)⟩
    · skip
      refine XS.aloadN X0.here hx rfl (hb hby dh_0) rfl rfl ?_
      refine st1 _ ?_
      refine XS.aloadN X1.here hx rfl (hb hby dh_4) rfl rfl ?_
      refine st2 _ ?_
      refine XS.icmpNo X2.here hx rfl (hb hby dh_8) rfl (tlt (by decide : (0 : Int32) < (2 : Int32))).2.1 ?_
      refine XS.aloadN X2.here hx rfl (hb hby dh_11) rfl rfl ?_
      refine st3 _ ?_
      refine XS.aloadN X3.here hx rfl (hb hby dh_15) rfl rfl ?_
      refine st4 _ ?_
      refine X4.laload hx (j := (0 : Int32)) (v := (.long yx)) (by (try rw [e4]); exact Ar5.1) (State.isArrayOf_alike hZ.alike Ar5.2.1) Ar5.2.2 hin5 hat5 (g := (mkF m 19 #[vr kw] [(.int (0 : Int32)), (.ref sA)])) rfl rfl (hb hby dh_19) _ ?_
      refine XS.goto X4.here hx rfl (pc0 := 20) (pc' := 26) rfl (hb hby dh_20) (by decide) (by decide) ?_
      show SS p e below T4 (mkF m 26 #[vr kw] [(.long yx)]) _
      exact retOut X4 hx Bd.returns rfl (Or.inr (Or.inl ⟨rfl, rfl, _, rfl⟩)) (hb hby dh_26) lhr
    · skip
      show QFs2 Z kw sA ksA fi yx yz h0 n0 _ T4.heap _
      rw [e4]
      refine ⟨?_, N0, rfl⟩
      rw [ei, own_p2_0]
  · skip
    have F_l : Fld Z h0 kw cn2 "first" "I" (.int (1 : Int32)) := by rw [← ei]; exact F_1
    obtain ⟨T6, X6, e6, st6⟩ := getF X0 hx hZ hown (wf24 hw) Via.refl e0 F_l (g := (mkF m 1 #[vr kw] [(.ref kw)])) rfl rfl (hb hby dh_1)
    obtain ⟨T7, X7, e7, st7⟩ := getF X6 hx hZ hown (wf26 hw) Via.refl e6 F_e (g := (mkF m 5 #[vr kw] [(.ref kw), (.int (1 : Int32))])) rfl rfl (hb hby dh_5)
    obtain ⟨T8, X8, e8, st8⟩ := getF X7 hx hZ hown (wf11 hw) Via.refl e7 F_s (g := (mkF m 12 #[vr kw] [(.ref kw)])) rfl rfl (hb hby dh_12)
    obtain ⟨T9, X9, e9, st9⟩ := getF X8 hx hZ hown (wf24 hw) Via.refl e8 F_l (g := (mkF m 16 #[vr kw] [(.ref kw), (.ref sA)])) rfl rfl (hb hby dh_16)
    obtain ⟨cl10, Ar10, q10, S10, M10, HH10, GG10⟩ := id V_s
    have hin10 : ¬ ((1 : Int32) < 0 ∨ cl10.slots.size ≤ ((1 : Int32)).toNatClampNeg) := inb_of S10 ⟨by decide, by decide⟩
    have hat10 : cl10.slots[((1 : Int32)).toNatClampNeg]? = some (.long yz) := Has.at HH10 hin10 rfl
    subst hEN
    obtain ⟨lfs, lhr, lhrun, lhended, lhW, lhsame⟩ := X9.leave (v := some (.long yz)) (fun h => by rw [Bd.returns] at h; cases h)
    refine ⟨_, _, pre0 _ ?_, lhrun, lhended, _, _, rfl, ?_, ⟨_, rfl⟩, lhW, lhsame.mono (by decide) (by decide)⟩
    · skip
      refine XS.aloadN X0.here hx rfl (hb hby dh_0) rfl rfl ?_
      refine st6 _ ?_
      refine XS.aloadN X6.here hx rfl (hb hby dh_4) rfl rfl ?_
      refine st7 _ ?_
      refine XS.icmpNo X7.here hx rfl (hb hby dh_8) rfl (tlt (by decide : (1 : Int32) < (2 : Int32))).2.1 ?_
      refine XS.aloadN X7.here hx rfl (hb hby dh_11) rfl rfl ?_
      refine st8 _ ?_
      refine XS.aloadN X8.here hx rfl (hb hby dh_15) rfl rfl ?_
      refine st9 _ ?_
      refine X9.laload hx (j := (1 : Int32)) (v := (.long yz)) (by (try rw [e9]); exact Ar10.1) (State.isArrayOf_alike hZ.alike Ar10.2.1) Ar10.2.2 hin10 hat10 (g := (mkF m 19 #[vr kw] [(.int (1 : Int32)), (.ref sA)])) rfl rfl (hb hby dh_19) _ ?_
      refine XS.goto X9.here hx rfl (pc0 := 20) (pc' := 26) rfl (hb hby dh_20) (by decide) (by decide) ?_
      show SS p e below T9 (mkF m 26 #[vr kw] [(.long yz)]) _
      exact retOut X9 hx Bd.returns rfl (Or.inr (Or.inl ⟨rfl, rfl, _, rfl⟩)) (hb hby dh_26) lhr
    · skip
      show QFs2 Z kw sA ksA fi yx yz h0 n0 _ T9.heap _
      rw [e9]
      refine ⟨?_, N0, rfl⟩
      rw [ei, own_p2_1]
  · skip
    have F_l : Fld Z h0 kw cn2 "first" "I" (.int (2 : Int32)) := by rw [← ei]; exact F_1
    obtain ⟨T11, X11, e11, st11⟩ := getF X0 hx hZ hown (wf24 hw) Via.refl e0 F_l (g := (mkF m 1 #[vr kw] [(.ref kw)])) rfl rfl (hb hby dh_1)
    obtain ⟨T12, X12, e12, st12⟩ := getF X11 hx hZ hown (wf26 hw) Via.refl e11 F_e (g := (mkF m 5 #[vr kw] [(.ref kw), (.int (2 : Int32))])) rfl rfl (hb hby dh_5)
    subst hEN
    obtain ⟨lfs, lhr, lhrun, lhended, lhW, lhsame⟩ := X12.leave (v := some (.long (9223372036854775807 : Int64))) (fun h => by rw [Bd.returns] at h; cases h)
    refine ⟨_, _, pre0 _ ?_, lhrun, lhended, _, _, rfl, ?_, ⟨_, rfl⟩, lhW, lhsame.mono (by decide) (by decide)⟩
    · skip
      refine XS.aloadN X0.here hx rfl (hb hby dh_0) rfl rfl ?_
      refine st11 _ ?_
      refine XS.aloadN X11.here hx rfl (hb hby dh_4) rfl rfl ?_
      refine st12 _ ?_
      refine XS.icmpYes X12.here hx rfl (pc0 := 8) (pc' := 23) rfl (hb hby dh_8) rfl (flt (by decide : ¬ ((2 : Int32) < (2 : Int32)))).2.1 (by decide) (by decide) ?_
      refine X12.ldc2Long hx hown (mvT hZ (wd28 hw)) (g := (mkF m 23 #[vr kw] [])) rfl (hb hby dh_23) _ ?_
      show SS p e below T12 (mkF m 26 #[vr kw] [(.long (9223372036854775807 : Int64))]) _
      exact retOut X12 hx Bd.returns rfl (Or.inr (Or.inl ⟨rfl, rfl, _, rfl⟩)) (hb hby dh_26) lhr
    · skip
      show QFs2 Z kw sA ksA fi yx yz h0 n0 _ T12.heap _
      rw [e12]
      refine ⟨?_, N0, rfl⟩
      rw [ei, own_p2_2]
theorem efa_prog_23_method_1_code_vv (m : MethodId) (x0 : Addr) (x1 : Int32) : entryFrame m #[(.ref x0), (.int x1)] 2 = mkF m 0 #[vr x0, vi x1] [] := by first | (simp [entryFrame, mkF, argsToLocals, Value.category]; done) | rfl
theorem dg_0 : decode prog_23_method_1_code 0 = .ok (.aload_n 0, 1) := by decide +kernel
theorem dg_1 : decode prog_23_method_1_code 1 = .ok (.invokespecial 1, 3) := by decide +kernel
theorem dg_4 : decode prog_23_method_1_code 4 = .ok (.aload_n 0, 1) := by decide +kernel
theorem dg_5 : decode prog_23_method_1_code 5 = .ok (.getstatic 7, 3) := by decide +kernel
theorem dg_8 : decode prog_23_method_1_code 8 = .ok (.putfield 13, 3) := by decide +kernel
theorem dg_11 : decode prog_23_method_1_code 11 = .ok (.aload_n 0, 1) := by decide +kernel
theorem dg_12 : decode prog_23_method_1_code 12 = .ok (.getstatic 7, 3) := by decide +kernel
theorem dg_15 : decode prog_23_method_1_code 15 = .ok (.putfield 16, 3) := by decide +kernel
theorem dg_18 : decode prog_23_method_1_code 18 = .ok (.aload_n 0, 1) := by decide +kernel
theorem dg_19 : decode prog_23_method_1_code 19 = .ok (.getstatic 7, 3) := by decide +kernel
theorem dg_22 : decode prog_23_method_1_code 22 = .ok (.putfield 19, 3) := by decide +kernel
theorem dg_25 : decode prog_23_method_1_code 25 = .ok (.aload_n 0, 1) := by decide +kernel
theorem dg_26 : decode prog_23_method_1_code 26 = .ok (.iload_n 1, 1) := by decide +kernel
theorem dg_27 : decode prog_23_method_1_code 27 = .ok (.putfield 22, 3) := by decide +kernel
theorem dg_30 : decode prog_23_method_1_code 30 = .ok (.return_, 1) := by decide +kernel
def QA101 (Z : State) (o0 : Addr) (x1 : Int32) (o2 : Addr) (u100 : Value) (u101 : Value) (h0 : Heap) (n0 : Nat) (v : Option Value) (h : Heap) (L : List Loc) : Prop := v = none ∧ Fr n0 L ∧ Keep h0 h [o0] ∧ Exa Z h o0 cn2 ∧ Fld Z h o0 cn2 "starts" "[J" (.ref o2) ∧ Fld Z h o0 cn2 "records" "[J" (.ref o2) ∧ Fld Z h o0 cn2 "decidedAt" "[J" (.ref o2) ∧ Fld Z h o0 cn2 "width" "I" (.int x1) ∧ Fld Z h o0 cn2 "first" "I" u100 ∧ Fld Z h o0 cn2 "end" "I" u101
set_option maxRecDepth 65536 in
set_option maxHeartbeats 40000000 in
theorem rmA101 (l : Launch) (Z : State) (a0 : Array Value) (hw : ∀ d ∈ tables_1, d.before a0 Z = true) (ws : List Jvm.Cond) (o0 : Addr) (x1 : Int32) (o2 : Addr) (u100 : Value) (u101 : Value) (h0 : Heap) (n0 : Nat) (Z0 : n0 ≤ h0.size) (S_NONE : Sta Z h0 cn2 "NONE" "[J" (.ref o2)) (E_o0 : Exa Z h0 o0 cn2) (F_o0_starts : Fld Z h0 o0 cn2 "starts" "[J" .null) (g_o0 : n0 ≤ o0) (F_o0_records : Fld Z h0 o0 cn2 "records" "[J" .null) (F_o0_decidedAt : Fld Z h0 o0 cn2 "decidedAt" "[J" .null) (F_o0_width : Fld Z h0 o0 cn2 "width" "I" (.int (0 : Int32))) (F_o0_first : Fld Z h0 o0 cn2 "first" "I" u100) (F_o0_end : Fld Z h0 o0 cn2 "end" "I" u101) :
    MetFree l mn0 (head1 (Jvm.Cond.code mn0 prog_23_method_1_code 2 none :: ws) ({ frames := 1, cells := 0, slots := 0, locals := 12 } : Room)) (fun a U => a = #[(.ref o0), (.int x1)] ∧ Z.Warmed39 U.vm ∧ U.heap = h0) (fun _ _ _ _ _ => True) (fun _ U oc_ U' => ∃ v L, oc_ = .returned v ∧ QA101 Z o0 x1 o2 u100 u101 h0 n0 v U'.heap L ∧ FrameEnd U oc_ U' L ({ frames := 1, cells := 0, slots := 0, locals := 12 } : Room).cells ({ frames := 1, cells := 0, slots := 0, locals := 12 } : Room).slots) := by
  refine MetFree.of_bodySF (plainFor_of_name pn_com_example_strict_limiter_strictlimiter_KeptWindows) hisR ?_
  intro p e s m args below meth c s₁ Bd hml0 hP hK
  obtain ⟨rfl, hZ, hh⟩ := hP
  have hx := Bd.exec
  have hby := Bd.bytes
  have hml : c.maxLocals = 2 := hml0
  have hown : s.vm.findClass cn2 = some m.cls := findClass_of_methodNamed Bd.named
  have hnm := (name_of_methodNamed Bd.named Bd.method).1
  have X0 : Stand p l e ({ frames := 1, cells := 0, slots := 0, locals := 12 } : Room) s m #[(.ref o0), (.int x1)] below meth c s₁ [] 0 0 := Stand.of_body Bd
  have e0 : s₁.heap = h0 := by rw [← hh, Bd.state]; rfl
  have N0 := Fr.nil n0
  have pre0 : ∀ t, SS p e below s₁ (mkF m 0 #[vr o0, vi x1] []) t → Steps p.tables e below (s₁.setTop (entryFrame m #[(.ref o0), (.int x1)] 2)) t := fun t k => castTop (efa_prog_23_method_1_code_vv m o0 x1) k
  obtain ⟨EN, hEN⟩ : ∃ z, z = s₁.setTop (entryFrame m #[(.ref o0), (.int x1)] 2) := ⟨_, rfl⟩
  rw [← hEN] at pre0
  obtain ⟨T1, X1, e1, st1⟩ := initO X0 hx hZ hown (wd6 hw) (wd7 hw) (wd8 hw) e0 (g := (mkF m 1 #[vr o0, vi x1] [(.ref o0)])) rfl (by rw [hml]; rfl) rfl (hb hby dg_1) (by decide) (W := 0) (by show 2 * 0 + _ ≤ _; exact Nat.le_of_eq rfl) (by decide)
  obtain ⟨T2, X2, e2, st2⟩ := getS2 X1 hx hZ hown (wf9 hw) Via.refl e1 S_NONE (g := (mkF m 5 #[vr o0, vi x1] [(.ref o0)])) rfl (hb hby dg_5)
  obtain ⟨T3, h3, X3, e3, W3, st3⟩ := putF X2 hx hZ hown (wf11 hw) Via.refl e2 F_o0_starts E_o0 (Or.inl (wd12 hw)) (wd1 hw) (ty := (.array .long)) (by decide) rfl rfl (g := (mkF m 8 #[vr o0, vi x1] [(.ref o2), (.ref o0)])) rfl rfl (hb hby dg_8)
  have N3 := Fr.snoc X3 N0 g_o0
  have Z3 : n0 ≤ h3.size := by rw [W3.size]; exact Z0
  have K3 : Keep h0 h3 [o0] := ((Keep.refl h0 [o0]).wr W3 (Or.inl (List.mem_of_getElem? (i := 0) rfl)))
  have Fw3 := F_o0_starts.same W3
  have f4 := (S_NONE.wr W3)
  obtain ⟨T5, X5, e5, st5⟩ := getS2 X3 hx hZ hown (wf9 hw) Via.refl e3 f4 (g := (mkF m 12 #[vr o0, vi x1] [(.ref o0)])) rfl (hb hby dg_12)
  have f6 := (E_o0.wr W3)
  have f7 := (F_o0_records.other W3 (Or.inr (sn5 hw)))
  obtain ⟨T8, h8, X8, e8, W8, st8⟩ := putF X5 hx hZ hown (wf13 hw) Via.refl e5 f7 f6 (Or.inl (wd14 hw)) (wd1 hw) (ty := (.array .long)) (by decide) rfl rfl (g := (mkF m 15 #[vr o0, vi x1] [(.ref o2), (.ref o0)])) rfl rfl (hb hby dg_15)
  have N8 := Fr.snoc X8 N3 g_o0
  have Z8 : n0 ≤ h8.size := by rw [W8.size]; exact Z3
  have K8 := (K3.wr W8 (Or.inl (List.mem_of_getElem? (i := 0) rfl)))
  have Fw8 := f7.same W8
  have f9 := (f4.wr W8)
  obtain ⟨T10, X10, e10, st10⟩ := getS2 X8 hx hZ hown (wf9 hw) Via.refl e8 f9 (g := (mkF m 19 #[vr o0, vi x1] [(.ref o0)])) rfl (hb hby dg_19)
  have f11 := (f6.wr W8)
  have f12 := ((F_o0_decidedAt.other W3 (Or.inr (sn10 hw))).other W8 (Or.inr (sn11 hw)))
  obtain ⟨T13, h13, X13, e13, W13, st13⟩ := putF X10 hx hZ hown (wf15 hw) Via.refl e10 f12 f11 (Or.inl (wd16 hw)) (wd1 hw) (ty := (.array .long)) (by decide) rfl rfl (g := (mkF m 22 #[vr o0, vi x1] [(.ref o2), (.ref o0)])) rfl rfl (hb hby dg_22)
  have N13 := Fr.snoc X13 N8 g_o0
  have Z13 : n0 ≤ h13.size := by rw [W13.size]; exact Z8
  have K13 := (K8.wr W13 (Or.inl (List.mem_of_getElem? (i := 0) rfl)))
  have Fw13 := f12.same W13
  have f14 := (f11.wr W13)
  have f15 := (((F_o0_width.other W3 (Or.inr (sn25 hw))).other W8 (Or.inr (sn26 hw))).other W13 (Or.inr (sn27 hw)))
  obtain ⟨T16, h16, X16, e16, W16, st16⟩ := putF X13 hx hZ hown (wf17 hw) Via.refl e13 f15 f14 (Or.inr ⟨(wd18 hw), rfl, hnm⟩) (wd1 hw) (ty := .int) (by decide) rfl rfl (g := (mkF m 27 #[vr o0, vi x1] [(.int x1), (.ref o0)])) rfl rfl (hb hby dg_27)
  have N16 := Fr.snoc X16 N13 g_o0
  have Z16 : n0 ≤ h16.size := by rw [W16.size]; exact Z13
  have K16 := (K13.wr W16 (Or.inl (List.mem_of_getElem? (i := 0) rfl)))
  have Fw16 := f15.same W16
  have f17 := (f14.wr W16)
  have f18 := (((Fw3.other W8 (Or.inr (sn0 hw))).other W13 (Or.inr (sn1 hw))).other W16 (Or.inr (sn4 hw)))
  have f19 := ((Fw8.other W13 (Or.inr (sn6 hw))).other W16 (Or.inr (sn9 hw)))
  have f20 := (Fw13.other W16 (Or.inr (sn14 hw)))
  have f21 := ((((F_o0_first.other W3 (Or.inr (sn15 hw))).other W8 (Or.inr (sn16 hw))).other W13 (Or.inr (sn17 hw))).other W16 (Or.inr (sn19 hw)))
  have f22 := ((((F_o0_end.other W3 (Or.inr (sn20 hw))).other W8 (Or.inr (sn21 hw))).other W13 (Or.inr (sn22 hw))).other W16 (Or.inr (sn24 hw)))
  subst hEN
  obtain ⟨lfs, lhr, lhrun, lhended, lhW, lhsame⟩ := X16.leave (v := none) (fun _ => rfl)
  refine ⟨_, _, pre0 _ ?_, lhrun, lhended, _, _, rfl, ?_, ⟨_, rfl⟩, lhW, lhsame.mono (by decide) (by decide)⟩
  · skip
    refine XS.aloadN X0.here hx rfl (hb hby dg_0) rfl rfl ?_
    refine st1 _ ?_
    refine XS.aloadN X1.here hx rfl (hb hby dg_4) rfl rfl ?_
    refine st2 _ ?_
    refine st3 _ ?_
    refine XS.aloadN X3.here hx rfl (hb hby dg_11) rfl rfl ?_
    refine st5 _ ?_
    refine st8 _ ?_
    refine XS.aloadN X8.here hx rfl (hb hby dg_18) rfl rfl ?_
    refine st10 _ ?_
    refine st13 _ ?_
    refine XS.aloadN X13.here hx rfl (hb hby dg_25) rfl rfl ?_
    refine XS.iloadN X13.here hx rfl (hb hby dg_26) rfl ?_
    refine st16 _ ?_
    show SS p e below T16 (mkF m 30 #[vr o0, vi x1] []) _
    exact X16.returnOut hx Bd.returns (hb hby dg_30) lhr
  · skip
    show QA101 Z o0 x1 o2 u100 u101 h0 n0 _ T16.heap _
    rw [e16]
    exact ⟨rfl, N16, K16, f17, f18, f19, f20, Fw16, f21, f22⟩
theorem efa_prog_23_method_3_code_v (m : MethodId) (x0 : Addr) : entryFrame m #[(.ref x0)] 1 = mkF m 0 #[vr x0] [] := by first | (simp [entryFrame, mkF, argsToLocals, Value.category]; done) | rfl
def QA102 (Z : State) (o0 : Addr) (h0 : Heap) (n0 : Nat) (v : Option Value) (h : Heap) (L : List Loc) : Prop := v = some (.long (9223372036854775807 : Int64)) ∧ Fr n0 L ∧ h = h0
set_option maxRecDepth 65536 in
set_option maxHeartbeats 40000000 in
theorem rmA102 (l : Launch) (Z : State) (a0 : Array Value) (hw : ∀ d ∈ tables_1, d.before a0 Z = true) (ws : List Jvm.Cond) (o0 : Addr) (h0 : Heap) (n0 : Nat) (Z0 : n0 ≤ h0.size) (F_o0_first : Fld Z h0 o0 cn2 "first" "I" (.int (0 : Int32))) (F_o0_end : Fld Z h0 o0 cn2 "end" "I" (.int (0 : Int32))) :
    MetFree l mn2 (head1 (Jvm.Cond.code mn2 prog_23_method_3_code 1 (some .long) :: ws) ({ frames := 0, cells := 0, slots := 0, locals := 0 } : Room)) (fun a U => a = #[(.ref o0)] ∧ Z.Warmed39 U.vm ∧ U.heap = h0) (fun _ _ _ _ _ => True) (fun _ U oc_ U' => ∃ v L, oc_ = .returned v ∧ QA102 Z o0 h0 n0 v U'.heap L ∧ FrameEnd U oc_ U' L ({ frames := 0, cells := 0, slots := 0, locals := 0 } : Room).cells ({ frames := 0, cells := 0, slots := 0, locals := 0 } : Room).slots) := by
  refine MetFree.of_bodySF (plainFor_of_name pn_com_example_strict_limiter_strictlimiter_KeptWindows) hisR ?_
  intro p e s m args below meth c s₁ Bd hml0 hP hK
  obtain ⟨rfl, hZ, hh⟩ := hP
  have hx := Bd.exec
  have hby := Bd.bytes
  have hml : c.maxLocals = 1 := hml0
  have hown : s.vm.findClass cn2 = some m.cls := findClass_of_methodNamed Bd.named
  have hnm := (name_of_methodNamed Bd.named Bd.method).1
  have X0 : Stand p l e ({ frames := 0, cells := 0, slots := 0, locals := 0 } : Room) s m #[(.ref o0)] below meth c s₁ [] 0 0 := Stand.of_body Bd
  have e0 : s₁.heap = h0 := by rw [← hh, Bd.state]; rfl
  have N0 := Fr.nil n0
  have pre0 : ∀ t, SS p e below s₁ (mkF m 0 #[vr o0] []) t → Steps p.tables e below (s₁.setTop (entryFrame m #[(.ref o0)] 1)) t := fun t k => castTop (efa_prog_23_method_3_code_v m o0) k
  obtain ⟨EN, hEN⟩ : ∃ z, z = s₁.setTop (entryFrame m #[(.ref o0)] 1) := ⟨_, rfl⟩
  rw [← hEN] at pre0
  obtain ⟨T1, X1, e1, st1⟩ := getF X0 hx hZ hown (wf24 hw) Via.refl e0 F_o0_first (g := (mkF m 1 #[vr o0] [(.ref o0)])) rfl rfl (hb hby dh_1)
  obtain ⟨T2, X2, e2, st2⟩ := getF X1 hx hZ hown (wf26 hw) Via.refl e1 F_o0_end (g := (mkF m 5 #[vr o0] [(.ref o0), (.int (0 : Int32))])) rfl rfl (hb hby dh_5)
  subst hEN
  obtain ⟨lfs, lhr, lhrun, lhended, lhW, lhsame⟩ := X2.leave (v := some (.long (9223372036854775807 : Int64))) (fun h => by rw [Bd.returns] at h; cases h)
  refine ⟨_, _, pre0 _ ?_, lhrun, lhended, _, _, rfl, ?_, ⟨_, rfl⟩, lhW, lhsame.mono (by decide) (by decide)⟩
  · skip
    refine XS.aloadN X0.here hx rfl (hb hby dh_0) rfl rfl ?_
    refine st1 _ ?_
    refine XS.aloadN X1.here hx rfl (hb hby dh_4) rfl rfl ?_
    refine st2 _ ?_
    refine XS.icmpYes X2.here hx rfl (pc0 := 8) (pc' := 23) rfl (hb hby dh_8) rfl (flt (by decide : ¬ ((0 : Int32) < (0 : Int32)))).2.1 (by decide) (by decide) ?_
    refine X2.ldc2Long hx hown (mvT hZ (wd28 hw)) (g := (mkF m 23 #[vr o0] [])) rfl (hb hby dh_23) _ ?_
    show SS p e below T2 (mkF m 26 #[vr o0] [(.long (9223372036854775807 : Int64))]) _
    exact retOut X2 hx Bd.returns rfl (Or.inr (Or.inl ⟨rfl, rfl, _, rfl⟩)) (hb hby dh_26) lhr
  · skip
    show QA102 Z o0 h0 n0 _ T2.heap _
    rw [e2]
    exact ⟨rfl, N0, rfl⟩
theorem efa_prog_23_method_2_code_vvvv (m : MethodId) (x0 : Addr) (x1 : Int64) (x2 : Int64) (x3 : Int64) : entryFrame m #[(.ref x0), (.long x1), (.long x2), (.long x3)] 7 = mkF m 0 #[vr x0, vl x1, sd, vl x2, sd, vl x3, sd] [] := by first | (simp [entryFrame, mkF, argsToLocals, Value.category]; done) | rfl
def QA104 (Z : State) (o0 : Addr) (y1 : Int64) (y2 : Int64) (y3 : Int64) (h0 : Heap) (n0 : Nat) (v : Option Value) (h : Heap) (L : List Loc) : Prop := v = none ∧ Fr n0 L ∧ h = h0
set_option maxRecDepth 65536 in
set_option maxHeartbeats 40000000 in
theorem rmA104 (l : Launch) (Z : State) (a0 : Array Value) (hw : ∀ d ∈ tables_1, d.before a0 Z = true) (ws : List Jvm.Cond) (o0 : Addr) (y1 : Int64) (y2 : Int64) (y3 : Int64) (h0 : Heap) (n0 : Nat) (Z0 : n0 ≤ h0.size) (F_o0_first : Fld Z h0 o0 cn2 "first" "I" (.int (0 : Int32))) (F_o0_end : Fld Z h0 o0 cn2 "end" "I" (.int (0 : Int32))) :
    MetFree l mn3 (head1 (Jvm.Cond.code mn3 prog_23_method_2_code 7 none :: ws) ({ frames := 0, cells := 0, slots := 0, locals := 0 } : Room)) (fun a U => a = #[(.ref o0), (.long y1), (.long y2), (.long y3)] ∧ Z.Warmed39 U.vm ∧ U.heap = h0) (fun _ _ _ _ _ => True) (fun _ U oc_ U' => ∃ v L, oc_ = .returned v ∧ QA104 Z o0 y1 y2 y3 h0 n0 v U'.heap L ∧ FrameEnd U oc_ U' L ({ frames := 0, cells := 0, slots := 0, locals := 0 } : Room).cells ({ frames := 0, cells := 0, slots := 0, locals := 0 } : Room).slots) := by
  refine MetFree.of_bodySF (plainFor_of_name pn_com_example_strict_limiter_strictlimiter_KeptWindows) hisR ?_
  intro p e s m args below meth c s₁ Bd hml0 hP hK
  obtain ⟨rfl, hZ, hh⟩ := hP
  have hx := Bd.exec
  have hby := Bd.bytes
  have hml : c.maxLocals = 7 := hml0
  have hown : s.vm.findClass cn2 = some m.cls := findClass_of_methodNamed Bd.named
  have hnm := (name_of_methodNamed Bd.named Bd.method).1
  have X0 : Stand p l e ({ frames := 0, cells := 0, slots := 0, locals := 0 } : Room) s m #[(.ref o0), (.long y1), (.long y2), (.long y3)] below meth c s₁ [] 0 0 := Stand.of_body Bd
  have e0 : s₁.heap = h0 := by rw [← hh, Bd.state]; rfl
  have N0 := Fr.nil n0
  have pre0 : ∀ t, SS p e below s₁ (mkF m 0 #[vr o0, vl y1, sd, vl y2, sd, vl y3, sd] []) t → Steps p.tables e below (s₁.setTop (entryFrame m #[(.ref o0), (.long y1), (.long y2), (.long y3)] 7)) t := fun t k => castTop (efa_prog_23_method_2_code_vvvv m o0 y1 y2 y3) k
  obtain ⟨EN, hEN⟩ : ∃ z, z = s₁.setTop (entryFrame m #[(.ref o0), (.long y1), (.long y2), (.long y3)] 7) := ⟨_, rfl⟩
  rw [← hEN] at pre0
  obtain ⟨T1, X1, e1, st1⟩ := getF X0 hx hZ hown (wf24 hw) Via.refl e0 F_o0_first (g := (mkF m 1 #[vr o0, vl y1, sd, vl y2, sd, vl y3, sd] [(.ref o0)])) rfl rfl (hb hby de_1)
  obtain ⟨T2, X2, e2, st2⟩ := getF X1 hx hZ hown (wf26 hw) Via.refl e1 F_o0_end (g := (mkF m 5 #[vr o0, vl y1, sd, vl y2, sd, vl y3, sd] [(.ref o0), (.int (0 : Int32))])) rfl rfl (hb hby de_5)
  subst hEN
  obtain ⟨lfs, lhr, lhrun, lhended, lhW, lhsame⟩ := X2.leave (v := none) (fun _ => rfl)
  refine ⟨_, _, pre0 _ ?_, lhrun, lhended, _, _, rfl, ?_, ⟨_, rfl⟩, lhW, lhsame.mono (by decide) (by decide)⟩
  · skip
    refine XS.aloadN X0.here hx rfl (hb hby de_0) rfl rfl ?_
    refine st1 _ ?_
    refine XS.aloadN X1.here hx rfl (hb hby de_4) rfl rfl ?_
    refine st2 _ ?_
    refine XS.icmpYes X2.here hx rfl (pc0 := 8) (pc' := 59) rfl (hb hby de_8) rfl (flt (by decide : ¬ ((0 : Int32) < (0 : Int32)))).2.1 (by decide) (by decide) ?_
    show SS p e below T2 (mkF m 59 #[vr o0, vl y1, sd, vl y2, sd, vl y3, sd] []) _
    exact X2.returnOut hx Bd.returns (hb hby de_59) lhr
  · skip
    show QA104 Z o0 y1 y2 y3 h0 n0 _ T2.heap _
    rw [e2]
    exact ⟨rfl, N0, rfl⟩
def QA106 (Z : State) (o0 : Addr) (o1 : Addr) (y2 : Int64) (kk_o1 : ClassId) (h0 : Heap) (n0 : Nat) (v : Option Value) (h : Heap) (L : List Loc) : Prop := v = some (.long y2) ∧ Fr n0 L ∧ h = h0
set_option maxRecDepth 65536 in
set_option maxHeartbeats 40000000 in
theorem rmA106 (l : Launch) (Z : State) (a0 : Array Value) (hw : ∀ d ∈ tables_1, d.before a0 Z = true) (ws : List Jvm.Cond) (o0 : Addr) (o1 : Addr) (y2 : Int64) (kk_o1 : ClassId) (h0 : Heap) (n0 : Nat) (Z0 : n0 ≤ h0.size) (F_o0_first : Fld Z h0 o0 cn2 "first" "I" (.int (0 : Int32))) (F_o0_end : Fld Z h0 o0 cn2 "end" "I" (.int (1 : Int32))) (F_o0_starts : Fld Z h0 o0 cn2 "starts" "[J" (.ref o1)) (V_o1 : Arv Z h0 o1 kk_o1 .long (1 : Int32) [(.long y2)] (.long (0 : Int64))) :
    MetFree l mn2 (head1 (Jvm.Cond.code mn2 prog_23_method_3_code 1 (some .long) :: ws) ({ frames := 0, cells := 0, slots := 0, locals := 0 } : Room)) (fun a U => a = #[(.ref o0)] ∧ Z.Warmed39 U.vm ∧ U.heap = h0) (fun _ _ _ _ _ => True) (fun _ U oc_ U' => ∃ v L, oc_ = .returned v ∧ QA106 Z o0 o1 y2 kk_o1 h0 n0 v U'.heap L ∧ FrameEnd U oc_ U' L ({ frames := 0, cells := 0, slots := 0, locals := 0 } : Room).cells ({ frames := 0, cells := 0, slots := 0, locals := 0 } : Room).slots) := by
  refine MetFree.of_bodySF (plainFor_of_name pn_com_example_strict_limiter_strictlimiter_KeptWindows) hisR ?_
  intro p e s m args below meth c s₁ Bd hml0 hP hK
  obtain ⟨rfl, hZ, hh⟩ := hP
  have hx := Bd.exec
  have hby := Bd.bytes
  have hml : c.maxLocals = 1 := hml0
  have hown : s.vm.findClass cn2 = some m.cls := findClass_of_methodNamed Bd.named
  have hnm := (name_of_methodNamed Bd.named Bd.method).1
  have X0 : Stand p l e ({ frames := 0, cells := 0, slots := 0, locals := 0 } : Room) s m #[(.ref o0)] below meth c s₁ [] 0 0 := Stand.of_body Bd
  have e0 : s₁.heap = h0 := by rw [← hh, Bd.state]; rfl
  have N0 := Fr.nil n0
  have pre0 : ∀ t, SS p e below s₁ (mkF m 0 #[vr o0] []) t → Steps p.tables e below (s₁.setTop (entryFrame m #[(.ref o0)] 1)) t := fun t k => castTop (efa_prog_23_method_3_code_v m o0) k
  obtain ⟨EN, hEN⟩ : ∃ z, z = s₁.setTop (entryFrame m #[(.ref o0)] 1) := ⟨_, rfl⟩
  rw [← hEN] at pre0
  obtain ⟨T1, X1, e1, st1⟩ := getF X0 hx hZ hown (wf24 hw) Via.refl e0 F_o0_first (g := (mkF m 1 #[vr o0] [(.ref o0)])) rfl rfl (hb hby dh_1)
  obtain ⟨T2, X2, e2, st2⟩ := getF X1 hx hZ hown (wf26 hw) Via.refl e1 F_o0_end (g := (mkF m 5 #[vr o0] [(.ref o0), (.int (0 : Int32))])) rfl rfl (hb hby dh_5)
  obtain ⟨T3, X3, e3, st3⟩ := getF X2 hx hZ hown (wf11 hw) Via.refl e2 F_o0_starts (g := (mkF m 12 #[vr o0] [(.ref o0)])) rfl rfl (hb hby dh_12)
  obtain ⟨T4, X4, e4, st4⟩ := getF X3 hx hZ hown (wf24 hw) Via.refl e3 F_o0_first (g := (mkF m 16 #[vr o0] [(.ref o0), (.ref o1)])) rfl rfl (hb hby dh_16)
  obtain ⟨cl5, Ar5, q5, S5, M5, HH5, GG5⟩ := id V_o1
  have hin5 : ¬ ((0 : Int32) < 0 ∨ cl5.slots.size ≤ ((0 : Int32)).toNatClampNeg) := inb_of S5 ⟨by decide, by decide⟩
  have hat5 : cl5.slots[((0 : Int32)).toNatClampNeg]? = some (.long y2) := Has.at HH5 hin5 rfl
  subst hEN
  obtain ⟨lfs, lhr, lhrun, lhended, lhW, lhsame⟩ := X4.leave (v := some (.long y2)) (fun h => by rw [Bd.returns] at h; cases h)
  refine ⟨_, _, pre0 _ ?_, lhrun, lhended, _, _, rfl, ?_, ⟨_, rfl⟩, lhW, lhsame.mono (by decide) (by decide)⟩
  · skip
    refine XS.aloadN X0.here hx rfl (hb hby dh_0) rfl rfl ?_
    refine st1 _ ?_
    refine XS.aloadN X1.here hx rfl (hb hby dh_4) rfl rfl ?_
    refine st2 _ ?_
    refine XS.icmpNo X2.here hx rfl (hb hby dh_8) rfl (tlt (by decide : (0 : Int32) < (1 : Int32))).2.1 ?_
    refine XS.aloadN X2.here hx rfl (hb hby dh_11) rfl rfl ?_
    refine st3 _ ?_
    refine XS.aloadN X3.here hx rfl (hb hby dh_15) rfl rfl ?_
    refine st4 _ ?_
    refine X4.laload hx (j := (0 : Int32)) (v := (.long y2)) (by (try rw [e4]); exact Ar5.1) (State.isArrayOf_alike hZ.alike Ar5.2.1) Ar5.2.2 hin5 hat5 (g := (mkF m 19 #[vr o0] [(.int (0 : Int32)), (.ref o1)])) rfl rfl (hb hby dh_19) _ ?_
    refine XS.goto X4.here hx rfl (pc0 := 20) (pc' := 26) rfl (hb hby dh_20) (by decide) (by decide) ?_
    show SS p e below T4 (mkF m 26 #[vr o0] [(.long y2)]) _
    exact retOut X4 hx Bd.returns rfl (Or.inr (Or.inl ⟨rfl, rfl, _, rfl⟩)) (hb hby dh_26) lhr
  · skip
    show QA106 Z o0 o1 y2 kk_o1 h0 n0 _ T4.heap _
    rw [e4]
    exact ⟨rfl, N0, rfl⟩
theorem dm_10 : decode jdk_29_method_70_code 10 = .ok (.lload_n 2, 1) := by decide +kernel
def QA108 (Z : State) (y0 : Int64) (y1 : Int64) (h0 : Heap) (n0 : Nat) (v : Option Value) (h : Heap) (L : List Loc) : Prop := v = some (.long y1) ∧ Fr n0 L ∧ h = h0
set_option maxRecDepth 65536 in
set_option maxHeartbeats 40000000 in
theorem rmA108 (l : Launch) (Z : State) (a0 : Array Value) (hw : ∀ d ∈ tables_1, d.before a0 Z = true) (ws : List Jvm.Cond) (y0 : Int64) (y1 : Int64) (h0 : Heap) (n0 : Nat) (Z0 : n0 ≤ h0.size) (hq0 : y1 < y0) :
    MetFree l mn9 (head1 (Jvm.Cond.code mn9 jdk_29_method_70_code 4 (some .long) :: ws) ({ frames := 0, cells := 0, slots := 0, locals := 0 } : Room)) (fun a U => a = #[(.long y0), (.long y1)] ∧ Z.Warmed39 U.vm ∧ U.heap = h0) (fun _ _ _ _ _ => True) (fun _ U oc_ U' => ∃ v L, oc_ = .returned v ∧ QA108 Z y0 y1 h0 n0 v U'.heap L ∧ FrameEnd U oc_ U' L ({ frames := 0, cells := 0, slots := 0, locals := 0 } : Room).cells ({ frames := 0, cells := 0, slots := 0, locals := 0 } : Room).slots) := by
  refine MetFree.of_bodySF (Jvm.Free.JP.mathPlain rfl (by decide +kernel)) hisR ?_
  intro p e s m args below meth c s₁ Bd hml0 hP hK
  obtain ⟨rfl, hZ, hh⟩ := hP
  have hx := Bd.exec
  have hby := Bd.bytes
  have hml : c.maxLocals = 4 := hml0
  have hown : s.vm.findClass "java/lang/Math" = some m.cls := findClass_of_methodNamed Bd.named
  have hnm := (name_of_methodNamed Bd.named Bd.method).1
  have X0 : Stand p l e ({ frames := 0, cells := 0, slots := 0, locals := 0 } : Room) s m #[(.long y0), (.long y1)] below meth c s₁ [] 0 0 := Stand.of_body Bd
  have e0 : s₁.heap = h0 := by rw [← hh, Bd.state]; rfl
  have N0 := Fr.nil n0
  have pre0 : ∀ t, SS p e below s₁ (mkF m 0 #[vl y0, sd, vl y1, sd] []) t → Steps p.tables e below (s₁.setTop (entryFrame m #[(.long y0), (.long y1)] 4)) t := fun t k => castTop (efa_jdk_29_method_70_code_vv m y0 y1) k
  obtain ⟨EN, hEN⟩ : ∃ z, z = s₁.setTop (entryFrame m #[(.long y0), (.long y1)] 4) := ⟨_, rfl⟩
  rw [← hEN] at pre0
  subst hEN
  obtain ⟨lfs, lhr, lhrun, lhended, lhW, lhsame⟩ := X0.leave (v := some (.long y1)) (fun h => by rw [Bd.returns] at h; cases h)
  refine ⟨_, _, pre0 _ ?_, lhrun, lhended, _, _, rfl, ?_, ⟨_, rfl⟩, lhW, lhsame.mono (by decide) (by decide)⟩
  · skip
    refine XS.lloadN X0.here hx rfl (hb hby dm_0) rfl ?_
    refine XS.lloadN X0.here hx rfl (hb hby dm_1) rfl ?_
    refine XS.lcmp X0.here hx rfl (hb hby dm_2) rfl ?_
    refine XS.ifYes X0.here hx rfl (pc0 := 3) (pc' := 10) rfl (hb hby dm_3) rfl ((if0 _ _).trans (tlt ((lw_gt y0 y1).mpr hq0)).2.2.1) (by decide) (by decide) ?_
    refine XS.lloadN X0.here hx rfl (hb hby dm_10) rfl ?_
    show SS p e below s₁ (mkF m 11 #[vl y0, sd, vl y1, sd] [(.long y1)]) _
    exact retOut X0 hx Bd.returns rfl (Or.inr (Or.inl ⟨rfl, rfl, _, rfl⟩)) (hb hby dm_11) lhr
  · skip
    show QA108 Z y0 y1 h0 n0 _ s₁.heap _
    rw [e0]
    exact ⟨rfl, N0, rfl⟩
theorem efa_jdk_29_method_66_code_vv (m : MethodId) (x0 : Int64) (x1 : Int64) : entryFrame m #[(.long x0), (.long x1)] 4 = mkF m 0 #[vl x0, sd, vl x1, sd] [] := by first | (simp [entryFrame, mkF, argsToLocals, Value.category]; done) | rfl
theorem df_0 : decode jdk_29_method_66_code 0 = .ok (.lload_n 0, 1) := by decide +kernel
theorem df_1 : decode jdk_29_method_66_code 1 = .ok (.lload_n 2, 1) := by decide +kernel
theorem df_2 : decode jdk_29_method_66_code 2 = .ok (.lcmp, 1) := by decide +kernel
theorem df_3 : decode jdk_29_method_66_code 3 = .ok (.ifCond .lt 7, 3) := by decide +kernel
theorem df_6 : decode jdk_29_method_66_code 6 = .ok (.lload_n 0, 1) := by decide +kernel
theorem df_7 : decode jdk_29_method_66_code 7 = .ok (.goto 4, 3) := by decide +kernel
theorem df_11 : decode jdk_29_method_66_code 11 = .ok (.lreturn, 1) := by decide +kernel
def QA109 (Z : State) (y0 : Int64) (y1 : Int64) (h0 : Heap) (n0 : Nat) (v : Option Value) (h : Heap) (L : List Loc) : Prop := v = some (.long y0) ∧ Fr n0 L ∧ h = h0
set_option maxRecDepth 65536 in
set_option maxHeartbeats 40000000 in
theorem rmA109 (l : Launch) (Z : State) (a0 : Array Value) (hw : ∀ d ∈ tables_1, d.before a0 Z = true) (ws : List Jvm.Cond) (y0 : Int64) (y1 : Int64) (h0 : Heap) (n0 : Nat) (Z0 : n0 ≤ h0.size) (hq0 : ¬ (y0 < y1)) :
    MetFree l mn8 (head1 (Jvm.Cond.code mn8 jdk_29_method_66_code 4 (some .long) :: ws) ({ frames := 0, cells := 0, slots := 0, locals := 0 } : Room)) (fun a U => a = #[(.long y0), (.long y1)] ∧ Z.Warmed39 U.vm ∧ U.heap = h0) (fun _ _ _ _ _ => True) (fun _ U oc_ U' => ∃ v L, oc_ = .returned v ∧ QA109 Z y0 y1 h0 n0 v U'.heap L ∧ FrameEnd U oc_ U' L ({ frames := 0, cells := 0, slots := 0, locals := 0 } : Room).cells ({ frames := 0, cells := 0, slots := 0, locals := 0 } : Room).slots) := by
  refine MetFree.of_bodySF (Jvm.Free.JP.mathPlain rfl (by decide +kernel)) hisR ?_
  intro p e s m args below meth c s₁ Bd hml0 hP hK
  obtain ⟨rfl, hZ, hh⟩ := hP
  have hx := Bd.exec
  have hby := Bd.bytes
  have hml : c.maxLocals = 4 := hml0
  have hown : s.vm.findClass "java/lang/Math" = some m.cls := findClass_of_methodNamed Bd.named
  have hnm := (name_of_methodNamed Bd.named Bd.method).1
  have X0 : Stand p l e ({ frames := 0, cells := 0, slots := 0, locals := 0 } : Room) s m #[(.long y0), (.long y1)] below meth c s₁ [] 0 0 := Stand.of_body Bd
  have e0 : s₁.heap = h0 := by rw [← hh, Bd.state]; rfl
  have N0 := Fr.nil n0
  have pre0 : ∀ t, SS p e below s₁ (mkF m 0 #[vl y0, sd, vl y1, sd] []) t → Steps p.tables e below (s₁.setTop (entryFrame m #[(.long y0), (.long y1)] 4)) t := fun t k => castTop (efa_jdk_29_method_66_code_vv m y0 y1) k
  obtain ⟨EN, hEN⟩ : ∃ z, z = s₁.setTop (entryFrame m #[(.long y0), (.long y1)] 4) := ⟨_, rfl⟩
  rw [← hEN] at pre0
  subst hEN
  obtain ⟨lfs, lhr, lhrun, lhended, lhW, lhsame⟩ := X0.leave (v := some (.long y0)) (fun h => by rw [Bd.returns] at h; cases h)
  refine ⟨_, _, pre0 _ ?_, lhrun, lhended, _, _, rfl, ?_, ⟨_, rfl⟩, lhW, lhsame.mono (by decide) (by decide)⟩
  · skip
    refine XS.lloadN X0.here hx rfl (hb hby df_0) rfl ?_
    refine XS.lloadN X0.here hx rfl (hb hby df_1) rfl ?_
    refine XS.lcmp X0.here hx rfl (hb hby df_2) rfl ?_
    refine XS.ifNo X0.here hx rfl (hb hby df_3) rfl ((if0 _ _).trans (flt (fun q => hq0 ((lw_lt y0 y1).mp q))).1) ?_
    refine XS.lloadN X0.here hx rfl (hb hby df_6) rfl ?_
    refine XS.goto X0.here hx rfl (pc0 := 7) (pc' := 11) rfl (hb hby df_7) (by decide) (by decide) ?_
    show SS p e below s₁ (mkF m 11 #[vl y0, sd, vl y1, sd] [(.long y0)]) _
    exact retOut X0 hx Bd.returns rfl (Or.inr (Or.inl ⟨rfl, rfl, _, rfl⟩)) (hb hby df_11) lhr
  · skip
    show QA109 Z y0 y1 h0 n0 _ s₁.heap _
    rw [e0]
    exact ⟨rfl, N0, rfl⟩
def QA110 (Z : State) (o0 : Addr) (o1 : Addr) (y2 : Int64) (y3 : Int64) (kk_o1 : ClassId) (h0 : Heap) (n0 : Nat) (v : Option Value) (h : Heap) (L : List Loc) : Prop := v = some (.long y2) ∧ Fr n0 L ∧ h = h0
set_option maxRecDepth 65536 in
set_option maxHeartbeats 40000000 in
theorem rmA110 (l : Launch) (Z : State) (a0 : Array Value) (hw : ∀ d ∈ tables_1, d.before a0 Z = true) (ws : List Jvm.Cond) (o0 : Addr) (o1 : Addr) (y2 : Int64) (y3 : Int64) (kk_o1 : ClassId) (h0 : Heap) (n0 : Nat) (Z0 : n0 ≤ h0.size) (F_o0_first : Fld Z h0 o0 cn2 "first" "I" (.int (0 : Int32))) (F_o0_end : Fld Z h0 o0 cn2 "end" "I" (.int (2 : Int32))) (F_o0_starts : Fld Z h0 o0 cn2 "starts" "[J" (.ref o1)) (V_o1 : Arv Z h0 o1 kk_o1 .long (2 : Int32) [(.long y2), (.long y3)] (.long (0 : Int64))) :
    MetFree l mn2 (head1 (Jvm.Cond.code mn2 prog_23_method_3_code 1 (some .long) :: ws) ({ frames := 0, cells := 0, slots := 0, locals := 0 } : Room)) (fun a U => a = #[(.ref o0)] ∧ Z.Warmed39 U.vm ∧ U.heap = h0) (fun _ _ _ _ _ => True) (fun _ U oc_ U' => ∃ v L, oc_ = .returned v ∧ QA110 Z o0 o1 y2 y3 kk_o1 h0 n0 v U'.heap L ∧ FrameEnd U oc_ U' L ({ frames := 0, cells := 0, slots := 0, locals := 0 } : Room).cells ({ frames := 0, cells := 0, slots := 0, locals := 0 } : Room).slots) := by
  refine MetFree.of_bodySF (plainFor_of_name pn_com_example_strict_limiter_strictlimiter_KeptWindows) hisR ?_
  intro p e s m args below meth c s₁ Bd hml0 hP hK
  obtain ⟨rfl, hZ, hh⟩ := hP
  have hx := Bd.exec
  have hby := Bd.bytes
  have hml : c.maxLocals = 1 := hml0
  have hown : s.vm.findClass cn2 = some m.cls := findClass_of_methodNamed Bd.named
  have hnm := (name_of_methodNamed Bd.named Bd.method).1
  have X0 : Stand p l e ({ frames := 0, cells := 0, slots := 0, locals := 0 } : Room) s m #[(.ref o0)] below meth c s₁ [] 0 0 := Stand.of_body Bd
  have e0 : s₁.heap = h0 := by rw [← hh, Bd.state]; rfl
  have N0 := Fr.nil n0
  have pre0 : ∀ t, SS p e below s₁ (mkF m 0 #[vr o0] []) t → Steps p.tables e below (s₁.setTop (entryFrame m #[(.ref o0)] 1)) t := fun t k => castTop (efa_prog_23_method_3_code_v m o0) k
  obtain ⟨EN, hEN⟩ : ∃ z, z = s₁.setTop (entryFrame m #[(.ref o0)] 1) := ⟨_, rfl⟩
  rw [← hEN] at pre0
  obtain ⟨T1, X1, e1, st1⟩ := getF X0 hx hZ hown (wf24 hw) Via.refl e0 F_o0_first (g := (mkF m 1 #[vr o0] [(.ref o0)])) rfl rfl (hb hby dh_1)
  obtain ⟨T2, X2, e2, st2⟩ := getF X1 hx hZ hown (wf26 hw) Via.refl e1 F_o0_end (g := (mkF m 5 #[vr o0] [(.ref o0), (.int (0 : Int32))])) rfl rfl (hb hby dh_5)
  obtain ⟨T3, X3, e3, st3⟩ := getF X2 hx hZ hown (wf11 hw) Via.refl e2 F_o0_starts (g := (mkF m 12 #[vr o0] [(.ref o0)])) rfl rfl (hb hby dh_12)
  obtain ⟨T4, X4, e4, st4⟩ := getF X3 hx hZ hown (wf24 hw) Via.refl e3 F_o0_first (g := (mkF m 16 #[vr o0] [(.ref o0), (.ref o1)])) rfl rfl (hb hby dh_16)
  obtain ⟨cl5, Ar5, q5, S5, M5, HH5, GG5⟩ := id V_o1
  have hin5 : ¬ ((0 : Int32) < 0 ∨ cl5.slots.size ≤ ((0 : Int32)).toNatClampNeg) := inb_of S5 ⟨by decide, by decide⟩
  have hat5 : cl5.slots[((0 : Int32)).toNatClampNeg]? = some (.long y2) := Has.at HH5 hin5 rfl
  subst hEN
  obtain ⟨lfs, lhr, lhrun, lhended, lhW, lhsame⟩ := X4.leave (v := some (.long y2)) (fun h => by rw [Bd.returns] at h; cases h)
  refine ⟨_, _, pre0 _ ?_, lhrun, lhended, _, _, rfl, ?_, ⟨_, rfl⟩, lhW, lhsame.mono (by decide) (by decide)⟩
  · skip
    refine XS.aloadN X0.here hx rfl (hb hby dh_0) rfl rfl ?_
    refine st1 _ ?_
    refine XS.aloadN X1.here hx rfl (hb hby dh_4) rfl rfl ?_
    refine st2 _ ?_
    refine XS.icmpNo X2.here hx rfl (hb hby dh_8) rfl (tlt (by decide : (0 : Int32) < (2 : Int32))).2.1 ?_
    refine XS.aloadN X2.here hx rfl (hb hby dh_11) rfl rfl ?_
    refine st3 _ ?_
    refine XS.aloadN X3.here hx rfl (hb hby dh_15) rfl rfl ?_
    refine st4 _ ?_
    refine X4.laload hx (j := (0 : Int32)) (v := (.long y2)) (by (try rw [e4]); exact Ar5.1) (State.isArrayOf_alike hZ.alike Ar5.2.1) Ar5.2.2 hin5 hat5 (g := (mkF m 19 #[vr o0] [(.int (0 : Int32)), (.ref o1)])) rfl rfl (hb hby dh_19) _ ?_
    refine XS.goto X4.here hx rfl (pc0 := 20) (pc' := 26) rfl (hb hby dh_20) (by decide) (by decide) ?_
    show SS p e below T4 (mkF m 26 #[vr o0] [(.long y2)]) _
    exact retOut X4 hx Bd.returns rfl (Or.inr (Or.inl ⟨rfl, rfl, _, rfl⟩)) (hb hby dh_26) lhr
  · skip
    show QA110 Z o0 o1 y2 y3 kk_o1 h0 n0 _ T4.heap _
    rw [e4]
    exact ⟨rfl, N0, rfl⟩
def QA112 (Z : State) (y0 : Int64) (y1 : Int64) (h0 : Heap) (n0 : Nat) (v : Option Value) (h : Heap) (L : List Loc) : Prop := v = some (.long y0) ∧ Fr n0 L ∧ h = h0
set_option maxRecDepth 65536 in
set_option maxHeartbeats 40000000 in
theorem rmA112 (l : Launch) (Z : State) (a0 : Array Value) (hw : ∀ d ∈ tables_1, d.before a0 Z = true) (ws : List Jvm.Cond) (y0 : Int64) (y1 : Int64) (h0 : Heap) (n0 : Nat) (Z0 : n0 ≤ h0.size) (hq0 : ¬ (y1 < y0)) :
    MetFree l mn9 (head1 (Jvm.Cond.code mn9 jdk_29_method_70_code 4 (some .long) :: ws) ({ frames := 0, cells := 0, slots := 0, locals := 0 } : Room)) (fun a U => a = #[(.long y0), (.long y1)] ∧ Z.Warmed39 U.vm ∧ U.heap = h0) (fun _ _ _ _ _ => True) (fun _ U oc_ U' => ∃ v L, oc_ = .returned v ∧ QA112 Z y0 y1 h0 n0 v U'.heap L ∧ FrameEnd U oc_ U' L ({ frames := 0, cells := 0, slots := 0, locals := 0 } : Room).cells ({ frames := 0, cells := 0, slots := 0, locals := 0 } : Room).slots) := by
  refine MetFree.of_bodySF (Jvm.Free.JP.mathPlain rfl (by decide +kernel)) hisR ?_
  intro p e s m args below meth c s₁ Bd hml0 hP hK
  obtain ⟨rfl, hZ, hh⟩ := hP
  have hx := Bd.exec
  have hby := Bd.bytes
  have hml : c.maxLocals = 4 := hml0
  have hown : s.vm.findClass "java/lang/Math" = some m.cls := findClass_of_methodNamed Bd.named
  have hnm := (name_of_methodNamed Bd.named Bd.method).1
  have X0 : Stand p l e ({ frames := 0, cells := 0, slots := 0, locals := 0 } : Room) s m #[(.long y0), (.long y1)] below meth c s₁ [] 0 0 := Stand.of_body Bd
  have e0 : s₁.heap = h0 := by rw [← hh, Bd.state]; rfl
  have N0 := Fr.nil n0
  have pre0 : ∀ t, SS p e below s₁ (mkF m 0 #[vl y0, sd, vl y1, sd] []) t → Steps p.tables e below (s₁.setTop (entryFrame m #[(.long y0), (.long y1)] 4)) t := fun t k => castTop (efa_jdk_29_method_70_code_vv m y0 y1) k
  obtain ⟨EN, hEN⟩ : ∃ z, z = s₁.setTop (entryFrame m #[(.long y0), (.long y1)] 4) := ⟨_, rfl⟩
  rw [← hEN] at pre0
  subst hEN
  obtain ⟨lfs, lhr, lhrun, lhended, lhW, lhsame⟩ := X0.leave (v := some (.long y0)) (fun h => by rw [Bd.returns] at h; cases h)
  refine ⟨_, _, pre0 _ ?_, lhrun, lhended, _, _, rfl, ?_, ⟨_, rfl⟩, lhW, lhsame.mono (by decide) (by decide)⟩
  · skip
    refine XS.lloadN X0.here hx rfl (hb hby dm_0) rfl ?_
    refine XS.lloadN X0.here hx rfl (hb hby dm_1) rfl ?_
    refine XS.lcmp X0.here hx rfl (hb hby dm_2) rfl ?_
    refine XS.ifNo X0.here hx rfl (hb hby dm_3) rfl ((if0 _ _).trans (flt (fun q => hq0 ((lw_gt y0 y1).mp q))).2.2.1) ?_
    refine XS.lloadN X0.here hx rfl (hb hby dm_6) rfl ?_
    refine XS.goto X0.here hx rfl (pc0 := 7) (pc' := 11) rfl (hb hby dm_7) (by decide) (by decide) ?_
    show SS p e below s₁ (mkF m 11 #[vl y0, sd, vl y1, sd] [(.long y0)]) _
    exact retOut X0 hx Bd.returns rfl (Or.inr (Or.inl ⟨rfl, rfl, _, rfl⟩)) (hb hby dm_11) lhr
  · skip
    show QA112 Z y0 y1 h0 n0 _ s₁.heap _
    rw [e0]
    exact ⟨rfl, N0, rfl⟩
theorem df_10 : decode jdk_29_method_66_code 10 = .ok (.lload_n 2, 1) := by decide +kernel
def QA113 (Z : State) (y0 : Int64) (y1 : Int64) (h0 : Heap) (n0 : Nat) (v : Option Value) (h : Heap) (L : List Loc) : Prop := v = some (.long y1) ∧ Fr n0 L ∧ h = h0
set_option maxRecDepth 65536 in
set_option maxHeartbeats 40000000 in
theorem rmA113 (l : Launch) (Z : State) (a0 : Array Value) (hw : ∀ d ∈ tables_1, d.before a0 Z = true) (ws : List Jvm.Cond) (y0 : Int64) (y1 : Int64) (h0 : Heap) (n0 : Nat) (Z0 : n0 ≤ h0.size) (hq0 : y0 < y1) :
    MetFree l mn8 (head1 (Jvm.Cond.code mn8 jdk_29_method_66_code 4 (some .long) :: ws) ({ frames := 0, cells := 0, slots := 0, locals := 0 } : Room)) (fun a U => a = #[(.long y0), (.long y1)] ∧ Z.Warmed39 U.vm ∧ U.heap = h0) (fun _ _ _ _ _ => True) (fun _ U oc_ U' => ∃ v L, oc_ = .returned v ∧ QA113 Z y0 y1 h0 n0 v U'.heap L ∧ FrameEnd U oc_ U' L ({ frames := 0, cells := 0, slots := 0, locals := 0 } : Room).cells ({ frames := 0, cells := 0, slots := 0, locals := 0 } : Room).slots) := by
  refine MetFree.of_bodySF (Jvm.Free.JP.mathPlain rfl (by decide +kernel)) hisR ?_
  intro p e s m args below meth c s₁ Bd hml0 hP hK
  obtain ⟨rfl, hZ, hh⟩ := hP
  have hx := Bd.exec
  have hby := Bd.bytes
  have hml : c.maxLocals = 4 := hml0
  have hown : s.vm.findClass "java/lang/Math" = some m.cls := findClass_of_methodNamed Bd.named
  have hnm := (name_of_methodNamed Bd.named Bd.method).1
  have X0 : Stand p l e ({ frames := 0, cells := 0, slots := 0, locals := 0 } : Room) s m #[(.long y0), (.long y1)] below meth c s₁ [] 0 0 := Stand.of_body Bd
  have e0 : s₁.heap = h0 := by rw [← hh, Bd.state]; rfl
  have N0 := Fr.nil n0
  have pre0 : ∀ t, SS p e below s₁ (mkF m 0 #[vl y0, sd, vl y1, sd] []) t → Steps p.tables e below (s₁.setTop (entryFrame m #[(.long y0), (.long y1)] 4)) t := fun t k => castTop (efa_jdk_29_method_66_code_vv m y0 y1) k
  obtain ⟨EN, hEN⟩ : ∃ z, z = s₁.setTop (entryFrame m #[(.long y0), (.long y1)] 4) := ⟨_, rfl⟩
  rw [← hEN] at pre0
  subst hEN
  obtain ⟨lfs, lhr, lhrun, lhended, lhW, lhsame⟩ := X0.leave (v := some (.long y1)) (fun h => by rw [Bd.returns] at h; cases h)
  refine ⟨_, _, pre0 _ ?_, lhrun, lhended, _, _, rfl, ?_, ⟨_, rfl⟩, lhW, lhsame.mono (by decide) (by decide)⟩
  · skip
    refine XS.lloadN X0.here hx rfl (hb hby df_0) rfl ?_
    refine XS.lloadN X0.here hx rfl (hb hby df_1) rfl ?_
    refine XS.lcmp X0.here hx rfl (hb hby df_2) rfl ?_
    refine XS.ifYes X0.here hx rfl (pc0 := 3) (pc' := 10) rfl (hb hby df_3) rfl ((if0 _ _).trans (tlt ((lw_lt y0 y1).mpr hq0)).1) (by decide) (by decide) ?_
    refine XS.lloadN X0.here hx rfl (hb hby df_10) rfl ?_
    show SS p e below s₁ (mkF m 11 #[vl y0, sd, vl y1, sd] [(.long y1)]) _
    exact retOut X0 hx Bd.returns rfl (Or.inr (Or.inl ⟨rfl, rfl, _, rfl⟩)) (hb hby df_11) lhr
  · skip
    show QA113 Z y0 y1 h0 n0 _ s₁.heap _
    rw [e0]
    exact ⟨rfl, N0, rfl⟩
theorem ef_0 (m : MethodId) (x0 : Int64) (x1 : Int64) (x2 : Int32) (x3 : Int64) (x4 : Int64) (x5 : Int64) : entryFrame m #[(.long x0), (.long x1), (.int x2), (.long x3), (.long x4), (.long x5)] maxLocals = mkF m 0 #[vl x0, sd, vl x1, sd, vi x2, vl x3, sd, vl x4, sd, vl x5, sd, un, un, un, un, un, un, un, un, un, un, un, un, un, un, un, un, un, un, un] [] := by first | (simp [entryFrame, mkF, argsToLocals, Value.category, maxLocals]; done) | rfl
def Q0 (Z : State) (x0 : Int64) (x1 : Int64) (x2 : Int32) (x3 : Int64) (x4 : Int64) (x5 : Int64) (wn : Addr) (kn : ClassId) (h0 : Heap) (n0 : Nat) (v : Option Value) (h : Heap) (L : List Loc) : Prop := v = some (.int 1) ∧ Fr n0 L
set_option maxRecDepth 65536 in
set_option maxHeartbeats 40000000 in
theorem rm0 (l : Launch) (Z : State) (a0 : Array Value) (hw : ∀ d ∈ tables_1, d.before a0 Z = true) (ws : List Jvm.Cond) (x0 : Int64) (x1 : Int64) (x2 : Int32) (x3 : Int64) (x4 : Int64) (x5 : Int64) (wn : Addr) (kn : ClassId) (h0 : Heap) (n0 : Nat) (Z0 : n0 ≤ h0.size) (X00 : Old Z n0 h0) (S_N : Sta Z Z.heap cn2 "NONE" "[J" (.ref wn)) (V_N : Arv Z Z.heap wn kn .long (0 : Int32) [] (.long (0 : Int64))) :
    MetFree l x (head1 (Jvm.Cond.code x code maxLocals ret :: ws) room_1) (fun a U => a = #[(.long x0), (.long x1), (.int x2), (.long x3), (.long x4), (.long x5)] ∧ Z.Warmed39 U.vm ∧ U.heap = h0) (fun _ _ _ _ _ => True) (fun _ U oc_ U' => ∃ v L, oc_ = .returned v ∧ Q0 Z x0 x1 x2 x3 x4 x5 wn kn h0 n0 v U'.heap L ∧ FrameEnd U oc_ U' L 24 128) := by
  refine MetFree.of_bodySF (plainFor_of_name pn_com_example_strict_limiter_strictlimiter_KeptWindowsFirstStartPinLaw) hisR ?_
  intro p e s m args below meth c s₁ Bd hml0 hP hK
  obtain ⟨rfl, hZ, hh⟩ := hP
  have hx := Bd.exec
  have hby := Bd.bytes
  have hml : c.maxLocals = 30 := hml0
  have hown : s.vm.findClass "com/example/strict_limiter/strictlimiter/KeptWindowsFirstStartPinLaw" = some m.cls := findClass_of_methodNamed Bd.named
  have hnm := (name_of_methodNamed Bd.named Bd.method).1
  have X0 : Stand p l e room_1 s m #[(.long x0), (.long x1), (.int x2), (.long x3), (.long x4), (.long x5)] below meth c s₁ [] 0 0 := Stand.of_body Bd
  have e0 : s₁.heap = h0 := by rw [← hh, Bd.state]; rfl
  have N0 := Fr.nil n0
  have pre0 : ∀ t, SS p e below s₁ (mkF m 0 #[vl x0, sd, vl x1, sd, vi x2, vl x3, sd, vl x4, sd, vl x5, sd, un, un, un, un, un, un, un, un, un, un, un, un, un, un, un, un, un, un, un] []) t → Steps p.tables e below (s₁.setTop (entryFrame m #[(.long x0), (.long x1), (.int x2), (.long x3), (.long x4), (.long x5)] maxLocals)) t := fun t k => castTop (ef_0 m x0 x1 x2 x3 x4 x5) k
  obtain ⟨EN, hEN⟩ : ∃ z, z = s₁.setTop (entryFrame m #[(.long x0), (.long x1), (.int x2), (.long x3), (.long x4), (.long x5)] maxLocals) := ⟨_, rfl⟩
  rw [← hEN] at pre0
  have k1 : ∀ t, SS p e below s₁ (mkF m 4 #[vl x0, sd, vl x1, sd, vi x2, vl x3, sd, vl x4, sd, vl x5, sd, un, un, un, un, un, un, un, un, un, un, un, un, un, un, un, un, un, un, un] [(.int (x2 &&& (1 : Int32)))]) t → Steps p.tables e below (EN) t := by
    intro t kt
    refine pre0 t ?_
    refine XS.iload X0.here hx rfl (hb hby at_0) rfl ?_
    refine XS.iconst X0.here hx rfl (hb hby at_2) ?_
    refine XS.iand X0.here hx rfl (hb hby at_3) rfl ?_
    exact kt
  obtain ⟨fa, hj2, k2⟩ : ∃ (fa : Int32), (fa = (0 : Int32) ∨ fa = (1 : Int32)) ∧ ∀ t, SS p e below s₁ (mkF m 12 #[vl x0, sd, vl x1, sd, vi x2, vl x3, sd, vl x4, sd, vl x5, sd, un, un, un, un, un, un, un, un, un, un, un, un, un, un, un, un, un, un, un] [(.int fa)]) t → Steps p.tables e below (EN) t := by
    by_cases hc3 : (x2 &&& (1 : Int32)) = (0 : Int32)
    · skip
      have k4 : ∀ t, SS p e below s₁ (mkF m 12 #[vl x0, sd, vl x1, sd, vi x2, vl x3, sd, vl x4, sd, vl x5, sd, un, un, un, un, un, un, un, un, un, un, un, un, un, un, un, un, un, un, un] [(.int (0 : Int32))]) t → Steps p.tables e below (EN) t := by
        intro t kt
        refine k1 t ?_
        refine XS.ifYes X0.here hx rfl (pc0 := 4) (pc' := 11) rfl (hb hby at_4) rfl ((if0 _ _).trans (teq hc3).1) (by decide) (by decide) ?_
        refine XS.iconst X0.here hx rfl (hb hby at_11) ?_
        exact kt
      exact ⟨(0 : Int32), (Or.inl rfl), k4⟩
    · skip
      have k5 : ∀ t, SS p e below s₁ (mkF m 12 #[vl x0, sd, vl x1, sd, vi x2, vl x3, sd, vl x4, sd, vl x5, sd, un, un, un, un, un, un, un, un, un, un, un, un, un, un, un, un, un, un, un] [(.int (1 : Int32))]) t → Steps p.tables e below (EN) t := by
        intro t kt
        refine k1 t ?_
        refine XS.ifNo X0.here hx rfl (hb hby at_4) rfl ((if0 _ _).trans (feq hc3).1) ?_
        refine XS.iconst X0.here hx rfl (hb hby at_7) ?_
        refine XS.goto X0.here hx rfl (pc0 := 8) (pc' := 12) rfl (hb hby at_8) (by decide) (by decide) ?_
        exact kt
      exact ⟨(1 : Int32), (Or.inr rfl), k5⟩
  have k6 : ∀ t, SS p e below s₁ (mkF m 18 #[vl x0, sd, vl x1, sd, vi x2, vl x3, sd, vl x4, sd, vl x5, sd, vi fa, un, un, un, un, un, un, un, un, un, un, un, un, un, un, un, un, un, un] [(.int (x2 &&& (2 : Int32)))]) t → Steps p.tables e below (EN) t := by
    intro t kt
    refine k2 t ?_
    refine XS.istore X0.here hx rfl (hb hby at_12) rfl (l' := #[vl x0, sd, vl x1, sd, vi x2, vl x3, sd, vl x4, sd, vl x5, sd, vi fa, un, un, un, un, un, un, un, un, un, un, un, un, un, un, un, un, un, un]) rfl ?_
    refine XS.iload X0.here hx rfl (hb hby at_14) rfl ?_
    refine XS.iconst X0.here hx rfl (hb hby at_16) ?_
    refine XS.iand X0.here hx rfl (hb hby at_17) rfl ?_
    exact kt
  obtain ⟨fb, hj7, k7⟩ : ∃ (fb : Int32), (fb = (0 : Int32) ∨ fb = (1 : Int32)) ∧ ∀ t, SS p e below s₁ (mkF m 26 #[vl x0, sd, vl x1, sd, vi x2, vl x3, sd, vl x4, sd, vl x5, sd, vi fa, un, un, un, un, un, un, un, un, un, un, un, un, un, un, un, un, un, un] [(.int fb)]) t → Steps p.tables e below (EN) t := by
    by_cases hc8 : (x2 &&& (2 : Int32)) = (0 : Int32)
    · skip
      have k9 : ∀ t, SS p e below s₁ (mkF m 26 #[vl x0, sd, vl x1, sd, vi x2, vl x3, sd, vl x4, sd, vl x5, sd, vi fa, un, un, un, un, un, un, un, un, un, un, un, un, un, un, un, un, un, un] [(.int (0 : Int32))]) t → Steps p.tables e below (EN) t := by
        intro t kt
        refine k6 t ?_
        refine XS.ifYes X0.here hx rfl (pc0 := 18) (pc' := 25) rfl (hb hby at_18) rfl ((if0 _ _).trans (teq hc8).1) (by decide) (by decide) ?_
        refine XS.iconst X0.here hx rfl (hb hby at_25) ?_
        exact kt
      exact ⟨(0 : Int32), (Or.inl rfl), k9⟩
    · skip
      have k10 : ∀ t, SS p e below s₁ (mkF m 26 #[vl x0, sd, vl x1, sd, vi x2, vl x3, sd, vl x4, sd, vl x5, sd, vi fa, un, un, un, un, un, un, un, un, un, un, un, un, un, un, un, un, un, un] [(.int (1 : Int32))]) t → Steps p.tables e below (EN) t := by
        intro t kt
        refine k6 t ?_
        refine XS.ifNo X0.here hx rfl (hb hby at_18) rfl ((if0 _ _).trans (feq hc8).1) ?_
        refine XS.iconst X0.here hx rfl (hb hby at_21) ?_
        refine XS.goto X0.here hx rfl (pc0 := 22) (pc' := 26) rfl (hb hby at_22) (by decide) (by decide) ?_
        exact kt
      exact ⟨(1 : Int32), (Or.inr rfl), k10⟩
  have k11 : ∀ t, SS p e below s₁ (mkF m 32 #[vl x0, sd, vl x1, sd, vi x2, vl x3, sd, vl x4, sd, vl x5, sd, vi fa, vi fb, un, un, un, un, un, un, un, un, un, un, un, un, un, un, un, un, un] [(.int (x2 &&& (4 : Int32)))]) t → Steps p.tables e below (EN) t := by
    intro t kt
    refine k7 t ?_
    refine XS.istore X0.here hx rfl (hb hby at_26) rfl (l' := #[vl x0, sd, vl x1, sd, vi x2, vl x3, sd, vl x4, sd, vl x5, sd, vi fa, vi fb, un, un, un, un, un, un, un, un, un, un, un, un, un, un, un, un, un]) rfl ?_
    refine XS.iload X0.here hx rfl (hb hby at_28) rfl ?_
    refine XS.iconst X0.here hx rfl (hb hby at_30) ?_
    refine XS.iand X0.here hx rfl (hb hby at_31) rfl ?_
    exact kt
  obtain ⟨wd, hj12, k12⟩ : ∃ (wd : Int32), (wd = (1 : Int32) ∨ wd = (4 : Int32)) ∧ ∀ t, SS p e below s₁ (mkF m 40 #[vl x0, sd, vl x1, sd, vi x2, vl x3, sd, vl x4, sd, vl x5, sd, vi fa, vi fb, un, un, un, un, un, un, un, un, un, un, un, un, un, un, un, un, un] [(.int wd)]) t → Steps p.tables e below (EN) t := by
    by_cases hc13 : (x2 &&& (4 : Int32)) = (0 : Int32)
    · skip
      have k14 : ∀ t, SS p e below s₁ (mkF m 40 #[vl x0, sd, vl x1, sd, vi x2, vl x3, sd, vl x4, sd, vl x5, sd, vi fa, vi fb, un, un, un, un, un, un, un, un, un, un, un, un, un, un, un, un, un] [(.int (1 : Int32))]) t → Steps p.tables e below (EN) t := by
        intro t kt
        refine k11 t ?_
        refine XS.ifYes X0.here hx rfl (pc0 := 32) (pc' := 39) rfl (hb hby at_32) rfl ((if0 _ _).trans (teq hc13).1) (by decide) (by decide) ?_
        refine XS.iconst X0.here hx rfl (hb hby at_39) ?_
        exact kt
      exact ⟨(1 : Int32), (Or.inl rfl), k14⟩
    · skip
      have k15 : ∀ t, SS p e below s₁ (mkF m 40 #[vl x0, sd, vl x1, sd, vi x2, vl x3, sd, vl x4, sd, vl x5, sd, vi fa, vi fb, un, un, un, un, un, un, un, un, un, un, un, un, un, un, un, un, un] [(.int (4 : Int32))]) t → Steps p.tables e below (EN) t := by
        intro t kt
        refine k11 t ?_
        refine XS.ifNo X0.here hx rfl (hb hby at_32) rfl ((if0 _ _).trans (feq hc13).1) ?_
        refine XS.iconst X0.here hx rfl (hb hby at_35) ?_
        refine XS.goto X0.here hx rfl (pc0 := 36) (pc' := 40) rfl (hb hby at_36) (by decide) (by decide) ?_
        exact kt
      exact ⟨(4 : Int32), (Or.inr rfl), k15⟩
  have k16 : ∀ t, SS p e below s₁ (mkF m 47 #[vl x0, sd, vl x1, sd, vi x2, vl x3, sd, vl x4, sd, vl x5, sd, vi fa, vi fb, vi wd, un, un, un, un, un, un, un, un, un, un, un, un, un, un, un, un] [(.int (x2 &&& (8 : Int32)))]) t → Steps p.tables e below (EN) t := by
    intro t kt
    refine k12 t ?_
    refine XS.istore X0.here hx rfl (hb hby at_40) rfl (l' := #[vl x0, sd, vl x1, sd, vi x2, vl x3, sd, vl x4, sd, vl x5, sd, vi fa, vi fb, vi wd, un, un, un, un, un, un, un, un, un, un, un, un, un, un, un, un]) rfl ?_
    refine XS.iload X0.here hx rfl (hb hby at_42) rfl ?_
    refine XS.bipush X0.here hx rfl (hb hby at_44) ?_
    refine XS.iand X0.here hx rfl (hb hby at_46) rfl ?_
    exact kt
  obtain ⟨df, hj17, k17⟩ : ∃ (df : Int32), (df = (0 : Int32) ∨ df = (1 : Int32)) ∧ ∀ t, SS p e below s₁ (mkF m 55 #[vl x0, sd, vl x1, sd, vi x2, vl x3, sd, vl x4, sd, vl x5, sd, vi fa, vi fb, vi wd, un, un, un, un, un, un, un, un, un, un, un, un, un, un, un, un] [(.int df)]) t → Steps p.tables e below (EN) t := by
    by_cases hc18 : (x2 &&& (8 : Int32)) = (0 : Int32)
    · skip
      have k19 : ∀ t, SS p e below s₁ (mkF m 55 #[vl x0, sd, vl x1, sd, vi x2, vl x3, sd, vl x4, sd, vl x5, sd, vi fa, vi fb, vi wd, un, un, un, un, un, un, un, un, un, un, un, un, un, un, un, un] [(.int (0 : Int32))]) t → Steps p.tables e below (EN) t := by
        intro t kt
        refine k16 t ?_
        refine XS.ifYes X0.here hx rfl (pc0 := 47) (pc' := 54) rfl (hb hby at_47) rfl ((if0 _ _).trans (teq hc18).1) (by decide) (by decide) ?_
        refine XS.iconst X0.here hx rfl (hb hby at_54) ?_
        exact kt
      exact ⟨(0 : Int32), (Or.inl rfl), k19⟩
    · skip
      have k20 : ∀ t, SS p e below s₁ (mkF m 55 #[vl x0, sd, vl x1, sd, vi x2, vl x3, sd, vl x4, sd, vl x5, sd, vi fa, vi fb, vi wd, un, un, un, un, un, un, un, un, un, un, un, un, un, un, un, un] [(.int (1 : Int32))]) t → Steps p.tables e below (EN) t := by
        intro t kt
        refine k16 t ?_
        refine XS.ifNo X0.here hx rfl (hb hby at_47) rfl ((if0 _ _).trans (feq hc18).1) ?_
        refine XS.iconst X0.here hx rfl (hb hby at_50) ?_
        refine XS.goto X0.here hx rfl (pc0 := 51) (pc' := 55) rfl (hb hby at_51) (by decide) (by decide) ?_
        exact kt
      exact ⟨(1 : Int32), (Or.inr rfl), k20⟩
  have k21 : ∀ t, SS p e below s₁ (mkF m 59 #[vl x0, sd, vl x1, sd, vi x2, vl x3, sd, vl x4, sd, vl x5, sd, vi fa, vi fb, vi wd, vi df, un, un, un, un, un, un, un, un, un, un, un, un, un, un, un] [(.int fa)]) t → Steps p.tables e below (EN) t := by
    intro t kt
    refine k17 t ?_
    refine XS.istore X0.here hx rfl (hb hby at_55) rfl (l' := #[vl x0, sd, vl x1, sd, vi x2, vl x3, sd, vl x4, sd, vl x5, sd, vi fa, vi fb, vi wd, vi df, un, un, un, un, un, un, un, un, un, un, un, un, un, un, un]) rfl ?_
    refine XS.iload X0.here hx rfl (hb hby at_57) rfl ?_
    exact kt
  obtain ⟨ca, hj22, k22⟩ : ∃ (ca : Int64), ((fa = (0 : Int32) ∧ ca = (0 : Int64)) ∨ (¬ fa = (0 : Int32) ∧ ca = (1 : Int64))) ∧ ∀ t, SS p e below s₁ (mkF m 67 #[vl x0, sd, vl x1, sd, vi x2, vl x3, sd, vl x4, sd, vl x5, sd, vi fa, vi fb, vi wd, vi df, un, un, un, un, un, un, un, un, un, un, un, un, un, un, un] [(.long ca)]) t → Steps p.tables e below (EN) t := by
    by_cases hc23 : fa = (0 : Int32)
    · skip
      have k24 : ∀ t, SS p e below s₁ (mkF m 67 #[vl x0, sd, vl x1, sd, vi x2, vl x3, sd, vl x4, sd, vl x5, sd, vi fa, vi fb, vi wd, vi df, un, un, un, un, un, un, un, un, un, un, un, un, un, un, un] [(.long (0 : Int64))]) t → Steps p.tables e below (EN) t := by
        intro t kt
        refine k21 t ?_
        refine XS.ifYes X0.here hx rfl (pc0 := 59) (pc' := 66) rfl (hb hby at_59) rfl ((if0 _ _).trans (teq hc23).1) (by decide) (by decide) ?_
        refine XS.lconst X0.here hx rfl (hb hby at_66) ?_
        exact kt
      exact ⟨(0 : Int64), (Or.inl ⟨hc23, rfl⟩), k24⟩
    · skip
      have k25 : ∀ t, SS p e below s₁ (mkF m 67 #[vl x0, sd, vl x1, sd, vi x2, vl x3, sd, vl x4, sd, vl x5, sd, vi fa, vi fb, vi wd, vi df, un, un, un, un, un, un, un, un, un, un, un, un, un, un, un] [(.long (1 : Int64))]) t → Steps p.tables e below (EN) t := by
        intro t kt
        refine k21 t ?_
        refine XS.ifNo X0.here hx rfl (hb hby at_59) rfl ((if0 _ _).trans (feq hc23).1) ?_
        refine XS.lconst X0.here hx rfl (hb hby at_62) ?_
        refine XS.goto X0.here hx rfl (pc0 := 63) (pc' := 67) rfl (hb hby at_63) (by decide) (by decide) ?_
        exact kt
      exact ⟨(1 : Int64), (Or.inr ⟨hc23, rfl⟩), k25⟩
  have k26 : ∀ t, SS p e below s₁ (mkF m 71 #[vl x0, sd, vl x1, sd, vi x2, vl x3, sd, vl x4, sd, vl x5, sd, vi fa, vi fb, vi wd, vi df, vl ca, sd, un, un, un, un, un, un, un, un, un, un, un, un, un] [(.int fb)]) t → Steps p.tables e below (EN) t := by
    intro t kt
    refine k22 t ?_
    refine XS.lstore X0.here hx rfl (hb hby at_67) rfl (l' := #[vl x0, sd, vl x1, sd, vi x2, vl x3, sd, vl x4, sd, vl x5, sd, vi fa, vi fb, vi wd, vi df, vl ca, sd, un, un, un, un, un, un, un, un, un, un, un, un, un]) rfl ?_
    refine XS.iload X0.here hx rfl (hb hby at_69) rfl ?_
    exact kt
  obtain ⟨cb, hj27, k27⟩ : ∃ (cb : Int64), ((fb = (0 : Int32) ∧ cb = (0 : Int64)) ∨ (¬ fb = (0 : Int32) ∧ (0 : Int64) < cb)) ∧ ∀ t, SS p e below s₁ (mkF m 87 #[vl x0, sd, vl x1, sd, vi x2, vl x3, sd, vl x4, sd, vl x5, sd, vi fa, vi fb, vi wd, vi df, vl ca, sd, un, un, un, un, un, un, un, un, un, un, un, un, un] [(.long cb)]) t → Steps p.tables e below (EN) t := by
    by_cases hc28 : fb = (0 : Int32)
    · skip
      have k29 : ∀ t, SS p e below s₁ (mkF m 87 #[vl x0, sd, vl x1, sd, vi x2, vl x3, sd, vl x4, sd, vl x5, sd, vi fa, vi fb, vi wd, vi df, vl ca, sd, un, un, un, un, un, un, un, un, un, un, un, un, un] [(.long (0 : Int64))]) t → Steps p.tables e below (EN) t := by
        intro t kt
        refine k26 t ?_
        refine XS.ifYes X0.here hx rfl (pc0 := 71) (pc' := 86) rfl (hb hby at_71) rfl ((if0 _ _).trans (teq hc28).1) (by decide) (by decide) ?_
        refine XS.lconst X0.here hx rfl (hb hby at_86) ?_
        exact kt
      exact ⟨(0 : Int64), (Or.inl ⟨hc28, rfl⟩), k29⟩
    · skip
      have k30 : ∀ t, SS p e below s₁ (mkF m 87 #[vl x0, sd, vl x1, sd, vi x2, vl x3, sd, vl x4, sd, vl x5, sd, vi fa, vi fb, vi wd, vi df, vl ca, sd, un, un, un, un, un, un, un, un, un, un, un, un, un] [(.long ((1 : Int64) + ((((x2.toUInt32 >>> ((4 : Int32) &&& 31).toUInt32).toInt32) &&& (3 : Int32)).toInt64)))]) t → Steps p.tables e below (EN) t := by
        intro t kt
        refine k26 t ?_
        refine XS.ifNo X0.here hx rfl (hb hby at_71) rfl ((if0 _ _).trans (feq hc28).1) ?_
        refine XS.lconst X0.here hx rfl (hb hby at_74) ?_
        refine XS.iload X0.here hx rfl (hb hby at_75) rfl ?_
        refine XS.iconst X0.here hx rfl (hb hby at_77) ?_
        refine XS.iushr X0.here hx rfl (hb hby at_78) rfl ?_
        refine XS.iconst X0.here hx rfl (hb hby at_79) ?_
        refine XS.iand X0.here hx rfl (hb hby at_80) rfl ?_
        refine XS.i2l X0.here hx rfl (hb hby at_81) rfl ?_
        show SS p e below s₁ (mkF m 82 #[vl x0, sd, vl x1, sd, vi x2, vl x3, sd, vl x4, sd, vl x5, sd, vi fa, vi fb, vi wd, vi df, vl ca, sd, un, un, un, un, un, un, un, un, un, un, un, un, un] [(.long ((((x2.toUInt32 >>> ((4 : Int32) &&& 31).toUInt32).toInt32) &&& (3 : Int32)).toInt64)), (.long (1 : Int64))]) _
        refine XS.ladd X0.here hx rfl (hb hby at_82) rfl ?_
        refine XS.goto X0.here hx rfl (pc0 := 83) (pc' := 87) rfl (hb hby at_83) (by decide) (by decide) ?_
        exact kt
      exact ⟨((1 : Int64) + ((((x2.toUInt32 >>> ((4 : Int32) &&& 31).toUInt32).toInt32) &&& (3 : Int32)).toInt64)), (Or.inr ⟨hc28, own_cb _⟩), k30⟩
  obtain ⟨T31, h31, X31, e31, E31, A31, D31, -, st31⟩ := newO X0 hx hZ hown (wd0 hw) (wd1 hw) (wd2 hw) e0 (g := (mkF m 89 #[vl x0, sd, vl x1, sd, vi x2, vl x3, sd, vl x4, sd, vl x5, sd, vi fa, vi fb, vi wd, vi df, vl ca, sd, vl cb, sd, un, un, un, un, un, un, un, un, un, un, un] [])) rfl (hb hby at_89) (by decide) (by decide)
  obtain ⟨b31, g31⟩ : ∃ z, z = h0.size := ⟨_, rfl⟩
  rw [← g31] at A31 D31 st31
  have ge_b31 : n0 ≤ b31 := Nat.le_trans Z0 (Nat.le_of_eq g31.symm)
  have sz_b31 : h0.size ≤ b31 := Nat.le_trans (Nat.le_refl _) (Nat.le_of_eq g31.symm)
  have Z31 := Nat.le_trans Z0 E31.1
  have K31 : Keep h0 h31 [] := ((Keep.refl h0 []).ext E31)
  have F31_starts : Fld Z h31 b31 cn2 "starts" "[J" .null := D31 (Or.inl (wd12 hw)) (ty := (.array .long)) (by decide)
  have F31_records : Fld Z h31 b31 cn2 "records" "[J" .null := D31 (Or.inl (wd14 hw)) (ty := (.array .long)) (by decide)
  have F31_decidedAt : Fld Z h31 b31 cn2 "decidedAt" "[J" .null := D31 (Or.inl (wd16 hw)) (ty := (.array .long)) (by decide)
  have F31_width : Fld Z h31 b31 cn2 "width" "I" (.int (0 : Int32)) := D31 (Or.inr (wd18 hw)) (ty := .int) (by decide)
  have F31_first : Fld Z h31 b31 cn2 "first" "I" (.int (0 : Int32)) := D31 (Or.inl (wd25 hw)) (ty := .int) (by decide)
  have F31_end : Fld Z h31 b31 cn2 "end" "I" (.int (0 : Int32)) := D31 (Or.inl (wd27 hw)) (ty := .int) (by decide)
  have f32 := (X00.ext E31)
  obtain ⟨_, _, ⟨T33, L33, kc33, ks33⟩, -, X33, ⟨Lc33, hQ33, l33, y33, z33⟩, st33⟩ := X31.specialBack hx (y := mn0) rfl hown (mvT hZ (wd3 hw)) (mvT hZ (wd4 hw)) (mvT hZ (wd5 hw)) (by decide) (backOf (W := 1) (rmA101 l Z a0 hw [] b31 wd wn ((.int (0 : Int32))) ((.int (0 : Int32))) h31 n0 Z31 (S_N.ext f32.2) A31 F31_starts ge_b31 F31_records F31_decidedAt F31_width F31_first F31_end) hZ (wd5 hw) (wd2 hw) (by decide) (by decide)) (g := (mkF m 95 #[vl x0, sd, vl x1, sd, vi x2, vl x3, sd, vl x4, sd, vl x5, sd, vi fa, vi fb, vi wd, vi df, vl ca, sd, vl cb, sd, un, un, un, un, un, un, un, un, un, un, un] [(.int wd), (.ref b31), (.ref b31)])) rfl (by rw [hml]; rfl) (Steps.refl _) (a := b31) (argsL := [(.int wd)]) (rest := [(.ref b31)]) (lenOf pd__I_V rfl) rfl (by show 2 * 0 + _ ≤ _; exact Nat.le_of_eq rfl) (hb hby at_95) (fun _ _ => ⟨rfl, e31, (by decide : 1 + 0 ≤ _), (by decide : 6 + 0 ≤ _)⟩)
  dsimp only [Pt.U, Pt.locs, Pt.cells, Pt.slots] at X33 l33 y33 z33 st33 hQ33
  subst l33 y33 z33
  obtain ⟨rfl, Nq33, Kq33, g33_0, g33_1, g33_2, g33_3, g33_4, g33_5, g33_6⟩ := hQ33
  have N33 := Fr.app N0 Nq33
  have Z33 := Nat.le_trans Z31 Kq33.1
  have K33 := Keep.trans K31 Kq33 (allS (Or.inr sz_b31) all0)
  obtain ⟨cq34, kq34, q34a, q34b, q34c⟩ := isOf hZ rfl g33_0
  obtain ⟨_, _, ⟨T34, L34, kc34, ks34⟩, -, X34, ⟨Lc34, hQ34, l34, y34, z34⟩, st34⟩ := X33.virtualBack hx (y := mn2) (z := mn2) hown (mvT hZ (wd19 hw)) (mvT hZ (wd20 hw)) (notFace_of_selects (args := #[]) (mvT hZ (wd22 hw))) (mvT hZ (wd22 hw)) (mvT hZ (wd21 hw)) (by decide) (backOf (W := 0) (rmA102 l Z a0 hw [] b31 T33.heap n0 Z33 g33_5 g33_6) hZ (wd23 hw) (wd2 hw) (by decide) (by decide)) q34a q34c (g := (mkF m 102 #[vl x0, sd, vl x1, sd, vi x2, vl x3, sd, vl x4, sd, vl x5, sd, vi fa, vi fb, vi wd, vi df, vl ca, sd, vl cb, sd, vr b31, un, un, un, un, un, un, un, un, un, un] [(.ref b31)])) rfl (by rw [hml]; rfl) (Steps.refl _) (argsL := []) (rest := []) (lenOf pd___J rfl) rfl (by show 2 * 0 + _ ≤ _; exact Nat.le_of_eq rfl) (hb hby at_102) (fun _ _ => ⟨rfl, rfl, (by decide : 1 + 0 ≤ _), (by decide : 6 + 0 ≤ _)⟩)
  dsimp only [Pt.U, Pt.locs, Pt.cells, Pt.slots] at X34 l34 y34 z34 st34 hQ34
  subst l34 y34 z34
  obtain ⟨rfl, Nq34, eq34⟩ := hQ34
  have N34 := Fr.app N33 Nq34
  have k35 : ∀ t, SS p e below T34 (mkF m 121 #[vl x0, sd, vl x1, sd, vi x2, vl x3, sd, vl x4, sd, vl x5, sd, vi fa, vi fb, vi wd, vi df, vl ca, sd, vl cb, sd, vr b31, un, un, un, un, un, un, un, un, un, un] [(.long (0 : Int64)), (.long ca), (.long (0 : Int64)), (.long x0), (.ref b31)]) t → Steps p.tables e below (EN) t := by
    intro t kt
    refine k27 t ?_
    refine XS.lstore X0.here hx rfl (hb hby at_87) rfl (l' := #[vl x0, sd, vl x1, sd, vi x2, vl x3, sd, vl x4, sd, vl x5, sd, vi fa, vi fb, vi wd, vi df, vl ca, sd, vl cb, sd, un, un, un, un, un, un, un, un, un, un, un]) rfl ?_
    refine st31 _ ?_
    refine XS.dup X31.here hx rfl (hb hby at_92) rfl rfl ?_
    refine XS.iload X31.here hx rfl (hb hby at_93) rfl ?_
    refine st33.trans ?_
    refine XS.astore X33.here hx rfl (hb hby at_98) rfl rfl (l' := #[vl x0, sd, vl x1, sd, vi x2, vl x3, sd, vl x4, sd, vl x5, sd, vi fa, vi fb, vi wd, vi df, vl ca, sd, vl cb, sd, vr b31, un, un, un, un, un, un, un, un, un, un]) rfl ?_
    refine XS.aload X33.here hx rfl (hb hby at_100) rfl rfl ?_
    refine st34.trans ?_
    refine X34.ldc2Long hx hown (mvT hZ (wd29 hw)) (g := (mkF m 105 #[vl x0, sd, vl x1, sd, vi x2, vl x3, sd, vl x4, sd, vl x5, sd, vi fa, vi fb, vi wd, vi df, vl ca, sd, vl cb, sd, vr b31, un, un, un, un, un, un, un, un, un, un] [(.long (9223372036854775807 : Int64))])) rfl (hb hby at_105) _ ?_
    refine XS.lcmp X34.here hx rfl (hb hby at_108) rfl ?_
    refine XS.ifYes X34.here hx rfl (pc0 := 109) (pc' := 114) rfl (hb hby at_109) rfl ((if0 _ _).trans (teq ((lw_eq (9223372036854775807 : Int64) (9223372036854775807 : Int64)).mpr (by decide : (9223372036854775807 : Int64) = (9223372036854775807 : Int64)))).1) (by decide) (by decide) ?_
    refine XS.aload X34.here hx rfl (hb hby at_114) rfl rfl ?_
    refine XS.lloadN X34.here hx rfl (hb hby at_116) rfl ?_
    refine XS.lconst X34.here hx rfl (hb hby at_117) ?_
    refine XS.lload X34.here hx rfl (hb hby at_118) rfl ?_
    refine XS.lconst X34.here hx rfl (hb hby at_120) ?_
    exact kt
  rcases hj22 with ⟨ea, ec⟩ | ⟨ea, ec⟩
  · skip
    have k36 : ∀ t, SS p e below T34 (mkF m 121 #[vl x0, sd, vl x1, sd, vi x2, vl x3, sd, vl x4, sd, vl x5, sd, vi fa, vi fb, vi wd, vi df, vl 0, sd, vl cb, sd, vr b31, un, un, un, un, un, un, un, un, un, un] [(.long (0 : Int64)), (.long (0 : Int64)), (.long (0 : Int64)), (.long x0), (.ref b31)]) t → Steps p.tables e below (EN) t := by
      intro t kt
      refine k35 t ?_
      rw [(ec : ca = (0 : Int64))]
      exact kt
    have f37 := (f32.keep Kq33 (allS ge_b31 all0))
    obtain ⟨cq38, kq38, q38a, q38b, q38c⟩ := isOf hZ eq34 g33_0
    obtain ⟨_, _, ⟨T38, L38, kc38, ks38⟩, -, X38, ⟨Lc38, hQ38, l38, y38, z38⟩, st38⟩ := X34.virtualBack hx (y := mn1) (z := mn1) hown (mvT hZ (wd30 hw)) (mvT hZ (wd31 hw)) (notFace_of_selects (args := #[]) (mvT hZ (wd33 hw))) (mvT hZ (wd33 hw)) (mvT hZ (wd32 hw)) (by decide) (backOf (W := 0) (rmAd0 l Z a0 hw [] b31 x0 wn kn wd T33.heap n0 Z33 ge_b31 g33_0 g33_1 g33_2 g33_3 g33_5 g33_6 g33_4 (V_N.ext f37.2) (Ne.symm (Old.ne f37 V_N.lt ge_b31))) hZ (wd34 hw) (wd2 hw) (by decide) (by decide)) q38a q38c (g := (mkF m 121 #[vl x0, sd, vl x1, sd, vi x2, vl x3, sd, vl x4, sd, vl x5, sd, vi fa, vi fb, vi wd, vi df, vl 0, sd, vl cb, sd, vr b31, un, un, un, un, un, un, un, un, un, un] [(.long (0 : Int64)), (.long (0 : Int64)), (.long (0 : Int64)), (.long x0), (.ref b31)])) rfl (by rw [hml]; rfl) (Steps.refl _) (argsL := [(.long x0), (.long (0 : Int64)), (.long (0 : Int64)), (.long (0 : Int64))]) (rest := []) (lenOf pd__JJJJ_V rfl) rfl (by show 2 * 0 + _ ≤ _; exact Nat.le_of_eq rfl) (hb hby at_121) (fun _ _ => ⟨rfl, eq34, (by decide : 1 + 0 ≤ _), (by decide : 6 + 0 ≤ _)⟩)
    dsimp only [Pt.U, Pt.locs, Pt.cells, Pt.slots] at X38 l38 y38 z38 st38 hQ38
    subst l38 y38 z38
    obtain ⟨rfl, Nq38, eq38⟩ := hQ38
    have N38 := Fr.app N34 Nq38
    have k39 : ∀ t, SS p e below T38 (mkF m 131 #[vl x0, sd, vl x1, sd, vi x2, vl x3, sd, vl x4, sd, vl x5, sd, vi fa, vi fb, vi wd, vi df, vl 0, sd, vl cb, sd, vr b31, un, un, un, un, un, un, un, un, un, un] [(.long (0 : Int64)), (.long cb), (.long (0 : Int64)), (.long x1), (.ref b31)]) t → Steps p.tables e below (EN) t := by
      intro t kt
      refine k36 t ?_
      refine st38.trans ?_
      refine XS.aload X38.here hx rfl (hb hby at_124) rfl rfl ?_
      refine XS.lloadN X38.here hx rfl (hb hby at_126) rfl ?_
      refine XS.lconst X38.here hx rfl (hb hby at_127) ?_
      refine XS.lload X38.here hx rfl (hb hby at_128) rfl ?_
      refine XS.lconst X38.here hx rfl (hb hby at_130) ?_
      exact kt
    rcases hj27 with ⟨eb, ed⟩ | ⟨eb, ed⟩
    · skip
      have k40 : ∀ t, SS p e below T38 (mkF m 131 #[vl x0, sd, vl x1, sd, vi x2, vl x3, sd, vl x4, sd, vl x5, sd, vi fa, vi fb, vi wd, vi df, vl 0, sd, vl 0, sd, vr b31, un, un, un, un, un, un, un, un, un, un] [(.long (0 : Int64)), (.long (0 : Int64)), (.long (0 : Int64)), (.long x1), (.ref b31)]) t → Steps p.tables e below (EN) t := by
        intro t kt
        refine k39 t ?_
        rw [(ed : cb = (0 : Int64))]
        exact kt
      obtain ⟨cq41, kq41, q41a, q41b, q41c⟩ := isOf hZ eq38 g33_0
      obtain ⟨_, _, ⟨T41, L41, kc41, ks41⟩, -, X41, ⟨Lc41, hQ41, l41, y41, z41⟩, st41⟩ := X38.virtualBack hx (y := mn1) (z := mn1) hown (mvT hZ (wd30 hw)) (mvT hZ (wd31 hw)) (notFace_of_selects (args := #[]) (mvT hZ (wd33 hw))) (mvT hZ (wd33 hw)) (mvT hZ (wd32 hw)) (by decide) (backOf (W := 0) (rmAd0 l Z a0 hw [] b31 x1 wn kn wd T33.heap n0 Z33 ge_b31 g33_0 g33_1 g33_2 g33_3 g33_5 g33_6 g33_4 (V_N.ext f37.2) (Ne.symm (Old.ne f37 V_N.lt ge_b31))) hZ (wd34 hw) (wd2 hw) (by decide) (by decide)) q41a q41c (g := (mkF m 131 #[vl x0, sd, vl x1, sd, vi x2, vl x3, sd, vl x4, sd, vl x5, sd, vi fa, vi fb, vi wd, vi df, vl 0, sd, vl 0, sd, vr b31, un, un, un, un, un, un, un, un, un, un] [(.long (0 : Int64)), (.long (0 : Int64)), (.long (0 : Int64)), (.long x1), (.ref b31)])) rfl (by rw [hml]; rfl) (Steps.refl _) (argsL := [(.long x1), (.long (0 : Int64)), (.long (0 : Int64)), (.long (0 : Int64))]) (rest := []) (lenOf pd__JJJJ_V rfl) rfl (by show 2 * 0 + _ ≤ _; exact Nat.le_of_eq rfl) (hb hby at_131) (fun _ _ => ⟨rfl, eq38, (by decide : 1 + 0 ≤ _), (by decide : 6 + 0 ≤ _)⟩)
      dsimp only [Pt.U, Pt.locs, Pt.cells, Pt.slots] at X41 l41 y41 z41 st41 hQ41
      subst l41 y41 z41
      obtain ⟨rfl, Nq41, eq41⟩ := hQ41
      have N41 := Fr.app N38 Nq41
      obtain ⟨cq42, kq42, q42a, q42b, q42c⟩ := isOf hZ eq41 g33_0
      obtain ⟨_, _, ⟨T42, L42, kc42, ks42⟩, -, X42, ⟨Lc42, hQ42, l42, y42, z42⟩, st42⟩ := X41.virtualBack hx (y := mn2) (z := mn2) hown (mvT hZ (wd19 hw)) (mvT hZ (wd20 hw)) (notFace_of_selects (args := #[]) (mvT hZ (wd22 hw))) (mvT hZ (wd22 hw)) (mvT hZ (wd21 hw)) (by decide) (backOf (W := 0) (rmA102 l Z a0 hw [] b31 T33.heap n0 Z33 g33_5 g33_6) hZ (wd23 hw) (wd2 hw) (by decide) (by decide)) q42a q42c (g := (mkF m 246 #[vl x0, sd, vl x1, sd, vi x2, vl x3, sd, vl x4, sd, vl x5, sd, vi fa, vi fb, vi wd, vi df, vl 0, sd, vl 0, sd, vr b31, vi 0, vl 9223372036854775807, sd, vl 9223372036854775807, sd, vl 9223372036854775807, sd, un, un, un] [(.ref b31)])) rfl (by rw [hml]; rfl) (Steps.refl _) (argsL := []) (rest := []) (lenOf pd___J rfl) rfl (by show 2 * 0 + _ ≤ _; exact Nat.le_of_eq rfl) (hb hby at_246) (fun _ _ => ⟨rfl, eq41, (by decide : 1 + 0 ≤ _), (by decide : 6 + 0 ≤ _)⟩)
      dsimp only [Pt.U, Pt.locs, Pt.cells, Pt.slots] at X42 l42 y42 z42 st42 hQ42
      subst l42 y42 z42
      obtain ⟨rfl, Nq42, eq42⟩ := hQ42
      have N42 := Fr.app N41 Nq42
      have k43 : ∀ t, SS p e below T42 (mkF m 259 #[vl x0, sd, vl x1, sd, vi x2, vl x3, sd, vl x4, sd, vl x5, sd, vi fa, vi fb, vi wd, vi df, vl 0, sd, vl 0, sd, vr b31, vi 0, vl 9223372036854775807, sd, vl 9223372036854775807, sd, vl 9223372036854775807, sd, un, un, un] [(.int df)]) t → Steps p.tables e below (EN) t := by
        intro t kt
        refine k40 t ?_
        refine st41.trans ?_
        refine XS.iload X41.here hx rfl (hb hby at_134) rfl ?_
        refine XS.ifYes X41.here hx rfl (pc0 := 136) (pc' := 182) rfl (hb hby at_136) rfl ((if0 _ _).trans (teq ea).1) (by decide) (by decide) ?_
        refine XS.iload X41.here hx rfl (hb hby at_182) rfl ?_
        refine XS.ifYes X41.here hx rfl (pc0 := 184) (pc' := 199) rfl (hb hby at_184) rfl ((if0 _ _).trans (teq ea).1) (by decide) (by decide) ?_
        refine XS.iload X41.here hx rfl (hb hby at_199) rfl ?_
        refine XS.ifYes X41.here hx rfl (pc0 := 201) (pc' := 216) rfl (hb hby at_201) rfl ((if0 _ _).trans (teq eb).1) (by decide) (by decide) ?_
        refine XS.iconst X41.here hx rfl (hb hby at_216) ?_
        refine XS.istore X41.here hx rfl (hb hby at_217) rfl (l' := #[vl x0, sd, vl x1, sd, vi x2, vl x3, sd, vl x4, sd, vl x5, sd, vi fa, vi fb, vi wd, vi df, vl 0, sd, vl 0, sd, vr b31, vi 0, un, un, un, un, un, un, un, un, un]) rfl ?_
        show SS p e below T41 (mkF m 219 #[vl x0, sd, vl x1, sd, vi x2, vl x3, sd, vl x4, sd, vl x5, sd, vi fa, vi fb, vi wd, vi df, vl 0, sd, vl 0, sd, vr b31, vi 0, un, un, un, un, un, un, un, un, un] []) _
        refine X41.ldc2Long hx hown (mvT hZ (wd29 hw)) (g := (mkF m 219 #[vl x0, sd, vl x1, sd, vi x2, vl x3, sd, vl x4, sd, vl x5, sd, vi fa, vi fb, vi wd, vi df, vl 0, sd, vl 0, sd, vr b31, vi 0, un, un, un, un, un, un, un, un, un] [])) rfl (hb hby at_219) _ ?_
        refine XS.lstore X41.here hx rfl (hb hby at_222) rfl (l' := #[vl x0, sd, vl x1, sd, vi x2, vl x3, sd, vl x4, sd, vl x5, sd, vi fa, vi fb, vi wd, vi df, vl 0, sd, vl 0, sd, vr b31, vi 0, vl 9223372036854775807, sd, un, un, un, un, un, un, un]) rfl ?_
        refine X41.ldc2Long hx hown (mvT hZ (wd29 hw)) (g := (mkF m 224 #[vl x0, sd, vl x1, sd, vi x2, vl x3, sd, vl x4, sd, vl x5, sd, vi fa, vi fb, vi wd, vi df, vl 0, sd, vl 0, sd, vr b31, vi 0, vl 9223372036854775807, sd, un, un, un, un, un, un, un] [])) rfl (hb hby at_224) _ ?_
        refine XS.lstore X41.here hx rfl (hb hby at_227) rfl (l' := #[vl x0, sd, vl x1, sd, vi x2, vl x3, sd, vl x4, sd, vl x5, sd, vi fa, vi fb, vi wd, vi df, vl 0, sd, vl 0, sd, vr b31, vi 0, vl 9223372036854775807, sd, vl 9223372036854775807, sd, un, un, un, un, un]) rfl ?_
        refine XS.iload X41.here hx rfl (hb hby at_229) rfl ?_
        refine XS.ifNo X41.here hx rfl (hb hby at_231) rfl ((if0 _ _).trans (teq (by decide : (0 : Int32) = (0 : Int32))).2) ?_
        refine X41.ldc2Long hx hown (mvT hZ (wd29 hw)) (g := (mkF m 234 #[vl x0, sd, vl x1, sd, vi x2, vl x3, sd, vl x4, sd, vl x5, sd, vi fa, vi fb, vi wd, vi df, vl 0, sd, vl 0, sd, vr b31, vi 0, vl 9223372036854775807, sd, vl 9223372036854775807, sd, un, un, un, un, un] [])) rfl (hb hby at_234) _ ?_
        refine XS.goto X41.here hx rfl (pc0 := 237) (pc' := 242) rfl (hb hby at_237) (by decide) (by decide) ?_
        refine XS.lstore X41.here hx rfl (hb hby at_242) rfl (l' := #[vl x0, sd, vl x1, sd, vi x2, vl x3, sd, vl x4, sd, vl x5, sd, vi fa, vi fb, vi wd, vi df, vl 0, sd, vl 0, sd, vr b31, vi 0, vl 9223372036854775807, sd, vl 9223372036854775807, sd, vl 9223372036854775807, sd, un, un, un]) rfl ?_
        refine XS.aload X41.here hx rfl (hb hby at_244) rfl rfl ?_
        refine st42.trans ?_
        refine XS.lload X42.here hx rfl (hb hby at_249) rfl ?_
        refine XS.lcmp X42.here hx rfl (hb hby at_251) rfl ?_
        refine XS.ifYes X42.here hx rfl (pc0 := 252) (pc' := 257) rfl (hb hby at_252) rfl ((if0 _ _).trans (teq ((lw_eq (9223372036854775807 : Int64) (9223372036854775807 : Int64)).mpr (by decide : (9223372036854775807 : Int64) = (9223372036854775807 : Int64)))).1) (by decide) (by decide) ?_
        refine XS.iload X42.here hx rfl (hb hby at_257) rfl ?_
        exact kt
      by_cases hc44 : df = (0 : Int32)
      · skip
        subst hEN
        obtain ⟨lfs, lhr, lhrun, lhended, lhW, lhsame⟩ := X42.leave (v := some (.int (1 : Int32))) (fun h => by rw [Bd.returns] at h; cases h)
        refine ⟨_, _, k43 _ ?_, lhrun, lhended, _, _, rfl, ?_, ⟨_, rfl⟩, lhW, lhsame.mono (by decide) (by decide)⟩
        · skip
          refine XS.ifNo X42.here hx rfl (hb hby at_259) rfl ((if0 _ _).trans (teq hc44).2) ?_
          refine XS.iconst X42.here hx rfl (hb hby at_262) ?_
          show SS p e below T42 (mkF m 263 #[vl x0, sd, vl x1, sd, vi x2, vl x3, sd, vl x4, sd, vl x5, sd, vi fa, vi fb, vi wd, vi df, vl 0, sd, vl 0, sd, vr b31, vi 0, vl 9223372036854775807, sd, vl 9223372036854775807, sd, vl 9223372036854775807, sd, un, un, un] [(.int (1 : Int32))]) _
          exact retN X42 hx (t := .boolean) Bd.returns (by simp) (hb hby at_263) lhr
        · skip
          show Q0 Z x0 x1 x2 x3 x4 x5 wn kn h0 n0 _ T42.heap _
          rw [eq42]
          exact ⟨rfl, N42⟩
      · skip
        obtain ⟨cq45, kq45, q45a, q45b, q45c⟩ := isOf hZ eq42 g33_0
        obtain ⟨_, _, ⟨T45, L45, kc45, ks45⟩, -, X45, ⟨Lc45, hQ45, l45, y45, z45⟩, st45⟩ := X42.virtualBack hx (y := mn3) (z := mn3) hown (mvT hZ (wd72 hw)) (mvT hZ (wd73 hw)) (notFace_of_selects (args := #[]) (mvT hZ (wd75 hw))) (mvT hZ (wd75 hw)) (mvT hZ (wd74 hw)) (by decide) (backOf (W := 0) (rmA104 l Z a0 hw [] b31 x3 x4 x5 T33.heap n0 Z33 g33_5 g33_6) hZ (wd76 hw) (wd2 hw) (by decide) (by decide)) q45a q45c (g := (mkF m 272 #[vl x0, sd, vl x1, sd, vi x2, vl x3, sd, vl x4, sd, vl x5, sd, vi fa, vi fb, vi wd, vi df, vl 0, sd, vl 0, sd, vr b31, vi 0, vl 9223372036854775807, sd, vl 9223372036854775807, sd, vl 9223372036854775807, sd, un, un, un] [(.long x5), (.long x4), (.long x3), (.ref b31)])) rfl (by rw [hml]; rfl) (Steps.refl _) (argsL := [(.long x3), (.long x4), (.long x5)]) (rest := []) (lenOf pd__JJJ_V rfl) rfl (by show 2 * 0 + _ ≤ _; exact Nat.le_of_eq rfl) (hb hby at_272) (fun _ _ => ⟨rfl, eq42, (by decide : 1 + 0 ≤ _), (by decide : 6 + 0 ≤ _)⟩)
        dsimp only [Pt.U, Pt.locs, Pt.cells, Pt.slots] at X45 l45 y45 z45 st45 hQ45
        subst l45 y45 z45
        obtain ⟨rfl, Nq45, eq45⟩ := hQ45
        have N45 := Fr.app N42 Nq45
        have k46 : ∀ t, SS p e below T45 (mkF m 280 #[vl x0, sd, vl x1, sd, vi x2, vl x3, sd, vl x4, sd, vl x5, sd, vi fa, vi fb, vi wd, vi df, vl 0, sd, vl 0, sd, vr b31, vi 0, vl 9223372036854775807, sd, vl 9223372036854775807, sd, vl 9223372036854775807, sd, un, un, un] [(.int (lcmpW x4 x5))]) t → Steps p.tables e below (EN) t := by
          intro t kt
          refine k43 t ?_
          refine XS.ifYes X42.here hx rfl (pc0 := 259) (pc' := 264) rfl (hb hby at_259) rfl ((if0 _ _).trans (feq hc44).2) (by decide) (by decide) ?_
          refine XS.aload X42.here hx rfl (hb hby at_264) rfl rfl ?_
          refine XS.lload X42.here hx rfl (hb hby at_266) rfl ?_
          refine XS.lload X42.here hx rfl (hb hby at_268) rfl ?_
          refine XS.lload X42.here hx rfl (hb hby at_270) rfl ?_
          refine st45.trans ?_
          refine XS.lload X45.here hx rfl (hb hby at_275) rfl ?_
          refine XS.lload X45.here hx rfl (hb hby at_277) rfl ?_
          refine XS.lcmp X45.here hx rfl (hb hby at_279) rfl ?_
          exact kt
        obtain ⟨gn, hj47, k47⟩ : ∃ (gn : Int32), ((gn = (1 : Int32) ∧ ¬ x4 < x5) ∨ (gn = (0 : Int32) ∧ x4 < x5)) ∧ ∀ t, SS p e below T45 (mkF m 288 #[vl x0, sd, vl x1, sd, vi x2, vl x3, sd, vl x4, sd, vl x5, sd, vi fa, vi fb, vi wd, vi df, vl 0, sd, vl 0, sd, vr b31, vi 0, vl 9223372036854775807, sd, vl 9223372036854775807, sd, vl 9223372036854775807, sd, un, un, un] [(.int gn)]) t → Steps p.tables e below (EN) t := by
          by_cases hc48 : x4 < x5
          · skip
            have k49 : ∀ t, SS p e below T45 (mkF m 288 #[vl x0, sd, vl x1, sd, vi x2, vl x3, sd, vl x4, sd, vl x5, sd, vi fa, vi fb, vi wd, vi df, vl 0, sd, vl 0, sd, vr b31, vi 0, vl 9223372036854775807, sd, vl 9223372036854775807, sd, vl 9223372036854775807, sd, un, un, un] [(.int (0 : Int32))]) t → Steps p.tables e below (EN) t := by
              intro t kt
              refine k46 t ?_
              refine XS.ifYes X45.here hx rfl (pc0 := 280) (pc' := 287) rfl (hb hby at_280) rfl ((if0 _ _).trans (tlt ((lw_lt x4 x5).mpr hc48)).1) (by decide) (by decide) ?_
              refine XS.iconst X45.here hx rfl (hb hby at_287) ?_
              exact kt
            exact ⟨(0 : Int32), (Or.inr ⟨rfl, hc48⟩), k49⟩
          · skip
            have k50 : ∀ t, SS p e below T45 (mkF m 288 #[vl x0, sd, vl x1, sd, vi x2, vl x3, sd, vl x4, sd, vl x5, sd, vi fa, vi fb, vi wd, vi df, vl 0, sd, vl 0, sd, vr b31, vi 0, vl 9223372036854775807, sd, vl 9223372036854775807, sd, vl 9223372036854775807, sd, un, un, un] [(.int (1 : Int32))]) t → Steps p.tables e below (EN) t := by
              intro t kt
              refine k46 t ?_
              refine XS.ifNo X45.here hx rfl (hb hby at_280) rfl ((if0 _ _).trans (flt (fun q => hc48 ((lw_lt x4 x5).mp q))).1) ?_
              refine XS.iconst X45.here hx rfl (hb hby at_283) ?_
              refine XS.goto X45.here hx rfl (pc0 := 284) (pc' := 288) rfl (hb hby at_284) (by decide) (by decide) ?_
              exact kt
            exact ⟨(1 : Int32), (Or.inl ⟨rfl, hc48⟩), k50⟩
        obtain ⟨cq51, kq51, q51a, q51b, q51c⟩ := isOf hZ eq45 g33_0
        obtain ⟨_, _, ⟨T51, L51, kc51, ks51⟩, -, X51, ⟨Lc51, hQ51, l51, y51, z51⟩, st51⟩ := X45.virtualBack hx (y := mn2) (z := mn2) hown (mvT hZ (wd19 hw)) (mvT hZ (wd20 hw)) (notFace_of_selects (args := #[]) (mvT hZ (wd22 hw))) (mvT hZ (wd22 hw)) (mvT hZ (wd21 hw)) (by decide) (backOf (W := 0) (rmA102 l Z a0 hw [] b31 T33.heap n0 Z33 g33_5 g33_6) hZ (wd23 hw) (wd2 hw) (by decide) (by decide)) q51a q51c (g := (mkF m 359 #[vl x0, sd, vl x1, sd, vi x2, vl x3, sd, vl x4, sd, vl x5, sd, vi fa, vi fb, vi wd, vi df, vl 0, sd, vl 0, sd, vr b31, vi 0, vl 9223372036854775807, sd, vl 9223372036854775807, sd, vl 9223372036854775807, sd, vi gn, vl 9223372036854775807, sd] [(.ref b31)])) rfl (by rw [hml]; rfl) (Steps.refl _) (argsL := []) (rest := []) (lenOf pd___J rfl) rfl (by show 2 * 0 + _ ≤ _; exact Nat.le_of_eq rfl) (hb hby at_359) (fun _ _ => ⟨rfl, eq45, (by decide : 1 + 0 ≤ _), (by decide : 6 + 0 ≤ _)⟩)
        dsimp only [Pt.U, Pt.locs, Pt.cells, Pt.slots] at X51 l51 y51 z51 st51 hQ51
        subst l51 y51 z51
        obtain ⟨rfl, Nq51, eq51⟩ := hQ51
        have N51 := Fr.app N45 Nq51
        subst hEN
        obtain ⟨lfs, lhr, lhrun, lhended, lhW, lhsame⟩ := X51.leave (v := some (.int (1 : Int32))) (fun h => by rw [Bd.returns] at h; cases h)
        refine ⟨_, _, k47 _ ?_, lhrun, lhended, _, _, rfl, ?_, ⟨_, rfl⟩, lhW, lhsame.mono (by decide) (by decide)⟩
        · skip
          refine XS.istore X45.here hx rfl (hb hby at_288) rfl (l' := #[vl x0, sd, vl x1, sd, vi x2, vl x3, sd, vl x4, sd, vl x5, sd, vi fa, vi fb, vi wd, vi df, vl 0, sd, vl 0, sd, vr b31, vi 0, vl 9223372036854775807, sd, vl 9223372036854775807, sd, vl 9223372036854775807, sd, vi gn, un, un]) rfl ?_
          refine XS.iload X45.here hx rfl (hb hby at_290) rfl ?_
          refine XS.ifNo X45.here hx rfl (hb hby at_292) rfl ((if0 _ _).trans (teq (by decide : (0 : Int32) = (0 : Int32))).2) ?_
          refine X45.ldc2Long hx hown (mvT hZ (wd29 hw)) (g := (mkF m 295 #[vl x0, sd, vl x1, sd, vi x2, vl x3, sd, vl x4, sd, vl x5, sd, vi fa, vi fb, vi wd, vi df, vl 0, sd, vl 0, sd, vr b31, vi 0, vl 9223372036854775807, sd, vl 9223372036854775807, sd, vl 9223372036854775807, sd, vi gn, un, un] [])) rfl (hb hby at_295) _ ?_
          refine XS.lstore X45.here hx rfl (hb hby at_298) rfl (l' := #[vl x0, sd, vl x1, sd, vi x2, vl x3, sd, vl x4, sd, vl x5, sd, vi fa, vi fb, vi wd, vi df, vl 0, sd, vl 0, sd, vr b31, vi 0, vl 9223372036854775807, sd, vl 9223372036854775807, sd, vl 9223372036854775807, sd, vi gn, vl 9223372036854775807, sd]) rfl ?_
          refine XS.goto X45.here hx rfl (pc0 := 300) (pc' := 357) rfl (hb hby at_300) (by decide) (by decide) ?_
          refine XS.aload X45.here hx rfl (hb hby at_357) rfl rfl ?_
          refine st51.trans ?_
          refine XS.lload X51.here hx rfl (hb hby at_362) rfl ?_
          refine XS.lcmp X51.here hx rfl (hb hby at_364) rfl ?_
          refine XS.ifNo X51.here hx rfl (hb hby at_365) rfl ((if0 _ _).trans (teq ((lw_eq (9223372036854775807 : Int64) (9223372036854775807 : Int64)).mpr (by decide : (9223372036854775807 : Int64) = (9223372036854775807 : Int64)))).2) ?_
          refine XS.iconst X51.here hx rfl (hb hby at_368) ?_
          refine XS.goto X51.here hx rfl (pc0 := 369) (pc' := 373) rfl (hb hby at_369) (by decide) (by decide) ?_
          show SS p e below T51 (mkF m 373 #[vl x0, sd, vl x1, sd, vi x2, vl x3, sd, vl x4, sd, vl x5, sd, vi fa, vi fb, vi wd, vi df, vl 0, sd, vl 0, sd, vr b31, vi 0, vl 9223372036854775807, sd, vl 9223372036854775807, sd, vl 9223372036854775807, sd, vi gn, vl 9223372036854775807, sd] [(.int (1 : Int32))]) _
          exact retN X51 hx (t := .boolean) Bd.returns (by simp) (hb hby at_373) lhr
        · skip
          show Q0 Z x0 x1 x2 x3 x4 x5 wn kn h0 n0 _ T51.heap _
          rw [eq51]
          exact ⟨rfl, N51⟩
    · skip
      obtain ⟨cq52, kq52, q52a, q52b, q52c⟩ := isOf hZ eq38 g33_0
      obtain ⟨_, _, ⟨T52, L52, kc52, ks52⟩, -, X52, ⟨Lc52, hQ52, l52, y52, z52⟩, st52⟩ := X38.virtualBack hx (y := mn1) (z := mn1) hown (mvT hZ (wd30 hw)) (mvT hZ (wd31 hw)) (notFace_of_selects (args := #[]) (mvT hZ (wd33 hw))) (mvT hZ (wd33 hw)) (mvT hZ (wd32 hw)) (by decide) (backOf (W := 0) (rmAd1 l Z a0 hw [] b31 x1 cb wn kn wd T33.heap n0 Z33 ge_b31 g33_0 g33_1 g33_2 g33_3 g33_5 g33_6 g33_4 (V_N.ext f37.2) (Ne.symm (Old.ne f37 V_N.lt ge_b31)) hj12 ed) hZ (wd34 hw) (wd2 hw) (by decide) (by decide)) q52a q52c (g := (mkF m 131 #[vl x0, sd, vl x1, sd, vi x2, vl x3, sd, vl x4, sd, vl x5, sd, vi fa, vi fb, vi wd, vi df, vl 0, sd, vl cb, sd, vr b31, un, un, un, un, un, un, un, un, un, un] [(.long (0 : Int64)), (.long cb), (.long (0 : Int64)), (.long x1), (.ref b31)])) rfl (by rw [hml]; rfl) (Steps.refl _) (argsL := [(.long x1), (.long (0 : Int64)), (.long cb), (.long (0 : Int64))]) (rest := []) (lenOf pd__JJJJ_V rfl) rfl (by show 2 * 0 + _ ≤ _; exact Nat.le_of_eq rfl) (hb hby at_131) (fun _ _ => ⟨rfl, eq38, (by decide : 1 + 3 ≤ _), (by decide : 6 + 6 ≤ _)⟩)
      dsimp only [Pt.U, Pt.locs, Pt.cells, Pt.slots] at X52 l52 y52 z52 st52 hQ52
      subst l52 y52 z52
      obtain ⟨sA52, rA52, dA52, ka52, kb52, kc52_, rfl, Nq52, Kq52, zs52, zr52, zd52, n1_52, n2_52, n3_52, gE52, gs52, gr52, gd52, g152, ge52, gw52, gS52, hR52, gD52⟩ := hQ52
      have N52 := Fr.app N38 Nq52
      have Z52 := Nat.le_trans Z33 Kq52.1
      have K52 := Keep.trans K33 Kq52 (allS (Or.inr sz_b31) all0)
      have ne_b31_sA52 := own_ne g33_0.lt zs52
      have ge_sA52 := Nat.le_trans Z33 zs52
      have sz_sA52 := Nat.le_trans K33.1 zs52
      have ne_b31_rA52 := own_ne g33_0.lt zr52
      have ge_rA52 := Nat.le_trans Z33 zr52
      have sz_rA52 := Nat.le_trans K33.1 zr52
      have ne_b31_dA52 := own_ne g33_0.lt zd52
      have ge_dA52 := Nat.le_trans Z33 zd52
      have sz_dA52 := Nat.le_trans K33.1 zd52
      obtain ⟨cq53, kq53, q53a, q53b, q53c⟩ := isOf hZ rfl gE52
      obtain ⟨_, _, ⟨T53, L53, kc53, ks53⟩, -, X53, ⟨Lc53, hQ53, l53, y53, z53⟩, st53⟩ := X52.virtualBack hx (y := mn2) (z := mn2) hown (mvT hZ (wd19 hw)) (mvT hZ (wd20 hw)) (notFace_of_selects (args := #[]) (mvT hZ (wd22 hw))) (mvT hZ (wd22 hw)) (mvT hZ (wd21 hw)) (by decide) (backOf (W := 0) (rmA106 l Z a0 hw [] b31 sA52 x1 _ T52.heap n0 Z52 g152 ge52 gs52 gS52) hZ (wd23 hw) (wd2 hw) (by decide) (by decide)) q53a q53c (g := (mkF m 246 #[vl x0, sd, vl x1, sd, vi x2, vl x3, sd, vl x4, sd, vl x5, sd, vi fa, vi fb, vi wd, vi df, vl 0, sd, vl cb, sd, vr b31, vi 1, vl x1, sd, vl x1, sd, vl x1, sd, un, un, un] [(.ref b31)])) rfl (by rw [hml]; rfl) (Steps.refl _) (argsL := []) (rest := []) (lenOf pd___J rfl) rfl (by show 2 * 0 + _ ≤ _; exact Nat.le_of_eq rfl) (hb hby at_246) (fun _ _ => ⟨rfl, rfl, (by decide : 4 + 0 ≤ _), (by decide : 12 + 0 ≤ _)⟩)
      dsimp only [Pt.U, Pt.locs, Pt.cells, Pt.slots] at X53 l53 y53 z53 st53 hQ53
      subst l53 y53 z53
      obtain ⟨rfl, Nq53, eq53⟩ := hQ53
      have N53 := Fr.app N52 Nq53
      have k54 : ∀ t, SS p e below T53 (mkF m 259 #[vl x0, sd, vl x1, sd, vi x2, vl x3, sd, vl x4, sd, vl x5, sd, vi fa, vi fb, vi wd, vi df, vl 0, sd, vl cb, sd, vr b31, vi 1, vl x1, sd, vl x1, sd, vl x1, sd, un, un, un] [(.int df)]) t → Steps p.tables e below (EN) t := by
        intro t kt
        refine k39 t ?_
        refine st52.trans ?_
        refine XS.iload X52.here hx rfl (hb hby at_134) rfl ?_
        refine XS.ifYes X52.here hx rfl (pc0 := 136) (pc' := 182) rfl (hb hby at_136) rfl ((if0 _ _).trans (teq ea).1) (by decide) (by decide) ?_
        refine XS.iload X52.here hx rfl (hb hby at_182) rfl ?_
        refine XS.ifYes X52.here hx rfl (pc0 := 184) (pc' := 199) rfl (hb hby at_184) rfl ((if0 _ _).trans (teq ea).1) (by decide) (by decide) ?_
        refine XS.iload X52.here hx rfl (hb hby at_199) rfl ?_
        refine XS.ifNo X52.here hx rfl (hb hby at_201) rfl ((if0 _ _).trans (feq eb).1) ?_
        refine XS.iconst X52.here hx rfl (hb hby at_204) ?_
        refine XS.istore X52.here hx rfl (hb hby at_205) rfl (l' := #[vl x0, sd, vl x1, sd, vi x2, vl x3, sd, vl x4, sd, vl x5, sd, vi fa, vi fb, vi wd, vi df, vl 0, sd, vl cb, sd, vr b31, vi 1, un, un, un, un, un, un, un, un, un]) rfl ?_
        show SS p e below T52 (mkF m 207 #[vl x0, sd, vl x1, sd, vi x2, vl x3, sd, vl x4, sd, vl x5, sd, vi fa, vi fb, vi wd, vi df, vl 0, sd, vl cb, sd, vr b31, vi 1, un, un, un, un, un, un, un, un, un] []) _
        refine XS.lloadN X52.here hx rfl (hb hby at_207) rfl ?_
        refine XS.lstore X52.here hx rfl (hb hby at_208) rfl (l' := #[vl x0, sd, vl x1, sd, vi x2, vl x3, sd, vl x4, sd, vl x5, sd, vi fa, vi fb, vi wd, vi df, vl 0, sd, vl cb, sd, vr b31, vi 1, vl x1, sd, un, un, un, un, un, un, un]) rfl ?_
        refine XS.lloadN X52.here hx rfl (hb hby at_210) rfl ?_
        refine XS.lstore X52.here hx rfl (hb hby at_211) rfl (l' := #[vl x0, sd, vl x1, sd, vi x2, vl x3, sd, vl x4, sd, vl x5, sd, vi fa, vi fb, vi wd, vi df, vl 0, sd, vl cb, sd, vr b31, vi 1, vl x1, sd, vl x1, sd, un, un, un, un, un]) rfl ?_
        refine XS.goto X52.here hx rfl (pc0 := 213) (pc' := 229) rfl (hb hby at_213) (by decide) (by decide) ?_
        refine XS.iload X52.here hx rfl (hb hby at_229) rfl ?_
        refine XS.ifYes X52.here hx rfl (pc0 := 231) (pc' := 240) rfl (hb hby at_231) rfl ((if0 _ _).trans (feq (by decide : ¬ ((1 : Int32) = (0 : Int32)))).2) (by decide) (by decide) ?_
        refine XS.lload X52.here hx rfl (hb hby at_240) rfl ?_
        show SS p e below T52 (mkF m 242 #[vl x0, sd, vl x1, sd, vi x2, vl x3, sd, vl x4, sd, vl x5, sd, vi fa, vi fb, vi wd, vi df, vl 0, sd, vl cb, sd, vr b31, vi 1, vl x1, sd, vl x1, sd, un, un, un, un, un] [(.long x1)]) _
        refine XS.lstore X52.here hx rfl (hb hby at_242) rfl (l' := #[vl x0, sd, vl x1, sd, vi x2, vl x3, sd, vl x4, sd, vl x5, sd, vi fa, vi fb, vi wd, vi df, vl 0, sd, vl cb, sd, vr b31, vi 1, vl x1, sd, vl x1, sd, vl x1, sd, un, un, un]) rfl ?_
        refine XS.aload X52.here hx rfl (hb hby at_244) rfl rfl ?_
        refine st53.trans ?_
        refine XS.lload X53.here hx rfl (hb hby at_249) rfl ?_
        refine XS.lcmp X53.here hx rfl (hb hby at_251) rfl ?_
        refine XS.ifYes X53.here hx rfl (pc0 := 252) (pc' := 257) rfl (hb hby at_252) rfl ((if0 _ _).trans (teq ((lw_eq x1 x1).mpr (rfl : x1 = x1))).1) (by decide) (by decide) ?_
        refine XS.iload X53.here hx rfl (hb hby at_257) rfl ?_
        exact kt
      by_cases hc55 : df = (0 : Int32)
      · skip
        subst hEN
        obtain ⟨lfs, lhr, lhrun, lhended, lhW, lhsame⟩ := X53.leave (v := some (.int (1 : Int32))) (fun h => by rw [Bd.returns] at h; cases h)
        refine ⟨_, _, k54 _ ?_, lhrun, lhended, _, _, rfl, ?_, ⟨_, rfl⟩, lhW, lhsame.mono (by decide) (by decide)⟩
        · skip
          refine XS.ifNo X53.here hx rfl (hb hby at_259) rfl ((if0 _ _).trans (teq hc55).2) ?_
          refine XS.iconst X53.here hx rfl (hb hby at_262) ?_
          show SS p e below T53 (mkF m 263 #[vl x0, sd, vl x1, sd, vi x2, vl x3, sd, vl x4, sd, vl x5, sd, vi fa, vi fb, vi wd, vi df, vl 0, sd, vl cb, sd, vr b31, vi 1, vl x1, sd, vl x1, sd, vl x1, sd, un, un, un] [(.int (1 : Int32))]) _
          exact retN X53 hx (t := .boolean) Bd.returns (by simp) (hb hby at_263) lhr
        · skip
          show Q0 Z x0 x1 x2 x3 x4 x5 wn kn h0 n0 _ T53.heap _
          rw [eq53]
          exact ⟨rfl, N53⟩
      · skip
        obtain ⟨cq56, kq56, q56a, q56b, q56c⟩ := isOf hZ eq53 gE52
        obtain ⟨_, _, ⟨T56, L56, kc56, ks56⟩, -, X56, ⟨Lc56, hQ56, l56, y56, z56⟩, st56⟩ := X53.virtualBack hx (y := mn3) (z := mn3) hown (mvT hZ (wd72 hw)) (mvT hZ (wd73 hw)) (notFace_of_selects (args := #[]) (mvT hZ (wd75 hw))) (mvT hZ (wd75 hw)) (mvT hZ (wd74 hw)) (by decide) (backOf (W := 0) (rmFg1 l Z a0 hw [] b31 x3 x4 x5 sA52 dA52 _ _ x1 T52.heap n0 Z52 ge_b31 gE52 gs52 gd52 g152 ge52 gS52 gD52 ne_b31_sA52 ne_b31_dA52) hZ (wd76 hw) (wd2 hw) (by decide) (by decide)) q56a q56c (g := (mkF m 272 #[vl x0, sd, vl x1, sd, vi x2, vl x3, sd, vl x4, sd, vl x5, sd, vi fa, vi fb, vi wd, vi df, vl 0, sd, vl cb, sd, vr b31, vi 1, vl x1, sd, vl x1, sd, vl x1, sd, un, un, un] [(.long x5), (.long x4), (.long x3), (.ref b31)])) rfl (by rw [hml]; rfl) (Steps.refl _) (argsL := [(.long x3), (.long x4), (.long x5)]) (rest := []) (lenOf pd__JJJ_V rfl) rfl (by show 2 * 0 + _ ≤ _; exact Nat.le_of_eq rfl) (hb hby at_272) (fun _ _ => ⟨rfl, eq53, (by decide : 4 + 0 ≤ _), (by decide : 12 + 0 ≤ _)⟩)
        dsimp only [Pt.U, Pt.locs, Pt.cells, Pt.slots] at X56 l56 y56 z56 st56 hQ56
        subst l56 y56 z56
        obtain ⟨fi56, rfl, Nq56, Kq56, gE56, gs56, g156, ge56, hf56⟩ := hQ56
        have N56 := Fr.app N53 Nq56
        have Z56 := Nat.le_trans Z52 Kq56.1
        have K56 := Keep.trans K52 Kq56 (allS (Or.inr sz_b31) all0)
        have k57 : ∀ t, SS p e below T56 (mkF m 280 #[vl x0, sd, vl x1, sd, vi x2, vl x3, sd, vl x4, sd, vl x5, sd, vi fa, vi fb, vi wd, vi df, vl 0, sd, vl cb, sd, vr b31, vi 1, vl x1, sd, vl x1, sd, vl x1, sd, un, un, un] [(.int (lcmpW x4 x5))]) t → Steps p.tables e below (EN) t := by
          intro t kt
          refine k54 t ?_
          refine XS.ifYes X53.here hx rfl (pc0 := 259) (pc' := 264) rfl (hb hby at_259) rfl ((if0 _ _).trans (feq hc55).2) (by decide) (by decide) ?_
          refine XS.aload X53.here hx rfl (hb hby at_264) rfl rfl ?_
          refine XS.lload X53.here hx rfl (hb hby at_266) rfl ?_
          refine XS.lload X53.here hx rfl (hb hby at_268) rfl ?_
          refine XS.lload X53.here hx rfl (hb hby at_270) rfl ?_
          refine st56.trans ?_
          refine XS.lload X56.here hx rfl (hb hby at_275) rfl ?_
          refine XS.lload X56.here hx rfl (hb hby at_277) rfl ?_
          refine XS.lcmp X56.here hx rfl (hb hby at_279) rfl ?_
          exact kt
        obtain ⟨gn, hj58, k58⟩ : ∃ (gn : Int32), ((gn = (1 : Int32) ∧ ¬ x4 < x5) ∨ (gn = (0 : Int32) ∧ x4 < x5)) ∧ ∀ t, SS p e below T56 (mkF m 288 #[vl x0, sd, vl x1, sd, vi x2, vl x3, sd, vl x4, sd, vl x5, sd, vi fa, vi fb, vi wd, vi df, vl 0, sd, vl cb, sd, vr b31, vi 1, vl x1, sd, vl x1, sd, vl x1, sd, un, un, un] [(.int gn)]) t → Steps p.tables e below (EN) t := by
          by_cases hc59 : x4 < x5
          · skip
            have k60 : ∀ t, SS p e below T56 (mkF m 288 #[vl x0, sd, vl x1, sd, vi x2, vl x3, sd, vl x4, sd, vl x5, sd, vi fa, vi fb, vi wd, vi df, vl 0, sd, vl cb, sd, vr b31, vi 1, vl x1, sd, vl x1, sd, vl x1, sd, un, un, un] [(.int (0 : Int32))]) t → Steps p.tables e below (EN) t := by
              intro t kt
              refine k57 t ?_
              refine XS.ifYes X56.here hx rfl (pc0 := 280) (pc' := 287) rfl (hb hby at_280) rfl ((if0 _ _).trans (tlt ((lw_lt x4 x5).mpr hc59)).1) (by decide) (by decide) ?_
              refine XS.iconst X56.here hx rfl (hb hby at_287) ?_
              exact kt
            exact ⟨(0 : Int32), (Or.inr ⟨rfl, hc59⟩), k60⟩
          · skip
            have k61 : ∀ t, SS p e below T56 (mkF m 288 #[vl x0, sd, vl x1, sd, vi x2, vl x3, sd, vl x4, sd, vl x5, sd, vi fa, vi fb, vi wd, vi df, vl 0, sd, vl cb, sd, vr b31, vi 1, vl x1, sd, vl x1, sd, vl x1, sd, un, un, un] [(.int (1 : Int32))]) t → Steps p.tables e below (EN) t := by
              intro t kt
              refine k57 t ?_
              refine XS.ifNo X56.here hx rfl (hb hby at_280) rfl ((if0 _ _).trans (flt (fun q => hc59 ((lw_lt x4 x5).mp q))).1) ?_
              refine XS.iconst X56.here hx rfl (hb hby at_283) ?_
              refine XS.goto X56.here hx rfl (pc0 := 284) (pc' := 288) rfl (hb hby at_284) (by decide) (by decide) ?_
              exact kt
            exact ⟨(1 : Int32), (Or.inl ⟨rfl, hc59⟩), k61⟩
        have k62 : ∀ t, SS p e below T56 (mkF m 305 #[vl x0, sd, vl x1, sd, vi x2, vl x3, sd, vl x4, sd, vl x5, sd, vi fa, vi fb, vi wd, vi df, vl 0, sd, vl cb, sd, vr b31, vi 1, vl x1, sd, vl x1, sd, vl x1, sd, vi gn, un, un] [(.int gn)]) t → Steps p.tables e below (EN) t := by
          intro t kt
          refine k58 t ?_
          refine XS.istore X56.here hx rfl (hb hby at_288) rfl (l' := #[vl x0, sd, vl x1, sd, vi x2, vl x3, sd, vl x4, sd, vl x5, sd, vi fa, vi fb, vi wd, vi df, vl 0, sd, vl cb, sd, vr b31, vi 1, vl x1, sd, vl x1, sd, vl x1, sd, vi gn, un, un]) rfl ?_
          refine XS.iload X56.here hx rfl (hb hby at_290) rfl ?_
          refine XS.ifYes X56.here hx rfl (pc0 := 292) (pc' := 303) rfl (hb hby at_292) rfl ((if0 _ _).trans (feq (by decide : ¬ ((1 : Int32) = (0 : Int32)))).2) (by decide) (by decide) ?_
          refine XS.iload X56.here hx rfl (hb hby at_303) rfl ?_
          exact kt
        obtain ⟨af, hj63, k63⟩ : ∃ (af : Int64), ((¬ gn = (0 : Int32) ∧ ¬ x3 < (x1 / (1000000000 : Int64)) ∧ af = (9223372036854775807 : Int64)) ∨ ((gn = (0 : Int32) ∨ x3 < (x1 / (1000000000 : Int64))) ∧ af = x1)) ∧ ∀ t, SS p e below T56 (mkF m 357 #[vl x0, sd, vl x1, sd, vi x2, vl x3, sd, vl x4, sd, vl x5, sd, vi fa, vi fb, vi wd, vi df, vl 0, sd, vl cb, sd, vr b31, vi 1, vl x1, sd, vl x1, sd, vl x1, sd, vi gn, vl af, sd] []) t → Steps p.tables e below (EN) t := by
          by_cases hc64 : gn = (0 : Int32)
          · skip
            have k65 : ∀ t, SS p e below T56 (mkF m 357 #[vl x0, sd, vl x1, sd, vi x2, vl x3, sd, vl x4, sd, vl x5, sd, vi fa, vi fb, vi wd, vi df, vl 0, sd, vl cb, sd, vr b31, vi 1, vl x1, sd, vl x1, sd, vl x1, sd, vi gn, vl x1, sd] []) t → Steps p.tables e below (EN) t := by
              intro t kt
              refine k62 t ?_
              refine XS.ifYes X56.here hx rfl (pc0 := 305) (pc' := 320) rfl (hb hby at_305) rfl ((if0 _ _).trans (teq hc64).1) (by decide) (by decide) ?_
              refine XS.lload X56.here hx rfl (hb hby at_320) rfl ?_
              refine XS.lstore X56.here hx rfl (hb hby at_322) rfl (l' := #[vl x0, sd, vl x1, sd, vi x2, vl x3, sd, vl x4, sd, vl x5, sd, vi fa, vi fb, vi wd, vi df, vl 0, sd, vl cb, sd, vr b31, vi 1, vl x1, sd, vl x1, sd, vl x1, sd, vi gn, vl x1, sd]) rfl ?_
              refine XS.goto X56.here hx rfl (pc0 := 324) (pc' := 357) rfl (hb hby at_324) (by decide) (by decide) ?_
              exact kt
            exact ⟨x1, (Or.inr ⟨Or.inl hc64, rfl⟩), k65⟩
          · skip
            have k66 : ∀ t, SS p e below T56 (mkF m 317 #[vl x0, sd, vl x1, sd, vi x2, vl x3, sd, vl x4, sd, vl x5, sd, vi fa, vi fb, vi wd, vi df, vl 0, sd, vl cb, sd, vr b31, vi 1, vl x1, sd, vl x1, sd, vl x1, sd, vi gn, un, un] [(.int (lcmpW (x1 / (1000000000 : Int64)) x3))]) t → Steps p.tables e below (EN) t := by
              intro t kt
              refine k62 t ?_
              refine XS.ifNo X56.here hx rfl (hb hby at_305) rfl ((if0 _ _).trans (feq hc64).1) ?_
              refine XS.lload X56.here hx rfl (hb hby at_308) rfl ?_
              refine X56.ldc2Long hx hown (mvT hZ (wd82 hw)) (g := (mkF m 310 #[vl x0, sd, vl x1, sd, vi x2, vl x3, sd, vl x4, sd, vl x5, sd, vi fa, vi fb, vi wd, vi df, vl 0, sd, vl cb, sd, vr b31, vi 1, vl x1, sd, vl x1, sd, vl x1, sd, vi gn, un, un] [(.long x1)])) rfl (hb hby at_310) _ ?_
              refine XS.ldiv X56.here hx rfl (hb hby at_313) rfl (by decide) ?_
              refine XS.lload X56.here hx rfl (hb hby at_314) rfl ?_
              refine XS.lcmp X56.here hx rfl (hb hby at_316) rfl ?_
              exact kt
            by_cases hc67 : x3 < (x1 / (1000000000 : Int64))
            · skip
              have k68 : ∀ t, SS p e below T56 (mkF m 357 #[vl x0, sd, vl x1, sd, vi x2, vl x3, sd, vl x4, sd, vl x5, sd, vi fa, vi fb, vi wd, vi df, vl 0, sd, vl cb, sd, vr b31, vi 1, vl x1, sd, vl x1, sd, vl x1, sd, vi gn, vl x1, sd] []) t → Steps p.tables e below (EN) t := by
                intro t kt
                refine k66 t ?_
                refine XS.ifNo X56.here hx rfl (hb hby at_317) rfl ((if0 _ _).trans (tlt ((lw_gt (x1 / (1000000000 : Int64)) x3).mpr hc67)).2.2.2) ?_
                refine XS.lload X56.here hx rfl (hb hby at_320) rfl ?_
                refine XS.lstore X56.here hx rfl (hb hby at_322) rfl (l' := #[vl x0, sd, vl x1, sd, vi x2, vl x3, sd, vl x4, sd, vl x5, sd, vi fa, vi fb, vi wd, vi df, vl 0, sd, vl cb, sd, vr b31, vi 1, vl x1, sd, vl x1, sd, vl x1, sd, vi gn, vl x1, sd]) rfl ?_
                refine XS.goto X56.here hx rfl (pc0 := 324) (pc' := 357) rfl (hb hby at_324) (by decide) (by decide) ?_
                exact kt
              exact ⟨x1, (Or.inr ⟨Or.inr hc67, rfl⟩), k68⟩
            · skip
              have k69 : ∀ t, SS p e below T56 (mkF m 357 #[vl x0, sd, vl x1, sd, vi x2, vl x3, sd, vl x4, sd, vl x5, sd, vi fa, vi fb, vi wd, vi df, vl 0, sd, vl cb, sd, vr b31, vi 1, vl x1, sd, vl x1, sd, vl x1, sd, vi gn, vl 9223372036854775807, sd] []) t → Steps p.tables e below (EN) t := by
                intro t kt
                refine k66 t ?_
                refine XS.ifYes X56.here hx rfl (pc0 := 317) (pc' := 327) rfl (hb hby at_317) rfl ((if0 _ _).trans (flt (fun q => hc67 ((lw_gt (x1 / (1000000000 : Int64)) x3).mp q))).2.2.2) (by decide) (by decide) ?_
                refine XS.iload X56.here hx rfl (hb hby at_327) rfl ?_
                refine XS.iconst X56.here hx rfl (hb hby at_329) ?_
                refine XS.icmpYes X56.here hx rfl (pc0 := 330) (pc' := 352) rfl (hb hby at_330) rfl (feq (by decide : ¬ ((1 : Int32) = (2 : Int32)))).2 (by decide) (by decide) ?_
                refine X56.ldc2Long hx hown (mvT hZ (wd29 hw)) (g := (mkF m 352 #[vl x0, sd, vl x1, sd, vi x2, vl x3, sd, vl x4, sd, vl x5, sd, vi fa, vi fb, vi wd, vi df, vl 0, sd, vl cb, sd, vr b31, vi 1, vl x1, sd, vl x1, sd, vl x1, sd, vi gn, un, un] [])) rfl (hb hby at_352) _ ?_
                refine XS.lstore X56.here hx rfl (hb hby at_355) rfl (l' := #[vl x0, sd, vl x1, sd, vi x2, vl x3, sd, vl x4, sd, vl x5, sd, vi fa, vi fb, vi wd, vi df, vl 0, sd, vl cb, sd, vr b31, vi 1, vl x1, sd, vl x1, sd, vl x1, sd, vi gn, vl 9223372036854775807, sd]) rfl ?_
                exact kt
              exact ⟨(9223372036854775807 : Int64), (Or.inl ⟨hc64, hc67, rfl⟩), k69⟩
        have f70 := (gS52.keep Kq56 (ninS (Ne.symm ne_b31_sA52) nin0))
        obtain ⟨cq71, kq71, q71a, q71b, q71c⟩ := isOf hZ rfl gE56
        obtain ⟨_, _, ⟨T71, L71, kc71, ks71⟩, -, X71, ⟨Lc71, hQ71, l71, y71, z71⟩, st71⟩ := X56.virtualBack hx (y := mn2) (z := mn2) hown (mvT hZ (wd19 hw)) (mvT hZ (wd20 hw)) (notFace_of_selects (args := #[]) (mvT hZ (wd22 hw))) (mvT hZ (wd22 hw)) (mvT hZ (wd21 hw)) (by decide) (backOf (W := 0) (rmFs1 l Z a0 hw [] b31 sA52 _ fi56 x1 T56.heap n0 Z56 gs56 g156 ge56 f70 (own_r1 hf56)) hZ (wd23 hw) (wd2 hw) (by decide) (by decide)) q71a q71c (g := (mkF m 359 #[vl x0, sd, vl x1, sd, vi x2, vl x3, sd, vl x4, sd, vl x5, sd, vi fa, vi fb, vi wd, vi df, vl 0, sd, vl cb, sd, vr b31, vi 1, vl x1, sd, vl x1, sd, vl x1, sd, vi gn, vl af, sd] [(.ref b31)])) rfl (by rw [hml]; rfl) (Steps.refl _) (argsL := []) (rest := []) (lenOf pd___J rfl) rfl (by show 2 * 0 + _ ≤ _; exact Nat.le_of_eq rfl) (hb hby at_359) (fun _ _ => ⟨rfl, rfl, (by decide : 4 + 0 ≤ _), (by decide : 12 + 0 ≤ _)⟩)
        dsimp only [Pt.U, Pt.locs, Pt.cells, Pt.slots] at X71 l71 y71 z71 st71 hQ71
        subst l71 y71 z71
        obtain ⟨rfl, Nq71, eq71⟩ := hQ71
        have N71 := Fr.app N56 Nq71
        subst hEN
        obtain ⟨lfs, lhr, lhrun, lhended, lhW, lhsame⟩ := X71.leave (v := some (.int (1 : Int32))) (fun h => by rw [Bd.returns] at h; cases h)
        refine ⟨_, _, k63 _ ?_, lhrun, lhended, _, _, rfl, ?_, ⟨_, rfl⟩, lhW, lhsame.mono (by decide) (by decide)⟩
        · skip
          refine XS.aload X56.here hx rfl (hb hby at_357) rfl rfl ?_
          refine st71.trans ?_
          refine XS.lload X71.here hx rfl (hb hby at_362) rfl ?_
          refine XS.lcmp X71.here hx rfl (hb hby at_364) rfl ?_
          refine XS.ifNo X71.here hx rfl (hb hby at_365) rfl ((if0 _ _).trans (teq ((lw_eq (own_p1 fi56 x1) af).mpr (own_fin1 hj58 hf56 hj63))).2) ?_
          refine XS.iconst X71.here hx rfl (hb hby at_368) ?_
          refine XS.goto X71.here hx rfl (pc0 := 369) (pc' := 373) rfl (hb hby at_369) (by decide) (by decide) ?_
          show SS p e below T71 (mkF m 373 #[vl x0, sd, vl x1, sd, vi x2, vl x3, sd, vl x4, sd, vl x5, sd, vi fa, vi fb, vi wd, vi df, vl 0, sd, vl cb, sd, vr b31, vi 1, vl x1, sd, vl x1, sd, vl x1, sd, vi gn, vl af, sd] [(.int (1 : Int32))]) _
          exact retN X71 hx (t := .boolean) Bd.returns (by simp) (hb hby at_373) lhr
        · skip
          show Q0 Z x0 x1 x2 x3 x4 x5 wn kn h0 n0 _ T71.heap _
          rw [eq71]
          exact ⟨rfl, N71⟩
  · skip
    have k72 : ∀ t, SS p e below T34 (mkF m 121 #[vl x0, sd, vl x1, sd, vi x2, vl x3, sd, vl x4, sd, vl x5, sd, vi fa, vi fb, vi wd, vi df, vl 1, sd, vl cb, sd, vr b31, un, un, un, un, un, un, un, un, un, un] [(.long (0 : Int64)), (.long (1 : Int64)), (.long (0 : Int64)), (.long x0), (.ref b31)]) t → Steps p.tables e below (EN) t := by
      intro t kt
      refine k35 t ?_
      rw [(ec : ca = (1 : Int64))]
      exact kt
    have f73 := (f32.keep Kq33 (allS ge_b31 all0))
    obtain ⟨cq74, kq74, q74a, q74b, q74c⟩ := isOf hZ eq34 g33_0
    obtain ⟨_, _, ⟨T74, L74, kc74, ks74⟩, -, X74, ⟨Lc74, hQ74, l74, y74, z74⟩, st74⟩ := X34.virtualBack hx (y := mn1) (z := mn1) hown (mvT hZ (wd30 hw)) (mvT hZ (wd31 hw)) (notFace_of_selects (args := #[]) (mvT hZ (wd33 hw))) (mvT hZ (wd33 hw)) (mvT hZ (wd32 hw)) (by decide) (backOf (W := 0) (rmAd1 l Z a0 hw [] b31 x0 (1 : Int64) wn kn wd T33.heap n0 Z33 ge_b31 g33_0 g33_1 g33_2 g33_3 g33_5 g33_6 g33_4 (V_N.ext f73.2) (Ne.symm (Old.ne f73 V_N.lt ge_b31)) hj12 (by decide)) hZ (wd34 hw) (wd2 hw) (by decide) (by decide)) q74a q74c (g := (mkF m 121 #[vl x0, sd, vl x1, sd, vi x2, vl x3, sd, vl x4, sd, vl x5, sd, vi fa, vi fb, vi wd, vi df, vl 1, sd, vl cb, sd, vr b31, un, un, un, un, un, un, un, un, un, un] [(.long (0 : Int64)), (.long (1 : Int64)), (.long (0 : Int64)), (.long x0), (.ref b31)])) rfl (by rw [hml]; rfl) (Steps.refl _) (argsL := [(.long x0), (.long (0 : Int64)), (.long (1 : Int64)), (.long (0 : Int64))]) (rest := []) (lenOf pd__JJJJ_V rfl) rfl (by show 2 * 0 + _ ≤ _; exact Nat.le_of_eq rfl) (hb hby at_121) (fun _ _ => ⟨rfl, eq34, (by decide : 1 + 3 ≤ _), (by decide : 6 + 6 ≤ _)⟩)
    dsimp only [Pt.U, Pt.locs, Pt.cells, Pt.slots] at X74 l74 y74 z74 st74 hQ74
    subst l74 y74 z74
    obtain ⟨sA74, rA74, dA74, ka74, kb74, kc74_, rfl, Nq74, Kq74, zs74, zr74, zd74, n1_74, n2_74, n3_74, gE74, gs74, gr74, gd74, g174, ge74, gw74, gS74, hR74, gD74⟩ := hQ74
    have N74 := Fr.app N34 Nq74
    have Z74 := Nat.le_trans Z33 Kq74.1
    have K74 := Keep.trans K33 Kq74 (allS (Or.inr sz_b31) all0)
    have ne_b31_sA74 := own_ne g33_0.lt zs74
    have ge_sA74 := Nat.le_trans Z33 zs74
    have sz_sA74 := Nat.le_trans K33.1 zs74
    have ne_b31_rA74 := own_ne g33_0.lt zr74
    have ge_rA74 := Nat.le_trans Z33 zr74
    have sz_rA74 := Nat.le_trans K33.1 zr74
    have ne_b31_dA74 := own_ne g33_0.lt zd74
    have ge_dA74 := Nat.le_trans Z33 zd74
    have sz_dA74 := Nat.le_trans K33.1 zd74
    have k75 : ∀ t, SS p e below T74 (mkF m 131 #[vl x0, sd, vl x1, sd, vi x2, vl x3, sd, vl x4, sd, vl x5, sd, vi fa, vi fb, vi wd, vi df, vl 1, sd, vl cb, sd, vr b31, un, un, un, un, un, un, un, un, un, un] [(.long (0 : Int64)), (.long cb), (.long (0 : Int64)), (.long x1), (.ref b31)]) t → Steps p.tables e below (EN) t := by
      intro t kt
      refine k72 t ?_
      refine st74.trans ?_
      refine XS.aload X74.here hx rfl (hb hby at_124) rfl rfl ?_
      refine XS.lloadN X74.here hx rfl (hb hby at_126) rfl ?_
      refine XS.lconst X74.here hx rfl (hb hby at_127) ?_
      refine XS.lload X74.here hx rfl (hb hby at_128) rfl ?_
      refine XS.lconst X74.here hx rfl (hb hby at_130) ?_
      exact kt
    rcases hj27 with ⟨eb, ed⟩ | ⟨eb, ed⟩
    · skip
      have k76 : ∀ t, SS p e below T74 (mkF m 131 #[vl x0, sd, vl x1, sd, vi x2, vl x3, sd, vl x4, sd, vl x5, sd, vi fa, vi fb, vi wd, vi df, vl 1, sd, vl 0, sd, vr b31, un, un, un, un, un, un, un, un, un, un] [(.long (0 : Int64)), (.long (0 : Int64)), (.long (0 : Int64)), (.long x1), (.ref b31)]) t → Steps p.tables e below (EN) t := by
        intro t kt
        refine k75 t ?_
        rw [(ed : cb = (0 : Int64))]
        exact kt
      obtain ⟨cq77, kq77, q77a, q77b, q77c⟩ := isOf hZ rfl gE74
      obtain ⟨_, _, ⟨T77, L77, kc77, ks77⟩, -, X77, ⟨Lc77, hQ77, l77, y77, z77⟩, st77⟩ := X74.virtualBack hx (y := mn1) (z := mn1) hown (mvT hZ (wd30 hw)) (mvT hZ (wd31 hw)) (notFace_of_selects (args := #[]) (mvT hZ (wd33 hw))) (mvT hZ (wd33 hw)) (mvT hZ (wd32 hw)) (by decide) (backOf (W := 0) (rmAd2 l Z a0 hw [] b31 x1 (0 : Int64) sA74 rA74 dA74 ka74 kb74 kc74_ x0 ((0 : Int64) + (1 : Int64)) wd T74.heap n0 Z74 ge_b31 gE74 gs74 gr74 gd74 g174 ge74 gw74 gS74 hR74 gD74 ge_rA74 ge_dA74 (by decide) ne_b31_sA74 ne_b31_rA74 ne_b31_dA74 n1_74 n2_74 n3_74 (Or.inl rfl)) hZ (wd34 hw) (wd2 hw) (by decide) (by decide)) q77a q77c (g := (mkF m 131 #[vl x0, sd, vl x1, sd, vi x2, vl x3, sd, vl x4, sd, vl x5, sd, vi fa, vi fb, vi wd, vi df, vl 1, sd, vl 0, sd, vr b31, un, un, un, un, un, un, un, un, un, un] [(.long (0 : Int64)), (.long (0 : Int64)), (.long (0 : Int64)), (.long x1), (.ref b31)])) rfl (by rw [hml]; rfl) (Steps.refl _) (argsL := [(.long x1), (.long (0 : Int64)), (.long (0 : Int64)), (.long (0 : Int64))]) (rest := []) (lenOf pd__JJJJ_V rfl) rfl (by show 2 * 0 + _ ≤ _; exact Nat.le_of_eq rfl) (hb hby at_131) (fun _ _ => ⟨rfl, rfl, (by decide : 4 + 0 ≤ _), (by decide : 12 + 0 ≤ _)⟩)
      dsimp only [Pt.U, Pt.locs, Pt.cells, Pt.slots] at X77 l77 y77 z77 st77 hQ77
      subst l77 y77 z77
      obtain ⟨rfl, Nq77, Kq77, gD77⟩ := hQ77
      have N77 := Fr.app N74 Nq77
      have Z77 := Nat.le_trans Z74 Kq77.1
      have K77 := Keep.trans K74 Kq77 (allS (Or.inr sz_rA74) (allS (Or.inr sz_dA74) all0))
      have f78 := (g174.keep Kq77 (ninS ne_b31_rA74 (ninS ne_b31_dA74 nin0)))
      have f79 := (ge74.keep Kq77 (ninS ne_b31_rA74 (ninS ne_b31_dA74 nin0)))
      have f80 := (gs74.keep Kq77 (ninS ne_b31_rA74 (ninS ne_b31_dA74 nin0)))
      have f81 := (gS74.keep Kq77 (ninS n1_74 (ninS n2_74 nin0)))
      have f83 := (gE74.keep Kq77)
      obtain ⟨cq82, kq82, q82a, q82b, q82c⟩ := isOf hZ rfl f83
      obtain ⟨_, _, ⟨T82, L82, kc82, ks82⟩, -, X82, ⟨Lc82, hQ82, l82, y82, z82⟩, st82⟩ := X77.virtualBack hx (y := mn2) (z := mn2) hown (mvT hZ (wd19 hw)) (mvT hZ (wd20 hw)) (notFace_of_selects (args := #[]) (mvT hZ (wd22 hw))) (mvT hZ (wd22 hw)) (mvT hZ (wd21 hw)) (by decide) (backOf (W := 0) (rmA106 l Z a0 hw [] b31 sA74 x0 _ T77.heap n0 Z77 f78 f79 f80 f81) hZ (wd23 hw) (wd2 hw) (by decide) (by decide)) q82a q82c (g := (mkF m 246 #[vl x0, sd, vl x1, sd, vi x2, vl x3, sd, vl x4, sd, vl x5, sd, vi fa, vi fb, vi wd, vi df, vl 1, sd, vl 0, sd, vr b31, vi 1, vl x0, sd, vl x0, sd, vl x0, sd, un, un, un] [(.ref b31)])) rfl (by rw [hml]; rfl) (Steps.refl _) (argsL := []) (rest := []) (lenOf pd___J rfl) rfl (by show 2 * 0 + _ ≤ _; exact Nat.le_of_eq rfl) (hb hby at_246) (fun _ _ => ⟨rfl, rfl, (by decide : 4 + 0 ≤ _), (by decide : 12 + 0 ≤ _)⟩)
      dsimp only [Pt.U, Pt.locs, Pt.cells, Pt.slots] at X82 l82 y82 z82 st82 hQ82
      subst l82 y82 z82
      obtain ⟨rfl, Nq82, eq82⟩ := hQ82
      have N82 := Fr.app N77 Nq82
      have k84 : ∀ t, SS p e below T82 (mkF m 259 #[vl x0, sd, vl x1, sd, vi x2, vl x3, sd, vl x4, sd, vl x5, sd, vi fa, vi fb, vi wd, vi df, vl 1, sd, vl 0, sd, vr b31, vi 1, vl x0, sd, vl x0, sd, vl x0, sd, un, un, un] [(.int df)]) t → Steps p.tables e below (EN) t := by
        intro t kt
        refine k76 t ?_
        refine st77.trans ?_
        refine XS.iload X77.here hx rfl (hb hby at_134) rfl ?_
        refine XS.ifNo X77.here hx rfl (hb hby at_136) rfl ((if0 _ _).trans (feq ea).1) ?_
        refine XS.iload X77.here hx rfl (hb hby at_139) rfl ?_
        refine XS.ifYes X77.here hx rfl (pc0 := 141) (pc' := 182) rfl (hb hby at_141) rfl ((if0 _ _).trans (teq eb).1) (by decide) (by decide) ?_
        refine XS.iload X77.here hx rfl (hb hby at_182) rfl ?_
        refine XS.ifNo X77.here hx rfl (hb hby at_184) rfl ((if0 _ _).trans (feq ea).1) ?_
        refine XS.iconst X77.here hx rfl (hb hby at_187) ?_
        refine XS.istore X77.here hx rfl (hb hby at_188) rfl (l' := #[vl x0, sd, vl x1, sd, vi x2, vl x3, sd, vl x4, sd, vl x5, sd, vi fa, vi fb, vi wd, vi df, vl 1, sd, vl 0, sd, vr b31, vi 1, un, un, un, un, un, un, un, un, un]) rfl ?_
        show SS p e below T77 (mkF m 190 #[vl x0, sd, vl x1, sd, vi x2, vl x3, sd, vl x4, sd, vl x5, sd, vi fa, vi fb, vi wd, vi df, vl 1, sd, vl 0, sd, vr b31, vi 1, un, un, un, un, un, un, un, un, un] []) _
        refine XS.lloadN X77.here hx rfl (hb hby at_190) rfl ?_
        refine XS.lstore X77.here hx rfl (hb hby at_191) rfl (l' := #[vl x0, sd, vl x1, sd, vi x2, vl x3, sd, vl x4, sd, vl x5, sd, vi fa, vi fb, vi wd, vi df, vl 1, sd, vl 0, sd, vr b31, vi 1, vl x0, sd, un, un, un, un, un, un, un]) rfl ?_
        refine XS.lloadN X77.here hx rfl (hb hby at_193) rfl ?_
        refine XS.lstore X77.here hx rfl (hb hby at_194) rfl (l' := #[vl x0, sd, vl x1, sd, vi x2, vl x3, sd, vl x4, sd, vl x5, sd, vi fa, vi fb, vi wd, vi df, vl 1, sd, vl 0, sd, vr b31, vi 1, vl x0, sd, vl x0, sd, un, un, un, un, un]) rfl ?_
        refine XS.goto X77.here hx rfl (pc0 := 196) (pc' := 229) rfl (hb hby at_196) (by decide) (by decide) ?_
        refine XS.iload X77.here hx rfl (hb hby at_229) rfl ?_
        refine XS.ifYes X77.here hx rfl (pc0 := 231) (pc' := 240) rfl (hb hby at_231) rfl ((if0 _ _).trans (feq (by decide : ¬ ((1 : Int32) = (0 : Int32)))).2) (by decide) (by decide) ?_
        refine XS.lload X77.here hx rfl (hb hby at_240) rfl ?_
        show SS p e below T77 (mkF m 242 #[vl x0, sd, vl x1, sd, vi x2, vl x3, sd, vl x4, sd, vl x5, sd, vi fa, vi fb, vi wd, vi df, vl 1, sd, vl 0, sd, vr b31, vi 1, vl x0, sd, vl x0, sd, un, un, un, un, un] [(.long x0)]) _
        refine XS.lstore X77.here hx rfl (hb hby at_242) rfl (l' := #[vl x0, sd, vl x1, sd, vi x2, vl x3, sd, vl x4, sd, vl x5, sd, vi fa, vi fb, vi wd, vi df, vl 1, sd, vl 0, sd, vr b31, vi 1, vl x0, sd, vl x0, sd, vl x0, sd, un, un, un]) rfl ?_
        refine XS.aload X77.here hx rfl (hb hby at_244) rfl rfl ?_
        refine st82.trans ?_
        refine XS.lload X82.here hx rfl (hb hby at_249) rfl ?_
        refine XS.lcmp X82.here hx rfl (hb hby at_251) rfl ?_
        refine XS.ifYes X82.here hx rfl (pc0 := 252) (pc' := 257) rfl (hb hby at_252) rfl ((if0 _ _).trans (teq ((lw_eq x0 x0).mpr (rfl : x0 = x0))).1) (by decide) (by decide) ?_
        refine XS.iload X82.here hx rfl (hb hby at_257) rfl ?_
        exact kt
      by_cases hc85 : df = (0 : Int32)
      · skip
        subst hEN
        obtain ⟨lfs, lhr, lhrun, lhended, lhW, lhsame⟩ := X82.leave (v := some (.int (1 : Int32))) (fun h => by rw [Bd.returns] at h; cases h)
        refine ⟨_, _, k84 _ ?_, lhrun, lhended, _, _, rfl, ?_, ⟨_, rfl⟩, lhW, lhsame.mono (by decide) (by decide)⟩
        · skip
          refine XS.ifNo X82.here hx rfl (hb hby at_259) rfl ((if0 _ _).trans (teq hc85).2) ?_
          refine XS.iconst X82.here hx rfl (hb hby at_262) ?_
          show SS p e below T82 (mkF m 263 #[vl x0, sd, vl x1, sd, vi x2, vl x3, sd, vl x4, sd, vl x5, sd, vi fa, vi fb, vi wd, vi df, vl 1, sd, vl 0, sd, vr b31, vi 1, vl x0, sd, vl x0, sd, vl x0, sd, un, un, un] [(.int (1 : Int32))]) _
          exact retN X82 hx (t := .boolean) Bd.returns (by simp) (hb hby at_263) lhr
        · skip
          show Q0 Z x0 x1 x2 x3 x4 x5 wn kn h0 n0 _ T82.heap _
          rw [eq82]
          exact ⟨rfl, N82⟩
      · skip
        have f86 := (gd74.keep Kq77 (ninS ne_b31_rA74 (ninS ne_b31_dA74 nin0)))
        obtain ⟨cq87, kq87, q87a, q87b, q87c⟩ := isOf hZ eq82 f83
        obtain ⟨_, _, ⟨T87, L87, kc87, ks87⟩, -, X87, ⟨Lc87, hQ87, l87, y87, z87⟩, st87⟩ := X82.virtualBack hx (y := mn3) (z := mn3) hown (mvT hZ (wd72 hw)) (mvT hZ (wd73 hw)) (notFace_of_selects (args := #[]) (mvT hZ (wd75 hw))) (mvT hZ (wd75 hw)) (mvT hZ (wd74 hw)) (by decide) (backOf (W := 0) (rmFg1 l Z a0 hw [] b31 x3 x4 x5 sA74 dA74 _ _ x0 T77.heap n0 Z77 ge_b31 f83 f80 f86 f78 f79 f81 gD77 ne_b31_sA74 ne_b31_dA74) hZ (wd76 hw) (wd2 hw) (by decide) (by decide)) q87a q87c (g := (mkF m 272 #[vl x0, sd, vl x1, sd, vi x2, vl x3, sd, vl x4, sd, vl x5, sd, vi fa, vi fb, vi wd, vi df, vl 1, sd, vl 0, sd, vr b31, vi 1, vl x0, sd, vl x0, sd, vl x0, sd, un, un, un] [(.long x5), (.long x4), (.long x3), (.ref b31)])) rfl (by rw [hml]; rfl) (Steps.refl _) (argsL := [(.long x3), (.long x4), (.long x5)]) (rest := []) (lenOf pd__JJJ_V rfl) rfl (by show 2 * 0 + _ ≤ _; exact Nat.le_of_eq rfl) (hb hby at_272) (fun _ _ => ⟨rfl, eq82, (by decide : 4 + 0 ≤ _), (by decide : 12 + 0 ≤ _)⟩)
        dsimp only [Pt.U, Pt.locs, Pt.cells, Pt.slots] at X87 l87 y87 z87 st87 hQ87
        subst l87 y87 z87
        obtain ⟨fi87, rfl, Nq87, Kq87, gE87, gs87, g187, ge87, hf87⟩ := hQ87
        have N87 := Fr.app N82 Nq87
        have Z87 := Nat.le_trans Z77 Kq87.1
        have K87 := Keep.trans K77 Kq87 (allS (Or.inr sz_b31) all0)
        have k88 : ∀ t, SS p e below T87 (mkF m 280 #[vl x0, sd, vl x1, sd, vi x2, vl x3, sd, vl x4, sd, vl x5, sd, vi fa, vi fb, vi wd, vi df, vl 1, sd, vl 0, sd, vr b31, vi 1, vl x0, sd, vl x0, sd, vl x0, sd, un, un, un] [(.int (lcmpW x4 x5))]) t → Steps p.tables e below (EN) t := by
          intro t kt
          refine k84 t ?_
          refine XS.ifYes X82.here hx rfl (pc0 := 259) (pc' := 264) rfl (hb hby at_259) rfl ((if0 _ _).trans (feq hc85).2) (by decide) (by decide) ?_
          refine XS.aload X82.here hx rfl (hb hby at_264) rfl rfl ?_
          refine XS.lload X82.here hx rfl (hb hby at_266) rfl ?_
          refine XS.lload X82.here hx rfl (hb hby at_268) rfl ?_
          refine XS.lload X82.here hx rfl (hb hby at_270) rfl ?_
          refine st87.trans ?_
          refine XS.lload X87.here hx rfl (hb hby at_275) rfl ?_
          refine XS.lload X87.here hx rfl (hb hby at_277) rfl ?_
          refine XS.lcmp X87.here hx rfl (hb hby at_279) rfl ?_
          exact kt
        obtain ⟨gn, hj89, k89⟩ : ∃ (gn : Int32), ((gn = (1 : Int32) ∧ ¬ x4 < x5) ∨ (gn = (0 : Int32) ∧ x4 < x5)) ∧ ∀ t, SS p e below T87 (mkF m 288 #[vl x0, sd, vl x1, sd, vi x2, vl x3, sd, vl x4, sd, vl x5, sd, vi fa, vi fb, vi wd, vi df, vl 1, sd, vl 0, sd, vr b31, vi 1, vl x0, sd, vl x0, sd, vl x0, sd, un, un, un] [(.int gn)]) t → Steps p.tables e below (EN) t := by
          by_cases hc90 : x4 < x5
          · skip
            have k91 : ∀ t, SS p e below T87 (mkF m 288 #[vl x0, sd, vl x1, sd, vi x2, vl x3, sd, vl x4, sd, vl x5, sd, vi fa, vi fb, vi wd, vi df, vl 1, sd, vl 0, sd, vr b31, vi 1, vl x0, sd, vl x0, sd, vl x0, sd, un, un, un] [(.int (0 : Int32))]) t → Steps p.tables e below (EN) t := by
              intro t kt
              refine k88 t ?_
              refine XS.ifYes X87.here hx rfl (pc0 := 280) (pc' := 287) rfl (hb hby at_280) rfl ((if0 _ _).trans (tlt ((lw_lt x4 x5).mpr hc90)).1) (by decide) (by decide) ?_
              refine XS.iconst X87.here hx rfl (hb hby at_287) ?_
              exact kt
            exact ⟨(0 : Int32), (Or.inr ⟨rfl, hc90⟩), k91⟩
          · skip
            have k92 : ∀ t, SS p e below T87 (mkF m 288 #[vl x0, sd, vl x1, sd, vi x2, vl x3, sd, vl x4, sd, vl x5, sd, vi fa, vi fb, vi wd, vi df, vl 1, sd, vl 0, sd, vr b31, vi 1, vl x0, sd, vl x0, sd, vl x0, sd, un, un, un] [(.int (1 : Int32))]) t → Steps p.tables e below (EN) t := by
              intro t kt
              refine k88 t ?_
              refine XS.ifNo X87.here hx rfl (hb hby at_280) rfl ((if0 _ _).trans (flt (fun q => hc90 ((lw_lt x4 x5).mp q))).1) ?_
              refine XS.iconst X87.here hx rfl (hb hby at_283) ?_
              refine XS.goto X87.here hx rfl (pc0 := 284) (pc' := 288) rfl (hb hby at_284) (by decide) (by decide) ?_
              exact kt
            exact ⟨(1 : Int32), (Or.inl ⟨rfl, hc90⟩), k92⟩
        have k93 : ∀ t, SS p e below T87 (mkF m 305 #[vl x0, sd, vl x1, sd, vi x2, vl x3, sd, vl x4, sd, vl x5, sd, vi fa, vi fb, vi wd, vi df, vl 1, sd, vl 0, sd, vr b31, vi 1, vl x0, sd, vl x0, sd, vl x0, sd, vi gn, un, un] [(.int gn)]) t → Steps p.tables e below (EN) t := by
          intro t kt
          refine k89 t ?_
          refine XS.istore X87.here hx rfl (hb hby at_288) rfl (l' := #[vl x0, sd, vl x1, sd, vi x2, vl x3, sd, vl x4, sd, vl x5, sd, vi fa, vi fb, vi wd, vi df, vl 1, sd, vl 0, sd, vr b31, vi 1, vl x0, sd, vl x0, sd, vl x0, sd, vi gn, un, un]) rfl ?_
          refine XS.iload X87.here hx rfl (hb hby at_290) rfl ?_
          refine XS.ifYes X87.here hx rfl (pc0 := 292) (pc' := 303) rfl (hb hby at_292) rfl ((if0 _ _).trans (feq (by decide : ¬ ((1 : Int32) = (0 : Int32)))).2) (by decide) (by decide) ?_
          refine XS.iload X87.here hx rfl (hb hby at_303) rfl ?_
          exact kt
        obtain ⟨af, hj94, k94⟩ : ∃ (af : Int64), ((¬ gn = (0 : Int32) ∧ ¬ x3 < (x0 / (1000000000 : Int64)) ∧ af = (9223372036854775807 : Int64)) ∨ ((gn = (0 : Int32) ∨ x3 < (x0 / (1000000000 : Int64))) ∧ af = x0)) ∧ ∀ t, SS p e below T87 (mkF m 357 #[vl x0, sd, vl x1, sd, vi x2, vl x3, sd, vl x4, sd, vl x5, sd, vi fa, vi fb, vi wd, vi df, vl 1, sd, vl 0, sd, vr b31, vi 1, vl x0, sd, vl x0, sd, vl x0, sd, vi gn, vl af, sd] []) t → Steps p.tables e below (EN) t := by
          by_cases hc95 : gn = (0 : Int32)
          · skip
            have k96 : ∀ t, SS p e below T87 (mkF m 357 #[vl x0, sd, vl x1, sd, vi x2, vl x3, sd, vl x4, sd, vl x5, sd, vi fa, vi fb, vi wd, vi df, vl 1, sd, vl 0, sd, vr b31, vi 1, vl x0, sd, vl x0, sd, vl x0, sd, vi gn, vl x0, sd] []) t → Steps p.tables e below (EN) t := by
              intro t kt
              refine k93 t ?_
              refine XS.ifYes X87.here hx rfl (pc0 := 305) (pc' := 320) rfl (hb hby at_305) rfl ((if0 _ _).trans (teq hc95).1) (by decide) (by decide) ?_
              refine XS.lload X87.here hx rfl (hb hby at_320) rfl ?_
              refine XS.lstore X87.here hx rfl (hb hby at_322) rfl (l' := #[vl x0, sd, vl x1, sd, vi x2, vl x3, sd, vl x4, sd, vl x5, sd, vi fa, vi fb, vi wd, vi df, vl 1, sd, vl 0, sd, vr b31, vi 1, vl x0, sd, vl x0, sd, vl x0, sd, vi gn, vl x0, sd]) rfl ?_
              refine XS.goto X87.here hx rfl (pc0 := 324) (pc' := 357) rfl (hb hby at_324) (by decide) (by decide) ?_
              exact kt
            exact ⟨x0, (Or.inr ⟨Or.inl hc95, rfl⟩), k96⟩
          · skip
            have k97 : ∀ t, SS p e below T87 (mkF m 317 #[vl x0, sd, vl x1, sd, vi x2, vl x3, sd, vl x4, sd, vl x5, sd, vi fa, vi fb, vi wd, vi df, vl 1, sd, vl 0, sd, vr b31, vi 1, vl x0, sd, vl x0, sd, vl x0, sd, vi gn, un, un] [(.int (lcmpW (x0 / (1000000000 : Int64)) x3))]) t → Steps p.tables e below (EN) t := by
              intro t kt
              refine k93 t ?_
              refine XS.ifNo X87.here hx rfl (hb hby at_305) rfl ((if0 _ _).trans (feq hc95).1) ?_
              refine XS.lload X87.here hx rfl (hb hby at_308) rfl ?_
              refine X87.ldc2Long hx hown (mvT hZ (wd82 hw)) (g := (mkF m 310 #[vl x0, sd, vl x1, sd, vi x2, vl x3, sd, vl x4, sd, vl x5, sd, vi fa, vi fb, vi wd, vi df, vl 1, sd, vl 0, sd, vr b31, vi 1, vl x0, sd, vl x0, sd, vl x0, sd, vi gn, un, un] [(.long x0)])) rfl (hb hby at_310) _ ?_
              refine XS.ldiv X87.here hx rfl (hb hby at_313) rfl (by decide) ?_
              refine XS.lload X87.here hx rfl (hb hby at_314) rfl ?_
              refine XS.lcmp X87.here hx rfl (hb hby at_316) rfl ?_
              exact kt
            by_cases hc98 : x3 < (x0 / (1000000000 : Int64))
            · skip
              have k99 : ∀ t, SS p e below T87 (mkF m 357 #[vl x0, sd, vl x1, sd, vi x2, vl x3, sd, vl x4, sd, vl x5, sd, vi fa, vi fb, vi wd, vi df, vl 1, sd, vl 0, sd, vr b31, vi 1, vl x0, sd, vl x0, sd, vl x0, sd, vi gn, vl x0, sd] []) t → Steps p.tables e below (EN) t := by
                intro t kt
                refine k97 t ?_
                refine XS.ifNo X87.here hx rfl (hb hby at_317) rfl ((if0 _ _).trans (tlt ((lw_gt (x0 / (1000000000 : Int64)) x3).mpr hc98)).2.2.2) ?_
                refine XS.lload X87.here hx rfl (hb hby at_320) rfl ?_
                refine XS.lstore X87.here hx rfl (hb hby at_322) rfl (l' := #[vl x0, sd, vl x1, sd, vi x2, vl x3, sd, vl x4, sd, vl x5, sd, vi fa, vi fb, vi wd, vi df, vl 1, sd, vl 0, sd, vr b31, vi 1, vl x0, sd, vl x0, sd, vl x0, sd, vi gn, vl x0, sd]) rfl ?_
                refine XS.goto X87.here hx rfl (pc0 := 324) (pc' := 357) rfl (hb hby at_324) (by decide) (by decide) ?_
                exact kt
              exact ⟨x0, (Or.inr ⟨Or.inr hc98, rfl⟩), k99⟩
            · skip
              have k100 : ∀ t, SS p e below T87 (mkF m 357 #[vl x0, sd, vl x1, sd, vi x2, vl x3, sd, vl x4, sd, vl x5, sd, vi fa, vi fb, vi wd, vi df, vl 1, sd, vl 0, sd, vr b31, vi 1, vl x0, sd, vl x0, sd, vl x0, sd, vi gn, vl 9223372036854775807, sd] []) t → Steps p.tables e below (EN) t := by
                intro t kt
                refine k97 t ?_
                refine XS.ifYes X87.here hx rfl (pc0 := 317) (pc' := 327) rfl (hb hby at_317) rfl ((if0 _ _).trans (flt (fun q => hc98 ((lw_gt (x0 / (1000000000 : Int64)) x3).mp q))).2.2.2) (by decide) (by decide) ?_
                refine XS.iload X87.here hx rfl (hb hby at_327) rfl ?_
                refine XS.iconst X87.here hx rfl (hb hby at_329) ?_
                refine XS.icmpYes X87.here hx rfl (pc0 := 330) (pc' := 352) rfl (hb hby at_330) rfl (feq (by decide : ¬ ((1 : Int32) = (2 : Int32)))).2 (by decide) (by decide) ?_
                refine X87.ldc2Long hx hown (mvT hZ (wd29 hw)) (g := (mkF m 352 #[vl x0, sd, vl x1, sd, vi x2, vl x3, sd, vl x4, sd, vl x5, sd, vi fa, vi fb, vi wd, vi df, vl 1, sd, vl 0, sd, vr b31, vi 1, vl x0, sd, vl x0, sd, vl x0, sd, vi gn, un, un] [])) rfl (hb hby at_352) _ ?_
                refine XS.lstore X87.here hx rfl (hb hby at_355) rfl (l' := #[vl x0, sd, vl x1, sd, vi x2, vl x3, sd, vl x4, sd, vl x5, sd, vi fa, vi fb, vi wd, vi df, vl 1, sd, vl 0, sd, vr b31, vi 1, vl x0, sd, vl x0, sd, vl x0, sd, vi gn, vl 9223372036854775807, sd]) rfl ?_
                exact kt
              exact ⟨(9223372036854775807 : Int64), (Or.inl ⟨hc95, hc98, rfl⟩), k100⟩
        have f101 := (f81.keep Kq87 (ninS (Ne.symm ne_b31_sA74) nin0))
        obtain ⟨cq102, kq102, q102a, q102b, q102c⟩ := isOf hZ rfl gE87
        obtain ⟨_, _, ⟨T102, L102, kc102, ks102⟩, -, X102, ⟨Lc102, hQ102, l102, y102, z102⟩, st102⟩ := X87.virtualBack hx (y := mn2) (z := mn2) hown (mvT hZ (wd19 hw)) (mvT hZ (wd20 hw)) (notFace_of_selects (args := #[]) (mvT hZ (wd22 hw))) (mvT hZ (wd22 hw)) (mvT hZ (wd21 hw)) (by decide) (backOf (W := 0) (rmFs1 l Z a0 hw [] b31 sA74 _ fi87 x0 T87.heap n0 Z87 gs87 g187 ge87 f101 (own_r1 hf87)) hZ (wd23 hw) (wd2 hw) (by decide) (by decide)) q102a q102c (g := (mkF m 359 #[vl x0, sd, vl x1, sd, vi x2, vl x3, sd, vl x4, sd, vl x5, sd, vi fa, vi fb, vi wd, vi df, vl 1, sd, vl 0, sd, vr b31, vi 1, vl x0, sd, vl x0, sd, vl x0, sd, vi gn, vl af, sd] [(.ref b31)])) rfl (by rw [hml]; rfl) (Steps.refl _) (argsL := []) (rest := []) (lenOf pd___J rfl) rfl (by show 2 * 0 + _ ≤ _; exact Nat.le_of_eq rfl) (hb hby at_359) (fun _ _ => ⟨rfl, rfl, (by decide : 4 + 0 ≤ _), (by decide : 12 + 0 ≤ _)⟩)
        dsimp only [Pt.U, Pt.locs, Pt.cells, Pt.slots] at X102 l102 y102 z102 st102 hQ102
        subst l102 y102 z102
        obtain ⟨rfl, Nq102, eq102⟩ := hQ102
        have N102 := Fr.app N87 Nq102
        subst hEN
        obtain ⟨lfs, lhr, lhrun, lhended, lhW, lhsame⟩ := X102.leave (v := some (.int (1 : Int32))) (fun h => by rw [Bd.returns] at h; cases h)
        refine ⟨_, _, k94 _ ?_, lhrun, lhended, _, _, rfl, ?_, ⟨_, rfl⟩, lhW, lhsame.mono (by decide) (by decide)⟩
        · skip
          refine XS.aload X87.here hx rfl (hb hby at_357) rfl rfl ?_
          refine st102.trans ?_
          refine XS.lload X102.here hx rfl (hb hby at_362) rfl ?_
          refine XS.lcmp X102.here hx rfl (hb hby at_364) rfl ?_
          refine XS.ifNo X102.here hx rfl (hb hby at_365) rfl ((if0 _ _).trans (teq ((lw_eq (own_p1 fi87 x0) af).mpr (own_fin1 hj89 hf87 hj94))).2) ?_
          refine XS.iconst X102.here hx rfl (hb hby at_368) ?_
          refine XS.goto X102.here hx rfl (pc0 := 369) (pc' := 373) rfl (hb hby at_369) (by decide) (by decide) ?_
          show SS p e below T102 (mkF m 373 #[vl x0, sd, vl x1, sd, vi x2, vl x3, sd, vl x4, sd, vl x5, sd, vi fa, vi fb, vi wd, vi df, vl 1, sd, vl 0, sd, vr b31, vi 1, vl x0, sd, vl x0, sd, vl x0, sd, vi gn, vl af, sd] [(.int (1 : Int32))]) _
          exact retN X102 hx (t := .boolean) Bd.returns (by simp) (hb hby at_373) lhr
        · skip
          show Q0 Z x0 x1 x2 x3 x4 x5 wn kn h0 n0 _ T102.heap _
          rw [eq102]
          exact ⟨rfl, N102⟩
    · skip
      rcases own_tri64 x1 x0 with hab | hab | hab
      · skip
        have habx : ¬ x0 < x1 := fun q => by rw [Int64.lt_iff_toInt_lt] at q hab; omega
        have habe : ¬ x0 = x1 := fun q => by rw [q] at hab; exact own_irr64 _ hab
        obtain ⟨cq103, kq103, q103a, q103b, q103c⟩ := isOf hZ rfl gE74
        obtain ⟨_, _, ⟨T103, L103, kc103, ks103⟩, -, X103, ⟨Lc103, hQ103, l103, y103, z103⟩, st103⟩ := X74.virtualBack hx (y := mn1) (z := mn1) hown (mvT hZ (wd30 hw)) (mvT hZ (wd31 hw)) (notFace_of_selects (args := #[]) (mvT hZ (wd33 hw))) (mvT hZ (wd33 hw)) (mvT hZ (wd32 hw)) (by decide) (backOf (W := 0) (rmAd4 l Z a0 hw [] b31 x1 cb sA74 rA74 dA74 ka74 kb74 kc74_ x0 ((0 : Int64) + (1 : Int64)) wd T74.heap n0 Z74 ge_b31 gE74 gs74 gr74 gd74 g174 ge74 gw74 gS74 hR74 gD74 ge_rA74 ge_dA74 (by decide) ne_b31_sA74 ne_b31_rA74 ne_b31_dA74 n1_74 n2_74 n3_74 ed hab) hZ (wd34 hw) (wd2 hw) (by decide) (by decide)) q103a q103c (g := (mkF m 131 #[vl x0, sd, vl x1, sd, vi x2, vl x3, sd, vl x4, sd, vl x5, sd, vi fa, vi fb, vi wd, vi df, vl 1, sd, vl cb, sd, vr b31, un, un, un, un, un, un, un, un, un, un] [(.long (0 : Int64)), (.long cb), (.long (0 : Int64)), (.long x1), (.ref b31)])) rfl (by rw [hml]; rfl) (Steps.refl _) (argsL := [(.long x1), (.long (0 : Int64)), (.long cb), (.long (0 : Int64))]) (rest := []) (lenOf pd__JJJJ_V rfl) rfl (by show 2 * 0 + _ ≤ _; exact Nat.le_of_eq rfl) (hb hby at_131) (fun _ _ => ⟨rfl, rfl, (by decide : 4 + 3 ≤ _), (by decide : 12 + 12 ≤ _)⟩)
        dsimp only [Pt.U, Pt.locs, Pt.cells, Pt.slots] at X103 l103 y103 z103 st103 hQ103
        subst l103 y103 z103
        obtain ⟨sB103, dB103, ka103, kb103, rfl, Nq103, Kq103, zs103, zd103, n1_103, gE103, gs103, gd103, g1103, ge103, gS103, gD103⟩ := hQ103
        have N103 := Fr.app N74 Nq103
        have Z103 := Nat.le_trans Z74 Kq103.1
        have K103 := Keep.trans K74 Kq103 (allS (Or.inr sz_b31) all0)
        have ne_b31_sB103 := own_ne gE74.lt zs103
        have ne_sA74_sB103 := own_ne gS74.lt zs103
        have ne_dA74_sB103 := own_ne gD74.lt zs103
        have ge_sB103 := Nat.le_trans Z74 zs103
        have sz_sB103 := Nat.le_trans K74.1 zs103
        have ne_b31_dB103 := own_ne gE74.lt zd103
        have ne_sA74_dB103 := own_ne gS74.lt zd103
        have ne_dA74_dB103 := own_ne gD74.lt zd103
        have ge_dB103 := Nat.le_trans Z74 zd103
        have sz_dB103 := Nat.le_trans K74.1 zd103
        obtain ⟨_, _, ⟨T104, L104, kc104, ks104⟩, -, X104, ⟨Lc104, hQ104, l104, y104, z104⟩, st104⟩ := Jvm.LawKit.callS X103 hx (y := mn9) hown (mvT hZ (wd78 hw)) (mvT hZ (wd70 hw)) (mvT hZ (wd51 hw)) (mvT hZ (wd71 hw)) (by decide) (backOf (W := 0) (rmA108 l Z a0 hw [] x0 x1 T103.heap n0 Z103 hab) hZ (wd71 hw) (wd51 hw) (by decide) (by decide)) (g := (mkF m 167 #[vl x0, sd, vl x1, sd, vi x2, vl x3, sd, vl x4, sd, vl x5, sd, vi fa, vi fb, vi wd, vi df, vl 1, sd, vl cb, sd, vr b31, vi 2, un, un, un, un, un, un, un, un, un] [(.long x1), (.long x0)])) rfl (by rw [hml]; rfl) (argsL := [(.long x0), (.long x1)]) (rest := []) (lenOf pd__JJ_J rfl) rfl (by show 2 * 0 + _ ≤ _; exact Nat.le_of_eq rfl) (hb hby at_167) (fun _ _ => ⟨rfl, rfl, (by decide : 7 + 0 ≤ _), (by decide : 24 + 0 ≤ _)⟩)
        dsimp only [Pt.U, Pt.locs, Pt.cells, Pt.slots] at X104 l104 y104 z104 st104 hQ104
        subst l104 y104 z104
        obtain ⟨rfl, Nq104, eq104⟩ := hQ104
        have N104 := Fr.app N103 Nq104
        obtain ⟨_, _, ⟨T105, L105, kc105, ks105⟩, -, X105, ⟨Lc105, hQ105, l105, y105, z105⟩, st105⟩ := Jvm.LawKit.callS X104 hx (y := mn8) hown (mvT hZ (wd79 hw)) (mvT hZ (wd80 hw)) (mvT hZ (wd51 hw)) (mvT hZ (wd81 hw)) (by decide) (backOf (W := 0) (rmA109 l Z a0 hw [] x0 x1 T103.heap n0 Z103 habx) hZ (wd81 hw) (wd51 hw) (by decide) (by decide)) (g := (mkF m 174 #[vl x0, sd, vl x1, sd, vi x2, vl x3, sd, vl x4, sd, vl x5, sd, vi fa, vi fb, vi wd, vi df, vl 1, sd, vl cb, sd, vr b31, vi 2, vl x1, sd, un, un, un, un, un, un, un] [(.long x1), (.long x0)])) rfl (by rw [hml]; rfl) (argsL := [(.long x0), (.long x1)]) (rest := []) (lenOf pd__JJ_J rfl) rfl (by show 2 * 0 + _ ≤ _; exact Nat.le_of_eq rfl) (hb hby at_174) (fun _ _ => ⟨rfl, eq104, (by decide : 7 + 0 ≤ _), (by decide : 24 + 0 ≤ _)⟩)
        dsimp only [Pt.U, Pt.locs, Pt.cells, Pt.slots] at X105 l105 y105 z105 st105 hQ105
        subst l105 y105 z105
        obtain ⟨rfl, Nq105, eq105⟩ := hQ105
        have N105 := Fr.app N104 Nq105
        obtain ⟨cq106, kq106, q106a, q106b, q106c⟩ := isOf hZ eq105 gE103
        obtain ⟨_, _, ⟨T106, L106, kc106, ks106⟩, -, X106, ⟨Lc106, hQ106, l106, y106, z106⟩, st106⟩ := X105.virtualBack hx (y := mn2) (z := mn2) hown (mvT hZ (wd19 hw)) (mvT hZ (wd20 hw)) (notFace_of_selects (args := #[]) (mvT hZ (wd22 hw))) (mvT hZ (wd22 hw)) (mvT hZ (wd21 hw)) (by decide) (backOf (W := 0) (rmA110 l Z a0 hw [] b31 sB103 x1 x0 _ T103.heap n0 Z103 g1103 ge103 gs103 gS103) hZ (wd23 hw) (wd2 hw) (by decide) (by decide)) q106a q106c (g := (mkF m 246 #[vl x0, sd, vl x1, sd, vi x2, vl x3, sd, vl x4, sd, vl x5, sd, vi fa, vi fb, vi wd, vi df, vl 1, sd, vl cb, sd, vr b31, vi 2, vl x1, sd, vl x0, sd, vl x1, sd, un, un, un] [(.ref b31)])) rfl (by rw [hml]; rfl) (Steps.refl _) (argsL := []) (rest := []) (lenOf pd___J rfl) rfl (by show 2 * 0 + _ ≤ _; exact Nat.le_of_eq rfl) (hb hby at_246) (fun _ _ => ⟨rfl, eq105, (by decide : 7 + 0 ≤ _), (by decide : 24 + 0 ≤ _)⟩)
        dsimp only [Pt.U, Pt.locs, Pt.cells, Pt.slots] at X106 l106 y106 z106 st106 hQ106
        subst l106 y106 z106
        obtain ⟨rfl, Nq106, eq106⟩ := hQ106
        have N106 := Fr.app N105 Nq106
        have k107 : ∀ t, SS p e below T106 (mkF m 259 #[vl x0, sd, vl x1, sd, vi x2, vl x3, sd, vl x4, sd, vl x5, sd, vi fa, vi fb, vi wd, vi df, vl 1, sd, vl cb, sd, vr b31, vi 2, vl x1, sd, vl x0, sd, vl x1, sd, un, un, un] [(.int df)]) t → Steps p.tables e below (EN) t := by
          intro t kt
          refine k75 t ?_
          refine st103.trans ?_
          refine XS.iload X103.here hx rfl (hb hby at_134) rfl ?_
          refine XS.ifNo X103.here hx rfl (hb hby at_136) rfl ((if0 _ _).trans (feq ea).1) ?_
          refine XS.iload X103.here hx rfl (hb hby at_139) rfl ?_
          refine XS.ifNo X103.here hx rfl (hb hby at_141) rfl ((if0 _ _).trans (feq eb).1) ?_
          refine XS.lloadN X103.here hx rfl (hb hby at_144) rfl ?_
          refine XS.lloadN X103.here hx rfl (hb hby at_145) rfl ?_
          refine XS.lcmp X103.here hx rfl (hb hby at_146) rfl ?_
          refine XS.ifYes X103.here hx rfl (pc0 := 147) (pc' := 162) rfl (hb hby at_147) rfl ((if0 _ _).trans (feq (fun q => habe ((lw_eq x0 x1).mp q))).2) (by decide) (by decide) ?_
          show SS p e below T103 (mkF m 162 #[vl x0, sd, vl x1, sd, vi x2, vl x3, sd, vl x4, sd, vl x5, sd, vi fa, vi fb, vi wd, vi df, vl 1, sd, vl cb, sd, vr b31, un, un, un, un, un, un, un, un, un, un] []) _
          refine XS.iconst X103.here hx rfl (hb hby at_162) ?_
          refine XS.istore X103.here hx rfl (hb hby at_163) rfl (l' := #[vl x0, sd, vl x1, sd, vi x2, vl x3, sd, vl x4, sd, vl x5, sd, vi fa, vi fb, vi wd, vi df, vl 1, sd, vl cb, sd, vr b31, vi 2, un, un, un, un, un, un, un, un, un]) rfl ?_
          refine XS.lloadN X103.here hx rfl (hb hby at_165) rfl ?_
          refine XS.lloadN X103.here hx rfl (hb hby at_166) rfl ?_
          refine st104 _ ?_
          refine XS.lstore X104.here hx rfl (hb hby at_170) rfl (l' := #[vl x0, sd, vl x1, sd, vi x2, vl x3, sd, vl x4, sd, vl x5, sd, vi fa, vi fb, vi wd, vi df, vl 1, sd, vl cb, sd, vr b31, vi 2, vl x1, sd, un, un, un, un, un, un, un]) rfl ?_
          refine XS.lloadN X104.here hx rfl (hb hby at_172) rfl ?_
          refine XS.lloadN X104.here hx rfl (hb hby at_173) rfl ?_
          refine st105 _ ?_
          refine XS.lstore X105.here hx rfl (hb hby at_177) rfl (l' := #[vl x0, sd, vl x1, sd, vi x2, vl x3, sd, vl x4, sd, vl x5, sd, vi fa, vi fb, vi wd, vi df, vl 1, sd, vl cb, sd, vr b31, vi 2, vl x1, sd, vl x0, sd, un, un, un, un, un]) rfl ?_
          refine XS.goto X105.here hx rfl (pc0 := 179) (pc' := 229) rfl (hb hby at_179) (by decide) (by decide) ?_
          refine XS.iload X105.here hx rfl (hb hby at_229) rfl ?_
          refine XS.ifYes X105.here hx rfl (pc0 := 231) (pc' := 240) rfl (hb hby at_231) rfl ((if0 _ _).trans (feq (by decide : ¬ ((2 : Int32) = (0 : Int32)))).2) (by decide) (by decide) ?_
          refine XS.lload X105.here hx rfl (hb hby at_240) rfl ?_
          refine XS.lstore X105.here hx rfl (hb hby at_242) rfl (l' := #[vl x0, sd, vl x1, sd, vi x2, vl x3, sd, vl x4, sd, vl x5, sd, vi fa, vi fb, vi wd, vi df, vl 1, sd, vl cb, sd, vr b31, vi 2, vl x1, sd, vl x0, sd, vl x1, sd, un, un, un]) rfl ?_
          refine XS.aload X105.here hx rfl (hb hby at_244) rfl rfl ?_
          refine st106.trans ?_
          refine XS.lload X106.here hx rfl (hb hby at_249) rfl ?_
          refine XS.lcmp X106.here hx rfl (hb hby at_251) rfl ?_
          refine XS.ifYes X106.here hx rfl (pc0 := 252) (pc' := 257) rfl (hb hby at_252) rfl ((if0 _ _).trans (teq ((lw_eq x1 x1).mpr (rfl : x1 = x1))).1) (by decide) (by decide) ?_
          refine XS.iload X106.here hx rfl (hb hby at_257) rfl ?_
          exact kt
        by_cases hc108 : df = (0 : Int32)
        · skip
          subst hEN
          obtain ⟨lfs, lhr, lhrun, lhended, lhW, lhsame⟩ := X106.leave (v := some (.int (1 : Int32))) (fun h => by rw [Bd.returns] at h; cases h)
          refine ⟨_, _, k107 _ ?_, lhrun, lhended, _, _, rfl, ?_, ⟨_, rfl⟩, lhW, lhsame.mono (by decide) (by decide)⟩
          · skip
            refine XS.ifNo X106.here hx rfl (hb hby at_259) rfl ((if0 _ _).trans (teq hc108).2) ?_
            refine XS.iconst X106.here hx rfl (hb hby at_262) ?_
            show SS p e below T106 (mkF m 263 #[vl x0, sd, vl x1, sd, vi x2, vl x3, sd, vl x4, sd, vl x5, sd, vi fa, vi fb, vi wd, vi df, vl 1, sd, vl cb, sd, vr b31, vi 2, vl x1, sd, vl x0, sd, vl x1, sd, un, un, un] [(.int (1 : Int32))]) _
            exact retN X106 hx (t := .boolean) Bd.returns (by simp) (hb hby at_263) lhr
          · skip
            show Q0 Z x0 x1 x2 x3 x4 x5 wn kn h0 n0 _ T106.heap _
            rw [eq106]
            exact ⟨rfl, N106⟩
        · skip
          obtain ⟨cq109, kq109, q109a, q109b, q109c⟩ := isOf hZ eq106 gE103
          obtain ⟨_, _, ⟨T109, L109, kc109, ks109⟩, -, X109, ⟨Lc109, hQ109, l109, y109, z109⟩, st109⟩ := X106.virtualBack hx (y := mn3) (z := mn3) hown (mvT hZ (wd72 hw)) (mvT hZ (wd73 hw)) (notFace_of_selects (args := #[]) (mvT hZ (wd75 hw))) (mvT hZ (wd75 hw)) (mvT hZ (wd74 hw)) (by decide) (backOf (W := 0) (rmFg2 l Z a0 hw [] b31 x3 x4 x5 sB103 dB103 _ _ x1 x0 T103.heap n0 Z103 ge_b31 gE103 gs103 gd103 g1103 ge103 gS103 gD103 ne_b31_sB103 ne_b31_dB103) hZ (wd76 hw) (wd2 hw) (by decide) (by decide)) q109a q109c (g := (mkF m 272 #[vl x0, sd, vl x1, sd, vi x2, vl x3, sd, vl x4, sd, vl x5, sd, vi fa, vi fb, vi wd, vi df, vl 1, sd, vl cb, sd, vr b31, vi 2, vl x1, sd, vl x0, sd, vl x1, sd, un, un, un] [(.long x5), (.long x4), (.long x3), (.ref b31)])) rfl (by rw [hml]; rfl) (Steps.refl _) (argsL := [(.long x3), (.long x4), (.long x5)]) (rest := []) (lenOf pd__JJJ_V rfl) rfl (by show 2 * 0 + _ ≤ _; exact Nat.le_of_eq rfl) (hb hby at_272) (fun _ _ => ⟨rfl, eq106, (by decide : 7 + 0 ≤ _), (by decide : 24 + 0 ≤ _)⟩)
          dsimp only [Pt.U, Pt.locs, Pt.cells, Pt.slots] at X109 l109 y109 z109 st109 hQ109
          subst l109 y109 z109
          obtain ⟨fi109, rfl, Nq109, Kq109, gE109, gs109, g1109, ge109, hf109⟩ := hQ109
          have N109 := Fr.app N106 Nq109
          have Z109 := Nat.le_trans Z103 Kq109.1
          have K109 := Keep.trans K103 Kq109 (allS (Or.inr sz_b31) all0)
          have k110 : ∀ t, SS p e below T109 (mkF m 280 #[vl x0, sd, vl x1, sd, vi x2, vl x3, sd, vl x4, sd, vl x5, sd, vi fa, vi fb, vi wd, vi df, vl 1, sd, vl cb, sd, vr b31, vi 2, vl x1, sd, vl x0, sd, vl x1, sd, un, un, un] [(.int (lcmpW x4 x5))]) t → Steps p.tables e below (EN) t := by
            intro t kt
            refine k107 t ?_
            refine XS.ifYes X106.here hx rfl (pc0 := 259) (pc' := 264) rfl (hb hby at_259) rfl ((if0 _ _).trans (feq hc108).2) (by decide) (by decide) ?_
            refine XS.aload X106.here hx rfl (hb hby at_264) rfl rfl ?_
            refine XS.lload X106.here hx rfl (hb hby at_266) rfl ?_
            refine XS.lload X106.here hx rfl (hb hby at_268) rfl ?_
            refine XS.lload X106.here hx rfl (hb hby at_270) rfl ?_
            refine st109.trans ?_
            refine XS.lload X109.here hx rfl (hb hby at_275) rfl ?_
            refine XS.lload X109.here hx rfl (hb hby at_277) rfl ?_
            refine XS.lcmp X109.here hx rfl (hb hby at_279) rfl ?_
            exact kt
          obtain ⟨gn, hj111, k111⟩ : ∃ (gn : Int32), ((gn = (1 : Int32) ∧ ¬ x4 < x5) ∨ (gn = (0 : Int32) ∧ x4 < x5)) ∧ ∀ t, SS p e below T109 (mkF m 288 #[vl x0, sd, vl x1, sd, vi x2, vl x3, sd, vl x4, sd, vl x5, sd, vi fa, vi fb, vi wd, vi df, vl 1, sd, vl cb, sd, vr b31, vi 2, vl x1, sd, vl x0, sd, vl x1, sd, un, un, un] [(.int gn)]) t → Steps p.tables e below (EN) t := by
            by_cases hc112 : x4 < x5
            · skip
              have k113 : ∀ t, SS p e below T109 (mkF m 288 #[vl x0, sd, vl x1, sd, vi x2, vl x3, sd, vl x4, sd, vl x5, sd, vi fa, vi fb, vi wd, vi df, vl 1, sd, vl cb, sd, vr b31, vi 2, vl x1, sd, vl x0, sd, vl x1, sd, un, un, un] [(.int (0 : Int32))]) t → Steps p.tables e below (EN) t := by
                intro t kt
                refine k110 t ?_
                refine XS.ifYes X109.here hx rfl (pc0 := 280) (pc' := 287) rfl (hb hby at_280) rfl ((if0 _ _).trans (tlt ((lw_lt x4 x5).mpr hc112)).1) (by decide) (by decide) ?_
                refine XS.iconst X109.here hx rfl (hb hby at_287) ?_
                exact kt
              exact ⟨(0 : Int32), (Or.inr ⟨rfl, hc112⟩), k113⟩
            · skip
              have k114 : ∀ t, SS p e below T109 (mkF m 288 #[vl x0, sd, vl x1, sd, vi x2, vl x3, sd, vl x4, sd, vl x5, sd, vi fa, vi fb, vi wd, vi df, vl 1, sd, vl cb, sd, vr b31, vi 2, vl x1, sd, vl x0, sd, vl x1, sd, un, un, un] [(.int (1 : Int32))]) t → Steps p.tables e below (EN) t := by
                intro t kt
                refine k110 t ?_
                refine XS.ifNo X109.here hx rfl (hb hby at_280) rfl ((if0 _ _).trans (flt (fun q => hc112 ((lw_lt x4 x5).mp q))).1) ?_
                refine XS.iconst X109.here hx rfl (hb hby at_283) ?_
                refine XS.goto X109.here hx rfl (pc0 := 284) (pc' := 288) rfl (hb hby at_284) (by decide) (by decide) ?_
                exact kt
              exact ⟨(1 : Int32), (Or.inl ⟨rfl, hc112⟩), k114⟩
          have k115 : ∀ t, SS p e below T109 (mkF m 305 #[vl x0, sd, vl x1, sd, vi x2, vl x3, sd, vl x4, sd, vl x5, sd, vi fa, vi fb, vi wd, vi df, vl 1, sd, vl cb, sd, vr b31, vi 2, vl x1, sd, vl x0, sd, vl x1, sd, vi gn, un, un] [(.int gn)]) t → Steps p.tables e below (EN) t := by
            intro t kt
            refine k111 t ?_
            refine XS.istore X109.here hx rfl (hb hby at_288) rfl (l' := #[vl x0, sd, vl x1, sd, vi x2, vl x3, sd, vl x4, sd, vl x5, sd, vi fa, vi fb, vi wd, vi df, vl 1, sd, vl cb, sd, vr b31, vi 2, vl x1, sd, vl x0, sd, vl x1, sd, vi gn, un, un]) rfl ?_
            refine XS.iload X109.here hx rfl (hb hby at_290) rfl ?_
            refine XS.ifYes X109.here hx rfl (pc0 := 292) (pc' := 303) rfl (hb hby at_292) rfl ((if0 _ _).trans (feq (by decide : ¬ ((2 : Int32) = (0 : Int32)))).2) (by decide) (by decide) ?_
            refine XS.iload X109.here hx rfl (hb hby at_303) rfl ?_
            exact kt
          obtain ⟨af, hj116, k116⟩ : ∃ (af : Int64), ((¬ gn = (0 : Int32) ∧ ¬ x3 < (x1 / (1000000000 : Int64)) ∧ ¬ x3 < (x0 / (1000000000 : Int64)) ∧ af = (9223372036854775807 : Int64)) ∨ (¬ gn = (0 : Int32) ∧ ¬ x3 < (x1 / (1000000000 : Int64)) ∧ x3 < (x0 / (1000000000 : Int64)) ∧ af = x0) ∨ ((gn = (0 : Int32) ∨ x3 < (x1 / (1000000000 : Int64))) ∧ af = x1)) ∧ ∀ t, SS p e below T109 (mkF m 357 #[vl x0, sd, vl x1, sd, vi x2, vl x3, sd, vl x4, sd, vl x5, sd, vi fa, vi fb, vi wd, vi df, vl 1, sd, vl cb, sd, vr b31, vi 2, vl x1, sd, vl x0, sd, vl x1, sd, vi gn, vl af, sd] []) t → Steps p.tables e below (EN) t := by
            by_cases hc117 : gn = (0 : Int32)
            · skip
              have k118 : ∀ t, SS p e below T109 (mkF m 357 #[vl x0, sd, vl x1, sd, vi x2, vl x3, sd, vl x4, sd, vl x5, sd, vi fa, vi fb, vi wd, vi df, vl 1, sd, vl cb, sd, vr b31, vi 2, vl x1, sd, vl x0, sd, vl x1, sd, vi gn, vl x1, sd] []) t → Steps p.tables e below (EN) t := by
                intro t kt
                refine k115 t ?_
                refine XS.ifYes X109.here hx rfl (pc0 := 305) (pc' := 320) rfl (hb hby at_305) rfl ((if0 _ _).trans (teq hc117).1) (by decide) (by decide) ?_
                refine XS.lload X109.here hx rfl (hb hby at_320) rfl ?_
                refine XS.lstore X109.here hx rfl (hb hby at_322) rfl (l' := #[vl x0, sd, vl x1, sd, vi x2, vl x3, sd, vl x4, sd, vl x5, sd, vi fa, vi fb, vi wd, vi df, vl 1, sd, vl cb, sd, vr b31, vi 2, vl x1, sd, vl x0, sd, vl x1, sd, vi gn, vl x1, sd]) rfl ?_
                refine XS.goto X109.here hx rfl (pc0 := 324) (pc' := 357) rfl (hb hby at_324) (by decide) (by decide) ?_
                exact kt
              exact ⟨x1, (Or.inr (Or.inr ⟨Or.inl hc117, rfl⟩)), k118⟩
            · skip
              have k119 : ∀ t, SS p e below T109 (mkF m 317 #[vl x0, sd, vl x1, sd, vi x2, vl x3, sd, vl x4, sd, vl x5, sd, vi fa, vi fb, vi wd, vi df, vl 1, sd, vl cb, sd, vr b31, vi 2, vl x1, sd, vl x0, sd, vl x1, sd, vi gn, un, un] [(.int (lcmpW (x1 / (1000000000 : Int64)) x3))]) t → Steps p.tables e below (EN) t := by
                intro t kt
                refine k115 t ?_
                refine XS.ifNo X109.here hx rfl (hb hby at_305) rfl ((if0 _ _).trans (feq hc117).1) ?_
                refine XS.lload X109.here hx rfl (hb hby at_308) rfl ?_
                refine X109.ldc2Long hx hown (mvT hZ (wd82 hw)) (g := (mkF m 310 #[vl x0, sd, vl x1, sd, vi x2, vl x3, sd, vl x4, sd, vl x5, sd, vi fa, vi fb, vi wd, vi df, vl 1, sd, vl cb, sd, vr b31, vi 2, vl x1, sd, vl x0, sd, vl x1, sd, vi gn, un, un] [(.long x1)])) rfl (hb hby at_310) _ ?_
                refine XS.ldiv X109.here hx rfl (hb hby at_313) rfl (by decide) ?_
                refine XS.lload X109.here hx rfl (hb hby at_314) rfl ?_
                refine XS.lcmp X109.here hx rfl (hb hby at_316) rfl ?_
                exact kt
              by_cases hc120 : x3 < (x1 / (1000000000 : Int64))
              · skip
                have k121 : ∀ t, SS p e below T109 (mkF m 357 #[vl x0, sd, vl x1, sd, vi x2, vl x3, sd, vl x4, sd, vl x5, sd, vi fa, vi fb, vi wd, vi df, vl 1, sd, vl cb, sd, vr b31, vi 2, vl x1, sd, vl x0, sd, vl x1, sd, vi gn, vl x1, sd] []) t → Steps p.tables e below (EN) t := by
                  intro t kt
                  refine k119 t ?_
                  refine XS.ifNo X109.here hx rfl (hb hby at_317) rfl ((if0 _ _).trans (tlt ((lw_gt (x1 / (1000000000 : Int64)) x3).mpr hc120)).2.2.2) ?_
                  refine XS.lload X109.here hx rfl (hb hby at_320) rfl ?_
                  refine XS.lstore X109.here hx rfl (hb hby at_322) rfl (l' := #[vl x0, sd, vl x1, sd, vi x2, vl x3, sd, vl x4, sd, vl x5, sd, vi fa, vi fb, vi wd, vi df, vl 1, sd, vl cb, sd, vr b31, vi 2, vl x1, sd, vl x0, sd, vl x1, sd, vi gn, vl x1, sd]) rfl ?_
                  refine XS.goto X109.here hx rfl (pc0 := 324) (pc' := 357) rfl (hb hby at_324) (by decide) (by decide) ?_
                  exact kt
                exact ⟨x1, (Or.inr (Or.inr ⟨Or.inr hc120, rfl⟩)), k121⟩
              · skip
                have k122 : ∀ t, SS p e below T109 (mkF m 342 #[vl x0, sd, vl x1, sd, vi x2, vl x3, sd, vl x4, sd, vl x5, sd, vi fa, vi fb, vi wd, vi df, vl 1, sd, vl cb, sd, vr b31, vi 2, vl x1, sd, vl x0, sd, vl x1, sd, vi gn, un, un] [(.int (lcmpW (x0 / (1000000000 : Int64)) x3))]) t → Steps p.tables e below (EN) t := by
                  intro t kt
                  refine k119 t ?_
                  refine XS.ifYes X109.here hx rfl (pc0 := 317) (pc' := 327) rfl (hb hby at_317) rfl ((if0 _ _).trans (flt (fun q => hc120 ((lw_gt (x1 / (1000000000 : Int64)) x3).mp q))).2.2.2) (by decide) (by decide) ?_
                  refine XS.iload X109.here hx rfl (hb hby at_327) rfl ?_
                  refine XS.iconst X109.here hx rfl (hb hby at_329) ?_
                  refine XS.icmpNo X109.here hx rfl (hb hby at_330) rfl (teq (by decide : (2 : Int32) = (2 : Int32))).2 ?_
                  refine XS.lload X109.here hx rfl (hb hby at_333) rfl ?_
                  refine X109.ldc2Long hx hown (mvT hZ (wd82 hw)) (g := (mkF m 335 #[vl x0, sd, vl x1, sd, vi x2, vl x3, sd, vl x4, sd, vl x5, sd, vi fa, vi fb, vi wd, vi df, vl 1, sd, vl cb, sd, vr b31, vi 2, vl x1, sd, vl x0, sd, vl x1, sd, vi gn, un, un] [(.long x0)])) rfl (hb hby at_335) _ ?_
                  refine XS.ldiv X109.here hx rfl (hb hby at_338) rfl (by decide) ?_
                  refine XS.lload X109.here hx rfl (hb hby at_339) rfl ?_
                  refine XS.lcmp X109.here hx rfl (hb hby at_341) rfl ?_
                  exact kt
                by_cases hc123 : x3 < (x0 / (1000000000 : Int64))
                · skip
                  have k124 : ∀ t, SS p e below T109 (mkF m 357 #[vl x0, sd, vl x1, sd, vi x2, vl x3, sd, vl x4, sd, vl x5, sd, vi fa, vi fb, vi wd, vi df, vl 1, sd, vl cb, sd, vr b31, vi 2, vl x1, sd, vl x0, sd, vl x1, sd, vi gn, vl x0, sd] []) t → Steps p.tables e below (EN) t := by
                    intro t kt
                    refine k122 t ?_
                    refine XS.ifNo X109.here hx rfl (hb hby at_342) rfl ((if0 _ _).trans (tlt ((lw_gt (x0 / (1000000000 : Int64)) x3).mpr hc123)).2.2.2) ?_
                    refine XS.lload X109.here hx rfl (hb hby at_345) rfl ?_
                    refine XS.lstore X109.here hx rfl (hb hby at_347) rfl (l' := #[vl x0, sd, vl x1, sd, vi x2, vl x3, sd, vl x4, sd, vl x5, sd, vi fa, vi fb, vi wd, vi df, vl 1, sd, vl cb, sd, vr b31, vi 2, vl x1, sd, vl x0, sd, vl x1, sd, vi gn, vl x0, sd]) rfl ?_
                    refine XS.goto X109.here hx rfl (pc0 := 349) (pc' := 357) rfl (hb hby at_349) (by decide) (by decide) ?_
                    exact kt
                  exact ⟨x0, (Or.inr (Or.inl ⟨hc117, hc120, hc123, rfl⟩)), k124⟩
                · skip
                  have k125 : ∀ t, SS p e below T109 (mkF m 357 #[vl x0, sd, vl x1, sd, vi x2, vl x3, sd, vl x4, sd, vl x5, sd, vi fa, vi fb, vi wd, vi df, vl 1, sd, vl cb, sd, vr b31, vi 2, vl x1, sd, vl x0, sd, vl x1, sd, vi gn, vl 9223372036854775807, sd] []) t → Steps p.tables e below (EN) t := by
                    intro t kt
                    refine k122 t ?_
                    refine XS.ifYes X109.here hx rfl (pc0 := 342) (pc' := 352) rfl (hb hby at_342) rfl ((if0 _ _).trans (flt (fun q => hc123 ((lw_gt (x0 / (1000000000 : Int64)) x3).mp q))).2.2.2) (by decide) (by decide) ?_
                    refine X109.ldc2Long hx hown (mvT hZ (wd29 hw)) (g := (mkF m 352 #[vl x0, sd, vl x1, sd, vi x2, vl x3, sd, vl x4, sd, vl x5, sd, vi fa, vi fb, vi wd, vi df, vl 1, sd, vl cb, sd, vr b31, vi 2, vl x1, sd, vl x0, sd, vl x1, sd, vi gn, un, un] [])) rfl (hb hby at_352) _ ?_
                    refine XS.lstore X109.here hx rfl (hb hby at_355) rfl (l' := #[vl x0, sd, vl x1, sd, vi x2, vl x3, sd, vl x4, sd, vl x5, sd, vi fa, vi fb, vi wd, vi df, vl 1, sd, vl cb, sd, vr b31, vi 2, vl x1, sd, vl x0, sd, vl x1, sd, vi gn, vl 9223372036854775807, sd]) rfl ?_
                    exact kt
                  exact ⟨(9223372036854775807 : Int64), (Or.inl ⟨hc117, hc120, hc123, rfl⟩), k125⟩
          have f126 := (gS103.keep Kq109 (ninS (Ne.symm ne_b31_sB103) nin0))
          obtain ⟨cq127, kq127, q127a, q127b, q127c⟩ := isOf hZ rfl gE109
          obtain ⟨_, _, ⟨T127, L127, kc127, ks127⟩, -, X127, ⟨Lc127, hQ127, l127, y127, z127⟩, st127⟩ := X109.virtualBack hx (y := mn2) (z := mn2) hown (mvT hZ (wd19 hw)) (mvT hZ (wd20 hw)) (notFace_of_selects (args := #[]) (mvT hZ (wd22 hw))) (mvT hZ (wd22 hw)) (mvT hZ (wd21 hw)) (by decide) (backOf (W := 0) (rmFs2 l Z a0 hw [] b31 sB103 _ fi109 x1 x0 T109.heap n0 Z109 gs109 g1109 ge109 f126 (own_r2 hf109)) hZ (wd23 hw) (wd2 hw) (by decide) (by decide)) q127a q127c (g := (mkF m 359 #[vl x0, sd, vl x1, sd, vi x2, vl x3, sd, vl x4, sd, vl x5, sd, vi fa, vi fb, vi wd, vi df, vl 1, sd, vl cb, sd, vr b31, vi 2, vl x1, sd, vl x0, sd, vl x1, sd, vi gn, vl af, sd] [(.ref b31)])) rfl (by rw [hml]; rfl) (Steps.refl _) (argsL := []) (rest := []) (lenOf pd___J rfl) rfl (by show 2 * 0 + _ ≤ _; exact Nat.le_of_eq rfl) (hb hby at_359) (fun _ _ => ⟨rfl, rfl, (by decide : 7 + 0 ≤ _), (by decide : 24 + 0 ≤ _)⟩)
          dsimp only [Pt.U, Pt.locs, Pt.cells, Pt.slots] at X127 l127 y127 z127 st127 hQ127
          subst l127 y127 z127
          obtain ⟨rfl, Nq127, eq127⟩ := hQ127
          have N127 := Fr.app N109 Nq127
          subst hEN
          obtain ⟨lfs, lhr, lhrun, lhended, lhW, lhsame⟩ := X127.leave (v := some (.int (1 : Int32))) (fun h => by rw [Bd.returns] at h; cases h)
          refine ⟨_, _, k116 _ ?_, lhrun, lhended, _, _, rfl, ?_, ⟨_, rfl⟩, lhW, lhsame.mono (by decide) (by decide)⟩
          · skip
            refine XS.aload X109.here hx rfl (hb hby at_357) rfl rfl ?_
            refine st127.trans ?_
            refine XS.lload X127.here hx rfl (hb hby at_362) rfl ?_
            refine XS.lcmp X127.here hx rfl (hb hby at_364) rfl ?_
            refine XS.ifNo X127.here hx rfl (hb hby at_365) rfl ((if0 _ _).trans (teq ((lw_eq (own_p2 fi109 x1 x0) af).mpr (own_fin2 hj111 hf109 hj116))).2) ?_
            refine XS.iconst X127.here hx rfl (hb hby at_368) ?_
            refine XS.goto X127.here hx rfl (pc0 := 369) (pc' := 373) rfl (hb hby at_369) (by decide) (by decide) ?_
            show SS p e below T127 (mkF m 373 #[vl x0, sd, vl x1, sd, vi x2, vl x3, sd, vl x4, sd, vl x5, sd, vi fa, vi fb, vi wd, vi df, vl 1, sd, vl cb, sd, vr b31, vi 2, vl x1, sd, vl x0, sd, vl x1, sd, vi gn, vl af, sd] [(.int (1 : Int32))]) _
            exact retN X127 hx (t := .boolean) Bd.returns (by simp) (hb hby at_373) lhr
          · skip
            show Q0 Z x0 x1 x2 x3 x4 x5 wn kn h0 n0 _ T127.heap _
            rw [eq127]
            exact ⟨rfl, N127⟩
      · skip
        obtain ⟨cq128, kq128, q128a, q128b, q128c⟩ := isOf hZ rfl gE74
        obtain ⟨_, _, ⟨T128, L128, kc128, ks128⟩, -, X128, ⟨Lc128, hQ128, l128, y128, z128⟩, st128⟩ := X74.virtualBack hx (y := mn1) (z := mn1) hown (mvT hZ (wd30 hw)) (mvT hZ (wd31 hw)) (notFace_of_selects (args := #[]) (mvT hZ (wd33 hw))) (mvT hZ (wd33 hw)) (mvT hZ (wd32 hw)) (by decide) (backOf (W := 0) (rmAd2 l Z a0 hw [] b31 x1 cb sA74 rA74 dA74 ka74 kb74 kc74_ x0 ((0 : Int64) + (1 : Int64)) wd T74.heap n0 Z74 ge_b31 gE74 gs74 gr74 gd74 g174 ge74 gw74 gS74 hR74 gD74 ge_rA74 ge_dA74 (by decide) ne_b31_sA74 ne_b31_rA74 ne_b31_dA74 n1_74 n2_74 n3_74 (Or.inr ⟨ed, hab⟩)) hZ (wd34 hw) (wd2 hw) (by decide) (by decide)) q128a q128c (g := (mkF m 131 #[vl x0, sd, vl x1, sd, vi x2, vl x3, sd, vl x4, sd, vl x5, sd, vi fa, vi fb, vi wd, vi df, vl 1, sd, vl cb, sd, vr b31, un, un, un, un, un, un, un, un, un, un] [(.long (0 : Int64)), (.long cb), (.long (0 : Int64)), (.long x1), (.ref b31)])) rfl (by rw [hml]; rfl) (Steps.refl _) (argsL := [(.long x1), (.long (0 : Int64)), (.long cb), (.long (0 : Int64))]) (rest := []) (lenOf pd__JJJJ_V rfl) rfl (by show 2 * 0 + _ ≤ _; exact Nat.le_of_eq rfl) (hb hby at_131) (fun _ _ => ⟨rfl, rfl, (by decide : 4 + 0 ≤ _), (by decide : 12 + 0 ≤ _)⟩)
        dsimp only [Pt.U, Pt.locs, Pt.cells, Pt.slots] at X128 l128 y128 z128 st128 hQ128
        subst l128 y128 z128
        obtain ⟨rfl, Nq128, Kq128, gD128⟩ := hQ128
        have N128 := Fr.app N74 Nq128
        have Z128 := Nat.le_trans Z74 Kq128.1
        have K128 := Keep.trans K74 Kq128 (allS (Or.inr sz_rA74) (allS (Or.inr sz_dA74) all0))
        have f129 := (g174.keep Kq128 (ninS ne_b31_rA74 (ninS ne_b31_dA74 nin0)))
        have f130 := (ge74.keep Kq128 (ninS ne_b31_rA74 (ninS ne_b31_dA74 nin0)))
        have f131 := (gs74.keep Kq128 (ninS ne_b31_rA74 (ninS ne_b31_dA74 nin0)))
        have f132 := (gS74.keep Kq128 (ninS n1_74 (ninS n2_74 nin0)))
        have f134 := (gE74.keep Kq128)
        obtain ⟨cq133, kq133, q133a, q133b, q133c⟩ := isOf hZ rfl f134
        obtain ⟨_, _, ⟨T133, L133, kc133, ks133⟩, -, X133, ⟨Lc133, hQ133, l133, y133, z133⟩, st133⟩ := X128.virtualBack hx (y := mn2) (z := mn2) hown (mvT hZ (wd19 hw)) (mvT hZ (wd20 hw)) (notFace_of_selects (args := #[]) (mvT hZ (wd22 hw))) (mvT hZ (wd22 hw)) (mvT hZ (wd21 hw)) (by decide) (backOf (W := 0) (rmA106 l Z a0 hw [] b31 sA74 x0 _ T128.heap n0 Z128 f129 f130 f131 f132) hZ (wd23 hw) (wd2 hw) (by decide) (by decide)) q133a q133c (g := (mkF m 246 #[vl x0, sd, vl x1, sd, vi x2, vl x3, sd, vl x4, sd, vl x5, sd, vi fa, vi fb, vi wd, vi df, vl 1, sd, vl cb, sd, vr b31, vi 1, vl x0, sd, vl x0, sd, vl x0, sd, un, un, un] [(.ref b31)])) rfl (by rw [hml]; rfl) (Steps.refl _) (argsL := []) (rest := []) (lenOf pd___J rfl) rfl (by show 2 * 0 + _ ≤ _; exact Nat.le_of_eq rfl) (hb hby at_246) (fun _ _ => ⟨rfl, rfl, (by decide : 4 + 0 ≤ _), (by decide : 12 + 0 ≤ _)⟩)
        dsimp only [Pt.U, Pt.locs, Pt.cells, Pt.slots] at X133 l133 y133 z133 st133 hQ133
        subst l133 y133 z133
        obtain ⟨rfl, Nq133, eq133⟩ := hQ133
        have N133 := Fr.app N128 Nq133
        have k135 : ∀ t, SS p e below T133 (mkF m 259 #[vl x0, sd, vl x1, sd, vi x2, vl x3, sd, vl x4, sd, vl x5, sd, vi fa, vi fb, vi wd, vi df, vl 1, sd, vl cb, sd, vr b31, vi 1, vl x0, sd, vl x0, sd, vl x0, sd, un, un, un] [(.int df)]) t → Steps p.tables e below (EN) t := by
          intro t kt
          refine k75 t ?_
          refine st128.trans ?_
          refine XS.iload X128.here hx rfl (hb hby at_134) rfl ?_
          refine XS.ifNo X128.here hx rfl (hb hby at_136) rfl ((if0 _ _).trans (feq ea).1) ?_
          refine XS.iload X128.here hx rfl (hb hby at_139) rfl ?_
          refine XS.ifNo X128.here hx rfl (hb hby at_141) rfl ((if0 _ _).trans (feq eb).1) ?_
          refine XS.lloadN X128.here hx rfl (hb hby at_144) rfl ?_
          refine XS.lloadN X128.here hx rfl (hb hby at_145) rfl ?_
          refine XS.lcmp X128.here hx rfl (hb hby at_146) rfl ?_
          refine XS.ifNo X128.here hx rfl (hb hby at_147) rfl ((if0 _ _).trans (teq ((lw_eq x0 x1).mpr hab.symm)).2) ?_
          show SS p e below T128 (mkF m 150 #[vl x0, sd, vl x1, sd, vi x2, vl x3, sd, vl x4, sd, vl x5, sd, vi fa, vi fb, vi wd, vi df, vl 1, sd, vl cb, sd, vr b31, un, un, un, un, un, un, un, un, un, un] []) _
          refine XS.iconst X128.here hx rfl (hb hby at_150) ?_
          refine XS.istore X128.here hx rfl (hb hby at_151) rfl (l' := #[vl x0, sd, vl x1, sd, vi x2, vl x3, sd, vl x4, sd, vl x5, sd, vi fa, vi fb, vi wd, vi df, vl 1, sd, vl cb, sd, vr b31, vi 1, un, un, un, un, un, un, un, un, un]) rfl ?_
          refine XS.lloadN X128.here hx rfl (hb hby at_153) rfl ?_
          refine XS.lstore X128.here hx rfl (hb hby at_154) rfl (l' := #[vl x0, sd, vl x1, sd, vi x2, vl x3, sd, vl x4, sd, vl x5, sd, vi fa, vi fb, vi wd, vi df, vl 1, sd, vl cb, sd, vr b31, vi 1, vl x0, sd, un, un, un, un, un, un, un]) rfl ?_
          refine XS.lloadN X128.here hx rfl (hb hby at_156) rfl ?_
          refine XS.lstore X128.here hx rfl (hb hby at_157) rfl (l' := #[vl x0, sd, vl x1, sd, vi x2, vl x3, sd, vl x4, sd, vl x5, sd, vi fa, vi fb, vi wd, vi df, vl 1, sd, vl cb, sd, vr b31, vi 1, vl x0, sd, vl x0, sd, un, un, un, un, un]) rfl ?_
          refine XS.goto X128.here hx rfl (pc0 := 159) (pc' := 229) rfl (hb hby at_159) (by decide) (by decide) ?_
          refine XS.iload X128.here hx rfl (hb hby at_229) rfl ?_
          show SS p e below T128 (mkF m 231 #[vl x0, sd, vl x1, sd, vi x2, vl x3, sd, vl x4, sd, vl x5, sd, vi fa, vi fb, vi wd, vi df, vl 1, sd, vl cb, sd, vr b31, vi 1, vl x0, sd, vl x0, sd, un, un, un, un, un] [(.int (1 : Int32))]) _
          refine XS.ifYes X128.here hx rfl (pc0 := 231) (pc' := 240) rfl (hb hby at_231) rfl ((if0 _ _).trans (feq (by decide : ¬ ((1 : Int32) = (0 : Int32)))).2) (by decide) (by decide) ?_
          refine XS.lload X128.here hx rfl (hb hby at_240) rfl ?_
          refine XS.lstore X128.here hx rfl (hb hby at_242) rfl (l' := #[vl x0, sd, vl x1, sd, vi x2, vl x3, sd, vl x4, sd, vl x5, sd, vi fa, vi fb, vi wd, vi df, vl 1, sd, vl cb, sd, vr b31, vi 1, vl x0, sd, vl x0, sd, vl x0, sd, un, un, un]) rfl ?_
          refine XS.aload X128.here hx rfl (hb hby at_244) rfl rfl ?_
          refine st133.trans ?_
          refine XS.lload X133.here hx rfl (hb hby at_249) rfl ?_
          refine XS.lcmp X133.here hx rfl (hb hby at_251) rfl ?_
          refine XS.ifYes X133.here hx rfl (pc0 := 252) (pc' := 257) rfl (hb hby at_252) rfl ((if0 _ _).trans (teq ((lw_eq x0 x0).mpr (rfl : x0 = x0))).1) (by decide) (by decide) ?_
          refine XS.iload X133.here hx rfl (hb hby at_257) rfl ?_
          exact kt
        by_cases hc136 : df = (0 : Int32)
        · skip
          subst hEN
          obtain ⟨lfs, lhr, lhrun, lhended, lhW, lhsame⟩ := X133.leave (v := some (.int (1 : Int32))) (fun h => by rw [Bd.returns] at h; cases h)
          refine ⟨_, _, k135 _ ?_, lhrun, lhended, _, _, rfl, ?_, ⟨_, rfl⟩, lhW, lhsame.mono (by decide) (by decide)⟩
          · skip
            refine XS.ifNo X133.here hx rfl (hb hby at_259) rfl ((if0 _ _).trans (teq hc136).2) ?_
            refine XS.iconst X133.here hx rfl (hb hby at_262) ?_
            show SS p e below T133 (mkF m 263 #[vl x0, sd, vl x1, sd, vi x2, vl x3, sd, vl x4, sd, vl x5, sd, vi fa, vi fb, vi wd, vi df, vl 1, sd, vl cb, sd, vr b31, vi 1, vl x0, sd, vl x0, sd, vl x0, sd, un, un, un] [(.int (1 : Int32))]) _
            exact retN X133 hx (t := .boolean) Bd.returns (by simp) (hb hby at_263) lhr
          · skip
            show Q0 Z x0 x1 x2 x3 x4 x5 wn kn h0 n0 _ T133.heap _
            rw [eq133]
            exact ⟨rfl, N133⟩
        · skip
          have f137 := (gd74.keep Kq128 (ninS ne_b31_rA74 (ninS ne_b31_dA74 nin0)))
          obtain ⟨cq138, kq138, q138a, q138b, q138c⟩ := isOf hZ eq133 f134
          obtain ⟨_, _, ⟨T138, L138, kc138, ks138⟩, -, X138, ⟨Lc138, hQ138, l138, y138, z138⟩, st138⟩ := X133.virtualBack hx (y := mn3) (z := mn3) hown (mvT hZ (wd72 hw)) (mvT hZ (wd73 hw)) (notFace_of_selects (args := #[]) (mvT hZ (wd75 hw))) (mvT hZ (wd75 hw)) (mvT hZ (wd74 hw)) (by decide) (backOf (W := 0) (rmFg1 l Z a0 hw [] b31 x3 x4 x5 sA74 dA74 _ _ x0 T128.heap n0 Z128 ge_b31 f134 f131 f137 f129 f130 f132 gD128 ne_b31_sA74 ne_b31_dA74) hZ (wd76 hw) (wd2 hw) (by decide) (by decide)) q138a q138c (g := (mkF m 272 #[vl x0, sd, vl x1, sd, vi x2, vl x3, sd, vl x4, sd, vl x5, sd, vi fa, vi fb, vi wd, vi df, vl 1, sd, vl cb, sd, vr b31, vi 1, vl x0, sd, vl x0, sd, vl x0, sd, un, un, un] [(.long x5), (.long x4), (.long x3), (.ref b31)])) rfl (by rw [hml]; rfl) (Steps.refl _) (argsL := [(.long x3), (.long x4), (.long x5)]) (rest := []) (lenOf pd__JJJ_V rfl) rfl (by show 2 * 0 + _ ≤ _; exact Nat.le_of_eq rfl) (hb hby at_272) (fun _ _ => ⟨rfl, eq133, (by decide : 4 + 0 ≤ _), (by decide : 12 + 0 ≤ _)⟩)
          dsimp only [Pt.U, Pt.locs, Pt.cells, Pt.slots] at X138 l138 y138 z138 st138 hQ138
          subst l138 y138 z138
          obtain ⟨fi138, rfl, Nq138, Kq138, gE138, gs138, g1138, ge138, hf138⟩ := hQ138
          have N138 := Fr.app N133 Nq138
          have Z138 := Nat.le_trans Z128 Kq138.1
          have K138 := Keep.trans K128 Kq138 (allS (Or.inr sz_b31) all0)
          have k139 : ∀ t, SS p e below T138 (mkF m 280 #[vl x0, sd, vl x1, sd, vi x2, vl x3, sd, vl x4, sd, vl x5, sd, vi fa, vi fb, vi wd, vi df, vl 1, sd, vl cb, sd, vr b31, vi 1, vl x0, sd, vl x0, sd, vl x0, sd, un, un, un] [(.int (lcmpW x4 x5))]) t → Steps p.tables e below (EN) t := by
            intro t kt
            refine k135 t ?_
            refine XS.ifYes X133.here hx rfl (pc0 := 259) (pc' := 264) rfl (hb hby at_259) rfl ((if0 _ _).trans (feq hc136).2) (by decide) (by decide) ?_
            refine XS.aload X133.here hx rfl (hb hby at_264) rfl rfl ?_
            refine XS.lload X133.here hx rfl (hb hby at_266) rfl ?_
            refine XS.lload X133.here hx rfl (hb hby at_268) rfl ?_
            refine XS.lload X133.here hx rfl (hb hby at_270) rfl ?_
            refine st138.trans ?_
            refine XS.lload X138.here hx rfl (hb hby at_275) rfl ?_
            refine XS.lload X138.here hx rfl (hb hby at_277) rfl ?_
            refine XS.lcmp X138.here hx rfl (hb hby at_279) rfl ?_
            exact kt
          obtain ⟨gn, hj140, k140⟩ : ∃ (gn : Int32), ((gn = (1 : Int32) ∧ ¬ x4 < x5) ∨ (gn = (0 : Int32) ∧ x4 < x5)) ∧ ∀ t, SS p e below T138 (mkF m 288 #[vl x0, sd, vl x1, sd, vi x2, vl x3, sd, vl x4, sd, vl x5, sd, vi fa, vi fb, vi wd, vi df, vl 1, sd, vl cb, sd, vr b31, vi 1, vl x0, sd, vl x0, sd, vl x0, sd, un, un, un] [(.int gn)]) t → Steps p.tables e below (EN) t := by
            by_cases hc141 : x4 < x5
            · skip
              have k142 : ∀ t, SS p e below T138 (mkF m 288 #[vl x0, sd, vl x1, sd, vi x2, vl x3, sd, vl x4, sd, vl x5, sd, vi fa, vi fb, vi wd, vi df, vl 1, sd, vl cb, sd, vr b31, vi 1, vl x0, sd, vl x0, sd, vl x0, sd, un, un, un] [(.int (0 : Int32))]) t → Steps p.tables e below (EN) t := by
                intro t kt
                refine k139 t ?_
                refine XS.ifYes X138.here hx rfl (pc0 := 280) (pc' := 287) rfl (hb hby at_280) rfl ((if0 _ _).trans (tlt ((lw_lt x4 x5).mpr hc141)).1) (by decide) (by decide) ?_
                refine XS.iconst X138.here hx rfl (hb hby at_287) ?_
                exact kt
              exact ⟨(0 : Int32), (Or.inr ⟨rfl, hc141⟩), k142⟩
            · skip
              have k143 : ∀ t, SS p e below T138 (mkF m 288 #[vl x0, sd, vl x1, sd, vi x2, vl x3, sd, vl x4, sd, vl x5, sd, vi fa, vi fb, vi wd, vi df, vl 1, sd, vl cb, sd, vr b31, vi 1, vl x0, sd, vl x0, sd, vl x0, sd, un, un, un] [(.int (1 : Int32))]) t → Steps p.tables e below (EN) t := by
                intro t kt
                refine k139 t ?_
                refine XS.ifNo X138.here hx rfl (hb hby at_280) rfl ((if0 _ _).trans (flt (fun q => hc141 ((lw_lt x4 x5).mp q))).1) ?_
                refine XS.iconst X138.here hx rfl (hb hby at_283) ?_
                refine XS.goto X138.here hx rfl (pc0 := 284) (pc' := 288) rfl (hb hby at_284) (by decide) (by decide) ?_
                exact kt
              exact ⟨(1 : Int32), (Or.inl ⟨rfl, hc141⟩), k143⟩
          have k144 : ∀ t, SS p e below T138 (mkF m 305 #[vl x0, sd, vl x1, sd, vi x2, vl x3, sd, vl x4, sd, vl x5, sd, vi fa, vi fb, vi wd, vi df, vl 1, sd, vl cb, sd, vr b31, vi 1, vl x0, sd, vl x0, sd, vl x0, sd, vi gn, un, un] [(.int gn)]) t → Steps p.tables e below (EN) t := by
            intro t kt
            refine k140 t ?_
            refine XS.istore X138.here hx rfl (hb hby at_288) rfl (l' := #[vl x0, sd, vl x1, sd, vi x2, vl x3, sd, vl x4, sd, vl x5, sd, vi fa, vi fb, vi wd, vi df, vl 1, sd, vl cb, sd, vr b31, vi 1, vl x0, sd, vl x0, sd, vl x0, sd, vi gn, un, un]) rfl ?_
            refine XS.iload X138.here hx rfl (hb hby at_290) rfl ?_
            refine XS.ifYes X138.here hx rfl (pc0 := 292) (pc' := 303) rfl (hb hby at_292) rfl ((if0 _ _).trans (feq (by decide : ¬ ((1 : Int32) = (0 : Int32)))).2) (by decide) (by decide) ?_
            refine XS.iload X138.here hx rfl (hb hby at_303) rfl ?_
            exact kt
          obtain ⟨af, hj145, k145⟩ : ∃ (af : Int64), ((¬ gn = (0 : Int32) ∧ ¬ x3 < (x0 / (1000000000 : Int64)) ∧ af = (9223372036854775807 : Int64)) ∨ ((gn = (0 : Int32) ∨ x3 < (x0 / (1000000000 : Int64))) ∧ af = x0)) ∧ ∀ t, SS p e below T138 (mkF m 357 #[vl x0, sd, vl x1, sd, vi x2, vl x3, sd, vl x4, sd, vl x5, sd, vi fa, vi fb, vi wd, vi df, vl 1, sd, vl cb, sd, vr b31, vi 1, vl x0, sd, vl x0, sd, vl x0, sd, vi gn, vl af, sd] []) t → Steps p.tables e below (EN) t := by
            by_cases hc146 : gn = (0 : Int32)
            · skip
              have k147 : ∀ t, SS p e below T138 (mkF m 357 #[vl x0, sd, vl x1, sd, vi x2, vl x3, sd, vl x4, sd, vl x5, sd, vi fa, vi fb, vi wd, vi df, vl 1, sd, vl cb, sd, vr b31, vi 1, vl x0, sd, vl x0, sd, vl x0, sd, vi gn, vl x0, sd] []) t → Steps p.tables e below (EN) t := by
                intro t kt
                refine k144 t ?_
                refine XS.ifYes X138.here hx rfl (pc0 := 305) (pc' := 320) rfl (hb hby at_305) rfl ((if0 _ _).trans (teq hc146).1) (by decide) (by decide) ?_
                refine XS.lload X138.here hx rfl (hb hby at_320) rfl ?_
                refine XS.lstore X138.here hx rfl (hb hby at_322) rfl (l' := #[vl x0, sd, vl x1, sd, vi x2, vl x3, sd, vl x4, sd, vl x5, sd, vi fa, vi fb, vi wd, vi df, vl 1, sd, vl cb, sd, vr b31, vi 1, vl x0, sd, vl x0, sd, vl x0, sd, vi gn, vl x0, sd]) rfl ?_
                refine XS.goto X138.here hx rfl (pc0 := 324) (pc' := 357) rfl (hb hby at_324) (by decide) (by decide) ?_
                exact kt
              exact ⟨x0, (Or.inr ⟨Or.inl hc146, rfl⟩), k147⟩
            · skip
              have k148 : ∀ t, SS p e below T138 (mkF m 317 #[vl x0, sd, vl x1, sd, vi x2, vl x3, sd, vl x4, sd, vl x5, sd, vi fa, vi fb, vi wd, vi df, vl 1, sd, vl cb, sd, vr b31, vi 1, vl x0, sd, vl x0, sd, vl x0, sd, vi gn, un, un] [(.int (lcmpW (x0 / (1000000000 : Int64)) x3))]) t → Steps p.tables e below (EN) t := by
                intro t kt
                refine k144 t ?_
                refine XS.ifNo X138.here hx rfl (hb hby at_305) rfl ((if0 _ _).trans (feq hc146).1) ?_
                refine XS.lload X138.here hx rfl (hb hby at_308) rfl ?_
                refine X138.ldc2Long hx hown (mvT hZ (wd82 hw)) (g := (mkF m 310 #[vl x0, sd, vl x1, sd, vi x2, vl x3, sd, vl x4, sd, vl x5, sd, vi fa, vi fb, vi wd, vi df, vl 1, sd, vl cb, sd, vr b31, vi 1, vl x0, sd, vl x0, sd, vl x0, sd, vi gn, un, un] [(.long x0)])) rfl (hb hby at_310) _ ?_
                refine XS.ldiv X138.here hx rfl (hb hby at_313) rfl (by decide) ?_
                refine XS.lload X138.here hx rfl (hb hby at_314) rfl ?_
                refine XS.lcmp X138.here hx rfl (hb hby at_316) rfl ?_
                exact kt
              by_cases hc149 : x3 < (x0 / (1000000000 : Int64))
              · skip
                have k150 : ∀ t, SS p e below T138 (mkF m 357 #[vl x0, sd, vl x1, sd, vi x2, vl x3, sd, vl x4, sd, vl x5, sd, vi fa, vi fb, vi wd, vi df, vl 1, sd, vl cb, sd, vr b31, vi 1, vl x0, sd, vl x0, sd, vl x0, sd, vi gn, vl x0, sd] []) t → Steps p.tables e below (EN) t := by
                  intro t kt
                  refine k148 t ?_
                  refine XS.ifNo X138.here hx rfl (hb hby at_317) rfl ((if0 _ _).trans (tlt ((lw_gt (x0 / (1000000000 : Int64)) x3).mpr hc149)).2.2.2) ?_
                  refine XS.lload X138.here hx rfl (hb hby at_320) rfl ?_
                  refine XS.lstore X138.here hx rfl (hb hby at_322) rfl (l' := #[vl x0, sd, vl x1, sd, vi x2, vl x3, sd, vl x4, sd, vl x5, sd, vi fa, vi fb, vi wd, vi df, vl 1, sd, vl cb, sd, vr b31, vi 1, vl x0, sd, vl x0, sd, vl x0, sd, vi gn, vl x0, sd]) rfl ?_
                  refine XS.goto X138.here hx rfl (pc0 := 324) (pc' := 357) rfl (hb hby at_324) (by decide) (by decide) ?_
                  exact kt
                exact ⟨x0, (Or.inr ⟨Or.inr hc149, rfl⟩), k150⟩
              · skip
                have k151 : ∀ t, SS p e below T138 (mkF m 357 #[vl x0, sd, vl x1, sd, vi x2, vl x3, sd, vl x4, sd, vl x5, sd, vi fa, vi fb, vi wd, vi df, vl 1, sd, vl cb, sd, vr b31, vi 1, vl x0, sd, vl x0, sd, vl x0, sd, vi gn, vl 9223372036854775807, sd] []) t → Steps p.tables e below (EN) t := by
                  intro t kt
                  refine k148 t ?_
                  refine XS.ifYes X138.here hx rfl (pc0 := 317) (pc' := 327) rfl (hb hby at_317) rfl ((if0 _ _).trans (flt (fun q => hc149 ((lw_gt (x0 / (1000000000 : Int64)) x3).mp q))).2.2.2) (by decide) (by decide) ?_
                  refine XS.iload X138.here hx rfl (hb hby at_327) rfl ?_
                  refine XS.iconst X138.here hx rfl (hb hby at_329) ?_
                  refine XS.icmpYes X138.here hx rfl (pc0 := 330) (pc' := 352) rfl (hb hby at_330) rfl (feq (by decide : ¬ ((1 : Int32) = (2 : Int32)))).2 (by decide) (by decide) ?_
                  refine X138.ldc2Long hx hown (mvT hZ (wd29 hw)) (g := (mkF m 352 #[vl x0, sd, vl x1, sd, vi x2, vl x3, sd, vl x4, sd, vl x5, sd, vi fa, vi fb, vi wd, vi df, vl 1, sd, vl cb, sd, vr b31, vi 1, vl x0, sd, vl x0, sd, vl x0, sd, vi gn, un, un] [])) rfl (hb hby at_352) _ ?_
                  refine XS.lstore X138.here hx rfl (hb hby at_355) rfl (l' := #[vl x0, sd, vl x1, sd, vi x2, vl x3, sd, vl x4, sd, vl x5, sd, vi fa, vi fb, vi wd, vi df, vl 1, sd, vl cb, sd, vr b31, vi 1, vl x0, sd, vl x0, sd, vl x0, sd, vi gn, vl 9223372036854775807, sd]) rfl ?_
                  exact kt
                exact ⟨(9223372036854775807 : Int64), (Or.inl ⟨hc146, hc149, rfl⟩), k151⟩
          have f152 := (f132.keep Kq138 (ninS (Ne.symm ne_b31_sA74) nin0))
          obtain ⟨cq153, kq153, q153a, q153b, q153c⟩ := isOf hZ rfl gE138
          obtain ⟨_, _, ⟨T153, L153, kc153, ks153⟩, -, X153, ⟨Lc153, hQ153, l153, y153, z153⟩, st153⟩ := X138.virtualBack hx (y := mn2) (z := mn2) hown (mvT hZ (wd19 hw)) (mvT hZ (wd20 hw)) (notFace_of_selects (args := #[]) (mvT hZ (wd22 hw))) (mvT hZ (wd22 hw)) (mvT hZ (wd21 hw)) (by decide) (backOf (W := 0) (rmFs1 l Z a0 hw [] b31 sA74 _ fi138 x0 T138.heap n0 Z138 gs138 g1138 ge138 f152 (own_r1 hf138)) hZ (wd23 hw) (wd2 hw) (by decide) (by decide)) q153a q153c (g := (mkF m 359 #[vl x0, sd, vl x1, sd, vi x2, vl x3, sd, vl x4, sd, vl x5, sd, vi fa, vi fb, vi wd, vi df, vl 1, sd, vl cb, sd, vr b31, vi 1, vl x0, sd, vl x0, sd, vl x0, sd, vi gn, vl af, sd] [(.ref b31)])) rfl (by rw [hml]; rfl) (Steps.refl _) (argsL := []) (rest := []) (lenOf pd___J rfl) rfl (by show 2 * 0 + _ ≤ _; exact Nat.le_of_eq rfl) (hb hby at_359) (fun _ _ => ⟨rfl, rfl, (by decide : 4 + 0 ≤ _), (by decide : 12 + 0 ≤ _)⟩)
          dsimp only [Pt.U, Pt.locs, Pt.cells, Pt.slots] at X153 l153 y153 z153 st153 hQ153
          subst l153 y153 z153
          obtain ⟨rfl, Nq153, eq153⟩ := hQ153
          have N153 := Fr.app N138 Nq153
          subst hEN
          obtain ⟨lfs, lhr, lhrun, lhended, lhW, lhsame⟩ := X153.leave (v := some (.int (1 : Int32))) (fun h => by rw [Bd.returns] at h; cases h)
          refine ⟨_, _, k145 _ ?_, lhrun, lhended, _, _, rfl, ?_, ⟨_, rfl⟩, lhW, lhsame.mono (by decide) (by decide)⟩
          · skip
            refine XS.aload X138.here hx rfl (hb hby at_357) rfl rfl ?_
            refine st153.trans ?_
            refine XS.lload X153.here hx rfl (hb hby at_362) rfl ?_
            refine XS.lcmp X153.here hx rfl (hb hby at_364) rfl ?_
            refine XS.ifNo X153.here hx rfl (hb hby at_365) rfl ((if0 _ _).trans (teq ((lw_eq (own_p1 fi138 x0) af).mpr (own_fin1 hj140 hf138 hj145))).2) ?_
            refine XS.iconst X153.here hx rfl (hb hby at_368) ?_
            refine XS.goto X153.here hx rfl (pc0 := 369) (pc' := 373) rfl (hb hby at_369) (by decide) (by decide) ?_
            show SS p e below T153 (mkF m 373 #[vl x0, sd, vl x1, sd, vi x2, vl x3, sd, vl x4, sd, vl x5, sd, vi fa, vi fb, vi wd, vi df, vl 1, sd, vl cb, sd, vr b31, vi 1, vl x0, sd, vl x0, sd, vl x0, sd, vi gn, vl af, sd] [(.int (1 : Int32))]) _
            exact retN X153 hx (t := .boolean) Bd.returns (by simp) (hb hby at_373) lhr
          · skip
            show Q0 Z x0 x1 x2 x3 x4 x5 wn kn h0 n0 _ T153.heap _
            rw [eq153]
            exact ⟨rfl, N153⟩
      · skip
        have habx : ¬ x1 < x0 := fun q => by rw [Int64.lt_iff_toInt_lt] at q hab; omega
        have habe : ¬ x0 = x1 := fun q => by rw [q] at hab; exact own_irr64 _ hab
        obtain ⟨cq154, kq154, q154a, q154b, q154c⟩ := isOf hZ rfl gE74
        obtain ⟨_, _, ⟨T154, L154, kc154, ks154⟩, -, X154, ⟨Lc154, hQ154, l154, y154, z154⟩, st154⟩ := X74.virtualBack hx (y := mn1) (z := mn1) hown (mvT hZ (wd30 hw)) (mvT hZ (wd31 hw)) (notFace_of_selects (args := #[]) (mvT hZ (wd33 hw))) (mvT hZ (wd33 hw)) (mvT hZ (wd32 hw)) (by decide) (backOf (W := 0) (rmAd5 l Z a0 hw [] b31 x1 cb sA74 rA74 dA74 ka74 kb74 kc74_ x0 ((0 : Int64) + (1 : Int64)) wd T74.heap n0 Z74 ge_b31 gE74 gs74 gr74 gd74 g174 ge74 gw74 gS74 hR74 gD74 ge_rA74 ge_dA74 (by decide) ne_b31_sA74 ne_b31_rA74 ne_b31_dA74 n1_74 n2_74 n3_74 ed hab) hZ (wd34 hw) (wd2 hw) (by decide) (by decide)) q154a q154c (g := (mkF m 131 #[vl x0, sd, vl x1, sd, vi x2, vl x3, sd, vl x4, sd, vl x5, sd, vi fa, vi fb, vi wd, vi df, vl 1, sd, vl cb, sd, vr b31, un, un, un, un, un, un, un, un, un, un] [(.long (0 : Int64)), (.long cb), (.long (0 : Int64)), (.long x1), (.ref b31)])) rfl (by rw [hml]; rfl) (Steps.refl _) (argsL := [(.long x1), (.long (0 : Int64)), (.long cb), (.long (0 : Int64))]) (rest := []) (lenOf pd__JJJJ_V rfl) rfl (by show 2 * 0 + _ ≤ _; exact Nat.le_of_eq rfl) (hb hby at_131) (fun _ _ => ⟨rfl, rfl, (by decide : 4 + 3 ≤ _), (by decide : 12 + 12 ≤ _)⟩)
        dsimp only [Pt.U, Pt.locs, Pt.cells, Pt.slots] at X154 l154 y154 z154 st154 hQ154
        subst l154 y154 z154
        obtain ⟨sB154, dB154, ka154, kb154, rfl, Nq154, Kq154, zs154, zd154, n1_154, gE154, gs154, gd154, g1154, ge154, gS154, gD154⟩ := hQ154
        have N154 := Fr.app N74 Nq154
        have Z154 := Nat.le_trans Z74 Kq154.1
        have K154 := Keep.trans K74 Kq154 (allS (Or.inr sz_b31) all0)
        have ne_b31_sB154 := own_ne gE74.lt zs154
        have ne_sA74_sB154 := own_ne gS74.lt zs154
        have ne_dA74_sB154 := own_ne gD74.lt zs154
        have ge_sB154 := Nat.le_trans Z74 zs154
        have sz_sB154 := Nat.le_trans K74.1 zs154
        have ne_b31_dB154 := own_ne gE74.lt zd154
        have ne_sA74_dB154 := own_ne gS74.lt zd154
        have ne_dA74_dB154 := own_ne gD74.lt zd154
        have ge_dB154 := Nat.le_trans Z74 zd154
        have sz_dB154 := Nat.le_trans K74.1 zd154
        obtain ⟨_, _, ⟨T155, L155, kc155, ks155⟩, -, X155, ⟨Lc155, hQ155, l155, y155, z155⟩, st155⟩ := Jvm.LawKit.callS X154 hx (y := mn9) hown (mvT hZ (wd78 hw)) (mvT hZ (wd70 hw)) (mvT hZ (wd51 hw)) (mvT hZ (wd71 hw)) (by decide) (backOf (W := 0) (rmA112 l Z a0 hw [] x0 x1 T154.heap n0 Z154 habx) hZ (wd71 hw) (wd51 hw) (by decide) (by decide)) (g := (mkF m 167 #[vl x0, sd, vl x1, sd, vi x2, vl x3, sd, vl x4, sd, vl x5, sd, vi fa, vi fb, vi wd, vi df, vl 1, sd, vl cb, sd, vr b31, vi 2, un, un, un, un, un, un, un, un, un] [(.long x1), (.long x0)])) rfl (by rw [hml]; rfl) (argsL := [(.long x0), (.long x1)]) (rest := []) (lenOf pd__JJ_J rfl) rfl (by show 2 * 0 + _ ≤ _; exact Nat.le_of_eq rfl) (hb hby at_167) (fun _ _ => ⟨rfl, rfl, (by decide : 7 + 0 ≤ _), (by decide : 24 + 0 ≤ _)⟩)
        dsimp only [Pt.U, Pt.locs, Pt.cells, Pt.slots] at X155 l155 y155 z155 st155 hQ155
        subst l155 y155 z155
        obtain ⟨rfl, Nq155, eq155⟩ := hQ155
        have N155 := Fr.app N154 Nq155
        obtain ⟨_, _, ⟨T156, L156, kc156, ks156⟩, -, X156, ⟨Lc156, hQ156, l156, y156, z156⟩, st156⟩ := Jvm.LawKit.callS X155 hx (y := mn8) hown (mvT hZ (wd79 hw)) (mvT hZ (wd80 hw)) (mvT hZ (wd51 hw)) (mvT hZ (wd81 hw)) (by decide) (backOf (W := 0) (rmA113 l Z a0 hw [] x0 x1 T154.heap n0 Z154 hab) hZ (wd81 hw) (wd51 hw) (by decide) (by decide)) (g := (mkF m 174 #[vl x0, sd, vl x1, sd, vi x2, vl x3, sd, vl x4, sd, vl x5, sd, vi fa, vi fb, vi wd, vi df, vl 1, sd, vl cb, sd, vr b31, vi 2, vl x0, sd, un, un, un, un, un, un, un] [(.long x1), (.long x0)])) rfl (by rw [hml]; rfl) (argsL := [(.long x0), (.long x1)]) (rest := []) (lenOf pd__JJ_J rfl) rfl (by show 2 * 0 + _ ≤ _; exact Nat.le_of_eq rfl) (hb hby at_174) (fun _ _ => ⟨rfl, eq155, (by decide : 7 + 0 ≤ _), (by decide : 24 + 0 ≤ _)⟩)
        dsimp only [Pt.U, Pt.locs, Pt.cells, Pt.slots] at X156 l156 y156 z156 st156 hQ156
        subst l156 y156 z156
        obtain ⟨rfl, Nq156, eq156⟩ := hQ156
        have N156 := Fr.app N155 Nq156
        obtain ⟨cq157, kq157, q157a, q157b, q157c⟩ := isOf hZ eq156 gE154
        obtain ⟨_, _, ⟨T157, L157, kc157, ks157⟩, -, X157, ⟨Lc157, hQ157, l157, y157, z157⟩, st157⟩ := X156.virtualBack hx (y := mn2) (z := mn2) hown (mvT hZ (wd19 hw)) (mvT hZ (wd20 hw)) (notFace_of_selects (args := #[]) (mvT hZ (wd22 hw))) (mvT hZ (wd22 hw)) (mvT hZ (wd21 hw)) (by decide) (backOf (W := 0) (rmA110 l Z a0 hw [] b31 sB154 x0 x1 _ T154.heap n0 Z154 g1154 ge154 gs154 gS154) hZ (wd23 hw) (wd2 hw) (by decide) (by decide)) q157a q157c (g := (mkF m 246 #[vl x0, sd, vl x1, sd, vi x2, vl x3, sd, vl x4, sd, vl x5, sd, vi fa, vi fb, vi wd, vi df, vl 1, sd, vl cb, sd, vr b31, vi 2, vl x0, sd, vl x1, sd, vl x0, sd, un, un, un] [(.ref b31)])) rfl (by rw [hml]; rfl) (Steps.refl _) (argsL := []) (rest := []) (lenOf pd___J rfl) rfl (by show 2 * 0 + _ ≤ _; exact Nat.le_of_eq rfl) (hb hby at_246) (fun _ _ => ⟨rfl, eq156, (by decide : 7 + 0 ≤ _), (by decide : 24 + 0 ≤ _)⟩)
        dsimp only [Pt.U, Pt.locs, Pt.cells, Pt.slots] at X157 l157 y157 z157 st157 hQ157
        subst l157 y157 z157
        obtain ⟨rfl, Nq157, eq157⟩ := hQ157
        have N157 := Fr.app N156 Nq157
        have k158 : ∀ t, SS p e below T157 (mkF m 259 #[vl x0, sd, vl x1, sd, vi x2, vl x3, sd, vl x4, sd, vl x5, sd, vi fa, vi fb, vi wd, vi df, vl 1, sd, vl cb, sd, vr b31, vi 2, vl x0, sd, vl x1, sd, vl x0, sd, un, un, un] [(.int df)]) t → Steps p.tables e below (EN) t := by
          intro t kt
          refine k75 t ?_
          refine st154.trans ?_
          refine XS.iload X154.here hx rfl (hb hby at_134) rfl ?_
          refine XS.ifNo X154.here hx rfl (hb hby at_136) rfl ((if0 _ _).trans (feq ea).1) ?_
          refine XS.iload X154.here hx rfl (hb hby at_139) rfl ?_
          refine XS.ifNo X154.here hx rfl (hb hby at_141) rfl ((if0 _ _).trans (feq eb).1) ?_
          refine XS.lloadN X154.here hx rfl (hb hby at_144) rfl ?_
          refine XS.lloadN X154.here hx rfl (hb hby at_145) rfl ?_
          refine XS.lcmp X154.here hx rfl (hb hby at_146) rfl ?_
          refine XS.ifYes X154.here hx rfl (pc0 := 147) (pc' := 162) rfl (hb hby at_147) rfl ((if0 _ _).trans (feq (fun q => habe ((lw_eq x0 x1).mp q))).2) (by decide) (by decide) ?_
          show SS p e below T154 (mkF m 162 #[vl x0, sd, vl x1, sd, vi x2, vl x3, sd, vl x4, sd, vl x5, sd, vi fa, vi fb, vi wd, vi df, vl 1, sd, vl cb, sd, vr b31, un, un, un, un, un, un, un, un, un, un] []) _
          refine XS.iconst X154.here hx rfl (hb hby at_162) ?_
          refine XS.istore X154.here hx rfl (hb hby at_163) rfl (l' := #[vl x0, sd, vl x1, sd, vi x2, vl x3, sd, vl x4, sd, vl x5, sd, vi fa, vi fb, vi wd, vi df, vl 1, sd, vl cb, sd, vr b31, vi 2, un, un, un, un, un, un, un, un, un]) rfl ?_
          refine XS.lloadN X154.here hx rfl (hb hby at_165) rfl ?_
          refine XS.lloadN X154.here hx rfl (hb hby at_166) rfl ?_
          refine st155 _ ?_
          refine XS.lstore X155.here hx rfl (hb hby at_170) rfl (l' := #[vl x0, sd, vl x1, sd, vi x2, vl x3, sd, vl x4, sd, vl x5, sd, vi fa, vi fb, vi wd, vi df, vl 1, sd, vl cb, sd, vr b31, vi 2, vl x0, sd, un, un, un, un, un, un, un]) rfl ?_
          refine XS.lloadN X155.here hx rfl (hb hby at_172) rfl ?_
          refine XS.lloadN X155.here hx rfl (hb hby at_173) rfl ?_
          refine st156 _ ?_
          refine XS.lstore X156.here hx rfl (hb hby at_177) rfl (l' := #[vl x0, sd, vl x1, sd, vi x2, vl x3, sd, vl x4, sd, vl x5, sd, vi fa, vi fb, vi wd, vi df, vl 1, sd, vl cb, sd, vr b31, vi 2, vl x0, sd, vl x1, sd, un, un, un, un, un]) rfl ?_
          refine XS.goto X156.here hx rfl (pc0 := 179) (pc' := 229) rfl (hb hby at_179) (by decide) (by decide) ?_
          refine XS.iload X156.here hx rfl (hb hby at_229) rfl ?_
          refine XS.ifYes X156.here hx rfl (pc0 := 231) (pc' := 240) rfl (hb hby at_231) rfl ((if0 _ _).trans (feq (by decide : ¬ ((2 : Int32) = (0 : Int32)))).2) (by decide) (by decide) ?_
          refine XS.lload X156.here hx rfl (hb hby at_240) rfl ?_
          refine XS.lstore X156.here hx rfl (hb hby at_242) rfl (l' := #[vl x0, sd, vl x1, sd, vi x2, vl x3, sd, vl x4, sd, vl x5, sd, vi fa, vi fb, vi wd, vi df, vl 1, sd, vl cb, sd, vr b31, vi 2, vl x0, sd, vl x1, sd, vl x0, sd, un, un, un]) rfl ?_
          refine XS.aload X156.here hx rfl (hb hby at_244) rfl rfl ?_
          refine st157.trans ?_
          refine XS.lload X157.here hx rfl (hb hby at_249) rfl ?_
          refine XS.lcmp X157.here hx rfl (hb hby at_251) rfl ?_
          refine XS.ifYes X157.here hx rfl (pc0 := 252) (pc' := 257) rfl (hb hby at_252) rfl ((if0 _ _).trans (teq ((lw_eq x0 x0).mpr (rfl : x0 = x0))).1) (by decide) (by decide) ?_
          refine XS.iload X157.here hx rfl (hb hby at_257) rfl ?_
          exact kt
        by_cases hc159 : df = (0 : Int32)
        · skip
          subst hEN
          obtain ⟨lfs, lhr, lhrun, lhended, lhW, lhsame⟩ := X157.leave (v := some (.int (1 : Int32))) (fun h => by rw [Bd.returns] at h; cases h)
          refine ⟨_, _, k158 _ ?_, lhrun, lhended, _, _, rfl, ?_, ⟨_, rfl⟩, lhW, lhsame.mono (by decide) (by decide)⟩
          · skip
            refine XS.ifNo X157.here hx rfl (hb hby at_259) rfl ((if0 _ _).trans (teq hc159).2) ?_
            refine XS.iconst X157.here hx rfl (hb hby at_262) ?_
            show SS p e below T157 (mkF m 263 #[vl x0, sd, vl x1, sd, vi x2, vl x3, sd, vl x4, sd, vl x5, sd, vi fa, vi fb, vi wd, vi df, vl 1, sd, vl cb, sd, vr b31, vi 2, vl x0, sd, vl x1, sd, vl x0, sd, un, un, un] [(.int (1 : Int32))]) _
            exact retN X157 hx (t := .boolean) Bd.returns (by simp) (hb hby at_263) lhr
          · skip
            show Q0 Z x0 x1 x2 x3 x4 x5 wn kn h0 n0 _ T157.heap _
            rw [eq157]
            exact ⟨rfl, N157⟩
        · skip
          obtain ⟨cq160, kq160, q160a, q160b, q160c⟩ := isOf hZ eq157 gE154
          obtain ⟨_, _, ⟨T160, L160, kc160, ks160⟩, -, X160, ⟨Lc160, hQ160, l160, y160, z160⟩, st160⟩ := X157.virtualBack hx (y := mn3) (z := mn3) hown (mvT hZ (wd72 hw)) (mvT hZ (wd73 hw)) (notFace_of_selects (args := #[]) (mvT hZ (wd75 hw))) (mvT hZ (wd75 hw)) (mvT hZ (wd74 hw)) (by decide) (backOf (W := 0) (rmFg2 l Z a0 hw [] b31 x3 x4 x5 sB154 dB154 _ _ x0 x1 T154.heap n0 Z154 ge_b31 gE154 gs154 gd154 g1154 ge154 gS154 gD154 ne_b31_sB154 ne_b31_dB154) hZ (wd76 hw) (wd2 hw) (by decide) (by decide)) q160a q160c (g := (mkF m 272 #[vl x0, sd, vl x1, sd, vi x2, vl x3, sd, vl x4, sd, vl x5, sd, vi fa, vi fb, vi wd, vi df, vl 1, sd, vl cb, sd, vr b31, vi 2, vl x0, sd, vl x1, sd, vl x0, sd, un, un, un] [(.long x5), (.long x4), (.long x3), (.ref b31)])) rfl (by rw [hml]; rfl) (Steps.refl _) (argsL := [(.long x3), (.long x4), (.long x5)]) (rest := []) (lenOf pd__JJJ_V rfl) rfl (by show 2 * 0 + _ ≤ _; exact Nat.le_of_eq rfl) (hb hby at_272) (fun _ _ => ⟨rfl, eq157, (by decide : 7 + 0 ≤ _), (by decide : 24 + 0 ≤ _)⟩)
          dsimp only [Pt.U, Pt.locs, Pt.cells, Pt.slots] at X160 l160 y160 z160 st160 hQ160
          subst l160 y160 z160
          obtain ⟨fi160, rfl, Nq160, Kq160, gE160, gs160, g1160, ge160, hf160⟩ := hQ160
          have N160 := Fr.app N157 Nq160
          have Z160 := Nat.le_trans Z154 Kq160.1
          have K160 := Keep.trans K154 Kq160 (allS (Or.inr sz_b31) all0)
          have k161 : ∀ t, SS p e below T160 (mkF m 280 #[vl x0, sd, vl x1, sd, vi x2, vl x3, sd, vl x4, sd, vl x5, sd, vi fa, vi fb, vi wd, vi df, vl 1, sd, vl cb, sd, vr b31, vi 2, vl x0, sd, vl x1, sd, vl x0, sd, un, un, un] [(.int (lcmpW x4 x5))]) t → Steps p.tables e below (EN) t := by
            intro t kt
            refine k158 t ?_
            refine XS.ifYes X157.here hx rfl (pc0 := 259) (pc' := 264) rfl (hb hby at_259) rfl ((if0 _ _).trans (feq hc159).2) (by decide) (by decide) ?_
            refine XS.aload X157.here hx rfl (hb hby at_264) rfl rfl ?_
            refine XS.lload X157.here hx rfl (hb hby at_266) rfl ?_
            refine XS.lload X157.here hx rfl (hb hby at_268) rfl ?_
            refine XS.lload X157.here hx rfl (hb hby at_270) rfl ?_
            refine st160.trans ?_
            refine XS.lload X160.here hx rfl (hb hby at_275) rfl ?_
            refine XS.lload X160.here hx rfl (hb hby at_277) rfl ?_
            refine XS.lcmp X160.here hx rfl (hb hby at_279) rfl ?_
            exact kt
          obtain ⟨gn, hj162, k162⟩ : ∃ (gn : Int32), ((gn = (1 : Int32) ∧ ¬ x4 < x5) ∨ (gn = (0 : Int32) ∧ x4 < x5)) ∧ ∀ t, SS p e below T160 (mkF m 288 #[vl x0, sd, vl x1, sd, vi x2, vl x3, sd, vl x4, sd, vl x5, sd, vi fa, vi fb, vi wd, vi df, vl 1, sd, vl cb, sd, vr b31, vi 2, vl x0, sd, vl x1, sd, vl x0, sd, un, un, un] [(.int gn)]) t → Steps p.tables e below (EN) t := by
            by_cases hc163 : x4 < x5
            · skip
              have k164 : ∀ t, SS p e below T160 (mkF m 288 #[vl x0, sd, vl x1, sd, vi x2, vl x3, sd, vl x4, sd, vl x5, sd, vi fa, vi fb, vi wd, vi df, vl 1, sd, vl cb, sd, vr b31, vi 2, vl x0, sd, vl x1, sd, vl x0, sd, un, un, un] [(.int (0 : Int32))]) t → Steps p.tables e below (EN) t := by
                intro t kt
                refine k161 t ?_
                refine XS.ifYes X160.here hx rfl (pc0 := 280) (pc' := 287) rfl (hb hby at_280) rfl ((if0 _ _).trans (tlt ((lw_lt x4 x5).mpr hc163)).1) (by decide) (by decide) ?_
                refine XS.iconst X160.here hx rfl (hb hby at_287) ?_
                exact kt
              exact ⟨(0 : Int32), (Or.inr ⟨rfl, hc163⟩), k164⟩
            · skip
              have k165 : ∀ t, SS p e below T160 (mkF m 288 #[vl x0, sd, vl x1, sd, vi x2, vl x3, sd, vl x4, sd, vl x5, sd, vi fa, vi fb, vi wd, vi df, vl 1, sd, vl cb, sd, vr b31, vi 2, vl x0, sd, vl x1, sd, vl x0, sd, un, un, un] [(.int (1 : Int32))]) t → Steps p.tables e below (EN) t := by
                intro t kt
                refine k161 t ?_
                refine XS.ifNo X160.here hx rfl (hb hby at_280) rfl ((if0 _ _).trans (flt (fun q => hc163 ((lw_lt x4 x5).mp q))).1) ?_
                refine XS.iconst X160.here hx rfl (hb hby at_283) ?_
                refine XS.goto X160.here hx rfl (pc0 := 284) (pc' := 288) rfl (hb hby at_284) (by decide) (by decide) ?_
                exact kt
              exact ⟨(1 : Int32), (Or.inl ⟨rfl, hc163⟩), k165⟩
          have k166 : ∀ t, SS p e below T160 (mkF m 305 #[vl x0, sd, vl x1, sd, vi x2, vl x3, sd, vl x4, sd, vl x5, sd, vi fa, vi fb, vi wd, vi df, vl 1, sd, vl cb, sd, vr b31, vi 2, vl x0, sd, vl x1, sd, vl x0, sd, vi gn, un, un] [(.int gn)]) t → Steps p.tables e below (EN) t := by
            intro t kt
            refine k162 t ?_
            refine XS.istore X160.here hx rfl (hb hby at_288) rfl (l' := #[vl x0, sd, vl x1, sd, vi x2, vl x3, sd, vl x4, sd, vl x5, sd, vi fa, vi fb, vi wd, vi df, vl 1, sd, vl cb, sd, vr b31, vi 2, vl x0, sd, vl x1, sd, vl x0, sd, vi gn, un, un]) rfl ?_
            refine XS.iload X160.here hx rfl (hb hby at_290) rfl ?_
            refine XS.ifYes X160.here hx rfl (pc0 := 292) (pc' := 303) rfl (hb hby at_292) rfl ((if0 _ _).trans (feq (by decide : ¬ ((2 : Int32) = (0 : Int32)))).2) (by decide) (by decide) ?_
            refine XS.iload X160.here hx rfl (hb hby at_303) rfl ?_
            exact kt
          obtain ⟨af, hj167, k167⟩ : ∃ (af : Int64), ((¬ gn = (0 : Int32) ∧ ¬ x3 < (x0 / (1000000000 : Int64)) ∧ ¬ x3 < (x1 / (1000000000 : Int64)) ∧ af = (9223372036854775807 : Int64)) ∨ (¬ gn = (0 : Int32) ∧ ¬ x3 < (x0 / (1000000000 : Int64)) ∧ x3 < (x1 / (1000000000 : Int64)) ∧ af = x1) ∨ ((gn = (0 : Int32) ∨ x3 < (x0 / (1000000000 : Int64))) ∧ af = x0)) ∧ ∀ t, SS p e below T160 (mkF m 357 #[vl x0, sd, vl x1, sd, vi x2, vl x3, sd, vl x4, sd, vl x5, sd, vi fa, vi fb, vi wd, vi df, vl 1, sd, vl cb, sd, vr b31, vi 2, vl x0, sd, vl x1, sd, vl x0, sd, vi gn, vl af, sd] []) t → Steps p.tables e below (EN) t := by
            by_cases hc168 : gn = (0 : Int32)
            · skip
              have k169 : ∀ t, SS p e below T160 (mkF m 357 #[vl x0, sd, vl x1, sd, vi x2, vl x3, sd, vl x4, sd, vl x5, sd, vi fa, vi fb, vi wd, vi df, vl 1, sd, vl cb, sd, vr b31, vi 2, vl x0, sd, vl x1, sd, vl x0, sd, vi gn, vl x0, sd] []) t → Steps p.tables e below (EN) t := by
                intro t kt
                refine k166 t ?_
                refine XS.ifYes X160.here hx rfl (pc0 := 305) (pc' := 320) rfl (hb hby at_305) rfl ((if0 _ _).trans (teq hc168).1) (by decide) (by decide) ?_
                refine XS.lload X160.here hx rfl (hb hby at_320) rfl ?_
                refine XS.lstore X160.here hx rfl (hb hby at_322) rfl (l' := #[vl x0, sd, vl x1, sd, vi x2, vl x3, sd, vl x4, sd, vl x5, sd, vi fa, vi fb, vi wd, vi df, vl 1, sd, vl cb, sd, vr b31, vi 2, vl x0, sd, vl x1, sd, vl x0, sd, vi gn, vl x0, sd]) rfl ?_
                refine XS.goto X160.here hx rfl (pc0 := 324) (pc' := 357) rfl (hb hby at_324) (by decide) (by decide) ?_
                exact kt
              exact ⟨x0, (Or.inr (Or.inr ⟨Or.inl hc168, rfl⟩)), k169⟩
            · skip
              have k170 : ∀ t, SS p e below T160 (mkF m 317 #[vl x0, sd, vl x1, sd, vi x2, vl x3, sd, vl x4, sd, vl x5, sd, vi fa, vi fb, vi wd, vi df, vl 1, sd, vl cb, sd, vr b31, vi 2, vl x0, sd, vl x1, sd, vl x0, sd, vi gn, un, un] [(.int (lcmpW (x0 / (1000000000 : Int64)) x3))]) t → Steps p.tables e below (EN) t := by
                intro t kt
                refine k166 t ?_
                refine XS.ifNo X160.here hx rfl (hb hby at_305) rfl ((if0 _ _).trans (feq hc168).1) ?_
                refine XS.lload X160.here hx rfl (hb hby at_308) rfl ?_
                refine X160.ldc2Long hx hown (mvT hZ (wd82 hw)) (g := (mkF m 310 #[vl x0, sd, vl x1, sd, vi x2, vl x3, sd, vl x4, sd, vl x5, sd, vi fa, vi fb, vi wd, vi df, vl 1, sd, vl cb, sd, vr b31, vi 2, vl x0, sd, vl x1, sd, vl x0, sd, vi gn, un, un] [(.long x0)])) rfl (hb hby at_310) _ ?_
                refine XS.ldiv X160.here hx rfl (hb hby at_313) rfl (by decide) ?_
                refine XS.lload X160.here hx rfl (hb hby at_314) rfl ?_
                refine XS.lcmp X160.here hx rfl (hb hby at_316) rfl ?_
                exact kt
              by_cases hc171 : x3 < (x0 / (1000000000 : Int64))
              · skip
                have k172 : ∀ t, SS p e below T160 (mkF m 357 #[vl x0, sd, vl x1, sd, vi x2, vl x3, sd, vl x4, sd, vl x5, sd, vi fa, vi fb, vi wd, vi df, vl 1, sd, vl cb, sd, vr b31, vi 2, vl x0, sd, vl x1, sd, vl x0, sd, vi gn, vl x0, sd] []) t → Steps p.tables e below (EN) t := by
                  intro t kt
                  refine k170 t ?_
                  refine XS.ifNo X160.here hx rfl (hb hby at_317) rfl ((if0 _ _).trans (tlt ((lw_gt (x0 / (1000000000 : Int64)) x3).mpr hc171)).2.2.2) ?_
                  refine XS.lload X160.here hx rfl (hb hby at_320) rfl ?_
                  refine XS.lstore X160.here hx rfl (hb hby at_322) rfl (l' := #[vl x0, sd, vl x1, sd, vi x2, vl x3, sd, vl x4, sd, vl x5, sd, vi fa, vi fb, vi wd, vi df, vl 1, sd, vl cb, sd, vr b31, vi 2, vl x0, sd, vl x1, sd, vl x0, sd, vi gn, vl x0, sd]) rfl ?_
                  refine XS.goto X160.here hx rfl (pc0 := 324) (pc' := 357) rfl (hb hby at_324) (by decide) (by decide) ?_
                  exact kt
                exact ⟨x0, (Or.inr (Or.inr ⟨Or.inr hc171, rfl⟩)), k172⟩
              · skip
                have k173 : ∀ t, SS p e below T160 (mkF m 342 #[vl x0, sd, vl x1, sd, vi x2, vl x3, sd, vl x4, sd, vl x5, sd, vi fa, vi fb, vi wd, vi df, vl 1, sd, vl cb, sd, vr b31, vi 2, vl x0, sd, vl x1, sd, vl x0, sd, vi gn, un, un] [(.int (lcmpW (x1 / (1000000000 : Int64)) x3))]) t → Steps p.tables e below (EN) t := by
                  intro t kt
                  refine k170 t ?_
                  refine XS.ifYes X160.here hx rfl (pc0 := 317) (pc' := 327) rfl (hb hby at_317) rfl ((if0 _ _).trans (flt (fun q => hc171 ((lw_gt (x0 / (1000000000 : Int64)) x3).mp q))).2.2.2) (by decide) (by decide) ?_
                  refine XS.iload X160.here hx rfl (hb hby at_327) rfl ?_
                  refine XS.iconst X160.here hx rfl (hb hby at_329) ?_
                  refine XS.icmpNo X160.here hx rfl (hb hby at_330) rfl (teq (by decide : (2 : Int32) = (2 : Int32))).2 ?_
                  refine XS.lload X160.here hx rfl (hb hby at_333) rfl ?_
                  refine X160.ldc2Long hx hown (mvT hZ (wd82 hw)) (g := (mkF m 335 #[vl x0, sd, vl x1, sd, vi x2, vl x3, sd, vl x4, sd, vl x5, sd, vi fa, vi fb, vi wd, vi df, vl 1, sd, vl cb, sd, vr b31, vi 2, vl x0, sd, vl x1, sd, vl x0, sd, vi gn, un, un] [(.long x1)])) rfl (hb hby at_335) _ ?_
                  refine XS.ldiv X160.here hx rfl (hb hby at_338) rfl (by decide) ?_
                  refine XS.lload X160.here hx rfl (hb hby at_339) rfl ?_
                  refine XS.lcmp X160.here hx rfl (hb hby at_341) rfl ?_
                  exact kt
                by_cases hc174 : x3 < (x1 / (1000000000 : Int64))
                · skip
                  have k175 : ∀ t, SS p e below T160 (mkF m 357 #[vl x0, sd, vl x1, sd, vi x2, vl x3, sd, vl x4, sd, vl x5, sd, vi fa, vi fb, vi wd, vi df, vl 1, sd, vl cb, sd, vr b31, vi 2, vl x0, sd, vl x1, sd, vl x0, sd, vi gn, vl x1, sd] []) t → Steps p.tables e below (EN) t := by
                    intro t kt
                    refine k173 t ?_
                    refine XS.ifNo X160.here hx rfl (hb hby at_342) rfl ((if0 _ _).trans (tlt ((lw_gt (x1 / (1000000000 : Int64)) x3).mpr hc174)).2.2.2) ?_
                    refine XS.lload X160.here hx rfl (hb hby at_345) rfl ?_
                    refine XS.lstore X160.here hx rfl (hb hby at_347) rfl (l' := #[vl x0, sd, vl x1, sd, vi x2, vl x3, sd, vl x4, sd, vl x5, sd, vi fa, vi fb, vi wd, vi df, vl 1, sd, vl cb, sd, vr b31, vi 2, vl x0, sd, vl x1, sd, vl x0, sd, vi gn, vl x1, sd]) rfl ?_
                    refine XS.goto X160.here hx rfl (pc0 := 349) (pc' := 357) rfl (hb hby at_349) (by decide) (by decide) ?_
                    exact kt
                  exact ⟨x1, (Or.inr (Or.inl ⟨hc168, hc171, hc174, rfl⟩)), k175⟩
                · skip
                  have k176 : ∀ t, SS p e below T160 (mkF m 357 #[vl x0, sd, vl x1, sd, vi x2, vl x3, sd, vl x4, sd, vl x5, sd, vi fa, vi fb, vi wd, vi df, vl 1, sd, vl cb, sd, vr b31, vi 2, vl x0, sd, vl x1, sd, vl x0, sd, vi gn, vl 9223372036854775807, sd] []) t → Steps p.tables e below (EN) t := by
                    intro t kt
                    refine k173 t ?_
                    refine XS.ifYes X160.here hx rfl (pc0 := 342) (pc' := 352) rfl (hb hby at_342) rfl ((if0 _ _).trans (flt (fun q => hc174 ((lw_gt (x1 / (1000000000 : Int64)) x3).mp q))).2.2.2) (by decide) (by decide) ?_
                    refine X160.ldc2Long hx hown (mvT hZ (wd29 hw)) (g := (mkF m 352 #[vl x0, sd, vl x1, sd, vi x2, vl x3, sd, vl x4, sd, vl x5, sd, vi fa, vi fb, vi wd, vi df, vl 1, sd, vl cb, sd, vr b31, vi 2, vl x0, sd, vl x1, sd, vl x0, sd, vi gn, un, un] [])) rfl (hb hby at_352) _ ?_
                    refine XS.lstore X160.here hx rfl (hb hby at_355) rfl (l' := #[vl x0, sd, vl x1, sd, vi x2, vl x3, sd, vl x4, sd, vl x5, sd, vi fa, vi fb, vi wd, vi df, vl 1, sd, vl cb, sd, vr b31, vi 2, vl x0, sd, vl x1, sd, vl x0, sd, vi gn, vl 9223372036854775807, sd]) rfl ?_
                    exact kt
                  exact ⟨(9223372036854775807 : Int64), (Or.inl ⟨hc168, hc171, hc174, rfl⟩), k176⟩
          have f177 := (gS154.keep Kq160 (ninS (Ne.symm ne_b31_sB154) nin0))
          obtain ⟨cq178, kq178, q178a, q178b, q178c⟩ := isOf hZ rfl gE160
          obtain ⟨_, _, ⟨T178, L178, kc178, ks178⟩, -, X178, ⟨Lc178, hQ178, l178, y178, z178⟩, st178⟩ := X160.virtualBack hx (y := mn2) (z := mn2) hown (mvT hZ (wd19 hw)) (mvT hZ (wd20 hw)) (notFace_of_selects (args := #[]) (mvT hZ (wd22 hw))) (mvT hZ (wd22 hw)) (mvT hZ (wd21 hw)) (by decide) (backOf (W := 0) (rmFs2 l Z a0 hw [] b31 sB154 _ fi160 x0 x1 T160.heap n0 Z160 gs160 g1160 ge160 f177 (own_r2 hf160)) hZ (wd23 hw) (wd2 hw) (by decide) (by decide)) q178a q178c (g := (mkF m 359 #[vl x0, sd, vl x1, sd, vi x2, vl x3, sd, vl x4, sd, vl x5, sd, vi fa, vi fb, vi wd, vi df, vl 1, sd, vl cb, sd, vr b31, vi 2, vl x0, sd, vl x1, sd, vl x0, sd, vi gn, vl af, sd] [(.ref b31)])) rfl (by rw [hml]; rfl) (Steps.refl _) (argsL := []) (rest := []) (lenOf pd___J rfl) rfl (by show 2 * 0 + _ ≤ _; exact Nat.le_of_eq rfl) (hb hby at_359) (fun _ _ => ⟨rfl, rfl, (by decide : 7 + 0 ≤ _), (by decide : 24 + 0 ≤ _)⟩)
          dsimp only [Pt.U, Pt.locs, Pt.cells, Pt.slots] at X178 l178 y178 z178 st178 hQ178
          subst l178 y178 z178
          obtain ⟨rfl, Nq178, eq178⟩ := hQ178
          have N178 := Fr.app N160 Nq178
          subst hEN
          obtain ⟨lfs, lhr, lhrun, lhended, lhW, lhsame⟩ := X178.leave (v := some (.int (1 : Int32))) (fun h => by rw [Bd.returns] at h; cases h)
          refine ⟨_, _, k167 _ ?_, lhrun, lhended, _, _, rfl, ?_, ⟨_, rfl⟩, lhW, lhsame.mono (by decide) (by decide)⟩
          · skip
            refine XS.aload X160.here hx rfl (hb hby at_357) rfl rfl ?_
            refine st178.trans ?_
            refine XS.lload X178.here hx rfl (hb hby at_362) rfl ?_
            refine XS.lcmp X178.here hx rfl (hb hby at_364) rfl ?_
            refine XS.ifNo X178.here hx rfl (hb hby at_365) rfl ((if0 _ _).trans (teq ((lw_eq (own_p2 fi160 x0 x1) af).mpr (own_fin2 hj162 hf160 hj167))).2) ?_
            refine XS.iconst X178.here hx rfl (hb hby at_368) ?_
            refine XS.goto X178.here hx rfl (pc0 := 369) (pc' := 373) rfl (hb hby at_369) (by decide) (by decide) ?_
            show SS p e below T178 (mkF m 373 #[vl x0, sd, vl x1, sd, vi x2, vl x3, sd, vl x4, sd, vl x5, sd, vi fa, vi fb, vi wd, vi df, vl 1, sd, vl cb, sd, vr b31, vi 2, vl x0, sd, vl x1, sd, vl x0, sd, vi gn, vl af, sd] [(.int (1 : Int32))]) _
            exact retN X178 hx (t := .boolean) Bd.returns (by simp) (hb hby at_373) lhr
          · skip
            show Q0 Z x0 x1 x2 x3 x4 x5 wn kn h0 n0 _ T178.heap _
            rw [eq178]
            exact ⟨rfl, N178⟩
set_option maxRecDepth 65536 in
set_option maxHeartbeats 40000000 in
theorem comes_1 {Post : Tables → Env → Array Value → State → Outcome → State → Prop} (hpost : ∀ tb e args s v u, (limb_1_1.after args s (.returned v) u = true ∧ limb_1_2.after args s (.returned v) u = true ∧ True) → FrameEnd s (.returned v) u (Jvm.fieldLocs frame_1_writes args s ++ Jvm.arrayLocs frame_1_arrays args s ++ Jvm.staticLocs frame_1_statics s) 24 128 → Post tb e args s (.returned v) u) :
    ArmFor flags0 classFile x code maxLocals ret World_1 tables_1 room_1 Calls_1 rest_1 Pre_1 Post := by
  intro l hfl _ _ p e ha hc hk s m args below hf hA hF happ hP
  obtain ⟨hcalls, hrest, hpre⟩ := hP
  obtain ⟨-, -, -, hnamed, -, -, -, hat⟩ := (Spec.applies_iff hf).mp happ
  obtain ⟨hg, hn⟩ := and_e (Cond.before_iff.mp (show (Jvm.Cond.and given_1 narrow_1).before args s = true from hpre))
  obtain ⟨g1a, g1b⟩ := and_e hg
  obtain ⟨g2a, g2b⟩ := and_e g1b
  obtain ⟨g3a, g3b⟩ := and_e g2b
  obtain ⟨g4a, g4b⟩ := and_e g3b
  obtain ⟨g5a, g5b⟩ := and_e g4b
  obtain ⟨g6a, g6b⟩ := and_e g5b
  obtain ⟨u7a, u7b⟩ := and_e hn
  obtain ⟨u8a, u8b⟩ := and_e u7b
  obtain ⟨w0, w1, w2, w3, w4, w5, rfl⟩ : ∃ w0 w1 w2 w3 w4 w5 : Value, args = #[w0, w1, w2, w3, w4, w5] := by
    have hs : args.size = 6 := by simpa [Cond.value, given_1] using g1a
    obtain ⟨L⟩ := args
    match L, hs with
    | [w0, w1, w2, w3, w4, w5], _ => exact ⟨w0, w1, w2, w3, w4, w5, rfl⟩
  have hw := fun d (hd : d ∈ tables_1) => atoms_spec (ws := Jvm.Cond.code x code maxLocals ret :: tables_1) hat d (List.mem_cons_of_mem _ hd)
  have hfit : Fit s := fun {y c} hc i hi => by
    obtain ⟨ha, rfl⟩ := Array.getElem?_eq_some_iff.mp hc
    have q := List.all_eq_true.mp ((Array.all_eq_true_iff_forall_mem.mp hF) _ (Array.getElem_mem ha)) i (List.mem_range.mpr hi)
    simpa [Array.getElem?_eq_getElem hi] using q
  obtain ⟨i0, ei0⟩ := isL_v g2a
  obtain rfl : w0 = (.long i0) := Option.some.inj ei0
  obtain ⟨i1, ei1⟩ := isL_v g3a
  obtain rfl : w1 = (.long i1) := Option.some.inj ei1
  obtain ⟨i2, ei2⟩ := is_v g4a
  obtain rfl : w2 = (.int i2) := Option.some.inj ei2
  obtain ⟨i3, ei3⟩ := isL_v g5a
  obtain rfl : w3 = (.long i3) := Option.some.inj ei3
  obtain ⟨i4, ei4⟩ := isL_v g6a
  obtain rfl : w4 = (.long i4) := Option.some.inj ei4
  obtain ⟨i5, ei5⟩ := isL_v g6b
  obtain rfl : w5 = (.long i5) := Option.some.inj ei5
  obtain ⟨wn, ev_n⟩ := arr_v u7a
  have S_N := Sta.start ev_n (Or.inr ⟨(wd2 hw), (wd10 hw)⟩)
  obtain ⟨cln, Ar⟩ := Arr.start ev_n u7a
  have V_N := own_arv0 (dv := .long (0 : Int64)) hfit ev_n Ar (own_evInt u8b)
  obtain ⟨n, o, h1, h2, h3, _, L, rfl, ⟨rfl, N⟩, hq⟩ := rm0 l s _ hw tables_1 i0 i1 i2 i3 i4 i5 wn _ s.heap s.heap.size (Nat.le_refl _) (Old.start s) S_N V_N p e ha hc hk s m _ below hf ((Spec.applies_iff_loose hf).mp happ).1 ⟨rfl, State.Warmed39.refl s, rfl⟩ trivial
  refine ⟨n, _, h1, h2, h3, hpost _ _ _ _ _ _ ⟨Cond.after_iff.mpr rfl, Cond.after_iff.mpr (eq_i res_at (Term.int_eval (1)) rfl), trivial⟩ ⟨hq.1, hq.2.1, (hq.2.2.sift fun y hy => Or.inr (N y hy)).mono (by decide) (by decide)⟩⟩
theorem main_1_1 : Claimed_1_1 := comes_1 fun _ _ _ _ _ _ h hF => ⟨h.1, hF⟩
theorem main_1_2 : Claimed_1_2 := comes_1 fun _ _ _ _ _ _ h hF => ⟨h.2.1, hF⟩
end Jvm.Pilot.@@N@@
namespace Jvm.Pilot.@@N@@
open Jvm Jvm.ClassFile Sem Op Lib Jvm.Free Jvm.Stand Jvm.Pilot.@@N@@.Jvm.D
/-! MADE BY PROGRAM (witnessworld.py) out of the Statement's table words and the real class files: 15 classes; the members and pool entries that the words name. The judged class is class 1, her method 1. -/
namespace start1
open Jvm.ClassFile
def u (s : String) : CpInfo := .utf8 (stringToUtf16 s)
/-- a pool by its gaps: so many unusable entries, then the entry; so many at the end -/
def gap : Nat → List CpInfo → List CpInfo
  | 0, r => r
  | n + 1, r => .unusable :: gap n r
def poolList (es : List (Nat × CpInfo)) (last : Nat) : List CpInfo := es.foldr (fun e r => gap e.1 (e.2 :: r)) (gap last [])
def pool (es : List (Nat × CpInfo)) (last : Nat) : Array CpInfo := ⟨poolList es last⟩
def fileOf (pool : Array CpInfo) (this : Nat) (attrs : Array Attribute := #[]) (ms : Array MethodInfo := #[]) (fl : Nat := 33) (sup : Nat := 0) (ifs : Array Nat := #[]) (fds : Array FieldInfo := #[]) : ClassFile where
  minorVersion := 0
  majorVersion := 65
  constantPool := pool
  accessFlags := fl
  thisClass := this
  superClass := sup
  interfaces := ifs
  fields := fds
  methods := ms
  attributes := attrs
def plain (name : String) (sup : Option ClassId) : Class where
  name := name
  kind := .ordinary
  loader := none
  accessFlags := 33
  super := sup
  interfaces := #[]
  cf := none
  fields := #[]
  methods := #[]
  instanceTypes := #[]
  staticTypes := #[]
  resolved := #[]
  callSites := []
  init := .initialized
  statics := none
  mirror := none

def pool0 : Array CpInfo := pool [(5, u "<init>"), (0, u "()V"), (1, .class_ 10), (1, u "java/lang/Object")] 113

def k0c0 : Code := { maxStack := 0, maxLocals := 1, code := object_method_1_code, exceptionTable := #[], attributes := #[] }
def k0m0 : Method := { name := "<init>", desc := "()V", sig := { parameters := [], returnType := none }, accessFlags := 1, code := some k0c0 }
/-- java/lang/Object -/
def k0 : Class := { plain "java/lang/Object" none with
  accessFlags := 33
  interfaces := #[]
  cf := some (fileOf pool0 8 #[] #[{ accessFlags := 1, nameIndex := 5, descriptorIndex := 6, attributes := #[] }] 33 0 #[] #[])
  fields := #[]
  methods := #[k0m0]
  instanceTypes := #[]
  staticTypes := #[]
  resolved := Array.replicate 124 none
  statics := none }

def pool1 : Array CpInfo := pool [(2, .class_ 4), (1, u "java/lang/Object"), (0, u "<init>"), (0, u "()V"), (0, .class_ 8), (0, u "com/example/strict_limiter/strictlimiter/KeptWindows"), (0, .methodref 7 10), (0, .nameAndType 5 11), (0, u "(I)V"), (0, .methodref 7 13), (0, .nameAndType 14 15), (0, u "firstStart"), (0, u "()J"), (2, .long 9223372036854775807), (1, .methodref 7 21), (0, .nameAndType 22 23), (0, u "add"), (0, u "(JJJJ)V"), (0, .methodref 25 26), (0, .class_ 27), (0, .nameAndType 28 29), (0, u "java/lang/Math"), (0, u "min"), (0, u "(JJ)J"), (0, .methodref 25 31), (0, .nameAndType 32 29), (0, u "max"), (0, .methodref 7 34), (0, .nameAndType 35 36), (0, u "forget"), (0, u "(JJJ)V"), (0, .long 1000000000), (1, .class_ 40), (0, u "com/example/strict_limiter/strictlimiter/KeptWindowsFirstStartPinLaw"), (2, u "law"), (0, u "(JJIJJJ)Z")] 3

def k1m0 : Method := { name := "<init>", desc := "()V", sig := { parameters := [], returnType := none }, accessFlags := 1, code := none }
def k1c1 : Code := { maxStack := 9, maxLocals := 30, code := code, exceptionTable := #[], attributes := #[] }
def k1m1 : Method := { name := "law", desc := "(JJIJJJ)Z", sig := { parameters := [.long, .long, .int, .long, .long, .long], returnType := some .boolean }, accessFlags := 9, code := some k1c1 }
/-- com/example/strict_limiter/strictlimiter/KeptWindowsFirstStartPinLaw -/
def k1 : Class := { plain "com/example/strict_limiter/strictlimiter/KeptWindowsFirstStartPinLaw" (some 0) with
  accessFlags := 49
  interfaces := #[]
  cf := some (fileOf pool1 39 #[] #[{ accessFlags := 1, nameIndex := 5, descriptorIndex := 6, attributes := #[] }, { accessFlags := 9, nameIndex := 43, descriptorIndex := 44, attributes := #[] }] 49 2 #[] #[])
  fields := #[]
  methods := #[k1m0, k1m1]
  instanceTypes := #[]
  staticTypes := #[]
  resolved := Array.replicate 48 none
  statics := none }

def pool2 : Array CpInfo := pool [(1, .methodref 2 3), (0, .class_ 4), (0, .nameAndType 5 6), (0, u "java/lang/Object"), (0, u "<init>"), (0, u "()V"), (0, .fieldref 8 9), (0, .class_ 10), (0, .nameAndType 11 12), (0, u "com/example/strict_limiter/strictlimiter/KeptWindows"), (0, u "NONE"), (0, u "[J"), (0, .fieldref 8 14), (0, .nameAndType 15 12), (0, u "starts"), (0, .fieldref 8 17), (0, .nameAndType 18 12), (0, u "records"), (0, .fieldref 8 20), (0, .nameAndType 21 12), (0, u "decidedAt"), (0, .fieldref 8 23), (0, .nameAndType 24 25), (0, u "width"), (0, u "I"), (0, .fieldref 8 27), (0, .nameAndType 28 25), (0, u "first"), (0, .fieldref 8 30), (0, .nameAndType 31 25), (0, u "end"), (0, .long 1000000000), (3, .long 9223372036854775807), (1, .methodref 39 40), (0, .class_ 41), (0, .nameAndType 42 43), (0, u "java/util/Arrays"), (0, u "binarySearch"), (0, u "([JIIJ)I"), (0, .methodref 8 45), (0, .nameAndType 46 47), (0, u "insert"), (0, u "(IJ)I"), (0, .methodref 49 50), (0, .class_ 51), (0, .nameAndType 52 53), (0, u "com/example/strict_limiter/strictlimiter/WindowRecord"), (0, u "add"), (0, u "([JIIJJ)V"), (0, .methodref 55 56), (0, .class_ 57), (0, .nameAndType 58 59), (0, u "java/lang/System"), (0, u "arraycopy"), (0, u "(Ljava/lang/Object;ILjava/lang/Object;II)V"), (0, .methodref 61 62), (0, .class_ 63), (0, .nameAndType 64 65), (0, u "java/lang/Math"), (0, u "max"), (0, u "(II)I"), (0, .methodref 8 67), (0, .nameAndType 68 69), (0, u "movedToFront"), (0, u "([JII)[J"), (0, .methodref 39 71), (0, .nameAndType 72 73), (0, u "fill"), (0, u "([JIIJ)V"), (0, u "SECOND"), (0, u "J"), (1, u "(I)V"), (2, u "forget"), (0, u "(JJJ)V"), (1, u "firstStart"), (0, u "()J"), (2, u "(JJJJ)V")] 5

def k2c0 : Code := { maxStack := 2, maxLocals := 2, code := prog_23_method_1_code, exceptionTable := #[], attributes := #[] }
def k2m0 : Method := { name := "<init>", desc := "(I)V", sig := { parameters := [.int], returnType := none }, accessFlags := 0, code := some k2c0 }
def k2c1 : Code := { maxStack := 4, maxLocals := 7, code := prog_23_method_2_code, exceptionTable := #[], attributes := #[] }
def k2m1 : Method := { name := "forget", desc := "(JJJ)V", sig := { parameters := [.long, .long, .long], returnType := none }, accessFlags := 0, code := some k2c1 }
def k2c2 : Code := { maxStack := 2, maxLocals := 1, code := prog_23_method_3_code, exceptionTable := #[], attributes := #[] }
def k2m2 : Method := { name := "firstStart", desc := "()J", sig := { parameters := [], returnType := some .long }, accessFlags := 0, code := some k2c2 }
def k2c3 : Code := { maxStack := 7, maxLocals := 10, code := prog_23_method_5_code, exceptionTable := #[], attributes := #[] }
def k2m3 : Method := { name := "add", desc := "(JJJJ)V", sig := { parameters := [.long, .long, .long, .long], returnType := none }, accessFlags := 0, code := some k2c3 }
def k2c4 : Code := { maxStack := 6, maxLocals := 7, code := prog_23_method_7_code, exceptionTable := #[], attributes := #[] }
def k2m4 : Method := { name := "insert", desc := "(IJ)I", sig := { parameters := [.int, .long], returnType := some .int }, accessFlags := 2, code := some k2c4 }
def k2c5 : Code := { maxStack := 6, maxLocals := 5, code := prog_23_method_8_code, exceptionTable := #[], attributes := #[] }
def k2m5 : Method := { name := "movedToFront", desc := "([JII)[J", sig := { parameters := [(.array .long), .int, .int], returnType := some (.array .long) }, accessFlags := 2, code := some k2c5 }
/-- com/example/strict_limiter/strictlimiter/KeptWindows -/
def k2 : Class := { plain "com/example/strict_limiter/strictlimiter/KeptWindows" (some 0) with
  accessFlags := 48
  interfaces := #[]
  cf := some (fileOf pool2 8 #[] #[{ accessFlags := 0, nameIndex := 5, descriptorIndex := 77, attributes := #[] }, { accessFlags := 0, nameIndex := 80, descriptorIndex := 81, attributes := #[] }, { accessFlags := 0, nameIndex := 83, descriptorIndex := 84, attributes := #[] }, { accessFlags := 0, nameIndex := 52, descriptorIndex := 87, attributes := #[] }, { accessFlags := 2, nameIndex := 46, descriptorIndex := 47, attributes := #[] }, { accessFlags := 2, nameIndex := 68, descriptorIndex := 69, attributes := #[] }] 48 2 #[] #[{ accessFlags := 26, nameIndex := 11, descriptorIndex := 12, attributes := #[] }, { accessFlags := 26, nameIndex := 74, descriptorIndex := 75, attributes := #[] }, { accessFlags := 18, nameIndex := 24, descriptorIndex := 25, attributes := #[] }, { accessFlags := 2, nameIndex := 15, descriptorIndex := 12, attributes := #[] }, { accessFlags := 2, nameIndex := 18, descriptorIndex := 12, attributes := #[] }, { accessFlags := 2, nameIndex := 21, descriptorIndex := 12, attributes := #[] }, { accessFlags := 2, nameIndex := 28, descriptorIndex := 25, attributes := #[] }, { accessFlags := 2, nameIndex := 31, descriptorIndex := 25, attributes := #[] }])
  fields := #[{ name := "NONE", type := (.array .long), accessFlags := 26, slot := 0, constantValue := 0 }, { name := "SECOND", type := .long, accessFlags := 26, slot := 1, constantValue := 0 }, { name := "width", type := .int, accessFlags := 18, slot := 0, constantValue := 0 }, { name := "starts", type := (.array .long), accessFlags := 2, slot := 1, constantValue := 0 }, { name := "records", type := (.array .long), accessFlags := 2, slot := 2, constantValue := 0 }, { name := "decidedAt", type := (.array .long), accessFlags := 2, slot := 3, constantValue := 0 }, { name := "first", type := .int, accessFlags := 2, slot := 4, constantValue := 0 }, { name := "end", type := .int, accessFlags := 2, slot := 5, constantValue := 0 }]
  methods := #[k2m0, k2m1, k2m2, k2m3, k2m4, k2m5]
  instanceTypes := #[.int, (.array .long), (.array .long), (.array .long), .int, .int]
  staticTypes := #[(.array .long), .long]
  resolved := Array.replicate 93 none
  statics := some 0 }

def pool3 : Array CpInfo := pool [(2, .class_ 4), (1, u "java/lang/Object"), (0, u "<init>"), (0, u "()V"), (6, .methodref 14 15), (0, .class_ 16), (0, .nameAndType 17 18), (0, u "java/util/Arrays"), (0, u "rangeCheck"), (0, u "(III)V"), (55, .class_ 76), (1, u "java/util/Arrays$NaturalOrder"), (36, .class_ 115), (1, u "java/util/Arrays$LegacyMergeSort"), (1, u "Z"), (87, .methodref 14 206), (0, .nameAndType 207 208), (0, u "binarySearch0"), (0, u "([JIIJ)I"), (166, .class_ 376), (0, u "java/util/Arrays$ArrayList"), (68, u "$assertionsDisabled"), (269, u "MIN_ARRAY_SORT_GRAN"), (0, u "I"), (2, u "INSERTIONSORT_THRESHOLD"), (74, u "binarySearch"), (45, u "fill"), (3, u "([JIIJ)V"), (130, .class_ 976), (0, u "java/util/Arrays$ArrayItr")] 52

def k3m0 : Method := { name := "<init>", desc := "()V", sig := { parameters := [], returnType := none }, accessFlags := 2, code := none }
def k3c1 : Code := { maxStack := 4, maxLocals := 3, code := jdk_65_method_30_code, exceptionTable := #[], attributes := #[] }
def k3m1 : Method := { name := "rangeCheck", desc := "(III)V", sig := { parameters := [.int, .int, .int], returnType := none }, accessFlags := 8, code := some k3c1 }
def k3c2 : Code := { maxStack := 5, maxLocals := 5, code := jdk_65_method_55_code, exceptionTable := #[], attributes := #[] }
def k3m2 : Method := { name := "binarySearch", desc := "([JIIJ)I", sig := { parameters := [(.array .long), .int, .int, .long], returnType := some .int }, accessFlags := 9, code := some k3c2 }
def k3c3 : Code := { maxStack := 4, maxLocals := 10, code := jdk_65_method_56_code, exceptionTable := #[], attributes := #[] }
def k3m3 : Method := { name := "binarySearch0", desc := "([JIIJ)I", sig := { parameters := [(.array .long), .int, .int, .long], returnType := some .int }, accessFlags := 10, code := some k3c3 }
def k3c4 : Code := { maxStack := 4, maxLocals := 6, code := jdk_65_method_102_code, exceptionTable := #[], attributes := #[] }
def k3m4 : Method := { name := "fill", desc := "([JIIJ)V", sig := { parameters := [(.array .long), .int, .int, .long], returnType := none }, accessFlags := 9, code := some k3c4 }
/-- java/util/Arrays -/
def k3 : Class := { plain "java/util/Arrays" (some 0) with
  accessFlags := 49
  interfaces := #[]
  cf := some (fileOf pool3 14 #[.nestMembers #[975, 375, 113, 74]] #[{ accessFlags := 2, nameIndex := 5, descriptorIndex := 6, attributes := #[] }, { accessFlags := 8, nameIndex := 17, descriptorIndex := 18, attributes := #[] }, { accessFlags := 9, nameIndex := 794, descriptorIndex := 208, attributes := #[] }, { accessFlags := 10, nameIndex := 207, descriptorIndex := 208, attributes := #[] }, { accessFlags := 9, nameIndex := 840, descriptorIndex := 844, attributes := #[] }] 49 2 #[] #[{ accessFlags := 26, nameIndex := 715, descriptorIndex := 716, attributes := #[] }, { accessFlags := 26, nameIndex := 719, descriptorIndex := 716, attributes := #[] }, { accessFlags := 4120, nameIndex := 445, descriptorIndex := 117, attributes := #[] }])
  fields := #[{ name := "MIN_ARRAY_SORT_GRAN", type := .int, accessFlags := 26, slot := 0, constantValue := 0 }, { name := "INSERTIONSORT_THRESHOLD", type := .int, accessFlags := 26, slot := 1, constantValue := 0 }, { name := "$assertionsDisabled", type := .boolean, accessFlags := 4120, slot := 2, constantValue := 0 }]
  methods := #[k3m0, k3m1, k3m2, k3m3, k3m4]
  instanceTypes := #[]
  staticTypes := #[.int, .int, .boolean]
  resolved := Array.replicate 1029 none
  statics := none }

def pool4 : Array CpInfo := pool [(1, .class_ 2), (0, u "java/lang/Math"), (1, .class_ 6), (1, u "java/lang/Object"), (0, u "<init>"), (0, u "()V"), (89, .class_ 100), (1, u "java/lang/Math$RandomNumberGeneratorHolder"), (20, u "(JJ)J"), (50, u "negativeZeroFloatBits"), (0, u "J"), (2, u "negativeZeroDoubleBits"), (21, u "max"), (2, u "min"), (43, u "$assertionsDisabled"), (0, u "Z"), (88, u "(II)I"), (2, u "twoToTheDoubleScaleDown"), (0, u "D"), (4, u "twoToTheDoubleScaleUp"), (9, u "E"), (3, u "PI"), (2, u "TAU"), (2, u "DEGREES_TO_RADIANS"), (0, u "RADIANS_TO_DEGREES")] 94

def k4m0 : Method := { name := "<init>", desc := "()V", sig := { parameters := [], returnType := none }, accessFlags := 2, code := none }
def k4c1 : Code := { maxStack := 2, maxLocals := 2, code := jdk_29_method_65_code, exceptionTable := #[], attributes := #[] }
def k4m1 : Method := { name := "max", desc := "(II)I", sig := { parameters := [.int, .int], returnType := some .int }, accessFlags := 9, code := some k4c1 }
def k4c2 : Code := { maxStack := 4, maxLocals := 4, code := jdk_29_method_66_code, exceptionTable := #[], attributes := #[] }
def k4m2 : Method := { name := "max", desc := "(JJ)J", sig := { parameters := [.long, .long], returnType := some .long }, accessFlags := 9, code := some k4c2 }
def k4c3 : Code := { maxStack := 4, maxLocals := 4, code := jdk_29_method_70_code, exceptionTable := #[], attributes := #[] }
def k4m3 : Method := { name := "min", desc := "(JJ)J", sig := { parameters := [.long, .long], returnType := some .long }, accessFlags := 9, code := some k4c3 }
/-- java/lang/Math -/
def k4 : Class := { plain "java/lang/Math" (some 0) with
  accessFlags := 49
  interfaces := #[]
  cf := some (fileOf pool4 1 #[.nestMembers #[98]] #[{ accessFlags := 2, nameIndex := 7, descriptorIndex := 8, attributes := #[] }, { accessFlags := 9, nameIndex := 198, descriptorIndex := 335, attributes := #[] }, { accessFlags := 9, nameIndex := 198, descriptorIndex := 121, attributes := #[] }, { accessFlags := 9, nameIndex := 201, descriptorIndex := 121, attributes := #[] }] 49 4 #[] #[{ accessFlags := 25, nameIndex := 354, descriptorIndex := 339, attributes := #[] }, { accessFlags := 25, nameIndex := 358, descriptorIndex := 339, attributes := #[] }, { accessFlags := 25, nameIndex := 361, descriptorIndex := 339, attributes := #[] }, { accessFlags := 26, nameIndex := 364, descriptorIndex := 339, attributes := #[] }, { accessFlags := 26, nameIndex := 365, descriptorIndex := 339, attributes := #[] }, { accessFlags := 26, nameIndex := 172, descriptorIndex := 173, attributes := #[] }, { accessFlags := 26, nameIndex := 176, descriptorIndex := 173, attributes := #[] }, { accessFlags := 8, nameIndex := 344, descriptorIndex := 339, attributes := #[] }, { accessFlags := 8, nameIndex := 338, descriptorIndex := 339, attributes := #[] }, { accessFlags := 4120, nameIndex := 245, descriptorIndex := 246, attributes := #[] }])
  fields := #[{ name := "E", type := .double, accessFlags := 25, slot := 0, constantValue := 0 }, { name := "PI", type := .double, accessFlags := 25, slot := 1, constantValue := 0 }, { name := "TAU", type := .double, accessFlags := 25, slot := 2, constantValue := 0 }, { name := "DEGREES_TO_RADIANS", type := .double, accessFlags := 26, slot := 3, constantValue := 0 }, { name := "RADIANS_TO_DEGREES", type := .double, accessFlags := 26, slot := 4, constantValue := 0 }, { name := "negativeZeroFloatBits", type := .long, accessFlags := 26, slot := 5, constantValue := 0 }, { name := "negativeZeroDoubleBits", type := .long, accessFlags := 26, slot := 6, constantValue := 0 }, { name := "twoToTheDoubleScaleUp", type := .double, accessFlags := 8, slot := 7, constantValue := 0 }, { name := "twoToTheDoubleScaleDown", type := .double, accessFlags := 8, slot := 8, constantValue := 0 }, { name := "$assertionsDisabled", type := .boolean, accessFlags := 4120, slot := 9, constantValue := 0 }]
  methods := #[k4m0, k4m1, k4m2, k4m3]
  instanceTypes := #[]
  staticTypes := #[.double, .double, .double, .double, .double, .long, .long, .double, .double, .boolean]
  resolved := Array.replicate 460 none
  statics := none }

def pool5 : Array CpInfo := pool [(2, .class_ 4), (1, u "java/lang/Object"), (0, u "<init>"), (0, u "()V"), (1, .class_ 10), (1, u "java/lang/System"), (0, u "allowSecurityManager"), (0, u "I"), (16, u "cons"), (0, u "Ljava/io/Console;"), (77, .class_ 110), (1, u "java/lang/System$CallersHolder"), (43, u "initialErrStream"), (0, u "Ljava/io/PrintStream;"), (19, u "security"), (0, u "Ljava/lang/SecurityManager;"), (31, .class_ 209), (0, u "java/lang/System$1"), (7, u "props"), (0, u "Ljava/util/Properties;"), (2, u "lineSeparator"), (0, u "Ljava/lang/String;"), (96, .class_ 321), (1, u "java/lang/System$LoggerFinder"), (5, .class_ 328), (0, u "java/lang/System$Logger"), (67, u "err"), (2, u "out"), (91, u "notSupportedJnuEncoding"), (15, u "in"), (17, u "initialIn"), (0, u "Ljava/io/InputStream;"), (35, u "bootLayer"), (0, u "Ljava/lang/ModuleLayer;"), (99, .class_ 664), (0, u "java/lang/System$2"), (9, u "NEVER"), (2, u "MAYBE"), (49, u "arraycopy"), (0, u "(Ljava/lang/Object;ILjava/lang/Object;II)V"), (72, .class_ 802), (0, u "java/lang/System$Logger$Level")] 31

def k5m0 : Method := { name := "<init>", desc := "()V", sig := { parameters := [], returnType := none }, accessFlags := 2, code := none }
def k5m1 : Method := { name := "arraycopy", desc := "(Ljava/lang/Object;ILjava/lang/Object;II)V", sig := { parameters := [(.object "java/lang/Object"), .int, (.object "java/lang/Object"), .int, .int], returnType := none }, accessFlags := 265, code := none }
/-- java/lang/System -/
def k5 : Class := { plain "java/lang/System" (some 0) with
  accessFlags := 49
  interfaces := #[]
  cf := some (fileOf pool5 8 #[.nestMembers #[319, 327, 801, 108, 663, 208]] #[{ accessFlags := 2, nameIndex := 5, descriptorIndex := 6, attributes := #[] }, { accessFlags := 265, nameIndex := 727, descriptorIndex := 728, attributes := #[] }] 49 2 #[] #[{ accessFlags := 25, nameIndex := 507, descriptorIndex := 526, attributes := #[] }, { accessFlags := 25, nameIndex := 399, descriptorIndex := 155, attributes := #[] }, { accessFlags := 25, nameIndex := 396, descriptorIndex := 155, attributes := #[] }, { accessFlags := 10, nameIndex := 525, descriptorIndex := 526, attributes := #[] }, { accessFlags := 26, nameIndex := 674, descriptorIndex := 12, attributes := #[] }, { accessFlags := 26, nameIndex := 677, descriptorIndex := 12, attributes := #[] }, { accessFlags := 10, nameIndex := 11, descriptorIndex := 12, attributes := #[] }, { accessFlags := 74, nameIndex := 175, descriptorIndex := 176, attributes := #[] }, { accessFlags := 10, nameIndex := 491, descriptorIndex := 222, attributes := #[] }, { accessFlags := 74, nameIndex := 29, descriptorIndex := 30, attributes := #[] }, { accessFlags := 74, nameIndex := 154, descriptorIndex := 155, attributes := #[] }, { accessFlags := 10, nameIndex := 217, descriptorIndex := 218, attributes := #[] }, { accessFlags := 10, nameIndex := 221, descriptorIndex := 222, attributes := #[] }, { accessFlags := 8, nameIndex := 562, descriptorIndex := 563, attributes := #[] }])
  fields := #[{ name := "in", type := (.object "java/io/InputStream"), accessFlags := 25, slot := 0, constantValue := 0 }, { name := "out", type := (.object "java/io/PrintStream"), accessFlags := 25, slot := 1, constantValue := 0 }, { name := "err", type := (.object "java/io/PrintStream"), accessFlags := 25, slot := 2, constantValue := 0 }, { name := "initialIn", type := (.object "java/io/InputStream"), accessFlags := 10, slot := 3, constantValue := 0 }, { name := "NEVER", type := .int, accessFlags := 26, slot := 4, constantValue := 0 }, { name := "MAYBE", type := .int, accessFlags := 26, slot := 5, constantValue := 0 }, { name := "allowSecurityManager", type := .int, accessFlags := 10, slot := 6, constantValue := 0 }, { name := "security", type := (.object "java/lang/SecurityManager"), accessFlags := 74, slot := 7, constantValue := 0 }, { name := "notSupportedJnuEncoding", type := (.object "java/lang/String"), accessFlags := 10, slot := 8, constantValue := 0 }, { name := "cons", type := (.object "java/io/Console"), accessFlags := 74, slot := 9, constantValue := 0 }, { name := "initialErrStream", type := (.object "java/io/PrintStream"), accessFlags := 74, slot := 10, constantValue := 0 }, { name := "props", type := (.object "java/util/Properties"), accessFlags := 10, slot := 11, constantValue := 0 }, { name := "lineSeparator", type := (.object "java/lang/String"), accessFlags := 10, slot := 12, constantValue := 0 }, { name := "bootLayer", type := (.object "java/lang/ModuleLayer"), accessFlags := 8, slot := 13, constantValue := 0 }]
  methods := #[k5m0, k5m1]
  instanceTypes := #[]
  staticTypes := #[(.object "java/io/InputStream"), (.object "java/io/PrintStream"), (.object "java/io/PrintStream"), (.object "java/io/InputStream"), .int, .int, .int, (.object "java/lang/SecurityManager"), (.object "java/lang/String"), (.object "java/io/Console"), (.object "java/io/PrintStream"), (.object "java/util/Properties"), (.object "java/lang/String"), (.object "java/lang/ModuleLayer")]
  resolved := Array.replicate 834 none
  statics := none }

def pool6 : Array CpInfo := pool [(2, .class_ 4), (1, u "java/lang/Object"), (0, u "<init>"), (0, u "()V"), (0, .class_ 8), (0, u "com/example/strict_limiter/strictlimiter/WindowRecord"), (4, .methodref 14 15), (0, .class_ 16), (0, .nameAndType 17 18), (0, u "java/lang/Math"), (0, u "min"), (0, u "(JJ)J"), (0, u "COST"), (0, u "I"), (2, u "FIRST"), (1, u "NEXT_TO_LAST"), (1, u "LAST"), (1, u "COST_ONLY"), (0, u "TIMED"), (1, u "MARKS"), (0, u "J"), (5, u "add"), (0, u "([JIIJJ)V")] 4

def k6m0 : Method := { name := "<init>", desc := "()V", sig := { parameters := [], returnType := none }, accessFlags := 2, code := none }
def k6c1 : Code := { maxStack := 6, maxLocals := 9, code := prog_59_method_3_code, exceptionTable := #[], attributes := #[] }
def k6m1 : Method := { name := "add", desc := "([JIIJJ)V", sig := { parameters := [(.array .long), .int, .int, .long, .long], returnType := none }, accessFlags := 8, code := some k6c1 }
/-- com/example/strict_limiter/strictlimiter/WindowRecord -/
def k6 : Class := { plain "com/example/strict_limiter/strictlimiter/WindowRecord" (some 0) with
  accessFlags := 48
  interfaces := #[]
  cf := some (fileOf pool6 7 #[] #[{ accessFlags := 2, nameIndex := 5, descriptorIndex := 6, attributes := #[] }, { accessFlags := 8, nameIndex := 39, descriptorIndex := 40, attributes := #[] }] 48 2 #[] #[{ accessFlags := 24, nameIndex := 19, descriptorIndex := 20, attributes := #[] }, { accessFlags := 24, nameIndex := 23, descriptorIndex := 20, attributes := #[] }, { accessFlags := 24, nameIndex := 25, descriptorIndex := 20, attributes := #[] }, { accessFlags := 24, nameIndex := 27, descriptorIndex := 20, attributes := #[] }, { accessFlags := 24, nameIndex := 29, descriptorIndex := 20, attributes := #[] }, { accessFlags := 24, nameIndex := 30, descriptorIndex := 20, attributes := #[] }, { accessFlags := 26, nameIndex := 32, descriptorIndex := 33, attributes := #[] }])
  fields := #[{ name := "COST", type := .int, accessFlags := 24, slot := 0, constantValue := 0 }, { name := "FIRST", type := .int, accessFlags := 24, slot := 1, constantValue := 0 }, { name := "NEXT_TO_LAST", type := .int, accessFlags := 24, slot := 2, constantValue := 0 }, { name := "LAST", type := .int, accessFlags := 24, slot := 3, constantValue := 0 }, { name := "COST_ONLY", type := .int, accessFlags := 24, slot := 4, constantValue := 0 }, { name := "TIMED", type := .int, accessFlags := 24, slot := 5, constantValue := 0 }, { name := "MARKS", type := .long, accessFlags := 26, slot := 6, constantValue := 0 }]
  methods := #[k6m0, k6m1]
  instanceTypes := #[]
  staticTypes := #[.int, .int, .int, .int, .int, .int, .long]
  resolved := Array.replicate 45 none
  statics := none }

def pool7 : Array CpInfo := pool [(1, u "java/lang/Cloneable"), (0, .class_ 1), (0, u "java/lang/Object"), (0, .class_ 3)] 3

/-- java/lang/Cloneable -/
def k7 : Class := { plain "java/lang/Cloneable" (some 0) with
  accessFlags := 1537
  interfaces := #[]
  cf := some (fileOf pool7 2 #[] #[] 1537 4 #[] #[])
  fields := #[]
  methods := #[]
  instanceTypes := #[]
  staticTypes := #[]
  resolved := Array.replicate 8 none
  statics := none }

def pool8 : Array CpInfo := pool [(1, u "java/io/Serializable"), (0, .class_ 1), (0, u "java/lang/Object"), (0, .class_ 3)] 3

/-- java/io/Serializable -/
def k8 : Class := { plain "java/io/Serializable" (some 0) with
  accessFlags := 1537
  interfaces := #[]
  cf := some (fileOf pool8 2 #[] #[] 1537 4 #[] #[])
  fields := #[]
  methods := #[]
  instanceTypes := #[]
  staticTypes := #[]
  resolved := Array.replicate 8 none
  statics := none }

/-- the primitive byte -/
def k9 : Class := { plain "byte" none with kind := .primitive 'B', accessFlags := 0x411 }
/-- [B -/
def k10 : Class := { plain "[B" (some 0) with kind := .array 9 .byte, interfaces := #[7, 8], accessFlags := 1041 }

/-- the primitive int -/
def k11 : Class := { plain "int" none with kind := .primitive 'I', accessFlags := 0x411 }
/-- [I -/
def k12 : Class := { plain "[I" (some 0) with kind := .array 11 .int, interfaces := #[7, 8], accessFlags := 1041 }

/-- the primitive long -/
def k13 : Class := { plain "long" none with kind := .primitive 'J', accessFlags := 0x411 }
/-- [J -/
def k14 : Class := { plain "[J" (some 0) with kind := .array 13 .long, interfaces := #[7, 8], accessFlags := 1041 }

def heap : Heap := #[{ cls := 2, slots := #[.ref 1, .long 0], vm := .statics 2 },
  { cls := 14, slots := #[], vm := .none }]
def classes : Array Class := #[k0, k1, k2, k3, k4, k5, k6, k7, k8, k9, k10, k11, k12, k13, k14]
def interned : List (Array UInt16 × Addr) := []
def slotsUsed : Nat := 2
def theMethod : MethodId := ⟨1, 1⟩
def args0 : Array Value := #[.long 5, .long 7, .int 9, .long 3, .long 2, .long 8]
def aboutOver (below : List Frame) : State where
  vm := { classes := classes, interned := interned.toArray }
  heap := heap
  slotsUsed := slotsUsed
  threads := #[{ frames := .invoking theMethod args0 :: below }]
def below0 : List Frame := [.native { method := ⟨0, 0⟩, args := #[] }]
def about1 : State := aboutOver below0
def p0 : Program := .bare "" "" ""
def e0 : Env := launch0.env 0 0 0
theorem w_frames : about1.frames = Frame.invoking theMethod args0 :: below0 := rfl
set_option maxRecDepth 65536 in
theorem w_args : argsFit about1.vm theMethod args0 = true := by decide +kernel
set_option maxRecDepth 65536 in
theorem w_heap : heapFits about1 = true := by decide +kernel
set_option maxRecDepth 65536 in
theorem w_runnable : about1.curStatus? = some .runnable := by decide +kernel
set_option maxRecDepth 65536 in
theorem w_alone : about1.alone = true := by decide +kernel
set_option maxRecDepth 65536 in
theorem w_named : about1.methodNamed? x = some theMethod := by decide +kernel
set_option maxRecDepth 65536 in
theorem w_hears : about1.hears theMethod below0 = true := by decide +kernel
set_option maxRecDepth 65536 in
theorem w_ripe : about1.ripe theMethod args0 below0 = true := by decide +kernel
theorem w_running : about1.status = .running := rfl
set_option maxRecDepth 65536 in
theorem w_room : about1.hasRoom e0.platform room_1 = true :=
  launch0.hasRoom_least _ room_1 (by decide +kernel) (by decide +kernel) (by decide +kernel) (by decide +kernel) (by decide +kernel) (by decide +kernel)
theorem allAtoms_all (ts : List Jvm.Cond) (a : Array Jvm.Value) (st : Jvm.State) : (allAtoms ts).before a st = ts.all (fun c => c.before a st) := by
  induction ts with
  | nil => rfl
  | cons c t ih =>
    show (Jvm.Cond.and c (allAtoms t)).before a st = _
    rw [Jvm.Cond.before_and, ih, List.all_cons]
def words1 : List Jvm.Cond := Jvm.Cond.code x code maxLocals ret :: tables_1
/-- a 'code' word, met by the world's own term for the bytes: nothing is compared byte by byte -/
theorem code_word {y : MethodName} {bytes : ByteArray} {mx : Nat} {rt : Option FieldType} {a : Array Value} {s : State} {m : MethodId} {meth : Method} {c : Code} (h1 : s.methodNamed? y = some m) (h2 : s.vm.method? m = some meth) (h3 : meth.code = some c) (h4 : c.code = bytes)
    (h5 : (c.maxLocals == mx && c.exceptionTable.isEmpty && decide (c.maxStack ≤ mostOperands) && decide (meth.sig.returnType = rt) && !meth.locks && decide (parseMethodDescriptor y.desc = some meth.sig)) = true) : (Jvm.Cond.code y bytes mx rt).before a s = true := by
  simp only [Bool.and_eq_true, beq_iff_eq, Bool.not_eq_true', decide_eq_true_eq] at h5
  obtain ⟨⟨⟨⟨⟨g1, g2⟩, g3⟩, g4⟩, g5⟩, g6⟩ := h5
  simp [Cond.before, Cond.holds, Cond.value, h1, h2, h3, h4, g1, g2, g3, g4, g5, g6]
def isCode : Jvm.Cond → Bool
  | .code _ _ _ _ => true
  | _ => false
theorem all_split {L : List Jvm.Cond} {P : Jvm.Cond → Bool} (h1 : L.all (fun c => isCode c || P c) = true) (h2 : ∀ c ∈ L.filter isCode, P c = true) : L.all P = true := by
  refine List.all_eq_true.mpr fun c hc => ?_
  have h := List.all_eq_true.mp h1 c hc
  rcases Bool.eq_false_or_eq_true (isCode c) with hi | hi
  · exact h2 c (List.mem_filter.mpr ⟨hc, hi⟩)
  · simpa [hi] using h
set_option maxRecDepth 65536 in
theorem w_c0 : (Jvm.Cond.code x code maxLocals ret).before args0 about1 = true := code_word (m := ⟨1, 1⟩) (meth := k1m1) (c := k1c1) (by decide +kernel) rfl rfl rfl (by decide +kernel)
set_option maxRecDepth 65536 in
theorem w_c1 : (Jvm.Cond.code ({ cls := "com/example/strict_limiter/strictlimiter/KeptWindows", name := "<init>", desc := "(I)V" } : Jvm.MethodName) prog_23_method_1_code (2 : Nat) (Option.none : Option Jvm.ClassFile.FieldType)).before args0 about1 = true := code_word (m := ⟨2, 0⟩) (meth := k2m0) (c := k2c0) (by decide +kernel) rfl rfl rfl (by decide +kernel)
set_option maxRecDepth 65536 in
theorem w_c2 : (Jvm.Cond.code ({ cls := "java/lang/Object", name := "<init>", desc := "()V" } : Jvm.MethodName) object_method_1_code (1 : Nat) (Option.none : Option Jvm.ClassFile.FieldType)).before args0 about1 = true := code_word (m := ⟨0, 0⟩) (meth := k0m0) (c := k0c0) (by decide +kernel) rfl rfl rfl (by decide +kernel)
set_option maxRecDepth 65536 in
theorem w_c3 : (Jvm.Cond.code ({ cls := "com/example/strict_limiter/strictlimiter/KeptWindows", name := "firstStart", desc := "()J" } : Jvm.MethodName) prog_23_method_3_code (1 : Nat) (Option.some Jvm.ClassFile.FieldType.long)).before args0 about1 = true := code_word (m := ⟨2, 2⟩) (meth := k2m2) (c := k2c2) (by decide +kernel) rfl rfl rfl (by decide +kernel)
set_option maxRecDepth 65536 in
theorem w_c4 : (Jvm.Cond.code ({ cls := "com/example/strict_limiter/strictlimiter/KeptWindows", name := "add", desc := "(JJJJ)V" } : Jvm.MethodName) prog_23_method_5_code (10 : Nat) (Option.none : Option Jvm.ClassFile.FieldType)).before args0 about1 = true := code_word (m := ⟨2, 3⟩) (meth := k2m3) (c := k2c3) (by decide +kernel) rfl rfl rfl (by decide +kernel)
set_option maxRecDepth 65536 in
theorem w_c5 : (Jvm.Cond.code ({ cls := "java/util/Arrays", name := "binarySearch", desc := "([JIIJ)I" } : Jvm.MethodName) jdk_65_method_55_code (5 : Nat) (Option.some Jvm.ClassFile.FieldType.int)).before args0 about1 = true := code_word (m := ⟨3, 2⟩) (meth := k3m2) (c := k3c2) (by decide +kernel) rfl rfl rfl (by decide +kernel)
set_option maxRecDepth 65536 in
theorem w_c6 : (Jvm.Cond.code ({ cls := "java/util/Arrays", name := "rangeCheck", desc := "(III)V" } : Jvm.MethodName) jdk_65_method_30_code (3 : Nat) (Option.none : Option Jvm.ClassFile.FieldType)).before args0 about1 = true := code_word (m := ⟨3, 1⟩) (meth := k3m1) (c := k3c1) (by decide +kernel) rfl rfl rfl (by decide +kernel)
set_option maxRecDepth 65536 in
theorem w_c7 : (Jvm.Cond.code ({ cls := "java/util/Arrays", name := "binarySearch0", desc := "([JIIJ)I" } : Jvm.MethodName) jdk_65_method_56_code (10 : Nat) (Option.some Jvm.ClassFile.FieldType.int)).before args0 about1 = true := code_word (m := ⟨3, 3⟩) (meth := k3m3) (c := k3c3) (by decide +kernel) rfl rfl rfl (by decide +kernel)
set_option maxRecDepth 65536 in
theorem w_c8 : (Jvm.Cond.code ({ cls := "com/example/strict_limiter/strictlimiter/KeptWindows", name := "insert", desc := "(IJ)I" } : Jvm.MethodName) prog_23_method_7_code (7 : Nat) (Option.some Jvm.ClassFile.FieldType.int)).before args0 about1 = true := code_word (m := ⟨2, 4⟩) (meth := k2m4) (c := k2c4) (by decide +kernel) rfl rfl rfl (by decide +kernel)
set_option maxRecDepth 65536 in
theorem w_c9 : (Jvm.Cond.code ({ cls := "java/lang/Math", name := "max", desc := "(II)I" } : Jvm.MethodName) jdk_29_method_65_code (2 : Nat) (Option.some Jvm.ClassFile.FieldType.int)).before args0 about1 = true := code_word (m := ⟨4, 1⟩) (meth := k4m1) (c := k4c1) (by decide +kernel) rfl rfl rfl (by decide +kernel)
set_option maxRecDepth 65536 in
theorem w_c10 : (Jvm.Cond.code ({ cls := "com/example/strict_limiter/strictlimiter/KeptWindows", name := "movedToFront", desc := "([JII)[J" } : Jvm.MethodName) prog_23_method_8_code (5 : Nat) (Option.some (Jvm.ClassFile.FieldType.array Jvm.ClassFile.FieldType.long))).before args0 about1 = true := code_word (m := ⟨2, 5⟩) (meth := k2m5) (c := k2c5) (by decide +kernel) rfl rfl rfl (by decide +kernel)
set_option maxRecDepth 65536 in
theorem w_c11 : (Jvm.Cond.code ({ cls := "java/util/Arrays", name := "fill", desc := "([JIIJ)V" } : Jvm.MethodName) jdk_65_method_102_code (6 : Nat) (Option.none : Option Jvm.ClassFile.FieldType)).before args0 about1 = true := code_word (m := ⟨3, 4⟩) (meth := k3m4) (c := k3c4) (by decide +kernel) rfl rfl rfl (by decide +kernel)
set_option maxRecDepth 65536 in
theorem w_c12 : (Jvm.Cond.code ({ cls := "com/example/strict_limiter/strictlimiter/WindowRecord", name := "add", desc := "([JIIJJ)V" } : Jvm.MethodName) prog_59_method_3_code (9 : Nat) (Option.none : Option Jvm.ClassFile.FieldType)).before args0 about1 = true := code_word (m := ⟨6, 1⟩) (meth := k6m1) (c := k6c1) (by decide +kernel) rfl rfl rfl (by decide +kernel)
set_option maxRecDepth 65536 in
theorem w_c13 : (Jvm.Cond.code ({ cls := "java/lang/Math", name := "min", desc := "(JJ)J" } : Jvm.MethodName) jdk_29_method_70_code (4 : Nat) (Option.some Jvm.ClassFile.FieldType.long)).before args0 about1 = true := code_word (m := ⟨4, 3⟩) (meth := k4m3) (c := k4c3) (by decide +kernel) rfl rfl rfl (by decide +kernel)
set_option maxRecDepth 65536 in
theorem w_c14 : (Jvm.Cond.code ({ cls := "com/example/strict_limiter/strictlimiter/KeptWindows", name := "forget", desc := "(JJJ)V" } : Jvm.MethodName) prog_23_method_2_code (7 : Nat) (Option.none : Option Jvm.ClassFile.FieldType)).before args0 about1 = true := code_word (m := ⟨2, 1⟩) (meth := k2m1) (c := k2c1) (by decide +kernel) rfl rfl rfl (by decide +kernel)
set_option maxRecDepth 65536 in
theorem w_c15 : (Jvm.Cond.code ({ cls := "java/lang/Math", name := "max", desc := "(JJ)J" } : Jvm.MethodName) jdk_29_method_66_code (4 : Nat) (Option.some Jvm.ClassFile.FieldType.long)).before args0 about1 = true := code_word (m := ⟨4, 2⟩) (meth := k4m2) (c := k4c2) (by decide +kernel) rfl rfl rfl (by decide +kernel)
def codes1 : List Jvm.Cond := [Jvm.Cond.code x code maxLocals ret, Jvm.Cond.code ({ cls := "com/example/strict_limiter/strictlimiter/KeptWindows", name := "<init>", desc := "(I)V" } : Jvm.MethodName) prog_23_method_1_code (2 : Nat) (Option.none : Option Jvm.ClassFile.FieldType), Jvm.Cond.code ({ cls := "java/lang/Object", name := "<init>", desc := "()V" } : Jvm.MethodName) object_method_1_code (1 : Nat) (Option.none : Option Jvm.ClassFile.FieldType), Jvm.Cond.code ({ cls := "com/example/strict_limiter/strictlimiter/KeptWindows", name := "firstStart", desc := "()J" } : Jvm.MethodName) prog_23_method_3_code (1 : Nat) (Option.some Jvm.ClassFile.FieldType.long), Jvm.Cond.code ({ cls := "com/example/strict_limiter/strictlimiter/KeptWindows", name := "add", desc := "(JJJJ)V" } : Jvm.MethodName) prog_23_method_5_code (10 : Nat) (Option.none : Option Jvm.ClassFile.FieldType), Jvm.Cond.code ({ cls := "java/util/Arrays", name := "binarySearch", desc := "([JIIJ)I" } : Jvm.MethodName) jdk_65_method_55_code (5 : Nat) (Option.some Jvm.ClassFile.FieldType.int), Jvm.Cond.code ({ cls := "java/util/Arrays", name := "rangeCheck", desc := "(III)V" } : Jvm.MethodName) jdk_65_method_30_code (3 : Nat) (Option.none : Option Jvm.ClassFile.FieldType), Jvm.Cond.code ({ cls := "java/util/Arrays", name := "binarySearch0", desc := "([JIIJ)I" } : Jvm.MethodName) jdk_65_method_56_code (10 : Nat) (Option.some Jvm.ClassFile.FieldType.int), Jvm.Cond.code ({ cls := "com/example/strict_limiter/strictlimiter/KeptWindows", name := "insert", desc := "(IJ)I" } : Jvm.MethodName) prog_23_method_7_code (7 : Nat) (Option.some Jvm.ClassFile.FieldType.int), Jvm.Cond.code ({ cls := "java/lang/Math", name := "max", desc := "(II)I" } : Jvm.MethodName) jdk_29_method_65_code (2 : Nat) (Option.some Jvm.ClassFile.FieldType.int), Jvm.Cond.code ({ cls := "com/example/strict_limiter/strictlimiter/KeptWindows", name := "movedToFront", desc := "([JII)[J" } : Jvm.MethodName) prog_23_method_8_code (5 : Nat) (Option.some (Jvm.ClassFile.FieldType.array Jvm.ClassFile.FieldType.long)), Jvm.Cond.code ({ cls := "java/util/Arrays", name := "fill", desc := "([JIIJ)V" } : Jvm.MethodName) jdk_65_method_102_code (6 : Nat) (Option.none : Option Jvm.ClassFile.FieldType), Jvm.Cond.code ({ cls := "com/example/strict_limiter/strictlimiter/WindowRecord", name := "add", desc := "([JIIJJ)V" } : Jvm.MethodName) prog_59_method_3_code (9 : Nat) (Option.none : Option Jvm.ClassFile.FieldType), Jvm.Cond.code ({ cls := "java/lang/Math", name := "min", desc := "(JJ)J" } : Jvm.MethodName) jdk_29_method_70_code (4 : Nat) (Option.some Jvm.ClassFile.FieldType.long), Jvm.Cond.code ({ cls := "com/example/strict_limiter/strictlimiter/KeptWindows", name := "forget", desc := "(JJJ)V" } : Jvm.MethodName) prog_23_method_2_code (7 : Nat) (Option.none : Option Jvm.ClassFile.FieldType), Jvm.Cond.code ({ cls := "java/lang/Math", name := "max", desc := "(JJ)J" } : Jvm.MethodName) jdk_29_method_66_code (4 : Nat) (Option.some Jvm.ClassFile.FieldType.long)]
set_option maxRecDepth 65536 in
theorem codes_eq : words1.filter isCode = codes1 := rfl
theorem w_codes : ∀ c ∈ words1.filter isCode, c.before args0 about1 = true := by
  rw [codes_eq]
  intro c hc
  simp only [codes1, List.mem_cons, List.not_mem_nil, or_false] at hc
  rcases hc with rfl | rfl | rfl | rfl | rfl | rfl | rfl | rfl | rfl | rfl | rfl | rfl | rfl | rfl | rfl | rfl
  · exact w_c0
  · exact w_c1
  · exact w_c2
  · exact w_c3
  · exact w_c4
  · exact w_c5
  · exact w_c6
  · exact w_c7
  · exact w_c8
  · exact w_c9
  · exact w_c10
  · exact w_c11
  · exact w_c12
  · exact w_c13
  · exact w_c14
  · exact w_c15
set_option maxRecDepth 65536 in
theorem w_t1 : (words1.take 24).all (fun c => isCode c || c.before args0 about1) = true := by decide +kernel
set_option maxRecDepth 65536 in
theorem w_t2 : ((words1.drop 24).take 24).all (fun c => isCode c || c.before args0 about1) = true := by decide +kernel
set_option maxRecDepth 65536 in
theorem w_t3 : (((words1.drop 24).drop 24).take 24).all (fun c => isCode c || c.before args0 about1) = true := by decide +kernel
set_option maxRecDepth 65536 in
theorem w_t4 : (((words1.drop 24).drop 24).drop 24).all (fun c => isCode c || c.before args0 about1) = true := by decide +kernel
theorem w_tables : (allAtoms (Jvm.Cond.code x code maxLocals ret :: tables_1)).before args0 about1 = true := by
  rw [allAtoms_all]
  show words1.all (fun c => c.before args0 about1) = true
  refine all_split ?_ w_codes
  rw [← List.take_append_drop 24 words1, List.all_append, w_t1, ← List.take_append_drop 24 (words1.drop 24), List.all_append, w_t2, ← List.take_append_drop 24 ((words1.drop 24).drop 24), List.all_append, w_t3, w_t4]
  rfl
set_option maxRecDepth 65536 in
theorem w_case : (Jvm.Cond.and given_1 narrow_1).before args0 about1 = true := by decide +kernel
theorem w_applies : (headSpec (Jvm.Cond.code x code maxLocals ret :: tables_1) room_1).applies x e0.platform about1 = true :=
  (Spec.applies_iff w_frames).mpr ⟨w_running, w_runnable, w_alone, w_named, w_hears, w_ripe, w_room, w_tables⟩
theorem atStart : AtStart classFile x code maxLocals ret World_1 tables_1 room_1 Calls_1 rest_1 Pre_1 launch0 p0 e0 about1 theMethod args0 below0 :=
  ⟨lists_1, trivial, launch0.admits_env _ _ _, launch0.least_env, fairChoices_fair.cas, fairChoices_fair.clock, w_frames, w_args, w_heap, w_applies, trivial, trivial, w_case⟩
end start1
theorem witness_1 : WitnessClaimed_1 := ⟨start1.p0, start1.e0, start1.about1, start1.theMethod, start1.args0, start1.below0, start1.atStart⟩
end Jvm.Pilot.@@N@@

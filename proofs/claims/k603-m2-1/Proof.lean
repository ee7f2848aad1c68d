import JvmDerived
import JvmDerived.Pilot.@@N@@Statement
import JvmDerived.Pilot.@@N@@Code
set_option linter.unusedVariables false
set_option linter.unusedSimpArgs false
namespace Jvm.RoadKit
open Sem ClassFile Op Lib Jvm.Stand Jvm.Free Jvm.LawKit
section New
variable {p : Program} {l : Launch} {e : Env} {R : Room} {s : State} {m : MethodId} {args : Array Value} {below : List Frame} {meth : Method} {c : Code} {T : State} {locs : List Loc} {cells slots : Nat}
theorem retI (X : Stand p l e R s m args below meth c T locs cells slots) (hx : p.tables.exec = Jvm.exec) {pc : Nat} {Ls : Array Slot} {z : Int32} {rest : List Value} (hret : meth.sig.returnType = some .int) (hd : decode c.code pc = .ok (.ireturn, 1)) {fs : List Frame}
    (hl : ∀ (f : JFrame) (acts : List Action), f.method = m → f.locked = none → f.entered = [] → (doReturn e (T.setTop f) acts (some (.int z))).1 = T.setFrames fs) : Steps p.tables e below (T.setTop (mkF m pc Ls (.int z :: rest))) (T.setFrames fs) :=
  retOut X hx hret rfl (Or.inl ⟨rfl, Or.inl rfl, z, rfl⟩) hd hl
theorem own_lremM {g : JFrame} {target : State} (X : Stand p l e R s m args below meth c T locs cells slots) (hx : p.tables.exec = Jvm.exec) (hg : g.method = m) {x y : Int64} {rest : List Value} (hd : decode c.code g.pc = .ok (.lrem, 1)) (hs : g.stack = .long y :: .long x :: rest) (hy : y ≠ 0)
    (hr : Steps p.tables e below (T.setTop { g with pc := g.pc + 1, stack := .long (x % y) :: rest }) target) : Steps p.tables e below (T.setTop g) target := by
  have q : x - x / y * y = x % y := lrem_mod x y
  exact XS.lrem X.here hx hg hd hs hy (by rw [q]; exact hr)
theorem own_evInt {Z : State} {args : Array Value} {t : Term} {k : Int32} (h : (Jvm.Cond.eq t (.int k)).value args Z none Z [] = some true) : t.eval args Z none [] Z = some (.int k) := by
  obtain ⟨x, y, h1, h2, -, -⟩ := cmp_v (Or.inl h)
  have hy : y = .int k := Option.some.inj (h2.symm.trans (Term.int_eval k))
  subst hy
  have hx : x = .int k := by
    cases x <;> simp [Cond.value, h1, h2] at h ⊢
    exact h
  rw [h1, hx]
theorem own_selPriv {y : MethodName} {kI : Nat} (hI : (Jvm.Cond.instantiable y.cls kI).before args s = true) (hpriv : s.PrivateAt y) (hinst : (Jvm.Cond.instanceMethod y).before args s = true) (hy : y.cls ≠ "java/lang/invoke/MethodHandle" ∧ y.cls ≠ "java/lang/invoke/VarHandle") : (Jvm.Cond.selects y.cls y y).before args s = true := by
  obtain ⟨c, k, h1, h2, -, h4, -⟩ := Cond.instantiable_spec hI
  exact selects_self_of_private h1 h2 (Bool.or_eq_false_iff.mp h4).1 hpriv hinst hy
theorem own_since0 (s : State) : s.Since s.vm 0 := (State.WarmedH.refl s).since _
theorem own_irr32 (x : Int32) : ¬ (x < x) := Int32.lt_irrefl
theorem own_irr64 (x : Int64) : ¬ (x < x) := Int64.lt_irrefl
theorem own_fldInt {Z : State} {args : Array Value} {t : Term} {a : Addr} {C n d : String} {k : Int32} (ev : t.eval args Z none [] Z = some (.ref a)) (h : (Jvm.Cond.eq (.field t C n d) (.int k)).value args Z none Z [] = some true) : Fld Z Z.heap a C n d (.int k) := by
  obtain ⟨x, y, h1, h2, -, -⟩ := cmp_v (Or.inl h)
  have hy : y = .int k := Option.some.inj (h2.symm.trans (Term.int_eval k))
  subst hy
  have hx : x = .int k := by
    cases x <;> simp [Cond.value, h1, h2] at h ⊢
    exact h
  rw [fld_at ev] at h1
  exact Fld.start (hx ▸ h1)
end New
end Jvm.RoadKit
namespace Jvm.Pilot.@@N@@
open Jvm Jvm.ClassFile Sem Op Lib Jvm.Free Jvm.Stand Jvm.LawKit Jvm.RoadKit Bundle Jvm.Pilot.@@N@@.Jvm.D
abbrev mn0 : MethodName := ⟨"com/example/strict_limiter/strictlimiter/SweepSchedule", "<init>", "(J)V"⟩
abbrev mn1 : MethodName := ⟨"com/example/strict_limiter/strictlimiter/SweepSchedule", "due", "(J)Lcom/example/strict_limiter/strictlimiter/Count;"⟩
abbrev mn2 : MethodName := ⟨"com/example/strict_limiter/strictlimiter/SweepSchedule", "passesAt", "()J"⟩
abbrev mn3 : MethodName := ⟨"com/example/strict_limiter/strictlimiter/SweepSchedule", "roomAfter", "([Lcom/example/strict_limiter/strictlimiter/Count;I)[Lcom/example/strict_limiter/strictlimiter/Count;"⟩
abbrev mn4 : MethodName := ⟨"com/example/strict_limiter/strictlimiter/SweepSchedule", "take", "(J)V"⟩
abbrev mn5 : MethodName := ⟨"com/example/strict_limiter/strictlimiter/SweepSchedule", "takeAll", "()V"⟩
abbrev mn6 : MethodName := ⟨"java/lang/Math", "max", "(JJ)J"⟩
abbrev mn7 : MethodName := ⟨"java/lang/Math", "min", "(JJ)J"⟩
abbrev mn8 : MethodName := ⟨"java/util/Arrays", "fill", "([Ljava/lang/Object;IILjava/lang/Object;)V"⟩
abbrev mn9 : MethodName := ⟨"java/util/Arrays", "rangeCheck", "(III)V"⟩
abbrev mn10 : MethodName := ⟨"java/util/concurrent/atomic/AtomicReference", "<init>", "()V"⟩
abbrev cn2 : String := "com/example/strict_limiter/strictlimiter/SweepSchedule"
abbrev cn4 : String := "[[Lcom/example/strict_limiter/strictlimiter/Count;"
abbrev cn5 : String := "[Lcom/example/strict_limiter/strictlimiter/Count;"
abbrev cn6 : String := "com/example/strict_limiter/strictlimiter/Count"
abbrev cn7 : String := "Ljava/util/concurrent/atomic/AtomicReference;"
abbrev cn8 : String := "java/util/concurrent/atomic/AtomicReference"
theorem wd0 {a0 : Array Value} {Z : State} (hw : ∀ d ∈ tables_1, d.before a0 Z = true) : (Jvm.Cond.constantLong "com/example/strict_limiter/strictlimiter/SweepSchedulePassesAtPinLaw" (9 : Nat) (9223372036854775807 : Int64)).before a0 Z = true := hw _ (List.mem_of_getElem? (i := 0) rfl)
theorem wd1 {a0 : Array Value} {Z : State} (hw : ∀ d ∈ tables_1, d.before a0 Z = true) : (Jvm.Cond.methodLink "com/example/strict_limiter/strictlimiter/SweepSchedulePassesAtPinLaw" (11 : Nat) ({ cls := "java/lang/Math", name := "max", desc := "(JJ)J" } : Jvm.MethodName)).before a0 Z = true := hw _ (List.mem_of_getElem? (i := 1) rfl)
theorem wd2 {a0 : Array Value} {Z : State} (hw : ∀ d ∈ tables_1, d.before a0 Z = true) : (Jvm.Cond.static ({ cls := "java/lang/Math", name := "max", desc := "(JJ)J" } : Jvm.MethodName)).before a0 Z = true := hw _ (List.mem_of_getElem? (i := 2) rfl)
theorem wd3 {a0 : Array Value} {Z : State} (hw : ∀ d ∈ tables_1, d.before a0 Z = true) : (Jvm.Cond.initialized "java/lang/Math").before a0 Z = true := hw _ (List.mem_of_getElem? (i := 3) rfl)
theorem wd4 {a0 : Array Value} {Z : State} (hw : ∀ d ∈ tables_1, d.before a0 Z = true) : (Jvm.Cond.code ({ cls := "java/lang/Math", name := "max", desc := "(JJ)J" } : Jvm.MethodName) jdk_29_method_66_code (4 : Nat) (Option.some Jvm.ClassFile.FieldType.long)).before a0 Z = true := hw _ (List.mem_of_getElem? (i := 4) rfl)
theorem wd5 {a0 : Array Value} {Z : State} (hw : ∀ d ∈ tables_1, d.before a0 Z = true) : (Jvm.Cond.constantLong "com/example/strict_limiter/strictlimiter/SweepSchedulePassesAtPinLaw" (17 : Nat) (4294967295 : Int64)).before a0 Z = true := hw _ (List.mem_of_getElem? (i := 5) rfl)
theorem wd6 {a0 : Array Value} {Z : State} (hw : ∀ d ∈ tables_1, d.before a0 Z = true) : (Jvm.Cond.methodLink "com/example/strict_limiter/strictlimiter/SweepSchedulePassesAtPinLaw" (19 : Nat) ({ cls := "java/lang/Math", name := "min", desc := "(JJ)J" } : Jvm.MethodName)).before a0 Z = true := hw _ (List.mem_of_getElem? (i := 6) rfl)
theorem wd7 {a0 : Array Value} {Z : State} (hw : ∀ d ∈ tables_1, d.before a0 Z = true) : (Jvm.Cond.static ({ cls := "java/lang/Math", name := "min", desc := "(JJ)J" } : Jvm.MethodName)).before a0 Z = true := hw _ (List.mem_of_getElem? (i := 7) rfl)
theorem wd8 {a0 : Array Value} {Z : State} (hw : ∀ d ∈ tables_1, d.before a0 Z = true) : (Jvm.Cond.code ({ cls := "java/lang/Math", name := "min", desc := "(JJ)J" } : Jvm.MethodName) jdk_29_method_70_code (4 : Nat) (Option.some Jvm.ClassFile.FieldType.long)).before a0 Z = true := hw _ (List.mem_of_getElem? (i := 8) rfl)
theorem wd9 {a0 : Array Value} {Z : State} (hw : ∀ d ∈ tables_1, d.before a0 Z = true) : (Jvm.Cond.classLink "com/example/strict_limiter/strictlimiter/SweepSchedulePassesAtPinLaw" (22 : Nat) "com/example/strict_limiter/strictlimiter/SweepSchedule").before a0 Z = true := hw _ (List.mem_of_getElem? (i := 9) rfl)
theorem wd10 {a0 : Array Value} {Z : State} (hw : ∀ d ∈ tables_1, d.before a0 Z = true) : (Jvm.Cond.instantiable "com/example/strict_limiter/strictlimiter/SweepSchedule" (10 : Nat)).before a0 Z = true := hw _ (List.mem_of_getElem? (i := 10) rfl)
theorem wd11 {a0 : Array Value} {Z : State} (hw : ∀ d ∈ tables_1, d.before a0 Z = true) : (Jvm.Cond.initialized "com/example/strict_limiter/strictlimiter/SweepSchedule").before a0 Z = true := hw _ (List.mem_of_getElem? (i := 11) rfl)
theorem wd12 {a0 : Array Value} {Z : State} (hw : ∀ d ∈ tables_1, d.before a0 Z = true) : (Jvm.Cond.methodLink "com/example/strict_limiter/strictlimiter/SweepSchedulePassesAtPinLaw" (24 : Nat) ({ cls := "com/example/strict_limiter/strictlimiter/SweepSchedule", name := "<init>", desc := "(J)V" } : Jvm.MethodName)).before a0 Z = true := hw _ (List.mem_of_getElem? (i := 12) rfl)
theorem wd13 {a0 : Array Value} {Z : State} (hw : ∀ d ∈ tables_1, d.before a0 Z = true) : (Jvm.Cond.instanceMethod ({ cls := "com/example/strict_limiter/strictlimiter/SweepSchedule", name := "<init>", desc := "(J)V" } : Jvm.MethodName)).before a0 Z = true := hw _ (List.mem_of_getElem? (i := 13) rfl)
theorem wd14 {a0 : Array Value} {Z : State} (hw : ∀ d ∈ tables_1, d.before a0 Z = true) : (Jvm.Cond.code ({ cls := "com/example/strict_limiter/strictlimiter/SweepSchedule", name := "<init>", desc := "(J)V" } : Jvm.MethodName) prog_49_method_1_code (4 : Nat) (Option.none : Option Jvm.ClassFile.FieldType)).before a0 Z = true := hw _ (List.mem_of_getElem? (i := 14) rfl)
theorem wd15 {a0 : Array Value} {Z : State} (hw : ∀ d ∈ tables_1, d.before a0 Z = true) : (Jvm.Cond.methodLink "com/example/strict_limiter/strictlimiter/SweepSchedule" (1 : Nat) ({ cls := "java/lang/Object", name := "<init>", desc := "()V" } : Jvm.MethodName)).before a0 Z = true := hw _ (List.mem_of_getElem? (i := 15) rfl)
theorem wd16 {a0 : Array Value} {Z : State} (hw : ∀ d ∈ tables_1, d.before a0 Z = true) : (Jvm.Cond.instanceMethod ({ cls := "java/lang/Object", name := "<init>", desc := "()V" } : Jvm.MethodName)).before a0 Z = true := hw _ (List.mem_of_getElem? (i := 16) rfl)
theorem wd17 {a0 : Array Value} {Z : State} (hw : ∀ d ∈ tables_1, d.before a0 Z = true) : (Jvm.Cond.code ({ cls := "java/lang/Object", name := "<init>", desc := "()V" } : Jvm.MethodName) object_method_1_code (1 : Nat) (Option.none : Option Jvm.ClassFile.FieldType)).before a0 Z = true := hw _ (List.mem_of_getElem? (i := 17) rfl)
theorem wd18 {a0 : Array Value} {Z : State} (hw : ∀ d ∈ tables_1, d.before a0 Z = true) : (Jvm.Cond.classLink "com/example/strict_limiter/strictlimiter/SweepSchedule" (7 : Nat) "java/util/concurrent/atomic/AtomicReference").before a0 Z = true := hw _ (List.mem_of_getElem? (i := 18) rfl)
theorem wd19 {a0 : Array Value} {Z : State} (hw : ∀ d ∈ tables_1, d.before a0 Z = true) : (Jvm.Cond.instantiable "java/util/concurrent/atomic/AtomicReference" (1 : Nat)).before a0 Z = true := hw _ (List.mem_of_getElem? (i := 19) rfl)
theorem wd20 {a0 : Array Value} {Z : State} (hw : ∀ d ∈ tables_1, d.before a0 Z = true) : (Jvm.Cond.initialized "java/util/concurrent/atomic/AtomicReference").before a0 Z = true := hw _ (List.mem_of_getElem? (i := 20) rfl)
theorem wd21 {a0 : Array Value} {Z : State} (hw : ∀ d ∈ tables_1, d.before a0 Z = true) : (Jvm.Cond.methodLink "com/example/strict_limiter/strictlimiter/SweepSchedule" (9 : Nat) ({ cls := "java/util/concurrent/atomic/AtomicReference", name := "<init>", desc := "()V" } : Jvm.MethodName)).before a0 Z = true := hw _ (List.mem_of_getElem? (i := 21) rfl)
theorem wd22 {a0 : Array Value} {Z : State} (hw : ∀ d ∈ tables_1, d.before a0 Z = true) : (Jvm.Cond.instanceMethod ({ cls := "java/util/concurrent/atomic/AtomicReference", name := "<init>", desc := "()V" } : Jvm.MethodName)).before a0 Z = true := hw _ (List.mem_of_getElem? (i := 22) rfl)
theorem wd23 {a0 : Array Value} {Z : State} (hw : ∀ d ∈ tables_1, d.before a0 Z = true) : (Jvm.Cond.code ({ cls := "java/util/concurrent/atomic/AtomicReference", name := "<init>", desc := "()V" } : Jvm.MethodName) jdk_2809_method_2_code (1 : Nat) (Option.none : Option Jvm.ClassFile.FieldType)).before a0 Z = true := hw _ (List.mem_of_getElem? (i := 23) rfl)
theorem wd24 {a0 : Array Value} {Z : State} (hw : ∀ d ∈ tables_1, d.before a0 Z = true) : (Jvm.Cond.methodLink "java/util/concurrent/atomic/AtomicReference" (1 : Nat) ({ cls := "java/lang/Object", name := "<init>", desc := "()V" } : Jvm.MethodName)).before a0 Z = true := hw _ (List.mem_of_getElem? (i := 24) rfl)
theorem wd25 {a0 : Array Value} {Z : State} (hw : ∀ d ∈ tables_1, d.before a0 Z = true) : (Jvm.Cond.fieldLink "com/example/strict_limiter/strictlimiter/SweepSchedule" (10 : Nat) "com/example/strict_limiter/strictlimiter/SweepSchedule" "handedIn" "Ljava/util/concurrent/atomic/AtomicReference;").before a0 Z = true := hw _ (List.mem_of_getElem? (i := 25) rfl)
theorem wd26 {a0 : Array Value} {Z : State} (hw : ∀ d ∈ tables_1, d.before a0 Z = true) : (Jvm.Cond.laysFinal "com/example/strict_limiter/strictlimiter/SweepSchedule" "com/example/strict_limiter/strictlimiter/SweepSchedule" "handedIn" "Ljava/util/concurrent/atomic/AtomicReference;").before a0 Z = true := hw _ (List.mem_of_getElem? (i := 26) rfl)
theorem wd27 {a0 : Array Value} {Z : State} (hw : ∀ d ∈ tables_1, d.before a0 Z = true) : (Jvm.Cond.classLink "com/example/strict_limiter/strictlimiter/SweepSchedule" (16 : Nat) "[Lcom/example/strict_limiter/strictlimiter/Count;").before a0 Z = true := hw _ (List.mem_of_getElem? (i := 27) rfl)
theorem wd28 {a0 : Array Value} {Z : State} (hw : ∀ d ∈ tables_1, d.before a0 Z = true) : (Jvm.Cond.arrayOver (Jvm.ClassFile.FieldType.array (Jvm.ClassFile.FieldType.object "com/example/strict_limiter/strictlimiter/Count"))).before a0 Z = true := hw _ (List.mem_of_getElem? (i := 28) rfl)
theorem wd29 {a0 : Array Value} {Z : State} (hw : ∀ d ∈ tables_1, d.before a0 Z = true) : (Jvm.Cond.fieldLink "com/example/strict_limiter/strictlimiter/SweepSchedule" (18 : Nat) "com/example/strict_limiter/strictlimiter/SweepSchedule" "kept" "[[Lcom/example/strict_limiter/strictlimiter/Count;").before a0 Z = true := hw _ (List.mem_of_getElem? (i := 29) rfl)
theorem wd30 {a0 : Array Value} {Z : State} (hw : ∀ d ∈ tables_1, d.before a0 Z = true) : (Jvm.Cond.laysFinal "com/example/strict_limiter/strictlimiter/SweepSchedule" "com/example/strict_limiter/strictlimiter/SweepSchedule" "kept" "[[Lcom/example/strict_limiter/strictlimiter/Count;").before a0 Z = true := hw _ (List.mem_of_getElem? (i := 30) rfl)
theorem wd31 {a0 : Array Value} {Z : State} (hw : ∀ d ∈ tables_1, d.before a0 Z = true) : (Jvm.Cond.arrayClass Jvm.ClassFile.FieldType.int).before a0 Z = true := hw _ (List.mem_of_getElem? (i := 31) rfl)
theorem wd32 {a0 : Array Value} {Z : State} (hw : ∀ d ∈ tables_1, d.before a0 Z = true) : (Jvm.Cond.fieldLink "com/example/strict_limiter/strictlimiter/SweepSchedule" (22 : Nat) "com/example/strict_limiter/strictlimiter/SweepSchedule" "sizes" "[I").before a0 Z = true := hw _ (List.mem_of_getElem? (i := 32) rfl)
theorem wd33 {a0 : Array Value} {Z : State} (hw : ∀ d ∈ tables_1, d.before a0 Z = true) : (Jvm.Cond.laysFinal "com/example/strict_limiter/strictlimiter/SweepSchedule" "com/example/strict_limiter/strictlimiter/SweepSchedule" "sizes" "[I").before a0 Z = true := hw _ (List.mem_of_getElem? (i := 33) rfl)
theorem wd34 {a0 : Array Value} {Z : State} (hw : ∀ d ∈ tables_1, d.before a0 Z = true) : (Jvm.Cond.classLink "com/example/strict_limiter/strictlimiter/SweepSchedule" (26 : Nat) "com/example/strict_limiter/strictlimiter/Count").before a0 Z = true := hw _ (List.mem_of_getElem? (i := 34) rfl)
theorem wd35 {a0 : Array Value} {Z : State} (hw : ∀ d ∈ tables_1, d.before a0 Z = true) : (Jvm.Cond.arrayOver (Jvm.ClassFile.FieldType.object "com/example/strict_limiter/strictlimiter/Count")).before a0 Z = true := hw _ (List.mem_of_getElem? (i := 35) rfl)
theorem wd36 {a0 : Array Value} {Z : State} (hw : ∀ d ∈ tables_1, d.before a0 Z = true) : (Jvm.Cond.fieldLink "com/example/strict_limiter/strictlimiter/SweepSchedule" (28 : Nat) "com/example/strict_limiter/strictlimiter/SweepSchedule" "taken" "[Lcom/example/strict_limiter/strictlimiter/Count;").before a0 Z = true := hw _ (List.mem_of_getElem? (i := 36) rfl)
theorem wd37 {a0 : Array Value} {Z : State} (hw : ∀ d ∈ tables_1, d.before a0 Z = true) : (Jvm.Cond.lays "com/example/strict_limiter/strictlimiter/SweepSchedule" "com/example/strict_limiter/strictlimiter/SweepSchedule" "taken" "[Lcom/example/strict_limiter/strictlimiter/Count;").before a0 Z = true := hw _ (List.mem_of_getElem? (i := 37) rfl)
theorem wd38 {a0 : Array Value} {Z : State} (hw : ∀ d ∈ tables_1, d.before a0 Z = true) : (Jvm.Cond.fieldLink "com/example/strict_limiter/strictlimiter/SweepSchedule" (31 : Nat) "com/example/strict_limiter/strictlimiter/SweepSchedule" "width" "J").before a0 Z = true := hw _ (List.mem_of_getElem? (i := 38) rfl)
theorem wd39 {a0 : Array Value} {Z : State} (hw : ∀ d ∈ tables_1, d.before a0 Z = true) : (Jvm.Cond.laysFinal "com/example/strict_limiter/strictlimiter/SweepSchedule" "com/example/strict_limiter/strictlimiter/SweepSchedule" "width" "J").before a0 Z = true := hw _ (List.mem_of_getElem? (i := 39) rfl)
theorem wd41 {a0 : Array Value} {Z : State} (hw : ∀ d ∈ tables_1, d.before a0 Z = true) : (Jvm.Cond.methodLink "com/example/strict_limiter/strictlimiter/SweepSchedulePassesAtPinLaw" (27 : Nat) ({ cls := "com/example/strict_limiter/strictlimiter/SweepSchedule", name := "due", desc := "(J)Lcom/example/strict_limiter/strictlimiter/Count;" } : Jvm.MethodName)).before a0 Z = true := hw _ (List.mem_of_getElem? (i := 41) rfl)
theorem wd42 {a0 : Array Value} {Z : State} (hw : ∀ d ∈ tables_1, d.before a0 Z = true) : (Jvm.Cond.declares ({ cls := "com/example/strict_limiter/strictlimiter/SweepSchedule", name := "due", desc := "(J)Lcom/example/strict_limiter/strictlimiter/Count;" } : Jvm.MethodName)).before a0 Z = true := hw _ (List.mem_of_getElem? (i := 42) rfl)
theorem wd43 {a0 : Array Value} {Z : State} (hw : ∀ d ∈ tables_1, d.before a0 Z = true) : (Jvm.Cond.instanceMethod ({ cls := "com/example/strict_limiter/strictlimiter/SweepSchedule", name := "due", desc := "(J)Lcom/example/strict_limiter/strictlimiter/Count;" } : Jvm.MethodName)).before a0 Z = true := hw _ (List.mem_of_getElem? (i := 43) rfl)
theorem wd44 {a0 : Array Value} {Z : State} (hw : ∀ d ∈ tables_1, d.before a0 Z = true) : (Jvm.Cond.selects "com/example/strict_limiter/strictlimiter/SweepSchedule" ({ cls := "com/example/strict_limiter/strictlimiter/SweepSchedule", name := "due", desc := "(J)Lcom/example/strict_limiter/strictlimiter/Count;" } : Jvm.MethodName) ({ cls := "com/example/strict_limiter/strictlimiter/SweepSchedule", name := "due", desc := "(J)Lcom/example/strict_limiter/strictlimiter/Count;" } : Jvm.MethodName)).before a0 Z = true := hw _ (List.mem_of_getElem? (i := 44) rfl)
theorem wd45 {a0 : Array Value} {Z : State} (hw : ∀ d ∈ tables_1, d.before a0 Z = true) : (Jvm.Cond.code ({ cls := "com/example/strict_limiter/strictlimiter/SweepSchedule", name := "due", desc := "(J)Lcom/example/strict_limiter/strictlimiter/Count;" } : Jvm.MethodName) prog_49_method_5_code (4 : Nat) (Option.some (Jvm.ClassFile.FieldType.object "com/example/strict_limiter/strictlimiter/Count"))).before a0 Z = true := hw _ (List.mem_of_getElem? (i := 45) rfl)
theorem wd46 {a0 : Array Value} {Z : State} (hw : ∀ d ∈ tables_1, d.before a0 Z = true) : (Jvm.Cond.fieldLink "com/example/strict_limiter/strictlimiter/SweepSchedule" (85 : Nat) "com/example/strict_limiter/strictlimiter/SweepSchedule" "handed" "I").before a0 Z = true := hw _ (List.mem_of_getElem? (i := 46) rfl)
theorem wd47 {a0 : Array Value} {Z : State} (hw : ∀ d ∈ tables_1, d.before a0 Z = true) : (Jvm.Cond.lays "com/example/strict_limiter/strictlimiter/SweepSchedule" "com/example/strict_limiter/strictlimiter/SweepSchedule" "handed" "I").before a0 Z = true := hw _ (List.mem_of_getElem? (i := 47) rfl)
theorem wd48 {a0 : Array Value} {Z : State} (hw : ∀ d ∈ tables_1, d.before a0 Z = true) : (Jvm.Cond.fieldLink "com/example/strict_limiter/strictlimiter/SweepSchedule" (88 : Nat) "com/example/strict_limiter/strictlimiter/SweepSchedule" "takenSize" "I").before a0 Z = true := hw _ (List.mem_of_getElem? (i := 48) rfl)
theorem wd49 {a0 : Array Value} {Z : State} (hw : ∀ d ∈ tables_1, d.before a0 Z = true) : (Jvm.Cond.lays "com/example/strict_limiter/strictlimiter/SweepSchedule" "com/example/strict_limiter/strictlimiter/SweepSchedule" "takenSize" "I").before a0 Z = true := hw _ (List.mem_of_getElem? (i := 49) rfl)
theorem wd50 {a0 : Array Value} {Z : State} (hw : ∀ d ∈ tables_1, d.before a0 Z = true) : (Jvm.Cond.methodLink "com/example/strict_limiter/strictlimiter/SweepSchedule" (91 : Nat) ({ cls := "com/example/strict_limiter/strictlimiter/SweepSchedule", name := "take", desc := "(J)V" } : Jvm.MethodName)).before a0 Z = true := hw _ (List.mem_of_getElem? (i := 50) rfl)
theorem wd51 {a0 : Array Value} {Z : State} (hw : ∀ d ∈ tables_1, d.before a0 Z = true) : (Jvm.Cond.instanceMethod ({ cls := "com/example/strict_limiter/strictlimiter/SweepSchedule", name := "take", desc := "(J)V" } : Jvm.MethodName)).before a0 Z = true := hw _ (List.mem_of_getElem? (i := 51) rfl)
theorem wd52 {a0 : Array Value} {Z : State} (hw : ∀ d ∈ tables_1, d.before a0 Z = true) : (Jvm.Cond.privateMethod ({ cls := "com/example/strict_limiter/strictlimiter/SweepSchedule", name := "take", desc := "(J)V" } : Jvm.MethodName)).before a0 Z = true := hw _ (List.mem_of_getElem? (i := 52) rfl)
theorem wd53 {a0 : Array Value} {Z : State} (hw : ∀ d ∈ tables_1, d.before a0 Z = true) : (Jvm.Cond.code ({ cls := "com/example/strict_limiter/strictlimiter/SweepSchedule", name := "take", desc := "(J)V" } : Jvm.MethodName) prog_49_method_8_code (5 : Nat) (Option.none : Option Jvm.ClassFile.FieldType)).before a0 Z = true := hw _ (List.mem_of_getElem? (i := 53) rfl)
theorem wd54 {a0 : Array Value} {Z : State} (hw : ∀ d ∈ tables_1, d.before a0 Z = true) : (Jvm.Cond.fieldLink "com/example/strict_limiter/strictlimiter/SweepSchedule" (81 : Nat) "com/example/strict_limiter/strictlimiter/SweepSchedule" "total" "I").before a0 Z = true := hw _ (List.mem_of_getElem? (i := 54) rfl)
theorem wd55 {a0 : Array Value} {Z : State} (hw : ∀ d ∈ tables_1, d.before a0 Z = true) : (Jvm.Cond.lays "com/example/strict_limiter/strictlimiter/SweepSchedule" "com/example/strict_limiter/strictlimiter/SweepSchedule" "total" "I").before a0 Z = true := hw _ (List.mem_of_getElem? (i := 55) rfl)
theorem wd56 {a0 : Array Value} {Z : State} (hw : ∀ d ∈ tables_1, d.before a0 Z = true) : (Jvm.Cond.methodLink "com/example/strict_limiter/strictlimiter/SweepSchedule" (99 : Nat) ({ cls := "com/example/strict_limiter/strictlimiter/SweepSchedule", name := "takeAll", desc := "()V" } : Jvm.MethodName)).before a0 Z = true := hw _ (List.mem_of_getElem? (i := 56) rfl)
theorem wd57 {a0 : Array Value} {Z : State} (hw : ∀ d ∈ tables_1, d.before a0 Z = true) : (Jvm.Cond.instanceMethod ({ cls := "com/example/strict_limiter/strictlimiter/SweepSchedule", name := "takeAll", desc := "()V" } : Jvm.MethodName)).before a0 Z = true := hw _ (List.mem_of_getElem? (i := 57) rfl)
theorem wd58 {a0 : Array Value} {Z : State} (hw : ∀ d ∈ tables_1, d.before a0 Z = true) : (Jvm.Cond.privateMethod ({ cls := "com/example/strict_limiter/strictlimiter/SweepSchedule", name := "takeAll", desc := "()V" } : Jvm.MethodName)).before a0 Z = true := hw _ (List.mem_of_getElem? (i := 58) rfl)
theorem wd59 {a0 : Array Value} {Z : State} (hw : ∀ d ∈ tables_1, d.before a0 Z = true) : (Jvm.Cond.code ({ cls := "com/example/strict_limiter/strictlimiter/SweepSchedule", name := "takeAll", desc := "()V" } : Jvm.MethodName) prog_49_method_9_code (2 : Nat) (Option.none : Option Jvm.ClassFile.FieldType)).before a0 Z = true := hw _ (List.mem_of_getElem? (i := 59) rfl)
theorem wd60 {a0 : Array Value} {Z : State} (hw : ∀ d ∈ tables_1, d.before a0 Z = true) : (Jvm.Cond.methodLink "com/example/strict_limiter/strictlimiter/SweepSchedule" (75 : Nat) ({ cls := "java/lang/System", name := "arraycopy", desc := "(Ljava/lang/Object;ILjava/lang/Object;II)V" } : Jvm.MethodName)).before a0 Z = true := hw _ (List.mem_of_getElem? (i := 60) rfl)
theorem wd61 {a0 : Array Value} {Z : State} (hw : ∀ d ∈ tables_1, d.before a0 Z = true) : (Jvm.Cond.static ({ cls := "java/lang/System", name := "arraycopy", desc := "(Ljava/lang/Object;ILjava/lang/Object;II)V" } : Jvm.MethodName)).before a0 Z = true := hw _ (List.mem_of_getElem? (i := 61) rfl)
theorem wd62 {a0 : Array Value} {Z : State} (hw : ∀ d ∈ tables_1, d.before a0 Z = true) : (Jvm.Cond.initialized "java/lang/System").before a0 Z = true := hw _ (List.mem_of_getElem? (i := 62) rfl)
theorem wd63 {a0 : Array Value} {Z : State} (hw : ∀ d ∈ tables_1, d.before a0 Z = true) : (Jvm.Cond.native ({ cls := "java/lang/System", name := "arraycopy", desc := "(Ljava/lang/Object;ILjava/lang/Object;II)V" } : Jvm.MethodName)).before a0 Z = true := hw _ (List.mem_of_getElem? (i := 63) rfl)
theorem wd64 {a0 : Array Value} {Z : State} (hw : ∀ d ∈ tables_1, d.before a0 Z = true) : (Jvm.Cond.methodLink "com/example/strict_limiter/strictlimiter/SweepSchedule" (102 : Nat) ({ cls := "com/example/strict_limiter/strictlimiter/SweepSchedule", name := "roomAfter", desc := "([Lcom/example/strict_limiter/strictlimiter/Count;I)[Lcom/example/strict_limiter/strictlimiter/Count;" } : Jvm.MethodName)).before a0 Z = true := hw _ (List.mem_of_getElem? (i := 64) rfl)
theorem wd65 {a0 : Array Value} {Z : State} (hw : ∀ d ∈ tables_1, d.before a0 Z = true) : (Jvm.Cond.static ({ cls := "com/example/strict_limiter/strictlimiter/SweepSchedule", name := "roomAfter", desc := "([Lcom/example/strict_limiter/strictlimiter/Count;I)[Lcom/example/strict_limiter/strictlimiter/Count;" } : Jvm.MethodName)).before a0 Z = true := hw _ (List.mem_of_getElem? (i := 65) rfl)
theorem wd66 {a0 : Array Value} {Z : State} (hw : ∀ d ∈ tables_1, d.before a0 Z = true) : (Jvm.Cond.code ({ cls := "com/example/strict_limiter/strictlimiter/SweepSchedule", name := "roomAfter", desc := "([Lcom/example/strict_limiter/strictlimiter/Count;I)[Lcom/example/strict_limiter/strictlimiter/Count;" } : Jvm.MethodName) prog_49_method_10_code (3 : Nat) (Option.some (Jvm.ClassFile.FieldType.array (Jvm.ClassFile.FieldType.object "com/example/strict_limiter/strictlimiter/Count")))).before a0 Z = true := hw _ (List.mem_of_getElem? (i := 66) rfl)
theorem wd67 {a0 : Array Value} {Z : State} (hw : ∀ d ∈ tables_1, d.before a0 Z = true) : (Jvm.Cond.methodLink "com/example/strict_limiter/strictlimiter/SweepSchedule" (109 : Nat) ({ cls := "java/util/Arrays", name := "fill", desc := "([Ljava/lang/Object;IILjava/lang/Object;)V" } : Jvm.MethodName)).before a0 Z = true := hw _ (List.mem_of_getElem? (i := 67) rfl)
theorem wd68 {a0 : Array Value} {Z : State} (hw : ∀ d ∈ tables_1, d.before a0 Z = true) : (Jvm.Cond.static ({ cls := "java/util/Arrays", name := "fill", desc := "([Ljava/lang/Object;IILjava/lang/Object;)V" } : Jvm.MethodName)).before a0 Z = true := hw _ (List.mem_of_getElem? (i := 68) rfl)
theorem wd69 {a0 : Array Value} {Z : State} (hw : ∀ d ∈ tables_1, d.before a0 Z = true) : (Jvm.Cond.initialized "java/util/Arrays").before a0 Z = true := hw _ (List.mem_of_getElem? (i := 69) rfl)
theorem wd70 {a0 : Array Value} {Z : State} (hw : ∀ d ∈ tables_1, d.before a0 Z = true) : (Jvm.Cond.code ({ cls := "java/util/Arrays", name := "fill", desc := "([Ljava/lang/Object;IILjava/lang/Object;)V" } : Jvm.MethodName) jdk_65_method_118_code (5 : Nat) (Option.none : Option Jvm.ClassFile.FieldType)).before a0 Z = true := hw _ (List.mem_of_getElem? (i := 70) rfl)
theorem wd71 {a0 : Array Value} {Z : State} (hw : ∀ d ∈ tables_1, d.before a0 Z = true) : (Jvm.Cond.methodLink "java/util/Arrays" (13 : Nat) ({ cls := "java/util/Arrays", name := "rangeCheck", desc := "(III)V" } : Jvm.MethodName)).before a0 Z = true := hw _ (List.mem_of_getElem? (i := 71) rfl)
theorem wd72 {a0 : Array Value} {Z : State} (hw : ∀ d ∈ tables_1, d.before a0 Z = true) : (Jvm.Cond.static ({ cls := "java/util/Arrays", name := "rangeCheck", desc := "(III)V" } : Jvm.MethodName)).before a0 Z = true := hw _ (List.mem_of_getElem? (i := 72) rfl)
theorem wd73 {a0 : Array Value} {Z : State} (hw : ∀ d ∈ tables_1, d.before a0 Z = true) : (Jvm.Cond.code ({ cls := "java/util/Arrays", name := "rangeCheck", desc := "(III)V" } : Jvm.MethodName) jdk_65_method_30_code (3 : Nat) (Option.none : Option Jvm.ClassFile.FieldType)).before a0 Z = true := hw _ (List.mem_of_getElem? (i := 73) rfl)
theorem wd74 {a0 : Array Value} {Z : State} (hw : ∀ d ∈ tables_1, d.before a0 Z = true) : (Jvm.Cond.fieldLink "com/example/strict_limiter/strictlimiter/SweepSchedule" (62 : Nat) "com/example/strict_limiter/strictlimiter/SweepSchedule" "next" "J").before a0 Z = true := hw _ (List.mem_of_getElem? (i := 74) rfl)
theorem wd75 {a0 : Array Value} {Z : State} (hw : ∀ d ∈ tables_1, d.before a0 Z = true) : (Jvm.Cond.lays "com/example/strict_limiter/strictlimiter/SweepSchedule" "com/example/strict_limiter/strictlimiter/SweepSchedule" "next" "J").before a0 Z = true := hw _ (List.mem_of_getElem? (i := 75) rfl)
theorem wd76 {a0 : Array Value} {Z : State} (hw : ∀ d ∈ tables_1, d.before a0 Z = true) : (Jvm.Cond.methodLink "com/example/strict_limiter/strictlimiter/SweepSchedule" (64 : Nat) ({ cls := "java/lang/Math", name := "max", desc := "(JJ)J" } : Jvm.MethodName)).before a0 Z = true := hw _ (List.mem_of_getElem? (i := 76) rfl)
theorem wd77 {a0 : Array Value} {Z : State} (hw : ∀ d ∈ tables_1, d.before a0 Z = true) : (Jvm.Cond.methodLink "com/example/strict_limiter/strictlimiter/SweepSchedulePassesAtPinLaw" (31 : Nat) ({ cls := "com/example/strict_limiter/strictlimiter/SweepSchedule", name := "passesAt", desc := "()J" } : Jvm.MethodName)).before a0 Z = true := hw _ (List.mem_of_getElem? (i := 77) rfl)
theorem wd78 {a0 : Array Value} {Z : State} (hw : ∀ d ∈ tables_1, d.before a0 Z = true) : (Jvm.Cond.declares ({ cls := "com/example/strict_limiter/strictlimiter/SweepSchedule", name := "passesAt", desc := "()J" } : Jvm.MethodName)).before a0 Z = true := hw _ (List.mem_of_getElem? (i := 78) rfl)
theorem wd79 {a0 : Array Value} {Z : State} (hw : ∀ d ∈ tables_1, d.before a0 Z = true) : (Jvm.Cond.instanceMethod ({ cls := "com/example/strict_limiter/strictlimiter/SweepSchedule", name := "passesAt", desc := "()J" } : Jvm.MethodName)).before a0 Z = true := hw _ (List.mem_of_getElem? (i := 79) rfl)
theorem wd80 {a0 : Array Value} {Z : State} (hw : ∀ d ∈ tables_1, d.before a0 Z = true) : (Jvm.Cond.selects "com/example/strict_limiter/strictlimiter/SweepSchedule" ({ cls := "com/example/strict_limiter/strictlimiter/SweepSchedule", name := "passesAt", desc := "()J" } : Jvm.MethodName) ({ cls := "com/example/strict_limiter/strictlimiter/SweepSchedule", name := "passesAt", desc := "()J" } : Jvm.MethodName)).before a0 Z = true := hw _ (List.mem_of_getElem? (i := 80) rfl)
theorem wd81 {a0 : Array Value} {Z : State} (hw : ∀ d ∈ tables_1, d.before a0 Z = true) : (Jvm.Cond.code ({ cls := "com/example/strict_limiter/strictlimiter/SweepSchedule", name := "passesAt", desc := "()J" } : Jvm.MethodName) prog_49_method_7_code (1 : Nat) (Option.some Jvm.ClassFile.FieldType.long)).before a0 Z = true := hw _ (List.mem_of_getElem? (i := 81) rfl)
theorem wd82 {a0 : Array Value} {Z : State} (hw : ∀ d ∈ tables_1, d.before a0 Z = true) : (Jvm.Cond.constantLong "com/example/strict_limiter/strictlimiter/SweepSchedule" (97 : Nat) (9223372036854775807 : Int64)).before a0 Z = true := hw _ (List.mem_of_getElem? (i := 82) rfl)
theorem pn_com_example_strict_limiter_strictlimiter_SweepSchedule : plainName cn2 = true := by first | (simp [plainName, overriddenIn]; done) | decide +kernel
theorem pn_java_util_concurrent_atomic_AtomicReference : plainName cn8 = true := by first | (simp [plainName, overriddenIn]; done) | decide +kernel
theorem pd___V : parseMethodDescriptor "()V" = some ⟨[], none⟩ := by decide +kernel
theorem pn_java_util_Arrays : plainName "java/util/Arrays" = true := by first | (simp [plainName, overriddenIn]; done) | decide +kernel
theorem pd__III_V : parseMethodDescriptor "(III)V" = some ⟨[.int, .int, .int], none⟩ := by decide +kernel
theorem pd___Ljava_lang_Object_IILjava_lang_Object__V : parseMethodDescriptor "([Ljava/lang/Object;IILjava/lang/Object;)V" = some ⟨[(.array (.object "java/lang/Object")), .int, .int, (.object "java/lang/Object")], none⟩ := by decide +kernel
theorem pd___Lcom_example_strict_limiter_strictlimiter_Count_I__Lcom_example_strict_limiter_strictlimiter_Count_ : parseMethodDescriptor "([Lcom/example/strict_limiter/strictlimiter/Count;I)[Lcom/example/strict_limiter/strictlimiter/Count;" = some ⟨[(.array (.object cn6)), .int], some (.array (.object cn6))⟩ := by decide +kernel
theorem pn_com_example_strict_limiter_strictlimiter_SweepSchedulePassesAtPinLaw : plainName "com/example/strict_limiter/strictlimiter/SweepSchedulePassesAtPinLaw" = true := by first | (simp [plainName, overriddenIn]; done) | decide +kernel
theorem pd__JJ_J : parseMethodDescriptor "(JJ)J" = some ⟨[.long, .long], some .long⟩ := by decide +kernel
theorem pd__J_V : parseMethodDescriptor "(J)V" = some ⟨[.long], none⟩ := by decide +kernel
theorem pd__J_Lcom_example_strict_limiter_strictlimiter_Count_ : parseMethodDescriptor "(J)Lcom/example/strict_limiter/strictlimiter/Count;" = some ⟨[.long], some (.object cn6)⟩ := by decide +kernel
theorem pd___J : parseMethodDescriptor "()J" = some ⟨[], some .long⟩ := by decide +kernel
def own_minL (x y : Int64) : Int64 := if y < x then y else x
def own_maxL (x y : Int64) : Int64 := if x < y then y else x
theorem own_minLI (x y : Int64) : (own_minL x y).toInt = min x.toInt y.toInt := by
  unfold own_minL; split <;> rename_i q <;> rw [Int64.lt_iff_toInt_lt] at q <;> omega
theorem own_maxLI (x y : Int64) : (own_maxL x y).toInt = max x.toInt y.toInt := by
  unfold own_maxL; split <;> rename_i q <;> rw [Int64.lt_iff_toInt_lt] at q <;> omega
theorem own_m63 (x : Int64) : 0 ≤ (x &&& (9223372036854775807 : Int64)).toInt := by
  have q := c_maskL x 9223372036854775807 63 (by decide) (by decide); omega
theorem own_m32 (x : Int64) : 0 ≤ ((9223372036854775807 : Int64) - (x &&& (4294967295 : Int64))).toInt := by
  have q := c_maskL x 4294967295 32 (by decide) (by decide)
  have a := c_lsub 9223372036854775807 (x &&& 4294967295)
  have z : (9223372036854775807 : Int64).toInt = 9223372036854775807 := rfl
  have r := rng64 ((9223372036854775807 : Int64) - (x &&& 4294967295))
  omega
theorem own_maxnlt (a b : Int64) : ¬ own_maxL a b < b := fun q => by
  rw [Int64.lt_iff_toInt_lt, own_maxLI] at q; omega
theorem own_ne1 {wd : Int64} (h : 1 ≤ wd.toInt) : wd ≠ -1 := fun q => by
  have := congrArg Int64.toInt q; have o : (-1 : Int64).toInt = -1 := rfl; omega
theorem own_dv {x wd : Int64} (h1 : 0 ≤ x.toInt) (h2 : 1 ≤ wd.toInt) : (x / wd).toInt = x.toInt / wd.toInt := (c_ldiv x wd wd.toInt rfl (own_ne1 h2)).1 h1
theorem own_md {x wd : Int64} (h1 : 0 ≤ x.toInt) : (x % wd).toInt = x.toInt % wd.toInt := by
  have q := (c_lrem x wd wd.toInt rfl).1 h1
  rw [lrem_mod] at q; exact q
theorem own_0div {x : Int64} (h : 1 ≤ x.toInt) : (0 : Int64) / x = 0 := by
  rw [← Int64.toInt_inj, own_dv (by decide) h]
  have o : (0 : Int64).toInt = 0 := rfl
  rw [o]; exact Int.zero_ediv _
theorem own_nx {lo hi wd : Int64} (h1 : 0 ≤ lo.toInt) (h2 : lo.toInt ≤ hi.toInt) (h3 : 1 ≤ wd.toInt) : own_maxL (own_maxL 0 (lo / wd)) (hi / wd) = hi / wd := by
  rw [← Int64.toInt_inj, own_maxLI, own_maxLI, own_dv h1 h3, own_dv (by omega) h3]
  have o : (0 : Int64).toInt = 0 := rfl
  have m := Int.ediv_le_ediv (c := wd.toInt) (by omega) h2
  have n := Int.ediv_nonneg h1 (show 0 ≤ wd.toInt by omega)
  rw [o]; omega
theorem own_sub64 {a b : Int64} {x y : Int} (ha : a.toInt = x) (hb : b.toInt = y) (h1 : -9223372036854775808 ≤ x - y) (h2 : x - y < 9223372036854775808) : (a - b).toInt = x - y := by
  subst ha hb
  exact Jvm.FP.Core.int64_sub (by omega) (by omega)
theorem own_pI {n w P Q M : Int} (hw : 1 ≤ w) (hP : P = w * Q) (hM : (Q + 2 ≤ M) ↔ ((Q + 2) * w ≤ 9223372036854775807)) : (9223372036854775807 - P - w < w) ↔ ¬ (Q < M - 1) := by
  have k2 : (Q + 2) * w = P + 2 * w := by rw [Int.add_mul, hP, Int.mul_comm]
  rw [k2] at hM
  omega
theorem own_p {now wd : Int64} (h1 : 0 ≤ now.toInt) (h2 : 1 ≤ wd.toInt) : ((((9223372036854775807 : Int64) - (now - (now % wd))) - wd) < wd) ↔ ¬ ((now / wd) < (((9223372036854775807 : Int64) / wd) - (1 : Int64))) := by
  obtain ⟨mx, hmx⟩ : ∃ z : Int64, z = 9223372036854775807 := ⟨_, rfl⟩
  have zM : mx.toInt = 9223372036854775807 := by rw [hmx]; rfl
  rw [← hmx]
  have d1 := own_dv h1 h2
  have d2 := own_dv (x := mx) (by omega) h2
  have m1 := own_md (wd := wd) h1
  have r0 := rng64 now
  have r5 := rng64 wd
  have e0 := Int.emod_def now.toInt wd.toInt
  have e1 := Int.emod_nonneg now.toInt (show wd.toInt ≠ 0 by omega)
  have q0 : 0 ≤ now.toInt / wd.toInt := Int.ediv_nonneg h1 (by omega)
  have q1 : 0 ≤ mx.toInt / wd.toInt := Int.ediv_nonneg (by omega) (by omega)
  have q2 : mx.toInt / wd.toInt ≤ mx.toInt := Int.ediv_le_self _ (by omega)
  have key : (now.toInt / wd.toInt + 2 ≤ mx.toInt / wd.toInt) ↔ ((now.toInt / wd.toInt + 2) * wd.toInt ≤ mx.toInt) := Int.le_ediv_iff_mul_le (by omega)
  rw [zM] at key
  have pp : 0 ≤ wd.toInt * (now.toInt / wd.toInt) := Int.mul_nonneg (by omega) q0
  have fin := own_pI (n := now.toInt) (P := wd.toInt * (now.toInt / wd.toInt)) (Q := now.toInt / wd.toInt) (M := 9223372036854775807 / wd.toInt) h2 rfl key
  obtain ⟨P, hP⟩ : ∃ z : Int, z = wd.toInt * (now.toInt / wd.toInt) := ⟨_, rfl⟩
  obtain ⟨Q, hQ⟩ : ∃ z : Int, z = now.toInt / wd.toInt := ⟨_, rfl⟩
  obtain ⟨M, hM⟩ : ∃ z : Int, z = 9223372036854775807 / wd.toInt := ⟨_, rfl⟩
  obtain ⟨R, hR⟩ : ∃ z : Int, z = now.toInt % wd.toInt := ⟨_, rfl⟩
  rw [zM] at d2 q1 q2
  rw [← hM] at d2 q1 q2 fin
  rw [← hR] at e0 e1 m1
  rw [← hP] at e0 pp fin
  rw [← hQ] at d1 q0 fin
  clear key hP hQ hM hR hmx
  have s1 : (now - now % wd).toInt = now.toInt - R := own_sub64 rfl m1 (by omega) (by omega)
  have s1' : (now - now % wd).toInt = P := by omega
  have s2 : (mx - (now - now % wd)).toInt = 9223372036854775807 - P := own_sub64 zM s1' (by omega) (by omega)
  have s3 : (mx - (now - now % wd) - wd).toInt = 9223372036854775807 - P - wd.toInt := own_sub64 s2 rfl (by omega) (by omega)
  have s4 : (mx / wd - 1).toInt = M - 1 := own_sub64 d2 rfl (by omega) (by omega)
  rw [Int64.lt_iff_toInt_lt, Int64.lt_iff_toInt_lt, s3, s4, d1]
  exact fin
theorem own_pA {now wd : Int64} (h1 : 0 ≤ now.toInt) (h2 : 1 ≤ wd.toInt) (h : (((9223372036854775807 : Int64) - (now - (now % wd))) - wd) < wd) : ¬ ((now / wd) < (((9223372036854775807 : Int64) / wd) - (1 : Int64))) := (own_p h1 h2).mp h
theorem own_pB {now wd : Int64} (h1 : 0 ≤ now.toInt) (h2 : 1 ≤ wd.toInt) (h : ¬ ((((9223372036854775807 : Int64) - (now - (now % wd))) - wd) < wd)) : (now / wd) < (((9223372036854775807 : Int64) / wd) - (1 : Int64)) := Decidable.byContradiction fun q => h ((own_p h1 h2).mpr q)
theorem own_ss (x a : Int64) : x - (x - a) = a := by
  rw [← Int64.toInt_inj]
  have a1 := c_lsub x a; have a2 := c_lsub x (x - a); have r := rng64 (x - (x - a)); have r2 := rng64 a
  omega
theorem own_eq (now wd : Int64) : (((now / wd) + (1 : Int64)) * wd) = ((now - (now % wd)) + wd) := by
  rw [← lrem_mod now wd, own_ss, Int64.add_mul, Int64.one_mul]
theorem ef_MaxJ (m : MethodId) (x0 : Int64) (x1 : Int64) : entryFrame m #[(.long x0), (.long x1)] 4 = mkF m 0 #[.val (.long x0), .second, .val (.long x1), .second] [] := by first | (simp [entryFrame, mkF, argsToLocals, Value.category]; done) | rfl
theorem dd_jdk_29_method_66_code_0 : decode jdk_29_method_66_code 0 = .ok (.lload_n 0, 1) := by decide +kernel
theorem dd_jdk_29_method_66_code_1 : decode jdk_29_method_66_code 1 = .ok (.lload_n 2, 1) := by decide +kernel
theorem dd_jdk_29_method_66_code_2 : decode jdk_29_method_66_code 2 = .ok (.lcmp, 1) := by decide +kernel
theorem dd_jdk_29_method_66_code_3 : decode jdk_29_method_66_code 3 = .ok (.ifCond .lt 7, 3) := by decide +kernel
theorem dd_jdk_29_method_66_code_10 : decode jdk_29_method_66_code 10 = .ok (.lload_n 2, 1) := by decide +kernel
theorem dd_jdk_29_method_66_code_11 : decode jdk_29_method_66_code 11 = .ok (.lreturn, 1) := by decide +kernel
theorem dd_jdk_29_method_66_code_6 : decode jdk_29_method_66_code 6 = .ok (.lload_n 0, 1) := by decide +kernel
theorem dd_jdk_29_method_66_code_7 : decode jdk_29_method_66_code 7 = .ok (.goto 4, 3) := by decide +kernel
def QMaxJ (Z : State) (x0 : Int64) (x1 : Int64) (h0 : Heap) (n0 : Nat) (v : Option Value) (h : Heap) (L : List Loc) : Prop := v = some (.long (own_maxL x0 x1)) ∧ Fr n0 L ∧ h = h0
set_option maxRecDepth 65536 in
set_option maxHeartbeats 40000000 in
theorem rmMaxJ (l : Launch) (Z : State) (a0 : Array Value) (hw : ∀ d ∈ tables_1, d.before a0 Z = true) (ws : List Jvm.Cond) (x0 : Int64) (x1 : Int64) (h0 : Heap) (n0 : Nat) (Z0 : n0 ≤ h0.size) :
    MetFree l mn6 (head1 (Jvm.Cond.code mn6 jdk_29_method_66_code 4 (some .long) :: ws) ({ frames := 0, cells := 0, slots := 0, locals := 0 } : Room)) (fun a U => a = #[(.long x0), (.long x1)] ∧ Z.Warmed39 U.vm ∧ U.heap = h0) (fun _ _ _ _ _ => True) (fun _ U oc_ U' => ∃ v L, oc_ = .returned v ∧ QMaxJ Z x0 x1 h0 n0 v U'.heap L ∧ FrameEnd U oc_ U' L ({ frames := 0, cells := 0, slots := 0, locals := 0 } : Room).cells ({ frames := 0, cells := 0, slots := 0, locals := 0 } : Room).slots) := by
  refine MetFree.of_bodySF (Jvm.Free.JP.mathPlain rfl (by decide +kernel)) hisR ?_
  intro p e s m args below meth c s₁ Bd hml0 hP hK
  obtain ⟨rfl, hZ, hh⟩ := hP
  have hx := Bd.exec
  have hby := Bd.bytes
  have hml : c.maxLocals = 4 := hml0
  have hown : s.vm.findClass "java/lang/Math" = some m.cls := findClass_of_methodNamed Bd.named
  have hnm := (name_of_methodNamed Bd.named Bd.method).1
  have X0 : Stand p l e ({ frames := 0, cells := 0, slots := 0, locals := 0 } : Room) s m #[(.long x0), (.long x1)] below meth c s₁ [] 0 0 := Stand.of_body Bd
  have e0 : s₁.heap = h0 := by rw [← hh, Bd.state]; rfl
  have N0 := Fr.nil n0
  have pre0 : ∀ t, Steps p.tables e below (s₁.setTop (mkF m 0 #[.val (.long x0), .second, .val (.long x1), .second] [])) t → Steps p.tables e below (s₁.setTop (entryFrame m #[(.long x0), (.long x1)] 4)) t := fun t k => castTop (ef_MaxJ m x0 x1) k
  have k1 : ∀ t, Steps p.tables e below (s₁.setTop (mkF m 3 #[.val (.long x0), .second, .val (.long x1), .second] [(.int (lcmpW x0 x1))])) t → Steps p.tables e below (s₁.setTop (entryFrame m #[(.long x0), (.long x1)] 4)) t := by
    intro t kt
    refine pre0 t ?_
    show Steps p.tables e below (s₁.setTop (mkF m 0 #[.val (.long x0), .second, .val (.long x1), .second] [])) _
    refine XS.lloadN X0.here hx rfl (hb hby dd_jdk_29_method_66_code_0) rfl ?_
    refine XS.lloadN X0.here hx rfl (hb hby dd_jdk_29_method_66_code_1) rfl ?_
    show Steps p.tables e below (s₁.setTop (mkF m 2 #[.val (.long x0), .second, .val (.long x1), .second] [(.long x1), (.long x0)])) _
    refine XS.lcmp X0.here hx rfl (hb hby dd_jdk_29_method_66_code_2) rfl ?_
    exact kt
  by_cases hc2 : x0 < x1
  · skip
    obtain ⟨lfs, lhr, lhrun, lhended, lhW, lhsame⟩ := X0.leave (v := some (.long x1)) (fun h => by rw [Bd.returns] at h; cases h)
    refine ⟨_, _, k1 _ ?_, lhrun, lhended, _, _, rfl, ?_, ⟨_, rfl⟩, lhW, lhsame.mono (by decide) (by decide)⟩
    · skip
      show Steps p.tables e below (s₁.setTop (mkF m 3 #[.val (.long x0), .second, .val (.long x1), .second] [(.int (lcmpW x0 x1))])) _
      refine XS.ifYes X0.here hx rfl (pc0 := 3) (pc' := 10) rfl (hb hby dd_jdk_29_method_66_code_3) rfl ((if0 _ _).trans (tlt ((lw_lt x0 x1).mpr hc2)).1) (by decide) (by decide) ?_
      refine XS.lloadN X0.here hx rfl (hb hby dd_jdk_29_method_66_code_10) rfl ?_
      show Steps p.tables e below (s₁.setTop (mkF m 11 #[.val (.long x0), .second, .val (.long x1), .second] [(.long x1)])) _
      exact retOut X0 hx Bd.returns rfl (Or.inr (Or.inl ⟨rfl, rfl, _, rfl⟩)) (hb hby dd_jdk_29_method_66_code_11) lhr
    · skip
      show QMaxJ Z x0 x1 h0 n0 _ s₁.heap _
      rw [e0]
      refine ⟨?_, N0, rfl⟩
      simp [own_maxL, hc2]
  · skip
    obtain ⟨lfs, lhr, lhrun, lhended, lhW, lhsame⟩ := X0.leave (v := some (.long x0)) (fun h => by rw [Bd.returns] at h; cases h)
    refine ⟨_, _, k1 _ ?_, lhrun, lhended, _, _, rfl, ?_, ⟨_, rfl⟩, lhW, lhsame.mono (by decide) (by decide)⟩
    · skip
      show Steps p.tables e below (s₁.setTop (mkF m 3 #[.val (.long x0), .second, .val (.long x1), .second] [(.int (lcmpW x0 x1))])) _
      refine XS.ifNo X0.here hx rfl (hb hby dd_jdk_29_method_66_code_3) rfl ((if0 _ _).trans (flt (fun q => hc2 ((lw_lt x0 x1).mp q))).1) ?_
      refine XS.lloadN X0.here hx rfl (hb hby dd_jdk_29_method_66_code_6) rfl ?_
      show Steps p.tables e below (s₁.setTop (mkF m 7 #[.val (.long x0), .second, .val (.long x1), .second] [(.long x0)])) _
      refine XS.goto X0.here hx rfl (pc0 := 7) (pc' := 11) rfl (hb hby dd_jdk_29_method_66_code_7) (by decide) (by decide) ?_
      show Steps p.tables e below (s₁.setTop (mkF m 11 #[.val (.long x0), .second, .val (.long x1), .second] [(.long x0)])) _
      exact retOut X0 hx Bd.returns rfl (Or.inr (Or.inl ⟨rfl, rfl, _, rfl⟩)) (hb hby dd_jdk_29_method_66_code_11) lhr
    · skip
      show QMaxJ Z x0 x1 h0 n0 _ s₁.heap _
      rw [e0]
      refine ⟨?_, N0, rfl⟩
      simp [own_maxL, hc2]
theorem ef_MinJ (m : MethodId) (x0 : Int64) (x1 : Int64) : entryFrame m #[(.long x0), (.long x1)] 4 = mkF m 0 #[.val (.long x0), .second, .val (.long x1), .second] [] := by first | (simp [entryFrame, mkF, argsToLocals, Value.category]; done) | rfl
theorem dd_jdk_29_method_70_code_0 : decode jdk_29_method_70_code 0 = .ok (.lload_n 0, 1) := by decide +kernel
theorem dd_jdk_29_method_70_code_1 : decode jdk_29_method_70_code 1 = .ok (.lload_n 2, 1) := by decide +kernel
theorem dd_jdk_29_method_70_code_2 : decode jdk_29_method_70_code 2 = .ok (.lcmp, 1) := by decide +kernel
theorem dd_jdk_29_method_70_code_3 : decode jdk_29_method_70_code 3 = .ok (.ifCond .gt 7, 3) := by decide +kernel
theorem dd_jdk_29_method_70_code_10 : decode jdk_29_method_70_code 10 = .ok (.lload_n 2, 1) := by decide +kernel
theorem dd_jdk_29_method_70_code_11 : decode jdk_29_method_70_code 11 = .ok (.lreturn, 1) := by decide +kernel
theorem dd_jdk_29_method_70_code_6 : decode jdk_29_method_70_code 6 = .ok (.lload_n 0, 1) := by decide +kernel
theorem dd_jdk_29_method_70_code_7 : decode jdk_29_method_70_code 7 = .ok (.goto 4, 3) := by decide +kernel
def QMinJ (Z : State) (x0 : Int64) (x1 : Int64) (h0 : Heap) (n0 : Nat) (v : Option Value) (h : Heap) (L : List Loc) : Prop := v = some (.long (own_minL x0 x1)) ∧ Fr n0 L ∧ h = h0
set_option maxRecDepth 65536 in
set_option maxHeartbeats 40000000 in
theorem rmMinJ (l : Launch) (Z : State) (a0 : Array Value) (hw : ∀ d ∈ tables_1, d.before a0 Z = true) (ws : List Jvm.Cond) (x0 : Int64) (x1 : Int64) (h0 : Heap) (n0 : Nat) (Z0 : n0 ≤ h0.size) :
    MetFree l mn7 (head1 (Jvm.Cond.code mn7 jdk_29_method_70_code 4 (some .long) :: ws) ({ frames := 0, cells := 0, slots := 0, locals := 0 } : Room)) (fun a U => a = #[(.long x0), (.long x1)] ∧ Z.Warmed39 U.vm ∧ U.heap = h0) (fun _ _ _ _ _ => True) (fun _ U oc_ U' => ∃ v L, oc_ = .returned v ∧ QMinJ Z x0 x1 h0 n0 v U'.heap L ∧ FrameEnd U oc_ U' L ({ frames := 0, cells := 0, slots := 0, locals := 0 } : Room).cells ({ frames := 0, cells := 0, slots := 0, locals := 0 } : Room).slots) := by
  refine MetFree.of_bodySF (Jvm.Free.JP.mathPlain rfl (by decide +kernel)) hisR ?_
  intro p e s m args below meth c s₁ Bd hml0 hP hK
  obtain ⟨rfl, hZ, hh⟩ := hP
  have hx := Bd.exec
  have hby := Bd.bytes
  have hml : c.maxLocals = 4 := hml0
  have hown : s.vm.findClass "java/lang/Math" = some m.cls := findClass_of_methodNamed Bd.named
  have hnm := (name_of_methodNamed Bd.named Bd.method).1
  have X0 : Stand p l e ({ frames := 0, cells := 0, slots := 0, locals := 0 } : Room) s m #[(.long x0), (.long x1)] below meth c s₁ [] 0 0 := Stand.of_body Bd
  have e0 : s₁.heap = h0 := by rw [← hh, Bd.state]; rfl
  have N0 := Fr.nil n0
  have pre0 : ∀ t, Steps p.tables e below (s₁.setTop (mkF m 0 #[.val (.long x0), .second, .val (.long x1), .second] [])) t → Steps p.tables e below (s₁.setTop (entryFrame m #[(.long x0), (.long x1)] 4)) t := fun t k => castTop (ef_MinJ m x0 x1) k
  have k1 : ∀ t, Steps p.tables e below (s₁.setTop (mkF m 3 #[.val (.long x0), .second, .val (.long x1), .second] [(.int (lcmpW x0 x1))])) t → Steps p.tables e below (s₁.setTop (entryFrame m #[(.long x0), (.long x1)] 4)) t := by
    intro t kt
    refine pre0 t ?_
    show Steps p.tables e below (s₁.setTop (mkF m 0 #[.val (.long x0), .second, .val (.long x1), .second] [])) _
    refine XS.lloadN X0.here hx rfl (hb hby dd_jdk_29_method_70_code_0) rfl ?_
    refine XS.lloadN X0.here hx rfl (hb hby dd_jdk_29_method_70_code_1) rfl ?_
    show Steps p.tables e below (s₁.setTop (mkF m 2 #[.val (.long x0), .second, .val (.long x1), .second] [(.long x1), (.long x0)])) _
    refine XS.lcmp X0.here hx rfl (hb hby dd_jdk_29_method_70_code_2) rfl ?_
    exact kt
  by_cases hc2 : x1 < x0
  · skip
    obtain ⟨lfs, lhr, lhrun, lhended, lhW, lhsame⟩ := X0.leave (v := some (.long x1)) (fun h => by rw [Bd.returns] at h; cases h)
    refine ⟨_, _, k1 _ ?_, lhrun, lhended, _, _, rfl, ?_, ⟨_, rfl⟩, lhW, lhsame.mono (by decide) (by decide)⟩
    · skip
      show Steps p.tables e below (s₁.setTop (mkF m 3 #[.val (.long x0), .second, .val (.long x1), .second] [(.int (lcmpW x0 x1))])) _
      refine XS.ifYes X0.here hx rfl (pc0 := 3) (pc' := 10) rfl (hb hby dd_jdk_29_method_70_code_3) rfl ((if0 _ _).trans (tlt ((lw_gt x0 x1).mpr hc2)).2.2.1) (by decide) (by decide) ?_
      refine XS.lloadN X0.here hx rfl (hb hby dd_jdk_29_method_70_code_10) rfl ?_
      show Steps p.tables e below (s₁.setTop (mkF m 11 #[.val (.long x0), .second, .val (.long x1), .second] [(.long x1)])) _
      exact retOut X0 hx Bd.returns rfl (Or.inr (Or.inl ⟨rfl, rfl, _, rfl⟩)) (hb hby dd_jdk_29_method_70_code_11) lhr
    · skip
      show QMinJ Z x0 x1 h0 n0 _ s₁.heap _
      rw [e0]
      refine ⟨?_, N0, rfl⟩
      simp [own_minL, hc2]
  · skip
    obtain ⟨lfs, lhr, lhrun, lhended, lhW, lhsame⟩ := X0.leave (v := some (.long x0)) (fun h => by rw [Bd.returns] at h; cases h)
    refine ⟨_, _, k1 _ ?_, lhrun, lhended, _, _, rfl, ?_, ⟨_, rfl⟩, lhW, lhsame.mono (by decide) (by decide)⟩
    · skip
      show Steps p.tables e below (s₁.setTop (mkF m 3 #[.val (.long x0), .second, .val (.long x1), .second] [(.int (lcmpW x0 x1))])) _
      refine XS.ifNo X0.here hx rfl (hb hby dd_jdk_29_method_70_code_3) rfl ((if0 _ _).trans (flt (fun q => hc2 ((lw_gt x0 x1).mp q))).2.2.1) ?_
      refine XS.lloadN X0.here hx rfl (hb hby dd_jdk_29_method_70_code_6) rfl ?_
      show Steps p.tables e below (s₁.setTop (mkF m 7 #[.val (.long x0), .second, .val (.long x1), .second] [(.long x0)])) _
      refine XS.goto X0.here hx rfl (pc0 := 7) (pc' := 11) rfl (hb hby dd_jdk_29_method_70_code_7) (by decide) (by decide) ?_
      show Steps p.tables e below (s₁.setTop (mkF m 11 #[.val (.long x0), .second, .val (.long x1), .second] [(.long x0)])) _
      exact retOut X0 hx Bd.returns rfl (Or.inr (Or.inl ⟨rfl, rfl, _, rfl⟩)) (hb hby dd_jdk_29_method_70_code_11) lhr
    · skip
      show QMinJ Z x0 x1 h0 n0 _ s₁.heap _
      rw [e0]
      refine ⟨?_, N0, rfl⟩
      simp [own_minL, hc2]
theorem efa_prog_49_method_1_code_vv (m : MethodId) (x0 : Addr) (x1 : Int64) : entryFrame m #[(.ref x0), (.long x1)] 4 = mkF m 0 #[.val (.ref x0), .val (.long x1), .second, .unset] [] := by first | (simp [entryFrame, mkF, argsToLocals, Value.category]; done) | rfl
theorem dd_prog_49_method_1_code_0 : decode prog_49_method_1_code 0 = .ok (.aload_n 0, 1) := by decide +kernel
theorem dd_prog_49_method_1_code_1 : decode prog_49_method_1_code 1 = .ok (.invokespecial 1, 3) := by decide +kernel
theorem dd_prog_49_method_1_code_4 : decode prog_49_method_1_code 4 = .ok (.aload_n 0, 1) := by decide +kernel
theorem dd_prog_49_method_1_code_5 : decode prog_49_method_1_code 5 = .ok (.new 7, 3) := by decide +kernel
theorem dd_prog_49_method_1_code_8 : decode prog_49_method_1_code 8 = .ok (.dup, 1) := by decide +kernel
theorem dd_prog_49_method_1_code_9 : decode prog_49_method_1_code 9 = .ok (.invokespecial 9, 3) := by decide +kernel
theorem efa_jdk_2809_method_2_code_v (m : MethodId) (x0 : Addr) : entryFrame m #[(.ref x0)] 1 = mkF m 0 #[.val (.ref x0)] [] := by first | (simp [entryFrame, mkF, argsToLocals, Value.category]; done) | rfl
theorem dd_jdk_2809_method_2_code_0 : decode jdk_2809_method_2_code 0 = .ok (.aload_n 0, 1) := by decide +kernel
theorem dd_jdk_2809_method_2_code_1 : decode jdk_2809_method_2_code 1 = .ok (.invokespecial 1, 3) := by decide +kernel
theorem dd_jdk_2809_method_2_code_4 : decode jdk_2809_method_2_code 4 = .ok (.return_, 1) := by decide +kernel
def QA2 (Z : State) (o0 : Addr) (h0 : Heap) (n0 : Nat) (v : Option Value) (h : Heap) (L : List Loc) : Prop := v = none ∧ Fr n0 L ∧ h = h0
set_option maxRecDepth 65536 in
set_option maxHeartbeats 40000000 in
theorem rmA2 (l : Launch) (Z : State) (a0 : Array Value) (hw : ∀ d ∈ tables_1, d.before a0 Z = true) (ws : List Jvm.Cond) (o0 : Addr) (h0 : Heap) (n0 : Nat) (Z0 : n0 ≤ h0.size) :
    MetFree l mn10 (head1 (Jvm.Cond.code mn10 jdk_2809_method_2_code 1 none :: ws) ({ frames := 1, cells := 0, slots := 0, locals := 12 } : Room)) (fun a U => a = #[(.ref o0)] ∧ Z.Warmed39 U.vm ∧ U.heap = h0) (fun _ _ _ _ _ => True) (fun _ U oc_ U' => ∃ v L, oc_ = .returned v ∧ QA2 Z o0 h0 n0 v U'.heap L ∧ FrameEnd U oc_ U' L ({ frames := 1, cells := 0, slots := 0, locals := 12 } : Room).cells ({ frames := 1, cells := 0, slots := 0, locals := 12 } : Room).slots) := by
  refine MetFree.of_bodySF (plainFor_of_name pn_java_util_concurrent_atomic_AtomicReference) hisR ?_
  intro p e s m args below meth c s₁ Bd hml0 hP hK
  obtain ⟨rfl, hZ, hh⟩ := hP
  have hx := Bd.exec
  have hby := Bd.bytes
  have hml : c.maxLocals = 1 := hml0
  have hown : s.vm.findClass cn8 = some m.cls := findClass_of_methodNamed Bd.named
  have hnm := (name_of_methodNamed Bd.named Bd.method).1
  have X0 : Stand p l e ({ frames := 1, cells := 0, slots := 0, locals := 12 } : Room) s m #[(.ref o0)] below meth c s₁ [] 0 0 := Stand.of_body Bd
  have e0 : s₁.heap = h0 := by rw [← hh, Bd.state]; rfl
  have N0 := Fr.nil n0
  have pre0 : ∀ t, Steps p.tables e below (s₁.setTop (mkF m 0 #[.val (.ref o0)] [])) t → Steps p.tables e below (s₁.setTop (entryFrame m #[(.ref o0)] 1)) t := fun t k => castTop (efa_jdk_2809_method_2_code_v m o0) k
  obtain ⟨T1, X1, e1, st1⟩ := initO X0 hx hZ hown (wd24 hw) (wd16 hw) (wd17 hw) e0 (g := (mkF m 1 #[.val (.ref o0)] [(.ref o0)])) rfl (by rw [hml]; rfl) rfl (hb hby dd_jdk_2809_method_2_code_1) (by decide) (W := 0) (by show 2 * 0 + _ ≤ _; exact Nat.le_of_eq rfl) (by decide)
  obtain ⟨lfs, lhr, lhrun, lhended, lhW, lhsame⟩ := X1.leave (v := none) (fun _ => rfl)
  refine ⟨_, _, pre0 _ ?_, lhrun, lhended, _, _, rfl, ?_, ⟨_, rfl⟩, lhW, lhsame.mono (by decide) (by decide)⟩
  · skip
    show Steps p.tables e below (s₁.setTop (mkF m 0 #[.val (.ref o0)] [])) _
    refine XS.aloadN X0.here hx rfl (hb hby dd_jdk_2809_method_2_code_0) rfl rfl ?_
    show Steps p.tables e below (s₁.setTop (mkF m 1 #[.val (.ref o0)] [(.ref o0)])) _
    refine st1 _ ?_
    show Steps p.tables e below (T1.setTop (mkF m 4 #[.val (.ref o0)] [])) _
    exact X1.returnOut hx Bd.returns (hb hby dd_jdk_2809_method_2_code_4) lhr
  · skip
    show QA2 Z o0 h0 n0 _ T1.heap _
    rw [e1]
    exact ⟨rfl, N0, rfl⟩
theorem dd_prog_49_method_1_code_12 : decode prog_49_method_1_code 12 = .ok (.putfield 10, 3) := by decide +kernel
theorem dd_prog_49_method_1_code_15 : decode prog_49_method_1_code 15 = .ok (.aload_n 0, 1) := by decide +kernel
theorem dd_prog_49_method_1_code_16 : decode prog_49_method_1_code 16 = .ok (.bipush 8, 2) := by decide +kernel
theorem dd_prog_49_method_1_code_18 : decode prog_49_method_1_code 18 = .ok (.anewarray 16, 3) := by decide +kernel
theorem dd_prog_49_method_1_code_21 : decode prog_49_method_1_code 21 = .ok (.putfield 18, 3) := by decide +kernel
theorem dd_prog_49_method_1_code_24 : decode prog_49_method_1_code 24 = .ok (.aload_n 0, 1) := by decide +kernel
theorem dd_prog_49_method_1_code_25 : decode prog_49_method_1_code 25 = .ok (.bipush 8, 2) := by decide +kernel
theorem dd_prog_49_method_1_code_27 : decode prog_49_method_1_code 27 = .ok (.newarray .int, 2) := by decide +kernel
theorem dd_prog_49_method_1_code_29 : decode prog_49_method_1_code 29 = .ok (.putfield 22, 3) := by decide +kernel
theorem dd_prog_49_method_1_code_32 : decode prog_49_method_1_code 32 = .ok (.aload_n 0, 1) := by decide +kernel
theorem dd_prog_49_method_1_code_33 : decode prog_49_method_1_code 33 = .ok (.bipush 16, 2) := by decide +kernel
theorem dd_prog_49_method_1_code_35 : decode prog_49_method_1_code 35 = .ok (.anewarray 26, 3) := by decide +kernel
theorem dd_prog_49_method_1_code_38 : decode prog_49_method_1_code 38 = .ok (.putfield 28, 3) := by decide +kernel
theorem dd_prog_49_method_1_code_41 : decode prog_49_method_1_code 41 = .ok (.aload_n 0, 1) := by decide +kernel
theorem dd_prog_49_method_1_code_42 : decode prog_49_method_1_code 42 = .ok (.lload_n 1, 1) := by decide +kernel
theorem dd_prog_49_method_1_code_43 : decode prog_49_method_1_code 43 = .ok (.putfield 31, 3) := by decide +kernel
theorem dd_prog_49_method_1_code_46 : decode prog_49_method_1_code 46 = .ok (.iconst 0, 1) := by decide +kernel
theorem dd_prog_49_method_1_code_47 : decode prog_49_method_1_code 47 = .ok (.istore_n 3, 1) := by decide +kernel
theorem dd_prog_49_method_1_code_48 : decode prog_49_method_1_code 48 = .ok (.iload_n 3, 1) := by decide +kernel
theorem dd_prog_49_method_1_code_49 : decode prog_49_method_1_code 49 = .ok (.bipush 8, 2) := by decide +kernel
theorem dd_prog_49_method_1_code_51 : decode prog_49_method_1_code 51 = .ok (.if_icmp .ge 20, 3) := by decide +kernel
theorem dd_prog_49_method_1_code_54 : decode prog_49_method_1_code 54 = .ok (.aload_n 0, 1) := by decide +kernel
theorem dd_prog_49_method_1_code_55 : decode prog_49_method_1_code 55 = .ok (.getfield 18, 3) := by decide +kernel
theorem dd_prog_49_method_1_code_58 : decode prog_49_method_1_code 58 = .ok (.iload_n 3, 1) := by decide +kernel
theorem dd_prog_49_method_1_code_59 : decode prog_49_method_1_code 59 = .ok (.bipush 16, 2) := by decide +kernel
theorem dd_prog_49_method_1_code_61 : decode prog_49_method_1_code 61 = .ok (.anewarray 26, 3) := by decide +kernel
theorem dd_prog_49_method_1_code_64 : decode prog_49_method_1_code 64 = .ok (.aastore, 1) := by decide +kernel
theorem dd_prog_49_method_1_code_65 : decode prog_49_method_1_code 65 = .ok (.iinc 3 1, 3) := by decide +kernel
theorem dd_prog_49_method_1_code_68 : decode prog_49_method_1_code 68 = .ok (.goto (-20), 3) := by decide +kernel
theorem dd_prog_49_method_1_code_71 : decode prog_49_method_1_code 71 = .ok (.return_, 1) := by decide +kernel
def QA1 (Z : State) (o0 : Addr) (y1 : Int64) (u100 : Value) (u101 : Value) (u102 : Value) (u103 : Value) (h0 : Heap) (n0 : Nat) (v : Option Value) (h : Heap) (L : List Loc) : Prop := ∃ (b2 : Addr) (b9 : Addr) (b16 : Addr) (b24 : Addr) (b38 : Addr) (b50 : Addr) (b63 : Addr) (b77 : Addr) (b92 : Addr) (b108 : Addr) (b125 : Addr) (b143 : Addr) (kk_b9 : ClassId) (kk_b16 : ClassId) (kk_b24 : ClassId) (kk_b38 : ClassId) (kk_b50 : ClassId) (kk_b63 : ClassId) (kk_b77 : ClassId) (kk_b92 : ClassId) (kk_b108 : ClassId) (kk_b125 : ClassId) (kk_b143 : ClassId), v = none ∧ Fr n0 L ∧ Keep h0 h [o0] ∧ h0.size ≤ b2 ∧ h0.size ≤ b9 ∧ h0.size ≤ b16 ∧ h0.size ≤ b24 ∧ h0.size ≤ b38 ∧ h0.size ≤ b50 ∧ h0.size ≤ b63 ∧ h0.size ≤ b77 ∧ h0.size ≤ b92 ∧ h0.size ≤ b108 ∧ h0.size ≤ b125 ∧ h0.size ≤ b143 ∧ b2 ≠ b9 ∧ b2 ≠ b16 ∧ b2 ≠ b24 ∧ b2 ≠ b38 ∧ b2 ≠ b50 ∧ b2 ≠ b63 ∧ b2 ≠ b77 ∧ b2 ≠ b92 ∧ b2 ≠ b108 ∧ b2 ≠ b125 ∧ b2 ≠ b143 ∧ b9 ≠ b16 ∧ b9 ≠ b24 ∧ b9 ≠ b38 ∧ b9 ≠ b50 ∧ b9 ≠ b63 ∧ b9 ≠ b77 ∧ b9 ≠ b92 ∧ b9 ≠ b108 ∧ b9 ≠ b125 ∧ b9 ≠ b143 ∧ b16 ≠ b24 ∧ b16 ≠ b38 ∧ b16 ≠ b50 ∧ b16 ≠ b63 ∧ b16 ≠ b77 ∧ b16 ≠ b92 ∧ b16 ≠ b108 ∧ b16 ≠ b125 ∧ b16 ≠ b143 ∧ b24 ≠ b38 ∧ b24 ≠ b50 ∧ b24 ≠ b63 ∧ b24 ≠ b77 ∧ b24 ≠ b92 ∧ b24 ≠ b108 ∧ b24 ≠ b125 ∧ b24 ≠ b143 ∧ b38 ≠ b50 ∧ b38 ≠ b63 ∧ b38 ≠ b77 ∧ b38 ≠ b92 ∧ b38 ≠ b108 ∧ b38 ≠ b125 ∧ b38 ≠ b143 ∧ b50 ≠ b63 ∧ b50 ≠ b77 ∧ b50 ≠ b92 ∧ b50 ≠ b108 ∧ b50 ≠ b125 ∧ b50 ≠ b143 ∧ b63 ≠ b77 ∧ b63 ≠ b92 ∧ b63 ≠ b108 ∧ b63 ≠ b125 ∧ b63 ≠ b143 ∧ b77 ≠ b92 ∧ b77 ≠ b108 ∧ b77 ≠ b125 ∧ b77 ≠ b143 ∧ b92 ≠ b108 ∧ b92 ≠ b125 ∧ b92 ≠ b143 ∧ b108 ≠ b125 ∧ b108 ≠ b143 ∧ b125 ≠ b143 ∧ Exa Z h b2 cn8 ∧ Exa Z h o0 cn2 ∧ Fld Z h o0 cn2 "handedIn" cn7 (.ref b2) ∧ Arv Z h b9 kk_b9 (.array (.object cn6)) (8 : Int32) [(.ref b38), (.ref b50), (.ref b63), (.ref b77), (.ref b92), (.ref b108), (.ref b125), (.ref b143)] .null ∧ Exa Z h b9 cn4 ∧ OvrA Z kk_b9 (.object cn6) cn5 ∧ Fld Z h o0 cn2 "kept" cn4 (.ref b9) ∧ Arv Z h b16 kk_b16 .int (8 : Int32) [(.int (0 : Int32)), (.int (0 : Int32)), (.int (0 : Int32)), (.int (0 : Int32)), (.int (0 : Int32)), (.int (0 : Int32)), (.int (0 : Int32)), (.int (0 : Int32))] (.int (0 : Int32)) ∧ Fld Z h o0 cn2 "sizes" "[I" (.ref b16) ∧ Arv Z h b24 kk_b24 (.object cn6) (16 : Int32) [] .null ∧ Exa Z h b24 cn5 ∧ Ovr Z kk_b24 cn6 ∧ Fld Z h o0 cn2 "taken" cn5 (.ref b24) ∧ Fld Z h o0 cn2 "width" "J" (.long y1) ∧ Arv Z h b38 kk_b38 (.object cn6) (16 : Int32) [] .null ∧ Exa Z h b38 cn5 ∧ Ovr Z kk_b38 cn6 ∧ Arv Z h b50 kk_b50 (.object cn6) (16 : Int32) [] .null ∧ Exa Z h b50 cn5 ∧ Ovr Z kk_b50 cn6 ∧ Arv Z h b63 kk_b63 (.object cn6) (16 : Int32) [] .null ∧ Exa Z h b63 cn5 ∧ Ovr Z kk_b63 cn6 ∧ Arv Z h b77 kk_b77 (.object cn6) (16 : Int32) [] .null ∧ Exa Z h b77 cn5 ∧ Ovr Z kk_b77 cn6 ∧ Arv Z h b92 kk_b92 (.object cn6) (16 : Int32) [] .null ∧ Exa Z h b92 cn5 ∧ Ovr Z kk_b92 cn6 ∧ Arv Z h b108 kk_b108 (.object cn6) (16 : Int32) [] .null ∧ Exa Z h b108 cn5 ∧ Ovr Z kk_b108 cn6 ∧ Arv Z h b125 kk_b125 (.object cn6) (16 : Int32) [] .null ∧ Exa Z h b125 cn5 ∧ Ovr Z kk_b125 cn6 ∧ Arv Z h b143 kk_b143 (.object cn6) (16 : Int32) [] .null ∧ Exa Z h b143 cn5 ∧ Ovr Z kk_b143 cn6 ∧ Fld Z h o0 cn2 "handed" "I" u100 ∧ Fld Z h o0 cn2 "takenSize" "I" u101 ∧ Fld Z h o0 cn2 "total" "I" u102 ∧ Fld Z h o0 cn2 "next" "J" u103
set_option maxRecDepth 65536 in
set_option maxHeartbeats 40000000 in
theorem rmA1 (l : Launch) (Z : State) (a0 : Array Value) (hw : ∀ d ∈ tables_1, d.before a0 Z = true) (ws : List Jvm.Cond) (o0 : Addr) (y1 : Int64) (u100 : Value) (u101 : Value) (u102 : Value) (u103 : Value) (h0 : Heap) (n0 : Nat) (Z0 : n0 ≤ h0.size) (E_o0 : Exa Z h0 o0 cn2) (F_o0_handedIn : Fld Z h0 o0 cn2 "handedIn" cn7 .null) (g_o0 : n0 ≤ o0) (F_o0_kept : Fld Z h0 o0 cn2 "kept" cn4 .null) (F_o0_sizes : Fld Z h0 o0 cn2 "sizes" "[I" .null) (F_o0_taken : Fld Z h0 o0 cn2 "taken" cn5 .null) (F_o0_width : Fld Z h0 o0 cn2 "width" "J" (.long (0 : Int64))) (F_o0_handed : Fld Z h0 o0 cn2 "handed" "I" u100) (F_o0_takenSize : Fld Z h0 o0 cn2 "takenSize" "I" u101) (F_o0_total : Fld Z h0 o0 cn2 "total" "I" u102) (F_o0_next : Fld Z h0 o0 cn2 "next" "J" u103) :
    MetFree l mn0 (head1 (Jvm.Cond.code mn0 prog_49_method_1_code 4 none :: ws) ({ frames := 2, cells := 12, slots := 161, locals := 26 } : Room)) (fun a U => a = #[(.ref o0), (.long y1)] ∧ Z.Warmed39 U.vm ∧ U.heap = h0) (fun _ _ _ _ _ => True) (fun _ U oc_ U' => ∃ v L, oc_ = .returned v ∧ QA1 Z o0 y1 u100 u101 u102 u103 h0 n0 v U'.heap L ∧ FrameEnd U oc_ U' L ({ frames := 2, cells := 12, slots := 161, locals := 26 } : Room).cells ({ frames := 2, cells := 12, slots := 161, locals := 26 } : Room).slots) := by
  refine MetFree.of_bodySF (plainFor_of_name pn_com_example_strict_limiter_strictlimiter_SweepSchedule) hisR ?_
  intro p e s m args below meth c s₁ Bd hml0 hP hK
  obtain ⟨rfl, hZ, hh⟩ := hP
  have hx := Bd.exec
  have hby := Bd.bytes
  have hml : c.maxLocals = 4 := hml0
  have hown : s.vm.findClass cn2 = some m.cls := findClass_of_methodNamed Bd.named
  have hnm := (name_of_methodNamed Bd.named Bd.method).1
  have X0 : Stand p l e ({ frames := 2, cells := 12, slots := 161, locals := 26 } : Room) s m #[(.ref o0), (.long y1)] below meth c s₁ [] 0 0 := Stand.of_body Bd
  have e0 : s₁.heap = h0 := by rw [← hh, Bd.state]; rfl
  have N0 := Fr.nil n0
  have pre0 : ∀ t, Steps p.tables e below (s₁.setTop (mkF m 0 #[.val (.ref o0), .val (.long y1), .second, .unset] [])) t → Steps p.tables e below (s₁.setTop (entryFrame m #[(.ref o0), (.long y1)] 4)) t := fun t k => castTop (efa_prog_49_method_1_code_vv m o0 y1) k
  obtain ⟨T1, X1, e1, st1⟩ := initO X0 hx hZ hown (wd15 hw) (wd16 hw) (wd17 hw) e0 (g := (mkF m 1 #[.val (.ref o0), .val (.long y1), .second, .unset] [(.ref o0)])) rfl (by rw [hml]; rfl) rfl (hb hby dd_prog_49_method_1_code_1) (by decide) (W := 0) (by show 2 * 0 + _ ≤ _; exact Nat.le_of_eq rfl) (by decide)
  obtain ⟨T2, h2, X2, e2, E2, A2, D2, -, st2⟩ := newO X1 hx hZ hown (wd18 hw) (wd19 hw) (wd20 hw) e1 (g := (mkF m 5 #[.val (.ref o0), .val (.long y1), .second, .unset] [(.ref o0)])) rfl (hb hby dd_prog_49_method_1_code_5) (by decide) (by decide)
  obtain ⟨b2, g2⟩ : ∃ z, z = h0.size := ⟨_, rfl⟩
  rw [← g2] at A2 D2 st2
  have ge_b2 : n0 ≤ b2 := Nat.le_trans Z0 (Nat.le_of_eq g2.symm)
  have sz_b2 : h0.size ≤ b2 := Nat.le_trans (Nat.le_refl _) (Nat.le_of_eq g2.symm)
  have Z2 : n0 ≤ h2.size := Nat.le_trans Z0 E2.1
  have K2 : Keep h0 h2 [o0] := ((Keep.refl h0 [o0]).ext E2)
  obtain ⟨_, _, ⟨T3, L3, kc3, ks3⟩, -, X3, ⟨Lc3, hQ3, l3, y3, z3⟩, st3⟩ := X2.specialBack hx (y := mn10) rfl hown (mvT hZ (wd21 hw)) (mvT hZ (wd22 hw)) (mvT hZ (wd23 hw)) (by decide) (backOf (W := 2) (rmA2 l Z a0 hw [] b2 h2 n0 Z2 ) hZ (wd23 hw) (wd20 hw) (by decide) (by decide)) (g := (mkF m 9 #[.val (.ref o0), .val (.long y1), .second, .unset] [(.ref b2), (.ref b2), (.ref o0)])) rfl (by rw [hml]; rfl) (Steps.refl _) (a := b2) (argsL := []) (rest := [(.ref b2), (.ref o0)]) (lenOf pd___V rfl) rfl (by show 2 * 0 + _ ≤ _; exact Nat.le_of_eq rfl) (hb hby dd_prog_49_method_1_code_9) (fun _ _ => ⟨rfl, e2, (by decide : 1 + 0 ≤ _), (by decide : 1 + 0 ≤ _)⟩)
  dsimp only [Pt.U, Pt.locs, Pt.cells, Pt.slots] at X3 l3 y3 z3 st3 hQ3
  subst l3 y3 z3
  obtain ⟨rfl, Nq3, eq3⟩ := hQ3
  have N3 := Fr.app N0 Nq3
  have f4 := (E_o0.ext E2)
  have f5 := (F_o0_handedIn.ext E2)
  obtain ⟨T6, h6, X6, e6, W6, st6⟩ := putF X3 hx hZ hown (host := "") (Or.inl (wd25 hw)) Via.refl eq3 f5 f4 (Or.inr ⟨(wd26 hw), rfl, hnm⟩) (wd10 hw) (ty := (.object cn8)) (by decide) rfl rfl (g := (mkF m 12 #[.val (.ref o0), .val (.long y1), .second, .unset] [(.ref b2), (.ref o0)])) rfl rfl (hb hby dd_prog_49_method_1_code_12)
  have N6 := Fr.snoc X6 N3 g_o0
  have Z6 : n0 ≤ h6.size := by rw [W6.size]; exact Z2
  have K6 : Keep h0 h6 [o0] := (K2.wr W6 (Or.inl (List.mem_of_getElem? (i := 0) rfl)))
  have Fw6 := f5.same W6
  have f7 := (A2.wr W6)
  have f8 := (f4.wr W6)
  obtain ⟨T9, h9, kk9, X9, e9, E9, A9, Ex9, OV9, st9⟩ := newRA X6 hx hZ hown (ty := (.object cn6)) (by first | rfl | decide +kernel) (wd27 hw) (wd28 hw) e6 (g := (mkF m 18 #[.val (.ref o0), .val (.long y1), .second, .unset] [(.int (8 : Int32)), (.ref o0)])) rfl (hb hby dd_prog_49_method_1_code_18) rfl (by decide) (cap := 8) (by decide) (by decide) (by decide) (by decide) (ad := cn4) (by first | rfl | decide +kernel)
  obtain ⟨b9, g9⟩ : ∃ z, z = h6.size := ⟨_, rfl⟩
  rw [← g9] at A9 Ex9 st9
  have ne_b2_b9 : b2 ≠ b9 := Nat.ne_of_lt (Nat.lt_of_lt_of_le f7.lt (Nat.le_of_eq g9.symm))
  have ne_o0_b9 : o0 ≠ b9 := Nat.ne_of_lt (Nat.lt_of_lt_of_le f8.lt (Nat.le_of_eq g9.symm))
  have ge_b9 : n0 ≤ b9 := Nat.le_trans Z6 (Nat.le_of_eq g9.symm)
  have sz_b9 : h0.size ≤ b9 := Nat.le_trans K6.1 (Nat.le_of_eq g9.symm)
  have Z9 : n0 ≤ h9.size := Nat.le_trans Z6 E9.1
  have K9 : Keep h0 h9 [o0] := (K6.ext E9)
  have V9 : Arv Z h9 b9 kk9 (.array (.object cn6)) (8 : Int32) [.null, .null, .null, .null, .null, .null, .null, .null] .null := (Arv.new A9 (by decide)).pad (pad_rep [] .null 8)
  have f10 := (f8.ext E9)
  have f11 := (((F_o0_kept.ext E2).other W6 (Or.inr (slot_ne (Or.inr (wd30 hw)) (Or.inr (wd26 hw)) (by decide) (t := (.array (.array (.object cn6)))) (t' := (.object cn8)) (by decide) (by decide)))).ext E9)
  obtain ⟨T12, h12, X12, e12, W12, st12⟩ := putF X9 hx hZ hown (host := "") (Or.inl (wd29 hw)) Via.refl e9 f11 f10 (Or.inr ⟨(wd30 hw), rfl, hnm⟩) (wd10 hw) (ty := (.array (.array (.object cn6)))) (by decide) rfl rfl (g := (mkF m 21 #[.val (.ref o0), .val (.long y1), .second, .unset] [(.ref b9), (.ref o0)])) rfl rfl (hb hby dd_prog_49_method_1_code_21)
  have N12 := Fr.snoc X12 N6 g_o0
  have Z12 : n0 ≤ h12.size := by rw [W12.size]; exact Z9
  have K12 : Keep h0 h12 [o0] := (K9.wr W12 (Or.inl (List.mem_of_getElem? (i := 0) rfl)))
  have Fw12 := f11.same W12
  have f13 := ((f7.ext E9).wr W12)
  have f14 := (f10.wr W12)
  have f15 := (V9.other W12 (Ne.symm ne_o0_b9))
  obtain ⟨T16, h16, kk16, X16, e16, E16, A16, st16⟩ := newP X12 hx hZ (aty := .int) (wd31 hw) e12 (g := (mkF m 27 #[.val (.ref o0), .val (.long y1), .second, .unset] [(.int (8 : Int32)), (.ref o0)])) rfl (hb hby dd_prog_49_method_1_code_27) rfl (by decide) (cap := 8) (by decide) (by decide) (by decide) (by decide)
  obtain ⟨b16, g16⟩ : ∃ z, z = h12.size := ⟨_, rfl⟩
  rw [← g16] at A16 st16
  have ne_b2_b16 : b2 ≠ b16 := Nat.ne_of_lt (Nat.lt_of_lt_of_le f13.lt (Nat.le_of_eq g16.symm))
  have ne_o0_b16 : o0 ≠ b16 := Nat.ne_of_lt (Nat.lt_of_lt_of_le f14.lt (Nat.le_of_eq g16.symm))
  have ne_b9_b16 : b9 ≠ b16 := Nat.ne_of_lt (Nat.lt_of_lt_of_le f15.lt (Nat.le_of_eq g16.symm))
  have ge_b16 : n0 ≤ b16 := Nat.le_trans Z12 (Nat.le_of_eq g16.symm)
  have sz_b16 : h0.size ≤ b16 := Nat.le_trans K12.1 (Nat.le_of_eq g16.symm)
  have Z16 : n0 ≤ h16.size := Nat.le_trans Z12 E16.1
  have K16 : Keep h0 h16 [o0] := (K12.ext E16)
  have V16 : Arv Z h16 b16 kk16 .int (8 : Int32) [(.int (0 : Int32)), (.int (0 : Int32)), (.int (0 : Int32)), (.int (0 : Int32)), (.int (0 : Int32)), (.int (0 : Int32)), (.int (0 : Int32)), (.int (0 : Int32))] (.int (0 : Int32)) := (Arv.new A16 (by decide)).pad (pad_rep [] (.int (0 : Int32)) 8)
  have f17 := (f14.ext E16)
  have f18 := (((((F_o0_sizes.ext E2).other W6 (Or.inr (slot_ne (Or.inr (wd33 hw)) (Or.inr (wd26 hw)) (by decide) (t := (.array .int)) (t' := (.object cn8)) (by decide) (by decide)))).ext E9).other W12 (Or.inr (slot_ne (Or.inr (wd33 hw)) (Or.inr (wd30 hw)) (by decide) (t := (.array .int)) (t' := (.array (.array (.object cn6)))) (by decide) (by decide)))).ext E16)
  obtain ⟨T19, h19, X19, e19, W19, st19⟩ := putF X16 hx hZ hown (host := "") (Or.inl (wd32 hw)) Via.refl e16 f18 f17 (Or.inr ⟨(wd33 hw), rfl, hnm⟩) (wd10 hw) (ty := (.array .int)) (by decide) rfl rfl (g := (mkF m 29 #[.val (.ref o0), .val (.long y1), .second, .unset] [(.ref b16), (.ref o0)])) rfl rfl (hb hby dd_prog_49_method_1_code_29)
  have N19 := Fr.snoc X19 N12 g_o0
  have Z19 : n0 ≤ h19.size := by rw [W19.size]; exact Z16
  have K19 : Keep h0 h19 [o0] := (K16.wr W19 (Or.inl (List.mem_of_getElem? (i := 0) rfl)))
  have Fw19 := f18.same W19
  have f20 := ((f13.ext E16).wr W19)
  have f21 := (f17.wr W19)
  have f22 := ((f15.ext E16).other W19 (Ne.symm ne_o0_b9))
  have f23 := (V16.other W19 (Ne.symm ne_o0_b16))
  obtain ⟨T24, h24, kk24, X24, e24, E24, A24, Ex24, OV24, st24⟩ := newRE X19 hx hZ hown (wd34 hw) (wd35 hw) e19 (g := (mkF m 35 #[.val (.ref o0), .val (.long y1), .second, .unset] [(.int (16 : Int32)), (.ref o0)])) rfl (hb hby dd_prog_49_method_1_code_35) rfl (by decide) (cap := 16) (by decide) (by decide) (by decide) (by decide) (ad := cn5) (by first | rfl | decide +kernel)
  obtain ⟨b24, g24⟩ : ∃ z, z = h19.size := ⟨_, rfl⟩
  rw [← g24] at A24 Ex24 st24
  have ne_b2_b24 : b2 ≠ b24 := Nat.ne_of_lt (Nat.lt_of_lt_of_le f20.lt (Nat.le_of_eq g24.symm))
  have ne_o0_b24 : o0 ≠ b24 := Nat.ne_of_lt (Nat.lt_of_lt_of_le f21.lt (Nat.le_of_eq g24.symm))
  have ne_b9_b24 : b9 ≠ b24 := Nat.ne_of_lt (Nat.lt_of_lt_of_le f22.lt (Nat.le_of_eq g24.symm))
  have ne_b16_b24 : b16 ≠ b24 := Nat.ne_of_lt (Nat.lt_of_lt_of_le f23.lt (Nat.le_of_eq g24.symm))
  have ge_b24 : n0 ≤ b24 := Nat.le_trans Z19 (Nat.le_of_eq g24.symm)
  have sz_b24 : h0.size ≤ b24 := Nat.le_trans K19.1 (Nat.le_of_eq g24.symm)
  have Z24 : n0 ≤ h24.size := Nat.le_trans Z19 E24.1
  have K24 : Keep h0 h24 [o0] := (K19.ext E24)
  have V24 : Arv Z h24 b24 kk24 (.object cn6) (16 : Int32) [] .null := (Arv.new A24 (by decide)).pad (pad_rep [] .null 0)
  have f25 := (f21.ext E24)
  have f26 := (((((((F_o0_taken.ext E2).other W6 (Or.inr (slot_ne (Or.inl (wd37 hw)) (Or.inr (wd26 hw)) (by decide) (t := (.array (.object cn6))) (t' := (.object cn8)) (by decide) (by decide)))).ext E9).other W12 (Or.inr (slot_ne (Or.inl (wd37 hw)) (Or.inr (wd30 hw)) (by decide) (t := (.array (.object cn6))) (t' := (.array (.array (.object cn6)))) (by decide) (by decide)))).ext E16).other W19 (Or.inr (slot_ne (Or.inl (wd37 hw)) (Or.inr (wd33 hw)) (by decide) (t := (.array (.object cn6))) (t' := (.array .int)) (by decide) (by decide)))).ext E24)
  obtain ⟨T27, h27, X27, e27, W27, st27⟩ := putF X24 hx hZ hown (host := "") (Or.inl (wd36 hw)) Via.refl e24 f26 f25 (Or.inl (wd37 hw)) (wd10 hw) (ty := (.array (.object cn6))) (by decide) rfl rfl (g := (mkF m 38 #[.val (.ref o0), .val (.long y1), .second, .unset] [(.ref b24), (.ref o0)])) rfl rfl (hb hby dd_prog_49_method_1_code_38)
  have N27 := Fr.snoc X27 N19 g_o0
  have Z27 : n0 ≤ h27.size := by rw [W27.size]; exact Z24
  have K27 : Keep h0 h27 [o0] := (K24.wr W27 (Or.inl (List.mem_of_getElem? (i := 0) rfl)))
  have Fw27 := f26.same W27
  have f28 := (f25.wr W27)
  have f29 := ((((((((F_o0_width.ext E2).other W6 (Or.inr (slot_ne (Or.inr (wd39 hw)) (Or.inr (wd26 hw)) (by decide) (t := .long) (t' := (.object cn8)) (by decide) (by decide)))).ext E9).other W12 (Or.inr (slot_ne (Or.inr (wd39 hw)) (Or.inr (wd30 hw)) (by decide) (t := .long) (t' := (.array (.array (.object cn6)))) (by decide) (by decide)))).ext E16).other W19 (Or.inr (slot_ne (Or.inr (wd39 hw)) (Or.inr (wd33 hw)) (by decide) (t := .long) (t' := (.array .int)) (by decide) (by decide)))).ext E24).other W27 (Or.inr (slot_ne (Or.inr (wd39 hw)) (Or.inl (wd37 hw)) (by decide) (t := .long) (t' := (.array (.object cn6))) (by decide) (by decide))))
  obtain ⟨T30, h30, X30, e30, W30, st30⟩ := putF X27 hx hZ hown (host := "") (Or.inl (wd38 hw)) Via.refl e27 f29 f28 (Or.inr ⟨(wd39 hw), rfl, hnm⟩) (wd10 hw) (ty := .long) (by decide) rfl rfl (g := (mkF m 43 #[.val (.ref o0), .val (.long y1), .second, .unset] [(.long y1), (.ref o0)])) rfl rfl (hb hby dd_prog_49_method_1_code_43)
  have N30 := Fr.snoc X30 N27 g_o0
  have Z30 : n0 ≤ h30.size := by rw [W30.size]; exact Z27
  have K30 : Keep h0 h30 [o0] := (K27.wr W30 (Or.inl (List.mem_of_getElem? (i := 0) rfl)))
  have Fw30 := f29.same W30
  have f31 := (((((Fw12.ext E16).other W19 (Or.inr (slot_ne (Or.inr (wd30 hw)) (Or.inr (wd33 hw)) (by decide) (t := (.array (.array (.object cn6)))) (t' := (.array .int)) (by decide) (by decide)))).ext E24).other W27 (Or.inr (slot_ne (Or.inr (wd30 hw)) (Or.inl (wd37 hw)) (by decide) (t := (.array (.array (.object cn6)))) (t' := (.array (.object cn6))) (by decide) (by decide)))).other W30 (Or.inr (slot_ne (Or.inr (wd30 hw)) (Or.inr (wd39 hw)) (by decide) (t := (.array (.array (.object cn6)))) (t' := .long) (by decide) (by decide))))
  obtain ⟨T32, X32, e32, st32⟩ := getF X30 hx hZ hown (host := "") (Or.inl (wd29 hw)) Via.refl e30 f31 (g := (mkF m 55 #[.val (.ref o0), .val (.long y1), .second, .val (.int (0 : Int32))] [(.ref o0)])) rfl rfl (hb hby dd_prog_49_method_1_code_55)
  have f33 := (((f20.ext E24).wr W27).wr W30)
  have f34 := (f28.wr W30)
  have f35 := (((f22.ext E24).other W27 (Ne.symm ne_o0_b9)).other W30 (Ne.symm ne_o0_b9))
  have f36 := (((f23.ext E24).other W27 (Ne.symm ne_o0_b16)).other W30 (Ne.symm ne_o0_b16))
  have f37 := ((V24.other W27 (Ne.symm ne_o0_b24)).other W30 (Ne.symm ne_o0_b24))
  obtain ⟨T38, h38, kk38, X38, e38, E38, A38, Ex38, OV38, st38⟩ := newRE X32 hx hZ hown (wd34 hw) (wd35 hw) e32 (g := (mkF m 61 #[.val (.ref o0), .val (.long y1), .second, .val (.int (0 : Int32))] [(.int (16 : Int32)), (.int (0 : Int32)), (.ref b9)])) rfl (hb hby dd_prog_49_method_1_code_61) rfl (by decide) (cap := 16) (by decide) (by decide) (by decide) (by decide) (ad := cn5) (by first | rfl | decide +kernel)
  obtain ⟨b38, g38⟩ : ∃ z, z = h30.size := ⟨_, rfl⟩
  rw [← g38] at A38 Ex38 st38
  have ne_b2_b38 : b2 ≠ b38 := Nat.ne_of_lt (Nat.lt_of_lt_of_le f33.lt (Nat.le_of_eq g38.symm))
  have ne_o0_b38 : o0 ≠ b38 := Nat.ne_of_lt (Nat.lt_of_lt_of_le f34.lt (Nat.le_of_eq g38.symm))
  have ne_b9_b38 : b9 ≠ b38 := Nat.ne_of_lt (Nat.lt_of_lt_of_le f35.lt (Nat.le_of_eq g38.symm))
  have ne_b16_b38 : b16 ≠ b38 := Nat.ne_of_lt (Nat.lt_of_lt_of_le f36.lt (Nat.le_of_eq g38.symm))
  have ne_b24_b38 : b24 ≠ b38 := Nat.ne_of_lt (Nat.lt_of_lt_of_le f37.lt (Nat.le_of_eq g38.symm))
  have ge_b38 : n0 ≤ b38 := Nat.le_trans Z30 (Nat.le_of_eq g38.symm)
  have sz_b38 : h0.size ≤ b38 := Nat.le_trans K30.1 (Nat.le_of_eq g38.symm)
  have Z38 : n0 ≤ h38.size := Nat.le_trans Z30 E38.1
  have K38 : Keep h0 h38 [o0] := (K30.ext E38)
  have V38 : Arv Z h38 b38 kk38 (.object cn6) (16 : Int32) [] .null := (Arv.new A38 (by decide)).pad (pad_rep [] .null 0)
  have f39 := OV9
  have f40 := (f35.ext E38)
  obtain ⟨cl41, Ar41, q41, S41, M41, HH41, GG41⟩ := id f40
  have hin41 : ¬ ((0 : Int32) < 0 ∨ cl41.slots.size ≤ ((0 : Int32)).toNatClampNeg) := inb_of S41 ⟨by decide, by decide⟩
  obtain ⟨T42, h42, X42, e42, W42, st42⟩ := stR X38 hx hZ e38 Ar41 (j := (0 : Int32)) hin41 rfl (Sto.ofVA Ar41 q41 f39 (Ins.self Ex38)) (g := (mkF m 64 #[.val (.ref o0), .val (.long y1), .second, .val (.int (0 : Int32))] [(.ref b38), (.int (0 : Int32)), (.ref b9)])) rfl rfl (hb hby dd_prog_49_method_1_code_64)
  have N42 := Fr.snoc X42 N30 ge_b9
  have Z42 : n0 ≤ h42.size := by rw [W42.size]; exact Z38
  have K42 : Keep h0 h42 [o0] := (K38.wr W42 (Or.inr sz_b9))
  have V42 := Arv.set Ar41 q41 S41 M41 HH41 GG41 rfl W42 0 rfl (Nat.le_of_ble_eq_true rfl)
  have f43 := ((f31.ext E38).other W42 (Or.inl ne_o0_b9))
  obtain ⟨T44, X44, e44, st44⟩ := getF X42 hx hZ hown (host := "") (Or.inl (wd29 hw)) Via.refl e42 f43 (g := (mkF m 55 #[.val (.ref o0), .val (.long y1), .second, .val (.int (1 : Int32))] [(.ref o0)])) rfl rfl (hb hby dd_prog_49_method_1_code_55)
  have f45 := ((f33.ext E38).wr W42)
  have f46 := ((f34.ext E38).wr W42)
  have f47 := ((f36.ext E38).other W42 (Ne.symm ne_b9_b16))
  have f48 := ((f37.ext E38).other W42 (Ne.symm ne_b9_b24))
  have f49 := (V38.other W42 (Ne.symm ne_b9_b38))
  obtain ⟨T50, h50, kk50, X50, e50, E50, A50, Ex50, OV50, st50⟩ := newRE X44 hx hZ hown (wd34 hw) (wd35 hw) e44 (g := (mkF m 61 #[.val (.ref o0), .val (.long y1), .second, .val (.int (1 : Int32))] [(.int (16 : Int32)), (.int (1 : Int32)), (.ref b9)])) rfl (hb hby dd_prog_49_method_1_code_61) rfl (by decide) (cap := 16) (by decide) (by decide) (by decide) (by decide) (ad := cn5) (by first | rfl | decide +kernel)
  obtain ⟨b50, g50⟩ : ∃ z, z = h42.size := ⟨_, rfl⟩
  rw [← g50] at A50 Ex50 st50
  have ne_b2_b50 : b2 ≠ b50 := Nat.ne_of_lt (Nat.lt_of_lt_of_le f45.lt (Nat.le_of_eq g50.symm))
  have ne_o0_b50 : o0 ≠ b50 := Nat.ne_of_lt (Nat.lt_of_lt_of_le f46.lt (Nat.le_of_eq g50.symm))
  have ne_b9_b50 : b9 ≠ b50 := Nat.ne_of_lt (Nat.lt_of_lt_of_le V42.lt (Nat.le_of_eq g50.symm))
  have ne_b16_b50 : b16 ≠ b50 := Nat.ne_of_lt (Nat.lt_of_lt_of_le f47.lt (Nat.le_of_eq g50.symm))
  have ne_b24_b50 : b24 ≠ b50 := Nat.ne_of_lt (Nat.lt_of_lt_of_le f48.lt (Nat.le_of_eq g50.symm))
  have ne_b38_b50 : b38 ≠ b50 := Nat.ne_of_lt (Nat.lt_of_lt_of_le f49.lt (Nat.le_of_eq g50.symm))
  have ge_b50 : n0 ≤ b50 := Nat.le_trans Z42 (Nat.le_of_eq g50.symm)
  have sz_b50 : h0.size ≤ b50 := Nat.le_trans K42.1 (Nat.le_of_eq g50.symm)
  have Z50 : n0 ≤ h50.size := Nat.le_trans Z42 E50.1
  have K50 : Keep h0 h50 [o0] := (K42.ext E50)
  have V50 : Arv Z h50 b50 kk50 (.object cn6) (16 : Int32) [] .null := (Arv.new A50 (by decide)).pad (pad_rep [] .null 0)
  have f51 := f39
  have f52 := (V42.ext E50)
  obtain ⟨cl53, Ar53, q53, S53, M53, HH53, GG53⟩ := id f52
  have hin53 : ¬ ((1 : Int32) < 0 ∨ cl53.slots.size ≤ ((1 : Int32)).toNatClampNeg) := inb_of S53 ⟨by decide, by decide⟩
  obtain ⟨T54, h54, X54, e54, W54, st54⟩ := stR X50 hx hZ e50 Ar53 (j := (1 : Int32)) hin53 rfl (Sto.ofVA Ar53 q53 f51 (Ins.self Ex50)) (g := (mkF m 64 #[.val (.ref o0), .val (.long y1), .second, .val (.int (1 : Int32))] [(.ref b50), (.int (1 : Int32)), (.ref b9)])) rfl rfl (hb hby dd_prog_49_method_1_code_64)
  have N54 := Fr.snoc X54 N42 ge_b9
  have Z54 : n0 ≤ h54.size := by rw [W54.size]; exact Z50
  have K54 : Keep h0 h54 [o0] := (K50.wr W54 (Or.inr sz_b9))
  have V54 := Arv.set Ar53 q53 S53 M53 HH53 GG53 rfl W54 1 rfl (Nat.le_of_ble_eq_true rfl)
  have f55 := ((f43.ext E50).other W54 (Or.inl ne_o0_b9))
  obtain ⟨T56, X56, e56, st56⟩ := getF X54 hx hZ hown (host := "") (Or.inl (wd29 hw)) Via.refl e54 f55 (g := (mkF m 55 #[.val (.ref o0), .val (.long y1), .second, .val (.int (2 : Int32))] [(.ref o0)])) rfl rfl (hb hby dd_prog_49_method_1_code_55)
  have f57 := ((f45.ext E50).wr W54)
  have f58 := ((f46.ext E50).wr W54)
  have f59 := ((f47.ext E50).other W54 (Ne.symm ne_b9_b16))
  have f60 := ((f48.ext E50).other W54 (Ne.symm ne_b9_b24))
  have f61 := ((f49.ext E50).other W54 (Ne.symm ne_b9_b38))
  have f62 := (V50.other W54 (Ne.symm ne_b9_b50))
  obtain ⟨T63, h63, kk63, X63, e63, E63, A63, Ex63, OV63, st63⟩ := newRE X56 hx hZ hown (wd34 hw) (wd35 hw) e56 (g := (mkF m 61 #[.val (.ref o0), .val (.long y1), .second, .val (.int (2 : Int32))] [(.int (16 : Int32)), (.int (2 : Int32)), (.ref b9)])) rfl (hb hby dd_prog_49_method_1_code_61) rfl (by decide) (cap := 16) (by decide) (by decide) (by decide) (by decide) (ad := cn5) (by first | rfl | decide +kernel)
  obtain ⟨b63, g63⟩ : ∃ z, z = h54.size := ⟨_, rfl⟩
  rw [← g63] at A63 Ex63 st63
  have ne_b2_b63 : b2 ≠ b63 := Nat.ne_of_lt (Nat.lt_of_lt_of_le f57.lt (Nat.le_of_eq g63.symm))
  have ne_o0_b63 : o0 ≠ b63 := Nat.ne_of_lt (Nat.lt_of_lt_of_le f58.lt (Nat.le_of_eq g63.symm))
  have ne_b9_b63 : b9 ≠ b63 := Nat.ne_of_lt (Nat.lt_of_lt_of_le V54.lt (Nat.le_of_eq g63.symm))
  have ne_b16_b63 : b16 ≠ b63 := Nat.ne_of_lt (Nat.lt_of_lt_of_le f59.lt (Nat.le_of_eq g63.symm))
  have ne_b24_b63 : b24 ≠ b63 := Nat.ne_of_lt (Nat.lt_of_lt_of_le f60.lt (Nat.le_of_eq g63.symm))
  have ne_b38_b63 : b38 ≠ b63 := Nat.ne_of_lt (Nat.lt_of_lt_of_le f61.lt (Nat.le_of_eq g63.symm))
  have ne_b50_b63 : b50 ≠ b63 := Nat.ne_of_lt (Nat.lt_of_lt_of_le f62.lt (Nat.le_of_eq g63.symm))
  have ge_b63 : n0 ≤ b63 := Nat.le_trans Z54 (Nat.le_of_eq g63.symm)
  have sz_b63 : h0.size ≤ b63 := Nat.le_trans K54.1 (Nat.le_of_eq g63.symm)
  have Z63 : n0 ≤ h63.size := Nat.le_trans Z54 E63.1
  have K63 : Keep h0 h63 [o0] := (K54.ext E63)
  have V63 : Arv Z h63 b63 kk63 (.object cn6) (16 : Int32) [] .null := (Arv.new A63 (by decide)).pad (pad_rep [] .null 0)
  have f64 := f51
  have f65 := (V54.ext E63)
  obtain ⟨cl66, Ar66, q66, S66, M66, HH66, GG66⟩ := id f65
  have hin66 : ¬ ((2 : Int32) < 0 ∨ cl66.slots.size ≤ ((2 : Int32)).toNatClampNeg) := inb_of S66 ⟨by decide, by decide⟩
  obtain ⟨T67, h67, X67, e67, W67, st67⟩ := stR X63 hx hZ e63 Ar66 (j := (2 : Int32)) hin66 rfl (Sto.ofVA Ar66 q66 f64 (Ins.self Ex63)) (g := (mkF m 64 #[.val (.ref o0), .val (.long y1), .second, .val (.int (2 : Int32))] [(.ref b63), (.int (2 : Int32)), (.ref b9)])) rfl rfl (hb hby dd_prog_49_method_1_code_64)
  have N67 := Fr.snoc X67 N54 ge_b9
  have Z67 : n0 ≤ h67.size := by rw [W67.size]; exact Z63
  have K67 : Keep h0 h67 [o0] := (K63.wr W67 (Or.inr sz_b9))
  have V67 := Arv.set Ar66 q66 S66 M66 HH66 GG66 rfl W67 2 rfl (Nat.le_of_ble_eq_true rfl)
  have f68 := ((f55.ext E63).other W67 (Or.inl ne_o0_b9))
  obtain ⟨T69, X69, e69, st69⟩ := getF X67 hx hZ hown (host := "") (Or.inl (wd29 hw)) Via.refl e67 f68 (g := (mkF m 55 #[.val (.ref o0), .val (.long y1), .second, .val (.int (3 : Int32))] [(.ref o0)])) rfl rfl (hb hby dd_prog_49_method_1_code_55)
  have f70 := ((f57.ext E63).wr W67)
  have f71 := ((f58.ext E63).wr W67)
  have f72 := ((f59.ext E63).other W67 (Ne.symm ne_b9_b16))
  have f73 := ((f60.ext E63).other W67 (Ne.symm ne_b9_b24))
  have f74 := ((f61.ext E63).other W67 (Ne.symm ne_b9_b38))
  have f75 := ((f62.ext E63).other W67 (Ne.symm ne_b9_b50))
  have f76 := (V63.other W67 (Ne.symm ne_b9_b63))
  obtain ⟨T77, h77, kk77, X77, e77, E77, A77, Ex77, OV77, st77⟩ := newRE X69 hx hZ hown (wd34 hw) (wd35 hw) e69 (g := (mkF m 61 #[.val (.ref o0), .val (.long y1), .second, .val (.int (3 : Int32))] [(.int (16 : Int32)), (.int (3 : Int32)), (.ref b9)])) rfl (hb hby dd_prog_49_method_1_code_61) rfl (by decide) (cap := 16) (by decide) (by decide) (by decide) (by decide) (ad := cn5) (by first | rfl | decide +kernel)
  obtain ⟨b77, g77⟩ : ∃ z, z = h67.size := ⟨_, rfl⟩
  rw [← g77] at A77 Ex77 st77
  have ne_b2_b77 : b2 ≠ b77 := Nat.ne_of_lt (Nat.lt_of_lt_of_le f70.lt (Nat.le_of_eq g77.symm))
  have ne_o0_b77 : o0 ≠ b77 := Nat.ne_of_lt (Nat.lt_of_lt_of_le f71.lt (Nat.le_of_eq g77.symm))
  have ne_b9_b77 : b9 ≠ b77 := Nat.ne_of_lt (Nat.lt_of_lt_of_le V67.lt (Nat.le_of_eq g77.symm))
  have ne_b16_b77 : b16 ≠ b77 := Nat.ne_of_lt (Nat.lt_of_lt_of_le f72.lt (Nat.le_of_eq g77.symm))
  have ne_b24_b77 : b24 ≠ b77 := Nat.ne_of_lt (Nat.lt_of_lt_of_le f73.lt (Nat.le_of_eq g77.symm))
  have ne_b38_b77 : b38 ≠ b77 := Nat.ne_of_lt (Nat.lt_of_lt_of_le f74.lt (Nat.le_of_eq g77.symm))
  have ne_b50_b77 : b50 ≠ b77 := Nat.ne_of_lt (Nat.lt_of_lt_of_le f75.lt (Nat.le_of_eq g77.symm))
  have ne_b63_b77 : b63 ≠ b77 := Nat.ne_of_lt (Nat.lt_of_lt_of_le f76.lt (Nat.le_of_eq g77.symm))
  have ge_b77 : n0 ≤ b77 := Nat.le_trans Z67 (Nat.le_of_eq g77.symm)
  have sz_b77 : h0.size ≤ b77 := Nat.le_trans K67.1 (Nat.le_of_eq g77.symm)
  have Z77 : n0 ≤ h77.size := Nat.le_trans Z67 E77.1
  have K77 : Keep h0 h77 [o0] := (K67.ext E77)
  have V77 : Arv Z h77 b77 kk77 (.object cn6) (16 : Int32) [] .null := (Arv.new A77 (by decide)).pad (pad_rep [] .null 0)
  have f78 := f64
  have f79 := (V67.ext E77)
  obtain ⟨cl80, Ar80, q80, S80, M80, HH80, GG80⟩ := id f79
  have hin80 : ¬ ((3 : Int32) < 0 ∨ cl80.slots.size ≤ ((3 : Int32)).toNatClampNeg) := inb_of S80 ⟨by decide, by decide⟩
  obtain ⟨T81, h81, X81, e81, W81, st81⟩ := stR X77 hx hZ e77 Ar80 (j := (3 : Int32)) hin80 rfl (Sto.ofVA Ar80 q80 f78 (Ins.self Ex77)) (g := (mkF m 64 #[.val (.ref o0), .val (.long y1), .second, .val (.int (3 : Int32))] [(.ref b77), (.int (3 : Int32)), (.ref b9)])) rfl rfl (hb hby dd_prog_49_method_1_code_64)
  have N81 := Fr.snoc X81 N67 ge_b9
  have Z81 : n0 ≤ h81.size := by rw [W81.size]; exact Z77
  have K81 : Keep h0 h81 [o0] := (K77.wr W81 (Or.inr sz_b9))
  have V81 := Arv.set Ar80 q80 S80 M80 HH80 GG80 rfl W81 3 rfl (Nat.le_of_ble_eq_true rfl)
  have f82 := ((f68.ext E77).other W81 (Or.inl ne_o0_b9))
  obtain ⟨T83, X83, e83, st83⟩ := getF X81 hx hZ hown (host := "") (Or.inl (wd29 hw)) Via.refl e81 f82 (g := (mkF m 55 #[.val (.ref o0), .val (.long y1), .second, .val (.int (4 : Int32))] [(.ref o0)])) rfl rfl (hb hby dd_prog_49_method_1_code_55)
  have f84 := ((f70.ext E77).wr W81)
  have f85 := ((f71.ext E77).wr W81)
  have f86 := ((f72.ext E77).other W81 (Ne.symm ne_b9_b16))
  have f87 := ((f73.ext E77).other W81 (Ne.symm ne_b9_b24))
  have f88 := ((f74.ext E77).other W81 (Ne.symm ne_b9_b38))
  have f89 := ((f75.ext E77).other W81 (Ne.symm ne_b9_b50))
  have f90 := ((f76.ext E77).other W81 (Ne.symm ne_b9_b63))
  have f91 := (V77.other W81 (Ne.symm ne_b9_b77))
  obtain ⟨T92, h92, kk92, X92, e92, E92, A92, Ex92, OV92, st92⟩ := newRE X83 hx hZ hown (wd34 hw) (wd35 hw) e83 (g := (mkF m 61 #[.val (.ref o0), .val (.long y1), .second, .val (.int (4 : Int32))] [(.int (16 : Int32)), (.int (4 : Int32)), (.ref b9)])) rfl (hb hby dd_prog_49_method_1_code_61) rfl (by decide) (cap := 16) (by decide) (by decide) (by decide) (by decide) (ad := cn5) (by first | rfl | decide +kernel)
  obtain ⟨b92, g92⟩ : ∃ z, z = h81.size := ⟨_, rfl⟩
  rw [← g92] at A92 Ex92 st92
  have ne_b2_b92 : b2 ≠ b92 := Nat.ne_of_lt (Nat.lt_of_lt_of_le f84.lt (Nat.le_of_eq g92.symm))
  have ne_o0_b92 : o0 ≠ b92 := Nat.ne_of_lt (Nat.lt_of_lt_of_le f85.lt (Nat.le_of_eq g92.symm))
  have ne_b9_b92 : b9 ≠ b92 := Nat.ne_of_lt (Nat.lt_of_lt_of_le V81.lt (Nat.le_of_eq g92.symm))
  have ne_b16_b92 : b16 ≠ b92 := Nat.ne_of_lt (Nat.lt_of_lt_of_le f86.lt (Nat.le_of_eq g92.symm))
  have ne_b24_b92 : b24 ≠ b92 := Nat.ne_of_lt (Nat.lt_of_lt_of_le f87.lt (Nat.le_of_eq g92.symm))
  have ne_b38_b92 : b38 ≠ b92 := Nat.ne_of_lt (Nat.lt_of_lt_of_le f88.lt (Nat.le_of_eq g92.symm))
  have ne_b50_b92 : b50 ≠ b92 := Nat.ne_of_lt (Nat.lt_of_lt_of_le f89.lt (Nat.le_of_eq g92.symm))
  have ne_b63_b92 : b63 ≠ b92 := Nat.ne_of_lt (Nat.lt_of_lt_of_le f90.lt (Nat.le_of_eq g92.symm))
  have ne_b77_b92 : b77 ≠ b92 := Nat.ne_of_lt (Nat.lt_of_lt_of_le f91.lt (Nat.le_of_eq g92.symm))
  have ge_b92 : n0 ≤ b92 := Nat.le_trans Z81 (Nat.le_of_eq g92.symm)
  have sz_b92 : h0.size ≤ b92 := Nat.le_trans K81.1 (Nat.le_of_eq g92.symm)
  have Z92 : n0 ≤ h92.size := Nat.le_trans Z81 E92.1
  have K92 : Keep h0 h92 [o0] := (K81.ext E92)
  have V92 : Arv Z h92 b92 kk92 (.object cn6) (16 : Int32) [] .null := (Arv.new A92 (by decide)).pad (pad_rep [] .null 0)
  have f93 := f78
  have f94 := (V81.ext E92)
  obtain ⟨cl95, Ar95, q95, S95, M95, HH95, GG95⟩ := id f94
  have hin95 : ¬ ((4 : Int32) < 0 ∨ cl95.slots.size ≤ ((4 : Int32)).toNatClampNeg) := inb_of S95 ⟨by decide, by decide⟩
  obtain ⟨T96, h96, X96, e96, W96, st96⟩ := stR X92 hx hZ e92 Ar95 (j := (4 : Int32)) hin95 rfl (Sto.ofVA Ar95 q95 f93 (Ins.self Ex92)) (g := (mkF m 64 #[.val (.ref o0), .val (.long y1), .second, .val (.int (4 : Int32))] [(.ref b92), (.int (4 : Int32)), (.ref b9)])) rfl rfl (hb hby dd_prog_49_method_1_code_64)
  have N96 := Fr.snoc X96 N81 ge_b9
  have Z96 : n0 ≤ h96.size := by rw [W96.size]; exact Z92
  have K96 : Keep h0 h96 [o0] := (K92.wr W96 (Or.inr sz_b9))
  have V96 := Arv.set Ar95 q95 S95 M95 HH95 GG95 rfl W96 4 rfl (Nat.le_of_ble_eq_true rfl)
  have f97 := ((f82.ext E92).other W96 (Or.inl ne_o0_b9))
  obtain ⟨T98, X98, e98, st98⟩ := getF X96 hx hZ hown (host := "") (Or.inl (wd29 hw)) Via.refl e96 f97 (g := (mkF m 55 #[.val (.ref o0), .val (.long y1), .second, .val (.int (5 : Int32))] [(.ref o0)])) rfl rfl (hb hby dd_prog_49_method_1_code_55)
  have f99 := ((f84.ext E92).wr W96)
  have f100 := ((f85.ext E92).wr W96)
  have f101 := ((f86.ext E92).other W96 (Ne.symm ne_b9_b16))
  have f102 := ((f87.ext E92).other W96 (Ne.symm ne_b9_b24))
  have f103 := ((f88.ext E92).other W96 (Ne.symm ne_b9_b38))
  have f104 := ((f89.ext E92).other W96 (Ne.symm ne_b9_b50))
  have f105 := ((f90.ext E92).other W96 (Ne.symm ne_b9_b63))
  have f106 := ((f91.ext E92).other W96 (Ne.symm ne_b9_b77))
  have f107 := (V92.other W96 (Ne.symm ne_b9_b92))
  obtain ⟨T108, h108, kk108, X108, e108, E108, A108, Ex108, OV108, st108⟩ := newRE X98 hx hZ hown (wd34 hw) (wd35 hw) e98 (g := (mkF m 61 #[.val (.ref o0), .val (.long y1), .second, .val (.int (5 : Int32))] [(.int (16 : Int32)), (.int (5 : Int32)), (.ref b9)])) rfl (hb hby dd_prog_49_method_1_code_61) rfl (by decide) (cap := 16) (by decide) (by decide) (by decide) (by decide) (ad := cn5) (by first | rfl | decide +kernel)
  obtain ⟨b108, g108⟩ : ∃ z, z = h96.size := ⟨_, rfl⟩
  rw [← g108] at A108 Ex108 st108
  have ne_b2_b108 : b2 ≠ b108 := Nat.ne_of_lt (Nat.lt_of_lt_of_le f99.lt (Nat.le_of_eq g108.symm))
  have ne_o0_b108 : o0 ≠ b108 := Nat.ne_of_lt (Nat.lt_of_lt_of_le f100.lt (Nat.le_of_eq g108.symm))
  have ne_b9_b108 : b9 ≠ b108 := Nat.ne_of_lt (Nat.lt_of_lt_of_le V96.lt (Nat.le_of_eq g108.symm))
  have ne_b16_b108 : b16 ≠ b108 := Nat.ne_of_lt (Nat.lt_of_lt_of_le f101.lt (Nat.le_of_eq g108.symm))
  have ne_b24_b108 : b24 ≠ b108 := Nat.ne_of_lt (Nat.lt_of_lt_of_le f102.lt (Nat.le_of_eq g108.symm))
  have ne_b38_b108 : b38 ≠ b108 := Nat.ne_of_lt (Nat.lt_of_lt_of_le f103.lt (Nat.le_of_eq g108.symm))
  have ne_b50_b108 : b50 ≠ b108 := Nat.ne_of_lt (Nat.lt_of_lt_of_le f104.lt (Nat.le_of_eq g108.symm))
  have ne_b63_b108 : b63 ≠ b108 := Nat.ne_of_lt (Nat.lt_of_lt_of_le f105.lt (Nat.le_of_eq g108.symm))
  have ne_b77_b108 : b77 ≠ b108 := Nat.ne_of_lt (Nat.lt_of_lt_of_le f106.lt (Nat.le_of_eq g108.symm))
  have ne_b92_b108 : b92 ≠ b108 := Nat.ne_of_lt (Nat.lt_of_lt_of_le f107.lt (Nat.le_of_eq g108.symm))
  have ge_b108 : n0 ≤ b108 := Nat.le_trans Z96 (Nat.le_of_eq g108.symm)
  have sz_b108 : h0.size ≤ b108 := Nat.le_trans K96.1 (Nat.le_of_eq g108.symm)
  have Z108 : n0 ≤ h108.size := Nat.le_trans Z96 E108.1
  have K108 : Keep h0 h108 [o0] := (K96.ext E108)
  have V108 : Arv Z h108 b108 kk108 (.object cn6) (16 : Int32) [] .null := (Arv.new A108 (by decide)).pad (pad_rep [] .null 0)
  have f109 := f93
  have f110 := (V96.ext E108)
  obtain ⟨cl111, Ar111, q111, S111, M111, HH111, GG111⟩ := id f110
  have hin111 : ¬ ((5 : Int32) < 0 ∨ cl111.slots.size ≤ ((5 : Int32)).toNatClampNeg) := inb_of S111 ⟨by decide, by decide⟩
  obtain ⟨T112, h112, X112, e112, W112, st112⟩ := stR X108 hx hZ e108 Ar111 (j := (5 : Int32)) hin111 rfl (Sto.ofVA Ar111 q111 f109 (Ins.self Ex108)) (g := (mkF m 64 #[.val (.ref o0), .val (.long y1), .second, .val (.int (5 : Int32))] [(.ref b108), (.int (5 : Int32)), (.ref b9)])) rfl rfl (hb hby dd_prog_49_method_1_code_64)
  have N112 := Fr.snoc X112 N96 ge_b9
  have Z112 : n0 ≤ h112.size := by rw [W112.size]; exact Z108
  have K112 : Keep h0 h112 [o0] := (K108.wr W112 (Or.inr sz_b9))
  have V112 := Arv.set Ar111 q111 S111 M111 HH111 GG111 rfl W112 5 rfl (Nat.le_of_ble_eq_true rfl)
  have f113 := ((f97.ext E108).other W112 (Or.inl ne_o0_b9))
  obtain ⟨T114, X114, e114, st114⟩ := getF X112 hx hZ hown (host := "") (Or.inl (wd29 hw)) Via.refl e112 f113 (g := (mkF m 55 #[.val (.ref o0), .val (.long y1), .second, .val (.int (6 : Int32))] [(.ref o0)])) rfl rfl (hb hby dd_prog_49_method_1_code_55)
  have f115 := ((f99.ext E108).wr W112)
  have f116 := ((f100.ext E108).wr W112)
  have f117 := ((f101.ext E108).other W112 (Ne.symm ne_b9_b16))
  have f118 := ((f102.ext E108).other W112 (Ne.symm ne_b9_b24))
  have f119 := ((f103.ext E108).other W112 (Ne.symm ne_b9_b38))
  have f120 := ((f104.ext E108).other W112 (Ne.symm ne_b9_b50))
  have f121 := ((f105.ext E108).other W112 (Ne.symm ne_b9_b63))
  have f122 := ((f106.ext E108).other W112 (Ne.symm ne_b9_b77))
  have f123 := ((f107.ext E108).other W112 (Ne.symm ne_b9_b92))
  have f124 := (V108.other W112 (Ne.symm ne_b9_b108))
  obtain ⟨T125, h125, kk125, X125, e125, E125, A125, Ex125, OV125, st125⟩ := newRE X114 hx hZ hown (wd34 hw) (wd35 hw) e114 (g := (mkF m 61 #[.val (.ref o0), .val (.long y1), .second, .val (.int (6 : Int32))] [(.int (16 : Int32)), (.int (6 : Int32)), (.ref b9)])) rfl (hb hby dd_prog_49_method_1_code_61) rfl (by decide) (cap := 16) (by decide) (by decide) (by decide) (by decide) (ad := cn5) (by first | rfl | decide +kernel)
  obtain ⟨b125, g125⟩ : ∃ z, z = h112.size := ⟨_, rfl⟩
  rw [← g125] at A125 Ex125 st125
  have ne_b2_b125 : b2 ≠ b125 := Nat.ne_of_lt (Nat.lt_of_lt_of_le f115.lt (Nat.le_of_eq g125.symm))
  have ne_o0_b125 : o0 ≠ b125 := Nat.ne_of_lt (Nat.lt_of_lt_of_le f116.lt (Nat.le_of_eq g125.symm))
  have ne_b9_b125 : b9 ≠ b125 := Nat.ne_of_lt (Nat.lt_of_lt_of_le V112.lt (Nat.le_of_eq g125.symm))
  have ne_b16_b125 : b16 ≠ b125 := Nat.ne_of_lt (Nat.lt_of_lt_of_le f117.lt (Nat.le_of_eq g125.symm))
  have ne_b24_b125 : b24 ≠ b125 := Nat.ne_of_lt (Nat.lt_of_lt_of_le f118.lt (Nat.le_of_eq g125.symm))
  have ne_b38_b125 : b38 ≠ b125 := Nat.ne_of_lt (Nat.lt_of_lt_of_le f119.lt (Nat.le_of_eq g125.symm))
  have ne_b50_b125 : b50 ≠ b125 := Nat.ne_of_lt (Nat.lt_of_lt_of_le f120.lt (Nat.le_of_eq g125.symm))
  have ne_b63_b125 : b63 ≠ b125 := Nat.ne_of_lt (Nat.lt_of_lt_of_le f121.lt (Nat.le_of_eq g125.symm))
  have ne_b77_b125 : b77 ≠ b125 := Nat.ne_of_lt (Nat.lt_of_lt_of_le f122.lt (Nat.le_of_eq g125.symm))
  have ne_b92_b125 : b92 ≠ b125 := Nat.ne_of_lt (Nat.lt_of_lt_of_le f123.lt (Nat.le_of_eq g125.symm))
  have ne_b108_b125 : b108 ≠ b125 := Nat.ne_of_lt (Nat.lt_of_lt_of_le f124.lt (Nat.le_of_eq g125.symm))
  have ge_b125 : n0 ≤ b125 := Nat.le_trans Z112 (Nat.le_of_eq g125.symm)
  have sz_b125 : h0.size ≤ b125 := Nat.le_trans K112.1 (Nat.le_of_eq g125.symm)
  have Z125 : n0 ≤ h125.size := Nat.le_trans Z112 E125.1
  have K125 : Keep h0 h125 [o0] := (K112.ext E125)
  have V125 : Arv Z h125 b125 kk125 (.object cn6) (16 : Int32) [] .null := (Arv.new A125 (by decide)).pad (pad_rep [] .null 0)
  have f126 := f109
  have f127 := (V112.ext E125)
  obtain ⟨cl128, Ar128, q128, S128, M128, HH128, GG128⟩ := id f127
  have hin128 : ¬ ((6 : Int32) < 0 ∨ cl128.slots.size ≤ ((6 : Int32)).toNatClampNeg) := inb_of S128 ⟨by decide, by decide⟩
  obtain ⟨T129, h129, X129, e129, W129, st129⟩ := stR X125 hx hZ e125 Ar128 (j := (6 : Int32)) hin128 rfl (Sto.ofVA Ar128 q128 f126 (Ins.self Ex125)) (g := (mkF m 64 #[.val (.ref o0), .val (.long y1), .second, .val (.int (6 : Int32))] [(.ref b125), (.int (6 : Int32)), (.ref b9)])) rfl rfl (hb hby dd_prog_49_method_1_code_64)
  have N129 := Fr.snoc X129 N112 ge_b9
  have Z129 : n0 ≤ h129.size := by rw [W129.size]; exact Z125
  have K129 : Keep h0 h129 [o0] := (K125.wr W129 (Or.inr sz_b9))
  have V129 := Arv.set Ar128 q128 S128 M128 HH128 GG128 rfl W129 6 rfl (Nat.le_of_ble_eq_true rfl)
  have f130 := ((f113.ext E125).other W129 (Or.inl ne_o0_b9))
  obtain ⟨T131, X131, e131, st131⟩ := getF X129 hx hZ hown (host := "") (Or.inl (wd29 hw)) Via.refl e129 f130 (g := (mkF m 55 #[.val (.ref o0), .val (.long y1), .second, .val (.int (7 : Int32))] [(.ref o0)])) rfl rfl (hb hby dd_prog_49_method_1_code_55)
  have f132 := ((f115.ext E125).wr W129)
  have f133 := ((f116.ext E125).wr W129)
  have f134 := ((f117.ext E125).other W129 (Ne.symm ne_b9_b16))
  have f135 := ((f118.ext E125).other W129 (Ne.symm ne_b9_b24))
  have f136 := ((f119.ext E125).other W129 (Ne.symm ne_b9_b38))
  have f137 := ((f120.ext E125).other W129 (Ne.symm ne_b9_b50))
  have f138 := ((f121.ext E125).other W129 (Ne.symm ne_b9_b63))
  have f139 := ((f122.ext E125).other W129 (Ne.symm ne_b9_b77))
  have f140 := ((f123.ext E125).other W129 (Ne.symm ne_b9_b92))
  have f141 := ((f124.ext E125).other W129 (Ne.symm ne_b9_b108))
  have f142 := (V125.other W129 (Ne.symm ne_b9_b125))
  obtain ⟨T143, h143, kk143, X143, e143, E143, A143, Ex143, OV143, st143⟩ := newRE X131 hx hZ hown (wd34 hw) (wd35 hw) e131 (g := (mkF m 61 #[.val (.ref o0), .val (.long y1), .second, .val (.int (7 : Int32))] [(.int (16 : Int32)), (.int (7 : Int32)), (.ref b9)])) rfl (hb hby dd_prog_49_method_1_code_61) rfl (by decide) (cap := 16) (by decide) (by decide) (by decide) (by decide) (ad := cn5) (by first | rfl | decide +kernel)
  obtain ⟨b143, g143⟩ : ∃ z, z = h129.size := ⟨_, rfl⟩
  rw [← g143] at A143 Ex143 st143
  have ne_b2_b143 : b2 ≠ b143 := Nat.ne_of_lt (Nat.lt_of_lt_of_le f132.lt (Nat.le_of_eq g143.symm))
  have ne_o0_b143 : o0 ≠ b143 := Nat.ne_of_lt (Nat.lt_of_lt_of_le f133.lt (Nat.le_of_eq g143.symm))
  have ne_b9_b143 : b9 ≠ b143 := Nat.ne_of_lt (Nat.lt_of_lt_of_le V129.lt (Nat.le_of_eq g143.symm))
  have ne_b16_b143 : b16 ≠ b143 := Nat.ne_of_lt (Nat.lt_of_lt_of_le f134.lt (Nat.le_of_eq g143.symm))
  have ne_b24_b143 : b24 ≠ b143 := Nat.ne_of_lt (Nat.lt_of_lt_of_le f135.lt (Nat.le_of_eq g143.symm))
  have ne_b38_b143 : b38 ≠ b143 := Nat.ne_of_lt (Nat.lt_of_lt_of_le f136.lt (Nat.le_of_eq g143.symm))
  have ne_b50_b143 : b50 ≠ b143 := Nat.ne_of_lt (Nat.lt_of_lt_of_le f137.lt (Nat.le_of_eq g143.symm))
  have ne_b63_b143 : b63 ≠ b143 := Nat.ne_of_lt (Nat.lt_of_lt_of_le f138.lt (Nat.le_of_eq g143.symm))
  have ne_b77_b143 : b77 ≠ b143 := Nat.ne_of_lt (Nat.lt_of_lt_of_le f139.lt (Nat.le_of_eq g143.symm))
  have ne_b92_b143 : b92 ≠ b143 := Nat.ne_of_lt (Nat.lt_of_lt_of_le f140.lt (Nat.le_of_eq g143.symm))
  have ne_b108_b143 : b108 ≠ b143 := Nat.ne_of_lt (Nat.lt_of_lt_of_le f141.lt (Nat.le_of_eq g143.symm))
  have ne_b125_b143 : b125 ≠ b143 := Nat.ne_of_lt (Nat.lt_of_lt_of_le f142.lt (Nat.le_of_eq g143.symm))
  have ge_b143 : n0 ≤ b143 := Nat.le_trans Z129 (Nat.le_of_eq g143.symm)
  have sz_b143 : h0.size ≤ b143 := Nat.le_trans K129.1 (Nat.le_of_eq g143.symm)
  have Z143 : n0 ≤ h143.size := Nat.le_trans Z129 E143.1
  have K143 : Keep h0 h143 [o0] := (K129.ext E143)
  have V143 : Arv Z h143 b143 kk143 (.object cn6) (16 : Int32) [] .null := (Arv.new A143 (by decide)).pad (pad_rep [] .null 0)
  have f144 := f126
  have f145 := (V129.ext E143)
  obtain ⟨cl146, Ar146, q146, S146, M146, HH146, GG146⟩ := id f145
  have hin146 : ¬ ((7 : Int32) < 0 ∨ cl146.slots.size ≤ ((7 : Int32)).toNatClampNeg) := inb_of S146 ⟨by decide, by decide⟩
  obtain ⟨T147, h147, X147, e147, W147, st147⟩ := stR X143 hx hZ e143 Ar146 (j := (7 : Int32)) hin146 rfl (Sto.ofVA Ar146 q146 f144 (Ins.self Ex143)) (g := (mkF m 64 #[.val (.ref o0), .val (.long y1), .second, .val (.int (7 : Int32))] [(.ref b143), (.int (7 : Int32)), (.ref b9)])) rfl rfl (hb hby dd_prog_49_method_1_code_64)
  have N147 := Fr.snoc X147 N129 ge_b9
  have Z147 : n0 ≤ h147.size := by rw [W147.size]; exact Z143
  have K147 : Keep h0 h147 [o0] := (K143.wr W147 (Or.inr sz_b9))
  have V147 := Arv.set Ar146 q146 S146 M146 HH146 GG146 rfl W147 7 rfl (Nat.le_of_ble_eq_true rfl)
  have f148 := ((f132.ext E143).wr W147)
  have f149 := ((f133.ext E143).wr W147)
  have f150 := (((((((((((((((((((((((Fw6.ext E9).other W12 (Or.inr (slot_ne (Or.inr (wd26 hw)) (Or.inr (wd30 hw)) (by decide) (t := (.object cn8)) (t' := (.array (.array (.object cn6)))) (by decide) (by decide)))).ext E16).other W19 (Or.inr (slot_ne (Or.inr (wd26 hw)) (Or.inr (wd33 hw)) (by decide) (t := (.object cn8)) (t' := (.array .int)) (by decide) (by decide)))).ext E24).other W27 (Or.inr (slot_ne (Or.inr (wd26 hw)) (Or.inl (wd37 hw)) (by decide) (t := (.object cn8)) (t' := (.array (.object cn6))) (by decide) (by decide)))).other W30 (Or.inr (slot_ne (Or.inr (wd26 hw)) (Or.inr (wd39 hw)) (by decide) (t := (.object cn8)) (t' := .long) (by decide) (by decide)))).ext E38).other W42 (Or.inl ne_o0_b9)).ext E50).other W54 (Or.inl ne_o0_b9)).ext E63).other W67 (Or.inl ne_o0_b9)).ext E77).other W81 (Or.inl ne_o0_b9)).ext E92).other W96 (Or.inl ne_o0_b9)).ext E108).other W112 (Or.inl ne_o0_b9)).ext E125).other W129 (Or.inl ne_o0_b9)).ext E143).other W147 (Or.inl ne_o0_b9))
  have f151 := ((((((((((((((((((((((Ex9.wr W12).ext E16).wr W19).ext E24).wr W27).wr W30).ext E38).wr W42).ext E50).wr W54).ext E63).wr W67).ext E77).wr W81).ext E92).wr W96).ext E108).wr W112).ext E125).wr W129).ext E143).wr W147)
  have f152 := f144
  have f153 := ((f130.ext E143).other W147 (Or.inl ne_o0_b9))
  have f154 := ((f134.ext E143).other W147 (Ne.symm ne_b9_b16))
  have f155 := (((((((((((((((((((Fw19.ext E24).other W27 (Or.inr (slot_ne (Or.inr (wd33 hw)) (Or.inl (wd37 hw)) (by decide) (t := (.array .int)) (t' := (.array (.object cn6))) (by decide) (by decide)))).other W30 (Or.inr (slot_ne (Or.inr (wd33 hw)) (Or.inr (wd39 hw)) (by decide) (t := (.array .int)) (t' := .long) (by decide) (by decide)))).ext E38).other W42 (Or.inl ne_o0_b9)).ext E50).other W54 (Or.inl ne_o0_b9)).ext E63).other W67 (Or.inl ne_o0_b9)).ext E77).other W81 (Or.inl ne_o0_b9)).ext E92).other W96 (Or.inl ne_o0_b9)).ext E108).other W112 (Or.inl ne_o0_b9)).ext E125).other W129 (Or.inl ne_o0_b9)).ext E143).other W147 (Or.inl ne_o0_b9))
  have f156 := ((f135.ext E143).other W147 (Ne.symm ne_b9_b24))
  have f157 := ((((((((((((((((((Ex24.wr W27).wr W30).ext E38).wr W42).ext E50).wr W54).ext E63).wr W67).ext E77).wr W81).ext E92).wr W96).ext E108).wr W112).ext E125).wr W129).ext E143).wr W147)
  have f158 := OV24
  have f159 := (((((((((((((((((Fw27.other W30 (Or.inr (slot_ne (Or.inl (wd37 hw)) (Or.inr (wd39 hw)) (by decide) (t := (.array (.object cn6))) (t' := .long) (by decide) (by decide)))).ext E38).other W42 (Or.inl ne_o0_b9)).ext E50).other W54 (Or.inl ne_o0_b9)).ext E63).other W67 (Or.inl ne_o0_b9)).ext E77).other W81 (Or.inl ne_o0_b9)).ext E92).other W96 (Or.inl ne_o0_b9)).ext E108).other W112 (Or.inl ne_o0_b9)).ext E125).other W129 (Or.inl ne_o0_b9)).ext E143).other W147 (Or.inl ne_o0_b9))
  have f160 := ((((((((((((((((Fw30.ext E38).other W42 (Or.inl ne_o0_b9)).ext E50).other W54 (Or.inl ne_o0_b9)).ext E63).other W67 (Or.inl ne_o0_b9)).ext E77).other W81 (Or.inl ne_o0_b9)).ext E92).other W96 (Or.inl ne_o0_b9)).ext E108).other W112 (Or.inl ne_o0_b9)).ext E125).other W129 (Or.inl ne_o0_b9)).ext E143).other W147 (Or.inl ne_o0_b9))
  have f161 := ((f136.ext E143).other W147 (Ne.symm ne_b9_b38))
  have f162 := (((((((((((((((Ex38.wr W42).ext E50).wr W54).ext E63).wr W67).ext E77).wr W81).ext E92).wr W96).ext E108).wr W112).ext E125).wr W129).ext E143).wr W147)
  have f163 := OV38
  have f164 := ((f137.ext E143).other W147 (Ne.symm ne_b9_b50))
  have f165 := (((((((((((((Ex50.wr W54).ext E63).wr W67).ext E77).wr W81).ext E92).wr W96).ext E108).wr W112).ext E125).wr W129).ext E143).wr W147)
  have f166 := OV50
  have f167 := ((f138.ext E143).other W147 (Ne.symm ne_b9_b63))
  have f168 := (((((((((((Ex63.wr W67).ext E77).wr W81).ext E92).wr W96).ext E108).wr W112).ext E125).wr W129).ext E143).wr W147)
  have f169 := OV63
  have f170 := ((f139.ext E143).other W147 (Ne.symm ne_b9_b77))
  have f171 := (((((((((Ex77.wr W81).ext E92).wr W96).ext E108).wr W112).ext E125).wr W129).ext E143).wr W147)
  have f172 := OV77
  have f173 := ((f140.ext E143).other W147 (Ne.symm ne_b9_b92))
  have f174 := (((((((Ex92.wr W96).ext E108).wr W112).ext E125).wr W129).ext E143).wr W147)
  have f175 := OV92
  have f176 := ((f141.ext E143).other W147 (Ne.symm ne_b9_b108))
  have f177 := (((((Ex108.wr W112).ext E125).wr W129).ext E143).wr W147)
  have f178 := OV108
  have f179 := ((f142.ext E143).other W147 (Ne.symm ne_b9_b125))
  have f180 := (((Ex125.wr W129).ext E143).wr W147)
  have f181 := OV125
  have f182 := (V143.other W147 (Ne.symm ne_b9_b143))
  have f183 := (Ex143.wr W147)
  have f184 := OV143
  have f185 := (((((((((((((((((((((((((F_o0_handed.ext E2).other W6 (Or.inr (slot_ne (Or.inl (wd47 hw)) (Or.inr (wd26 hw)) (by decide) (t := .int) (t' := (.object cn8)) (by decide) (by decide)))).ext E9).other W12 (Or.inr (slot_ne (Or.inl (wd47 hw)) (Or.inr (wd30 hw)) (by decide) (t := .int) (t' := (.array (.array (.object cn6)))) (by decide) (by decide)))).ext E16).other W19 (Or.inr (slot_ne (Or.inl (wd47 hw)) (Or.inr (wd33 hw)) (by decide) (t := .int) (t' := (.array .int)) (by decide) (by decide)))).ext E24).other W27 (Or.inr (slot_ne (Or.inl (wd47 hw)) (Or.inl (wd37 hw)) (by decide) (t := .int) (t' := (.array (.object cn6))) (by decide) (by decide)))).other W30 (Or.inr (slot_ne (Or.inl (wd47 hw)) (Or.inr (wd39 hw)) (by decide) (t := .int) (t' := .long) (by decide) (by decide)))).ext E38).other W42 (Or.inl ne_o0_b9)).ext E50).other W54 (Or.inl ne_o0_b9)).ext E63).other W67 (Or.inl ne_o0_b9)).ext E77).other W81 (Or.inl ne_o0_b9)).ext E92).other W96 (Or.inl ne_o0_b9)).ext E108).other W112 (Or.inl ne_o0_b9)).ext E125).other W129 (Or.inl ne_o0_b9)).ext E143).other W147 (Or.inl ne_o0_b9))
  have f186 := (((((((((((((((((((((((((F_o0_takenSize.ext E2).other W6 (Or.inr (slot_ne (Or.inl (wd49 hw)) (Or.inr (wd26 hw)) (by decide) (t := .int) (t' := (.object cn8)) (by decide) (by decide)))).ext E9).other W12 (Or.inr (slot_ne (Or.inl (wd49 hw)) (Or.inr (wd30 hw)) (by decide) (t := .int) (t' := (.array (.array (.object cn6)))) (by decide) (by decide)))).ext E16).other W19 (Or.inr (slot_ne (Or.inl (wd49 hw)) (Or.inr (wd33 hw)) (by decide) (t := .int) (t' := (.array .int)) (by decide) (by decide)))).ext E24).other W27 (Or.inr (slot_ne (Or.inl (wd49 hw)) (Or.inl (wd37 hw)) (by decide) (t := .int) (t' := (.array (.object cn6))) (by decide) (by decide)))).other W30 (Or.inr (slot_ne (Or.inl (wd49 hw)) (Or.inr (wd39 hw)) (by decide) (t := .int) (t' := .long) (by decide) (by decide)))).ext E38).other W42 (Or.inl ne_o0_b9)).ext E50).other W54 (Or.inl ne_o0_b9)).ext E63).other W67 (Or.inl ne_o0_b9)).ext E77).other W81 (Or.inl ne_o0_b9)).ext E92).other W96 (Or.inl ne_o0_b9)).ext E108).other W112 (Or.inl ne_o0_b9)).ext E125).other W129 (Or.inl ne_o0_b9)).ext E143).other W147 (Or.inl ne_o0_b9))
  have f187 := (((((((((((((((((((((((((F_o0_total.ext E2).other W6 (Or.inr (slot_ne (Or.inl (wd55 hw)) (Or.inr (wd26 hw)) (by decide) (t := .int) (t' := (.object cn8)) (by decide) (by decide)))).ext E9).other W12 (Or.inr (slot_ne (Or.inl (wd55 hw)) (Or.inr (wd30 hw)) (by decide) (t := .int) (t' := (.array (.array (.object cn6)))) (by decide) (by decide)))).ext E16).other W19 (Or.inr (slot_ne (Or.inl (wd55 hw)) (Or.inr (wd33 hw)) (by decide) (t := .int) (t' := (.array .int)) (by decide) (by decide)))).ext E24).other W27 (Or.inr (slot_ne (Or.inl (wd55 hw)) (Or.inl (wd37 hw)) (by decide) (t := .int) (t' := (.array (.object cn6))) (by decide) (by decide)))).other W30 (Or.inr (slot_ne (Or.inl (wd55 hw)) (Or.inr (wd39 hw)) (by decide) (t := .int) (t' := .long) (by decide) (by decide)))).ext E38).other W42 (Or.inl ne_o0_b9)).ext E50).other W54 (Or.inl ne_o0_b9)).ext E63).other W67 (Or.inl ne_o0_b9)).ext E77).other W81 (Or.inl ne_o0_b9)).ext E92).other W96 (Or.inl ne_o0_b9)).ext E108).other W112 (Or.inl ne_o0_b9)).ext E125).other W129 (Or.inl ne_o0_b9)).ext E143).other W147 (Or.inl ne_o0_b9))
  have f188 := (((((((((((((((((((((((((F_o0_next.ext E2).other W6 (Or.inr (slot_ne (Or.inl (wd75 hw)) (Or.inr (wd26 hw)) (by decide) (t := .long) (t' := (.object cn8)) (by decide) (by decide)))).ext E9).other W12 (Or.inr (slot_ne (Or.inl (wd75 hw)) (Or.inr (wd30 hw)) (by decide) (t := .long) (t' := (.array (.array (.object cn6)))) (by decide) (by decide)))).ext E16).other W19 (Or.inr (slot_ne (Or.inl (wd75 hw)) (Or.inr (wd33 hw)) (by decide) (t := .long) (t' := (.array .int)) (by decide) (by decide)))).ext E24).other W27 (Or.inr (slot_ne (Or.inl (wd75 hw)) (Or.inl (wd37 hw)) (by decide) (t := .long) (t' := (.array (.object cn6))) (by decide) (by decide)))).other W30 (Or.inr (slot_ne (Or.inl (wd75 hw)) (Or.inr (wd39 hw)) (by decide) (t := .long) (t' := .long) (by decide) (by decide)))).ext E38).other W42 (Or.inl ne_o0_b9)).ext E50).other W54 (Or.inl ne_o0_b9)).ext E63).other W67 (Or.inl ne_o0_b9)).ext E77).other W81 (Or.inl ne_o0_b9)).ext E92).other W96 (Or.inl ne_o0_b9)).ext E108).other W112 (Or.inl ne_o0_b9)).ext E125).other W129 (Or.inl ne_o0_b9)).ext E143).other W147 (Or.inl ne_o0_b9))
  obtain ⟨lfs, lhr, lhrun, lhended, lhW, lhsame⟩ := X147.leave (v := none) (fun _ => rfl)
  refine ⟨_, _, pre0 _ ?_, lhrun, lhended, _, _, rfl, ?_, ⟨_, rfl⟩, lhW, lhsame.mono (by decide) (by decide)⟩
  · skip
    show Steps p.tables e below (s₁.setTop (mkF m 0 #[.val (.ref o0), .val (.long y1), .second, .unset] [])) _
    refine XS.aloadN X0.here hx rfl (hb hby dd_prog_49_method_1_code_0) rfl rfl ?_
    show Steps p.tables e below (s₁.setTop (mkF m 1 #[.val (.ref o0), .val (.long y1), .second, .unset] [(.ref o0)])) _
    refine st1 _ ?_
    show Steps p.tables e below (T1.setTop (mkF m 4 #[.val (.ref o0), .val (.long y1), .second, .unset] [])) _
    refine XS.aloadN X1.here hx rfl (hb hby dd_prog_49_method_1_code_4) rfl rfl ?_
    show Steps p.tables e below (T1.setTop (mkF m 5 #[.val (.ref o0), .val (.long y1), .second, .unset] [(.ref o0)])) _
    refine st2 _ ?_
    show Steps p.tables e below (T2.setTop (mkF m 8 #[.val (.ref o0), .val (.long y1), .second, .unset] [(.ref b2), (.ref o0)])) _
    refine XS.dup X2.here hx rfl (hb hby dd_prog_49_method_1_code_8) rfl rfl ?_
    show Steps p.tables e below (T2.setTop (mkF m 9 #[.val (.ref o0), .val (.long y1), .second, .unset] [(.ref b2), (.ref b2), (.ref o0)])) _
    refine st3.trans ?_
    show Steps p.tables e below (T3.setTop (mkF m 12 #[.val (.ref o0), .val (.long y1), .second, .unset] [(.ref b2), (.ref o0)])) _
    refine st6 _ ?_
    show Steps p.tables e below (T6.setTop (mkF m 15 #[.val (.ref o0), .val (.long y1), .second, .unset] [])) _
    refine XS.aloadN X6.here hx rfl (hb hby dd_prog_49_method_1_code_15) rfl rfl ?_
    show Steps p.tables e below (T6.setTop (mkF m 16 #[.val (.ref o0), .val (.long y1), .second, .unset] [(.ref o0)])) _
    refine XS.bipush X6.here hx rfl (hb hby dd_prog_49_method_1_code_16) ?_
    show Steps p.tables e below (T6.setTop (mkF m 18 #[.val (.ref o0), .val (.long y1), .second, .unset] [(.int (8 : Int32)), (.ref o0)])) _
    refine st9 _ ?_
    show Steps p.tables e below (T9.setTop (mkF m 21 #[.val (.ref o0), .val (.long y1), .second, .unset] [(.ref b9), (.ref o0)])) _
    refine st12 _ ?_
    show Steps p.tables e below (T12.setTop (mkF m 24 #[.val (.ref o0), .val (.long y1), .second, .unset] [])) _
    refine XS.aloadN X12.here hx rfl (hb hby dd_prog_49_method_1_code_24) rfl rfl ?_
    refine XS.bipush X12.here hx rfl (hb hby dd_prog_49_method_1_code_25) ?_
    show Steps p.tables e below (T12.setTop (mkF m 27 #[.val (.ref o0), .val (.long y1), .second, .unset] [(.int (8 : Int32)), (.ref o0)])) _
    refine st16 _ ?_
    show Steps p.tables e below (T16.setTop (mkF m 29 #[.val (.ref o0), .val (.long y1), .second, .unset] [(.ref b16), (.ref o0)])) _
    refine st19 _ ?_
    show Steps p.tables e below (T19.setTop (mkF m 32 #[.val (.ref o0), .val (.long y1), .second, .unset] [])) _
    refine XS.aloadN X19.here hx rfl (hb hby dd_prog_49_method_1_code_32) rfl rfl ?_
    refine XS.bipush X19.here hx rfl (hb hby dd_prog_49_method_1_code_33) ?_
    show Steps p.tables e below (T19.setTop (mkF m 35 #[.val (.ref o0), .val (.long y1), .second, .unset] [(.int (16 : Int32)), (.ref o0)])) _
    refine st24 _ ?_
    show Steps p.tables e below (T24.setTop (mkF m 38 #[.val (.ref o0), .val (.long y1), .second, .unset] [(.ref b24), (.ref o0)])) _
    refine st27 _ ?_
    show Steps p.tables e below (T27.setTop (mkF m 41 #[.val (.ref o0), .val (.long y1), .second, .unset] [])) _
    refine XS.aloadN X27.here hx rfl (hb hby dd_prog_49_method_1_code_41) rfl rfl ?_
    show Steps p.tables e below (T27.setTop (mkF m 42 #[.val (.ref o0), .val (.long y1), .second, .unset] [(.ref o0)])) _
    refine XS.lloadN X27.here hx rfl (hb hby dd_prog_49_method_1_code_42) rfl ?_
    show Steps p.tables e below (T27.setTop (mkF m 43 #[.val (.ref o0), .val (.long y1), .second, .unset] [(.long y1), (.ref o0)])) _
    refine st30 _ ?_
    show Steps p.tables e below (T30.setTop (mkF m 46 #[.val (.ref o0), .val (.long y1), .second, .unset] [])) _
    refine XS.iconst X30.here hx rfl (hb hby dd_prog_49_method_1_code_46) ?_
    show Steps p.tables e below (T30.setTop (mkF m 47 #[.val (.ref o0), .val (.long y1), .second, .unset] [(.int (0 : Int32))])) _
    refine XS.istoreN X30.here hx rfl (hb hby dd_prog_49_method_1_code_47) rfl (l' := #[.val (.ref o0), .val (.long y1), .second, .val (.int (0 : Int32))]) rfl ?_
    refine XS.iloadN X30.here hx rfl (hb hby dd_prog_49_method_1_code_48) rfl ?_
    refine XS.bipush X30.here hx rfl (hb hby dd_prog_49_method_1_code_49) ?_
    show Steps p.tables e below (T30.setTop (mkF m 51 #[.val (.ref o0), .val (.long y1), .second, .val (.int (0 : Int32))] [(.int (8 : Int32)), (.int (0 : Int32))])) _
    refine XS.icmpNo X30.here hx rfl (hb hby dd_prog_49_method_1_code_51) rfl (tlt (by decide : (0 : Int32) < (8 : Int32))).2.1 ?_
    refine XS.aloadN X30.here hx rfl (hb hby dd_prog_49_method_1_code_54) rfl rfl ?_
    show Steps p.tables e below (T30.setTop (mkF m 55 #[.val (.ref o0), .val (.long y1), .second, .val (.int (0 : Int32))] [(.ref o0)])) _
    refine st32 _ ?_
    show Steps p.tables e below (T32.setTop (mkF m 58 #[.val (.ref o0), .val (.long y1), .second, .val (.int (0 : Int32))] [(.ref b9)])) _
    refine XS.iloadN X32.here hx rfl (hb hby dd_prog_49_method_1_code_58) rfl ?_
    refine XS.bipush X32.here hx rfl (hb hby dd_prog_49_method_1_code_59) ?_
    show Steps p.tables e below (T32.setTop (mkF m 61 #[.val (.ref o0), .val (.long y1), .second, .val (.int (0 : Int32))] [(.int (16 : Int32)), (.int (0 : Int32)), (.ref b9)])) _
    refine st38 _ ?_
    show Steps p.tables e below (T38.setTop (mkF m 64 #[.val (.ref o0), .val (.long y1), .second, .val (.int (0 : Int32))] [(.ref b38), (.int (0 : Int32)), (.ref b9)])) _
    refine st42 _ ?_
    show Steps p.tables e below (T42.setTop (mkF m 65 #[.val (.ref o0), .val (.long y1), .second, .val (.int (0 : Int32))] [])) _
    refine XS.iinc X42.here hx rfl (hb hby dd_prog_49_method_1_code_65) rfl (l' := #[.val (.ref o0), .val (.long y1), .second, .val (.int (1 : Int32))]) rfl ?_
    refine XS.goto X42.here hx rfl (pc0 := 68) (pc' := 48) rfl (hb hby dd_prog_49_method_1_code_68) (by decide) (by decide) ?_
    show Steps p.tables e below (T42.setTop (mkF m 48 #[.val (.ref o0), .val (.long y1), .second, .val (.int (1 : Int32))] [])) _
    refine XS.iloadN X42.here hx rfl (hb hby dd_prog_49_method_1_code_48) rfl ?_
    refine XS.bipush X42.here hx rfl (hb hby dd_prog_49_method_1_code_49) ?_
    refine XS.icmpNo X42.here hx rfl (hb hby dd_prog_49_method_1_code_51) rfl (tlt (by decide : (1 : Int32) < (8 : Int32))).2.1 ?_
    show Steps p.tables e below (T42.setTop (mkF m 54 #[.val (.ref o0), .val (.long y1), .second, .val (.int (1 : Int32))] [])) _
    refine XS.aloadN X42.here hx rfl (hb hby dd_prog_49_method_1_code_54) rfl rfl ?_
    show Steps p.tables e below (T42.setTop (mkF m 55 #[.val (.ref o0), .val (.long y1), .second, .val (.int (1 : Int32))] [(.ref o0)])) _
    refine st44 _ ?_
    show Steps p.tables e below (T44.setTop (mkF m 58 #[.val (.ref o0), .val (.long y1), .second, .val (.int (1 : Int32))] [(.ref b9)])) _
    refine XS.iloadN X44.here hx rfl (hb hby dd_prog_49_method_1_code_58) rfl ?_
    show Steps p.tables e below (T44.setTop (mkF m 59 #[.val (.ref o0), .val (.long y1), .second, .val (.int (1 : Int32))] [(.int (1 : Int32)), (.ref b9)])) _
    refine XS.bipush X44.here hx rfl (hb hby dd_prog_49_method_1_code_59) ?_
    show Steps p.tables e below (T44.setTop (mkF m 61 #[.val (.ref o0), .val (.long y1), .second, .val (.int (1 : Int32))] [(.int (16 : Int32)), (.int (1 : Int32)), (.ref b9)])) _
    refine st50 _ ?_
    show Steps p.tables e below (T50.setTop (mkF m 64 #[.val (.ref o0), .val (.long y1), .second, .val (.int (1 : Int32))] [(.ref b50), (.int (1 : Int32)), (.ref b9)])) _
    refine st54 _ ?_
    show Steps p.tables e below (T54.setTop (mkF m 65 #[.val (.ref o0), .val (.long y1), .second, .val (.int (1 : Int32))] [])) _
    refine XS.iinc X54.here hx rfl (hb hby dd_prog_49_method_1_code_65) rfl (l' := #[.val (.ref o0), .val (.long y1), .second, .val (.int (2 : Int32))]) rfl ?_
    refine XS.goto X54.here hx rfl (pc0 := 68) (pc' := 48) rfl (hb hby dd_prog_49_method_1_code_68) (by decide) (by decide) ?_
    refine XS.iloadN X54.here hx rfl (hb hby dd_prog_49_method_1_code_48) rfl ?_
    show Steps p.tables e below (T54.setTop (mkF m 49 #[.val (.ref o0), .val (.long y1), .second, .val (.int (2 : Int32))] [(.int (2 : Int32))])) _
    refine XS.bipush X54.here hx rfl (hb hby dd_prog_49_method_1_code_49) ?_
    refine XS.icmpNo X54.here hx rfl (hb hby dd_prog_49_method_1_code_51) rfl (tlt (by decide : (2 : Int32) < (8 : Int32))).2.1 ?_
    refine XS.aloadN X54.here hx rfl (hb hby dd_prog_49_method_1_code_54) rfl rfl ?_
    show Steps p.tables e below (T54.setTop (mkF m 55 #[.val (.ref o0), .val (.long y1), .second, .val (.int (2 : Int32))] [(.ref o0)])) _
    refine st56 _ ?_
    show Steps p.tables e below (T56.setTop (mkF m 58 #[.val (.ref o0), .val (.long y1), .second, .val (.int (2 : Int32))] [(.ref b9)])) _
    refine XS.iloadN X56.here hx rfl (hb hby dd_prog_49_method_1_code_58) rfl ?_
    refine XS.bipush X56.here hx rfl (hb hby dd_prog_49_method_1_code_59) ?_
    show Steps p.tables e below (T56.setTop (mkF m 61 #[.val (.ref o0), .val (.long y1), .second, .val (.int (2 : Int32))] [(.int (16 : Int32)), (.int (2 : Int32)), (.ref b9)])) _
    refine st63 _ ?_
    show Steps p.tables e below (T63.setTop (mkF m 64 #[.val (.ref o0), .val (.long y1), .second, .val (.int (2 : Int32))] [(.ref b63), (.int (2 : Int32)), (.ref b9)])) _
    refine st67 _ ?_
    show Steps p.tables e below (T67.setTop (mkF m 65 #[.val (.ref o0), .val (.long y1), .second, .val (.int (2 : Int32))] [])) _
    refine XS.iinc X67.here hx rfl (hb hby dd_prog_49_method_1_code_65) rfl (l' := #[.val (.ref o0), .val (.long y1), .second, .val (.int (3 : Int32))]) rfl ?_
    show Steps p.tables e below (T67.setTop (mkF m 68 #[.val (.ref o0), .val (.long y1), .second, .val (.int (3 : Int32))] [])) _
    refine XS.goto X67.here hx rfl (pc0 := 68) (pc' := 48) rfl (hb hby dd_prog_49_method_1_code_68) (by decide) (by decide) ?_
    refine XS.iloadN X67.here hx rfl (hb hby dd_prog_49_method_1_code_48) rfl ?_
    refine XS.bipush X67.here hx rfl (hb hby dd_prog_49_method_1_code_49) ?_
    show Steps p.tables e below (T67.setTop (mkF m 51 #[.val (.ref o0), .val (.long y1), .second, .val (.int (3 : Int32))] [(.int (8 : Int32)), (.int (3 : Int32))])) _
    refine XS.icmpNo X67.here hx rfl (hb hby dd_prog_49_method_1_code_51) rfl (tlt (by decide : (3 : Int32) < (8 : Int32))).2.1 ?_
    refine XS.aloadN X67.here hx rfl (hb hby dd_prog_49_method_1_code_54) rfl rfl ?_
    show Steps p.tables e below (T67.setTop (mkF m 55 #[.val (.ref o0), .val (.long y1), .second, .val (.int (3 : Int32))] [(.ref o0)])) _
    refine st69 _ ?_
    show Steps p.tables e below (T69.setTop (mkF m 58 #[.val (.ref o0), .val (.long y1), .second, .val (.int (3 : Int32))] [(.ref b9)])) _
    refine XS.iloadN X69.here hx rfl (hb hby dd_prog_49_method_1_code_58) rfl ?_
    refine XS.bipush X69.here hx rfl (hb hby dd_prog_49_method_1_code_59) ?_
    show Steps p.tables e below (T69.setTop (mkF m 61 #[.val (.ref o0), .val (.long y1), .second, .val (.int (3 : Int32))] [(.int (16 : Int32)), (.int (3 : Int32)), (.ref b9)])) _
    refine st77 _ ?_
    show Steps p.tables e below (T77.setTop (mkF m 64 #[.val (.ref o0), .val (.long y1), .second, .val (.int (3 : Int32))] [(.ref b77), (.int (3 : Int32)), (.ref b9)])) _
    refine st81 _ ?_
    show Steps p.tables e below (T81.setTop (mkF m 65 #[.val (.ref o0), .val (.long y1), .second, .val (.int (3 : Int32))] [])) _
    refine XS.iinc X81.here hx rfl (hb hby dd_prog_49_method_1_code_65) rfl (l' := #[.val (.ref o0), .val (.long y1), .second, .val (.int (4 : Int32))]) rfl ?_
    refine XS.goto X81.here hx rfl (pc0 := 68) (pc' := 48) rfl (hb hby dd_prog_49_method_1_code_68) (by decide) (by decide) ?_
    show Steps p.tables e below (T81.setTop (mkF m 48 #[.val (.ref o0), .val (.long y1), .second, .val (.int (4 : Int32))] [])) _
    refine XS.iloadN X81.here hx rfl (hb hby dd_prog_49_method_1_code_48) rfl ?_
    refine XS.bipush X81.here hx rfl (hb hby dd_prog_49_method_1_code_49) ?_
    refine XS.icmpNo X81.here hx rfl (hb hby dd_prog_49_method_1_code_51) rfl (tlt (by decide : (4 : Int32) < (8 : Int32))).2.1 ?_
    show Steps p.tables e below (T81.setTop (mkF m 54 #[.val (.ref o0), .val (.long y1), .second, .val (.int (4 : Int32))] [])) _
    refine XS.aloadN X81.here hx rfl (hb hby dd_prog_49_method_1_code_54) rfl rfl ?_
    show Steps p.tables e below (T81.setTop (mkF m 55 #[.val (.ref o0), .val (.long y1), .second, .val (.int (4 : Int32))] [(.ref o0)])) _
    refine st83 _ ?_
    show Steps p.tables e below (T83.setTop (mkF m 58 #[.val (.ref o0), .val (.long y1), .second, .val (.int (4 : Int32))] [(.ref b9)])) _
    refine XS.iloadN X83.here hx rfl (hb hby dd_prog_49_method_1_code_58) rfl ?_
    show Steps p.tables e below (T83.setTop (mkF m 59 #[.val (.ref o0), .val (.long y1), .second, .val (.int (4 : Int32))] [(.int (4 : Int32)), (.ref b9)])) _
    refine XS.bipush X83.here hx rfl (hb hby dd_prog_49_method_1_code_59) ?_
    show Steps p.tables e below (T83.setTop (mkF m 61 #[.val (.ref o0), .val (.long y1), .second, .val (.int (4 : Int32))] [(.int (16 : Int32)), (.int (4 : Int32)), (.ref b9)])) _
    refine st92 _ ?_
    show Steps p.tables e below (T92.setTop (mkF m 64 #[.val (.ref o0), .val (.long y1), .second, .val (.int (4 : Int32))] [(.ref b92), (.int (4 : Int32)), (.ref b9)])) _
    refine st96 _ ?_
    show Steps p.tables e below (T96.setTop (mkF m 65 #[.val (.ref o0), .val (.long y1), .second, .val (.int (4 : Int32))] [])) _
    refine XS.iinc X96.here hx rfl (hb hby dd_prog_49_method_1_code_65) rfl (l' := #[.val (.ref o0), .val (.long y1), .second, .val (.int (5 : Int32))]) rfl ?_
    refine XS.goto X96.here hx rfl (pc0 := 68) (pc' := 48) rfl (hb hby dd_prog_49_method_1_code_68) (by decide) (by decide) ?_
    refine XS.iloadN X96.here hx rfl (hb hby dd_prog_49_method_1_code_48) rfl ?_
    show Steps p.tables e below (T96.setTop (mkF m 49 #[.val (.ref o0), .val (.long y1), .second, .val (.int (5 : Int32))] [(.int (5 : Int32))])) _
    refine XS.bipush X96.here hx rfl (hb hby dd_prog_49_method_1_code_49) ?_
    refine XS.icmpNo X96.here hx rfl (hb hby dd_prog_49_method_1_code_51) rfl (tlt (by decide : (5 : Int32) < (8 : Int32))).2.1 ?_
    refine XS.aloadN X96.here hx rfl (hb hby dd_prog_49_method_1_code_54) rfl rfl ?_
    show Steps p.tables e below (T96.setTop (mkF m 55 #[.val (.ref o0), .val (.long y1), .second, .val (.int (5 : Int32))] [(.ref o0)])) _
    refine st98 _ ?_
    show Steps p.tables e below (T98.setTop (mkF m 58 #[.val (.ref o0), .val (.long y1), .second, .val (.int (5 : Int32))] [(.ref b9)])) _
    refine XS.iloadN X98.here hx rfl (hb hby dd_prog_49_method_1_code_58) rfl ?_
    refine XS.bipush X98.here hx rfl (hb hby dd_prog_49_method_1_code_59) ?_
    show Steps p.tables e below (T98.setTop (mkF m 61 #[.val (.ref o0), .val (.long y1), .second, .val (.int (5 : Int32))] [(.int (16 : Int32)), (.int (5 : Int32)), (.ref b9)])) _
    refine st108 _ ?_
    show Steps p.tables e below (T108.setTop (mkF m 64 #[.val (.ref o0), .val (.long y1), .second, .val (.int (5 : Int32))] [(.ref b108), (.int (5 : Int32)), (.ref b9)])) _
    refine st112 _ ?_
    show Steps p.tables e below (T112.setTop (mkF m 65 #[.val (.ref o0), .val (.long y1), .second, .val (.int (5 : Int32))] [])) _
    refine XS.iinc X112.here hx rfl (hb hby dd_prog_49_method_1_code_65) rfl (l' := #[.val (.ref o0), .val (.long y1), .second, .val (.int (6 : Int32))]) rfl ?_
    show Steps p.tables e below (T112.setTop (mkF m 68 #[.val (.ref o0), .val (.long y1), .second, .val (.int (6 : Int32))] [])) _
    refine XS.goto X112.here hx rfl (pc0 := 68) (pc' := 48) rfl (hb hby dd_prog_49_method_1_code_68) (by decide) (by decide) ?_
    refine XS.iloadN X112.here hx rfl (hb hby dd_prog_49_method_1_code_48) rfl ?_
    refine XS.bipush X112.here hx rfl (hb hby dd_prog_49_method_1_code_49) ?_
    show Steps p.tables e below (T112.setTop (mkF m 51 #[.val (.ref o0), .val (.long y1), .second, .val (.int (6 : Int32))] [(.int (8 : Int32)), (.int (6 : Int32))])) _
    refine XS.icmpNo X112.here hx rfl (hb hby dd_prog_49_method_1_code_51) rfl (tlt (by decide : (6 : Int32) < (8 : Int32))).2.1 ?_
    refine XS.aloadN X112.here hx rfl (hb hby dd_prog_49_method_1_code_54) rfl rfl ?_
    show Steps p.tables e below (T112.setTop (mkF m 55 #[.val (.ref o0), .val (.long y1), .second, .val (.int (6 : Int32))] [(.ref o0)])) _
    refine st114 _ ?_
    show Steps p.tables e below (T114.setTop (mkF m 58 #[.val (.ref o0), .val (.long y1), .second, .val (.int (6 : Int32))] [(.ref b9)])) _
    refine XS.iloadN X114.here hx rfl (hb hby dd_prog_49_method_1_code_58) rfl ?_
    refine XS.bipush X114.here hx rfl (hb hby dd_prog_49_method_1_code_59) ?_
    show Steps p.tables e below (T114.setTop (mkF m 61 #[.val (.ref o0), .val (.long y1), .second, .val (.int (6 : Int32))] [(.int (16 : Int32)), (.int (6 : Int32)), (.ref b9)])) _
    refine st125 _ ?_
    show Steps p.tables e below (T125.setTop (mkF m 64 #[.val (.ref o0), .val (.long y1), .second, .val (.int (6 : Int32))] [(.ref b125), (.int (6 : Int32)), (.ref b9)])) _
    refine st129 _ ?_
    show Steps p.tables e below (T129.setTop (mkF m 65 #[.val (.ref o0), .val (.long y1), .second, .val (.int (6 : Int32))] [])) _
    refine XS.iinc X129.here hx rfl (hb hby dd_prog_49_method_1_code_65) rfl (l' := #[.val (.ref o0), .val (.long y1), .second, .val (.int (7 : Int32))]) rfl ?_
    refine XS.goto X129.here hx rfl (pc0 := 68) (pc' := 48) rfl (hb hby dd_prog_49_method_1_code_68) (by decide) (by decide) ?_
    show Steps p.tables e below (T129.setTop (mkF m 48 #[.val (.ref o0), .val (.long y1), .second, .val (.int (7 : Int32))] [])) _
    refine XS.iloadN X129.here hx rfl (hb hby dd_prog_49_method_1_code_48) rfl ?_
    refine XS.bipush X129.here hx rfl (hb hby dd_prog_49_method_1_code_49) ?_
    refine XS.icmpNo X129.here hx rfl (hb hby dd_prog_49_method_1_code_51) rfl (tlt (by decide : (7 : Int32) < (8 : Int32))).2.1 ?_
    show Steps p.tables e below (T129.setTop (mkF m 54 #[.val (.ref o0), .val (.long y1), .second, .val (.int (7 : Int32))] [])) _
    refine XS.aloadN X129.here hx rfl (hb hby dd_prog_49_method_1_code_54) rfl rfl ?_
    show Steps p.tables e below (T129.setTop (mkF m 55 #[.val (.ref o0), .val (.long y1), .second, .val (.int (7 : Int32))] [(.ref o0)])) _
    refine st131 _ ?_
    show Steps p.tables e below (T131.setTop (mkF m 58 #[.val (.ref o0), .val (.long y1), .second, .val (.int (7 : Int32))] [(.ref b9)])) _
    refine XS.iloadN X131.here hx rfl (hb hby dd_prog_49_method_1_code_58) rfl ?_
    show Steps p.tables e below (T131.setTop (mkF m 59 #[.val (.ref o0), .val (.long y1), .second, .val (.int (7 : Int32))] [(.int (7 : Int32)), (.ref b9)])) _
    refine XS.bipush X131.here hx rfl (hb hby dd_prog_49_method_1_code_59) ?_
    show Steps p.tables e below (T131.setTop (mkF m 61 #[.val (.ref o0), .val (.long y1), .second, .val (.int (7 : Int32))] [(.int (16 : Int32)), (.int (7 : Int32)), (.ref b9)])) _
    refine st143 _ ?_
    show Steps p.tables e below (T143.setTop (mkF m 64 #[.val (.ref o0), .val (.long y1), .second, .val (.int (7 : Int32))] [(.ref b143), (.int (7 : Int32)), (.ref b9)])) _
    refine st147 _ ?_
    show Steps p.tables e below (T147.setTop (mkF m 65 #[.val (.ref o0), .val (.long y1), .second, .val (.int (7 : Int32))] [])) _
    refine XS.iinc X147.here hx rfl (hb hby dd_prog_49_method_1_code_65) rfl (l' := #[.val (.ref o0), .val (.long y1), .second, .val (.int (8 : Int32))]) rfl ?_
    refine XS.goto X147.here hx rfl (pc0 := 68) (pc' := 48) rfl (hb hby dd_prog_49_method_1_code_68) (by decide) (by decide) ?_
    refine XS.iloadN X147.here hx rfl (hb hby dd_prog_49_method_1_code_48) rfl ?_
    show Steps p.tables e below (T147.setTop (mkF m 49 #[.val (.ref o0), .val (.long y1), .second, .val (.int (8 : Int32))] [(.int (8 : Int32))])) _
    refine XS.bipush X147.here hx rfl (hb hby dd_prog_49_method_1_code_49) ?_
    refine XS.icmpYes X147.here hx rfl (pc0 := 51) (pc' := 71) rfl (hb hby dd_prog_49_method_1_code_51) rfl (flt (by decide : ¬ ((8 : Int32) < (8 : Int32)))).2.1 (by decide) (by decide) ?_
    show Steps p.tables e below (T147.setTop (mkF m 71 #[.val (.ref o0), .val (.long y1), .second, .val (.int (8 : Int32))] [])) _
    exact X147.returnOut hx Bd.returns (hb hby dd_prog_49_method_1_code_71) lhr
  · skip
    show QA1 Z o0 y1 u100 u101 u102 u103 h0 n0 _ T147.heap _
    rw [e147]
    exact ⟨b2, b9, b16, b24, b38, b50, b63, b77, b92, b108, b125, b143, _, _, _, _, _, _, _, _, _, _, _, rfl, N147, K147, sz_b2, sz_b9, sz_b16, sz_b24, sz_b38, sz_b50, sz_b63, sz_b77, sz_b92, sz_b108, sz_b125, sz_b143, ne_b2_b9, ne_b2_b16, ne_b2_b24, ne_b2_b38, ne_b2_b50, ne_b2_b63, ne_b2_b77, ne_b2_b92, ne_b2_b108, ne_b2_b125, ne_b2_b143, ne_b9_b16, ne_b9_b24, ne_b9_b38, ne_b9_b50, ne_b9_b63, ne_b9_b77, ne_b9_b92, ne_b9_b108, ne_b9_b125, ne_b9_b143, ne_b16_b24, ne_b16_b38, ne_b16_b50, ne_b16_b63, ne_b16_b77, ne_b16_b92, ne_b16_b108, ne_b16_b125, ne_b16_b143, ne_b24_b38, ne_b24_b50, ne_b24_b63, ne_b24_b77, ne_b24_b92, ne_b24_b108, ne_b24_b125, ne_b24_b143, ne_b38_b50, ne_b38_b63, ne_b38_b77, ne_b38_b92, ne_b38_b108, ne_b38_b125, ne_b38_b143, ne_b50_b63, ne_b50_b77, ne_b50_b92, ne_b50_b108, ne_b50_b125, ne_b50_b143, ne_b63_b77, ne_b63_b92, ne_b63_b108, ne_b63_b125, ne_b63_b143, ne_b77_b92, ne_b77_b108, ne_b77_b125, ne_b77_b143, ne_b92_b108, ne_b92_b125, ne_b92_b143, ne_b108_b125, ne_b108_b143, ne_b125_b143, f148, f149, f150, V147, f151, f152, f153, f154, f155, f156, f157, f158, f159, f160, f161, f162, f163, f164, f165, f166, f167, f168, f169, f170, f171, f172, f173, f174, f175, f176, f177, f178, f179, f180, f181, f182, f183, f184, f185, f186, f187, f188⟩
theorem efa_prog_49_method_5_code_vv (m : MethodId) (x0 : Addr) (x1 : Int64) : entryFrame m #[(.ref x0), (.long x1)] 4 = mkF m 0 #[.val (.ref x0), .val (.long x1), .second, .unset] [] := by first | (simp [entryFrame, mkF, argsToLocals, Value.category]; done) | rfl
theorem dd_prog_49_method_5_code_0 : decode prog_49_method_5_code 0 = .ok (.aload_n 0, 1) := by decide +kernel
theorem dd_prog_49_method_5_code_1 : decode prog_49_method_5_code 1 = .ok (.getfield 85, 3) := by decide +kernel
theorem dd_prog_49_method_5_code_4 : decode prog_49_method_5_code 4 = .ok (.aload_n 0, 1) := by decide +kernel
theorem dd_prog_49_method_5_code_5 : decode prog_49_method_5_code 5 = .ok (.getfield 88, 3) := by decide +kernel
theorem dd_prog_49_method_5_code_8 : decode prog_49_method_5_code 8 = .ok (.if_icmp .ne 13, 3) := by decide +kernel
theorem dd_prog_49_method_5_code_11 : decode prog_49_method_5_code 11 = .ok (.aload_n 0, 1) := by decide +kernel
theorem dd_prog_49_method_5_code_12 : decode prog_49_method_5_code 12 = .ok (.lload_n 1, 1) := by decide +kernel
theorem dd_prog_49_method_5_code_13 : decode prog_49_method_5_code 13 = .ok (.aload_n 0, 1) := by decide +kernel
theorem dd_prog_49_method_5_code_14 : decode prog_49_method_5_code 14 = .ok (.getfield 31, 3) := by decide +kernel
theorem dd_prog_49_method_5_code_17 : decode prog_49_method_5_code 17 = .ok (.ldiv, 1) := by decide +kernel
theorem dd_prog_49_method_5_code_18 : decode prog_49_method_5_code 18 = .ok (.invokevirtual 91, 3) := by decide +kernel
theorem efa_prog_49_method_8_code_vv (m : MethodId) (x0 : Addr) (x1 : Int64) : entryFrame m #[(.ref x0), (.long x1)] 5 = mkF m 0 #[.val (.ref x0), .val (.long x1), .second, .unset, .unset] [] := by first | (simp [entryFrame, mkF, argsToLocals, Value.category]; done) | rfl
theorem dd_prog_49_method_8_code_0 : decode prog_49_method_8_code 0 = .ok (.aload_n 0, 1) := by decide +kernel
theorem dd_prog_49_method_8_code_1 : decode prog_49_method_8_code 1 = .ok (.getfield 81, 3) := by decide +kernel
theorem dd_prog_49_method_8_code_4 : decode prog_49_method_8_code 4 = .ok (.ifCond .eq 16, 3) := by decide +kernel
theorem dd_prog_49_method_8_code_20 : decode prog_49_method_8_code 20 = .ok (.aload_n 0, 1) := by decide +kernel
theorem dd_prog_49_method_8_code_21 : decode prog_49_method_8_code 21 = .ok (.invokevirtual 99, 3) := by decide +kernel
theorem efa_prog_49_method_9_code_v (m : MethodId) (x0 : Addr) : entryFrame m #[(.ref x0)] 2 = mkF m 0 #[.val (.ref x0), .unset] [] := by first | (simp [entryFrame, mkF, argsToLocals, Value.category]; done) | rfl
theorem dd_prog_49_method_9_code_0 : decode prog_49_method_9_code 0 = .ok (.aload_n 0, 1) := by decide +kernel
theorem dd_prog_49_method_9_code_1 : decode prog_49_method_9_code 1 = .ok (.getfield 28, 3) := by decide +kernel
theorem dd_prog_49_method_9_code_4 : decode prog_49_method_9_code 4 = .ok (.arraylength, 1) := by decide +kernel
theorem dd_prog_49_method_9_code_5 : decode prog_49_method_9_code 5 = .ok (.aload_n 0, 1) := by decide +kernel
theorem dd_prog_49_method_9_code_6 : decode prog_49_method_9_code 6 = .ok (.getfield 81, 3) := by decide +kernel
theorem dd_prog_49_method_9_code_9 : decode prog_49_method_9_code 9 = .ok (.if_icmp .ge 14, 3) := by decide +kernel
theorem dd_prog_49_method_9_code_23 : decode prog_49_method_9_code 23 = .ok (.aload_n 0, 1) := by decide +kernel
theorem dd_prog_49_method_9_code_24 : decode prog_49_method_9_code 24 = .ok (.iconst 0, 1) := by decide +kernel
theorem dd_prog_49_method_9_code_25 : decode prog_49_method_9_code 25 = .ok (.putfield 88, 3) := by decide +kernel
theorem dd_prog_49_method_9_code_28 : decode prog_49_method_9_code 28 = .ok (.iconst 0, 1) := by decide +kernel
theorem dd_prog_49_method_9_code_29 : decode prog_49_method_9_code 29 = .ok (.istore_n 1, 1) := by decide +kernel
theorem dd_prog_49_method_9_code_30 : decode prog_49_method_9_code 30 = .ok (.iload_n 1, 1) := by decide +kernel
theorem dd_prog_49_method_9_code_31 : decode prog_49_method_9_code 31 = .ok (.bipush 8, 2) := by decide +kernel
theorem dd_prog_49_method_9_code_33 : decode prog_49_method_9_code 33 = .ok (.if_icmp .ge 76, 3) := by decide +kernel
theorem dd_prog_49_method_9_code_36 : decode prog_49_method_9_code 36 = .ok (.aload_n 0, 1) := by decide +kernel
theorem dd_prog_49_method_9_code_37 : decode prog_49_method_9_code 37 = .ok (.getfield 18, 3) := by decide +kernel
theorem dd_prog_49_method_9_code_40 : decode prog_49_method_9_code 40 = .ok (.iload_n 1, 1) := by decide +kernel
theorem dd_prog_49_method_9_code_41 : decode prog_49_method_9_code 41 = .ok (.aaload, 1) := by decide +kernel
theorem dd_prog_49_method_9_code_42 : decode prog_49_method_9_code 42 = .ok (.iconst 0, 1) := by decide +kernel
theorem dd_prog_49_method_9_code_43 : decode prog_49_method_9_code 43 = .ok (.aload_n 0, 1) := by decide +kernel
theorem dd_prog_49_method_9_code_44 : decode prog_49_method_9_code 44 = .ok (.getfield 28, 3) := by decide +kernel
theorem dd_prog_49_method_9_code_47 : decode prog_49_method_9_code 47 = .ok (.aload_n 0, 1) := by decide +kernel
theorem dd_prog_49_method_9_code_48 : decode prog_49_method_9_code 48 = .ok (.getfield 88, 3) := by decide +kernel
theorem dd_prog_49_method_9_code_51 : decode prog_49_method_9_code 51 = .ok (.aload_n 0, 1) := by decide +kernel
theorem dd_prog_49_method_9_code_52 : decode prog_49_method_9_code 52 = .ok (.getfield 22, 3) := by decide +kernel
theorem dd_prog_49_method_9_code_55 : decode prog_49_method_9_code 55 = .ok (.iload_n 1, 1) := by decide +kernel
theorem dd_prog_49_method_9_code_56 : decode prog_49_method_9_code 56 = .ok (.iaload, 1) := by decide +kernel
theorem dd_prog_49_method_9_code_57 : decode prog_49_method_9_code 57 = .ok (.invokestatic 75, 3) := by decide +kernel
theorem dd_prog_49_method_9_code_60 : decode prog_49_method_9_code 60 = .ok (.aload_n 0, 1) := by decide +kernel
theorem dd_prog_49_method_9_code_61 : decode prog_49_method_9_code 61 = .ok (.dup, 1) := by decide +kernel
theorem dd_prog_49_method_9_code_62 : decode prog_49_method_9_code 62 = .ok (.getfield 88, 3) := by decide +kernel
theorem dd_prog_49_method_9_code_65 : decode prog_49_method_9_code 65 = .ok (.aload_n 0, 1) := by decide +kernel
theorem dd_prog_49_method_9_code_66 : decode prog_49_method_9_code 66 = .ok (.getfield 22, 3) := by decide +kernel
theorem dd_prog_49_method_9_code_69 : decode prog_49_method_9_code 69 = .ok (.iload_n 1, 1) := by decide +kernel
theorem dd_prog_49_method_9_code_70 : decode prog_49_method_9_code 70 = .ok (.iaload, 1) := by decide +kernel
theorem dd_prog_49_method_9_code_71 : decode prog_49_method_9_code 71 = .ok (.iadd, 1) := by decide +kernel
theorem dd_prog_49_method_9_code_72 : decode prog_49_method_9_code 72 = .ok (.putfield 88, 3) := by decide +kernel
theorem dd_prog_49_method_9_code_75 : decode prog_49_method_9_code 75 = .ok (.aload_n 0, 1) := by decide +kernel
theorem dd_prog_49_method_9_code_76 : decode prog_49_method_9_code 76 = .ok (.getfield 18, 3) := by decide +kernel
theorem dd_prog_49_method_9_code_79 : decode prog_49_method_9_code 79 = .ok (.iload_n 1, 1) := by decide +kernel
theorem dd_prog_49_method_9_code_80 : decode prog_49_method_9_code 80 = .ok (.aload_n 0, 1) := by decide +kernel
theorem dd_prog_49_method_9_code_81 : decode prog_49_method_9_code 81 = .ok (.getfield 18, 3) := by decide +kernel
theorem dd_prog_49_method_9_code_84 : decode prog_49_method_9_code 84 = .ok (.iload_n 1, 1) := by decide +kernel
theorem dd_prog_49_method_9_code_85 : decode prog_49_method_9_code 85 = .ok (.aaload, 1) := by decide +kernel
theorem dd_prog_49_method_9_code_86 : decode prog_49_method_9_code 86 = .ok (.aload_n 0, 1) := by decide +kernel
theorem dd_prog_49_method_9_code_87 : decode prog_49_method_9_code 87 = .ok (.getfield 22, 3) := by decide +kernel
theorem dd_prog_49_method_9_code_90 : decode prog_49_method_9_code 90 = .ok (.iload_n 1, 1) := by decide +kernel
theorem dd_prog_49_method_9_code_91 : decode prog_49_method_9_code 91 = .ok (.iaload, 1) := by decide +kernel
theorem dd_prog_49_method_9_code_92 : decode prog_49_method_9_code 92 = .ok (.invokestatic 102, 3) := by decide +kernel
theorem efa_prog_49_method_10_code_vv (m : MethodId) (x0 : Addr) (x1 : Int32) : entryFrame m #[(.ref x0), (.int x1)] 3 = mkF m 0 #[.val (.ref x0), .val (.int x1), .unset] [] := by first | (simp [entryFrame, mkF, argsToLocals, Value.category]; done) | rfl
theorem dd_prog_49_method_10_code_0 : decode prog_49_method_10_code 0 = .ok (.aload_n 0, 1) := by decide +kernel
theorem dd_prog_49_method_10_code_1 : decode prog_49_method_10_code 1 = .ok (.arraylength, 1) := by decide +kernel
theorem dd_prog_49_method_10_code_2 : decode prog_49_method_10_code 2 = .ok (.bipush 16, 2) := by decide +kernel
theorem dd_prog_49_method_10_code_4 : decode prog_49_method_10_code 4 = .ok (.if_icmp .le 26, 3) := by decide +kernel
theorem dd_prog_49_method_10_code_30 : decode prog_49_method_10_code 30 = .ok (.aload_n 0, 1) := by decide +kernel
theorem dd_prog_49_method_10_code_31 : decode prog_49_method_10_code 31 = .ok (.iconst 0, 1) := by decide +kernel
theorem dd_prog_49_method_10_code_32 : decode prog_49_method_10_code 32 = .ok (.iload_n 1, 1) := by decide +kernel
theorem dd_prog_49_method_10_code_33 : decode prog_49_method_10_code 33 = .ok (.aconst_null, 1) := by decide +kernel
theorem dd_prog_49_method_10_code_34 : decode prog_49_method_10_code 34 = .ok (.invokestatic 109, 3) := by decide +kernel
theorem efa_jdk_65_method_118_code_vvvn (m : MethodId) (x0 : Addr) (x1 : Int32) (x2 : Int32) : entryFrame m #[(.ref x0), (.int x1), (.int x2), .null] 5 = mkF m 0 #[.val (.ref x0), .val (.int x1), .val (.int x2), .val .null, .unset] [] := by first | (simp [entryFrame, mkF, argsToLocals, Value.category]; done) | rfl
theorem dd_jdk_65_method_118_code_0 : decode jdk_65_method_118_code 0 = .ok (.aload_n 0, 1) := by decide +kernel
theorem dd_jdk_65_method_118_code_1 : decode jdk_65_method_118_code 1 = .ok (.arraylength, 1) := by decide +kernel
theorem dd_jdk_65_method_118_code_2 : decode jdk_65_method_118_code 2 = .ok (.iload_n 1, 1) := by decide +kernel
theorem dd_jdk_65_method_118_code_3 : decode jdk_65_method_118_code 3 = .ok (.iload_n 2, 1) := by decide +kernel
theorem dd_jdk_65_method_118_code_4 : decode jdk_65_method_118_code 4 = .ok (.invokestatic 13, 3) := by decide +kernel
theorem efa_jdk_65_method_30_code_vvv (m : MethodId) (x0 : Int32) (x1 : Int32) (x2 : Int32) : entryFrame m #[(.int x0), (.int x1), (.int x2)] 3 = mkF m 0 #[.val (.int x0), .val (.int x1), .val (.int x2)] [] := by first | (simp [entryFrame, mkF, argsToLocals, Value.category]; done) | rfl
theorem dd_jdk_65_method_30_code_0 : decode jdk_65_method_30_code 0 = .ok (.iload_n 1, 1) := by decide +kernel
theorem dd_jdk_65_method_30_code_1 : decode jdk_65_method_30_code 1 = .ok (.iload_n 2, 1) := by decide +kernel
theorem dd_jdk_65_method_30_code_2 : decode jdk_65_method_30_code 2 = .ok (.if_icmp .le 44, 3) := by decide +kernel
theorem dd_jdk_65_method_30_code_46 : decode jdk_65_method_30_code 46 = .ok (.iload_n 1, 1) := by decide +kernel
theorem dd_jdk_65_method_30_code_47 : decode jdk_65_method_30_code 47 = .ok (.ifCond .ge 12, 3) := by decide +kernel
theorem dd_jdk_65_method_30_code_59 : decode jdk_65_method_30_code 59 = .ok (.iload_n 2, 1) := by decide +kernel
theorem dd_jdk_65_method_30_code_60 : decode jdk_65_method_30_code 60 = .ok (.iload_n 0, 1) := by decide +kernel
theorem dd_jdk_65_method_30_code_61 : decode jdk_65_method_30_code 61 = .ok (.if_icmp .le 12, 3) := by decide +kernel
theorem dd_jdk_65_method_30_code_73 : decode jdk_65_method_30_code 73 = .ok (.return_, 1) := by decide +kernel
def QA8 (Z : State)  (h0 : Heap) (n0 : Nat) (v : Option Value) (h : Heap) (L : List Loc) : Prop := v = none ∧ Fr n0 L ∧ h = h0
set_option maxRecDepth 65536 in
set_option maxHeartbeats 40000000 in
theorem rmA8 (l : Launch) (Z : State) (a0 : Array Value) (hw : ∀ d ∈ tables_1, d.before a0 Z = true) (ws : List Jvm.Cond)  (h0 : Heap) (n0 : Nat) (Z0 : n0 ≤ h0.size) :
    MetFree l mn9 (head1 (Jvm.Cond.code mn9 jdk_65_method_30_code 3 none :: ws) ({ frames := 0, cells := 0, slots := 0, locals := 0 } : Room)) (fun a U => a = #[(.int (16 : Int32)), (.int (0 : Int32)), (.int (0 : Int32))] ∧ Z.Warmed39 U.vm ∧ U.heap = h0) (fun _ _ _ _ _ => True) (fun _ U oc_ U' => ∃ v L, oc_ = .returned v ∧ QA8 Z  h0 n0 v U'.heap L ∧ FrameEnd U oc_ U' L ({ frames := 0, cells := 0, slots := 0, locals := 0 } : Room).cells ({ frames := 0, cells := 0, slots := 0, locals := 0 } : Room).slots) := by
  refine MetFree.of_bodySF (plainFor_of_name pn_java_util_Arrays) hisR ?_
  intro p e s m args below meth c s₁ Bd hml0 hP hK
  obtain ⟨rfl, hZ, hh⟩ := hP
  have hx := Bd.exec
  have hby := Bd.bytes
  have hml : c.maxLocals = 3 := hml0
  have hown : s.vm.findClass "java/util/Arrays" = some m.cls := findClass_of_methodNamed Bd.named
  have hnm := (name_of_methodNamed Bd.named Bd.method).1
  have X0 : Stand p l e ({ frames := 0, cells := 0, slots := 0, locals := 0 } : Room) s m #[(.int (16 : Int32)), (.int (0 : Int32)), (.int (0 : Int32))] below meth c s₁ [] 0 0 := Stand.of_body Bd
  have e0 : s₁.heap = h0 := by rw [← hh, Bd.state]; rfl
  have N0 := Fr.nil n0
  have pre0 : ∀ t, Steps p.tables e below (s₁.setTop (mkF m 0 #[.val (.int (16 : Int32)), .val (.int (0 : Int32)), .val (.int (0 : Int32))] [])) t → Steps p.tables e below (s₁.setTop (entryFrame m #[(.int (16 : Int32)), (.int (0 : Int32)), (.int (0 : Int32))] 3)) t := fun t k => castTop (efa_jdk_65_method_30_code_vvv m (16 : Int32) (0 : Int32) (0 : Int32)) k
  obtain ⟨lfs, lhr, lhrun, lhended, lhW, lhsame⟩ := X0.leave (v := none) (fun _ => rfl)
  refine ⟨_, _, pre0 _ ?_, lhrun, lhended, _, _, rfl, ?_, ⟨_, rfl⟩, lhW, lhsame.mono (by decide) (by decide)⟩
  · skip
    show Steps p.tables e below (s₁.setTop (mkF m 0 #[.val (.int (16 : Int32)), .val (.int (0 : Int32)), .val (.int (0 : Int32))] [])) _
    refine XS.iloadN X0.here hx rfl (hb hby dd_jdk_65_method_30_code_0) rfl ?_
    refine XS.iloadN X0.here hx rfl (hb hby dd_jdk_65_method_30_code_1) rfl ?_
    show Steps p.tables e below (s₁.setTop (mkF m 2 #[.val (.int (16 : Int32)), .val (.int (0 : Int32)), .val (.int (0 : Int32))] [(.int (0 : Int32)), (.int (0 : Int32))])) _
    refine XS.icmpYes X0.here hx rfl (pc0 := 2) (pc' := 46) rfl (hb hby dd_jdk_65_method_30_code_2) rfl (flt (by decide : ¬ ((0 : Int32) < (0 : Int32)))).2.2.2 (by decide) (by decide) ?_
    refine XS.iloadN X0.here hx rfl (hb hby dd_jdk_65_method_30_code_46) rfl ?_
    refine XS.ifYes X0.here hx rfl (pc0 := 47) (pc' := 59) rfl (hb hby dd_jdk_65_method_30_code_47) rfl ((if0 _ _).trans (flt (by decide : ¬ ((0 : Int32) < (0 : Int32)))).2.1) (by decide) (by decide) ?_
    show Steps p.tables e below (s₁.setTop (mkF m 59 #[.val (.int (16 : Int32)), .val (.int (0 : Int32)), .val (.int (0 : Int32))] [])) _
    refine XS.iloadN X0.here hx rfl (hb hby dd_jdk_65_method_30_code_59) rfl ?_
    refine XS.iloadN X0.here hx rfl (hb hby dd_jdk_65_method_30_code_60) rfl ?_
    refine XS.icmpYes X0.here hx rfl (pc0 := 61) (pc' := 73) rfl (hb hby dd_jdk_65_method_30_code_61) rfl (flt (by decide : ¬ ((16 : Int32) < (0 : Int32)))).2.2.2 (by decide) (by decide) ?_
    show Steps p.tables e below (s₁.setTop (mkF m 73 #[.val (.int (16 : Int32)), .val (.int (0 : Int32)), .val (.int (0 : Int32))] [])) _
    exact X0.returnOut hx Bd.returns (hb hby dd_jdk_65_method_30_code_73) lhr
  · skip
    show QA8 Z  h0 n0 _ s₁.heap _
    rw [e0]
    exact ⟨rfl, N0, rfl⟩
theorem dd_jdk_65_method_118_code_7 : decode jdk_65_method_118_code 7 = .ok (.iload_n 1, 1) := by decide +kernel
theorem dd_jdk_65_method_118_code_8 : decode jdk_65_method_118_code 8 = .ok (.istore 4, 2) := by decide +kernel
theorem dd_jdk_65_method_118_code_10 : decode jdk_65_method_118_code 10 = .ok (.iload 4, 2) := by decide +kernel
theorem dd_jdk_65_method_118_code_12 : decode jdk_65_method_118_code 12 = .ok (.iload_n 2, 1) := by decide +kernel
theorem dd_jdk_65_method_118_code_13 : decode jdk_65_method_118_code 13 = .ok (.if_icmp .ge 14, 3) := by decide +kernel
theorem dd_jdk_65_method_118_code_27 : decode jdk_65_method_118_code 27 = .ok (.return_, 1) := by decide +kernel
def QA7 (Z : State) (o0 : Addr) (kk_o0 : ClassId) (h0 : Heap) (n0 : Nat) (v : Option Value) (h : Heap) (L : List Loc) : Prop := v = none ∧ Fr n0 L ∧ h = h0
set_option maxRecDepth 65536 in
set_option maxHeartbeats 40000000 in
theorem rmA7 (l : Launch) (Z : State) (a0 : Array Value) (hw : ∀ d ∈ tables_1, d.before a0 Z = true) (ws : List Jvm.Cond) (o0 : Addr) (kk_o0 : ClassId) (h0 : Heap) (n0 : Nat) (Z0 : n0 ≤ h0.size) (V_o0 : Arv Z h0 o0 kk_o0 (.object cn6) (16 : Int32) [] .null) :
    MetFree l mn8 (head1 (Jvm.Cond.code mn8 jdk_65_method_118_code 5 none :: ws) ({ frames := 1, cells := 0, slots := 0, locals := 14 } : Room)) (fun a U => a = #[(.ref o0), (.int (0 : Int32)), (.int (0 : Int32)), .null] ∧ Z.Warmed39 U.vm ∧ U.heap = h0) (fun _ _ _ _ _ => True) (fun _ U oc_ U' => ∃ v L, oc_ = .returned v ∧ QA7 Z o0 kk_o0 h0 n0 v U'.heap L ∧ FrameEnd U oc_ U' L ({ frames := 1, cells := 0, slots := 0, locals := 14 } : Room).cells ({ frames := 1, cells := 0, slots := 0, locals := 14 } : Room).slots) := by
  refine MetFree.of_bodySF (plainFor_of_name pn_java_util_Arrays) hisR ?_
  intro p e s m args below meth c s₁ Bd hml0 hP hK
  obtain ⟨rfl, hZ, hh⟩ := hP
  have hx := Bd.exec
  have hby := Bd.bytes
  have hml : c.maxLocals = 5 := hml0
  have hown : s.vm.findClass "java/util/Arrays" = some m.cls := findClass_of_methodNamed Bd.named
  have hnm := (name_of_methodNamed Bd.named Bd.method).1
  have X0 : Stand p l e ({ frames := 1, cells := 0, slots := 0, locals := 14 } : Room) s m #[(.ref o0), (.int (0 : Int32)), (.int (0 : Int32)), .null] below meth c s₁ [] 0 0 := Stand.of_body Bd
  have e0 : s₁.heap = h0 := by rw [← hh, Bd.state]; rfl
  have N0 := Fr.nil n0
  have pre0 : ∀ t, Steps p.tables e below (s₁.setTop (mkF m 0 #[.val (.ref o0), .val (.int (0 : Int32)), .val (.int (0 : Int32)), .val .null, .unset] [])) t → Steps p.tables e below (s₁.setTop (entryFrame m #[(.ref o0), (.int (0 : Int32)), (.int (0 : Int32)), .null] 5)) t := fun t k => castTop (efa_jdk_65_method_118_code_vvvn m o0 (0 : Int32) (0 : Int32)) k
  obtain ⟨cl1, Ar1, -, S1, M1, -, -⟩ := id V_o0
  obtain ⟨_, _, ⟨T2, L2, kc2, ks2⟩, -, X2, ⟨Lc2, hQ2, l2, y2, z2⟩, st2⟩ := Jvm.LawKit.callS X0 hx (y := mn9) hown (mvT hZ (wd71 hw)) (mvT hZ (wd72 hw)) (mvT hZ (wd69 hw)) (mvT hZ (wd73 hw)) (by decide) (backOf (W := 0) (rmA8 l Z a0 hw []  h0 n0 Z0 ) hZ (wd73 hw) (wd69 hw) (by decide) (by decide)) (g := (mkF m 4 #[.val (.ref o0), .val (.int (0 : Int32)), .val (.int (0 : Int32)), .val .null, .unset] [(.int (0 : Int32)), (.int (0 : Int32)), (.int (16 : Int32))])) rfl (by rw [hml]; rfl) (argsL := [(.int (16 : Int32)), (.int (0 : Int32)), (.int (0 : Int32))]) (rest := []) (lenOf pd__III_V rfl) rfl (by show 2 * 0 + _ ≤ _; exact Nat.le_of_eq rfl) (hb hby dd_jdk_65_method_118_code_4) (fun _ _ => ⟨rfl, e0, (by decide : 0 + 0 ≤ _), (by decide : 0 + 0 ≤ _)⟩)
  dsimp only [Pt.U, Pt.locs, Pt.cells, Pt.slots] at X2 l2 y2 z2 st2 hQ2
  subst l2 y2 z2
  obtain ⟨rfl, Nq2, eq2⟩ := hQ2
  have N2 := Fr.app N0 Nq2
  obtain ⟨lfs, lhr, lhrun, lhended, lhW, lhsame⟩ := X2.leave (v := none) (fun _ => rfl)
  refine ⟨_, _, pre0 _ ?_, lhrun, lhended, _, _, rfl, ?_, ⟨_, rfl⟩, lhW, lhsame.mono (by decide) (by decide)⟩
  · skip
    show Steps p.tables e below (s₁.setTop (mkF m 0 #[.val (.ref o0), .val (.int (0 : Int32)), .val (.int (0 : Int32)), .val .null, .unset] [])) _
    refine XS.aloadN X0.here hx rfl (hb hby dd_jdk_65_method_118_code_0) rfl rfl ?_
    refine X0.arraylength hx (by (try rw [e0]); exact Ar1.1) (State.isArrayOf_alike hZ.alike Ar1.2.1) (g := (mkF m 1 #[.val (.ref o0), .val (.int (0 : Int32)), .val (.int (0 : Int32)), .val .null, .unset] [(.ref o0)])) rfl rfl (hb hby dd_jdk_65_method_118_code_1) _ ?_
    rw [len_of S1 M1]
    show Steps p.tables e below (s₁.setTop (mkF m 2 #[.val (.ref o0), .val (.int (0 : Int32)), .val (.int (0 : Int32)), .val .null, .unset] [(.int (16 : Int32))])) _
    refine XS.iloadN X0.here hx rfl (hb hby dd_jdk_65_method_118_code_2) rfl ?_
    refine XS.iloadN X0.here hx rfl (hb hby dd_jdk_65_method_118_code_3) rfl ?_
    show Steps p.tables e below (s₁.setTop (mkF m 4 #[.val (.ref o0), .val (.int (0 : Int32)), .val (.int (0 : Int32)), .val .null, .unset] [(.int (0 : Int32)), (.int (0 : Int32)), (.int (16 : Int32))])) _
    refine st2 _ ?_
    show Steps p.tables e below (T2.setTop (mkF m 7 #[.val (.ref o0), .val (.int (0 : Int32)), .val (.int (0 : Int32)), .val .null, .unset] [])) _
    refine XS.iloadN X2.here hx rfl (hb hby dd_jdk_65_method_118_code_7) rfl ?_
    refine XS.istore X2.here hx rfl (hb hby dd_jdk_65_method_118_code_8) rfl (l' := #[.val (.ref o0), .val (.int (0 : Int32)), .val (.int (0 : Int32)), .val .null, .val (.int (0 : Int32))]) rfl ?_
    refine XS.iload X2.here hx rfl (hb hby dd_jdk_65_method_118_code_10) rfl ?_
    show Steps p.tables e below (T2.setTop (mkF m 12 #[.val (.ref o0), .val (.int (0 : Int32)), .val (.int (0 : Int32)), .val .null, .val (.int (0 : Int32))] [(.int (0 : Int32))])) _
    refine XS.iloadN X2.here hx rfl (hb hby dd_jdk_65_method_118_code_12) rfl ?_
    refine XS.icmpYes X2.here hx rfl (pc0 := 13) (pc' := 27) rfl (hb hby dd_jdk_65_method_118_code_13) rfl (flt (by decide : ¬ ((0 : Int32) < (0 : Int32)))).2.1 (by decide) (by decide) ?_
    show Steps p.tables e below (T2.setTop (mkF m 27 #[.val (.ref o0), .val (.int (0 : Int32)), .val (.int (0 : Int32)), .val .null, .val (.int (0 : Int32))] [])) _
    exact X2.returnOut hx Bd.returns (hb hby dd_jdk_65_method_118_code_27) lhr
  · skip
    show QA7 Z o0 kk_o0 h0 n0 _ T2.heap _
    rw [eq2]
    exact ⟨rfl, N2, rfl⟩
theorem dd_prog_49_method_10_code_37 : decode prog_49_method_10_code 37 = .ok (.aload_n 0, 1) := by decide +kernel
theorem dd_prog_49_method_10_code_38 : decode prog_49_method_10_code 38 = .ok (.astore_n 2, 1) := by decide +kernel
theorem dd_prog_49_method_10_code_39 : decode prog_49_method_10_code 39 = .ok (.aload_n 2, 1) := by decide +kernel
theorem dd_prog_49_method_10_code_40 : decode prog_49_method_10_code 40 = .ok (.areturn, 1) := by decide +kernel
def QA6 (Z : State) (o0 : Addr) (kk_o0 : ClassId) (h0 : Heap) (n0 : Nat) (v : Option Value) (h : Heap) (L : List Loc) : Prop := v = some (.ref o0) ∧ Fr n0 L ∧ h = h0
set_option maxRecDepth 65536 in
set_option maxHeartbeats 40000000 in
theorem rmA6 (l : Launch) (Z : State) (a0 : Array Value) (hw : ∀ d ∈ tables_1, d.before a0 Z = true) (ws : List Jvm.Cond) (o0 : Addr) (kk_o0 : ClassId) (h0 : Heap) (n0 : Nat) (Z0 : n0 ≤ h0.size) (V_o0 : Arv Z h0 o0 kk_o0 (.object cn6) (16 : Int32) [] .null) :
    MetFree l mn3 (head1 (Jvm.Cond.code mn3 prog_49_method_10_code 3 (some (.array (.object cn6))) :: ws) ({ frames := 2, cells := 0, slots := 0, locals := 30 } : Room)) (fun a U => a = #[(.ref o0), (.int (0 : Int32))] ∧ Z.Warmed39 U.vm ∧ U.heap = h0) (fun _ _ _ _ _ => True) (fun _ U oc_ U' => ∃ v L, oc_ = .returned v ∧ QA6 Z o0 kk_o0 h0 n0 v U'.heap L ∧ FrameEnd U oc_ U' L ({ frames := 2, cells := 0, slots := 0, locals := 30 } : Room).cells ({ frames := 2, cells := 0, slots := 0, locals := 30 } : Room).slots) := by
  refine MetFree.of_bodySF (plainFor_of_name pn_com_example_strict_limiter_strictlimiter_SweepSchedule) hisR ?_
  intro p e s m args below meth c s₁ Bd hml0 hP hK
  obtain ⟨rfl, hZ, hh⟩ := hP
  have hx := Bd.exec
  have hby := Bd.bytes
  have hml : c.maxLocals = 3 := hml0
  have hown : s.vm.findClass cn2 = some m.cls := findClass_of_methodNamed Bd.named
  have hnm := (name_of_methodNamed Bd.named Bd.method).1
  have X0 : Stand p l e ({ frames := 2, cells := 0, slots := 0, locals := 30 } : Room) s m #[(.ref o0), (.int (0 : Int32))] below meth c s₁ [] 0 0 := Stand.of_body Bd
  have e0 : s₁.heap = h0 := by rw [← hh, Bd.state]; rfl
  have N0 := Fr.nil n0
  have pre0 : ∀ t, Steps p.tables e below (s₁.setTop (mkF m 0 #[.val (.ref o0), .val (.int (0 : Int32)), .unset] [])) t → Steps p.tables e below (s₁.setTop (entryFrame m #[(.ref o0), (.int (0 : Int32))] 3)) t := fun t k => castTop (efa_prog_49_method_10_code_vv m o0 (0 : Int32)) k
  obtain ⟨cl1, Ar1, -, S1, M1, -, -⟩ := id V_o0
  obtain ⟨_, _, ⟨T2, L2, kc2, ks2⟩, -, X2, ⟨Lc2, hQ2, l2, y2, z2⟩, st2⟩ := Jvm.LawKit.callS X0 hx (y := mn8) hown (mvT hZ (wd67 hw)) (mvT hZ (wd68 hw)) (mvT hZ (wd69 hw)) (mvT hZ (wd70 hw)) (by decide) (backOf (W := 0) (rmA7 l Z a0 hw [] o0 _ h0 n0 Z0 V_o0) hZ (wd70 hw) (wd69 hw) (by decide) (by decide)) (g := (mkF m 34 #[.val (.ref o0), .val (.int (0 : Int32)), .unset] [.null, (.int (0 : Int32)), (.int (0 : Int32)), (.ref o0)])) rfl (by rw [hml]; rfl) (argsL := [(.ref o0), (.int (0 : Int32)), (.int (0 : Int32)), .null]) (rest := []) (lenOf pd___Ljava_lang_Object_IILjava_lang_Object__V rfl) rfl (by show 2 * 0 + _ ≤ _; exact Nat.le_of_eq rfl) (hb hby dd_prog_49_method_10_code_34) (fun _ _ => ⟨rfl, e0, (by decide : 0 + 0 ≤ _), (by decide : 0 + 0 ≤ _)⟩)
  dsimp only [Pt.U, Pt.locs, Pt.cells, Pt.slots] at X2 l2 y2 z2 st2 hQ2
  subst l2 y2 z2
  obtain ⟨rfl, Nq2, eq2⟩ := hQ2
  have N2 := Fr.app N0 Nq2
  obtain ⟨lfs, lhr, lhrun, lhended, lhW, lhsame⟩ := X2.leave (v := some (.ref o0)) (fun h => by rw [Bd.returns] at h; cases h)
  refine ⟨_, _, pre0 _ ?_, lhrun, lhended, _, _, rfl, ?_, ⟨_, rfl⟩, lhW, lhsame.mono (by decide) (by decide)⟩
  · skip
    show Steps p.tables e below (s₁.setTop (mkF m 0 #[.val (.ref o0), .val (.int (0 : Int32)), .unset] [])) _
    refine XS.aloadN X0.here hx rfl (hb hby dd_prog_49_method_10_code_0) rfl rfl ?_
    refine X0.arraylength hx (by (try rw [e0]); exact Ar1.1) (State.isArrayOf_alike hZ.alike Ar1.2.1) (g := (mkF m 1 #[.val (.ref o0), .val (.int (0 : Int32)), .unset] [(.ref o0)])) rfl rfl (hb hby dd_prog_49_method_10_code_1) _ ?_
    rw [len_of S1 M1]
    show Steps p.tables e below (s₁.setTop (mkF m 2 #[.val (.ref o0), .val (.int (0 : Int32)), .unset] [(.int (16 : Int32))])) _
    refine XS.bipush X0.here hx rfl (hb hby dd_prog_49_method_10_code_2) ?_
    refine XS.icmpYes X0.here hx rfl (pc0 := 4) (pc' := 30) rfl (hb hby dd_prog_49_method_10_code_4) rfl (flt (by decide : ¬ ((16 : Int32) < (16 : Int32)))).2.2.2 (by decide) (by decide) ?_
    refine XS.aloadN X0.here hx rfl (hb hby dd_prog_49_method_10_code_30) rfl rfl ?_
    show Steps p.tables e below (s₁.setTop (mkF m 31 #[.val (.ref o0), .val (.int (0 : Int32)), .unset] [(.ref o0)])) _
    refine XS.iconst X0.here hx rfl (hb hby dd_prog_49_method_10_code_31) ?_
    refine XS.iloadN X0.here hx rfl (hb hby dd_prog_49_method_10_code_32) rfl ?_
    refine XS.aconstNull X0.here hx rfl (hb hby dd_prog_49_method_10_code_33) ?_
    show Steps p.tables e below (s₁.setTop (mkF m 34 #[.val (.ref o0), .val (.int (0 : Int32)), .unset] [.null, (.int (0 : Int32)), (.int (0 : Int32)), (.ref o0)])) _
    refine st2 _ ?_
    show Steps p.tables e below (T2.setTop (mkF m 37 #[.val (.ref o0), .val (.int (0 : Int32)), .unset] [])) _
    refine XS.aloadN X2.here hx rfl (hb hby dd_prog_49_method_10_code_37) rfl rfl ?_
    refine XS.astoreN X2.here hx rfl (hb hby dd_prog_49_method_10_code_38) rfl rfl (l' := #[.val (.ref o0), .val (.int (0 : Int32)), .val (.ref o0)]) rfl ?_
    show Steps p.tables e below (T2.setTop (mkF m 39 #[.val (.ref o0), .val (.int (0 : Int32)), .val (.ref o0)] [])) _
    refine XS.aloadN X2.here hx rfl (hb hby dd_prog_49_method_10_code_39) rfl rfl ?_
    show Steps p.tables e below (T2.setTop (mkF m 40 #[.val (.ref o0), .val (.int (0 : Int32)), .val (.ref o0)] [(.ref o0)])) _
    exact retOut X2 hx Bd.returns rfl (Or.inr (Or.inr (Or.inr (Or.inr ⟨rfl, rfl, rfl⟩)))) (hb hby dd_prog_49_method_10_code_40) lhr
  · skip
    show QA6 Z o0 kk_o0 h0 n0 _ T2.heap _
    rw [eq2]
    exact ⟨rfl, N2, rfl⟩
theorem dd_prog_49_method_9_code_95 : decode prog_49_method_9_code 95 = .ok (.aastore, 1) := by decide +kernel
theorem dd_prog_49_method_9_code_96 : decode prog_49_method_9_code 96 = .ok (.aload_n 0, 1) := by decide +kernel
theorem dd_prog_49_method_9_code_97 : decode prog_49_method_9_code 97 = .ok (.getfield 22, 3) := by decide +kernel
theorem dd_prog_49_method_9_code_100 : decode prog_49_method_9_code 100 = .ok (.iload_n 1, 1) := by decide +kernel
theorem dd_prog_49_method_9_code_101 : decode prog_49_method_9_code 101 = .ok (.iconst 0, 1) := by decide +kernel
theorem dd_prog_49_method_9_code_102 : decode prog_49_method_9_code 102 = .ok (.iastore, 1) := by decide +kernel
theorem dd_prog_49_method_9_code_103 : decode prog_49_method_9_code 103 = .ok (.iinc 1 1, 3) := by decide +kernel
theorem dd_prog_49_method_9_code_106 : decode prog_49_method_9_code 106 = .ok (.goto (-76), 3) := by decide +kernel
theorem dd_prog_49_method_9_code_109 : decode prog_49_method_9_code 109 = .ok (.aload_n 0, 1) := by decide +kernel
theorem dd_prog_49_method_9_code_110 : decode prog_49_method_9_code 110 = .ok (.iconst 0, 1) := by decide +kernel
theorem dd_prog_49_method_9_code_111 : decode prog_49_method_9_code 111 = .ok (.putfield 81, 3) := by decide +kernel
theorem dd_prog_49_method_9_code_114 : decode prog_49_method_9_code 114 = .ok (.aload_n 0, 1) := by decide +kernel
theorem dd_prog_49_method_9_code_115 : decode prog_49_method_9_code 115 = .ok (.iconst 0, 1) := by decide +kernel
theorem dd_prog_49_method_9_code_116 : decode prog_49_method_9_code 116 = .ok (.putfield 85, 3) := by decide +kernel
theorem dd_prog_49_method_9_code_119 : decode prog_49_method_9_code 119 = .ok (.return_, 1) := by decide +kernel
def QA5 (Z : State) (o0 : Addr) (o1 : Addr) (kk_o1 : ClassId) (o2 : Addr) (o3 : Addr) (o4 : Addr) (o5 : Addr) (o6 : Addr) (o7 : Addr) (o8 : Addr) (o9 : Addr) (o10 : Addr) (kk_o2 : ClassId) (o11 : Addr) (kk_o11 : ClassId) (kk_o3 : ClassId) (kk_o4 : ClassId) (kk_o5 : ClassId) (kk_o6 : ClassId) (kk_o7 : ClassId) (kk_o8 : ClassId) (kk_o9 : ClassId) (kk_o10 : ClassId) (u100 : Value) (u101 : Value) (u102 : Value) (h0 : Heap) (n0 : Nat) (v : Option Value) (h : Heap) (L : List Loc) : Prop := v = none ∧ Fr n0 L ∧ Keep h0 h [o0, o1, o2, o11] ∧ Fld Z h o0 cn2 "taken" cn5 (.ref o1) ∧ Arv Z h o1 kk_o1 (.object cn6) (16 : Int32) [] .null ∧ Fld Z h o0 cn2 "total" "I" (.int (0 : Int32)) ∧ Exa Z h o0 cn2 ∧ Fld Z h o0 cn2 "takenSize" "I" (.int (0 : Int32)) ∧ Fld Z h o0 cn2 "kept" cn4 (.ref o2) ∧ Arv Z h o2 kk_o2 (.array (.object cn6)) (8 : Int32) [(.ref o3), (.ref o4), (.ref o5), (.ref o6), (.ref o7), (.ref o8), (.ref o9), (.ref o10)] .null ∧ Fld Z h o0 cn2 "sizes" "[I" (.ref o11) ∧ Arv Z h o11 kk_o11 .int (8 : Int32) [(.int (0 : Int32)), (.int (0 : Int32)), (.int (0 : Int32)), (.int (0 : Int32)), (.int (0 : Int32)), (.int (0 : Int32)), (.int (0 : Int32)), (.int (0 : Int32))] (.int (0 : Int32)) ∧ Fld Z h o0 cn2 "handed" "I" (.int (0 : Int32)) ∧ Fld Z h o0 cn2 "width" "J" u100 ∧ Fld Z h o0 cn2 "handedIn" cn7 u101 ∧ Fld Z h o0 cn2 "next" "J" u102 ∧ Exa Z h o1 cn5 ∧ Exa Z h o2 cn4
set_option maxRecDepth 65536 in
set_option maxHeartbeats 40000000 in
theorem rmA5 (l : Launch) (Z : State) (a0 : Array Value) (hw : ∀ d ∈ tables_1, d.before a0 Z = true) (ws : List Jvm.Cond) (o0 : Addr) (o1 : Addr) (kk_o1 : ClassId) (o2 : Addr) (o3 : Addr) (o4 : Addr) (o5 : Addr) (o6 : Addr) (o7 : Addr) (o8 : Addr) (o9 : Addr) (o10 : Addr) (kk_o2 : ClassId) (o11 : Addr) (kk_o11 : ClassId) (kk_o3 : ClassId) (kk_o4 : ClassId) (kk_o5 : ClassId) (kk_o6 : ClassId) (kk_o7 : ClassId) (kk_o8 : ClassId) (kk_o9 : ClassId) (kk_o10 : ClassId) (u100 : Value) (u101 : Value) (u102 : Value) (h0 : Heap) (n0 : Nat) (Z0 : n0 ≤ h0.size) (F_o0_taken : Fld Z h0 o0 cn2 "taken" cn5 (.ref o1)) (V_o1 : Arv Z h0 o1 kk_o1 (.object cn6) (16 : Int32) [] .null) (F_o0_total : Fld Z h0 o0 cn2 "total" "I" (.int (0 : Int32))) (E_o0 : Exa Z h0 o0 cn2) (F_o0_takenSize : Fld Z h0 o0 cn2 "takenSize" "I" (.int (0 : Int32))) (g_o0 : n0 ≤ o0) (F_o0_kept : Fld Z h0 o0 cn2 "kept" cn4 (.ref o2)) (V_o2 : Arv Z h0 o2 kk_o2 (.array (.object cn6)) (8 : Int32) [(.ref o3), (.ref o4), (.ref o5), (.ref o6), (.ref o7), (.ref o8), (.ref o9), (.ref o10)] .null) (ne_o2_o0 : o2 ≠ o0) (F_o0_sizes : Fld Z h0 o0 cn2 "sizes" "[I" (.ref o11)) (V_o11 : Arv Z h0 o11 kk_o11 .int (8 : Int32) [(.int (0 : Int32)), (.int (0 : Int32)), (.int (0 : Int32)), (.int (0 : Int32)), (.int (0 : Int32)), (.int (0 : Int32)), (.int (0 : Int32)), (.int (0 : Int32))] (.int (0 : Int32))) (ne_o11_o0 : o11 ≠ o0) (V_o3 : Arv Z h0 o3 kk_o3 (.object cn6) (16 : Int32) [] .null) (ne_o3_o0 : o3 ≠ o0) (ne_o1_o0 : o1 ≠ o0) (g_o1 : n0 ≤ o1) (ne_o11_o1 : o11 ≠ o1) (ne_o2_o1 : o2 ≠ o1) (ne_o3_o1 : o3 ≠ o1) (E_o3 : Exa Z h0 o3 cn5) (OV_o2 : OvrA Z kk_o2 (.object cn6) cn5) (g_o2 : n0 ≤ o2) (ne_o11_o2 : o11 ≠ o2) (g_o11 : n0 ≤ o11) (V_o4 : Arv Z h0 o4 kk_o4 (.object cn6) (16 : Int32) [] .null) (ne_o4_o0 : o4 ≠ o0) (ne_o4_o1 : o4 ≠ o1) (ne_o4_o2 : o4 ≠ o2) (ne_o4_o11 : o4 ≠ o11) (E_o4 : Exa Z h0 o4 cn5) (V_o5 : Arv Z h0 o5 kk_o5 (.object cn6) (16 : Int32) [] .null) (ne_o5_o0 : o5 ≠ o0) (ne_o5_o1 : o5 ≠ o1) (ne_o5_o2 : o5 ≠ o2) (ne_o5_o11 : o5 ≠ o11) (E_o5 : Exa Z h0 o5 cn5) (V_o6 : Arv Z h0 o6 kk_o6 (.object cn6) (16 : Int32) [] .null) (ne_o6_o0 : o6 ≠ o0) (ne_o6_o1 : o6 ≠ o1) (ne_o6_o2 : o6 ≠ o2) (ne_o6_o11 : o6 ≠ o11) (E_o6 : Exa Z h0 o6 cn5) (V_o7 : Arv Z h0 o7 kk_o7 (.object cn6) (16 : Int32) [] .null) (ne_o7_o0 : o7 ≠ o0) (ne_o7_o1 : o7 ≠ o1) (ne_o7_o2 : o7 ≠ o2) (ne_o7_o11 : o7 ≠ o11) (E_o7 : Exa Z h0 o7 cn5) (V_o8 : Arv Z h0 o8 kk_o8 (.object cn6) (16 : Int32) [] .null) (ne_o8_o0 : o8 ≠ o0) (ne_o8_o1 : o8 ≠ o1) (ne_o8_o2 : o8 ≠ o2) (ne_o8_o11 : o8 ≠ o11) (E_o8 : Exa Z h0 o8 cn5) (V_o9 : Arv Z h0 o9 kk_o9 (.object cn6) (16 : Int32) [] .null) (ne_o9_o0 : o9 ≠ o0) (ne_o9_o1 : o9 ≠ o1) (ne_o9_o2 : o9 ≠ o2) (ne_o9_o11 : o9 ≠ o11) (E_o9 : Exa Z h0 o9 cn5) (V_o10 : Arv Z h0 o10 kk_o10 (.object cn6) (16 : Int32) [] .null) (ne_o10_o0 : o10 ≠ o0) (ne_o10_o1 : o10 ≠ o1) (ne_o10_o2 : o10 ≠ o2) (ne_o10_o11 : o10 ≠ o11) (E_o10 : Exa Z h0 o10 cn5) (F_o0_handed : Fld Z h0 o0 cn2 "handed" "I" (.int (0 : Int32))) (F_o0_width : Fld Z h0 o0 cn2 "width" "J" u100) (F_o0_handedIn : Fld Z h0 o0 cn2 "handedIn" cn7 u101) (F_o0_next : Fld Z h0 o0 cn2 "next" "J" u102) (E_o1 : Exa Z h0 o1 cn5) (E_o2 : Exa Z h0 o2 cn4) :
    MetFree l mn5 (head1 (Jvm.Cond.code mn5 prog_49_method_9_code 2 none :: ws) ({ frames := 3, cells := 0, slots := 0, locals := 46 } : Room)) (fun a U => a = #[(.ref o0)] ∧ Z.Warmed39 U.vm ∧ U.heap = h0) (fun _ _ _ _ _ => True) (fun _ U oc_ U' => ∃ v L, oc_ = .returned v ∧ QA5 Z o0 o1 kk_o1 o2 o3 o4 o5 o6 o7 o8 o9 o10 kk_o2 o11 kk_o11 kk_o3 kk_o4 kk_o5 kk_o6 kk_o7 kk_o8 kk_o9 kk_o10 u100 u101 u102 h0 n0 v U'.heap L ∧ FrameEnd U oc_ U' L ({ frames := 3, cells := 0, slots := 0, locals := 46 } : Room).cells ({ frames := 3, cells := 0, slots := 0, locals := 46 } : Room).slots) := by
  refine MetFree.of_bodySF (plainFor_of_name pn_com_example_strict_limiter_strictlimiter_SweepSchedule) hisR ?_
  intro p e s m args below meth c s₁ Bd hml0 hP hK
  obtain ⟨rfl, hZ, hh⟩ := hP
  have hx := Bd.exec
  have hby := Bd.bytes
  have hml : c.maxLocals = 2 := hml0
  have hown : s.vm.findClass cn2 = some m.cls := findClass_of_methodNamed Bd.named
  have hnm := (name_of_methodNamed Bd.named Bd.method).1
  have X0 : Stand p l e ({ frames := 3, cells := 0, slots := 0, locals := 46 } : Room) s m #[(.ref o0)] below meth c s₁ [] 0 0 := Stand.of_body Bd
  have e0 : s₁.heap = h0 := by rw [← hh, Bd.state]; rfl
  have N0 := Fr.nil n0
  have pre0 : ∀ t, Steps p.tables e below (s₁.setTop (mkF m 0 #[.val (.ref o0), .unset] [])) t → Steps p.tables e below (s₁.setTop (entryFrame m #[(.ref o0)] 2)) t := fun t k => castTop (efa_prog_49_method_9_code_v m o0) k
  obtain ⟨T1, X1, e1, st1⟩ := getF X0 hx hZ hown (host := "") (Or.inl (wd36 hw)) Via.refl e0 F_o0_taken (g := (mkF m 1 #[.val (.ref o0), .unset] [(.ref o0)])) rfl rfl (hb hby dd_prog_49_method_9_code_1)
  obtain ⟨cl2, Ar2, -, S2, M2, -, -⟩ := id V_o1
  obtain ⟨T3, X3, e3, st3⟩ := getF X1 hx hZ hown (host := "") (Or.inl (wd54 hw)) Via.refl e1 F_o0_total (g := (mkF m 6 #[.val (.ref o0), .unset] [(.ref o0), (.int (16 : Int32))])) rfl rfl (hb hby dd_prog_49_method_9_code_6)
  obtain ⟨T4, h4, X4, e4, W4, st4⟩ := putF X3 hx hZ hown (host := "") (Or.inl (wd48 hw)) Via.refl e3 F_o0_takenSize E_o0 (Or.inl (wd49 hw)) (wd10 hw) (ty := .int) (by decide) rfl rfl (g := (mkF m 25 #[.val (.ref o0), .unset] [(.int (0 : Int32)), (.ref o0)])) rfl rfl (hb hby dd_prog_49_method_9_code_25)
  have N4 := Fr.snoc X4 N0 g_o0
  have Z4 : n0 ≤ h4.size := by rw [W4.size]; exact Z0
  have K4 : Keep h0 h4 [o0, o1, o2, o11] := ((Keep.refl h0 [o0, o1, o2, o11]).wr W4 (Or.inl (List.mem_of_getElem? (i := 0) rfl)))
  have Fw4 := F_o0_takenSize.same W4
  have f5 := (F_o0_kept.other W4 (Or.inr (slot_ne (Or.inr (wd30 hw)) (Or.inl (wd49 hw)) (by decide) (t := (.array (.array (.object cn6)))) (t' := .int) (by decide) (by decide))))
  obtain ⟨T6, X6, e6, st6⟩ := getF X4 hx hZ hown (host := "") (Or.inl (wd29 hw)) Via.refl e4 f5 (g := (mkF m 37 #[.val (.ref o0), .val (.int (0 : Int32))] [(.ref o0)])) rfl rfl (hb hby dd_prog_49_method_9_code_37)
  have f7 := (V_o2.other W4 ne_o2_o0)
  obtain ⟨cl8, Ar8, q8, S8, M8, HH8, GG8⟩ := id f7
  have hin8 : ¬ ((0 : Int32) < 0 ∨ cl8.slots.size ≤ ((0 : Int32)).toNatClampNeg) := inb_of S8 ⟨by decide, by decide⟩
  have hat8 : cl8.slots[((0 : Int32)).toNatClampNeg]? = some (.ref o3) := Has.at HH8 hin8 rfl
  have f9 := (F_o0_taken.other W4 (Or.inr (slot_ne (Or.inl (wd37 hw)) (Or.inl (wd49 hw)) (by decide) (t := (.array (.object cn6))) (t' := .int) (by decide) (by decide))))
  obtain ⟨T10, X10, e10, st10⟩ := getF X6 hx hZ hown (host := "") (Or.inl (wd36 hw)) Via.refl e6 f9 (g := (mkF m 44 #[.val (.ref o0), .val (.int (0 : Int32))] [(.ref o0), (.int (0 : Int32)), (.ref o3)])) rfl rfl (hb hby dd_prog_49_method_9_code_44)
  obtain ⟨T11, X11, e11, st11⟩ := getF X10 hx hZ hown (host := "") (Or.inl (wd48 hw)) Via.refl e10 Fw4 (g := (mkF m 48 #[.val (.ref o0), .val (.int (0 : Int32))] [(.ref o0), (.ref o1), (.int (0 : Int32)), (.ref o3)])) rfl rfl (hb hby dd_prog_49_method_9_code_48)
  have f12 := (F_o0_sizes.other W4 (Or.inr (slot_ne (Or.inr (wd33 hw)) (Or.inl (wd49 hw)) (by decide) (t := (.array .int)) (t' := .int) (by decide) (by decide))))
  obtain ⟨T13, X13, e13, st13⟩ := getF X11 hx hZ hown (host := "") (Or.inl (wd32 hw)) Via.refl e11 f12 (g := (mkF m 52 #[.val (.ref o0), .val (.int (0 : Int32))] [(.ref o0), (.int (0 : Int32)), (.ref o1), (.int (0 : Int32)), (.ref o3)])) rfl rfl (hb hby dd_prog_49_method_9_code_52)
  have f14 := (V_o11.other W4 ne_o11_o0)
  obtain ⟨cl15, Ar15, q15, S15, M15, HH15, GG15⟩ := id f14
  have hin15 : ¬ ((0 : Int32) < 0 ∨ cl15.slots.size ≤ ((0 : Int32)).toNatClampNeg) := inb_of S15 ⟨by decide, by decide⟩
  have hat15 : cl15.slots[((0 : Int32)).toNatClampNeg]? = some (.int (0 : Int32)) := Has.at HH15 hin15 rfl
  have f16 := (V_o3.other W4 ne_o3_o0)
  have f17 := (V_o1.other W4 ne_o1_o0)
  obtain ⟨T18, h18, Lq18, X18, e18, Nq18, Kq18, Vq18, st18⟩ := cpA X13 hx hZ hown (wd60 hw) (wd63 hw) (wd61 hw) (wd62 hw) e13 (us := []) f16 f17 (Or.inr ⟨rfl, rfl, trivial⟩) (by decide) (by decide) (by decide) (by first | decide | exact Nat.le_of_ble_eq_true rfl) (by first | decide | exact Nat.le_of_ble_eq_true rfl) (by rfl) (by first | decide | exact Nat.le_of_ble_eq_true rfl) N4 g_o1 (g := (mkF m 57 #[.val (.ref o0), .val (.int (0 : Int32))] [(.int (0 : Int32)), (.int (0 : Int32)), (.ref o1), (.int (0 : Int32)), (.ref o3)])) rfl (by rw [hml]; rfl) rfl (hb hby dd_prog_49_method_9_code_57) (by decide) (W := 0) (by show 2 * 0 + _ ≤ _; exact Nat.le_of_eq rfl) (by decide)
  have Z18 : n0 ≤ h18.size := Nat.le_trans Z4 Kq18.1
  have K18 : Keep h0 h18 [o0, o1, o2, o11] := Keep.trans K4 Kq18 (allS (Or.inl (List.mem_of_getElem? (i := 1) rfl)) all0)
  have V18 : Arv Z h18 o1 _ (.object cn6) (16 : Int32) [] .null := Vq18
  have f19 := (Fw4.keep Kq18 (ninS (Ne.symm ne_o1_o0) nin0))
  obtain ⟨T20, X20, e20, st20⟩ := getF X18 hx hZ hown (host := "") (Or.inl (wd48 hw)) Via.refl e18 f19 (g := (mkF m 62 #[.val (.ref o0), .val (.int (0 : Int32))] [(.ref o0), (.ref o0)])) rfl rfl (hb hby dd_prog_49_method_9_code_62)
  have f21 := (f12.keep Kq18 (ninS (Ne.symm ne_o1_o0) nin0))
  obtain ⟨T22, X22, e22, st22⟩ := getF X20 hx hZ hown (host := "") (Or.inl (wd32 hw)) Via.refl e20 f21 (g := (mkF m 66 #[.val (.ref o0), .val (.int (0 : Int32))] [(.ref o0), (.int (0 : Int32)), (.ref o0)])) rfl rfl (hb hby dd_prog_49_method_9_code_66)
  have f23 := (f14.keep Kq18 (ninS ne_o11_o1 nin0))
  obtain ⟨cl24, Ar24, q24, S24, M24, HH24, GG24⟩ := id f23
  have hin24 : ¬ ((0 : Int32) < 0 ∨ cl24.slots.size ≤ ((0 : Int32)).toNatClampNeg) := inb_of S24 ⟨by decide, by decide⟩
  have hat24 : cl24.slots[((0 : Int32)).toNatClampNeg]? = some (.int (0 : Int32)) := Has.at HH24 hin24 rfl
  have f25 := ((E_o0.wr W4).keep Kq18)
  obtain ⟨T26, h26, X26, e26, W26, st26⟩ := putF X22 hx hZ hown (host := "") (Or.inl (wd48 hw)) Via.refl e22 f19 f25 (Or.inl (wd49 hw)) (wd10 hw) (ty := .int) (by decide) rfl rfl (g := (mkF m 72 #[.val (.ref o0), .val (.int (0 : Int32))] [(.int (0 : Int32)), (.ref o0)])) rfl rfl (hb hby dd_prog_49_method_9_code_72)
  have N26 := Fr.snoc X26 Nq18 g_o0
  have Z26 : n0 ≤ h26.size := by rw [W26.size]; exact Z18
  have K26 : Keep h0 h26 [o0, o1, o2, o11] := (K18.wr W26 (Or.inl (List.mem_of_getElem? (i := 0) rfl)))
  have Fw26 := f19.same W26
  have f27 := ((f5.keep Kq18 (ninS (Ne.symm ne_o1_o0) nin0)).other W26 (Or.inr (slot_ne (Or.inr (wd30 hw)) (Or.inl (wd49 hw)) (by decide) (t := (.array (.array (.object cn6)))) (t' := .int) (by decide) (by decide))))
  obtain ⟨T28, X28, e28, st28⟩ := getF X26 hx hZ hown (host := "") (Or.inl (wd29 hw)) Via.refl e26 f27 (g := (mkF m 76 #[.val (.ref o0), .val (.int (0 : Int32))] [(.ref o0)])) rfl rfl (hb hby dd_prog_49_method_9_code_76)
  obtain ⟨T29, X29, e29, st29⟩ := getF X28 hx hZ hown (host := "") (Or.inl (wd29 hw)) Via.refl e28 f27 (g := (mkF m 81 #[.val (.ref o0), .val (.int (0 : Int32))] [(.ref o0), (.int (0 : Int32)), (.ref o2)])) rfl rfl (hb hby dd_prog_49_method_9_code_81)
  have f30 := ((f7.keep Kq18 (ninS ne_o2_o1 nin0)).other W26 ne_o2_o0)
  obtain ⟨cl31, Ar31, q31, S31, M31, HH31, GG31⟩ := id f30
  have hin31 : ¬ ((0 : Int32) < 0 ∨ cl31.slots.size ≤ ((0 : Int32)).toNatClampNeg) := inb_of S31 ⟨by decide, by decide⟩
  have hat31 : cl31.slots[((0 : Int32)).toNatClampNeg]? = some (.ref o3) := Has.at HH31 hin31 rfl
  have f32 := (f21.other W26 (Or.inr (slot_ne (Or.inr (wd33 hw)) (Or.inl (wd49 hw)) (by decide) (t := (.array .int)) (t' := .int) (by decide) (by decide))))
  obtain ⟨T33, X33, e33, st33⟩ := getF X29 hx hZ hown (host := "") (Or.inl (wd32 hw)) Via.refl e29 f32 (g := (mkF m 87 #[.val (.ref o0), .val (.int (0 : Int32))] [(.ref o0), (.ref o3), (.int (0 : Int32)), (.ref o2)])) rfl rfl (hb hby dd_prog_49_method_9_code_87)
  have f34 := (f23.other W26 ne_o11_o0)
  obtain ⟨cl35, Ar35, q35, S35, M35, HH35, GG35⟩ := id f34
  have hin35 : ¬ ((0 : Int32) < 0 ∨ cl35.slots.size ≤ ((0 : Int32)).toNatClampNeg) := inb_of S35 ⟨by decide, by decide⟩
  have hat35 : cl35.slots[((0 : Int32)).toNatClampNeg]? = some (.int (0 : Int32)) := Has.at HH35 hin35 rfl
  have f36 := ((f16.keep Kq18 (ninS ne_o3_o1 nin0)).other W26 ne_o3_o0)
  obtain ⟨_, _, ⟨T37, L37, kc37, ks37⟩, -, X37, ⟨Lc37, hQ37, l37, y37, z37⟩, st37⟩ := Jvm.LawKit.callS X33 hx (y := mn3) hown (mvT hZ (wd64 hw)) (mvT hZ (wd65 hw)) (mvT hZ (wd11 hw)) (mvT hZ (wd66 hw)) (by decide) (backOf (W := 2) (rmA6 l Z a0 hw [] o3 _ h26 n0 Z26 f36) hZ (wd66 hw) (wd11 hw) (by decide) (by decide)) (g := (mkF m 92 #[.val (.ref o0), .val (.int (0 : Int32))] [(.int (0 : Int32)), (.ref o3), (.int (0 : Int32)), (.ref o2)])) rfl (by rw [hml]; rfl) (argsL := [(.ref o3), (.int (0 : Int32))]) (rest := [(.int (0 : Int32)), (.ref o2)]) (lenOf pd___Lcom_example_strict_limiter_strictlimiter_Count_I__Lcom_example_strict_limiter_strictlimiter_Count_ rfl) rfl (by show 2 * 0 + _ ≤ _; exact Nat.le_of_eq rfl) (hb hby dd_prog_49_method_9_code_92) (fun _ _ => ⟨rfl, e33, (by decide : 0 + 0 ≤ _), (by decide : 0 + 0 ≤ _)⟩)
  dsimp only [Pt.U, Pt.locs, Pt.cells, Pt.slots] at X37 l37 y37 z37 st37 hQ37
  subst l37 y37 z37
  obtain ⟨rfl, Nq37, eq37⟩ := hQ37
  have N37 := Fr.app N26 Nq37
  have f38 := (((E_o3.wr W4).keep Kq18).wr W26)
  have f39 := OV_o2
  obtain ⟨cl40, Ar40, q40, S40, M40, HH40, GG40⟩ := id f30
  have hin40 : ¬ ((0 : Int32) < 0 ∨ cl40.slots.size ≤ ((0 : Int32)).toNatClampNeg) := inb_of S40 ⟨by decide, by decide⟩
  obtain ⟨T41, h41, X41, e41, W41, st41⟩ := stR X37 hx hZ eq37 Ar40 (j := (0 : Int32)) hin40 rfl (Sto.ofVA Ar40 q40 f39 (Ins.self f38)) (g := (mkF m 95 #[.val (.ref o0), .val (.int (0 : Int32))] [(.ref o3), (.int (0 : Int32)), (.ref o2)])) rfl rfl (hb hby dd_prog_49_method_9_code_95)
  have N41 := Fr.snoc X41 N37 g_o2
  have Z41 : n0 ≤ h41.size := by rw [W41.size]; exact Z26
  have K41 : Keep h0 h41 [o0, o1, o2, o11] := (K26.wr W41 (Or.inl (List.mem_of_getElem? (i := 2) rfl)))
  have V41 := Arv.set Ar40 q40 S40 M40 HH40 GG40 rfl W41 0 rfl (Nat.le_of_ble_eq_true rfl)
  have f42 := (f32.other W41 (Or.inl (Ne.symm ne_o2_o0)))
  obtain ⟨T43, X43, e43, st43⟩ := getF X41 hx hZ hown (host := "") (Or.inl (wd32 hw)) Via.refl e41 f42 (g := (mkF m 97 #[.val (.ref o0), .val (.int (0 : Int32))] [(.ref o0)])) rfl rfl (hb hby dd_prog_49_method_9_code_97)
  have f44 := (f34.other W41 ne_o11_o2)
  obtain ⟨cl45, Ar45, q45, S45, M45, HH45, GG45⟩ := id f44
  have hin45 : ¬ ((0 : Int32) < 0 ∨ cl45.slots.size ≤ ((0 : Int32)).toNatClampNeg) := inb_of S45 ⟨by decide, by decide⟩
  obtain ⟨T46, h46, X46, e46, W46, st46⟩ := stI X43 hx hZ e43 Ar45 (j := (0 : Int32)) hin45 (g := (mkF m 102 #[.val (.ref o0), .val (.int (0 : Int32))] [(.int (0 : Int32)), (.int (0 : Int32)), (.ref o11)])) rfl rfl (hb hby dd_prog_49_method_9_code_102)
  have N46 := Fr.snoc X46 N41 g_o11
  have Z46 : n0 ≤ h46.size := by rw [W46.size]; exact Z41
  have K46 : Keep h0 h46 [o0, o1, o2, o11] := (K41.wr W46 (Or.inl (List.mem_of_getElem? (i := 3) rfl)))
  have V46 := Arv.set Ar45 q45 S45 M45 HH45 GG45 rfl W46 0 rfl (Nat.le_of_ble_eq_true rfl)
  have f47 := ((f27.other W41 (Or.inl (Ne.symm ne_o2_o0))).other W46 (Or.inl (Ne.symm ne_o11_o0)))
  obtain ⟨T48, X48, e48, st48⟩ := getF X46 hx hZ hown (host := "") (Or.inl (wd29 hw)) Via.refl e46 f47 (g := (mkF m 37 #[.val (.ref o0), .val (.int (1 : Int32))] [(.ref o0)])) rfl rfl (hb hby dd_prog_49_method_9_code_37)
  have f49 := (V41.other W46 (Ne.symm ne_o11_o2))
  obtain ⟨cl50, Ar50, q50, S50, M50, HH50, GG50⟩ := id f49
  have hin50 : ¬ ((1 : Int32) < 0 ∨ cl50.slots.size ≤ ((1 : Int32)).toNatClampNeg) := inb_of S50 ⟨by decide, by decide⟩
  have hat50 : cl50.slots[((1 : Int32)).toNatClampNeg]? = some (.ref o4) := Has.at HH50 hin50 rfl
  have f51 := ((((f9.keep Kq18 (ninS (Ne.symm ne_o1_o0) nin0)).other W26 (Or.inr (slot_ne (Or.inl (wd37 hw)) (Or.inl (wd49 hw)) (by decide) (t := (.array (.object cn6))) (t' := .int) (by decide) (by decide)))).other W41 (Or.inl (Ne.symm ne_o2_o0))).other W46 (Or.inl (Ne.symm ne_o11_o0)))
  obtain ⟨T52, X52, e52, st52⟩ := getF X48 hx hZ hown (host := "") (Or.inl (wd36 hw)) Via.refl e48 f51 (g := (mkF m 44 #[.val (.ref o0), .val (.int (1 : Int32))] [(.ref o0), (.int (0 : Int32)), (.ref o4)])) rfl rfl (hb hby dd_prog_49_method_9_code_44)
  have f53 := ((Fw26.other W41 (Or.inl (Ne.symm ne_o2_o0))).other W46 (Or.inl (Ne.symm ne_o11_o0)))
  obtain ⟨T54, X54, e54, st54⟩ := getF X52 hx hZ hown (host := "") (Or.inl (wd48 hw)) Via.refl e52 f53 (g := (mkF m 48 #[.val (.ref o0), .val (.int (1 : Int32))] [(.ref o0), (.ref o1), (.int (0 : Int32)), (.ref o4)])) rfl rfl (hb hby dd_prog_49_method_9_code_48)
  have f55 := (f42.other W46 (Or.inl (Ne.symm ne_o11_o0)))
  obtain ⟨T56, X56, e56, st56⟩ := getF X54 hx hZ hown (host := "") (Or.inl (wd32 hw)) Via.refl e54 f55 (g := (mkF m 52 #[.val (.ref o0), .val (.int (1 : Int32))] [(.ref o0), (.int (0 : Int32)), (.ref o1), (.int (0 : Int32)), (.ref o4)])) rfl rfl (hb hby dd_prog_49_method_9_code_52)
  obtain ⟨cl57, Ar57, q57, S57, M57, HH57, GG57⟩ := id V46
  have hin57 : ¬ ((1 : Int32) < 0 ∨ cl57.slots.size ≤ ((1 : Int32)).toNatClampNeg) := inb_of S57 ⟨by decide, by decide⟩
  have hat57 : cl57.slots[((1 : Int32)).toNatClampNeg]? = some (.int (0 : Int32)) := Has.at HH57 hin57 rfl
  have f58 := (((((V_o4.other W4 ne_o4_o0).keep Kq18 (ninS ne_o4_o1 nin0)).other W26 ne_o4_o0).other W41 ne_o4_o2).other W46 ne_o4_o11)
  have f59 := (((V18.other W26 ne_o1_o0).other W41 (Ne.symm ne_o2_o1)).other W46 (Ne.symm ne_o11_o1))
  obtain ⟨T60, h60, Lq60, X60, e60, Nq60, Kq60, Vq60, st60⟩ := cpA X56 hx hZ hown (wd60 hw) (wd63 hw) (wd61 hw) (wd62 hw) e56 (us := []) f58 f59 (Or.inr ⟨rfl, rfl, trivial⟩) (by decide) (by decide) (by decide) (by first | decide | exact Nat.le_of_ble_eq_true rfl) (by first | decide | exact Nat.le_of_ble_eq_true rfl) (by rfl) (by first | decide | exact Nat.le_of_ble_eq_true rfl) N46 g_o1 (g := (mkF m 57 #[.val (.ref o0), .val (.int (1 : Int32))] [(.int (0 : Int32)), (.int (0 : Int32)), (.ref o1), (.int (0 : Int32)), (.ref o4)])) rfl (by rw [hml]; rfl) rfl (hb hby dd_prog_49_method_9_code_57) (by decide) (W := 0) (by show 2 * 0 + _ ≤ _; exact Nat.le_of_eq rfl) (by decide)
  have Z60 : n0 ≤ h60.size := Nat.le_trans Z46 Kq60.1
  have K60 : Keep h0 h60 [o0, o1, o2, o11] := Keep.trans K46 Kq60 (allS (Or.inl (List.mem_of_getElem? (i := 1) rfl)) all0)
  have V60 : Arv Z h60 o1 _ (.object cn6) (16 : Int32) [] .null := Vq60
  have f61 := (f53.keep Kq60 (ninS (Ne.symm ne_o1_o0) nin0))
  obtain ⟨T62, X62, e62, st62⟩ := getF X60 hx hZ hown (host := "") (Or.inl (wd48 hw)) Via.refl e60 f61 (g := (mkF m 62 #[.val (.ref o0), .val (.int (1 : Int32))] [(.ref o0), (.ref o0)])) rfl rfl (hb hby dd_prog_49_method_9_code_62)
  have f63 := (f55.keep Kq60 (ninS (Ne.symm ne_o1_o0) nin0))
  obtain ⟨T64, X64, e64, st64⟩ := getF X62 hx hZ hown (host := "") (Or.inl (wd32 hw)) Via.refl e62 f63 (g := (mkF m 66 #[.val (.ref o0), .val (.int (1 : Int32))] [(.ref o0), (.int (0 : Int32)), (.ref o0)])) rfl rfl (hb hby dd_prog_49_method_9_code_66)
  have f65 := (V46.keep Kq60 (ninS ne_o11_o1 nin0))
  obtain ⟨cl66, Ar66, q66, S66, M66, HH66, GG66⟩ := id f65
  have hin66 : ¬ ((1 : Int32) < 0 ∨ cl66.slots.size ≤ ((1 : Int32)).toNatClampNeg) := inb_of S66 ⟨by decide, by decide⟩
  have hat66 : cl66.slots[((1 : Int32)).toNatClampNeg]? = some (.int (0 : Int32)) := Has.at HH66 hin66 rfl
  have f67 := ((((f25.wr W26).wr W41).wr W46).keep Kq60)
  obtain ⟨T68, h68, X68, e68, W68, st68⟩ := putF X64 hx hZ hown (host := "") (Or.inl (wd48 hw)) Via.refl e64 f61 f67 (Or.inl (wd49 hw)) (wd10 hw) (ty := .int) (by decide) rfl rfl (g := (mkF m 72 #[.val (.ref o0), .val (.int (1 : Int32))] [(.int (0 : Int32)), (.ref o0)])) rfl rfl (hb hby dd_prog_49_method_9_code_72)
  have N68 := Fr.snoc X68 Nq60 g_o0
  have Z68 : n0 ≤ h68.size := by rw [W68.size]; exact Z60
  have K68 : Keep h0 h68 [o0, o1, o2, o11] := (K60.wr W68 (Or.inl (List.mem_of_getElem? (i := 0) rfl)))
  have Fw68 := f61.same W68
  have f69 := ((f47.keep Kq60 (ninS (Ne.symm ne_o1_o0) nin0)).other W68 (Or.inr (slot_ne (Or.inr (wd30 hw)) (Or.inl (wd49 hw)) (by decide) (t := (.array (.array (.object cn6)))) (t' := .int) (by decide) (by decide))))
  obtain ⟨T70, X70, e70, st70⟩ := getF X68 hx hZ hown (host := "") (Or.inl (wd29 hw)) Via.refl e68 f69 (g := (mkF m 76 #[.val (.ref o0), .val (.int (1 : Int32))] [(.ref o0)])) rfl rfl (hb hby dd_prog_49_method_9_code_76)
  obtain ⟨T71, X71, e71, st71⟩ := getF X70 hx hZ hown (host := "") (Or.inl (wd29 hw)) Via.refl e70 f69 (g := (mkF m 81 #[.val (.ref o0), .val (.int (1 : Int32))] [(.ref o0), (.int (1 : Int32)), (.ref o2)])) rfl rfl (hb hby dd_prog_49_method_9_code_81)
  have f72 := ((f49.keep Kq60 (ninS ne_o2_o1 nin0)).other W68 ne_o2_o0)
  obtain ⟨cl73, Ar73, q73, S73, M73, HH73, GG73⟩ := id f72
  have hin73 : ¬ ((1 : Int32) < 0 ∨ cl73.slots.size ≤ ((1 : Int32)).toNatClampNeg) := inb_of S73 ⟨by decide, by decide⟩
  have hat73 : cl73.slots[((1 : Int32)).toNatClampNeg]? = some (.ref o4) := Has.at HH73 hin73 rfl
  have f74 := (f63.other W68 (Or.inr (slot_ne (Or.inr (wd33 hw)) (Or.inl (wd49 hw)) (by decide) (t := (.array .int)) (t' := .int) (by decide) (by decide))))
  obtain ⟨T75, X75, e75, st75⟩ := getF X71 hx hZ hown (host := "") (Or.inl (wd32 hw)) Via.refl e71 f74 (g := (mkF m 87 #[.val (.ref o0), .val (.int (1 : Int32))] [(.ref o0), (.ref o4), (.int (1 : Int32)), (.ref o2)])) rfl rfl (hb hby dd_prog_49_method_9_code_87)
  have f76 := (f65.other W68 ne_o11_o0)
  obtain ⟨cl77, Ar77, q77, S77, M77, HH77, GG77⟩ := id f76
  have hin77 : ¬ ((1 : Int32) < 0 ∨ cl77.slots.size ≤ ((1 : Int32)).toNatClampNeg) := inb_of S77 ⟨by decide, by decide⟩
  have hat77 : cl77.slots[((1 : Int32)).toNatClampNeg]? = some (.int (0 : Int32)) := Has.at HH77 hin77 rfl
  have f78 := ((f58.keep Kq60 (ninS ne_o4_o1 nin0)).other W68 ne_o4_o0)
  obtain ⟨_, _, ⟨T79, L79, kc79, ks79⟩, -, X79, ⟨Lc79, hQ79, l79, y79, z79⟩, st79⟩ := Jvm.LawKit.callS X75 hx (y := mn3) hown (mvT hZ (wd64 hw)) (mvT hZ (wd65 hw)) (mvT hZ (wd11 hw)) (mvT hZ (wd66 hw)) (by decide) (backOf (W := 2) (rmA6 l Z a0 hw [] o4 _ h68 n0 Z68 f78) hZ (wd66 hw) (wd11 hw) (by decide) (by decide)) (g := (mkF m 92 #[.val (.ref o0), .val (.int (1 : Int32))] [(.int (0 : Int32)), (.ref o4), (.int (1 : Int32)), (.ref o2)])) rfl (by rw [hml]; rfl) (argsL := [(.ref o4), (.int (0 : Int32))]) (rest := [(.int (1 : Int32)), (.ref o2)]) (lenOf pd___Lcom_example_strict_limiter_strictlimiter_Count_I__Lcom_example_strict_limiter_strictlimiter_Count_ rfl) rfl (by show 2 * 0 + _ ≤ _; exact Nat.le_of_eq rfl) (hb hby dd_prog_49_method_9_code_92) (fun _ _ => ⟨rfl, e75, (by decide : 0 + 0 ≤ _), (by decide : 0 + 0 ≤ _)⟩)
  dsimp only [Pt.U, Pt.locs, Pt.cells, Pt.slots] at X79 l79 y79 z79 st79 hQ79
  subst l79 y79 z79
  obtain ⟨rfl, Nq79, eq79⟩ := hQ79
  have N79 := Fr.app N68 Nq79
  have f80 := (((((((E_o4.wr W4).keep Kq18).wr W26).wr W41).wr W46).keep Kq60).wr W68)
  have f81 := f39
  obtain ⟨cl82, Ar82, q82, S82, M82, HH82, GG82⟩ := id f72
  have hin82 : ¬ ((1 : Int32) < 0 ∨ cl82.slots.size ≤ ((1 : Int32)).toNatClampNeg) := inb_of S82 ⟨by decide, by decide⟩
  obtain ⟨T83, h83, X83, e83, W83, st83⟩ := stR X79 hx hZ eq79 Ar82 (j := (1 : Int32)) hin82 rfl (Sto.ofVA Ar82 q82 f81 (Ins.self f80)) (g := (mkF m 95 #[.val (.ref o0), .val (.int (1 : Int32))] [(.ref o4), (.int (1 : Int32)), (.ref o2)])) rfl rfl (hb hby dd_prog_49_method_9_code_95)
  have N83 := Fr.snoc X83 N79 g_o2
  have Z83 : n0 ≤ h83.size := by rw [W83.size]; exact Z68
  have K83 : Keep h0 h83 [o0, o1, o2, o11] := (K68.wr W83 (Or.inl (List.mem_of_getElem? (i := 2) rfl)))
  have V83 := Arv.set Ar82 q82 S82 M82 HH82 GG82 rfl W83 1 rfl (Nat.le_of_ble_eq_true rfl)
  have f84 := (f74.other W83 (Or.inl (Ne.symm ne_o2_o0)))
  obtain ⟨T85, X85, e85, st85⟩ := getF X83 hx hZ hown (host := "") (Or.inl (wd32 hw)) Via.refl e83 f84 (g := (mkF m 97 #[.val (.ref o0), .val (.int (1 : Int32))] [(.ref o0)])) rfl rfl (hb hby dd_prog_49_method_9_code_97)
  have f86 := (f76.other W83 ne_o11_o2)
  obtain ⟨cl87, Ar87, q87, S87, M87, HH87, GG87⟩ := id f86
  have hin87 : ¬ ((1 : Int32) < 0 ∨ cl87.slots.size ≤ ((1 : Int32)).toNatClampNeg) := inb_of S87 ⟨by decide, by decide⟩
  obtain ⟨T88, h88, X88, e88, W88, st88⟩ := stI X85 hx hZ e85 Ar87 (j := (1 : Int32)) hin87 (g := (mkF m 102 #[.val (.ref o0), .val (.int (1 : Int32))] [(.int (0 : Int32)), (.int (1 : Int32)), (.ref o11)])) rfl rfl (hb hby dd_prog_49_method_9_code_102)
  have N88 := Fr.snoc X88 N83 g_o11
  have Z88 : n0 ≤ h88.size := by rw [W88.size]; exact Z83
  have K88 : Keep h0 h88 [o0, o1, o2, o11] := (K83.wr W88 (Or.inl (List.mem_of_getElem? (i := 3) rfl)))
  have V88 := Arv.set Ar87 q87 S87 M87 HH87 GG87 rfl W88 1 rfl (Nat.le_of_ble_eq_true rfl)
  have f89 := ((f69.other W83 (Or.inl (Ne.symm ne_o2_o0))).other W88 (Or.inl (Ne.symm ne_o11_o0)))
  obtain ⟨T90, X90, e90, st90⟩ := getF X88 hx hZ hown (host := "") (Or.inl (wd29 hw)) Via.refl e88 f89 (g := (mkF m 37 #[.val (.ref o0), .val (.int (2 : Int32))] [(.ref o0)])) rfl rfl (hb hby dd_prog_49_method_9_code_37)
  have f91 := (V83.other W88 (Ne.symm ne_o11_o2))
  obtain ⟨cl92, Ar92, q92, S92, M92, HH92, GG92⟩ := id f91
  have hin92 : ¬ ((2 : Int32) < 0 ∨ cl92.slots.size ≤ ((2 : Int32)).toNatClampNeg) := inb_of S92 ⟨by decide, by decide⟩
  have hat92 : cl92.slots[((2 : Int32)).toNatClampNeg]? = some (.ref o5) := Has.at HH92 hin92 rfl
  have f93 := ((((f51.keep Kq60 (ninS (Ne.symm ne_o1_o0) nin0)).other W68 (Or.inr (slot_ne (Or.inl (wd37 hw)) (Or.inl (wd49 hw)) (by decide) (t := (.array (.object cn6))) (t' := .int) (by decide) (by decide)))).other W83 (Or.inl (Ne.symm ne_o2_o0))).other W88 (Or.inl (Ne.symm ne_o11_o0)))
  obtain ⟨T94, X94, e94, st94⟩ := getF X90 hx hZ hown (host := "") (Or.inl (wd36 hw)) Via.refl e90 f93 (g := (mkF m 44 #[.val (.ref o0), .val (.int (2 : Int32))] [(.ref o0), (.int (0 : Int32)), (.ref o5)])) rfl rfl (hb hby dd_prog_49_method_9_code_44)
  have f95 := ((Fw68.other W83 (Or.inl (Ne.symm ne_o2_o0))).other W88 (Or.inl (Ne.symm ne_o11_o0)))
  obtain ⟨T96, X96, e96, st96⟩ := getF X94 hx hZ hown (host := "") (Or.inl (wd48 hw)) Via.refl e94 f95 (g := (mkF m 48 #[.val (.ref o0), .val (.int (2 : Int32))] [(.ref o0), (.ref o1), (.int (0 : Int32)), (.ref o5)])) rfl rfl (hb hby dd_prog_49_method_9_code_48)
  have f97 := (f84.other W88 (Or.inl (Ne.symm ne_o11_o0)))
  obtain ⟨T98, X98, e98, st98⟩ := getF X96 hx hZ hown (host := "") (Or.inl (wd32 hw)) Via.refl e96 f97 (g := (mkF m 52 #[.val (.ref o0), .val (.int (2 : Int32))] [(.ref o0), (.int (0 : Int32)), (.ref o1), (.int (0 : Int32)), (.ref o5)])) rfl rfl (hb hby dd_prog_49_method_9_code_52)
  obtain ⟨cl99, Ar99, q99, S99, M99, HH99, GG99⟩ := id V88
  have hin99 : ¬ ((2 : Int32) < 0 ∨ cl99.slots.size ≤ ((2 : Int32)).toNatClampNeg) := inb_of S99 ⟨by decide, by decide⟩
  have hat99 : cl99.slots[((2 : Int32)).toNatClampNeg]? = some (.int (0 : Int32)) := Has.at HH99 hin99 rfl
  have f100 := (((((((((V_o5.other W4 ne_o5_o0).keep Kq18 (ninS ne_o5_o1 nin0)).other W26 ne_o5_o0).other W41 ne_o5_o2).other W46 ne_o5_o11).keep Kq60 (ninS ne_o5_o1 nin0)).other W68 ne_o5_o0).other W83 ne_o5_o2).other W88 ne_o5_o11)
  have f101 := (((V60.other W68 ne_o1_o0).other W83 (Ne.symm ne_o2_o1)).other W88 (Ne.symm ne_o11_o1))
  obtain ⟨T102, h102, Lq102, X102, e102, Nq102, Kq102, Vq102, st102⟩ := cpA X98 hx hZ hown (wd60 hw) (wd63 hw) (wd61 hw) (wd62 hw) e98 (us := []) f100 f101 (Or.inr ⟨rfl, rfl, trivial⟩) (by decide) (by decide) (by decide) (by first | decide | exact Nat.le_of_ble_eq_true rfl) (by first | decide | exact Nat.le_of_ble_eq_true rfl) (by rfl) (by first | decide | exact Nat.le_of_ble_eq_true rfl) N88 g_o1 (g := (mkF m 57 #[.val (.ref o0), .val (.int (2 : Int32))] [(.int (0 : Int32)), (.int (0 : Int32)), (.ref o1), (.int (0 : Int32)), (.ref o5)])) rfl (by rw [hml]; rfl) rfl (hb hby dd_prog_49_method_9_code_57) (by decide) (W := 0) (by show 2 * 0 + _ ≤ _; exact Nat.le_of_eq rfl) (by decide)
  have Z102 : n0 ≤ h102.size := Nat.le_trans Z88 Kq102.1
  have K102 : Keep h0 h102 [o0, o1, o2, o11] := Keep.trans K88 Kq102 (allS (Or.inl (List.mem_of_getElem? (i := 1) rfl)) all0)
  have V102 : Arv Z h102 o1 _ (.object cn6) (16 : Int32) [] .null := Vq102
  have f103 := (f95.keep Kq102 (ninS (Ne.symm ne_o1_o0) nin0))
  obtain ⟨T104, X104, e104, st104⟩ := getF X102 hx hZ hown (host := "") (Or.inl (wd48 hw)) Via.refl e102 f103 (g := (mkF m 62 #[.val (.ref o0), .val (.int (2 : Int32))] [(.ref o0), (.ref o0)])) rfl rfl (hb hby dd_prog_49_method_9_code_62)
  have f105 := (f97.keep Kq102 (ninS (Ne.symm ne_o1_o0) nin0))
  obtain ⟨T106, X106, e106, st106⟩ := getF X104 hx hZ hown (host := "") (Or.inl (wd32 hw)) Via.refl e104 f105 (g := (mkF m 66 #[.val (.ref o0), .val (.int (2 : Int32))] [(.ref o0), (.int (0 : Int32)), (.ref o0)])) rfl rfl (hb hby dd_prog_49_method_9_code_66)
  have f107 := (V88.keep Kq102 (ninS ne_o11_o1 nin0))
  obtain ⟨cl108, Ar108, q108, S108, M108, HH108, GG108⟩ := id f107
  have hin108 : ¬ ((2 : Int32) < 0 ∨ cl108.slots.size ≤ ((2 : Int32)).toNatClampNeg) := inb_of S108 ⟨by decide, by decide⟩
  have hat108 : cl108.slots[((2 : Int32)).toNatClampNeg]? = some (.int (0 : Int32)) := Has.at HH108 hin108 rfl
  have f109 := ((((f67.wr W68).wr W83).wr W88).keep Kq102)
  obtain ⟨T110, h110, X110, e110, W110, st110⟩ := putF X106 hx hZ hown (host := "") (Or.inl (wd48 hw)) Via.refl e106 f103 f109 (Or.inl (wd49 hw)) (wd10 hw) (ty := .int) (by decide) rfl rfl (g := (mkF m 72 #[.val (.ref o0), .val (.int (2 : Int32))] [(.int (0 : Int32)), (.ref o0)])) rfl rfl (hb hby dd_prog_49_method_9_code_72)
  have N110 := Fr.snoc X110 Nq102 g_o0
  have Z110 : n0 ≤ h110.size := by rw [W110.size]; exact Z102
  have K110 : Keep h0 h110 [o0, o1, o2, o11] := (K102.wr W110 (Or.inl (List.mem_of_getElem? (i := 0) rfl)))
  have Fw110 := f103.same W110
  have f111 := ((f89.keep Kq102 (ninS (Ne.symm ne_o1_o0) nin0)).other W110 (Or.inr (slot_ne (Or.inr (wd30 hw)) (Or.inl (wd49 hw)) (by decide) (t := (.array (.array (.object cn6)))) (t' := .int) (by decide) (by decide))))
  obtain ⟨T112, X112, e112, st112⟩ := getF X110 hx hZ hown (host := "") (Or.inl (wd29 hw)) Via.refl e110 f111 (g := (mkF m 76 #[.val (.ref o0), .val (.int (2 : Int32))] [(.ref o0)])) rfl rfl (hb hby dd_prog_49_method_9_code_76)
  obtain ⟨T113, X113, e113, st113⟩ := getF X112 hx hZ hown (host := "") (Or.inl (wd29 hw)) Via.refl e112 f111 (g := (mkF m 81 #[.val (.ref o0), .val (.int (2 : Int32))] [(.ref o0), (.int (2 : Int32)), (.ref o2)])) rfl rfl (hb hby dd_prog_49_method_9_code_81)
  have f114 := ((f91.keep Kq102 (ninS ne_o2_o1 nin0)).other W110 ne_o2_o0)
  obtain ⟨cl115, Ar115, q115, S115, M115, HH115, GG115⟩ := id f114
  have hin115 : ¬ ((2 : Int32) < 0 ∨ cl115.slots.size ≤ ((2 : Int32)).toNatClampNeg) := inb_of S115 ⟨by decide, by decide⟩
  have hat115 : cl115.slots[((2 : Int32)).toNatClampNeg]? = some (.ref o5) := Has.at HH115 hin115 rfl
  have f116 := (f105.other W110 (Or.inr (slot_ne (Or.inr (wd33 hw)) (Or.inl (wd49 hw)) (by decide) (t := (.array .int)) (t' := .int) (by decide) (by decide))))
  obtain ⟨T117, X117, e117, st117⟩ := getF X113 hx hZ hown (host := "") (Or.inl (wd32 hw)) Via.refl e113 f116 (g := (mkF m 87 #[.val (.ref o0), .val (.int (2 : Int32))] [(.ref o0), (.ref o5), (.int (2 : Int32)), (.ref o2)])) rfl rfl (hb hby dd_prog_49_method_9_code_87)
  have f118 := (f107.other W110 ne_o11_o0)
  obtain ⟨cl119, Ar119, q119, S119, M119, HH119, GG119⟩ := id f118
  have hin119 : ¬ ((2 : Int32) < 0 ∨ cl119.slots.size ≤ ((2 : Int32)).toNatClampNeg) := inb_of S119 ⟨by decide, by decide⟩
  have hat119 : cl119.slots[((2 : Int32)).toNatClampNeg]? = some (.int (0 : Int32)) := Has.at HH119 hin119 rfl
  have f120 := ((f100.keep Kq102 (ninS ne_o5_o1 nin0)).other W110 ne_o5_o0)
  obtain ⟨_, _, ⟨T121, L121, kc121, ks121⟩, -, X121, ⟨Lc121, hQ121, l121, y121, z121⟩, st121⟩ := Jvm.LawKit.callS X117 hx (y := mn3) hown (mvT hZ (wd64 hw)) (mvT hZ (wd65 hw)) (mvT hZ (wd11 hw)) (mvT hZ (wd66 hw)) (by decide) (backOf (W := 2) (rmA6 l Z a0 hw [] o5 _ h110 n0 Z110 f120) hZ (wd66 hw) (wd11 hw) (by decide) (by decide)) (g := (mkF m 92 #[.val (.ref o0), .val (.int (2 : Int32))] [(.int (0 : Int32)), (.ref o5), (.int (2 : Int32)), (.ref o2)])) rfl (by rw [hml]; rfl) (argsL := [(.ref o5), (.int (0 : Int32))]) (rest := [(.int (2 : Int32)), (.ref o2)]) (lenOf pd___Lcom_example_strict_limiter_strictlimiter_Count_I__Lcom_example_strict_limiter_strictlimiter_Count_ rfl) rfl (by show 2 * 0 + _ ≤ _; exact Nat.le_of_eq rfl) (hb hby dd_prog_49_method_9_code_92) (fun _ _ => ⟨rfl, e117, (by decide : 0 + 0 ≤ _), (by decide : 0 + 0 ≤ _)⟩)
  dsimp only [Pt.U, Pt.locs, Pt.cells, Pt.slots] at X121 l121 y121 z121 st121 hQ121
  subst l121 y121 z121
  obtain ⟨rfl, Nq121, eq121⟩ := hQ121
  have N121 := Fr.app N110 Nq121
  have f122 := (((((((((((E_o5.wr W4).keep Kq18).wr W26).wr W41).wr W46).keep Kq60).wr W68).wr W83).wr W88).keep Kq102).wr W110)
  have f123 := f81
  obtain ⟨cl124, Ar124, q124, S124, M124, HH124, GG124⟩ := id f114
  have hin124 : ¬ ((2 : Int32) < 0 ∨ cl124.slots.size ≤ ((2 : Int32)).toNatClampNeg) := inb_of S124 ⟨by decide, by decide⟩
  obtain ⟨T125, h125, X125, e125, W125, st125⟩ := stR X121 hx hZ eq121 Ar124 (j := (2 : Int32)) hin124 rfl (Sto.ofVA Ar124 q124 f123 (Ins.self f122)) (g := (mkF m 95 #[.val (.ref o0), .val (.int (2 : Int32))] [(.ref o5), (.int (2 : Int32)), (.ref o2)])) rfl rfl (hb hby dd_prog_49_method_9_code_95)
  have N125 := Fr.snoc X125 N121 g_o2
  have Z125 : n0 ≤ h125.size := by rw [W125.size]; exact Z110
  have K125 : Keep h0 h125 [o0, o1, o2, o11] := (K110.wr W125 (Or.inl (List.mem_of_getElem? (i := 2) rfl)))
  have V125 := Arv.set Ar124 q124 S124 M124 HH124 GG124 rfl W125 2 rfl (Nat.le_of_ble_eq_true rfl)
  have f126 := (f116.other W125 (Or.inl (Ne.symm ne_o2_o0)))
  obtain ⟨T127, X127, e127, st127⟩ := getF X125 hx hZ hown (host := "") (Or.inl (wd32 hw)) Via.refl e125 f126 (g := (mkF m 97 #[.val (.ref o0), .val (.int (2 : Int32))] [(.ref o0)])) rfl rfl (hb hby dd_prog_49_method_9_code_97)
  have f128 := (f118.other W125 ne_o11_o2)
  obtain ⟨cl129, Ar129, q129, S129, M129, HH129, GG129⟩ := id f128
  have hin129 : ¬ ((2 : Int32) < 0 ∨ cl129.slots.size ≤ ((2 : Int32)).toNatClampNeg) := inb_of S129 ⟨by decide, by decide⟩
  obtain ⟨T130, h130, X130, e130, W130, st130⟩ := stI X127 hx hZ e127 Ar129 (j := (2 : Int32)) hin129 (g := (mkF m 102 #[.val (.ref o0), .val (.int (2 : Int32))] [(.int (0 : Int32)), (.int (2 : Int32)), (.ref o11)])) rfl rfl (hb hby dd_prog_49_method_9_code_102)
  have N130 := Fr.snoc X130 N125 g_o11
  have Z130 : n0 ≤ h130.size := by rw [W130.size]; exact Z125
  have K130 : Keep h0 h130 [o0, o1, o2, o11] := (K125.wr W130 (Or.inl (List.mem_of_getElem? (i := 3) rfl)))
  have V130 := Arv.set Ar129 q129 S129 M129 HH129 GG129 rfl W130 2 rfl (Nat.le_of_ble_eq_true rfl)
  have f131 := ((f111.other W125 (Or.inl (Ne.symm ne_o2_o0))).other W130 (Or.inl (Ne.symm ne_o11_o0)))
  obtain ⟨T132, X132, e132, st132⟩ := getF X130 hx hZ hown (host := "") (Or.inl (wd29 hw)) Via.refl e130 f131 (g := (mkF m 37 #[.val (.ref o0), .val (.int (3 : Int32))] [(.ref o0)])) rfl rfl (hb hby dd_prog_49_method_9_code_37)
  have f133 := (V125.other W130 (Ne.symm ne_o11_o2))
  obtain ⟨cl134, Ar134, q134, S134, M134, HH134, GG134⟩ := id f133
  have hin134 : ¬ ((3 : Int32) < 0 ∨ cl134.slots.size ≤ ((3 : Int32)).toNatClampNeg) := inb_of S134 ⟨by decide, by decide⟩
  have hat134 : cl134.slots[((3 : Int32)).toNatClampNeg]? = some (.ref o6) := Has.at HH134 hin134 rfl
  have f135 := ((((f93.keep Kq102 (ninS (Ne.symm ne_o1_o0) nin0)).other W110 (Or.inr (slot_ne (Or.inl (wd37 hw)) (Or.inl (wd49 hw)) (by decide) (t := (.array (.object cn6))) (t' := .int) (by decide) (by decide)))).other W125 (Or.inl (Ne.symm ne_o2_o0))).other W130 (Or.inl (Ne.symm ne_o11_o0)))
  obtain ⟨T136, X136, e136, st136⟩ := getF X132 hx hZ hown (host := "") (Or.inl (wd36 hw)) Via.refl e132 f135 (g := (mkF m 44 #[.val (.ref o0), .val (.int (3 : Int32))] [(.ref o0), (.int (0 : Int32)), (.ref o6)])) rfl rfl (hb hby dd_prog_49_method_9_code_44)
  have f137 := ((Fw110.other W125 (Or.inl (Ne.symm ne_o2_o0))).other W130 (Or.inl (Ne.symm ne_o11_o0)))
  obtain ⟨T138, X138, e138, st138⟩ := getF X136 hx hZ hown (host := "") (Or.inl (wd48 hw)) Via.refl e136 f137 (g := (mkF m 48 #[.val (.ref o0), .val (.int (3 : Int32))] [(.ref o0), (.ref o1), (.int (0 : Int32)), (.ref o6)])) rfl rfl (hb hby dd_prog_49_method_9_code_48)
  have f139 := (f126.other W130 (Or.inl (Ne.symm ne_o11_o0)))
  obtain ⟨T140, X140, e140, st140⟩ := getF X138 hx hZ hown (host := "") (Or.inl (wd32 hw)) Via.refl e138 f139 (g := (mkF m 52 #[.val (.ref o0), .val (.int (3 : Int32))] [(.ref o0), (.int (0 : Int32)), (.ref o1), (.int (0 : Int32)), (.ref o6)])) rfl rfl (hb hby dd_prog_49_method_9_code_52)
  obtain ⟨cl141, Ar141, q141, S141, M141, HH141, GG141⟩ := id V130
  have hin141 : ¬ ((3 : Int32) < 0 ∨ cl141.slots.size ≤ ((3 : Int32)).toNatClampNeg) := inb_of S141 ⟨by decide, by decide⟩
  have hat141 : cl141.slots[((3 : Int32)).toNatClampNeg]? = some (.int (0 : Int32)) := Has.at HH141 hin141 rfl
  have f142 := (((((((((((((V_o6.other W4 ne_o6_o0).keep Kq18 (ninS ne_o6_o1 nin0)).other W26 ne_o6_o0).other W41 ne_o6_o2).other W46 ne_o6_o11).keep Kq60 (ninS ne_o6_o1 nin0)).other W68 ne_o6_o0).other W83 ne_o6_o2).other W88 ne_o6_o11).keep Kq102 (ninS ne_o6_o1 nin0)).other W110 ne_o6_o0).other W125 ne_o6_o2).other W130 ne_o6_o11)
  have f143 := (((V102.other W110 ne_o1_o0).other W125 (Ne.symm ne_o2_o1)).other W130 (Ne.symm ne_o11_o1))
  obtain ⟨T144, h144, Lq144, X144, e144, Nq144, Kq144, Vq144, st144⟩ := cpA X140 hx hZ hown (wd60 hw) (wd63 hw) (wd61 hw) (wd62 hw) e140 (us := []) f142 f143 (Or.inr ⟨rfl, rfl, trivial⟩) (by decide) (by decide) (by decide) (by first | decide | exact Nat.le_of_ble_eq_true rfl) (by first | decide | exact Nat.le_of_ble_eq_true rfl) (by rfl) (by first | decide | exact Nat.le_of_ble_eq_true rfl) N130 g_o1 (g := (mkF m 57 #[.val (.ref o0), .val (.int (3 : Int32))] [(.int (0 : Int32)), (.int (0 : Int32)), (.ref o1), (.int (0 : Int32)), (.ref o6)])) rfl (by rw [hml]; rfl) rfl (hb hby dd_prog_49_method_9_code_57) (by decide) (W := 0) (by show 2 * 0 + _ ≤ _; exact Nat.le_of_eq rfl) (by decide)
  have Z144 : n0 ≤ h144.size := Nat.le_trans Z130 Kq144.1
  have K144 : Keep h0 h144 [o0, o1, o2, o11] := Keep.trans K130 Kq144 (allS (Or.inl (List.mem_of_getElem? (i := 1) rfl)) all0)
  have V144 : Arv Z h144 o1 _ (.object cn6) (16 : Int32) [] .null := Vq144
  have f145 := (f137.keep Kq144 (ninS (Ne.symm ne_o1_o0) nin0))
  obtain ⟨T146, X146, e146, st146⟩ := getF X144 hx hZ hown (host := "") (Or.inl (wd48 hw)) Via.refl e144 f145 (g := (mkF m 62 #[.val (.ref o0), .val (.int (3 : Int32))] [(.ref o0), (.ref o0)])) rfl rfl (hb hby dd_prog_49_method_9_code_62)
  have f147 := (f139.keep Kq144 (ninS (Ne.symm ne_o1_o0) nin0))
  obtain ⟨T148, X148, e148, st148⟩ := getF X146 hx hZ hown (host := "") (Or.inl (wd32 hw)) Via.refl e146 f147 (g := (mkF m 66 #[.val (.ref o0), .val (.int (3 : Int32))] [(.ref o0), (.int (0 : Int32)), (.ref o0)])) rfl rfl (hb hby dd_prog_49_method_9_code_66)
  have f149 := (V130.keep Kq144 (ninS ne_o11_o1 nin0))
  obtain ⟨cl150, Ar150, q150, S150, M150, HH150, GG150⟩ := id f149
  have hin150 : ¬ ((3 : Int32) < 0 ∨ cl150.slots.size ≤ ((3 : Int32)).toNatClampNeg) := inb_of S150 ⟨by decide, by decide⟩
  have hat150 : cl150.slots[((3 : Int32)).toNatClampNeg]? = some (.int (0 : Int32)) := Has.at HH150 hin150 rfl
  have f151 := ((((f109.wr W110).wr W125).wr W130).keep Kq144)
  obtain ⟨T152, h152, X152, e152, W152, st152⟩ := putF X148 hx hZ hown (host := "") (Or.inl (wd48 hw)) Via.refl e148 f145 f151 (Or.inl (wd49 hw)) (wd10 hw) (ty := .int) (by decide) rfl rfl (g := (mkF m 72 #[.val (.ref o0), .val (.int (3 : Int32))] [(.int (0 : Int32)), (.ref o0)])) rfl rfl (hb hby dd_prog_49_method_9_code_72)
  have N152 := Fr.snoc X152 Nq144 g_o0
  have Z152 : n0 ≤ h152.size := by rw [W152.size]; exact Z144
  have K152 : Keep h0 h152 [o0, o1, o2, o11] := (K144.wr W152 (Or.inl (List.mem_of_getElem? (i := 0) rfl)))
  have Fw152 := f145.same W152
  have f153 := ((f131.keep Kq144 (ninS (Ne.symm ne_o1_o0) nin0)).other W152 (Or.inr (slot_ne (Or.inr (wd30 hw)) (Or.inl (wd49 hw)) (by decide) (t := (.array (.array (.object cn6)))) (t' := .int) (by decide) (by decide))))
  obtain ⟨T154, X154, e154, st154⟩ := getF X152 hx hZ hown (host := "") (Or.inl (wd29 hw)) Via.refl e152 f153 (g := (mkF m 76 #[.val (.ref o0), .val (.int (3 : Int32))] [(.ref o0)])) rfl rfl (hb hby dd_prog_49_method_9_code_76)
  obtain ⟨T155, X155, e155, st155⟩ := getF X154 hx hZ hown (host := "") (Or.inl (wd29 hw)) Via.refl e154 f153 (g := (mkF m 81 #[.val (.ref o0), .val (.int (3 : Int32))] [(.ref o0), (.int (3 : Int32)), (.ref o2)])) rfl rfl (hb hby dd_prog_49_method_9_code_81)
  have f156 := ((f133.keep Kq144 (ninS ne_o2_o1 nin0)).other W152 ne_o2_o0)
  obtain ⟨cl157, Ar157, q157, S157, M157, HH157, GG157⟩ := id f156
  have hin157 : ¬ ((3 : Int32) < 0 ∨ cl157.slots.size ≤ ((3 : Int32)).toNatClampNeg) := inb_of S157 ⟨by decide, by decide⟩
  have hat157 : cl157.slots[((3 : Int32)).toNatClampNeg]? = some (.ref o6) := Has.at HH157 hin157 rfl
  have f158 := (f147.other W152 (Or.inr (slot_ne (Or.inr (wd33 hw)) (Or.inl (wd49 hw)) (by decide) (t := (.array .int)) (t' := .int) (by decide) (by decide))))
  obtain ⟨T159, X159, e159, st159⟩ := getF X155 hx hZ hown (host := "") (Or.inl (wd32 hw)) Via.refl e155 f158 (g := (mkF m 87 #[.val (.ref o0), .val (.int (3 : Int32))] [(.ref o0), (.ref o6), (.int (3 : Int32)), (.ref o2)])) rfl rfl (hb hby dd_prog_49_method_9_code_87)
  have f160 := (f149.other W152 ne_o11_o0)
  obtain ⟨cl161, Ar161, q161, S161, M161, HH161, GG161⟩ := id f160
  have hin161 : ¬ ((3 : Int32) < 0 ∨ cl161.slots.size ≤ ((3 : Int32)).toNatClampNeg) := inb_of S161 ⟨by decide, by decide⟩
  have hat161 : cl161.slots[((3 : Int32)).toNatClampNeg]? = some (.int (0 : Int32)) := Has.at HH161 hin161 rfl
  have f162 := ((f142.keep Kq144 (ninS ne_o6_o1 nin0)).other W152 ne_o6_o0)
  obtain ⟨_, _, ⟨T163, L163, kc163, ks163⟩, -, X163, ⟨Lc163, hQ163, l163, y163, z163⟩, st163⟩ := Jvm.LawKit.callS X159 hx (y := mn3) hown (mvT hZ (wd64 hw)) (mvT hZ (wd65 hw)) (mvT hZ (wd11 hw)) (mvT hZ (wd66 hw)) (by decide) (backOf (W := 2) (rmA6 l Z a0 hw [] o6 _ h152 n0 Z152 f162) hZ (wd66 hw) (wd11 hw) (by decide) (by decide)) (g := (mkF m 92 #[.val (.ref o0), .val (.int (3 : Int32))] [(.int (0 : Int32)), (.ref o6), (.int (3 : Int32)), (.ref o2)])) rfl (by rw [hml]; rfl) (argsL := [(.ref o6), (.int (0 : Int32))]) (rest := [(.int (3 : Int32)), (.ref o2)]) (lenOf pd___Lcom_example_strict_limiter_strictlimiter_Count_I__Lcom_example_strict_limiter_strictlimiter_Count_ rfl) rfl (by show 2 * 0 + _ ≤ _; exact Nat.le_of_eq rfl) (hb hby dd_prog_49_method_9_code_92) (fun _ _ => ⟨rfl, e159, (by decide : 0 + 0 ≤ _), (by decide : 0 + 0 ≤ _)⟩)
  dsimp only [Pt.U, Pt.locs, Pt.cells, Pt.slots] at X163 l163 y163 z163 st163 hQ163
  subst l163 y163 z163
  obtain ⟨rfl, Nq163, eq163⟩ := hQ163
  have N163 := Fr.app N152 Nq163
  have f164 := (((((((((((((((E_o6.wr W4).keep Kq18).wr W26).wr W41).wr W46).keep Kq60).wr W68).wr W83).wr W88).keep Kq102).wr W110).wr W125).wr W130).keep Kq144).wr W152)
  have f165 := f123
  obtain ⟨cl166, Ar166, q166, S166, M166, HH166, GG166⟩ := id f156
  have hin166 : ¬ ((3 : Int32) < 0 ∨ cl166.slots.size ≤ ((3 : Int32)).toNatClampNeg) := inb_of S166 ⟨by decide, by decide⟩
  obtain ⟨T167, h167, X167, e167, W167, st167⟩ := stR X163 hx hZ eq163 Ar166 (j := (3 : Int32)) hin166 rfl (Sto.ofVA Ar166 q166 f165 (Ins.self f164)) (g := (mkF m 95 #[.val (.ref o0), .val (.int (3 : Int32))] [(.ref o6), (.int (3 : Int32)), (.ref o2)])) rfl rfl (hb hby dd_prog_49_method_9_code_95)
  have N167 := Fr.snoc X167 N163 g_o2
  have Z167 : n0 ≤ h167.size := by rw [W167.size]; exact Z152
  have K167 : Keep h0 h167 [o0, o1, o2, o11] := (K152.wr W167 (Or.inl (List.mem_of_getElem? (i := 2) rfl)))
  have V167 := Arv.set Ar166 q166 S166 M166 HH166 GG166 rfl W167 3 rfl (Nat.le_of_ble_eq_true rfl)
  have f168 := (f158.other W167 (Or.inl (Ne.symm ne_o2_o0)))
  obtain ⟨T169, X169, e169, st169⟩ := getF X167 hx hZ hown (host := "") (Or.inl (wd32 hw)) Via.refl e167 f168 (g := (mkF m 97 #[.val (.ref o0), .val (.int (3 : Int32))] [(.ref o0)])) rfl rfl (hb hby dd_prog_49_method_9_code_97)
  have f170 := (f160.other W167 ne_o11_o2)
  obtain ⟨cl171, Ar171, q171, S171, M171, HH171, GG171⟩ := id f170
  have hin171 : ¬ ((3 : Int32) < 0 ∨ cl171.slots.size ≤ ((3 : Int32)).toNatClampNeg) := inb_of S171 ⟨by decide, by decide⟩
  obtain ⟨T172, h172, X172, e172, W172, st172⟩ := stI X169 hx hZ e169 Ar171 (j := (3 : Int32)) hin171 (g := (mkF m 102 #[.val (.ref o0), .val (.int (3 : Int32))] [(.int (0 : Int32)), (.int (3 : Int32)), (.ref o11)])) rfl rfl (hb hby dd_prog_49_method_9_code_102)
  have N172 := Fr.snoc X172 N167 g_o11
  have Z172 : n0 ≤ h172.size := by rw [W172.size]; exact Z167
  have K172 : Keep h0 h172 [o0, o1, o2, o11] := (K167.wr W172 (Or.inl (List.mem_of_getElem? (i := 3) rfl)))
  have V172 := Arv.set Ar171 q171 S171 M171 HH171 GG171 rfl W172 3 rfl (Nat.le_of_ble_eq_true rfl)
  have f173 := ((f153.other W167 (Or.inl (Ne.symm ne_o2_o0))).other W172 (Or.inl (Ne.symm ne_o11_o0)))
  obtain ⟨T174, X174, e174, st174⟩ := getF X172 hx hZ hown (host := "") (Or.inl (wd29 hw)) Via.refl e172 f173 (g := (mkF m 37 #[.val (.ref o0), .val (.int (4 : Int32))] [(.ref o0)])) rfl rfl (hb hby dd_prog_49_method_9_code_37)
  have f175 := (V167.other W172 (Ne.symm ne_o11_o2))
  obtain ⟨cl176, Ar176, q176, S176, M176, HH176, GG176⟩ := id f175
  have hin176 : ¬ ((4 : Int32) < 0 ∨ cl176.slots.size ≤ ((4 : Int32)).toNatClampNeg) := inb_of S176 ⟨by decide, by decide⟩
  have hat176 : cl176.slots[((4 : Int32)).toNatClampNeg]? = some (.ref o7) := Has.at HH176 hin176 rfl
  have f177 := ((((f135.keep Kq144 (ninS (Ne.symm ne_o1_o0) nin0)).other W152 (Or.inr (slot_ne (Or.inl (wd37 hw)) (Or.inl (wd49 hw)) (by decide) (t := (.array (.object cn6))) (t' := .int) (by decide) (by decide)))).other W167 (Or.inl (Ne.symm ne_o2_o0))).other W172 (Or.inl (Ne.symm ne_o11_o0)))
  obtain ⟨T178, X178, e178, st178⟩ := getF X174 hx hZ hown (host := "") (Or.inl (wd36 hw)) Via.refl e174 f177 (g := (mkF m 44 #[.val (.ref o0), .val (.int (4 : Int32))] [(.ref o0), (.int (0 : Int32)), (.ref o7)])) rfl rfl (hb hby dd_prog_49_method_9_code_44)
  have f179 := ((Fw152.other W167 (Or.inl (Ne.symm ne_o2_o0))).other W172 (Or.inl (Ne.symm ne_o11_o0)))
  obtain ⟨T180, X180, e180, st180⟩ := getF X178 hx hZ hown (host := "") (Or.inl (wd48 hw)) Via.refl e178 f179 (g := (mkF m 48 #[.val (.ref o0), .val (.int (4 : Int32))] [(.ref o0), (.ref o1), (.int (0 : Int32)), (.ref o7)])) rfl rfl (hb hby dd_prog_49_method_9_code_48)
  have f181 := (f168.other W172 (Or.inl (Ne.symm ne_o11_o0)))
  obtain ⟨T182, X182, e182, st182⟩ := getF X180 hx hZ hown (host := "") (Or.inl (wd32 hw)) Via.refl e180 f181 (g := (mkF m 52 #[.val (.ref o0), .val (.int (4 : Int32))] [(.ref o0), (.int (0 : Int32)), (.ref o1), (.int (0 : Int32)), (.ref o7)])) rfl rfl (hb hby dd_prog_49_method_9_code_52)
  obtain ⟨cl183, Ar183, q183, S183, M183, HH183, GG183⟩ := id V172
  have hin183 : ¬ ((4 : Int32) < 0 ∨ cl183.slots.size ≤ ((4 : Int32)).toNatClampNeg) := inb_of S183 ⟨by decide, by decide⟩
  have hat183 : cl183.slots[((4 : Int32)).toNatClampNeg]? = some (.int (0 : Int32)) := Has.at HH183 hin183 rfl
  have f184 := (((((((((((((((((V_o7.other W4 ne_o7_o0).keep Kq18 (ninS ne_o7_o1 nin0)).other W26 ne_o7_o0).other W41 ne_o7_o2).other W46 ne_o7_o11).keep Kq60 (ninS ne_o7_o1 nin0)).other W68 ne_o7_o0).other W83 ne_o7_o2).other W88 ne_o7_o11).keep Kq102 (ninS ne_o7_o1 nin0)).other W110 ne_o7_o0).other W125 ne_o7_o2).other W130 ne_o7_o11).keep Kq144 (ninS ne_o7_o1 nin0)).other W152 ne_o7_o0).other W167 ne_o7_o2).other W172 ne_o7_o11)
  have f185 := (((V144.other W152 ne_o1_o0).other W167 (Ne.symm ne_o2_o1)).other W172 (Ne.symm ne_o11_o1))
  obtain ⟨T186, h186, Lq186, X186, e186, Nq186, Kq186, Vq186, st186⟩ := cpA X182 hx hZ hown (wd60 hw) (wd63 hw) (wd61 hw) (wd62 hw) e182 (us := []) f184 f185 (Or.inr ⟨rfl, rfl, trivial⟩) (by decide) (by decide) (by decide) (by first | decide | exact Nat.le_of_ble_eq_true rfl) (by first | decide | exact Nat.le_of_ble_eq_true rfl) (by rfl) (by first | decide | exact Nat.le_of_ble_eq_true rfl) N172 g_o1 (g := (mkF m 57 #[.val (.ref o0), .val (.int (4 : Int32))] [(.int (0 : Int32)), (.int (0 : Int32)), (.ref o1), (.int (0 : Int32)), (.ref o7)])) rfl (by rw [hml]; rfl) rfl (hb hby dd_prog_49_method_9_code_57) (by decide) (W := 0) (by show 2 * 0 + _ ≤ _; exact Nat.le_of_eq rfl) (by decide)
  have Z186 : n0 ≤ h186.size := Nat.le_trans Z172 Kq186.1
  have K186 : Keep h0 h186 [o0, o1, o2, o11] := Keep.trans K172 Kq186 (allS (Or.inl (List.mem_of_getElem? (i := 1) rfl)) all0)
  have V186 : Arv Z h186 o1 _ (.object cn6) (16 : Int32) [] .null := Vq186
  have f187 := (f179.keep Kq186 (ninS (Ne.symm ne_o1_o0) nin0))
  obtain ⟨T188, X188, e188, st188⟩ := getF X186 hx hZ hown (host := "") (Or.inl (wd48 hw)) Via.refl e186 f187 (g := (mkF m 62 #[.val (.ref o0), .val (.int (4 : Int32))] [(.ref o0), (.ref o0)])) rfl rfl (hb hby dd_prog_49_method_9_code_62)
  have f189 := (f181.keep Kq186 (ninS (Ne.symm ne_o1_o0) nin0))
  obtain ⟨T190, X190, e190, st190⟩ := getF X188 hx hZ hown (host := "") (Or.inl (wd32 hw)) Via.refl e188 f189 (g := (mkF m 66 #[.val (.ref o0), .val (.int (4 : Int32))] [(.ref o0), (.int (0 : Int32)), (.ref o0)])) rfl rfl (hb hby dd_prog_49_method_9_code_66)
  have f191 := (V172.keep Kq186 (ninS ne_o11_o1 nin0))
  obtain ⟨cl192, Ar192, q192, S192, M192, HH192, GG192⟩ := id f191
  have hin192 : ¬ ((4 : Int32) < 0 ∨ cl192.slots.size ≤ ((4 : Int32)).toNatClampNeg) := inb_of S192 ⟨by decide, by decide⟩
  have hat192 : cl192.slots[((4 : Int32)).toNatClampNeg]? = some (.int (0 : Int32)) := Has.at HH192 hin192 rfl
  have f193 := ((((f151.wr W152).wr W167).wr W172).keep Kq186)
  obtain ⟨T194, h194, X194, e194, W194, st194⟩ := putF X190 hx hZ hown (host := "") (Or.inl (wd48 hw)) Via.refl e190 f187 f193 (Or.inl (wd49 hw)) (wd10 hw) (ty := .int) (by decide) rfl rfl (g := (mkF m 72 #[.val (.ref o0), .val (.int (4 : Int32))] [(.int (0 : Int32)), (.ref o0)])) rfl rfl (hb hby dd_prog_49_method_9_code_72)
  have N194 := Fr.snoc X194 Nq186 g_o0
  have Z194 : n0 ≤ h194.size := by rw [W194.size]; exact Z186
  have K194 : Keep h0 h194 [o0, o1, o2, o11] := (K186.wr W194 (Or.inl (List.mem_of_getElem? (i := 0) rfl)))
  have Fw194 := f187.same W194
  have f195 := ((f173.keep Kq186 (ninS (Ne.symm ne_o1_o0) nin0)).other W194 (Or.inr (slot_ne (Or.inr (wd30 hw)) (Or.inl (wd49 hw)) (by decide) (t := (.array (.array (.object cn6)))) (t' := .int) (by decide) (by decide))))
  obtain ⟨T196, X196, e196, st196⟩ := getF X194 hx hZ hown (host := "") (Or.inl (wd29 hw)) Via.refl e194 f195 (g := (mkF m 76 #[.val (.ref o0), .val (.int (4 : Int32))] [(.ref o0)])) rfl rfl (hb hby dd_prog_49_method_9_code_76)
  obtain ⟨T197, X197, e197, st197⟩ := getF X196 hx hZ hown (host := "") (Or.inl (wd29 hw)) Via.refl e196 f195 (g := (mkF m 81 #[.val (.ref o0), .val (.int (4 : Int32))] [(.ref o0), (.int (4 : Int32)), (.ref o2)])) rfl rfl (hb hby dd_prog_49_method_9_code_81)
  have f198 := ((f175.keep Kq186 (ninS ne_o2_o1 nin0)).other W194 ne_o2_o0)
  obtain ⟨cl199, Ar199, q199, S199, M199, HH199, GG199⟩ := id f198
  have hin199 : ¬ ((4 : Int32) < 0 ∨ cl199.slots.size ≤ ((4 : Int32)).toNatClampNeg) := inb_of S199 ⟨by decide, by decide⟩
  have hat199 : cl199.slots[((4 : Int32)).toNatClampNeg]? = some (.ref o7) := Has.at HH199 hin199 rfl
  have f200 := (f189.other W194 (Or.inr (slot_ne (Or.inr (wd33 hw)) (Or.inl (wd49 hw)) (by decide) (t := (.array .int)) (t' := .int) (by decide) (by decide))))
  obtain ⟨T201, X201, e201, st201⟩ := getF X197 hx hZ hown (host := "") (Or.inl (wd32 hw)) Via.refl e197 f200 (g := (mkF m 87 #[.val (.ref o0), .val (.int (4 : Int32))] [(.ref o0), (.ref o7), (.int (4 : Int32)), (.ref o2)])) rfl rfl (hb hby dd_prog_49_method_9_code_87)
  have f202 := (f191.other W194 ne_o11_o0)
  obtain ⟨cl203, Ar203, q203, S203, M203, HH203, GG203⟩ := id f202
  have hin203 : ¬ ((4 : Int32) < 0 ∨ cl203.slots.size ≤ ((4 : Int32)).toNatClampNeg) := inb_of S203 ⟨by decide, by decide⟩
  have hat203 : cl203.slots[((4 : Int32)).toNatClampNeg]? = some (.int (0 : Int32)) := Has.at HH203 hin203 rfl
  have f204 := ((f184.keep Kq186 (ninS ne_o7_o1 nin0)).other W194 ne_o7_o0)
  obtain ⟨_, _, ⟨T205, L205, kc205, ks205⟩, -, X205, ⟨Lc205, hQ205, l205, y205, z205⟩, st205⟩ := Jvm.LawKit.callS X201 hx (y := mn3) hown (mvT hZ (wd64 hw)) (mvT hZ (wd65 hw)) (mvT hZ (wd11 hw)) (mvT hZ (wd66 hw)) (by decide) (backOf (W := 2) (rmA6 l Z a0 hw [] o7 _ h194 n0 Z194 f204) hZ (wd66 hw) (wd11 hw) (by decide) (by decide)) (g := (mkF m 92 #[.val (.ref o0), .val (.int (4 : Int32))] [(.int (0 : Int32)), (.ref o7), (.int (4 : Int32)), (.ref o2)])) rfl (by rw [hml]; rfl) (argsL := [(.ref o7), (.int (0 : Int32))]) (rest := [(.int (4 : Int32)), (.ref o2)]) (lenOf pd___Lcom_example_strict_limiter_strictlimiter_Count_I__Lcom_example_strict_limiter_strictlimiter_Count_ rfl) rfl (by show 2 * 0 + _ ≤ _; exact Nat.le_of_eq rfl) (hb hby dd_prog_49_method_9_code_92) (fun _ _ => ⟨rfl, e201, (by decide : 0 + 0 ≤ _), (by decide : 0 + 0 ≤ _)⟩)
  dsimp only [Pt.U, Pt.locs, Pt.cells, Pt.slots] at X205 l205 y205 z205 st205 hQ205
  subst l205 y205 z205
  obtain ⟨rfl, Nq205, eq205⟩ := hQ205
  have N205 := Fr.app N194 Nq205
  have f206 := (((((((((((((((((((E_o7.wr W4).keep Kq18).wr W26).wr W41).wr W46).keep Kq60).wr W68).wr W83).wr W88).keep Kq102).wr W110).wr W125).wr W130).keep Kq144).wr W152).wr W167).wr W172).keep Kq186).wr W194)
  have f207 := f165
  obtain ⟨cl208, Ar208, q208, S208, M208, HH208, GG208⟩ := id f198
  have hin208 : ¬ ((4 : Int32) < 0 ∨ cl208.slots.size ≤ ((4 : Int32)).toNatClampNeg) := inb_of S208 ⟨by decide, by decide⟩
  obtain ⟨T209, h209, X209, e209, W209, st209⟩ := stR X205 hx hZ eq205 Ar208 (j := (4 : Int32)) hin208 rfl (Sto.ofVA Ar208 q208 f207 (Ins.self f206)) (g := (mkF m 95 #[.val (.ref o0), .val (.int (4 : Int32))] [(.ref o7), (.int (4 : Int32)), (.ref o2)])) rfl rfl (hb hby dd_prog_49_method_9_code_95)
  have N209 := Fr.snoc X209 N205 g_o2
  have Z209 : n0 ≤ h209.size := by rw [W209.size]; exact Z194
  have K209 : Keep h0 h209 [o0, o1, o2, o11] := (K194.wr W209 (Or.inl (List.mem_of_getElem? (i := 2) rfl)))
  have V209 := Arv.set Ar208 q208 S208 M208 HH208 GG208 rfl W209 4 rfl (Nat.le_of_ble_eq_true rfl)
  have f210 := (f200.other W209 (Or.inl (Ne.symm ne_o2_o0)))
  obtain ⟨T211, X211, e211, st211⟩ := getF X209 hx hZ hown (host := "") (Or.inl (wd32 hw)) Via.refl e209 f210 (g := (mkF m 97 #[.val (.ref o0), .val (.int (4 : Int32))] [(.ref o0)])) rfl rfl (hb hby dd_prog_49_method_9_code_97)
  have f212 := (f202.other W209 ne_o11_o2)
  obtain ⟨cl213, Ar213, q213, S213, M213, HH213, GG213⟩ := id f212
  have hin213 : ¬ ((4 : Int32) < 0 ∨ cl213.slots.size ≤ ((4 : Int32)).toNatClampNeg) := inb_of S213 ⟨by decide, by decide⟩
  obtain ⟨T214, h214, X214, e214, W214, st214⟩ := stI X211 hx hZ e211 Ar213 (j := (4 : Int32)) hin213 (g := (mkF m 102 #[.val (.ref o0), .val (.int (4 : Int32))] [(.int (0 : Int32)), (.int (4 : Int32)), (.ref o11)])) rfl rfl (hb hby dd_prog_49_method_9_code_102)
  have N214 := Fr.snoc X214 N209 g_o11
  have Z214 : n0 ≤ h214.size := by rw [W214.size]; exact Z209
  have K214 : Keep h0 h214 [o0, o1, o2, o11] := (K209.wr W214 (Or.inl (List.mem_of_getElem? (i := 3) rfl)))
  have V214 := Arv.set Ar213 q213 S213 M213 HH213 GG213 rfl W214 4 rfl (Nat.le_of_ble_eq_true rfl)
  have f215 := ((f195.other W209 (Or.inl (Ne.symm ne_o2_o0))).other W214 (Or.inl (Ne.symm ne_o11_o0)))
  obtain ⟨T216, X216, e216, st216⟩ := getF X214 hx hZ hown (host := "") (Or.inl (wd29 hw)) Via.refl e214 f215 (g := (mkF m 37 #[.val (.ref o0), .val (.int (5 : Int32))] [(.ref o0)])) rfl rfl (hb hby dd_prog_49_method_9_code_37)
  have f217 := (V209.other W214 (Ne.symm ne_o11_o2))
  obtain ⟨cl218, Ar218, q218, S218, M218, HH218, GG218⟩ := id f217
  have hin218 : ¬ ((5 : Int32) < 0 ∨ cl218.slots.size ≤ ((5 : Int32)).toNatClampNeg) := inb_of S218 ⟨by decide, by decide⟩
  have hat218 : cl218.slots[((5 : Int32)).toNatClampNeg]? = some (.ref o8) := Has.at HH218 hin218 rfl
  have f219 := ((((f177.keep Kq186 (ninS (Ne.symm ne_o1_o0) nin0)).other W194 (Or.inr (slot_ne (Or.inl (wd37 hw)) (Or.inl (wd49 hw)) (by decide) (t := (.array (.object cn6))) (t' := .int) (by decide) (by decide)))).other W209 (Or.inl (Ne.symm ne_o2_o0))).other W214 (Or.inl (Ne.symm ne_o11_o0)))
  obtain ⟨T220, X220, e220, st220⟩ := getF X216 hx hZ hown (host := "") (Or.inl (wd36 hw)) Via.refl e216 f219 (g := (mkF m 44 #[.val (.ref o0), .val (.int (5 : Int32))] [(.ref o0), (.int (0 : Int32)), (.ref o8)])) rfl rfl (hb hby dd_prog_49_method_9_code_44)
  have f221 := ((Fw194.other W209 (Or.inl (Ne.symm ne_o2_o0))).other W214 (Or.inl (Ne.symm ne_o11_o0)))
  obtain ⟨T222, X222, e222, st222⟩ := getF X220 hx hZ hown (host := "") (Or.inl (wd48 hw)) Via.refl e220 f221 (g := (mkF m 48 #[.val (.ref o0), .val (.int (5 : Int32))] [(.ref o0), (.ref o1), (.int (0 : Int32)), (.ref o8)])) rfl rfl (hb hby dd_prog_49_method_9_code_48)
  have f223 := (f210.other W214 (Or.inl (Ne.symm ne_o11_o0)))
  obtain ⟨T224, X224, e224, st224⟩ := getF X222 hx hZ hown (host := "") (Or.inl (wd32 hw)) Via.refl e222 f223 (g := (mkF m 52 #[.val (.ref o0), .val (.int (5 : Int32))] [(.ref o0), (.int (0 : Int32)), (.ref o1), (.int (0 : Int32)), (.ref o8)])) rfl rfl (hb hby dd_prog_49_method_9_code_52)
  obtain ⟨cl225, Ar225, q225, S225, M225, HH225, GG225⟩ := id V214
  have hin225 : ¬ ((5 : Int32) < 0 ∨ cl225.slots.size ≤ ((5 : Int32)).toNatClampNeg) := inb_of S225 ⟨by decide, by decide⟩
  have hat225 : cl225.slots[((5 : Int32)).toNatClampNeg]? = some (.int (0 : Int32)) := Has.at HH225 hin225 rfl
  have f226 := (((((((((((((((((((((V_o8.other W4 ne_o8_o0).keep Kq18 (ninS ne_o8_o1 nin0)).other W26 ne_o8_o0).other W41 ne_o8_o2).other W46 ne_o8_o11).keep Kq60 (ninS ne_o8_o1 nin0)).other W68 ne_o8_o0).other W83 ne_o8_o2).other W88 ne_o8_o11).keep Kq102 (ninS ne_o8_o1 nin0)).other W110 ne_o8_o0).other W125 ne_o8_o2).other W130 ne_o8_o11).keep Kq144 (ninS ne_o8_o1 nin0)).other W152 ne_o8_o0).other W167 ne_o8_o2).other W172 ne_o8_o11).keep Kq186 (ninS ne_o8_o1 nin0)).other W194 ne_o8_o0).other W209 ne_o8_o2).other W214 ne_o8_o11)
  have f227 := (((V186.other W194 ne_o1_o0).other W209 (Ne.symm ne_o2_o1)).other W214 (Ne.symm ne_o11_o1))
  obtain ⟨T228, h228, Lq228, X228, e228, Nq228, Kq228, Vq228, st228⟩ := cpA X224 hx hZ hown (wd60 hw) (wd63 hw) (wd61 hw) (wd62 hw) e224 (us := []) f226 f227 (Or.inr ⟨rfl, rfl, trivial⟩) (by decide) (by decide) (by decide) (by first | decide | exact Nat.le_of_ble_eq_true rfl) (by first | decide | exact Nat.le_of_ble_eq_true rfl) (by rfl) (by first | decide | exact Nat.le_of_ble_eq_true rfl) N214 g_o1 (g := (mkF m 57 #[.val (.ref o0), .val (.int (5 : Int32))] [(.int (0 : Int32)), (.int (0 : Int32)), (.ref o1), (.int (0 : Int32)), (.ref o8)])) rfl (by rw [hml]; rfl) rfl (hb hby dd_prog_49_method_9_code_57) (by decide) (W := 0) (by show 2 * 0 + _ ≤ _; exact Nat.le_of_eq rfl) (by decide)
  have Z228 : n0 ≤ h228.size := Nat.le_trans Z214 Kq228.1
  have K228 : Keep h0 h228 [o0, o1, o2, o11] := Keep.trans K214 Kq228 (allS (Or.inl (List.mem_of_getElem? (i := 1) rfl)) all0)
  have V228 : Arv Z h228 o1 _ (.object cn6) (16 : Int32) [] .null := Vq228
  have f229 := (f221.keep Kq228 (ninS (Ne.symm ne_o1_o0) nin0))
  obtain ⟨T230, X230, e230, st230⟩ := getF X228 hx hZ hown (host := "") (Or.inl (wd48 hw)) Via.refl e228 f229 (g := (mkF m 62 #[.val (.ref o0), .val (.int (5 : Int32))] [(.ref o0), (.ref o0)])) rfl rfl (hb hby dd_prog_49_method_9_code_62)
  have f231 := (f223.keep Kq228 (ninS (Ne.symm ne_o1_o0) nin0))
  obtain ⟨T232, X232, e232, st232⟩ := getF X230 hx hZ hown (host := "") (Or.inl (wd32 hw)) Via.refl e230 f231 (g := (mkF m 66 #[.val (.ref o0), .val (.int (5 : Int32))] [(.ref o0), (.int (0 : Int32)), (.ref o0)])) rfl rfl (hb hby dd_prog_49_method_9_code_66)
  have f233 := (V214.keep Kq228 (ninS ne_o11_o1 nin0))
  obtain ⟨cl234, Ar234, q234, S234, M234, HH234, GG234⟩ := id f233
  have hin234 : ¬ ((5 : Int32) < 0 ∨ cl234.slots.size ≤ ((5 : Int32)).toNatClampNeg) := inb_of S234 ⟨by decide, by decide⟩
  have hat234 : cl234.slots[((5 : Int32)).toNatClampNeg]? = some (.int (0 : Int32)) := Has.at HH234 hin234 rfl
  have f235 := ((((f193.wr W194).wr W209).wr W214).keep Kq228)
  obtain ⟨T236, h236, X236, e236, W236, st236⟩ := putF X232 hx hZ hown (host := "") (Or.inl (wd48 hw)) Via.refl e232 f229 f235 (Or.inl (wd49 hw)) (wd10 hw) (ty := .int) (by decide) rfl rfl (g := (mkF m 72 #[.val (.ref o0), .val (.int (5 : Int32))] [(.int (0 : Int32)), (.ref o0)])) rfl rfl (hb hby dd_prog_49_method_9_code_72)
  have N236 := Fr.snoc X236 Nq228 g_o0
  have Z236 : n0 ≤ h236.size := by rw [W236.size]; exact Z228
  have K236 : Keep h0 h236 [o0, o1, o2, o11] := (K228.wr W236 (Or.inl (List.mem_of_getElem? (i := 0) rfl)))
  have Fw236 := f229.same W236
  have f237 := ((f215.keep Kq228 (ninS (Ne.symm ne_o1_o0) nin0)).other W236 (Or.inr (slot_ne (Or.inr (wd30 hw)) (Or.inl (wd49 hw)) (by decide) (t := (.array (.array (.object cn6)))) (t' := .int) (by decide) (by decide))))
  obtain ⟨T238, X238, e238, st238⟩ := getF X236 hx hZ hown (host := "") (Or.inl (wd29 hw)) Via.refl e236 f237 (g := (mkF m 76 #[.val (.ref o0), .val (.int (5 : Int32))] [(.ref o0)])) rfl rfl (hb hby dd_prog_49_method_9_code_76)
  obtain ⟨T239, X239, e239, st239⟩ := getF X238 hx hZ hown (host := "") (Or.inl (wd29 hw)) Via.refl e238 f237 (g := (mkF m 81 #[.val (.ref o0), .val (.int (5 : Int32))] [(.ref o0), (.int (5 : Int32)), (.ref o2)])) rfl rfl (hb hby dd_prog_49_method_9_code_81)
  have f240 := ((f217.keep Kq228 (ninS ne_o2_o1 nin0)).other W236 ne_o2_o0)
  obtain ⟨cl241, Ar241, q241, S241, M241, HH241, GG241⟩ := id f240
  have hin241 : ¬ ((5 : Int32) < 0 ∨ cl241.slots.size ≤ ((5 : Int32)).toNatClampNeg) := inb_of S241 ⟨by decide, by decide⟩
  have hat241 : cl241.slots[((5 : Int32)).toNatClampNeg]? = some (.ref o8) := Has.at HH241 hin241 rfl
  have f242 := (f231.other W236 (Or.inr (slot_ne (Or.inr (wd33 hw)) (Or.inl (wd49 hw)) (by decide) (t := (.array .int)) (t' := .int) (by decide) (by decide))))
  obtain ⟨T243, X243, e243, st243⟩ := getF X239 hx hZ hown (host := "") (Or.inl (wd32 hw)) Via.refl e239 f242 (g := (mkF m 87 #[.val (.ref o0), .val (.int (5 : Int32))] [(.ref o0), (.ref o8), (.int (5 : Int32)), (.ref o2)])) rfl rfl (hb hby dd_prog_49_method_9_code_87)
  have f244 := (f233.other W236 ne_o11_o0)
  obtain ⟨cl245, Ar245, q245, S245, M245, HH245, GG245⟩ := id f244
  have hin245 : ¬ ((5 : Int32) < 0 ∨ cl245.slots.size ≤ ((5 : Int32)).toNatClampNeg) := inb_of S245 ⟨by decide, by decide⟩
  have hat245 : cl245.slots[((5 : Int32)).toNatClampNeg]? = some (.int (0 : Int32)) := Has.at HH245 hin245 rfl
  have f246 := ((f226.keep Kq228 (ninS ne_o8_o1 nin0)).other W236 ne_o8_o0)
  obtain ⟨_, _, ⟨T247, L247, kc247, ks247⟩, -, X247, ⟨Lc247, hQ247, l247, y247, z247⟩, st247⟩ := Jvm.LawKit.callS X243 hx (y := mn3) hown (mvT hZ (wd64 hw)) (mvT hZ (wd65 hw)) (mvT hZ (wd11 hw)) (mvT hZ (wd66 hw)) (by decide) (backOf (W := 2) (rmA6 l Z a0 hw [] o8 _ h236 n0 Z236 f246) hZ (wd66 hw) (wd11 hw) (by decide) (by decide)) (g := (mkF m 92 #[.val (.ref o0), .val (.int (5 : Int32))] [(.int (0 : Int32)), (.ref o8), (.int (5 : Int32)), (.ref o2)])) rfl (by rw [hml]; rfl) (argsL := [(.ref o8), (.int (0 : Int32))]) (rest := [(.int (5 : Int32)), (.ref o2)]) (lenOf pd___Lcom_example_strict_limiter_strictlimiter_Count_I__Lcom_example_strict_limiter_strictlimiter_Count_ rfl) rfl (by show 2 * 0 + _ ≤ _; exact Nat.le_of_eq rfl) (hb hby dd_prog_49_method_9_code_92) (fun _ _ => ⟨rfl, e243, (by decide : 0 + 0 ≤ _), (by decide : 0 + 0 ≤ _)⟩)
  dsimp only [Pt.U, Pt.locs, Pt.cells, Pt.slots] at X247 l247 y247 z247 st247 hQ247
  subst l247 y247 z247
  obtain ⟨rfl, Nq247, eq247⟩ := hQ247
  have N247 := Fr.app N236 Nq247
  have f248 := (((((((((((((((((((((((E_o8.wr W4).keep Kq18).wr W26).wr W41).wr W46).keep Kq60).wr W68).wr W83).wr W88).keep Kq102).wr W110).wr W125).wr W130).keep Kq144).wr W152).wr W167).wr W172).keep Kq186).wr W194).wr W209).wr W214).keep Kq228).wr W236)
  have f249 := f207
  obtain ⟨cl250, Ar250, q250, S250, M250, HH250, GG250⟩ := id f240
  have hin250 : ¬ ((5 : Int32) < 0 ∨ cl250.slots.size ≤ ((5 : Int32)).toNatClampNeg) := inb_of S250 ⟨by decide, by decide⟩
  obtain ⟨T251, h251, X251, e251, W251, st251⟩ := stR X247 hx hZ eq247 Ar250 (j := (5 : Int32)) hin250 rfl (Sto.ofVA Ar250 q250 f249 (Ins.self f248)) (g := (mkF m 95 #[.val (.ref o0), .val (.int (5 : Int32))] [(.ref o8), (.int (5 : Int32)), (.ref o2)])) rfl rfl (hb hby dd_prog_49_method_9_code_95)
  have N251 := Fr.snoc X251 N247 g_o2
  have Z251 : n0 ≤ h251.size := by rw [W251.size]; exact Z236
  have K251 : Keep h0 h251 [o0, o1, o2, o11] := (K236.wr W251 (Or.inl (List.mem_of_getElem? (i := 2) rfl)))
  have V251 := Arv.set Ar250 q250 S250 M250 HH250 GG250 rfl W251 5 rfl (Nat.le_of_ble_eq_true rfl)
  have f252 := (f242.other W251 (Or.inl (Ne.symm ne_o2_o0)))
  obtain ⟨T253, X253, e253, st253⟩ := getF X251 hx hZ hown (host := "") (Or.inl (wd32 hw)) Via.refl e251 f252 (g := (mkF m 97 #[.val (.ref o0), .val (.int (5 : Int32))] [(.ref o0)])) rfl rfl (hb hby dd_prog_49_method_9_code_97)
  have f254 := (f244.other W251 ne_o11_o2)
  obtain ⟨cl255, Ar255, q255, S255, M255, HH255, GG255⟩ := id f254
  have hin255 : ¬ ((5 : Int32) < 0 ∨ cl255.slots.size ≤ ((5 : Int32)).toNatClampNeg) := inb_of S255 ⟨by decide, by decide⟩
  obtain ⟨T256, h256, X256, e256, W256, st256⟩ := stI X253 hx hZ e253 Ar255 (j := (5 : Int32)) hin255 (g := (mkF m 102 #[.val (.ref o0), .val (.int (5 : Int32))] [(.int (0 : Int32)), (.int (5 : Int32)), (.ref o11)])) rfl rfl (hb hby dd_prog_49_method_9_code_102)
  have N256 := Fr.snoc X256 N251 g_o11
  have Z256 : n0 ≤ h256.size := by rw [W256.size]; exact Z251
  have K256 : Keep h0 h256 [o0, o1, o2, o11] := (K251.wr W256 (Or.inl (List.mem_of_getElem? (i := 3) rfl)))
  have V256 := Arv.set Ar255 q255 S255 M255 HH255 GG255 rfl W256 5 rfl (Nat.le_of_ble_eq_true rfl)
  have f257 := ((f237.other W251 (Or.inl (Ne.symm ne_o2_o0))).other W256 (Or.inl (Ne.symm ne_o11_o0)))
  obtain ⟨T258, X258, e258, st258⟩ := getF X256 hx hZ hown (host := "") (Or.inl (wd29 hw)) Via.refl e256 f257 (g := (mkF m 37 #[.val (.ref o0), .val (.int (6 : Int32))] [(.ref o0)])) rfl rfl (hb hby dd_prog_49_method_9_code_37)
  have f259 := (V251.other W256 (Ne.symm ne_o11_o2))
  obtain ⟨cl260, Ar260, q260, S260, M260, HH260, GG260⟩ := id f259
  have hin260 : ¬ ((6 : Int32) < 0 ∨ cl260.slots.size ≤ ((6 : Int32)).toNatClampNeg) := inb_of S260 ⟨by decide, by decide⟩
  have hat260 : cl260.slots[((6 : Int32)).toNatClampNeg]? = some (.ref o9) := Has.at HH260 hin260 rfl
  have f261 := ((((f219.keep Kq228 (ninS (Ne.symm ne_o1_o0) nin0)).other W236 (Or.inr (slot_ne (Or.inl (wd37 hw)) (Or.inl (wd49 hw)) (by decide) (t := (.array (.object cn6))) (t' := .int) (by decide) (by decide)))).other W251 (Or.inl (Ne.symm ne_o2_o0))).other W256 (Or.inl (Ne.symm ne_o11_o0)))
  obtain ⟨T262, X262, e262, st262⟩ := getF X258 hx hZ hown (host := "") (Or.inl (wd36 hw)) Via.refl e258 f261 (g := (mkF m 44 #[.val (.ref o0), .val (.int (6 : Int32))] [(.ref o0), (.int (0 : Int32)), (.ref o9)])) rfl rfl (hb hby dd_prog_49_method_9_code_44)
  have f263 := ((Fw236.other W251 (Or.inl (Ne.symm ne_o2_o0))).other W256 (Or.inl (Ne.symm ne_o11_o0)))
  obtain ⟨T264, X264, e264, st264⟩ := getF X262 hx hZ hown (host := "") (Or.inl (wd48 hw)) Via.refl e262 f263 (g := (mkF m 48 #[.val (.ref o0), .val (.int (6 : Int32))] [(.ref o0), (.ref o1), (.int (0 : Int32)), (.ref o9)])) rfl rfl (hb hby dd_prog_49_method_9_code_48)
  have f265 := (f252.other W256 (Or.inl (Ne.symm ne_o11_o0)))
  obtain ⟨T266, X266, e266, st266⟩ := getF X264 hx hZ hown (host := "") (Or.inl (wd32 hw)) Via.refl e264 f265 (g := (mkF m 52 #[.val (.ref o0), .val (.int (6 : Int32))] [(.ref o0), (.int (0 : Int32)), (.ref o1), (.int (0 : Int32)), (.ref o9)])) rfl rfl (hb hby dd_prog_49_method_9_code_52)
  obtain ⟨cl267, Ar267, q267, S267, M267, HH267, GG267⟩ := id V256
  have hin267 : ¬ ((6 : Int32) < 0 ∨ cl267.slots.size ≤ ((6 : Int32)).toNatClampNeg) := inb_of S267 ⟨by decide, by decide⟩
  have hat267 : cl267.slots[((6 : Int32)).toNatClampNeg]? = some (.int (0 : Int32)) := Has.at HH267 hin267 rfl
  have f268 := (((((((((((((((((((((((((V_o9.other W4 ne_o9_o0).keep Kq18 (ninS ne_o9_o1 nin0)).other W26 ne_o9_o0).other W41 ne_o9_o2).other W46 ne_o9_o11).keep Kq60 (ninS ne_o9_o1 nin0)).other W68 ne_o9_o0).other W83 ne_o9_o2).other W88 ne_o9_o11).keep Kq102 (ninS ne_o9_o1 nin0)).other W110 ne_o9_o0).other W125 ne_o9_o2).other W130 ne_o9_o11).keep Kq144 (ninS ne_o9_o1 nin0)).other W152 ne_o9_o0).other W167 ne_o9_o2).other W172 ne_o9_o11).keep Kq186 (ninS ne_o9_o1 nin0)).other W194 ne_o9_o0).other W209 ne_o9_o2).other W214 ne_o9_o11).keep Kq228 (ninS ne_o9_o1 nin0)).other W236 ne_o9_o0).other W251 ne_o9_o2).other W256 ne_o9_o11)
  have f269 := (((V228.other W236 ne_o1_o0).other W251 (Ne.symm ne_o2_o1)).other W256 (Ne.symm ne_o11_o1))
  obtain ⟨T270, h270, Lq270, X270, e270, Nq270, Kq270, Vq270, st270⟩ := cpA X266 hx hZ hown (wd60 hw) (wd63 hw) (wd61 hw) (wd62 hw) e266 (us := []) f268 f269 (Or.inr ⟨rfl, rfl, trivial⟩) (by decide) (by decide) (by decide) (by first | decide | exact Nat.le_of_ble_eq_true rfl) (by first | decide | exact Nat.le_of_ble_eq_true rfl) (by rfl) (by first | decide | exact Nat.le_of_ble_eq_true rfl) N256 g_o1 (g := (mkF m 57 #[.val (.ref o0), .val (.int (6 : Int32))] [(.int (0 : Int32)), (.int (0 : Int32)), (.ref o1), (.int (0 : Int32)), (.ref o9)])) rfl (by rw [hml]; rfl) rfl (hb hby dd_prog_49_method_9_code_57) (by decide) (W := 0) (by show 2 * 0 + _ ≤ _; exact Nat.le_of_eq rfl) (by decide)
  have Z270 : n0 ≤ h270.size := Nat.le_trans Z256 Kq270.1
  have K270 : Keep h0 h270 [o0, o1, o2, o11] := Keep.trans K256 Kq270 (allS (Or.inl (List.mem_of_getElem? (i := 1) rfl)) all0)
  have V270 : Arv Z h270 o1 _ (.object cn6) (16 : Int32) [] .null := Vq270
  have f271 := (f263.keep Kq270 (ninS (Ne.symm ne_o1_o0) nin0))
  obtain ⟨T272, X272, e272, st272⟩ := getF X270 hx hZ hown (host := "") (Or.inl (wd48 hw)) Via.refl e270 f271 (g := (mkF m 62 #[.val (.ref o0), .val (.int (6 : Int32))] [(.ref o0), (.ref o0)])) rfl rfl (hb hby dd_prog_49_method_9_code_62)
  have f273 := (f265.keep Kq270 (ninS (Ne.symm ne_o1_o0) nin0))
  obtain ⟨T274, X274, e274, st274⟩ := getF X272 hx hZ hown (host := "") (Or.inl (wd32 hw)) Via.refl e272 f273 (g := (mkF m 66 #[.val (.ref o0), .val (.int (6 : Int32))] [(.ref o0), (.int (0 : Int32)), (.ref o0)])) rfl rfl (hb hby dd_prog_49_method_9_code_66)
  have f275 := (V256.keep Kq270 (ninS ne_o11_o1 nin0))
  obtain ⟨cl276, Ar276, q276, S276, M276, HH276, GG276⟩ := id f275
  have hin276 : ¬ ((6 : Int32) < 0 ∨ cl276.slots.size ≤ ((6 : Int32)).toNatClampNeg) := inb_of S276 ⟨by decide, by decide⟩
  have hat276 : cl276.slots[((6 : Int32)).toNatClampNeg]? = some (.int (0 : Int32)) := Has.at HH276 hin276 rfl
  have f277 := ((((f235.wr W236).wr W251).wr W256).keep Kq270)
  obtain ⟨T278, h278, X278, e278, W278, st278⟩ := putF X274 hx hZ hown (host := "") (Or.inl (wd48 hw)) Via.refl e274 f271 f277 (Or.inl (wd49 hw)) (wd10 hw) (ty := .int) (by decide) rfl rfl (g := (mkF m 72 #[.val (.ref o0), .val (.int (6 : Int32))] [(.int (0 : Int32)), (.ref o0)])) rfl rfl (hb hby dd_prog_49_method_9_code_72)
  have N278 := Fr.snoc X278 Nq270 g_o0
  have Z278 : n0 ≤ h278.size := by rw [W278.size]; exact Z270
  have K278 : Keep h0 h278 [o0, o1, o2, o11] := (K270.wr W278 (Or.inl (List.mem_of_getElem? (i := 0) rfl)))
  have Fw278 := f271.same W278
  have f279 := ((f257.keep Kq270 (ninS (Ne.symm ne_o1_o0) nin0)).other W278 (Or.inr (slot_ne (Or.inr (wd30 hw)) (Or.inl (wd49 hw)) (by decide) (t := (.array (.array (.object cn6)))) (t' := .int) (by decide) (by decide))))
  obtain ⟨T280, X280, e280, st280⟩ := getF X278 hx hZ hown (host := "") (Or.inl (wd29 hw)) Via.refl e278 f279 (g := (mkF m 76 #[.val (.ref o0), .val (.int (6 : Int32))] [(.ref o0)])) rfl rfl (hb hby dd_prog_49_method_9_code_76)
  obtain ⟨T281, X281, e281, st281⟩ := getF X280 hx hZ hown (host := "") (Or.inl (wd29 hw)) Via.refl e280 f279 (g := (mkF m 81 #[.val (.ref o0), .val (.int (6 : Int32))] [(.ref o0), (.int (6 : Int32)), (.ref o2)])) rfl rfl (hb hby dd_prog_49_method_9_code_81)
  have f282 := ((f259.keep Kq270 (ninS ne_o2_o1 nin0)).other W278 ne_o2_o0)
  obtain ⟨cl283, Ar283, q283, S283, M283, HH283, GG283⟩ := id f282
  have hin283 : ¬ ((6 : Int32) < 0 ∨ cl283.slots.size ≤ ((6 : Int32)).toNatClampNeg) := inb_of S283 ⟨by decide, by decide⟩
  have hat283 : cl283.slots[((6 : Int32)).toNatClampNeg]? = some (.ref o9) := Has.at HH283 hin283 rfl
  have f284 := (f273.other W278 (Or.inr (slot_ne (Or.inr (wd33 hw)) (Or.inl (wd49 hw)) (by decide) (t := (.array .int)) (t' := .int) (by decide) (by decide))))
  obtain ⟨T285, X285, e285, st285⟩ := getF X281 hx hZ hown (host := "") (Or.inl (wd32 hw)) Via.refl e281 f284 (g := (mkF m 87 #[.val (.ref o0), .val (.int (6 : Int32))] [(.ref o0), (.ref o9), (.int (6 : Int32)), (.ref o2)])) rfl rfl (hb hby dd_prog_49_method_9_code_87)
  have f286 := (f275.other W278 ne_o11_o0)
  obtain ⟨cl287, Ar287, q287, S287, M287, HH287, GG287⟩ := id f286
  have hin287 : ¬ ((6 : Int32) < 0 ∨ cl287.slots.size ≤ ((6 : Int32)).toNatClampNeg) := inb_of S287 ⟨by decide, by decide⟩
  have hat287 : cl287.slots[((6 : Int32)).toNatClampNeg]? = some (.int (0 : Int32)) := Has.at HH287 hin287 rfl
  have f288 := ((f268.keep Kq270 (ninS ne_o9_o1 nin0)).other W278 ne_o9_o0)
  obtain ⟨_, _, ⟨T289, L289, kc289, ks289⟩, -, X289, ⟨Lc289, hQ289, l289, y289, z289⟩, st289⟩ := Jvm.LawKit.callS X285 hx (y := mn3) hown (mvT hZ (wd64 hw)) (mvT hZ (wd65 hw)) (mvT hZ (wd11 hw)) (mvT hZ (wd66 hw)) (by decide) (backOf (W := 2) (rmA6 l Z a0 hw [] o9 _ h278 n0 Z278 f288) hZ (wd66 hw) (wd11 hw) (by decide) (by decide)) (g := (mkF m 92 #[.val (.ref o0), .val (.int (6 : Int32))] [(.int (0 : Int32)), (.ref o9), (.int (6 : Int32)), (.ref o2)])) rfl (by rw [hml]; rfl) (argsL := [(.ref o9), (.int (0 : Int32))]) (rest := [(.int (6 : Int32)), (.ref o2)]) (lenOf pd___Lcom_example_strict_limiter_strictlimiter_Count_I__Lcom_example_strict_limiter_strictlimiter_Count_ rfl) rfl (by show 2 * 0 + _ ≤ _; exact Nat.le_of_eq rfl) (hb hby dd_prog_49_method_9_code_92) (fun _ _ => ⟨rfl, e285, (by decide : 0 + 0 ≤ _), (by decide : 0 + 0 ≤ _)⟩)
  dsimp only [Pt.U, Pt.locs, Pt.cells, Pt.slots] at X289 l289 y289 z289 st289 hQ289
  subst l289 y289 z289
  obtain ⟨rfl, Nq289, eq289⟩ := hQ289
  have N289 := Fr.app N278 Nq289
  have f290 := (((((((((((((((((((((((((((E_o9.wr W4).keep Kq18).wr W26).wr W41).wr W46).keep Kq60).wr W68).wr W83).wr W88).keep Kq102).wr W110).wr W125).wr W130).keep Kq144).wr W152).wr W167).wr W172).keep Kq186).wr W194).wr W209).wr W214).keep Kq228).wr W236).wr W251).wr W256).keep Kq270).wr W278)
  have f291 := f249
  obtain ⟨cl292, Ar292, q292, S292, M292, HH292, GG292⟩ := id f282
  have hin292 : ¬ ((6 : Int32) < 0 ∨ cl292.slots.size ≤ ((6 : Int32)).toNatClampNeg) := inb_of S292 ⟨by decide, by decide⟩
  obtain ⟨T293, h293, X293, e293, W293, st293⟩ := stR X289 hx hZ eq289 Ar292 (j := (6 : Int32)) hin292 rfl (Sto.ofVA Ar292 q292 f291 (Ins.self f290)) (g := (mkF m 95 #[.val (.ref o0), .val (.int (6 : Int32))] [(.ref o9), (.int (6 : Int32)), (.ref o2)])) rfl rfl (hb hby dd_prog_49_method_9_code_95)
  have N293 := Fr.snoc X293 N289 g_o2
  have Z293 : n0 ≤ h293.size := by rw [W293.size]; exact Z278
  have K293 : Keep h0 h293 [o0, o1, o2, o11] := (K278.wr W293 (Or.inl (List.mem_of_getElem? (i := 2) rfl)))
  have V293 := Arv.set Ar292 q292 S292 M292 HH292 GG292 rfl W293 6 rfl (Nat.le_of_ble_eq_true rfl)
  have f294 := (f284.other W293 (Or.inl (Ne.symm ne_o2_o0)))
  obtain ⟨T295, X295, e295, st295⟩ := getF X293 hx hZ hown (host := "") (Or.inl (wd32 hw)) Via.refl e293 f294 (g := (mkF m 97 #[.val (.ref o0), .val (.int (6 : Int32))] [(.ref o0)])) rfl rfl (hb hby dd_prog_49_method_9_code_97)
  have f296 := (f286.other W293 ne_o11_o2)
  obtain ⟨cl297, Ar297, q297, S297, M297, HH297, GG297⟩ := id f296
  have hin297 : ¬ ((6 : Int32) < 0 ∨ cl297.slots.size ≤ ((6 : Int32)).toNatClampNeg) := inb_of S297 ⟨by decide, by decide⟩
  obtain ⟨T298, h298, X298, e298, W298, st298⟩ := stI X295 hx hZ e295 Ar297 (j := (6 : Int32)) hin297 (g := (mkF m 102 #[.val (.ref o0), .val (.int (6 : Int32))] [(.int (0 : Int32)), (.int (6 : Int32)), (.ref o11)])) rfl rfl (hb hby dd_prog_49_method_9_code_102)
  have N298 := Fr.snoc X298 N293 g_o11
  have Z298 : n0 ≤ h298.size := by rw [W298.size]; exact Z293
  have K298 : Keep h0 h298 [o0, o1, o2, o11] := (K293.wr W298 (Or.inl (List.mem_of_getElem? (i := 3) rfl)))
  have V298 := Arv.set Ar297 q297 S297 M297 HH297 GG297 rfl W298 6 rfl (Nat.le_of_ble_eq_true rfl)
  have f299 := ((f279.other W293 (Or.inl (Ne.symm ne_o2_o0))).other W298 (Or.inl (Ne.symm ne_o11_o0)))
  obtain ⟨T300, X300, e300, st300⟩ := getF X298 hx hZ hown (host := "") (Or.inl (wd29 hw)) Via.refl e298 f299 (g := (mkF m 37 #[.val (.ref o0), .val (.int (7 : Int32))] [(.ref o0)])) rfl rfl (hb hby dd_prog_49_method_9_code_37)
  have f301 := (V293.other W298 (Ne.symm ne_o11_o2))
  obtain ⟨cl302, Ar302, q302, S302, M302, HH302, GG302⟩ := id f301
  have hin302 : ¬ ((7 : Int32) < 0 ∨ cl302.slots.size ≤ ((7 : Int32)).toNatClampNeg) := inb_of S302 ⟨by decide, by decide⟩
  have hat302 : cl302.slots[((7 : Int32)).toNatClampNeg]? = some (.ref o10) := Has.at HH302 hin302 rfl
  have f303 := ((((f261.keep Kq270 (ninS (Ne.symm ne_o1_o0) nin0)).other W278 (Or.inr (slot_ne (Or.inl (wd37 hw)) (Or.inl (wd49 hw)) (by decide) (t := (.array (.object cn6))) (t' := .int) (by decide) (by decide)))).other W293 (Or.inl (Ne.symm ne_o2_o0))).other W298 (Or.inl (Ne.symm ne_o11_o0)))
  obtain ⟨T304, X304, e304, st304⟩ := getF X300 hx hZ hown (host := "") (Or.inl (wd36 hw)) Via.refl e300 f303 (g := (mkF m 44 #[.val (.ref o0), .val (.int (7 : Int32))] [(.ref o0), (.int (0 : Int32)), (.ref o10)])) rfl rfl (hb hby dd_prog_49_method_9_code_44)
  have f305 := ((Fw278.other W293 (Or.inl (Ne.symm ne_o2_o0))).other W298 (Or.inl (Ne.symm ne_o11_o0)))
  obtain ⟨T306, X306, e306, st306⟩ := getF X304 hx hZ hown (host := "") (Or.inl (wd48 hw)) Via.refl e304 f305 (g := (mkF m 48 #[.val (.ref o0), .val (.int (7 : Int32))] [(.ref o0), (.ref o1), (.int (0 : Int32)), (.ref o10)])) rfl rfl (hb hby dd_prog_49_method_9_code_48)
  have f307 := (f294.other W298 (Or.inl (Ne.symm ne_o11_o0)))
  obtain ⟨T308, X308, e308, st308⟩ := getF X306 hx hZ hown (host := "") (Or.inl (wd32 hw)) Via.refl e306 f307 (g := (mkF m 52 #[.val (.ref o0), .val (.int (7 : Int32))] [(.ref o0), (.int (0 : Int32)), (.ref o1), (.int (0 : Int32)), (.ref o10)])) rfl rfl (hb hby dd_prog_49_method_9_code_52)
  obtain ⟨cl309, Ar309, q309, S309, M309, HH309, GG309⟩ := id V298
  have hin309 : ¬ ((7 : Int32) < 0 ∨ cl309.slots.size ≤ ((7 : Int32)).toNatClampNeg) := inb_of S309 ⟨by decide, by decide⟩
  have hat309 : cl309.slots[((7 : Int32)).toNatClampNeg]? = some (.int (0 : Int32)) := Has.at HH309 hin309 rfl
  have f310 := (((((((((((((((((((((((((((((V_o10.other W4 ne_o10_o0).keep Kq18 (ninS ne_o10_o1 nin0)).other W26 ne_o10_o0).other W41 ne_o10_o2).other W46 ne_o10_o11).keep Kq60 (ninS ne_o10_o1 nin0)).other W68 ne_o10_o0).other W83 ne_o10_o2).other W88 ne_o10_o11).keep Kq102 (ninS ne_o10_o1 nin0)).other W110 ne_o10_o0).other W125 ne_o10_o2).other W130 ne_o10_o11).keep Kq144 (ninS ne_o10_o1 nin0)).other W152 ne_o10_o0).other W167 ne_o10_o2).other W172 ne_o10_o11).keep Kq186 (ninS ne_o10_o1 nin0)).other W194 ne_o10_o0).other W209 ne_o10_o2).other W214 ne_o10_o11).keep Kq228 (ninS ne_o10_o1 nin0)).other W236 ne_o10_o0).other W251 ne_o10_o2).other W256 ne_o10_o11).keep Kq270 (ninS ne_o10_o1 nin0)).other W278 ne_o10_o0).other W293 ne_o10_o2).other W298 ne_o10_o11)
  have f311 := (((V270.other W278 ne_o1_o0).other W293 (Ne.symm ne_o2_o1)).other W298 (Ne.symm ne_o11_o1))
  obtain ⟨T312, h312, Lq312, X312, e312, Nq312, Kq312, Vq312, st312⟩ := cpA X308 hx hZ hown (wd60 hw) (wd63 hw) (wd61 hw) (wd62 hw) e308 (us := []) f310 f311 (Or.inr ⟨rfl, rfl, trivial⟩) (by decide) (by decide) (by decide) (by first | decide | exact Nat.le_of_ble_eq_true rfl) (by first | decide | exact Nat.le_of_ble_eq_true rfl) (by rfl) (by first | decide | exact Nat.le_of_ble_eq_true rfl) N298 g_o1 (g := (mkF m 57 #[.val (.ref o0), .val (.int (7 : Int32))] [(.int (0 : Int32)), (.int (0 : Int32)), (.ref o1), (.int (0 : Int32)), (.ref o10)])) rfl (by rw [hml]; rfl) rfl (hb hby dd_prog_49_method_9_code_57) (by decide) (W := 0) (by show 2 * 0 + _ ≤ _; exact Nat.le_of_eq rfl) (by decide)
  have Z312 : n0 ≤ h312.size := Nat.le_trans Z298 Kq312.1
  have K312 : Keep h0 h312 [o0, o1, o2, o11] := Keep.trans K298 Kq312 (allS (Or.inl (List.mem_of_getElem? (i := 1) rfl)) all0)
  have V312 : Arv Z h312 o1 _ (.object cn6) (16 : Int32) [] .null := Vq312
  have f313 := (f305.keep Kq312 (ninS (Ne.symm ne_o1_o0) nin0))
  obtain ⟨T314, X314, e314, st314⟩ := getF X312 hx hZ hown (host := "") (Or.inl (wd48 hw)) Via.refl e312 f313 (g := (mkF m 62 #[.val (.ref o0), .val (.int (7 : Int32))] [(.ref o0), (.ref o0)])) rfl rfl (hb hby dd_prog_49_method_9_code_62)
  have f315 := (f307.keep Kq312 (ninS (Ne.symm ne_o1_o0) nin0))
  obtain ⟨T316, X316, e316, st316⟩ := getF X314 hx hZ hown (host := "") (Or.inl (wd32 hw)) Via.refl e314 f315 (g := (mkF m 66 #[.val (.ref o0), .val (.int (7 : Int32))] [(.ref o0), (.int (0 : Int32)), (.ref o0)])) rfl rfl (hb hby dd_prog_49_method_9_code_66)
  have f317 := (V298.keep Kq312 (ninS ne_o11_o1 nin0))
  obtain ⟨cl318, Ar318, q318, S318, M318, HH318, GG318⟩ := id f317
  have hin318 : ¬ ((7 : Int32) < 0 ∨ cl318.slots.size ≤ ((7 : Int32)).toNatClampNeg) := inb_of S318 ⟨by decide, by decide⟩
  have hat318 : cl318.slots[((7 : Int32)).toNatClampNeg]? = some (.int (0 : Int32)) := Has.at HH318 hin318 rfl
  have f319 := ((((f277.wr W278).wr W293).wr W298).keep Kq312)
  obtain ⟨T320, h320, X320, e320, W320, st320⟩ := putF X316 hx hZ hown (host := "") (Or.inl (wd48 hw)) Via.refl e316 f313 f319 (Or.inl (wd49 hw)) (wd10 hw) (ty := .int) (by decide) rfl rfl (g := (mkF m 72 #[.val (.ref o0), .val (.int (7 : Int32))] [(.int (0 : Int32)), (.ref o0)])) rfl rfl (hb hby dd_prog_49_method_9_code_72)
  have N320 := Fr.snoc X320 Nq312 g_o0
  have Z320 : n0 ≤ h320.size := by rw [W320.size]; exact Z312
  have K320 : Keep h0 h320 [o0, o1, o2, o11] := (K312.wr W320 (Or.inl (List.mem_of_getElem? (i := 0) rfl)))
  have Fw320 := f313.same W320
  have f321 := ((f299.keep Kq312 (ninS (Ne.symm ne_o1_o0) nin0)).other W320 (Or.inr (slot_ne (Or.inr (wd30 hw)) (Or.inl (wd49 hw)) (by decide) (t := (.array (.array (.object cn6)))) (t' := .int) (by decide) (by decide))))
  obtain ⟨T322, X322, e322, st322⟩ := getF X320 hx hZ hown (host := "") (Or.inl (wd29 hw)) Via.refl e320 f321 (g := (mkF m 76 #[.val (.ref o0), .val (.int (7 : Int32))] [(.ref o0)])) rfl rfl (hb hby dd_prog_49_method_9_code_76)
  obtain ⟨T323, X323, e323, st323⟩ := getF X322 hx hZ hown (host := "") (Or.inl (wd29 hw)) Via.refl e322 f321 (g := (mkF m 81 #[.val (.ref o0), .val (.int (7 : Int32))] [(.ref o0), (.int (7 : Int32)), (.ref o2)])) rfl rfl (hb hby dd_prog_49_method_9_code_81)
  have f324 := ((f301.keep Kq312 (ninS ne_o2_o1 nin0)).other W320 ne_o2_o0)
  obtain ⟨cl325, Ar325, q325, S325, M325, HH325, GG325⟩ := id f324
  have hin325 : ¬ ((7 : Int32) < 0 ∨ cl325.slots.size ≤ ((7 : Int32)).toNatClampNeg) := inb_of S325 ⟨by decide, by decide⟩
  have hat325 : cl325.slots[((7 : Int32)).toNatClampNeg]? = some (.ref o10) := Has.at HH325 hin325 rfl
  have f326 := (f315.other W320 (Or.inr (slot_ne (Or.inr (wd33 hw)) (Or.inl (wd49 hw)) (by decide) (t := (.array .int)) (t' := .int) (by decide) (by decide))))
  obtain ⟨T327, X327, e327, st327⟩ := getF X323 hx hZ hown (host := "") (Or.inl (wd32 hw)) Via.refl e323 f326 (g := (mkF m 87 #[.val (.ref o0), .val (.int (7 : Int32))] [(.ref o0), (.ref o10), (.int (7 : Int32)), (.ref o2)])) rfl rfl (hb hby dd_prog_49_method_9_code_87)
  have f328 := (f317.other W320 ne_o11_o0)
  obtain ⟨cl329, Ar329, q329, S329, M329, HH329, GG329⟩ := id f328
  have hin329 : ¬ ((7 : Int32) < 0 ∨ cl329.slots.size ≤ ((7 : Int32)).toNatClampNeg) := inb_of S329 ⟨by decide, by decide⟩
  have hat329 : cl329.slots[((7 : Int32)).toNatClampNeg]? = some (.int (0 : Int32)) := Has.at HH329 hin329 rfl
  have f330 := ((f310.keep Kq312 (ninS ne_o10_o1 nin0)).other W320 ne_o10_o0)
  obtain ⟨_, _, ⟨T331, L331, kc331, ks331⟩, -, X331, ⟨Lc331, hQ331, l331, y331, z331⟩, st331⟩ := Jvm.LawKit.callS X327 hx (y := mn3) hown (mvT hZ (wd64 hw)) (mvT hZ (wd65 hw)) (mvT hZ (wd11 hw)) (mvT hZ (wd66 hw)) (by decide) (backOf (W := 2) (rmA6 l Z a0 hw [] o10 _ h320 n0 Z320 f330) hZ (wd66 hw) (wd11 hw) (by decide) (by decide)) (g := (mkF m 92 #[.val (.ref o0), .val (.int (7 : Int32))] [(.int (0 : Int32)), (.ref o10), (.int (7 : Int32)), (.ref o2)])) rfl (by rw [hml]; rfl) (argsL := [(.ref o10), (.int (0 : Int32))]) (rest := [(.int (7 : Int32)), (.ref o2)]) (lenOf pd___Lcom_example_strict_limiter_strictlimiter_Count_I__Lcom_example_strict_limiter_strictlimiter_Count_ rfl) rfl (by show 2 * 0 + _ ≤ _; exact Nat.le_of_eq rfl) (hb hby dd_prog_49_method_9_code_92) (fun _ _ => ⟨rfl, e327, (by decide : 0 + 0 ≤ _), (by decide : 0 + 0 ≤ _)⟩)
  dsimp only [Pt.U, Pt.locs, Pt.cells, Pt.slots] at X331 l331 y331 z331 st331 hQ331
  subst l331 y331 z331
  obtain ⟨rfl, Nq331, eq331⟩ := hQ331
  have N331 := Fr.app N320 Nq331
  have f332 := (((((((((((((((((((((((((((((((E_o10.wr W4).keep Kq18).wr W26).wr W41).wr W46).keep Kq60).wr W68).wr W83).wr W88).keep Kq102).wr W110).wr W125).wr W130).keep Kq144).wr W152).wr W167).wr W172).keep Kq186).wr W194).wr W209).wr W214).keep Kq228).wr W236).wr W251).wr W256).keep Kq270).wr W278).wr W293).wr W298).keep Kq312).wr W320)
  have f333 := f291
  obtain ⟨cl334, Ar334, q334, S334, M334, HH334, GG334⟩ := id f324
  have hin334 : ¬ ((7 : Int32) < 0 ∨ cl334.slots.size ≤ ((7 : Int32)).toNatClampNeg) := inb_of S334 ⟨by decide, by decide⟩
  obtain ⟨T335, h335, X335, e335, W335, st335⟩ := stR X331 hx hZ eq331 Ar334 (j := (7 : Int32)) hin334 rfl (Sto.ofVA Ar334 q334 f333 (Ins.self f332)) (g := (mkF m 95 #[.val (.ref o0), .val (.int (7 : Int32))] [(.ref o10), (.int (7 : Int32)), (.ref o2)])) rfl rfl (hb hby dd_prog_49_method_9_code_95)
  have N335 := Fr.snoc X335 N331 g_o2
  have Z335 : n0 ≤ h335.size := by rw [W335.size]; exact Z320
  have K335 : Keep h0 h335 [o0, o1, o2, o11] := (K320.wr W335 (Or.inl (List.mem_of_getElem? (i := 2) rfl)))
  have V335 := Arv.set Ar334 q334 S334 M334 HH334 GG334 rfl W335 7 rfl (Nat.le_of_ble_eq_true rfl)
  have f336 := (f326.other W335 (Or.inl (Ne.symm ne_o2_o0)))
  obtain ⟨T337, X337, e337, st337⟩ := getF X335 hx hZ hown (host := "") (Or.inl (wd32 hw)) Via.refl e335 f336 (g := (mkF m 97 #[.val (.ref o0), .val (.int (7 : Int32))] [(.ref o0)])) rfl rfl (hb hby dd_prog_49_method_9_code_97)
  have f338 := (f328.other W335 ne_o11_o2)
  obtain ⟨cl339, Ar339, q339, S339, M339, HH339, GG339⟩ := id f338
  have hin339 : ¬ ((7 : Int32) < 0 ∨ cl339.slots.size ≤ ((7 : Int32)).toNatClampNeg) := inb_of S339 ⟨by decide, by decide⟩
  obtain ⟨T340, h340, X340, e340, W340, st340⟩ := stI X337 hx hZ e337 Ar339 (j := (7 : Int32)) hin339 (g := (mkF m 102 #[.val (.ref o0), .val (.int (7 : Int32))] [(.int (0 : Int32)), (.int (7 : Int32)), (.ref o11)])) rfl rfl (hb hby dd_prog_49_method_9_code_102)
  have N340 := Fr.snoc X340 N335 g_o11
  have Z340 : n0 ≤ h340.size := by rw [W340.size]; exact Z335
  have K340 : Keep h0 h340 [o0, o1, o2, o11] := (K335.wr W340 (Or.inl (List.mem_of_getElem? (i := 3) rfl)))
  have V340 := Arv.set Ar339 q339 S339 M339 HH339 GG339 rfl W340 7 rfl (Nat.le_of_ble_eq_true rfl)
  have f341 := (((f319.wr W320).wr W335).wr W340)
  have f342 := (((((((((((((((((((((((((((((((((F_o0_total.other W4 (Or.inr (slot_ne (Or.inl (wd55 hw)) (Or.inl (wd49 hw)) (by decide) (t := .int) (t' := .int) (by decide) (by decide)))).keep Kq18 (ninS (Ne.symm ne_o1_o0) nin0)).other W26 (Or.inr (slot_ne (Or.inl (wd55 hw)) (Or.inl (wd49 hw)) (by decide) (t := .int) (t' := .int) (by decide) (by decide)))).other W41 (Or.inl (Ne.symm ne_o2_o0))).other W46 (Or.inl (Ne.symm ne_o11_o0))).keep Kq60 (ninS (Ne.symm ne_o1_o0) nin0)).other W68 (Or.inr (slot_ne (Or.inl (wd55 hw)) (Or.inl (wd49 hw)) (by decide) (t := .int) (t' := .int) (by decide) (by decide)))).other W83 (Or.inl (Ne.symm ne_o2_o0))).other W88 (Or.inl (Ne.symm ne_o11_o0))).keep Kq102 (ninS (Ne.symm ne_o1_o0) nin0)).other W110 (Or.inr (slot_ne (Or.inl (wd55 hw)) (Or.inl (wd49 hw)) (by decide) (t := .int) (t' := .int) (by decide) (by decide)))).other W125 (Or.inl (Ne.symm ne_o2_o0))).other W130 (Or.inl (Ne.symm ne_o11_o0))).keep Kq144 (ninS (Ne.symm ne_o1_o0) nin0)).other W152 (Or.inr (slot_ne (Or.inl (wd55 hw)) (Or.inl (wd49 hw)) (by decide) (t := .int) (t' := .int) (by decide) (by decide)))).other W167 (Or.inl (Ne.symm ne_o2_o0))).other W172 (Or.inl (Ne.symm ne_o11_o0))).keep Kq186 (ninS (Ne.symm ne_o1_o0) nin0)).other W194 (Or.inr (slot_ne (Or.inl (wd55 hw)) (Or.inl (wd49 hw)) (by decide) (t := .int) (t' := .int) (by decide) (by decide)))).other W209 (Or.inl (Ne.symm ne_o2_o0))).other W214 (Or.inl (Ne.symm ne_o11_o0))).keep Kq228 (ninS (Ne.symm ne_o1_o0) nin0)).other W236 (Or.inr (slot_ne (Or.inl (wd55 hw)) (Or.inl (wd49 hw)) (by decide) (t := .int) (t' := .int) (by decide) (by decide)))).other W251 (Or.inl (Ne.symm ne_o2_o0))).other W256 (Or.inl (Ne.symm ne_o11_o0))).keep Kq270 (ninS (Ne.symm ne_o1_o0) nin0)).other W278 (Or.inr (slot_ne (Or.inl (wd55 hw)) (Or.inl (wd49 hw)) (by decide) (t := .int) (t' := .int) (by decide) (by decide)))).other W293 (Or.inl (Ne.symm ne_o2_o0))).other W298 (Or.inl (Ne.symm ne_o11_o0))).keep Kq312 (ninS (Ne.symm ne_o1_o0) nin0)).other W320 (Or.inr (slot_ne (Or.inl (wd55 hw)) (Or.inl (wd49 hw)) (by decide) (t := .int) (t' := .int) (by decide) (by decide)))).other W335 (Or.inl (Ne.symm ne_o2_o0))).other W340 (Or.inl (Ne.symm ne_o11_o0)))
  obtain ⟨T343, h343, X343, e343, W343, st343⟩ := putF X340 hx hZ hown (host := "") (Or.inl (wd54 hw)) Via.refl e340 f342 f341 (Or.inl (wd55 hw)) (wd10 hw) (ty := .int) (by decide) rfl rfl (g := (mkF m 111 #[.val (.ref o0), .val (.int (8 : Int32))] [(.int (0 : Int32)), (.ref o0)])) rfl rfl (hb hby dd_prog_49_method_9_code_111)
  have N343 := Fr.snoc X343 N340 g_o0
  have Z343 : n0 ≤ h343.size := by rw [W343.size]; exact Z340
  have K343 : Keep h0 h343 [o0, o1, o2, o11] := (K340.wr W343 (Or.inl (List.mem_of_getElem? (i := 0) rfl)))
  have Fw343 := f342.same W343
  have f344 := (f341.wr W343)
  have f345 := ((((((((((((((((((((((((((((((((((F_o0_handed.other W4 (Or.inr (slot_ne (Or.inl (wd47 hw)) (Or.inl (wd49 hw)) (by decide) (t := .int) (t' := .int) (by decide) (by decide)))).keep Kq18 (ninS (Ne.symm ne_o1_o0) nin0)).other W26 (Or.inr (slot_ne (Or.inl (wd47 hw)) (Or.inl (wd49 hw)) (by decide) (t := .int) (t' := .int) (by decide) (by decide)))).other W41 (Or.inl (Ne.symm ne_o2_o0))).other W46 (Or.inl (Ne.symm ne_o11_o0))).keep Kq60 (ninS (Ne.symm ne_o1_o0) nin0)).other W68 (Or.inr (slot_ne (Or.inl (wd47 hw)) (Or.inl (wd49 hw)) (by decide) (t := .int) (t' := .int) (by decide) (by decide)))).other W83 (Or.inl (Ne.symm ne_o2_o0))).other W88 (Or.inl (Ne.symm ne_o11_o0))).keep Kq102 (ninS (Ne.symm ne_o1_o0) nin0)).other W110 (Or.inr (slot_ne (Or.inl (wd47 hw)) (Or.inl (wd49 hw)) (by decide) (t := .int) (t' := .int) (by decide) (by decide)))).other W125 (Or.inl (Ne.symm ne_o2_o0))).other W130 (Or.inl (Ne.symm ne_o11_o0))).keep Kq144 (ninS (Ne.symm ne_o1_o0) nin0)).other W152 (Or.inr (slot_ne (Or.inl (wd47 hw)) (Or.inl (wd49 hw)) (by decide) (t := .int) (t' := .int) (by decide) (by decide)))).other W167 (Or.inl (Ne.symm ne_o2_o0))).other W172 (Or.inl (Ne.symm ne_o11_o0))).keep Kq186 (ninS (Ne.symm ne_o1_o0) nin0)).other W194 (Or.inr (slot_ne (Or.inl (wd47 hw)) (Or.inl (wd49 hw)) (by decide) (t := .int) (t' := .int) (by decide) (by decide)))).other W209 (Or.inl (Ne.symm ne_o2_o0))).other W214 (Or.inl (Ne.symm ne_o11_o0))).keep Kq228 (ninS (Ne.symm ne_o1_o0) nin0)).other W236 (Or.inr (slot_ne (Or.inl (wd47 hw)) (Or.inl (wd49 hw)) (by decide) (t := .int) (t' := .int) (by decide) (by decide)))).other W251 (Or.inl (Ne.symm ne_o2_o0))).other W256 (Or.inl (Ne.symm ne_o11_o0))).keep Kq270 (ninS (Ne.symm ne_o1_o0) nin0)).other W278 (Or.inr (slot_ne (Or.inl (wd47 hw)) (Or.inl (wd49 hw)) (by decide) (t := .int) (t' := .int) (by decide) (by decide)))).other W293 (Or.inl (Ne.symm ne_o2_o0))).other W298 (Or.inl (Ne.symm ne_o11_o0))).keep Kq312 (ninS (Ne.symm ne_o1_o0) nin0)).other W320 (Or.inr (slot_ne (Or.inl (wd47 hw)) (Or.inl (wd49 hw)) (by decide) (t := .int) (t' := .int) (by decide) (by decide)))).other W335 (Or.inl (Ne.symm ne_o2_o0))).other W340 (Or.inl (Ne.symm ne_o11_o0))).other W343 (Or.inr (slot_ne (Or.inl (wd47 hw)) (Or.inl (wd55 hw)) (by decide) (t := .int) (t' := .int) (by decide) (by decide))))
  obtain ⟨T346, h346, X346, e346, W346, st346⟩ := putF X343 hx hZ hown (host := "") (Or.inl (wd46 hw)) Via.refl e343 f345 f344 (Or.inl (wd47 hw)) (wd10 hw) (ty := .int) (by decide) rfl rfl (g := (mkF m 116 #[.val (.ref o0), .val (.int (8 : Int32))] [(.int (0 : Int32)), (.ref o0)])) rfl rfl (hb hby dd_prog_49_method_9_code_116)
  have N346 := Fr.snoc X346 N343 g_o0
  have Z346 : n0 ≤ h346.size := by rw [W346.size]; exact Z343
  have K346 : Keep h0 h346 [o0, o1, o2, o11] := (K343.wr W346 (Or.inl (List.mem_of_getElem? (i := 0) rfl)))
  have Fw346 := f345.same W346
  have f347 := ((((((f303.keep Kq312 (ninS (Ne.symm ne_o1_o0) nin0)).other W320 (Or.inr (slot_ne (Or.inl (wd37 hw)) (Or.inl (wd49 hw)) (by decide) (t := (.array (.object cn6))) (t' := .int) (by decide) (by decide)))).other W335 (Or.inl (Ne.symm ne_o2_o0))).other W340 (Or.inl (Ne.symm ne_o11_o0))).other W343 (Or.inr (slot_ne (Or.inl (wd37 hw)) (Or.inl (wd55 hw)) (by decide) (t := (.array (.object cn6))) (t' := .int) (by decide) (by decide)))).other W346 (Or.inr (slot_ne (Or.inl (wd37 hw)) (Or.inl (wd47 hw)) (by decide) (t := (.array (.object cn6))) (t' := .int) (by decide) (by decide))))
  have f348 := (((((V312.other W320 ne_o1_o0).other W335 (Ne.symm ne_o2_o1)).other W340 (Ne.symm ne_o11_o1)).other W343 ne_o1_o0).other W346 ne_o1_o0)
  have f349 := (Fw343.other W346 (Or.inr (slot_ne (Or.inl (wd55 hw)) (Or.inl (wd47 hw)) (by decide) (t := .int) (t' := .int) (by decide) (by decide))))
  have f350 := (f344.wr W346)
  have f351 := ((((Fw320.other W335 (Or.inl (Ne.symm ne_o2_o0))).other W340 (Or.inl (Ne.symm ne_o11_o0))).other W343 (Or.inr (slot_ne (Or.inl (wd49 hw)) (Or.inl (wd55 hw)) (by decide) (t := .int) (t' := .int) (by decide) (by decide)))).other W346 (Or.inr (slot_ne (Or.inl (wd49 hw)) (Or.inl (wd47 hw)) (by decide) (t := .int) (t' := .int) (by decide) (by decide))))
  have f352 := ((((f321.other W335 (Or.inl (Ne.symm ne_o2_o0))).other W340 (Or.inl (Ne.symm ne_o11_o0))).other W343 (Or.inr (slot_ne (Or.inr (wd30 hw)) (Or.inl (wd55 hw)) (by decide) (t := (.array (.array (.object cn6)))) (t' := .int) (by decide) (by decide)))).other W346 (Or.inr (slot_ne (Or.inr (wd30 hw)) (Or.inl (wd47 hw)) (by decide) (t := (.array (.array (.object cn6)))) (t' := .int) (by decide) (by decide))))
  have f353 := (((V335.other W340 (Ne.symm ne_o11_o2)).other W343 ne_o2_o0).other W346 ne_o2_o0)
  have f354 := (((f336.other W340 (Or.inl (Ne.symm ne_o11_o0))).other W343 (Or.inr (slot_ne (Or.inr (wd33 hw)) (Or.inl (wd55 hw)) (by decide) (t := (.array .int)) (t' := .int) (by decide) (by decide)))).other W346 (Or.inr (slot_ne (Or.inr (wd33 hw)) (Or.inl (wd47 hw)) (by decide) (t := (.array .int)) (t' := .int) (by decide) (by decide))))
  have f355 := ((V340.other W343 ne_o11_o0).other W346 ne_o11_o0)
  have f356 := (((((((((((((((((((((((((((((((((((F_o0_width.other W4 (Or.inr (slot_ne (Or.inr (wd39 hw)) (Or.inl (wd49 hw)) (by decide) (t := .long) (t' := .int) (by decide) (by decide)))).keep Kq18 (ninS (Ne.symm ne_o1_o0) nin0)).other W26 (Or.inr (slot_ne (Or.inr (wd39 hw)) (Or.inl (wd49 hw)) (by decide) (t := .long) (t' := .int) (by decide) (by decide)))).other W41 (Or.inl (Ne.symm ne_o2_o0))).other W46 (Or.inl (Ne.symm ne_o11_o0))).keep Kq60 (ninS (Ne.symm ne_o1_o0) nin0)).other W68 (Or.inr (slot_ne (Or.inr (wd39 hw)) (Or.inl (wd49 hw)) (by decide) (t := .long) (t' := .int) (by decide) (by decide)))).other W83 (Or.inl (Ne.symm ne_o2_o0))).other W88 (Or.inl (Ne.symm ne_o11_o0))).keep Kq102 (ninS (Ne.symm ne_o1_o0) nin0)).other W110 (Or.inr (slot_ne (Or.inr (wd39 hw)) (Or.inl (wd49 hw)) (by decide) (t := .long) (t' := .int) (by decide) (by decide)))).other W125 (Or.inl (Ne.symm ne_o2_o0))).other W130 (Or.inl (Ne.symm ne_o11_o0))).keep Kq144 (ninS (Ne.symm ne_o1_o0) nin0)).other W152 (Or.inr (slot_ne (Or.inr (wd39 hw)) (Or.inl (wd49 hw)) (by decide) (t := .long) (t' := .int) (by decide) (by decide)))).other W167 (Or.inl (Ne.symm ne_o2_o0))).other W172 (Or.inl (Ne.symm ne_o11_o0))).keep Kq186 (ninS (Ne.symm ne_o1_o0) nin0)).other W194 (Or.inr (slot_ne (Or.inr (wd39 hw)) (Or.inl (wd49 hw)) (by decide) (t := .long) (t' := .int) (by decide) (by decide)))).other W209 (Or.inl (Ne.symm ne_o2_o0))).other W214 (Or.inl (Ne.symm ne_o11_o0))).keep Kq228 (ninS (Ne.symm ne_o1_o0) nin0)).other W236 (Or.inr (slot_ne (Or.inr (wd39 hw)) (Or.inl (wd49 hw)) (by decide) (t := .long) (t' := .int) (by decide) (by decide)))).other W251 (Or.inl (Ne.symm ne_o2_o0))).other W256 (Or.inl (Ne.symm ne_o11_o0))).keep Kq270 (ninS (Ne.symm ne_o1_o0) nin0)).other W278 (Or.inr (slot_ne (Or.inr (wd39 hw)) (Or.inl (wd49 hw)) (by decide) (t := .long) (t' := .int) (by decide) (by decide)))).other W293 (Or.inl (Ne.symm ne_o2_o0))).other W298 (Or.inl (Ne.symm ne_o11_o0))).keep Kq312 (ninS (Ne.symm ne_o1_o0) nin0)).other W320 (Or.inr (slot_ne (Or.inr (wd39 hw)) (Or.inl (wd49 hw)) (by decide) (t := .long) (t' := .int) (by decide) (by decide)))).other W335 (Or.inl (Ne.symm ne_o2_o0))).other W340 (Or.inl (Ne.symm ne_o11_o0))).other W343 (Or.inr (slot_ne (Or.inr (wd39 hw)) (Or.inl (wd55 hw)) (by decide) (t := .long) (t' := .int) (by decide) (by decide)))).other W346 (Or.inr (slot_ne (Or.inr (wd39 hw)) (Or.inl (wd47 hw)) (by decide) (t := .long) (t' := .int) (by decide) (by decide))))
  have f357 := (((((((((((((((((((((((((((((((((((F_o0_handedIn.other W4 (Or.inr (slot_ne (Or.inr (wd26 hw)) (Or.inl (wd49 hw)) (by decide) (t := (.object cn8)) (t' := .int) (by decide) (by decide)))).keep Kq18 (ninS (Ne.symm ne_o1_o0) nin0)).other W26 (Or.inr (slot_ne (Or.inr (wd26 hw)) (Or.inl (wd49 hw)) (by decide) (t := (.object cn8)) (t' := .int) (by decide) (by decide)))).other W41 (Or.inl (Ne.symm ne_o2_o0))).other W46 (Or.inl (Ne.symm ne_o11_o0))).keep Kq60 (ninS (Ne.symm ne_o1_o0) nin0)).other W68 (Or.inr (slot_ne (Or.inr (wd26 hw)) (Or.inl (wd49 hw)) (by decide) (t := (.object cn8)) (t' := .int) (by decide) (by decide)))).other W83 (Or.inl (Ne.symm ne_o2_o0))).other W88 (Or.inl (Ne.symm ne_o11_o0))).keep Kq102 (ninS (Ne.symm ne_o1_o0) nin0)).other W110 (Or.inr (slot_ne (Or.inr (wd26 hw)) (Or.inl (wd49 hw)) (by decide) (t := (.object cn8)) (t' := .int) (by decide) (by decide)))).other W125 (Or.inl (Ne.symm ne_o2_o0))).other W130 (Or.inl (Ne.symm ne_o11_o0))).keep Kq144 (ninS (Ne.symm ne_o1_o0) nin0)).other W152 (Or.inr (slot_ne (Or.inr (wd26 hw)) (Or.inl (wd49 hw)) (by decide) (t := (.object cn8)) (t' := .int) (by decide) (by decide)))).other W167 (Or.inl (Ne.symm ne_o2_o0))).other W172 (Or.inl (Ne.symm ne_o11_o0))).keep Kq186 (ninS (Ne.symm ne_o1_o0) nin0)).other W194 (Or.inr (slot_ne (Or.inr (wd26 hw)) (Or.inl (wd49 hw)) (by decide) (t := (.object cn8)) (t' := .int) (by decide) (by decide)))).other W209 (Or.inl (Ne.symm ne_o2_o0))).other W214 (Or.inl (Ne.symm ne_o11_o0))).keep Kq228 (ninS (Ne.symm ne_o1_o0) nin0)).other W236 (Or.inr (slot_ne (Or.inr (wd26 hw)) (Or.inl (wd49 hw)) (by decide) (t := (.object cn8)) (t' := .int) (by decide) (by decide)))).other W251 (Or.inl (Ne.symm ne_o2_o0))).other W256 (Or.inl (Ne.symm ne_o11_o0))).keep Kq270 (ninS (Ne.symm ne_o1_o0) nin0)).other W278 (Or.inr (slot_ne (Or.inr (wd26 hw)) (Or.inl (wd49 hw)) (by decide) (t := (.object cn8)) (t' := .int) (by decide) (by decide)))).other W293 (Or.inl (Ne.symm ne_o2_o0))).other W298 (Or.inl (Ne.symm ne_o11_o0))).keep Kq312 (ninS (Ne.symm ne_o1_o0) nin0)).other W320 (Or.inr (slot_ne (Or.inr (wd26 hw)) (Or.inl (wd49 hw)) (by decide) (t := (.object cn8)) (t' := .int) (by decide) (by decide)))).other W335 (Or.inl (Ne.symm ne_o2_o0))).other W340 (Or.inl (Ne.symm ne_o11_o0))).other W343 (Or.inr (slot_ne (Or.inr (wd26 hw)) (Or.inl (wd55 hw)) (by decide) (t := (.object cn8)) (t' := .int) (by decide) (by decide)))).other W346 (Or.inr (slot_ne (Or.inr (wd26 hw)) (Or.inl (wd47 hw)) (by decide) (t := (.object cn8)) (t' := .int) (by decide) (by decide))))
  have f358 := (((((((((((((((((((((((((((((((((((F_o0_next.other W4 (Or.inr (slot_ne (Or.inl (wd75 hw)) (Or.inl (wd49 hw)) (by decide) (t := .long) (t' := .int) (by decide) (by decide)))).keep Kq18 (ninS (Ne.symm ne_o1_o0) nin0)).other W26 (Or.inr (slot_ne (Or.inl (wd75 hw)) (Or.inl (wd49 hw)) (by decide) (t := .long) (t' := .int) (by decide) (by decide)))).other W41 (Or.inl (Ne.symm ne_o2_o0))).other W46 (Or.inl (Ne.symm ne_o11_o0))).keep Kq60 (ninS (Ne.symm ne_o1_o0) nin0)).other W68 (Or.inr (slot_ne (Or.inl (wd75 hw)) (Or.inl (wd49 hw)) (by decide) (t := .long) (t' := .int) (by decide) (by decide)))).other W83 (Or.inl (Ne.symm ne_o2_o0))).other W88 (Or.inl (Ne.symm ne_o11_o0))).keep Kq102 (ninS (Ne.symm ne_o1_o0) nin0)).other W110 (Or.inr (slot_ne (Or.inl (wd75 hw)) (Or.inl (wd49 hw)) (by decide) (t := .long) (t' := .int) (by decide) (by decide)))).other W125 (Or.inl (Ne.symm ne_o2_o0))).other W130 (Or.inl (Ne.symm ne_o11_o0))).keep Kq144 (ninS (Ne.symm ne_o1_o0) nin0)).other W152 (Or.inr (slot_ne (Or.inl (wd75 hw)) (Or.inl (wd49 hw)) (by decide) (t := .long) (t' := .int) (by decide) (by decide)))).other W167 (Or.inl (Ne.symm ne_o2_o0))).other W172 (Or.inl (Ne.symm ne_o11_o0))).keep Kq186 (ninS (Ne.symm ne_o1_o0) nin0)).other W194 (Or.inr (slot_ne (Or.inl (wd75 hw)) (Or.inl (wd49 hw)) (by decide) (t := .long) (t' := .int) (by decide) (by decide)))).other W209 (Or.inl (Ne.symm ne_o2_o0))).other W214 (Or.inl (Ne.symm ne_o11_o0))).keep Kq228 (ninS (Ne.symm ne_o1_o0) nin0)).other W236 (Or.inr (slot_ne (Or.inl (wd75 hw)) (Or.inl (wd49 hw)) (by decide) (t := .long) (t' := .int) (by decide) (by decide)))).other W251 (Or.inl (Ne.symm ne_o2_o0))).other W256 (Or.inl (Ne.symm ne_o11_o0))).keep Kq270 (ninS (Ne.symm ne_o1_o0) nin0)).other W278 (Or.inr (slot_ne (Or.inl (wd75 hw)) (Or.inl (wd49 hw)) (by decide) (t := .long) (t' := .int) (by decide) (by decide)))).other W293 (Or.inl (Ne.symm ne_o2_o0))).other W298 (Or.inl (Ne.symm ne_o11_o0))).keep Kq312 (ninS (Ne.symm ne_o1_o0) nin0)).other W320 (Or.inr (slot_ne (Or.inl (wd75 hw)) (Or.inl (wd49 hw)) (by decide) (t := .long) (t' := .int) (by decide) (by decide)))).other W335 (Or.inl (Ne.symm ne_o2_o0))).other W340 (Or.inl (Ne.symm ne_o11_o0))).other W343 (Or.inr (slot_ne (Or.inl (wd75 hw)) (Or.inl (wd55 hw)) (by decide) (t := .long) (t' := .int) (by decide) (by decide)))).other W346 (Or.inr (slot_ne (Or.inl (wd75 hw)) (Or.inl (wd47 hw)) (by decide) (t := .long) (t' := .int) (by decide) (by decide))))
  have f359 := (((((((((((((((((((((((((((((((((((E_o1.wr W4).keep Kq18).wr W26).wr W41).wr W46).keep Kq60).wr W68).wr W83).wr W88).keep Kq102).wr W110).wr W125).wr W130).keep Kq144).wr W152).wr W167).wr W172).keep Kq186).wr W194).wr W209).wr W214).keep Kq228).wr W236).wr W251).wr W256).keep Kq270).wr W278).wr W293).wr W298).keep Kq312).wr W320).wr W335).wr W340).wr W343).wr W346)
  have f360 := (((((((((((((((((((((((((((((((((((E_o2.wr W4).keep Kq18).wr W26).wr W41).wr W46).keep Kq60).wr W68).wr W83).wr W88).keep Kq102).wr W110).wr W125).wr W130).keep Kq144).wr W152).wr W167).wr W172).keep Kq186).wr W194).wr W209).wr W214).keep Kq228).wr W236).wr W251).wr W256).keep Kq270).wr W278).wr W293).wr W298).keep Kq312).wr W320).wr W335).wr W340).wr W343).wr W346)
  obtain ⟨lfs, lhr, lhrun, lhended, lhW, lhsame⟩ := X346.leave (v := none) (fun _ => rfl)
  refine ⟨_, _, pre0 _ ?_, lhrun, lhended, _, _, rfl, ?_, ⟨_, rfl⟩, lhW, lhsame.mono (by decide) (by decide)⟩
  · skip
    show Steps p.tables e below (s₁.setTop (mkF m 0 #[.val (.ref o0), .unset] [])) _
    refine XS.aloadN X0.here hx rfl (hb hby dd_prog_49_method_9_code_0) rfl rfl ?_
    show Steps p.tables e below (s₁.setTop (mkF m 1 #[.val (.ref o0), .unset] [(.ref o0)])) _
    refine st1 _ ?_
    show Steps p.tables e below (T1.setTop (mkF m 4 #[.val (.ref o0), .unset] [(.ref o1)])) _
    refine X1.arraylength hx (by (try rw [e1]); exact Ar2.1) (State.isArrayOf_alike hZ.alike Ar2.2.1) (g := (mkF m 4 #[.val (.ref o0), .unset] [(.ref o1)])) rfl rfl (hb hby dd_prog_49_method_9_code_4) _ ?_
    rw [len_of S2 M2]
    refine XS.aloadN X1.here hx rfl (hb hby dd_prog_49_method_9_code_5) rfl rfl ?_
    show Steps p.tables e below (T1.setTop (mkF m 6 #[.val (.ref o0), .unset] [(.ref o0), (.int (16 : Int32))])) _
    refine st3 _ ?_
    show Steps p.tables e below (T3.setTop (mkF m 9 #[.val (.ref o0), .unset] [(.int (0 : Int32)), (.int (16 : Int32))])) _
    refine XS.icmpYes X3.here hx rfl (pc0 := 9) (pc' := 23) rfl (hb hby dd_prog_49_method_9_code_9) rfl (flt (by decide : ¬ ((16 : Int32) < (0 : Int32)))).2.1 (by decide) (by decide) ?_
    refine XS.aloadN X3.here hx rfl (hb hby dd_prog_49_method_9_code_23) rfl rfl ?_
    refine XS.iconst X3.here hx rfl (hb hby dd_prog_49_method_9_code_24) ?_
    show Steps p.tables e below (T3.setTop (mkF m 25 #[.val (.ref o0), .unset] [(.int (0 : Int32)), (.ref o0)])) _
    refine st4 _ ?_
    show Steps p.tables e below (T4.setTop (mkF m 28 #[.val (.ref o0), .unset] [])) _
    refine XS.iconst X4.here hx rfl (hb hby dd_prog_49_method_9_code_28) ?_
    refine XS.istoreN X4.here hx rfl (hb hby dd_prog_49_method_9_code_29) rfl (l' := #[.val (.ref o0), .val (.int (0 : Int32))]) rfl ?_
    show Steps p.tables e below (T4.setTop (mkF m 30 #[.val (.ref o0), .val (.int (0 : Int32))] [])) _
    refine XS.iloadN X4.here hx rfl (hb hby dd_prog_49_method_9_code_30) rfl ?_
    refine XS.bipush X4.here hx rfl (hb hby dd_prog_49_method_9_code_31) ?_
    refine XS.icmpNo X4.here hx rfl (hb hby dd_prog_49_method_9_code_33) rfl (tlt (by decide : (0 : Int32) < (8 : Int32))).2.1 ?_
    show Steps p.tables e below (T4.setTop (mkF m 36 #[.val (.ref o0), .val (.int (0 : Int32))] [])) _
    refine XS.aloadN X4.here hx rfl (hb hby dd_prog_49_method_9_code_36) rfl rfl ?_
    show Steps p.tables e below (T4.setTop (mkF m 37 #[.val (.ref o0), .val (.int (0 : Int32))] [(.ref o0)])) _
    refine st6 _ ?_
    show Steps p.tables e below (T6.setTop (mkF m 40 #[.val (.ref o0), .val (.int (0 : Int32))] [(.ref o2)])) _
    refine XS.iloadN X6.here hx rfl (hb hby dd_prog_49_method_9_code_40) rfl ?_
    show Steps p.tables e below (T6.setTop (mkF m 41 #[.val (.ref o0), .val (.int (0 : Int32))] [(.int (0 : Int32)), (.ref o2)])) _
    refine X6.aaload hx (j := (0 : Int32)) (v := (.ref o3)) (by (try rw [e6]); exact Ar8.1) (State.isArrayOf_alike hZ.alike Ar8.2.1) rfl Ar8.2.2 hin8 hat8 (g := (mkF m 41 #[.val (.ref o0), .val (.int (0 : Int32))] [(.int (0 : Int32)), (.ref o2)])) rfl rfl (hb hby dd_prog_49_method_9_code_41) _ ?_
    refine XS.iconst X6.here hx rfl (hb hby dd_prog_49_method_9_code_42) ?_
    refine XS.aloadN X6.here hx rfl (hb hby dd_prog_49_method_9_code_43) rfl rfl ?_
    show Steps p.tables e below (T6.setTop (mkF m 44 #[.val (.ref o0), .val (.int (0 : Int32))] [(.ref o0), (.int (0 : Int32)), (.ref o3)])) _
    refine st10 _ ?_
    show Steps p.tables e below (T10.setTop (mkF m 47 #[.val (.ref o0), .val (.int (0 : Int32))] [(.ref o1), (.int (0 : Int32)), (.ref o3)])) _
    refine XS.aloadN X10.here hx rfl (hb hby dd_prog_49_method_9_code_47) rfl rfl ?_
    show Steps p.tables e below (T10.setTop (mkF m 48 #[.val (.ref o0), .val (.int (0 : Int32))] [(.ref o0), (.ref o1), (.int (0 : Int32)), (.ref o3)])) _
    refine st11 _ ?_
    show Steps p.tables e below (T11.setTop (mkF m 51 #[.val (.ref o0), .val (.int (0 : Int32))] [(.int (0 : Int32)), (.ref o1), (.int (0 : Int32)), (.ref o3)])) _
    refine XS.aloadN X11.here hx rfl (hb hby dd_prog_49_method_9_code_51) rfl rfl ?_
    show Steps p.tables e below (T11.setTop (mkF m 52 #[.val (.ref o0), .val (.int (0 : Int32))] [(.ref o0), (.int (0 : Int32)), (.ref o1), (.int (0 : Int32)), (.ref o3)])) _
    refine st13 _ ?_
    show Steps p.tables e below (T13.setTop (mkF m 55 #[.val (.ref o0), .val (.int (0 : Int32))] [(.ref o11), (.int (0 : Int32)), (.ref o1), (.int (0 : Int32)), (.ref o3)])) _
    refine XS.iloadN X13.here hx rfl (hb hby dd_prog_49_method_9_code_55) rfl ?_
    show Steps p.tables e below (T13.setTop (mkF m 56 #[.val (.ref o0), .val (.int (0 : Int32))] [(.int (0 : Int32)), (.ref o11), (.int (0 : Int32)), (.ref o1), (.int (0 : Int32)), (.ref o3)])) _
    refine X13.iaload hx (j := (0 : Int32)) (v := (.int (0 : Int32))) (by (try rw [e13]); exact Ar15.1) (State.isArrayOf_alike hZ.alike Ar15.2.1) Ar15.2.2 hin15 hat15 (g := (mkF m 56 #[.val (.ref o0), .val (.int (0 : Int32))] [(.int (0 : Int32)), (.ref o11), (.int (0 : Int32)), (.ref o1), (.int (0 : Int32)), (.ref o3)])) rfl rfl (hb hby dd_prog_49_method_9_code_56) _ ?_
    show Steps p.tables e below (T13.setTop (mkF m 57 #[.val (.ref o0), .val (.int (0 : Int32))] [(.int (0 : Int32)), (.int (0 : Int32)), (.ref o1), (.int (0 : Int32)), (.ref o3)])) _
    refine st18 _ ?_
    show Steps p.tables e below (T18.setTop (mkF m 60 #[.val (.ref o0), .val (.int (0 : Int32))] [])) _
    refine XS.aloadN X18.here hx rfl (hb hby dd_prog_49_method_9_code_60) rfl rfl ?_
    show Steps p.tables e below (T18.setTop (mkF m 61 #[.val (.ref o0), .val (.int (0 : Int32))] [(.ref o0)])) _
    refine XS.dup X18.here hx rfl (hb hby dd_prog_49_method_9_code_61) rfl rfl ?_
    show Steps p.tables e below (T18.setTop (mkF m 62 #[.val (.ref o0), .val (.int (0 : Int32))] [(.ref o0), (.ref o0)])) _
    refine st20 _ ?_
    show Steps p.tables e below (T20.setTop (mkF m 65 #[.val (.ref o0), .val (.int (0 : Int32))] [(.int (0 : Int32)), (.ref o0)])) _
    refine XS.aloadN X20.here hx rfl (hb hby dd_prog_49_method_9_code_65) rfl rfl ?_
    show Steps p.tables e below (T20.setTop (mkF m 66 #[.val (.ref o0), .val (.int (0 : Int32))] [(.ref o0), (.int (0 : Int32)), (.ref o0)])) _
    refine st22 _ ?_
    show Steps p.tables e below (T22.setTop (mkF m 69 #[.val (.ref o0), .val (.int (0 : Int32))] [(.ref o11), (.int (0 : Int32)), (.ref o0)])) _
    refine XS.iloadN X22.here hx rfl (hb hby dd_prog_49_method_9_code_69) rfl ?_
    refine X22.iaload hx (j := (0 : Int32)) (v := (.int (0 : Int32))) (by (try rw [e22]); exact Ar24.1) (State.isArrayOf_alike hZ.alike Ar24.2.1) Ar24.2.2 hin24 hat24 (g := (mkF m 70 #[.val (.ref o0), .val (.int (0 : Int32))] [(.int (0 : Int32)), (.ref o11), (.int (0 : Int32)), (.ref o0)])) rfl rfl (hb hby dd_prog_49_method_9_code_70) _ ?_
    show Steps p.tables e below (T22.setTop (mkF m 71 #[.val (.ref o0), .val (.int (0 : Int32))] [(.int (0 : Int32)), (.int (0 : Int32)), (.ref o0)])) _
    refine XS.iadd X22.here hx rfl (hb hby dd_prog_49_method_9_code_71) rfl ?_
    show Steps p.tables e below (T22.setTop (mkF m 72 #[.val (.ref o0), .val (.int (0 : Int32))] [(.int (0 : Int32)), (.ref o0)])) _
    refine st26 _ ?_
    show Steps p.tables e below (T26.setTop (mkF m 75 #[.val (.ref o0), .val (.int (0 : Int32))] [])) _
    refine XS.aloadN X26.here hx rfl (hb hby dd_prog_49_method_9_code_75) rfl rfl ?_
    show Steps p.tables e below (T26.setTop (mkF m 76 #[.val (.ref o0), .val (.int (0 : Int32))] [(.ref o0)])) _
    refine st28 _ ?_
    show Steps p.tables e below (T28.setTop (mkF m 79 #[.val (.ref o0), .val (.int (0 : Int32))] [(.ref o2)])) _
    refine XS.iloadN X28.here hx rfl (hb hby dd_prog_49_method_9_code_79) rfl ?_
    refine XS.aloadN X28.here hx rfl (hb hby dd_prog_49_method_9_code_80) rfl rfl ?_
    show Steps p.tables e below (T28.setTop (mkF m 81 #[.val (.ref o0), .val (.int (0 : Int32))] [(.ref o0), (.int (0 : Int32)), (.ref o2)])) _
    refine st29 _ ?_
    show Steps p.tables e below (T29.setTop (mkF m 84 #[.val (.ref o0), .val (.int (0 : Int32))] [(.ref o2), (.int (0 : Int32)), (.ref o2)])) _
    refine XS.iloadN X29.here hx rfl (hb hby dd_prog_49_method_9_code_84) rfl ?_
    refine X29.aaload hx (j := (0 : Int32)) (v := (.ref o3)) (by (try rw [e29]); exact Ar31.1) (State.isArrayOf_alike hZ.alike Ar31.2.1) rfl Ar31.2.2 hin31 hat31 (g := (mkF m 85 #[.val (.ref o0), .val (.int (0 : Int32))] [(.int (0 : Int32)), (.ref o2), (.int (0 : Int32)), (.ref o2)])) rfl rfl (hb hby dd_prog_49_method_9_code_85) _ ?_
    show Steps p.tables e below (T29.setTop (mkF m 86 #[.val (.ref o0), .val (.int (0 : Int32))] [(.ref o3), (.int (0 : Int32)), (.ref o2)])) _
    refine XS.aloadN X29.here hx rfl (hb hby dd_prog_49_method_9_code_86) rfl rfl ?_
    show Steps p.tables e below (T29.setTop (mkF m 87 #[.val (.ref o0), .val (.int (0 : Int32))] [(.ref o0), (.ref o3), (.int (0 : Int32)), (.ref o2)])) _
    refine st33 _ ?_
    show Steps p.tables e below (T33.setTop (mkF m 90 #[.val (.ref o0), .val (.int (0 : Int32))] [(.ref o11), (.ref o3), (.int (0 : Int32)), (.ref o2)])) _
    refine XS.iloadN X33.here hx rfl (hb hby dd_prog_49_method_9_code_90) rfl ?_
    show Steps p.tables e below (T33.setTop (mkF m 91 #[.val (.ref o0), .val (.int (0 : Int32))] [(.int (0 : Int32)), (.ref o11), (.ref o3), (.int (0 : Int32)), (.ref o2)])) _
    refine X33.iaload hx (j := (0 : Int32)) (v := (.int (0 : Int32))) (by (try rw [e33]); exact Ar35.1) (State.isArrayOf_alike hZ.alike Ar35.2.1) Ar35.2.2 hin35 hat35 (g := (mkF m 91 #[.val (.ref o0), .val (.int (0 : Int32))] [(.int (0 : Int32)), (.ref o11), (.ref o3), (.int (0 : Int32)), (.ref o2)])) rfl rfl (hb hby dd_prog_49_method_9_code_91) _ ?_
    show Steps p.tables e below (T33.setTop (mkF m 92 #[.val (.ref o0), .val (.int (0 : Int32))] [(.int (0 : Int32)), (.ref o3), (.int (0 : Int32)), (.ref o2)])) _
    refine st37 _ ?_
    show Steps p.tables e below (T37.setTop (mkF m 95 #[.val (.ref o0), .val (.int (0 : Int32))] [(.ref o3), (.int (0 : Int32)), (.ref o2)])) _
    refine st41 _ ?_
    show Steps p.tables e below (T41.setTop (mkF m 96 #[.val (.ref o0), .val (.int (0 : Int32))] [])) _
    refine XS.aloadN X41.here hx rfl (hb hby dd_prog_49_method_9_code_96) rfl rfl ?_
    show Steps p.tables e below (T41.setTop (mkF m 97 #[.val (.ref o0), .val (.int (0 : Int32))] [(.ref o0)])) _
    refine st43 _ ?_
    show Steps p.tables e below (T43.setTop (mkF m 100 #[.val (.ref o0), .val (.int (0 : Int32))] [(.ref o11)])) _
    refine XS.iloadN X43.here hx rfl (hb hby dd_prog_49_method_9_code_100) rfl ?_
    show Steps p.tables e below (T43.setTop (mkF m 101 #[.val (.ref o0), .val (.int (0 : Int32))] [(.int (0 : Int32)), (.ref o11)])) _
    refine XS.iconst X43.here hx rfl (hb hby dd_prog_49_method_9_code_101) ?_
    show Steps p.tables e below (T43.setTop (mkF m 102 #[.val (.ref o0), .val (.int (0 : Int32))] [(.int (0 : Int32)), (.int (0 : Int32)), (.ref o11)])) _
    refine st46 _ ?_
    show Steps p.tables e below (T46.setTop (mkF m 103 #[.val (.ref o0), .val (.int (0 : Int32))] [])) _
    refine XS.iinc X46.here hx rfl (hb hby dd_prog_49_method_9_code_103) rfl (l' := #[.val (.ref o0), .val (.int (1 : Int32))]) rfl ?_
    show Steps p.tables e below (T46.setTop (mkF m 106 #[.val (.ref o0), .val (.int (1 : Int32))] [])) _
    refine XS.goto X46.here hx rfl (pc0 := 106) (pc' := 30) rfl (hb hby dd_prog_49_method_9_code_106) (by decide) (by decide) ?_
    refine XS.iloadN X46.here hx rfl (hb hby dd_prog_49_method_9_code_30) rfl ?_
    refine XS.bipush X46.here hx rfl (hb hby dd_prog_49_method_9_code_31) ?_
    show Steps p.tables e below (T46.setTop (mkF m 33 #[.val (.ref o0), .val (.int (1 : Int32))] [(.int (8 : Int32)), (.int (1 : Int32))])) _
    refine XS.icmpNo X46.here hx rfl (hb hby dd_prog_49_method_9_code_33) rfl (tlt (by decide : (1 : Int32) < (8 : Int32))).2.1 ?_
    refine XS.aloadN X46.here hx rfl (hb hby dd_prog_49_method_9_code_36) rfl rfl ?_
    show Steps p.tables e below (T46.setTop (mkF m 37 #[.val (.ref o0), .val (.int (1 : Int32))] [(.ref o0)])) _
    refine st48 _ ?_
    show Steps p.tables e below (T48.setTop (mkF m 40 #[.val (.ref o0), .val (.int (1 : Int32))] [(.ref o2)])) _
    refine XS.iloadN X48.here hx rfl (hb hby dd_prog_49_method_9_code_40) rfl ?_
    refine X48.aaload hx (j := (1 : Int32)) (v := (.ref o4)) (by (try rw [e48]); exact Ar50.1) (State.isArrayOf_alike hZ.alike Ar50.2.1) rfl Ar50.2.2 hin50 hat50 (g := (mkF m 41 #[.val (.ref o0), .val (.int (1 : Int32))] [(.int (1 : Int32)), (.ref o2)])) rfl rfl (hb hby dd_prog_49_method_9_code_41) _ ?_
    refine XS.iconst X48.here hx rfl (hb hby dd_prog_49_method_9_code_42) ?_
    show Steps p.tables e below (T48.setTop (mkF m 43 #[.val (.ref o0), .val (.int (1 : Int32))] [(.int (0 : Int32)), (.ref o4)])) _
    refine XS.aloadN X48.here hx rfl (hb hby dd_prog_49_method_9_code_43) rfl rfl ?_
    show Steps p.tables e below (T48.setTop (mkF m 44 #[.val (.ref o0), .val (.int (1 : Int32))] [(.ref o0), (.int (0 : Int32)), (.ref o4)])) _
    refine st52 _ ?_
    show Steps p.tables e below (T52.setTop (mkF m 47 #[.val (.ref o0), .val (.int (1 : Int32))] [(.ref o1), (.int (0 : Int32)), (.ref o4)])) _
    refine XS.aloadN X52.here hx rfl (hb hby dd_prog_49_method_9_code_47) rfl rfl ?_
    show Steps p.tables e below (T52.setTop (mkF m 48 #[.val (.ref o0), .val (.int (1 : Int32))] [(.ref o0), (.ref o1), (.int (0 : Int32)), (.ref o4)])) _
    refine st54 _ ?_
    show Steps p.tables e below (T54.setTop (mkF m 51 #[.val (.ref o0), .val (.int (1 : Int32))] [(.int (0 : Int32)), (.ref o1), (.int (0 : Int32)), (.ref o4)])) _
    refine XS.aloadN X54.here hx rfl (hb hby dd_prog_49_method_9_code_51) rfl rfl ?_
    show Steps p.tables e below (T54.setTop (mkF m 52 #[.val (.ref o0), .val (.int (1 : Int32))] [(.ref o0), (.int (0 : Int32)), (.ref o1), (.int (0 : Int32)), (.ref o4)])) _
    refine st56 _ ?_
    show Steps p.tables e below (T56.setTop (mkF m 55 #[.val (.ref o0), .val (.int (1 : Int32))] [(.ref o11), (.int (0 : Int32)), (.ref o1), (.int (0 : Int32)), (.ref o4)])) _
    refine XS.iloadN X56.here hx rfl (hb hby dd_prog_49_method_9_code_55) rfl ?_
    refine X56.iaload hx (j := (1 : Int32)) (v := (.int (0 : Int32))) (by (try rw [e56]); exact Ar57.1) (State.isArrayOf_alike hZ.alike Ar57.2.1) Ar57.2.2 hin57 hat57 (g := (mkF m 56 #[.val (.ref o0), .val (.int (1 : Int32))] [(.int (1 : Int32)), (.ref o11), (.int (0 : Int32)), (.ref o1), (.int (0 : Int32)), (.ref o4)])) rfl rfl (hb hby dd_prog_49_method_9_code_56) _ ?_
    show Steps p.tables e below (T56.setTop (mkF m 57 #[.val (.ref o0), .val (.int (1 : Int32))] [(.int (0 : Int32)), (.int (0 : Int32)), (.ref o1), (.int (0 : Int32)), (.ref o4)])) _
    refine st60 _ ?_
    show Steps p.tables e below (T60.setTop (mkF m 60 #[.val (.ref o0), .val (.int (1 : Int32))] [])) _
    refine XS.aloadN X60.here hx rfl (hb hby dd_prog_49_method_9_code_60) rfl rfl ?_
    refine XS.dup X60.here hx rfl (hb hby dd_prog_49_method_9_code_61) rfl rfl ?_
    show Steps p.tables e below (T60.setTop (mkF m 62 #[.val (.ref o0), .val (.int (1 : Int32))] [(.ref o0), (.ref o0)])) _
    refine st62 _ ?_
    show Steps p.tables e below (T62.setTop (mkF m 65 #[.val (.ref o0), .val (.int (1 : Int32))] [(.int (0 : Int32)), (.ref o0)])) _
    refine XS.aloadN X62.here hx rfl (hb hby dd_prog_49_method_9_code_65) rfl rfl ?_
    show Steps p.tables e below (T62.setTop (mkF m 66 #[.val (.ref o0), .val (.int (1 : Int32))] [(.ref o0), (.int (0 : Int32)), (.ref o0)])) _
    refine st64 _ ?_
    show Steps p.tables e below (T64.setTop (mkF m 69 #[.val (.ref o0), .val (.int (1 : Int32))] [(.ref o11), (.int (0 : Int32)), (.ref o0)])) _
    refine XS.iloadN X64.here hx rfl (hb hby dd_prog_49_method_9_code_69) rfl ?_
    show Steps p.tables e below (T64.setTop (mkF m 70 #[.val (.ref o0), .val (.int (1 : Int32))] [(.int (1 : Int32)), (.ref o11), (.int (0 : Int32)), (.ref o0)])) _
    refine X64.iaload hx (j := (1 : Int32)) (v := (.int (0 : Int32))) (by (try rw [e64]); exact Ar66.1) (State.isArrayOf_alike hZ.alike Ar66.2.1) Ar66.2.2 hin66 hat66 (g := (mkF m 70 #[.val (.ref o0), .val (.int (1 : Int32))] [(.int (1 : Int32)), (.ref o11), (.int (0 : Int32)), (.ref o0)])) rfl rfl (hb hby dd_prog_49_method_9_code_70) _ ?_
    refine XS.iadd X64.here hx rfl (hb hby dd_prog_49_method_9_code_71) rfl ?_
    show Steps p.tables e below (T64.setTop (mkF m 72 #[.val (.ref o0), .val (.int (1 : Int32))] [(.int (0 : Int32)), (.ref o0)])) _
    refine st68 _ ?_
    show Steps p.tables e below (T68.setTop (mkF m 75 #[.val (.ref o0), .val (.int (1 : Int32))] [])) _
    refine XS.aloadN X68.here hx rfl (hb hby dd_prog_49_method_9_code_75) rfl rfl ?_
    show Steps p.tables e below (T68.setTop (mkF m 76 #[.val (.ref o0), .val (.int (1 : Int32))] [(.ref o0)])) _
    refine st70 _ ?_
    show Steps p.tables e below (T70.setTop (mkF m 79 #[.val (.ref o0), .val (.int (1 : Int32))] [(.ref o2)])) _
    refine XS.iloadN X70.here hx rfl (hb hby dd_prog_49_method_9_code_79) rfl ?_
    show Steps p.tables e below (T70.setTop (mkF m 80 #[.val (.ref o0), .val (.int (1 : Int32))] [(.int (1 : Int32)), (.ref o2)])) _
    refine XS.aloadN X70.here hx rfl (hb hby dd_prog_49_method_9_code_80) rfl rfl ?_
    show Steps p.tables e below (T70.setTop (mkF m 81 #[.val (.ref o0), .val (.int (1 : Int32))] [(.ref o0), (.int (1 : Int32)), (.ref o2)])) _
    refine st71 _ ?_
    show Steps p.tables e below (T71.setTop (mkF m 84 #[.val (.ref o0), .val (.int (1 : Int32))] [(.ref o2), (.int (1 : Int32)), (.ref o2)])) _
    refine XS.iloadN X71.here hx rfl (hb hby dd_prog_49_method_9_code_84) rfl ?_
    show Steps p.tables e below (T71.setTop (mkF m 85 #[.val (.ref o0), .val (.int (1 : Int32))] [(.int (1 : Int32)), (.ref o2), (.int (1 : Int32)), (.ref o2)])) _
    refine X71.aaload hx (j := (1 : Int32)) (v := (.ref o4)) (by (try rw [e71]); exact Ar73.1) (State.isArrayOf_alike hZ.alike Ar73.2.1) rfl Ar73.2.2 hin73 hat73 (g := (mkF m 85 #[.val (.ref o0), .val (.int (1 : Int32))] [(.int (1 : Int32)), (.ref o2), (.int (1 : Int32)), (.ref o2)])) rfl rfl (hb hby dd_prog_49_method_9_code_85) _ ?_
    refine XS.aloadN X71.here hx rfl (hb hby dd_prog_49_method_9_code_86) rfl rfl ?_
    show Steps p.tables e below (T71.setTop (mkF m 87 #[.val (.ref o0), .val (.int (1 : Int32))] [(.ref o0), (.ref o4), (.int (1 : Int32)), (.ref o2)])) _
    refine st75 _ ?_
    show Steps p.tables e below (T75.setTop (mkF m 90 #[.val (.ref o0), .val (.int (1 : Int32))] [(.ref o11), (.ref o4), (.int (1 : Int32)), (.ref o2)])) _
    refine XS.iloadN X75.here hx rfl (hb hby dd_prog_49_method_9_code_90) rfl ?_
    refine X75.iaload hx (j := (1 : Int32)) (v := (.int (0 : Int32))) (by (try rw [e75]); exact Ar77.1) (State.isArrayOf_alike hZ.alike Ar77.2.1) Ar77.2.2 hin77 hat77 (g := (mkF m 91 #[.val (.ref o0), .val (.int (1 : Int32))] [(.int (1 : Int32)), (.ref o11), (.ref o4), (.int (1 : Int32)), (.ref o2)])) rfl rfl (hb hby dd_prog_49_method_9_code_91) _ ?_
    show Steps p.tables e below (T75.setTop (mkF m 92 #[.val (.ref o0), .val (.int (1 : Int32))] [(.int (0 : Int32)), (.ref o4), (.int (1 : Int32)), (.ref o2)])) _
    refine st79 _ ?_
    show Steps p.tables e below (T79.setTop (mkF m 95 #[.val (.ref o0), .val (.int (1 : Int32))] [(.ref o4), (.int (1 : Int32)), (.ref o2)])) _
    refine st83 _ ?_
    show Steps p.tables e below (T83.setTop (mkF m 96 #[.val (.ref o0), .val (.int (1 : Int32))] [])) _
    refine XS.aloadN X83.here hx rfl (hb hby dd_prog_49_method_9_code_96) rfl rfl ?_
    show Steps p.tables e below (T83.setTop (mkF m 97 #[.val (.ref o0), .val (.int (1 : Int32))] [(.ref o0)])) _
    refine st85 _ ?_
    show Steps p.tables e below (T85.setTop (mkF m 100 #[.val (.ref o0), .val (.int (1 : Int32))] [(.ref o11)])) _
    refine XS.iloadN X85.here hx rfl (hb hby dd_prog_49_method_9_code_100) rfl ?_
    refine XS.iconst X85.here hx rfl (hb hby dd_prog_49_method_9_code_101) ?_
    show Steps p.tables e below (T85.setTop (mkF m 102 #[.val (.ref o0), .val (.int (1 : Int32))] [(.int (0 : Int32)), (.int (1 : Int32)), (.ref o11)])) _
    refine st88 _ ?_
    show Steps p.tables e below (T88.setTop (mkF m 103 #[.val (.ref o0), .val (.int (1 : Int32))] [])) _
    refine XS.iinc X88.here hx rfl (hb hby dd_prog_49_method_9_code_103) rfl (l' := #[.val (.ref o0), .val (.int (2 : Int32))]) rfl ?_
    refine XS.goto X88.here hx rfl (pc0 := 106) (pc' := 30) rfl (hb hby dd_prog_49_method_9_code_106) (by decide) (by decide) ?_
    refine XS.iloadN X88.here hx rfl (hb hby dd_prog_49_method_9_code_30) rfl ?_
    show Steps p.tables e below (T88.setTop (mkF m 31 #[.val (.ref o0), .val (.int (2 : Int32))] [(.int (2 : Int32))])) _
    refine XS.bipush X88.here hx rfl (hb hby dd_prog_49_method_9_code_31) ?_
    refine XS.icmpNo X88.here hx rfl (hb hby dd_prog_49_method_9_code_33) rfl (tlt (by decide : (2 : Int32) < (8 : Int32))).2.1 ?_
    refine XS.aloadN X88.here hx rfl (hb hby dd_prog_49_method_9_code_36) rfl rfl ?_
    show Steps p.tables e below (T88.setTop (mkF m 37 #[.val (.ref o0), .val (.int (2 : Int32))] [(.ref o0)])) _
    refine st90 _ ?_
    show Steps p.tables e below (T90.setTop (mkF m 40 #[.val (.ref o0), .val (.int (2 : Int32))] [(.ref o2)])) _
    refine XS.iloadN X90.here hx rfl (hb hby dd_prog_49_method_9_code_40) rfl ?_
    refine X90.aaload hx (j := (2 : Int32)) (v := (.ref o5)) (by (try rw [e90]); exact Ar92.1) (State.isArrayOf_alike hZ.alike Ar92.2.1) rfl Ar92.2.2 hin92 hat92 (g := (mkF m 41 #[.val (.ref o0), .val (.int (2 : Int32))] [(.int (2 : Int32)), (.ref o2)])) rfl rfl (hb hby dd_prog_49_method_9_code_41) _ ?_
    show Steps p.tables e below (T90.setTop (mkF m 42 #[.val (.ref o0), .val (.int (2 : Int32))] [(.ref o5)])) _
    refine XS.iconst X90.here hx rfl (hb hby dd_prog_49_method_9_code_42) ?_
    refine XS.aloadN X90.here hx rfl (hb hby dd_prog_49_method_9_code_43) rfl rfl ?_
    show Steps p.tables e below (T90.setTop (mkF m 44 #[.val (.ref o0), .val (.int (2 : Int32))] [(.ref o0), (.int (0 : Int32)), (.ref o5)])) _
    refine st94 _ ?_
    show Steps p.tables e below (T94.setTop (mkF m 47 #[.val (.ref o0), .val (.int (2 : Int32))] [(.ref o1), (.int (0 : Int32)), (.ref o5)])) _
    refine XS.aloadN X94.here hx rfl (hb hby dd_prog_49_method_9_code_47) rfl rfl ?_
    show Steps p.tables e below (T94.setTop (mkF m 48 #[.val (.ref o0), .val (.int (2 : Int32))] [(.ref o0), (.ref o1), (.int (0 : Int32)), (.ref o5)])) _
    refine st96 _ ?_
    show Steps p.tables e below (T96.setTop (mkF m 51 #[.val (.ref o0), .val (.int (2 : Int32))] [(.int (0 : Int32)), (.ref o1), (.int (0 : Int32)), (.ref o5)])) _
    refine XS.aloadN X96.here hx rfl (hb hby dd_prog_49_method_9_code_51) rfl rfl ?_
    show Steps p.tables e below (T96.setTop (mkF m 52 #[.val (.ref o0), .val (.int (2 : Int32))] [(.ref o0), (.int (0 : Int32)), (.ref o1), (.int (0 : Int32)), (.ref o5)])) _
    refine st98 _ ?_
    show Steps p.tables e below (T98.setTop (mkF m 55 #[.val (.ref o0), .val (.int (2 : Int32))] [(.ref o11), (.int (0 : Int32)), (.ref o1), (.int (0 : Int32)), (.ref o5)])) _
    refine XS.iloadN X98.here hx rfl (hb hby dd_prog_49_method_9_code_55) rfl ?_
    refine X98.iaload hx (j := (2 : Int32)) (v := (.int (0 : Int32))) (by (try rw [e98]); exact Ar99.1) (State.isArrayOf_alike hZ.alike Ar99.2.1) Ar99.2.2 hin99 hat99 (g := (mkF m 56 #[.val (.ref o0), .val (.int (2 : Int32))] [(.int (2 : Int32)), (.ref o11), (.int (0 : Int32)), (.ref o1), (.int (0 : Int32)), (.ref o5)])) rfl rfl (hb hby dd_prog_49_method_9_code_56) _ ?_
    show Steps p.tables e below (T98.setTop (mkF m 57 #[.val (.ref o0), .val (.int (2 : Int32))] [(.int (0 : Int32)), (.int (0 : Int32)), (.ref o1), (.int (0 : Int32)), (.ref o5)])) _
    refine st102 _ ?_
    show Steps p.tables e below (T102.setTop (mkF m 60 #[.val (.ref o0), .val (.int (2 : Int32))] [])) _
    refine XS.aloadN X102.here hx rfl (hb hby dd_prog_49_method_9_code_60) rfl rfl ?_
    refine XS.dup X102.here hx rfl (hb hby dd_prog_49_method_9_code_61) rfl rfl ?_
    show Steps p.tables e below (T102.setTop (mkF m 62 #[.val (.ref o0), .val (.int (2 : Int32))] [(.ref o0), (.ref o0)])) _
    refine st104 _ ?_
    show Steps p.tables e below (T104.setTop (mkF m 65 #[.val (.ref o0), .val (.int (2 : Int32))] [(.int (0 : Int32)), (.ref o0)])) _
    refine XS.aloadN X104.here hx rfl (hb hby dd_prog_49_method_9_code_65) rfl rfl ?_
    show Steps p.tables e below (T104.setTop (mkF m 66 #[.val (.ref o0), .val (.int (2 : Int32))] [(.ref o0), (.int (0 : Int32)), (.ref o0)])) _
    refine st106 _ ?_
    show Steps p.tables e below (T106.setTop (mkF m 69 #[.val (.ref o0), .val (.int (2 : Int32))] [(.ref o11), (.int (0 : Int32)), (.ref o0)])) _
    refine XS.iloadN X106.here hx rfl (hb hby dd_prog_49_method_9_code_69) rfl ?_
    refine X106.iaload hx (j := (2 : Int32)) (v := (.int (0 : Int32))) (by (try rw [e106]); exact Ar108.1) (State.isArrayOf_alike hZ.alike Ar108.2.1) Ar108.2.2 hin108 hat108 (g := (mkF m 70 #[.val (.ref o0), .val (.int (2 : Int32))] [(.int (2 : Int32)), (.ref o11), (.int (0 : Int32)), (.ref o0)])) rfl rfl (hb hby dd_prog_49_method_9_code_70) _ ?_
    refine XS.iadd X106.here hx rfl (hb hby dd_prog_49_method_9_code_71) rfl ?_
    show Steps p.tables e below (T106.setTop (mkF m 72 #[.val (.ref o0), .val (.int (2 : Int32))] [(.int (0 : Int32)), (.ref o0)])) _
    refine st110 _ ?_
    show Steps p.tables e below (T110.setTop (mkF m 75 #[.val (.ref o0), .val (.int (2 : Int32))] [])) _
    refine XS.aloadN X110.here hx rfl (hb hby dd_prog_49_method_9_code_75) rfl rfl ?_
    show Steps p.tables e below (T110.setTop (mkF m 76 #[.val (.ref o0), .val (.int (2 : Int32))] [(.ref o0)])) _
    refine st112 _ ?_
    show Steps p.tables e below (T112.setTop (mkF m 79 #[.val (.ref o0), .val (.int (2 : Int32))] [(.ref o2)])) _
    refine XS.iloadN X112.here hx rfl (hb hby dd_prog_49_method_9_code_79) rfl ?_
    refine XS.aloadN X112.here hx rfl (hb hby dd_prog_49_method_9_code_80) rfl rfl ?_
    show Steps p.tables e below (T112.setTop (mkF m 81 #[.val (.ref o0), .val (.int (2 : Int32))] [(.ref o0), (.int (2 : Int32)), (.ref o2)])) _
    refine st113 _ ?_
    show Steps p.tables e below (T113.setTop (mkF m 84 #[.val (.ref o0), .val (.int (2 : Int32))] [(.ref o2), (.int (2 : Int32)), (.ref o2)])) _
    refine XS.iloadN X113.here hx rfl (hb hby dd_prog_49_method_9_code_84) rfl ?_
    refine X113.aaload hx (j := (2 : Int32)) (v := (.ref o5)) (by (try rw [e113]); exact Ar115.1) (State.isArrayOf_alike hZ.alike Ar115.2.1) rfl Ar115.2.2 hin115 hat115 (g := (mkF m 85 #[.val (.ref o0), .val (.int (2 : Int32))] [(.int (2 : Int32)), (.ref o2), (.int (2 : Int32)), (.ref o2)])) rfl rfl (hb hby dd_prog_49_method_9_code_85) _ ?_
    refine XS.aloadN X113.here hx rfl (hb hby dd_prog_49_method_9_code_86) rfl rfl ?_
    show Steps p.tables e below (T113.setTop (mkF m 87 #[.val (.ref o0), .val (.int (2 : Int32))] [(.ref o0), (.ref o5), (.int (2 : Int32)), (.ref o2)])) _
    refine st117 _ ?_
    show Steps p.tables e below (T117.setTop (mkF m 90 #[.val (.ref o0), .val (.int (2 : Int32))] [(.ref o11), (.ref o5), (.int (2 : Int32)), (.ref o2)])) _
    refine XS.iloadN X117.here hx rfl (hb hby dd_prog_49_method_9_code_90) rfl ?_
    refine X117.iaload hx (j := (2 : Int32)) (v := (.int (0 : Int32))) (by (try rw [e117]); exact Ar119.1) (State.isArrayOf_alike hZ.alike Ar119.2.1) Ar119.2.2 hin119 hat119 (g := (mkF m 91 #[.val (.ref o0), .val (.int (2 : Int32))] [(.int (2 : Int32)), (.ref o11), (.ref o5), (.int (2 : Int32)), (.ref o2)])) rfl rfl (hb hby dd_prog_49_method_9_code_91) _ ?_
    show Steps p.tables e below (T117.setTop (mkF m 92 #[.val (.ref o0), .val (.int (2 : Int32))] [(.int (0 : Int32)), (.ref o5), (.int (2 : Int32)), (.ref o2)])) _
    refine st121 _ ?_
    show Steps p.tables e below (T121.setTop (mkF m 95 #[.val (.ref o0), .val (.int (2 : Int32))] [(.ref o5), (.int (2 : Int32)), (.ref o2)])) _
    refine st125 _ ?_
    show Steps p.tables e below (T125.setTop (mkF m 96 #[.val (.ref o0), .val (.int (2 : Int32))] [])) _
    refine XS.aloadN X125.here hx rfl (hb hby dd_prog_49_method_9_code_96) rfl rfl ?_
    show Steps p.tables e below (T125.setTop (mkF m 97 #[.val (.ref o0), .val (.int (2 : Int32))] [(.ref o0)])) _
    refine st127 _ ?_
    show Steps p.tables e below (T127.setTop (mkF m 100 #[.val (.ref o0), .val (.int (2 : Int32))] [(.ref o11)])) _
    refine XS.iloadN X127.here hx rfl (hb hby dd_prog_49_method_9_code_100) rfl ?_
    refine XS.iconst X127.here hx rfl (hb hby dd_prog_49_method_9_code_101) ?_
    show Steps p.tables e below (T127.setTop (mkF m 102 #[.val (.ref o0), .val (.int (2 : Int32))] [(.int (0 : Int32)), (.int (2 : Int32)), (.ref o11)])) _
    refine st130 _ ?_
    show Steps p.tables e below (T130.setTop (mkF m 103 #[.val (.ref o0), .val (.int (2 : Int32))] [])) _
    refine XS.iinc X130.here hx rfl (hb hby dd_prog_49_method_9_code_103) rfl (l' := #[.val (.ref o0), .val (.int (3 : Int32))]) rfl ?_
    refine XS.goto X130.here hx rfl (pc0 := 106) (pc' := 30) rfl (hb hby dd_prog_49_method_9_code_106) (by decide) (by decide) ?_
    show Steps p.tables e below (T130.setTop (mkF m 30 #[.val (.ref o0), .val (.int (3 : Int32))] [])) _
    refine XS.iloadN X130.here hx rfl (hb hby dd_prog_49_method_9_code_30) rfl ?_
    refine XS.bipush X130.here hx rfl (hb hby dd_prog_49_method_9_code_31) ?_
    refine XS.icmpNo X130.here hx rfl (hb hby dd_prog_49_method_9_code_33) rfl (tlt (by decide : (3 : Int32) < (8 : Int32))).2.1 ?_
    show Steps p.tables e below (T130.setTop (mkF m 36 #[.val (.ref o0), .val (.int (3 : Int32))] [])) _
    refine XS.aloadN X130.here hx rfl (hb hby dd_prog_49_method_9_code_36) rfl rfl ?_
    show Steps p.tables e below (T130.setTop (mkF m 37 #[.val (.ref o0), .val (.int (3 : Int32))] [(.ref o0)])) _
    refine st132 _ ?_
    show Steps p.tables e below (T132.setTop (mkF m 40 #[.val (.ref o0), .val (.int (3 : Int32))] [(.ref o2)])) _
    refine XS.iloadN X132.here hx rfl (hb hby dd_prog_49_method_9_code_40) rfl ?_
    show Steps p.tables e below (T132.setTop (mkF m 41 #[.val (.ref o0), .val (.int (3 : Int32))] [(.int (3 : Int32)), (.ref o2)])) _
    refine X132.aaload hx (j := (3 : Int32)) (v := (.ref o6)) (by (try rw [e132]); exact Ar134.1) (State.isArrayOf_alike hZ.alike Ar134.2.1) rfl Ar134.2.2 hin134 hat134 (g := (mkF m 41 #[.val (.ref o0), .val (.int (3 : Int32))] [(.int (3 : Int32)), (.ref o2)])) rfl rfl (hb hby dd_prog_49_method_9_code_41) _ ?_
    refine XS.iconst X132.here hx rfl (hb hby dd_prog_49_method_9_code_42) ?_
    refine XS.aloadN X132.here hx rfl (hb hby dd_prog_49_method_9_code_43) rfl rfl ?_
    show Steps p.tables e below (T132.setTop (mkF m 44 #[.val (.ref o0), .val (.int (3 : Int32))] [(.ref o0), (.int (0 : Int32)), (.ref o6)])) _
    refine st136 _ ?_
    show Steps p.tables e below (T136.setTop (mkF m 47 #[.val (.ref o0), .val (.int (3 : Int32))] [(.ref o1), (.int (0 : Int32)), (.ref o6)])) _
    refine XS.aloadN X136.here hx rfl (hb hby dd_prog_49_method_9_code_47) rfl rfl ?_
    show Steps p.tables e below (T136.setTop (mkF m 48 #[.val (.ref o0), .val (.int (3 : Int32))] [(.ref o0), (.ref o1), (.int (0 : Int32)), (.ref o6)])) _
    refine st138 _ ?_
    show Steps p.tables e below (T138.setTop (mkF m 51 #[.val (.ref o0), .val (.int (3 : Int32))] [(.int (0 : Int32)), (.ref o1), (.int (0 : Int32)), (.ref o6)])) _
    refine XS.aloadN X138.here hx rfl (hb hby dd_prog_49_method_9_code_51) rfl rfl ?_
    show Steps p.tables e below (T138.setTop (mkF m 52 #[.val (.ref o0), .val (.int (3 : Int32))] [(.ref o0), (.int (0 : Int32)), (.ref o1), (.int (0 : Int32)), (.ref o6)])) _
    refine st140 _ ?_
    show Steps p.tables e below (T140.setTop (mkF m 55 #[.val (.ref o0), .val (.int (3 : Int32))] [(.ref o11), (.int (0 : Int32)), (.ref o1), (.int (0 : Int32)), (.ref o6)])) _
    refine XS.iloadN X140.here hx rfl (hb hby dd_prog_49_method_9_code_55) rfl ?_
    show Steps p.tables e below (T140.setTop (mkF m 56 #[.val (.ref o0), .val (.int (3 : Int32))] [(.int (3 : Int32)), (.ref o11), (.int (0 : Int32)), (.ref o1), (.int (0 : Int32)), (.ref o6)])) _
    refine X140.iaload hx (j := (3 : Int32)) (v := (.int (0 : Int32))) (by (try rw [e140]); exact Ar141.1) (State.isArrayOf_alike hZ.alike Ar141.2.1) Ar141.2.2 hin141 hat141 (g := (mkF m 56 #[.val (.ref o0), .val (.int (3 : Int32))] [(.int (3 : Int32)), (.ref o11), (.int (0 : Int32)), (.ref o1), (.int (0 : Int32)), (.ref o6)])) rfl rfl (hb hby dd_prog_49_method_9_code_56) _ ?_
    show Steps p.tables e below (T140.setTop (mkF m 57 #[.val (.ref o0), .val (.int (3 : Int32))] [(.int (0 : Int32)), (.int (0 : Int32)), (.ref o1), (.int (0 : Int32)), (.ref o6)])) _
    refine st144 _ ?_
    show Steps p.tables e below (T144.setTop (mkF m 60 #[.val (.ref o0), .val (.int (3 : Int32))] [])) _
    refine XS.aloadN X144.here hx rfl (hb hby dd_prog_49_method_9_code_60) rfl rfl ?_
    show Steps p.tables e below (T144.setTop (mkF m 61 #[.val (.ref o0), .val (.int (3 : Int32))] [(.ref o0)])) _
    refine XS.dup X144.here hx rfl (hb hby dd_prog_49_method_9_code_61) rfl rfl ?_
    show Steps p.tables e below (T144.setTop (mkF m 62 #[.val (.ref o0), .val (.int (3 : Int32))] [(.ref o0), (.ref o0)])) _
    refine st146 _ ?_
    show Steps p.tables e below (T146.setTop (mkF m 65 #[.val (.ref o0), .val (.int (3 : Int32))] [(.int (0 : Int32)), (.ref o0)])) _
    refine XS.aloadN X146.here hx rfl (hb hby dd_prog_49_method_9_code_65) rfl rfl ?_
    show Steps p.tables e below (T146.setTop (mkF m 66 #[.val (.ref o0), .val (.int (3 : Int32))] [(.ref o0), (.int (0 : Int32)), (.ref o0)])) _
    refine st148 _ ?_
    show Steps p.tables e below (T148.setTop (mkF m 69 #[.val (.ref o0), .val (.int (3 : Int32))] [(.ref o11), (.int (0 : Int32)), (.ref o0)])) _
    refine XS.iloadN X148.here hx rfl (hb hby dd_prog_49_method_9_code_69) rfl ?_
    refine X148.iaload hx (j := (3 : Int32)) (v := (.int (0 : Int32))) (by (try rw [e148]); exact Ar150.1) (State.isArrayOf_alike hZ.alike Ar150.2.1) Ar150.2.2 hin150 hat150 (g := (mkF m 70 #[.val (.ref o0), .val (.int (3 : Int32))] [(.int (3 : Int32)), (.ref o11), (.int (0 : Int32)), (.ref o0)])) rfl rfl (hb hby dd_prog_49_method_9_code_70) _ ?_
    show Steps p.tables e below (T148.setTop (mkF m 71 #[.val (.ref o0), .val (.int (3 : Int32))] [(.int (0 : Int32)), (.int (0 : Int32)), (.ref o0)])) _
    refine XS.iadd X148.here hx rfl (hb hby dd_prog_49_method_9_code_71) rfl ?_
    show Steps p.tables e below (T148.setTop (mkF m 72 #[.val (.ref o0), .val (.int (3 : Int32))] [(.int (0 : Int32)), (.ref o0)])) _
    refine st152 _ ?_
    show Steps p.tables e below (T152.setTop (mkF m 75 #[.val (.ref o0), .val (.int (3 : Int32))] [])) _
    refine XS.aloadN X152.here hx rfl (hb hby dd_prog_49_method_9_code_75) rfl rfl ?_
    show Steps p.tables e below (T152.setTop (mkF m 76 #[.val (.ref o0), .val (.int (3 : Int32))] [(.ref o0)])) _
    refine st154 _ ?_
    show Steps p.tables e below (T154.setTop (mkF m 79 #[.val (.ref o0), .val (.int (3 : Int32))] [(.ref o2)])) _
    refine XS.iloadN X154.here hx rfl (hb hby dd_prog_49_method_9_code_79) rfl ?_
    refine XS.aloadN X154.here hx rfl (hb hby dd_prog_49_method_9_code_80) rfl rfl ?_
    show Steps p.tables e below (T154.setTop (mkF m 81 #[.val (.ref o0), .val (.int (3 : Int32))] [(.ref o0), (.int (3 : Int32)), (.ref o2)])) _
    refine st155 _ ?_
    show Steps p.tables e below (T155.setTop (mkF m 84 #[.val (.ref o0), .val (.int (3 : Int32))] [(.ref o2), (.int (3 : Int32)), (.ref o2)])) _
    refine XS.iloadN X155.here hx rfl (hb hby dd_prog_49_method_9_code_84) rfl ?_
    refine X155.aaload hx (j := (3 : Int32)) (v := (.ref o6)) (by (try rw [e155]); exact Ar157.1) (State.isArrayOf_alike hZ.alike Ar157.2.1) rfl Ar157.2.2 hin157 hat157 (g := (mkF m 85 #[.val (.ref o0), .val (.int (3 : Int32))] [(.int (3 : Int32)), (.ref o2), (.int (3 : Int32)), (.ref o2)])) rfl rfl (hb hby dd_prog_49_method_9_code_85) _ ?_
    show Steps p.tables e below (T155.setTop (mkF m 86 #[.val (.ref o0), .val (.int (3 : Int32))] [(.ref o6), (.int (3 : Int32)), (.ref o2)])) _
    refine XS.aloadN X155.here hx rfl (hb hby dd_prog_49_method_9_code_86) rfl rfl ?_
    show Steps p.tables e below (T155.setTop (mkF m 87 #[.val (.ref o0), .val (.int (3 : Int32))] [(.ref o0), (.ref o6), (.int (3 : Int32)), (.ref o2)])) _
    refine st159 _ ?_
    show Steps p.tables e below (T159.setTop (mkF m 90 #[.val (.ref o0), .val (.int (3 : Int32))] [(.ref o11), (.ref o6), (.int (3 : Int32)), (.ref o2)])) _
    refine XS.iloadN X159.here hx rfl (hb hby dd_prog_49_method_9_code_90) rfl ?_
    show Steps p.tables e below (T159.setTop (mkF m 91 #[.val (.ref o0), .val (.int (3 : Int32))] [(.int (3 : Int32)), (.ref o11), (.ref o6), (.int (3 : Int32)), (.ref o2)])) _
    refine X159.iaload hx (j := (3 : Int32)) (v := (.int (0 : Int32))) (by (try rw [e159]); exact Ar161.1) (State.isArrayOf_alike hZ.alike Ar161.2.1) Ar161.2.2 hin161 hat161 (g := (mkF m 91 #[.val (.ref o0), .val (.int (3 : Int32))] [(.int (3 : Int32)), (.ref o11), (.ref o6), (.int (3 : Int32)), (.ref o2)])) rfl rfl (hb hby dd_prog_49_method_9_code_91) _ ?_
    show Steps p.tables e below (T159.setTop (mkF m 92 #[.val (.ref o0), .val (.int (3 : Int32))] [(.int (0 : Int32)), (.ref o6), (.int (3 : Int32)), (.ref o2)])) _
    refine st163 _ ?_
    show Steps p.tables e below (T163.setTop (mkF m 95 #[.val (.ref o0), .val (.int (3 : Int32))] [(.ref o6), (.int (3 : Int32)), (.ref o2)])) _
    refine st167 _ ?_
    show Steps p.tables e below (T167.setTop (mkF m 96 #[.val (.ref o0), .val (.int (3 : Int32))] [])) _
    refine XS.aloadN X167.here hx rfl (hb hby dd_prog_49_method_9_code_96) rfl rfl ?_
    show Steps p.tables e below (T167.setTop (mkF m 97 #[.val (.ref o0), .val (.int (3 : Int32))] [(.ref o0)])) _
    refine st169 _ ?_
    show Steps p.tables e below (T169.setTop (mkF m 100 #[.val (.ref o0), .val (.int (3 : Int32))] [(.ref o11)])) _
    refine XS.iloadN X169.here hx rfl (hb hby dd_prog_49_method_9_code_100) rfl ?_
    show Steps p.tables e below (T169.setTop (mkF m 101 #[.val (.ref o0), .val (.int (3 : Int32))] [(.int (3 : Int32)), (.ref o11)])) _
    refine XS.iconst X169.here hx rfl (hb hby dd_prog_49_method_9_code_101) ?_
    show Steps p.tables e below (T169.setTop (mkF m 102 #[.val (.ref o0), .val (.int (3 : Int32))] [(.int (0 : Int32)), (.int (3 : Int32)), (.ref o11)])) _
    refine st172 _ ?_
    show Steps p.tables e below (T172.setTop (mkF m 103 #[.val (.ref o0), .val (.int (3 : Int32))] [])) _
    refine XS.iinc X172.here hx rfl (hb hby dd_prog_49_method_9_code_103) rfl (l' := #[.val (.ref o0), .val (.int (4 : Int32))]) rfl ?_
    show Steps p.tables e below (T172.setTop (mkF m 106 #[.val (.ref o0), .val (.int (4 : Int32))] [])) _
    refine XS.goto X172.here hx rfl (pc0 := 106) (pc' := 30) rfl (hb hby dd_prog_49_method_9_code_106) (by decide) (by decide) ?_
    refine XS.iloadN X172.here hx rfl (hb hby dd_prog_49_method_9_code_30) rfl ?_
    refine XS.bipush X172.here hx rfl (hb hby dd_prog_49_method_9_code_31) ?_
    show Steps p.tables e below (T172.setTop (mkF m 33 #[.val (.ref o0), .val (.int (4 : Int32))] [(.int (8 : Int32)), (.int (4 : Int32))])) _
    refine XS.icmpNo X172.here hx rfl (hb hby dd_prog_49_method_9_code_33) rfl (tlt (by decide : (4 : Int32) < (8 : Int32))).2.1 ?_
    refine XS.aloadN X172.here hx rfl (hb hby dd_prog_49_method_9_code_36) rfl rfl ?_
    show Steps p.tables e below (T172.setTop (mkF m 37 #[.val (.ref o0), .val (.int (4 : Int32))] [(.ref o0)])) _
    refine st174 _ ?_
    show Steps p.tables e below (T174.setTop (mkF m 40 #[.val (.ref o0), .val (.int (4 : Int32))] [(.ref o2)])) _
    refine XS.iloadN X174.here hx rfl (hb hby dd_prog_49_method_9_code_40) rfl ?_
    refine X174.aaload hx (j := (4 : Int32)) (v := (.ref o7)) (by (try rw [e174]); exact Ar176.1) (State.isArrayOf_alike hZ.alike Ar176.2.1) rfl Ar176.2.2 hin176 hat176 (g := (mkF m 41 #[.val (.ref o0), .val (.int (4 : Int32))] [(.int (4 : Int32)), (.ref o2)])) rfl rfl (hb hby dd_prog_49_method_9_code_41) _ ?_
    refine XS.iconst X174.here hx rfl (hb hby dd_prog_49_method_9_code_42) ?_
    show Steps p.tables e below (T174.setTop (mkF m 43 #[.val (.ref o0), .val (.int (4 : Int32))] [(.int (0 : Int32)), (.ref o7)])) _
    refine XS.aloadN X174.here hx rfl (hb hby dd_prog_49_method_9_code_43) rfl rfl ?_
    show Steps p.tables e below (T174.setTop (mkF m 44 #[.val (.ref o0), .val (.int (4 : Int32))] [(.ref o0), (.int (0 : Int32)), (.ref o7)])) _
    refine st178 _ ?_
    show Steps p.tables e below (T178.setTop (mkF m 47 #[.val (.ref o0), .val (.int (4 : Int32))] [(.ref o1), (.int (0 : Int32)), (.ref o7)])) _
    refine XS.aloadN X178.here hx rfl (hb hby dd_prog_49_method_9_code_47) rfl rfl ?_
    show Steps p.tables e below (T178.setTop (mkF m 48 #[.val (.ref o0), .val (.int (4 : Int32))] [(.ref o0), (.ref o1), (.int (0 : Int32)), (.ref o7)])) _
    refine st180 _ ?_
    show Steps p.tables e below (T180.setTop (mkF m 51 #[.val (.ref o0), .val (.int (4 : Int32))] [(.int (0 : Int32)), (.ref o1), (.int (0 : Int32)), (.ref o7)])) _
    refine XS.aloadN X180.here hx rfl (hb hby dd_prog_49_method_9_code_51) rfl rfl ?_
    show Steps p.tables e below (T180.setTop (mkF m 52 #[.val (.ref o0), .val (.int (4 : Int32))] [(.ref o0), (.int (0 : Int32)), (.ref o1), (.int (0 : Int32)), (.ref o7)])) _
    refine st182 _ ?_
    show Steps p.tables e below (T182.setTop (mkF m 55 #[.val (.ref o0), .val (.int (4 : Int32))] [(.ref o11), (.int (0 : Int32)), (.ref o1), (.int (0 : Int32)), (.ref o7)])) _
    refine XS.iloadN X182.here hx rfl (hb hby dd_prog_49_method_9_code_55) rfl ?_
    refine X182.iaload hx (j := (4 : Int32)) (v := (.int (0 : Int32))) (by (try rw [e182]); exact Ar183.1) (State.isArrayOf_alike hZ.alike Ar183.2.1) Ar183.2.2 hin183 hat183 (g := (mkF m 56 #[.val (.ref o0), .val (.int (4 : Int32))] [(.int (4 : Int32)), (.ref o11), (.int (0 : Int32)), (.ref o1), (.int (0 : Int32)), (.ref o7)])) rfl rfl (hb hby dd_prog_49_method_9_code_56) _ ?_
    show Steps p.tables e below (T182.setTop (mkF m 57 #[.val (.ref o0), .val (.int (4 : Int32))] [(.int (0 : Int32)), (.int (0 : Int32)), (.ref o1), (.int (0 : Int32)), (.ref o7)])) _
    refine st186 _ ?_
    show Steps p.tables e below (T186.setTop (mkF m 60 #[.val (.ref o0), .val (.int (4 : Int32))] [])) _
    refine XS.aloadN X186.here hx rfl (hb hby dd_prog_49_method_9_code_60) rfl rfl ?_
    refine XS.dup X186.here hx rfl (hb hby dd_prog_49_method_9_code_61) rfl rfl ?_
    show Steps p.tables e below (T186.setTop (mkF m 62 #[.val (.ref o0), .val (.int (4 : Int32))] [(.ref o0), (.ref o0)])) _
    refine st188 _ ?_
    show Steps p.tables e below (T188.setTop (mkF m 65 #[.val (.ref o0), .val (.int (4 : Int32))] [(.int (0 : Int32)), (.ref o0)])) _
    refine XS.aloadN X188.here hx rfl (hb hby dd_prog_49_method_9_code_65) rfl rfl ?_
    show Steps p.tables e below (T188.setTop (mkF m 66 #[.val (.ref o0), .val (.int (4 : Int32))] [(.ref o0), (.int (0 : Int32)), (.ref o0)])) _
    refine st190 _ ?_
    show Steps p.tables e below (T190.setTop (mkF m 69 #[.val (.ref o0), .val (.int (4 : Int32))] [(.ref o11), (.int (0 : Int32)), (.ref o0)])) _
    refine XS.iloadN X190.here hx rfl (hb hby dd_prog_49_method_9_code_69) rfl ?_
    show Steps p.tables e below (T190.setTop (mkF m 70 #[.val (.ref o0), .val (.int (4 : Int32))] [(.int (4 : Int32)), (.ref o11), (.int (0 : Int32)), (.ref o0)])) _
    refine X190.iaload hx (j := (4 : Int32)) (v := (.int (0 : Int32))) (by (try rw [e190]); exact Ar192.1) (State.isArrayOf_alike hZ.alike Ar192.2.1) Ar192.2.2 hin192 hat192 (g := (mkF m 70 #[.val (.ref o0), .val (.int (4 : Int32))] [(.int (4 : Int32)), (.ref o11), (.int (0 : Int32)), (.ref o0)])) rfl rfl (hb hby dd_prog_49_method_9_code_70) _ ?_
    refine XS.iadd X190.here hx rfl (hb hby dd_prog_49_method_9_code_71) rfl ?_
    show Steps p.tables e below (T190.setTop (mkF m 72 #[.val (.ref o0), .val (.int (4 : Int32))] [(.int (0 : Int32)), (.ref o0)])) _
    refine st194 _ ?_
    show Steps p.tables e below (T194.setTop (mkF m 75 #[.val (.ref o0), .val (.int (4 : Int32))] [])) _
    refine XS.aloadN X194.here hx rfl (hb hby dd_prog_49_method_9_code_75) rfl rfl ?_
    show Steps p.tables e below (T194.setTop (mkF m 76 #[.val (.ref o0), .val (.int (4 : Int32))] [(.ref o0)])) _
    refine st196 _ ?_
    show Steps p.tables e below (T196.setTop (mkF m 79 #[.val (.ref o0), .val (.int (4 : Int32))] [(.ref o2)])) _
    refine XS.iloadN X196.here hx rfl (hb hby dd_prog_49_method_9_code_79) rfl ?_
    show Steps p.tables e below (T196.setTop (mkF m 80 #[.val (.ref o0), .val (.int (4 : Int32))] [(.int (4 : Int32)), (.ref o2)])) _
    refine XS.aloadN X196.here hx rfl (hb hby dd_prog_49_method_9_code_80) rfl rfl ?_
    show Steps p.tables e below (T196.setTop (mkF m 81 #[.val (.ref o0), .val (.int (4 : Int32))] [(.ref o0), (.int (4 : Int32)), (.ref o2)])) _
    refine st197 _ ?_
    show Steps p.tables e below (T197.setTop (mkF m 84 #[.val (.ref o0), .val (.int (4 : Int32))] [(.ref o2), (.int (4 : Int32)), (.ref o2)])) _
    refine XS.iloadN X197.here hx rfl (hb hby dd_prog_49_method_9_code_84) rfl ?_
    show Steps p.tables e below (T197.setTop (mkF m 85 #[.val (.ref o0), .val (.int (4 : Int32))] [(.int (4 : Int32)), (.ref o2), (.int (4 : Int32)), (.ref o2)])) _
    refine X197.aaload hx (j := (4 : Int32)) (v := (.ref o7)) (by (try rw [e197]); exact Ar199.1) (State.isArrayOf_alike hZ.alike Ar199.2.1) rfl Ar199.2.2 hin199 hat199 (g := (mkF m 85 #[.val (.ref o0), .val (.int (4 : Int32))] [(.int (4 : Int32)), (.ref o2), (.int (4 : Int32)), (.ref o2)])) rfl rfl (hb hby dd_prog_49_method_9_code_85) _ ?_
    refine XS.aloadN X197.here hx rfl (hb hby dd_prog_49_method_9_code_86) rfl rfl ?_
    show Steps p.tables e below (T197.setTop (mkF m 87 #[.val (.ref o0), .val (.int (4 : Int32))] [(.ref o0), (.ref o7), (.int (4 : Int32)), (.ref o2)])) _
    refine st201 _ ?_
    show Steps p.tables e below (T201.setTop (mkF m 90 #[.val (.ref o0), .val (.int (4 : Int32))] [(.ref o11), (.ref o7), (.int (4 : Int32)), (.ref o2)])) _
    refine XS.iloadN X201.here hx rfl (hb hby dd_prog_49_method_9_code_90) rfl ?_
    refine X201.iaload hx (j := (4 : Int32)) (v := (.int (0 : Int32))) (by (try rw [e201]); exact Ar203.1) (State.isArrayOf_alike hZ.alike Ar203.2.1) Ar203.2.2 hin203 hat203 (g := (mkF m 91 #[.val (.ref o0), .val (.int (4 : Int32))] [(.int (4 : Int32)), (.ref o11), (.ref o7), (.int (4 : Int32)), (.ref o2)])) rfl rfl (hb hby dd_prog_49_method_9_code_91) _ ?_
    show Steps p.tables e below (T201.setTop (mkF m 92 #[.val (.ref o0), .val (.int (4 : Int32))] [(.int (0 : Int32)), (.ref o7), (.int (4 : Int32)), (.ref o2)])) _
    refine st205 _ ?_
    show Steps p.tables e below (T205.setTop (mkF m 95 #[.val (.ref o0), .val (.int (4 : Int32))] [(.ref o7), (.int (4 : Int32)), (.ref o2)])) _
    refine st209 _ ?_
    show Steps p.tables e below (T209.setTop (mkF m 96 #[.val (.ref o0), .val (.int (4 : Int32))] [])) _
    refine XS.aloadN X209.here hx rfl (hb hby dd_prog_49_method_9_code_96) rfl rfl ?_
    show Steps p.tables e below (T209.setTop (mkF m 97 #[.val (.ref o0), .val (.int (4 : Int32))] [(.ref o0)])) _
    refine st211 _ ?_
    show Steps p.tables e below (T211.setTop (mkF m 100 #[.val (.ref o0), .val (.int (4 : Int32))] [(.ref o11)])) _
    refine XS.iloadN X211.here hx rfl (hb hby dd_prog_49_method_9_code_100) rfl ?_
    refine XS.iconst X211.here hx rfl (hb hby dd_prog_49_method_9_code_101) ?_
    show Steps p.tables e below (T211.setTop (mkF m 102 #[.val (.ref o0), .val (.int (4 : Int32))] [(.int (0 : Int32)), (.int (4 : Int32)), (.ref o11)])) _
    refine st214 _ ?_
    show Steps p.tables e below (T214.setTop (mkF m 103 #[.val (.ref o0), .val (.int (4 : Int32))] [])) _
    refine XS.iinc X214.here hx rfl (hb hby dd_prog_49_method_9_code_103) rfl (l' := #[.val (.ref o0), .val (.int (5 : Int32))]) rfl ?_
    refine XS.goto X214.here hx rfl (pc0 := 106) (pc' := 30) rfl (hb hby dd_prog_49_method_9_code_106) (by decide) (by decide) ?_
    refine XS.iloadN X214.here hx rfl (hb hby dd_prog_49_method_9_code_30) rfl ?_
    show Steps p.tables e below (T214.setTop (mkF m 31 #[.val (.ref o0), .val (.int (5 : Int32))] [(.int (5 : Int32))])) _
    refine XS.bipush X214.here hx rfl (hb hby dd_prog_49_method_9_code_31) ?_
    refine XS.icmpNo X214.here hx rfl (hb hby dd_prog_49_method_9_code_33) rfl (tlt (by decide : (5 : Int32) < (8 : Int32))).2.1 ?_
    refine XS.aloadN X214.here hx rfl (hb hby dd_prog_49_method_9_code_36) rfl rfl ?_
    show Steps p.tables e below (T214.setTop (mkF m 37 #[.val (.ref o0), .val (.int (5 : Int32))] [(.ref o0)])) _
    refine st216 _ ?_
    show Steps p.tables e below (T216.setTop (mkF m 40 #[.val (.ref o0), .val (.int (5 : Int32))] [(.ref o2)])) _
    refine XS.iloadN X216.here hx rfl (hb hby dd_prog_49_method_9_code_40) rfl ?_
    refine X216.aaload hx (j := (5 : Int32)) (v := (.ref o8)) (by (try rw [e216]); exact Ar218.1) (State.isArrayOf_alike hZ.alike Ar218.2.1) rfl Ar218.2.2 hin218 hat218 (g := (mkF m 41 #[.val (.ref o0), .val (.int (5 : Int32))] [(.int (5 : Int32)), (.ref o2)])) rfl rfl (hb hby dd_prog_49_method_9_code_41) _ ?_
    show Steps p.tables e below (T216.setTop (mkF m 42 #[.val (.ref o0), .val (.int (5 : Int32))] [(.ref o8)])) _
    refine XS.iconst X216.here hx rfl (hb hby dd_prog_49_method_9_code_42) ?_
    refine XS.aloadN X216.here hx rfl (hb hby dd_prog_49_method_9_code_43) rfl rfl ?_
    show Steps p.tables e below (T216.setTop (mkF m 44 #[.val (.ref o0), .val (.int (5 : Int32))] [(.ref o0), (.int (0 : Int32)), (.ref o8)])) _
    refine st220 _ ?_
    show Steps p.tables e below (T220.setTop (mkF m 47 #[.val (.ref o0), .val (.int (5 : Int32))] [(.ref o1), (.int (0 : Int32)), (.ref o8)])) _
    refine XS.aloadN X220.here hx rfl (hb hby dd_prog_49_method_9_code_47) rfl rfl ?_
    show Steps p.tables e below (T220.setTop (mkF m 48 #[.val (.ref o0), .val (.int (5 : Int32))] [(.ref o0), (.ref o1), (.int (0 : Int32)), (.ref o8)])) _
    refine st222 _ ?_
    show Steps p.tables e below (T222.setTop (mkF m 51 #[.val (.ref o0), .val (.int (5 : Int32))] [(.int (0 : Int32)), (.ref o1), (.int (0 : Int32)), (.ref o8)])) _
    refine XS.aloadN X222.here hx rfl (hb hby dd_prog_49_method_9_code_51) rfl rfl ?_
    show Steps p.tables e below (T222.setTop (mkF m 52 #[.val (.ref o0), .val (.int (5 : Int32))] [(.ref o0), (.int (0 : Int32)), (.ref o1), (.int (0 : Int32)), (.ref o8)])) _
    refine st224 _ ?_
    show Steps p.tables e below (T224.setTop (mkF m 55 #[.val (.ref o0), .val (.int (5 : Int32))] [(.ref o11), (.int (0 : Int32)), (.ref o1), (.int (0 : Int32)), (.ref o8)])) _
    refine XS.iloadN X224.here hx rfl (hb hby dd_prog_49_method_9_code_55) rfl ?_
    refine X224.iaload hx (j := (5 : Int32)) (v := (.int (0 : Int32))) (by (try rw [e224]); exact Ar225.1) (State.isArrayOf_alike hZ.alike Ar225.2.1) Ar225.2.2 hin225 hat225 (g := (mkF m 56 #[.val (.ref o0), .val (.int (5 : Int32))] [(.int (5 : Int32)), (.ref o11), (.int (0 : Int32)), (.ref o1), (.int (0 : Int32)), (.ref o8)])) rfl rfl (hb hby dd_prog_49_method_9_code_56) _ ?_
    show Steps p.tables e below (T224.setTop (mkF m 57 #[.val (.ref o0), .val (.int (5 : Int32))] [(.int (0 : Int32)), (.int (0 : Int32)), (.ref o1), (.int (0 : Int32)), (.ref o8)])) _
    refine st228 _ ?_
    show Steps p.tables e below (T228.setTop (mkF m 60 #[.val (.ref o0), .val (.int (5 : Int32))] [])) _
    refine XS.aloadN X228.here hx rfl (hb hby dd_prog_49_method_9_code_60) rfl rfl ?_
    refine XS.dup X228.here hx rfl (hb hby dd_prog_49_method_9_code_61) rfl rfl ?_
    show Steps p.tables e below (T228.setTop (mkF m 62 #[.val (.ref o0), .val (.int (5 : Int32))] [(.ref o0), (.ref o0)])) _
    refine st230 _ ?_
    show Steps p.tables e below (T230.setTop (mkF m 65 #[.val (.ref o0), .val (.int (5 : Int32))] [(.int (0 : Int32)), (.ref o0)])) _
    refine XS.aloadN X230.here hx rfl (hb hby dd_prog_49_method_9_code_65) rfl rfl ?_
    show Steps p.tables e below (T230.setTop (mkF m 66 #[.val (.ref o0), .val (.int (5 : Int32))] [(.ref o0), (.int (0 : Int32)), (.ref o0)])) _
    refine st232 _ ?_
    show Steps p.tables e below (T232.setTop (mkF m 69 #[.val (.ref o0), .val (.int (5 : Int32))] [(.ref o11), (.int (0 : Int32)), (.ref o0)])) _
    refine XS.iloadN X232.here hx rfl (hb hby dd_prog_49_method_9_code_69) rfl ?_
    refine X232.iaload hx (j := (5 : Int32)) (v := (.int (0 : Int32))) (by (try rw [e232]); exact Ar234.1) (State.isArrayOf_alike hZ.alike Ar234.2.1) Ar234.2.2 hin234 hat234 (g := (mkF m 70 #[.val (.ref o0), .val (.int (5 : Int32))] [(.int (5 : Int32)), (.ref o11), (.int (0 : Int32)), (.ref o0)])) rfl rfl (hb hby dd_prog_49_method_9_code_70) _ ?_
    refine XS.iadd X232.here hx rfl (hb hby dd_prog_49_method_9_code_71) rfl ?_
    show Steps p.tables e below (T232.setTop (mkF m 72 #[.val (.ref o0), .val (.int (5 : Int32))] [(.int (0 : Int32)), (.ref o0)])) _
    refine st236 _ ?_
    show Steps p.tables e below (T236.setTop (mkF m 75 #[.val (.ref o0), .val (.int (5 : Int32))] [])) _
    refine XS.aloadN X236.here hx rfl (hb hby dd_prog_49_method_9_code_75) rfl rfl ?_
    show Steps p.tables e below (T236.setTop (mkF m 76 #[.val (.ref o0), .val (.int (5 : Int32))] [(.ref o0)])) _
    refine st238 _ ?_
    show Steps p.tables e below (T238.setTop (mkF m 79 #[.val (.ref o0), .val (.int (5 : Int32))] [(.ref o2)])) _
    refine XS.iloadN X238.here hx rfl (hb hby dd_prog_49_method_9_code_79) rfl ?_
    refine XS.aloadN X238.here hx rfl (hb hby dd_prog_49_method_9_code_80) rfl rfl ?_
    show Steps p.tables e below (T238.setTop (mkF m 81 #[.val (.ref o0), .val (.int (5 : Int32))] [(.ref o0), (.int (5 : Int32)), (.ref o2)])) _
    refine st239 _ ?_
    show Steps p.tables e below (T239.setTop (mkF m 84 #[.val (.ref o0), .val (.int (5 : Int32))] [(.ref o2), (.int (5 : Int32)), (.ref o2)])) _
    refine XS.iloadN X239.here hx rfl (hb hby dd_prog_49_method_9_code_84) rfl ?_
    refine X239.aaload hx (j := (5 : Int32)) (v := (.ref o8)) (by (try rw [e239]); exact Ar241.1) (State.isArrayOf_alike hZ.alike Ar241.2.1) rfl Ar241.2.2 hin241 hat241 (g := (mkF m 85 #[.val (.ref o0), .val (.int (5 : Int32))] [(.int (5 : Int32)), (.ref o2), (.int (5 : Int32)), (.ref o2)])) rfl rfl (hb hby dd_prog_49_method_9_code_85) _ ?_
    refine XS.aloadN X239.here hx rfl (hb hby dd_prog_49_method_9_code_86) rfl rfl ?_
    show Steps p.tables e below (T239.setTop (mkF m 87 #[.val (.ref o0), .val (.int (5 : Int32))] [(.ref o0), (.ref o8), (.int (5 : Int32)), (.ref o2)])) _
    refine st243 _ ?_
    show Steps p.tables e below (T243.setTop (mkF m 90 #[.val (.ref o0), .val (.int (5 : Int32))] [(.ref o11), (.ref o8), (.int (5 : Int32)), (.ref o2)])) _
    refine XS.iloadN X243.here hx rfl (hb hby dd_prog_49_method_9_code_90) rfl ?_
    refine X243.iaload hx (j := (5 : Int32)) (v := (.int (0 : Int32))) (by (try rw [e243]); exact Ar245.1) (State.isArrayOf_alike hZ.alike Ar245.2.1) Ar245.2.2 hin245 hat245 (g := (mkF m 91 #[.val (.ref o0), .val (.int (5 : Int32))] [(.int (5 : Int32)), (.ref o11), (.ref o8), (.int (5 : Int32)), (.ref o2)])) rfl rfl (hb hby dd_prog_49_method_9_code_91) _ ?_
    show Steps p.tables e below (T243.setTop (mkF m 92 #[.val (.ref o0), .val (.int (5 : Int32))] [(.int (0 : Int32)), (.ref o8), (.int (5 : Int32)), (.ref o2)])) _
    refine st247 _ ?_
    show Steps p.tables e below (T247.setTop (mkF m 95 #[.val (.ref o0), .val (.int (5 : Int32))] [(.ref o8), (.int (5 : Int32)), (.ref o2)])) _
    refine st251 _ ?_
    show Steps p.tables e below (T251.setTop (mkF m 96 #[.val (.ref o0), .val (.int (5 : Int32))] [])) _
    refine XS.aloadN X251.here hx rfl (hb hby dd_prog_49_method_9_code_96) rfl rfl ?_
    show Steps p.tables e below (T251.setTop (mkF m 97 #[.val (.ref o0), .val (.int (5 : Int32))] [(.ref o0)])) _
    refine st253 _ ?_
    show Steps p.tables e below (T253.setTop (mkF m 100 #[.val (.ref o0), .val (.int (5 : Int32))] [(.ref o11)])) _
    refine XS.iloadN X253.here hx rfl (hb hby dd_prog_49_method_9_code_100) rfl ?_
    refine XS.iconst X253.here hx rfl (hb hby dd_prog_49_method_9_code_101) ?_
    show Steps p.tables e below (T253.setTop (mkF m 102 #[.val (.ref o0), .val (.int (5 : Int32))] [(.int (0 : Int32)), (.int (5 : Int32)), (.ref o11)])) _
    refine st256 _ ?_
    show Steps p.tables e below (T256.setTop (mkF m 103 #[.val (.ref o0), .val (.int (5 : Int32))] [])) _
    refine XS.iinc X256.here hx rfl (hb hby dd_prog_49_method_9_code_103) rfl (l' := #[.val (.ref o0), .val (.int (6 : Int32))]) rfl ?_
    refine XS.goto X256.here hx rfl (pc0 := 106) (pc' := 30) rfl (hb hby dd_prog_49_method_9_code_106) (by decide) (by decide) ?_
    show Steps p.tables e below (T256.setTop (mkF m 30 #[.val (.ref o0), .val (.int (6 : Int32))] [])) _
    refine XS.iloadN X256.here hx rfl (hb hby dd_prog_49_method_9_code_30) rfl ?_
    refine XS.bipush X256.here hx rfl (hb hby dd_prog_49_method_9_code_31) ?_
    refine XS.icmpNo X256.here hx rfl (hb hby dd_prog_49_method_9_code_33) rfl (tlt (by decide : (6 : Int32) < (8 : Int32))).2.1 ?_
    show Steps p.tables e below (T256.setTop (mkF m 36 #[.val (.ref o0), .val (.int (6 : Int32))] [])) _
    refine XS.aloadN X256.here hx rfl (hb hby dd_prog_49_method_9_code_36) rfl rfl ?_
    show Steps p.tables e below (T256.setTop (mkF m 37 #[.val (.ref o0), .val (.int (6 : Int32))] [(.ref o0)])) _
    refine st258 _ ?_
    show Steps p.tables e below (T258.setTop (mkF m 40 #[.val (.ref o0), .val (.int (6 : Int32))] [(.ref o2)])) _
    refine XS.iloadN X258.here hx rfl (hb hby dd_prog_49_method_9_code_40) rfl ?_
    show Steps p.tables e below (T258.setTop (mkF m 41 #[.val (.ref o0), .val (.int (6 : Int32))] [(.int (6 : Int32)), (.ref o2)])) _
    refine X258.aaload hx (j := (6 : Int32)) (v := (.ref o9)) (by (try rw [e258]); exact Ar260.1) (State.isArrayOf_alike hZ.alike Ar260.2.1) rfl Ar260.2.2 hin260 hat260 (g := (mkF m 41 #[.val (.ref o0), .val (.int (6 : Int32))] [(.int (6 : Int32)), (.ref o2)])) rfl rfl (hb hby dd_prog_49_method_9_code_41) _ ?_
    refine XS.iconst X258.here hx rfl (hb hby dd_prog_49_method_9_code_42) ?_
    refine XS.aloadN X258.here hx rfl (hb hby dd_prog_49_method_9_code_43) rfl rfl ?_
    show Steps p.tables e below (T258.setTop (mkF m 44 #[.val (.ref o0), .val (.int (6 : Int32))] [(.ref o0), (.int (0 : Int32)), (.ref o9)])) _
    refine st262 _ ?_
    show Steps p.tables e below (T262.setTop (mkF m 47 #[.val (.ref o0), .val (.int (6 : Int32))] [(.ref o1), (.int (0 : Int32)), (.ref o9)])) _
    refine XS.aloadN X262.here hx rfl (hb hby dd_prog_49_method_9_code_47) rfl rfl ?_
    show Steps p.tables e below (T262.setTop (mkF m 48 #[.val (.ref o0), .val (.int (6 : Int32))] [(.ref o0), (.ref o1), (.int (0 : Int32)), (.ref o9)])) _
    refine st264 _ ?_
    show Steps p.tables e below (T264.setTop (mkF m 51 #[.val (.ref o0), .val (.int (6 : Int32))] [(.int (0 : Int32)), (.ref o1), (.int (0 : Int32)), (.ref o9)])) _
    refine XS.aloadN X264.here hx rfl (hb hby dd_prog_49_method_9_code_51) rfl rfl ?_
    show Steps p.tables e below (T264.setTop (mkF m 52 #[.val (.ref o0), .val (.int (6 : Int32))] [(.ref o0), (.int (0 : Int32)), (.ref o1), (.int (0 : Int32)), (.ref o9)])) _
    refine st266 _ ?_
    show Steps p.tables e below (T266.setTop (mkF m 55 #[.val (.ref o0), .val (.int (6 : Int32))] [(.ref o11), (.int (0 : Int32)), (.ref o1), (.int (0 : Int32)), (.ref o9)])) _
    refine XS.iloadN X266.here hx rfl (hb hby dd_prog_49_method_9_code_55) rfl ?_
    show Steps p.tables e below (T266.setTop (mkF m 56 #[.val (.ref o0), .val (.int (6 : Int32))] [(.int (6 : Int32)), (.ref o11), (.int (0 : Int32)), (.ref o1), (.int (0 : Int32)), (.ref o9)])) _
    refine X266.iaload hx (j := (6 : Int32)) (v := (.int (0 : Int32))) (by (try rw [e266]); exact Ar267.1) (State.isArrayOf_alike hZ.alike Ar267.2.1) Ar267.2.2 hin267 hat267 (g := (mkF m 56 #[.val (.ref o0), .val (.int (6 : Int32))] [(.int (6 : Int32)), (.ref o11), (.int (0 : Int32)), (.ref o1), (.int (0 : Int32)), (.ref o9)])) rfl rfl (hb hby dd_prog_49_method_9_code_56) _ ?_
    show Steps p.tables e below (T266.setTop (mkF m 57 #[.val (.ref o0), .val (.int (6 : Int32))] [(.int (0 : Int32)), (.int (0 : Int32)), (.ref o1), (.int (0 : Int32)), (.ref o9)])) _
    refine st270 _ ?_
    show Steps p.tables e below (T270.setTop (mkF m 60 #[.val (.ref o0), .val (.int (6 : Int32))] [])) _
    refine XS.aloadN X270.here hx rfl (hb hby dd_prog_49_method_9_code_60) rfl rfl ?_
    show Steps p.tables e below (T270.setTop (mkF m 61 #[.val (.ref o0), .val (.int (6 : Int32))] [(.ref o0)])) _
    refine XS.dup X270.here hx rfl (hb hby dd_prog_49_method_9_code_61) rfl rfl ?_
    show Steps p.tables e below (T270.setTop (mkF m 62 #[.val (.ref o0), .val (.int (6 : Int32))] [(.ref o0), (.ref o0)])) _
    refine st272 _ ?_
    show Steps p.tables e below (T272.setTop (mkF m 65 #[.val (.ref o0), .val (.int (6 : Int32))] [(.int (0 : Int32)), (.ref o0)])) _
    refine XS.aloadN X272.here hx rfl (hb hby dd_prog_49_method_9_code_65) rfl rfl ?_
    show Steps p.tables e below (T272.setTop (mkF m 66 #[.val (.ref o0), .val (.int (6 : Int32))] [(.ref o0), (.int (0 : Int32)), (.ref o0)])) _
    refine st274 _ ?_
    show Steps p.tables e below (T274.setTop (mkF m 69 #[.val (.ref o0), .val (.int (6 : Int32))] [(.ref o11), (.int (0 : Int32)), (.ref o0)])) _
    refine XS.iloadN X274.here hx rfl (hb hby dd_prog_49_method_9_code_69) rfl ?_
    refine X274.iaload hx (j := (6 : Int32)) (v := (.int (0 : Int32))) (by (try rw [e274]); exact Ar276.1) (State.isArrayOf_alike hZ.alike Ar276.2.1) Ar276.2.2 hin276 hat276 (g := (mkF m 70 #[.val (.ref o0), .val (.int (6 : Int32))] [(.int (6 : Int32)), (.ref o11), (.int (0 : Int32)), (.ref o0)])) rfl rfl (hb hby dd_prog_49_method_9_code_70) _ ?_
    show Steps p.tables e below (T274.setTop (mkF m 71 #[.val (.ref o0), .val (.int (6 : Int32))] [(.int (0 : Int32)), (.int (0 : Int32)), (.ref o0)])) _
    refine XS.iadd X274.here hx rfl (hb hby dd_prog_49_method_9_code_71) rfl ?_
    show Steps p.tables e below (T274.setTop (mkF m 72 #[.val (.ref o0), .val (.int (6 : Int32))] [(.int (0 : Int32)), (.ref o0)])) _
    refine st278 _ ?_
    show Steps p.tables e below (T278.setTop (mkF m 75 #[.val (.ref o0), .val (.int (6 : Int32))] [])) _
    refine XS.aloadN X278.here hx rfl (hb hby dd_prog_49_method_9_code_75) rfl rfl ?_
    show Steps p.tables e below (T278.setTop (mkF m 76 #[.val (.ref o0), .val (.int (6 : Int32))] [(.ref o0)])) _
    refine st280 _ ?_
    show Steps p.tables e below (T280.setTop (mkF m 79 #[.val (.ref o0), .val (.int (6 : Int32))] [(.ref o2)])) _
    refine XS.iloadN X280.here hx rfl (hb hby dd_prog_49_method_9_code_79) rfl ?_
    refine XS.aloadN X280.here hx rfl (hb hby dd_prog_49_method_9_code_80) rfl rfl ?_
    show Steps p.tables e below (T280.setTop (mkF m 81 #[.val (.ref o0), .val (.int (6 : Int32))] [(.ref o0), (.int (6 : Int32)), (.ref o2)])) _
    refine st281 _ ?_
    show Steps p.tables e below (T281.setTop (mkF m 84 #[.val (.ref o0), .val (.int (6 : Int32))] [(.ref o2), (.int (6 : Int32)), (.ref o2)])) _
    refine XS.iloadN X281.here hx rfl (hb hby dd_prog_49_method_9_code_84) rfl ?_
    refine X281.aaload hx (j := (6 : Int32)) (v := (.ref o9)) (by (try rw [e281]); exact Ar283.1) (State.isArrayOf_alike hZ.alike Ar283.2.1) rfl Ar283.2.2 hin283 hat283 (g := (mkF m 85 #[.val (.ref o0), .val (.int (6 : Int32))] [(.int (6 : Int32)), (.ref o2), (.int (6 : Int32)), (.ref o2)])) rfl rfl (hb hby dd_prog_49_method_9_code_85) _ ?_
    show Steps p.tables e below (T281.setTop (mkF m 86 #[.val (.ref o0), .val (.int (6 : Int32))] [(.ref o9), (.int (6 : Int32)), (.ref o2)])) _
    refine XS.aloadN X281.here hx rfl (hb hby dd_prog_49_method_9_code_86) rfl rfl ?_
    show Steps p.tables e below (T281.setTop (mkF m 87 #[.val (.ref o0), .val (.int (6 : Int32))] [(.ref o0), (.ref o9), (.int (6 : Int32)), (.ref o2)])) _
    refine st285 _ ?_
    show Steps p.tables e below (T285.setTop (mkF m 90 #[.val (.ref o0), .val (.int (6 : Int32))] [(.ref o11), (.ref o9), (.int (6 : Int32)), (.ref o2)])) _
    refine XS.iloadN X285.here hx rfl (hb hby dd_prog_49_method_9_code_90) rfl ?_
    show Steps p.tables e below (T285.setTop (mkF m 91 #[.val (.ref o0), .val (.int (6 : Int32))] [(.int (6 : Int32)), (.ref o11), (.ref o9), (.int (6 : Int32)), (.ref o2)])) _
    refine X285.iaload hx (j := (6 : Int32)) (v := (.int (0 : Int32))) (by (try rw [e285]); exact Ar287.1) (State.isArrayOf_alike hZ.alike Ar287.2.1) Ar287.2.2 hin287 hat287 (g := (mkF m 91 #[.val (.ref o0), .val (.int (6 : Int32))] [(.int (6 : Int32)), (.ref o11), (.ref o9), (.int (6 : Int32)), (.ref o2)])) rfl rfl (hb hby dd_prog_49_method_9_code_91) _ ?_
    show Steps p.tables e below (T285.setTop (mkF m 92 #[.val (.ref o0), .val (.int (6 : Int32))] [(.int (0 : Int32)), (.ref o9), (.int (6 : Int32)), (.ref o2)])) _
    refine st289 _ ?_
    show Steps p.tables e below (T289.setTop (mkF m 95 #[.val (.ref o0), .val (.int (6 : Int32))] [(.ref o9), (.int (6 : Int32)), (.ref o2)])) _
    refine st293 _ ?_
    show Steps p.tables e below (T293.setTop (mkF m 96 #[.val (.ref o0), .val (.int (6 : Int32))] [])) _
    refine XS.aloadN X293.here hx rfl (hb hby dd_prog_49_method_9_code_96) rfl rfl ?_
    show Steps p.tables e below (T293.setTop (mkF m 97 #[.val (.ref o0), .val (.int (6 : Int32))] [(.ref o0)])) _
    refine st295 _ ?_
    show Steps p.tables e below (T295.setTop (mkF m 100 #[.val (.ref o0), .val (.int (6 : Int32))] [(.ref o11)])) _
    refine XS.iloadN X295.here hx rfl (hb hby dd_prog_49_method_9_code_100) rfl ?_
    show Steps p.tables e below (T295.setTop (mkF m 101 #[.val (.ref o0), .val (.int (6 : Int32))] [(.int (6 : Int32)), (.ref o11)])) _
    refine XS.iconst X295.here hx rfl (hb hby dd_prog_49_method_9_code_101) ?_
    show Steps p.tables e below (T295.setTop (mkF m 102 #[.val (.ref o0), .val (.int (6 : Int32))] [(.int (0 : Int32)), (.int (6 : Int32)), (.ref o11)])) _
    refine st298 _ ?_
    show Steps p.tables e below (T298.setTop (mkF m 103 #[.val (.ref o0), .val (.int (6 : Int32))] [])) _
    refine XS.iinc X298.here hx rfl (hb hby dd_prog_49_method_9_code_103) rfl (l' := #[.val (.ref o0), .val (.int (7 : Int32))]) rfl ?_
    show Steps p.tables e below (T298.setTop (mkF m 106 #[.val (.ref o0), .val (.int (7 : Int32))] [])) _
    refine XS.goto X298.here hx rfl (pc0 := 106) (pc' := 30) rfl (hb hby dd_prog_49_method_9_code_106) (by decide) (by decide) ?_
    refine XS.iloadN X298.here hx rfl (hb hby dd_prog_49_method_9_code_30) rfl ?_
    refine XS.bipush X298.here hx rfl (hb hby dd_prog_49_method_9_code_31) ?_
    show Steps p.tables e below (T298.setTop (mkF m 33 #[.val (.ref o0), .val (.int (7 : Int32))] [(.int (8 : Int32)), (.int (7 : Int32))])) _
    refine XS.icmpNo X298.here hx rfl (hb hby dd_prog_49_method_9_code_33) rfl (tlt (by decide : (7 : Int32) < (8 : Int32))).2.1 ?_
    refine XS.aloadN X298.here hx rfl (hb hby dd_prog_49_method_9_code_36) rfl rfl ?_
    show Steps p.tables e below (T298.setTop (mkF m 37 #[.val (.ref o0), .val (.int (7 : Int32))] [(.ref o0)])) _
    refine st300 _ ?_
    show Steps p.tables e below (T300.setTop (mkF m 40 #[.val (.ref o0), .val (.int (7 : Int32))] [(.ref o2)])) _
    refine XS.iloadN X300.here hx rfl (hb hby dd_prog_49_method_9_code_40) rfl ?_
    refine X300.aaload hx (j := (7 : Int32)) (v := (.ref o10)) (by (try rw [e300]); exact Ar302.1) (State.isArrayOf_alike hZ.alike Ar302.2.1) rfl Ar302.2.2 hin302 hat302 (g := (mkF m 41 #[.val (.ref o0), .val (.int (7 : Int32))] [(.int (7 : Int32)), (.ref o2)])) rfl rfl (hb hby dd_prog_49_method_9_code_41) _ ?_
    refine XS.iconst X300.here hx rfl (hb hby dd_prog_49_method_9_code_42) ?_
    show Steps p.tables e below (T300.setTop (mkF m 43 #[.val (.ref o0), .val (.int (7 : Int32))] [(.int (0 : Int32)), (.ref o10)])) _
    refine XS.aloadN X300.here hx rfl (hb hby dd_prog_49_method_9_code_43) rfl rfl ?_
    show Steps p.tables e below (T300.setTop (mkF m 44 #[.val (.ref o0), .val (.int (7 : Int32))] [(.ref o0), (.int (0 : Int32)), (.ref o10)])) _
    refine st304 _ ?_
    show Steps p.tables e below (T304.setTop (mkF m 47 #[.val (.ref o0), .val (.int (7 : Int32))] [(.ref o1), (.int (0 : Int32)), (.ref o10)])) _
    refine XS.aloadN X304.here hx rfl (hb hby dd_prog_49_method_9_code_47) rfl rfl ?_
    show Steps p.tables e below (T304.setTop (mkF m 48 #[.val (.ref o0), .val (.int (7 : Int32))] [(.ref o0), (.ref o1), (.int (0 : Int32)), (.ref o10)])) _
    refine st306 _ ?_
    show Steps p.tables e below (T306.setTop (mkF m 51 #[.val (.ref o0), .val (.int (7 : Int32))] [(.int (0 : Int32)), (.ref o1), (.int (0 : Int32)), (.ref o10)])) _
    refine XS.aloadN X306.here hx rfl (hb hby dd_prog_49_method_9_code_51) rfl rfl ?_
    show Steps p.tables e below (T306.setTop (mkF m 52 #[.val (.ref o0), .val (.int (7 : Int32))] [(.ref o0), (.int (0 : Int32)), (.ref o1), (.int (0 : Int32)), (.ref o10)])) _
    refine st308 _ ?_
    show Steps p.tables e below (T308.setTop (mkF m 55 #[.val (.ref o0), .val (.int (7 : Int32))] [(.ref o11), (.int (0 : Int32)), (.ref o1), (.int (0 : Int32)), (.ref o10)])) _
    refine XS.iloadN X308.here hx rfl (hb hby dd_prog_49_method_9_code_55) rfl ?_
    refine X308.iaload hx (j := (7 : Int32)) (v := (.int (0 : Int32))) (by (try rw [e308]); exact Ar309.1) (State.isArrayOf_alike hZ.alike Ar309.2.1) Ar309.2.2 hin309 hat309 (g := (mkF m 56 #[.val (.ref o0), .val (.int (7 : Int32))] [(.int (7 : Int32)), (.ref o11), (.int (0 : Int32)), (.ref o1), (.int (0 : Int32)), (.ref o10)])) rfl rfl (hb hby dd_prog_49_method_9_code_56) _ ?_
    show Steps p.tables e below (T308.setTop (mkF m 57 #[.val (.ref o0), .val (.int (7 : Int32))] [(.int (0 : Int32)), (.int (0 : Int32)), (.ref o1), (.int (0 : Int32)), (.ref o10)])) _
    refine st312 _ ?_
    show Steps p.tables e below (T312.setTop (mkF m 60 #[.val (.ref o0), .val (.int (7 : Int32))] [])) _
    refine XS.aloadN X312.here hx rfl (hb hby dd_prog_49_method_9_code_60) rfl rfl ?_
    refine XS.dup X312.here hx rfl (hb hby dd_prog_49_method_9_code_61) rfl rfl ?_
    show Steps p.tables e below (T312.setTop (mkF m 62 #[.val (.ref o0), .val (.int (7 : Int32))] [(.ref o0), (.ref o0)])) _
    refine st314 _ ?_
    show Steps p.tables e below (T314.setTop (mkF m 65 #[.val (.ref o0), .val (.int (7 : Int32))] [(.int (0 : Int32)), (.ref o0)])) _
    refine XS.aloadN X314.here hx rfl (hb hby dd_prog_49_method_9_code_65) rfl rfl ?_
    show Steps p.tables e below (T314.setTop (mkF m 66 #[.val (.ref o0), .val (.int (7 : Int32))] [(.ref o0), (.int (0 : Int32)), (.ref o0)])) _
    refine st316 _ ?_
    show Steps p.tables e below (T316.setTop (mkF m 69 #[.val (.ref o0), .val (.int (7 : Int32))] [(.ref o11), (.int (0 : Int32)), (.ref o0)])) _
    refine XS.iloadN X316.here hx rfl (hb hby dd_prog_49_method_9_code_69) rfl ?_
    show Steps p.tables e below (T316.setTop (mkF m 70 #[.val (.ref o0), .val (.int (7 : Int32))] [(.int (7 : Int32)), (.ref o11), (.int (0 : Int32)), (.ref o0)])) _
    refine X316.iaload hx (j := (7 : Int32)) (v := (.int (0 : Int32))) (by (try rw [e316]); exact Ar318.1) (State.isArrayOf_alike hZ.alike Ar318.2.1) Ar318.2.2 hin318 hat318 (g := (mkF m 70 #[.val (.ref o0), .val (.int (7 : Int32))] [(.int (7 : Int32)), (.ref o11), (.int (0 : Int32)), (.ref o0)])) rfl rfl (hb hby dd_prog_49_method_9_code_70) _ ?_
    refine XS.iadd X316.here hx rfl (hb hby dd_prog_49_method_9_code_71) rfl ?_
    show Steps p.tables e below (T316.setTop (mkF m 72 #[.val (.ref o0), .val (.int (7 : Int32))] [(.int (0 : Int32)), (.ref o0)])) _
    refine st320 _ ?_
    show Steps p.tables e below (T320.setTop (mkF m 75 #[.val (.ref o0), .val (.int (7 : Int32))] [])) _
    refine XS.aloadN X320.here hx rfl (hb hby dd_prog_49_method_9_code_75) rfl rfl ?_
    show Steps p.tables e below (T320.setTop (mkF m 76 #[.val (.ref o0), .val (.int (7 : Int32))] [(.ref o0)])) _
    refine st322 _ ?_
    show Steps p.tables e below (T322.setTop (mkF m 79 #[.val (.ref o0), .val (.int (7 : Int32))] [(.ref o2)])) _
    refine XS.iloadN X322.here hx rfl (hb hby dd_prog_49_method_9_code_79) rfl ?_
    show Steps p.tables e below (T322.setTop (mkF m 80 #[.val (.ref o0), .val (.int (7 : Int32))] [(.int (7 : Int32)), (.ref o2)])) _
    refine XS.aloadN X322.here hx rfl (hb hby dd_prog_49_method_9_code_80) rfl rfl ?_
    show Steps p.tables e below (T322.setTop (mkF m 81 #[.val (.ref o0), .val (.int (7 : Int32))] [(.ref o0), (.int (7 : Int32)), (.ref o2)])) _
    refine st323 _ ?_
    show Steps p.tables e below (T323.setTop (mkF m 84 #[.val (.ref o0), .val (.int (7 : Int32))] [(.ref o2), (.int (7 : Int32)), (.ref o2)])) _
    refine XS.iloadN X323.here hx rfl (hb hby dd_prog_49_method_9_code_84) rfl ?_
    show Steps p.tables e below (T323.setTop (mkF m 85 #[.val (.ref o0), .val (.int (7 : Int32))] [(.int (7 : Int32)), (.ref o2), (.int (7 : Int32)), (.ref o2)])) _
    refine X323.aaload hx (j := (7 : Int32)) (v := (.ref o10)) (by (try rw [e323]); exact Ar325.1) (State.isArrayOf_alike hZ.alike Ar325.2.1) rfl Ar325.2.2 hin325 hat325 (g := (mkF m 85 #[.val (.ref o0), .val (.int (7 : Int32))] [(.int (7 : Int32)), (.ref o2), (.int (7 : Int32)), (.ref o2)])) rfl rfl (hb hby dd_prog_49_method_9_code_85) _ ?_
    refine XS.aloadN X323.here hx rfl (hb hby dd_prog_49_method_9_code_86) rfl rfl ?_
    show Steps p.tables e below (T323.setTop (mkF m 87 #[.val (.ref o0), .val (.int (7 : Int32))] [(.ref o0), (.ref o10), (.int (7 : Int32)), (.ref o2)])) _
    refine st327 _ ?_
    show Steps p.tables e below (T327.setTop (mkF m 90 #[.val (.ref o0), .val (.int (7 : Int32))] [(.ref o11), (.ref o10), (.int (7 : Int32)), (.ref o2)])) _
    refine XS.iloadN X327.here hx rfl (hb hby dd_prog_49_method_9_code_90) rfl ?_
    refine X327.iaload hx (j := (7 : Int32)) (v := (.int (0 : Int32))) (by (try rw [e327]); exact Ar329.1) (State.isArrayOf_alike hZ.alike Ar329.2.1) Ar329.2.2 hin329 hat329 (g := (mkF m 91 #[.val (.ref o0), .val (.int (7 : Int32))] [(.int (7 : Int32)), (.ref o11), (.ref o10), (.int (7 : Int32)), (.ref o2)])) rfl rfl (hb hby dd_prog_49_method_9_code_91) _ ?_
    show Steps p.tables e below (T327.setTop (mkF m 92 #[.val (.ref o0), .val (.int (7 : Int32))] [(.int (0 : Int32)), (.ref o10), (.int (7 : Int32)), (.ref o2)])) _
    refine st331 _ ?_
    show Steps p.tables e below (T331.setTop (mkF m 95 #[.val (.ref o0), .val (.int (7 : Int32))] [(.ref o10), (.int (7 : Int32)), (.ref o2)])) _
    refine st335 _ ?_
    show Steps p.tables e below (T335.setTop (mkF m 96 #[.val (.ref o0), .val (.int (7 : Int32))] [])) _
    refine XS.aloadN X335.here hx rfl (hb hby dd_prog_49_method_9_code_96) rfl rfl ?_
    show Steps p.tables e below (T335.setTop (mkF m 97 #[.val (.ref o0), .val (.int (7 : Int32))] [(.ref o0)])) _
    refine st337 _ ?_
    show Steps p.tables e below (T337.setTop (mkF m 100 #[.val (.ref o0), .val (.int (7 : Int32))] [(.ref o11)])) _
    refine XS.iloadN X337.here hx rfl (hb hby dd_prog_49_method_9_code_100) rfl ?_
    refine XS.iconst X337.here hx rfl (hb hby dd_prog_49_method_9_code_101) ?_
    show Steps p.tables e below (T337.setTop (mkF m 102 #[.val (.ref o0), .val (.int (7 : Int32))] [(.int (0 : Int32)), (.int (7 : Int32)), (.ref o11)])) _
    refine st340 _ ?_
    show Steps p.tables e below (T340.setTop (mkF m 103 #[.val (.ref o0), .val (.int (7 : Int32))] [])) _
    refine XS.iinc X340.here hx rfl (hb hby dd_prog_49_method_9_code_103) rfl (l' := #[.val (.ref o0), .val (.int (8 : Int32))]) rfl ?_
    refine XS.goto X340.here hx rfl (pc0 := 106) (pc' := 30) rfl (hb hby dd_prog_49_method_9_code_106) (by decide) (by decide) ?_
    refine XS.iloadN X340.here hx rfl (hb hby dd_prog_49_method_9_code_30) rfl ?_
    show Steps p.tables e below (T340.setTop (mkF m 31 #[.val (.ref o0), .val (.int (8 : Int32))] [(.int (8 : Int32))])) _
    refine XS.bipush X340.here hx rfl (hb hby dd_prog_49_method_9_code_31) ?_
    refine XS.icmpYes X340.here hx rfl (pc0 := 33) (pc' := 109) rfl (hb hby dd_prog_49_method_9_code_33) rfl (flt (by decide : ¬ ((8 : Int32) < (8 : Int32)))).2.1 (by decide) (by decide) ?_
    refine XS.aloadN X340.here hx rfl (hb hby dd_prog_49_method_9_code_109) rfl rfl ?_
    show Steps p.tables e below (T340.setTop (mkF m 110 #[.val (.ref o0), .val (.int (8 : Int32))] [(.ref o0)])) _
    refine XS.iconst X340.here hx rfl (hb hby dd_prog_49_method_9_code_110) ?_
    show Steps p.tables e below (T340.setTop (mkF m 111 #[.val (.ref o0), .val (.int (8 : Int32))] [(.int (0 : Int32)), (.ref o0)])) _
    refine st343 _ ?_
    show Steps p.tables e below (T343.setTop (mkF m 114 #[.val (.ref o0), .val (.int (8 : Int32))] [])) _
    refine XS.aloadN X343.here hx rfl (hb hby dd_prog_49_method_9_code_114) rfl rfl ?_
    show Steps p.tables e below (T343.setTop (mkF m 115 #[.val (.ref o0), .val (.int (8 : Int32))] [(.ref o0)])) _
    refine XS.iconst X343.here hx rfl (hb hby dd_prog_49_method_9_code_115) ?_
    show Steps p.tables e below (T343.setTop (mkF m 116 #[.val (.ref o0), .val (.int (8 : Int32))] [(.int (0 : Int32)), (.ref o0)])) _
    refine st346 _ ?_
    show Steps p.tables e below (T346.setTop (mkF m 119 #[.val (.ref o0), .val (.int (8 : Int32))] [])) _
    exact X346.returnOut hx Bd.returns (hb hby dd_prog_49_method_9_code_119) lhr
  · skip
    show QA5 Z o0 o1 kk_o1 o2 o3 o4 o5 o6 o7 o8 o9 o10 kk_o2 o11 kk_o11 kk_o3 kk_o4 kk_o5 kk_o6 kk_o7 kk_o8 kk_o9 kk_o10 u100 u101 u102 h0 n0 _ T346.heap _
    rw [e346]
    exact ⟨rfl, N346, K346, f347, f348, f349, f350, f351, f352, f353, f354, f355, Fw346, f356, f357, f358, f359, f360⟩
theorem dd_prog_49_method_8_code_24 : decode prog_49_method_8_code 24 = .ok (.aload_n 0, 1) := by decide +kernel
theorem dd_prog_49_method_8_code_25 : decode prog_49_method_8_code 25 = .ok (.aload_n 0, 1) := by decide +kernel
theorem dd_prog_49_method_8_code_26 : decode prog_49_method_8_code 26 = .ok (.getfield 62, 3) := by decide +kernel
theorem dd_prog_49_method_8_code_29 : decode prog_49_method_8_code 29 = .ok (.lload_n 1, 1) := by decide +kernel
theorem dd_prog_49_method_8_code_30 : decode prog_49_method_8_code 30 = .ok (.invokestatic 64, 3) := by decide +kernel
theorem dd_prog_49_method_8_code_33 : decode prog_49_method_8_code 33 = .ok (.putfield 62, 3) := by decide +kernel
theorem dd_prog_49_method_8_code_36 : decode prog_49_method_8_code 36 = .ok (.aload_n 0, 1) := by decide +kernel
theorem dd_prog_49_method_8_code_37 : decode prog_49_method_8_code 37 = .ok (.getfield 85, 3) := by decide +kernel
theorem dd_prog_49_method_8_code_40 : decode prog_49_method_8_code 40 = .ok (.aload_n 0, 1) := by decide +kernel
theorem dd_prog_49_method_8_code_41 : decode prog_49_method_8_code 41 = .ok (.getfield 88, 3) := by decide +kernel
theorem dd_prog_49_method_8_code_44 : decode prog_49_method_8_code 44 = .ok (.if_icmp .ne 101, 3) := by decide +kernel
theorem dd_prog_49_method_8_code_47 : decode prog_49_method_8_code 47 = .ok (.aload_n 0, 1) := by decide +kernel
theorem dd_prog_49_method_8_code_48 : decode prog_49_method_8_code 48 = .ok (.getfield 62, 3) := by decide +kernel
theorem dd_prog_49_method_8_code_51 : decode prog_49_method_8_code 51 = .ok (.lload_n 1, 1) := by decide +kernel
theorem dd_prog_49_method_8_code_52 : decode prog_49_method_8_code 52 = .ok (.lcmp, 1) := by decide +kernel
theorem dd_prog_49_method_8_code_53 : decode prog_49_method_8_code 53 = .ok (.ifCond .ge 92, 3) := by decide +kernel
theorem dd_prog_49_method_8_code_145 : decode prog_49_method_8_code 145 = .ok (.return_, 1) := by decide +kernel
def QA4 (Z : State) (o0 : Addr) (y1 : Int64) (o2 : Addr) (kk_o2 : ClassId) (o3 : Addr) (o4 : Addr) (o5 : Addr) (o6 : Addr) (o7 : Addr) (o8 : Addr) (o9 : Addr) (o10 : Addr) (o11 : Addr) (kk_o3 : ClassId) (o12 : Addr) (kk_o12 : ClassId) (kk_o4 : ClassId) (kk_o5 : ClassId) (kk_o6 : ClassId) (kk_o7 : ClassId) (kk_o8 : ClassId) (kk_o9 : ClassId) (kk_o10 : ClassId) (kk_o11 : ClassId) (y13 : Int64) (o14 : Addr) (h0 : Heap) (n0 : Nat) (v : Option Value) (h : Heap) (L : List Loc) : Prop := v = none ∧ Fr n0 L ∧ Keep h0 h [o12, o3, o2, o0] ∧ Fld Z h o0 cn2 "total" "I" (.int (0 : Int32)) ∧ Fld Z h o0 cn2 "taken" cn5 (.ref o2) ∧ Arv Z h o2 kk_o2 (.object cn6) (16 : Int32) [] .null ∧ Fld Z h o0 cn2 "takenSize" "I" (.int (0 : Int32)) ∧ Fld Z h o0 cn2 "kept" cn4 (.ref o3) ∧ Arv Z h o3 kk_o3 (.array (.object cn6)) (8 : Int32) [(.ref o4), (.ref o5), (.ref o6), (.ref o7), (.ref o8), (.ref o9), (.ref o10), (.ref o11)] .null ∧ Fld Z h o0 cn2 "sizes" "[I" (.ref o12) ∧ Arv Z h o12 kk_o12 .int (8 : Int32) [(.int (0 : Int32)), (.int (0 : Int32)), (.int (0 : Int32)), (.int (0 : Int32)), (.int (0 : Int32)), (.int (0 : Int32)), (.int (0 : Int32)), (.int (0 : Int32))] (.int (0 : Int32)) ∧ Fld Z h o0 cn2 "handed" "I" (.int (0 : Int32)) ∧ Fld Z h o0 cn2 "width" "J" (.long y13) ∧ Fld Z h o0 cn2 "handedIn" cn7 (.ref o14) ∧ Fld Z h o0 cn2 "next" "J" (.long (own_maxL (0 : Int64) y1)) ∧ Exa Z h o0 cn2 ∧ Exa Z h o2 cn5 ∧ Exa Z h o3 cn4
set_option maxRecDepth 65536 in
set_option maxHeartbeats 40000000 in
theorem rmA4 (l : Launch) (Z : State) (a0 : Array Value) (hw : ∀ d ∈ tables_1, d.before a0 Z = true) (ws : List Jvm.Cond) (o0 : Addr) (y1 : Int64) (o2 : Addr) (kk_o2 : ClassId) (o3 : Addr) (o4 : Addr) (o5 : Addr) (o6 : Addr) (o7 : Addr) (o8 : Addr) (o9 : Addr) (o10 : Addr) (o11 : Addr) (kk_o3 : ClassId) (o12 : Addr) (kk_o12 : ClassId) (kk_o4 : ClassId) (kk_o5 : ClassId) (kk_o6 : ClassId) (kk_o7 : ClassId) (kk_o8 : ClassId) (kk_o9 : ClassId) (kk_o10 : ClassId) (kk_o11 : ClassId) (y13 : Int64) (o14 : Addr) (h0 : Heap) (n0 : Nat) (Z0 : n0 ≤ h0.size) (F_o0_total : Fld Z h0 o0 cn2 "total" "I" (.int (0 : Int32))) (F_o0_taken : Fld Z h0 o0 cn2 "taken" cn5 (.ref o2)) (V_o2 : Arv Z h0 o2 kk_o2 (.object cn6) (16 : Int32) [] .null) (F_o0_takenSize : Fld Z h0 o0 cn2 "takenSize" "I" (.int (0 : Int32))) (F_o0_kept : Fld Z h0 o0 cn2 "kept" cn4 (.ref o3)) (V_o3 : Arv Z h0 o3 kk_o3 (.array (.object cn6)) (8 : Int32) [(.ref o4), (.ref o5), (.ref o6), (.ref o7), (.ref o8), (.ref o9), (.ref o10), (.ref o11)] .null) (F_o0_sizes : Fld Z h0 o0 cn2 "sizes" "[I" (.ref o12)) (V_o12 : Arv Z h0 o12 kk_o12 .int (8 : Int32) [(.int (0 : Int32)), (.int (0 : Int32)), (.int (0 : Int32)), (.int (0 : Int32)), (.int (0 : Int32)), (.int (0 : Int32)), (.int (0 : Int32)), (.int (0 : Int32))] (.int (0 : Int32))) (V_o4 : Arv Z h0 o4 kk_o4 (.object cn6) (16 : Int32) [] .null) (OV_o3 : OvrA Z kk_o3 (.object cn6) cn5) (V_o5 : Arv Z h0 o5 kk_o5 (.object cn6) (16 : Int32) [] .null) (V_o6 : Arv Z h0 o6 kk_o6 (.object cn6) (16 : Int32) [] .null) (V_o7 : Arv Z h0 o7 kk_o7 (.object cn6) (16 : Int32) [] .null) (V_o8 : Arv Z h0 o8 kk_o8 (.object cn6) (16 : Int32) [] .null) (V_o9 : Arv Z h0 o9 kk_o9 (.object cn6) (16 : Int32) [] .null) (V_o10 : Arv Z h0 o10 kk_o10 (.object cn6) (16 : Int32) [] .null) (V_o11 : Arv Z h0 o11 kk_o11 (.object cn6) (16 : Int32) [] .null) (F_o0_handed : Fld Z h0 o0 cn2 "handed" "I" (.int (0 : Int32))) (F_o0_width : Fld Z h0 o0 cn2 "width" "J" (.long y13)) (F_o0_handedIn : Fld Z h0 o0 cn2 "handedIn" cn7 (.ref o14)) (F_o0_next : Fld Z h0 o0 cn2 "next" "J" (.long (0 : Int64))) (E_o0 : Exa Z h0 o0 cn2) (g_o0 : n0 ≤ o0) (ne_o3_o0 : o3 ≠ o0) (ne_o12_o0 : o12 ≠ o0) (ne_o4_o0 : o4 ≠ o0) (ne_o2_o0 : o2 ≠ o0) (g_o2 : n0 ≤ o2) (ne_o12_o2 : o12 ≠ o2) (ne_o3_o2 : o3 ≠ o2) (ne_o4_o2 : o4 ≠ o2) (E_o4 : Exa Z h0 o4 cn5) (g_o3 : n0 ≤ o3) (ne_o12_o3 : o12 ≠ o3) (g_o12 : n0 ≤ o12) (ne_o5_o0 : o5 ≠ o0) (ne_o5_o2 : o5 ≠ o2) (ne_o5_o3 : o5 ≠ o3) (ne_o5_o12 : o5 ≠ o12) (E_o5 : Exa Z h0 o5 cn5) (ne_o6_o0 : o6 ≠ o0) (ne_o6_o2 : o6 ≠ o2) (ne_o6_o3 : o6 ≠ o3) (ne_o6_o12 : o6 ≠ o12) (E_o6 : Exa Z h0 o6 cn5) (ne_o7_o0 : o7 ≠ o0) (ne_o7_o2 : o7 ≠ o2) (ne_o7_o3 : o7 ≠ o3) (ne_o7_o12 : o7 ≠ o12) (E_o7 : Exa Z h0 o7 cn5) (ne_o8_o0 : o8 ≠ o0) (ne_o8_o2 : o8 ≠ o2) (ne_o8_o3 : o8 ≠ o3) (ne_o8_o12 : o8 ≠ o12) (E_o8 : Exa Z h0 o8 cn5) (ne_o9_o0 : o9 ≠ o0) (ne_o9_o2 : o9 ≠ o2) (ne_o9_o3 : o9 ≠ o3) (ne_o9_o12 : o9 ≠ o12) (E_o9 : Exa Z h0 o9 cn5) (ne_o10_o0 : o10 ≠ o0) (ne_o10_o2 : o10 ≠ o2) (ne_o10_o3 : o10 ≠ o3) (ne_o10_o12 : o10 ≠ o12) (E_o10 : Exa Z h0 o10 cn5) (ne_o11_o0 : o11 ≠ o0) (ne_o11_o2 : o11 ≠ o2) (ne_o11_o3 : o11 ≠ o3) (ne_o11_o12 : o11 ≠ o12) (E_o11 : Exa Z h0 o11 cn5) (E_o2 : Exa Z h0 o2 cn5) (E_o3 : Exa Z h0 o3 cn4) (hq72 : ¬ ((own_maxL (0 : Int64) y1) < y1)) :
    MetFree l mn4 (head1 (Jvm.Cond.code mn4 prog_49_method_8_code 5 none :: ws) ({ frames := 4, cells := 0, slots := 0, locals := 59 } : Room)) (fun a U => a = #[(.ref o0), (.long y1)] ∧ Z.Warmed39 U.vm ∧ U.heap = h0) (fun _ _ _ _ _ => True) (fun _ U oc_ U' => ∃ v L, oc_ = .returned v ∧ QA4 Z o0 y1 o2 kk_o2 o3 o4 o5 o6 o7 o8 o9 o10 o11 kk_o3 o12 kk_o12 kk_o4 kk_o5 kk_o6 kk_o7 kk_o8 kk_o9 kk_o10 kk_o11 y13 o14 h0 n0 v U'.heap L ∧ FrameEnd U oc_ U' L ({ frames := 4, cells := 0, slots := 0, locals := 59 } : Room).cells ({ frames := 4, cells := 0, slots := 0, locals := 59 } : Room).slots) := by
  refine MetFree.of_bodySF (plainFor_of_name pn_com_example_strict_limiter_strictlimiter_SweepSchedule) hisR ?_
  intro p e s m args below meth c s₁ Bd hml0 hP hK
  obtain ⟨rfl, hZ, hh⟩ := hP
  have hx := Bd.exec
  have hby := Bd.bytes
  have hml : c.maxLocals = 5 := hml0
  have hown : s.vm.findClass cn2 = some m.cls := findClass_of_methodNamed Bd.named
  have hnm := (name_of_methodNamed Bd.named Bd.method).1
  have X0 : Stand p l e ({ frames := 4, cells := 0, slots := 0, locals := 59 } : Room) s m #[(.ref o0), (.long y1)] below meth c s₁ [] 0 0 := Stand.of_body Bd
  have e0 : s₁.heap = h0 := by rw [← hh, Bd.state]; rfl
  have N0 := Fr.nil n0
  have pre0 : ∀ t, Steps p.tables e below (s₁.setTop (mkF m 0 #[.val (.ref o0), .val (.long y1), .second, .unset, .unset] [])) t → Steps p.tables e below (s₁.setTop (entryFrame m #[(.ref o0), (.long y1)] 5)) t := fun t k => castTop (efa_prog_49_method_8_code_vv m o0 y1) k
  obtain ⟨T1, X1, e1, st1⟩ := getF X0 hx hZ hown (host := "") (Or.inl (wd54 hw)) Via.refl e0 F_o0_total (g := (mkF m 1 #[.val (.ref o0), .val (.long y1), .second, .unset, .unset] [(.ref o0)])) rfl rfl (hb hby dd_prog_49_method_8_code_1)
  obtain ⟨cq2, q2, q2'⟩ := E_o0.cell
  obtain ⟨_, _, ⟨T2, L2, kc2, ks2⟩, -, X2, ⟨Lc2, hQ2, l2, y2, z2⟩, st2⟩ := X1.privateBack hx (y := mn5) hown (mvT hZ (wd56 hw)) (mvT hZ (wd57 hw)) (own_selPriv (mvT hZ (wd10 hw)) (Cond.privateMethod_at (mvP hZ (wd58 hw) (args := #[]))) (mvT hZ (wd57 hw)) (by decide)) (Cond.privateMethod_at (mvP hZ (wd58 hw) (args := #[]))) (mvT hZ (wd59 hw)) (by decide) (backOf (W := 0) (rmA5 l Z a0 hw [] o0 o2 _ o3 o4 o5 o6 o7 o8 o9 o10 o11 _ o12 _ _ _ _ _ _ _ _ _ ((.long y13)) ((.ref o14)) ((.long (0 : Int64))) h0 n0 Z0 F_o0_taken V_o2 F_o0_total E_o0 F_o0_takenSize g_o0 F_o0_kept V_o3 ne_o3_o0 F_o0_sizes V_o12 ne_o12_o0 V_o4 ne_o4_o0 ne_o2_o0 g_o2 ne_o12_o2 ne_o3_o2 ne_o4_o2 E_o4 OV_o3 g_o3 ne_o12_o3 g_o12 V_o5 ne_o5_o0 ne_o5_o2 ne_o5_o3 ne_o5_o12 E_o5 V_o6 ne_o6_o0 ne_o6_o2 ne_o6_o3 ne_o6_o12 E_o6 V_o7 ne_o7_o0 ne_o7_o2 ne_o7_o3 ne_o7_o12 E_o7 V_o8 ne_o8_o0 ne_o8_o2 ne_o8_o3 ne_o8_o12 E_o8 V_o9 ne_o9_o0 ne_o9_o2 ne_o9_o3 ne_o9_o12 E_o9 V_o10 ne_o10_o0 ne_o10_o2 ne_o10_o3 ne_o10_o12 E_o10 V_o11 ne_o11_o0 ne_o11_o2 ne_o11_o3 ne_o11_o12 E_o11 F_o0_handed F_o0_width F_o0_handedIn F_o0_next E_o2 E_o3) hZ (wd59 hw) (wd11 hw) (by decide) (by decide)) (g := (mkF m 21 #[.val (.ref o0), .val (.long y1), .second, .unset, .unset] [(.ref o0)])) rfl (by rw [hml]; rfl) (Steps.refl _) (a := o0) (by rw [e1]; exact q2) q2' (argsL := []) (rest := []) (lenOf pd___V rfl) rfl (by show 2 * 0 + _ ≤ _; exact Nat.le_of_eq rfl) (hb hby dd_prog_49_method_8_code_21) (fun _ _ => ⟨rfl, e1, (by decide : 0 + 0 ≤ _), (by decide : 0 + 0 ≤ _)⟩)
  dsimp only [Pt.U, Pt.locs, Pt.cells, Pt.slots] at X2 l2 y2 z2 st2 hQ2
  subst l2 y2 z2
  obtain ⟨rfl, Nq2, Kq2, g2_0, g2_1, g2_2, g2_3, g2_4, g2_5, g2_6, g2_7, g2_8, g2_9, g2_10, g2_11, g2_12, g2_13, g2_14⟩ := hQ2
  have N2 := Fr.app N0 Nq2
  have Z2 : n0 ≤ T2.heap.size := Nat.le_trans Z0 Kq2.1
  have K2 : Keep h0 T2.heap [o12, o3, o2, o0] := Keep.trans (Keep.refl h0 [o12, o3, o2, o0]) Kq2 (allS (Or.inl (List.mem_of_getElem? (i := 3) rfl)) (allS (Or.inl (List.mem_of_getElem? (i := 2) rfl)) (allS (Or.inl (List.mem_of_getElem? (i := 1) rfl)) (allS (Or.inl (List.mem_of_getElem? (i := 0) rfl)) all0))))
  obtain ⟨T3, X3, e3, st3⟩ := getF X2 hx hZ hown (host := "") (Or.inl (wd74 hw)) Via.refl rfl g2_12 (g := (mkF m 26 #[.val (.ref o0), .val (.long y1), .second, .unset, .unset] [(.ref o0), (.ref o0)])) rfl rfl (hb hby dd_prog_49_method_8_code_26)
  obtain ⟨_, _, ⟨T4, L4, kc4, ks4⟩, -, X4, ⟨Lc4, hQ4, l4, y4, z4⟩, st4⟩ := Jvm.LawKit.callS X3 hx (y := mn6) hown (mvT hZ (wd76 hw)) (mvT hZ (wd2 hw)) (mvT hZ (wd3 hw)) (mvT hZ (wd4 hw)) (by decide) (backOf (W := 1) (rmMaxJ l Z a0 hw [] (0 : Int64) y1 T2.heap n0 Z2) hZ (wd4 hw) (wd3 hw) (by decide) (by decide)) (g := (mkF m 30 #[.val (.ref o0), .val (.long y1), .second, .unset, .unset] [(.long y1), (.long (0 : Int64)), (.ref o0)])) rfl (by rw [hml]; rfl) (argsL := [(.long (0 : Int64)), (.long y1)]) (rest := [(.ref o0)]) (lenOf pd__JJ_J rfl) rfl (by show 2 * 0 + _ ≤ _; exact Nat.le_of_eq rfl) (hb hby dd_prog_49_method_8_code_30) (fun _ _ => ⟨rfl, e3, (by decide : 0 + 0 ≤ _), (by decide : 0 + 0 ≤ _)⟩)
  dsimp only [Pt.U, Pt.locs, Pt.cells, Pt.slots] at X4 l4 y4 z4 st4 hQ4
  subst l4 y4 z4
  obtain ⟨rfl, Nq4, eq4⟩ := hQ4
  have N4 := Fr.app N2 Nq4
  obtain ⟨T5, h5, X5, e5, W5, st5⟩ := putF X4 hx hZ hown (host := "") (Or.inl (wd74 hw)) Via.refl eq4 g2_12 g2_3 (Or.inl (wd75 hw)) (wd10 hw) (ty := .long) (by decide) rfl rfl (g := (mkF m 33 #[.val (.ref o0), .val (.long y1), .second, .unset, .unset] [(.long (own_maxL (0 : Int64) y1)), (.ref o0)])) rfl rfl (hb hby dd_prog_49_method_8_code_33)
  have N5 := Fr.snoc X5 N4 g_o0
  have Z5 : n0 ≤ h5.size := by rw [W5.size]; exact Z2
  have K5 : Keep h0 h5 [o12, o3, o2, o0] := (K2.wr W5 (Or.inl (List.mem_of_getElem? (i := 3) rfl)))
  have Fw5 := g2_12.same W5
  have f6 := (g2_9.other W5 (Or.inr (slot_ne (Or.inl (wd47 hw)) (Or.inl (wd75 hw)) (by decide) (t := .int) (t' := .long) (by decide) (by decide))))
  obtain ⟨T7, X7, e7, st7⟩ := getF X5 hx hZ hown (host := "") (Or.inl (wd46 hw)) Via.refl e5 f6 (g := (mkF m 37 #[.val (.ref o0), .val (.long y1), .second, .unset, .unset] [(.ref o0)])) rfl rfl (hb hby dd_prog_49_method_8_code_37)
  have f8 := (g2_4.other W5 (Or.inr (slot_ne (Or.inl (wd49 hw)) (Or.inl (wd75 hw)) (by decide) (t := .int) (t' := .long) (by decide) (by decide))))
  obtain ⟨T9, X9, e9, st9⟩ := getF X7 hx hZ hown (host := "") (Or.inl (wd48 hw)) Via.refl e7 f8 (g := (mkF m 41 #[.val (.ref o0), .val (.long y1), .second, .unset, .unset] [(.ref o0), (.int (0 : Int32))])) rfl rfl (hb hby dd_prog_49_method_8_code_41)
  obtain ⟨T10, X10, e10, st10⟩ := getF X9 hx hZ hown (host := "") (Or.inl (wd74 hw)) Via.refl e9 Fw5 (g := (mkF m 48 #[.val (.ref o0), .val (.long y1), .second, .unset, .unset] [(.ref o0)])) rfl rfl (hb hby dd_prog_49_method_8_code_48)
  have f11 := (g2_2.other W5 (Or.inr (slot_ne (Or.inl (wd55 hw)) (Or.inl (wd75 hw)) (by decide) (t := .int) (t' := .long) (by decide) (by decide))))
  have f12 := (g2_0.other W5 (Or.inr (slot_ne (Or.inl (wd37 hw)) (Or.inl (wd75 hw)) (by decide) (t := (.array (.object cn6))) (t' := .long) (by decide) (by decide))))
  have f13 := (g2_1.other W5 ne_o2_o0)
  have f14 := (g2_5.other W5 (Or.inr (slot_ne (Or.inr (wd30 hw)) (Or.inl (wd75 hw)) (by decide) (t := (.array (.array (.object cn6)))) (t' := .long) (by decide) (by decide))))
  have f15 := (g2_6.other W5 ne_o3_o0)
  have f16 := (g2_7.other W5 (Or.inr (slot_ne (Or.inr (wd33 hw)) (Or.inl (wd75 hw)) (by decide) (t := (.array .int)) (t' := .long) (by decide) (by decide))))
  have f17 := (g2_8.other W5 ne_o12_o0)
  have f18 := (g2_10.other W5 (Or.inr (slot_ne (Or.inr (wd39 hw)) (Or.inl (wd75 hw)) (by decide) (t := .long) (t' := .long) (by decide) (by decide))))
  have f19 := (g2_11.other W5 (Or.inr (slot_ne (Or.inr (wd26 hw)) (Or.inl (wd75 hw)) (by decide) (t := (.object cn8)) (t' := .long) (by decide) (by decide))))
  have f20 := (g2_3.wr W5)
  have f21 := (g2_13.wr W5)
  have f22 := (g2_14.wr W5)
  obtain ⟨lfs, lhr, lhrun, lhended, lhW, lhsame⟩ := X10.leave (v := none) (fun _ => rfl)
  refine ⟨_, _, pre0 _ ?_, lhrun, lhended, _, _, rfl, ?_, ⟨_, rfl⟩, lhW, lhsame.mono (by decide) (by decide)⟩
  · skip
    show Steps p.tables e below (s₁.setTop (mkF m 0 #[.val (.ref o0), .val (.long y1), .second, .unset, .unset] [])) _
    refine XS.aloadN X0.here hx rfl (hb hby dd_prog_49_method_8_code_0) rfl rfl ?_
    show Steps p.tables e below (s₁.setTop (mkF m 1 #[.val (.ref o0), .val (.long y1), .second, .unset, .unset] [(.ref o0)])) _
    refine st1 _ ?_
    show Steps p.tables e below (T1.setTop (mkF m 4 #[.val (.ref o0), .val (.long y1), .second, .unset, .unset] [(.int (0 : Int32))])) _
    refine XS.ifYes X1.here hx rfl (pc0 := 4) (pc' := 20) rfl (hb hby dd_prog_49_method_8_code_4) rfl ((if0 _ _).trans (teq (by decide : (0 : Int32) = (0 : Int32))).1) (by decide) (by decide) ?_
    refine XS.aloadN X1.here hx rfl (hb hby dd_prog_49_method_8_code_20) rfl rfl ?_
    show Steps p.tables e below (T1.setTop (mkF m 21 #[.val (.ref o0), .val (.long y1), .second, .unset, .unset] [(.ref o0)])) _
    refine st2.trans ?_
    show Steps p.tables e below (T2.setTop (mkF m 24 #[.val (.ref o0), .val (.long y1), .second, .unset, .unset] [])) _
    refine XS.aloadN X2.here hx rfl (hb hby dd_prog_49_method_8_code_24) rfl rfl ?_
    refine XS.aloadN X2.here hx rfl (hb hby dd_prog_49_method_8_code_25) rfl rfl ?_
    show Steps p.tables e below (T2.setTop (mkF m 26 #[.val (.ref o0), .val (.long y1), .second, .unset, .unset] [(.ref o0), (.ref o0)])) _
    refine st3 _ ?_
    show Steps p.tables e below (T3.setTop (mkF m 29 #[.val (.ref o0), .val (.long y1), .second, .unset, .unset] [(.long (0 : Int64)), (.ref o0)])) _
    refine XS.lloadN X3.here hx rfl (hb hby dd_prog_49_method_8_code_29) rfl ?_
    show Steps p.tables e below (T3.setTop (mkF m 30 #[.val (.ref o0), .val (.long y1), .second, .unset, .unset] [(.long y1), (.long (0 : Int64)), (.ref o0)])) _
    refine st4 _ ?_
    show Steps p.tables e below (T4.setTop (mkF m 33 #[.val (.ref o0), .val (.long y1), .second, .unset, .unset] [(.long (own_maxL (0 : Int64) y1)), (.ref o0)])) _
    refine st5 _ ?_
    show Steps p.tables e below (T5.setTop (mkF m 36 #[.val (.ref o0), .val (.long y1), .second, .unset, .unset] [])) _
    refine XS.aloadN X5.here hx rfl (hb hby dd_prog_49_method_8_code_36) rfl rfl ?_
    show Steps p.tables e below (T5.setTop (mkF m 37 #[.val (.ref o0), .val (.long y1), .second, .unset, .unset] [(.ref o0)])) _
    refine st7 _ ?_
    show Steps p.tables e below (T7.setTop (mkF m 40 #[.val (.ref o0), .val (.long y1), .second, .unset, .unset] [(.int (0 : Int32))])) _
    refine XS.aloadN X7.here hx rfl (hb hby dd_prog_49_method_8_code_40) rfl rfl ?_
    show Steps p.tables e below (T7.setTop (mkF m 41 #[.val (.ref o0), .val (.long y1), .second, .unset, .unset] [(.ref o0), (.int (0 : Int32))])) _
    refine st9 _ ?_
    show Steps p.tables e below (T9.setTop (mkF m 44 #[.val (.ref o0), .val (.long y1), .second, .unset, .unset] [(.int (0 : Int32)), (.int (0 : Int32))])) _
    refine XS.icmpNo X9.here hx rfl (hb hby dd_prog_49_method_8_code_44) rfl (teq (by decide : (0 : Int32) = (0 : Int32))).2 ?_
    refine XS.aloadN X9.here hx rfl (hb hby dd_prog_49_method_8_code_47) rfl rfl ?_
    show Steps p.tables e below (T9.setTop (mkF m 48 #[.val (.ref o0), .val (.long y1), .second, .unset, .unset] [(.ref o0)])) _
    refine st10 _ ?_
    show Steps p.tables e below (T10.setTop (mkF m 51 #[.val (.ref o0), .val (.long y1), .second, .unset, .unset] [(.long (own_maxL (0 : Int64) y1))])) _
    refine XS.lloadN X10.here hx rfl (hb hby dd_prog_49_method_8_code_51) rfl ?_
    refine XS.lcmp X10.here hx rfl (hb hby dd_prog_49_method_8_code_52) rfl ?_
    show Steps p.tables e below (T10.setTop (mkF m 53 #[.val (.ref o0), .val (.long y1), .second, .unset, .unset] [(.int (lcmpW (own_maxL (0 : Int64) y1) y1))])) _
    refine XS.ifYes X10.here hx rfl (pc0 := 53) (pc' := 145) rfl (hb hby dd_prog_49_method_8_code_53) rfl ((if0 _ _).trans (flt (fun q => hq72 ((lw_lt (own_maxL (0 : Int64) y1) y1).mp q))).2.1) (by decide) (by decide) ?_
    show Steps p.tables e below (T10.setTop (mkF m 145 #[.val (.ref o0), .val (.long y1), .second, .unset, .unset] [])) _
    exact X10.returnOut hx Bd.returns (hb hby dd_prog_49_method_8_code_145) lhr
  · skip
    show QA4 Z o0 y1 o2 kk_o2 o3 o4 o5 o6 o7 o8 o9 o10 o11 kk_o3 o12 kk_o12 kk_o4 kk_o5 kk_o6 kk_o7 kk_o8 kk_o9 kk_o10 kk_o11 y13 o14 h0 n0 _ T10.heap _
    rw [e10]
    exact ⟨rfl, N5, K5, f11, f12, f13, f8, f14, f15, f16, f17, f6, f18, f19, Fw5, f20, f21, f22⟩
theorem dd_prog_49_method_5_code_21 : decode prog_49_method_5_code 21 = .ok (.aconst_null, 1) := by decide +kernel
theorem dd_prog_49_method_5_code_22 : decode prog_49_method_5_code 22 = .ok (.astore_n 3, 1) := by decide +kernel
theorem dd_prog_49_method_5_code_23 : decode prog_49_method_5_code 23 = .ok (.aload_n 0, 1) := by decide +kernel
theorem dd_prog_49_method_5_code_24 : decode prog_49_method_5_code 24 = .ok (.getfield 85, 3) := by decide +kernel
theorem dd_prog_49_method_5_code_27 : decode prog_49_method_5_code 27 = .ok (.aload_n 0, 1) := by decide +kernel
theorem dd_prog_49_method_5_code_28 : decode prog_49_method_5_code 28 = .ok (.getfield 88, 3) := by decide +kernel
theorem dd_prog_49_method_5_code_31 : decode prog_49_method_5_code 31 = .ok (.if_icmp .ge 33, 3) := by decide +kernel
theorem dd_prog_49_method_5_code_64 : decode prog_49_method_5_code 64 = .ok (.aload_n 3, 1) := by decide +kernel
theorem dd_prog_49_method_5_code_65 : decode prog_49_method_5_code 65 = .ok (.areturn, 1) := by decide +kernel
def QA3 (Z : State) (o0 : Addr) (y1 : Int64) (y2 : Int64) (o3 : Addr) (kk_o3 : ClassId) (o4 : Addr) (o5 : Addr) (o6 : Addr) (o7 : Addr) (o8 : Addr) (o9 : Addr) (o10 : Addr) (o11 : Addr) (o12 : Addr) (kk_o4 : ClassId) (o13 : Addr) (kk_o13 : ClassId) (kk_o5 : ClassId) (kk_o6 : ClassId) (kk_o7 : ClassId) (kk_o8 : ClassId) (kk_o9 : ClassId) (kk_o10 : ClassId) (kk_o11 : ClassId) (kk_o12 : ClassId) (o14 : Addr) (h0 : Heap) (n0 : Nat) (v : Option Value) (h : Heap) (L : List Loc) : Prop := v = some .null ∧ Fr n0 L ∧ Keep h0 h [o0, o3, o4, o13] ∧ Fld Z h o0 cn2 "handed" "I" (.int (0 : Int32)) ∧ Fld Z h o0 cn2 "takenSize" "I" (.int (0 : Int32)) ∧ Fld Z h o0 cn2 "width" "J" (.long y2) ∧ Fld Z h o0 cn2 "total" "I" (.int (0 : Int32)) ∧ Fld Z h o0 cn2 "taken" cn5 (.ref o3) ∧ Arv Z h o3 kk_o3 (.object cn6) (16 : Int32) [] .null ∧ Fld Z h o0 cn2 "kept" cn4 (.ref o4) ∧ Arv Z h o4 kk_o4 (.array (.object cn6)) (8 : Int32) [(.ref o5), (.ref o6), (.ref o7), (.ref o8), (.ref o9), (.ref o10), (.ref o11), (.ref o12)] .null ∧ Fld Z h o0 cn2 "sizes" "[I" (.ref o13) ∧ Arv Z h o13 kk_o13 .int (8 : Int32) [(.int (0 : Int32)), (.int (0 : Int32)), (.int (0 : Int32)), (.int (0 : Int32)), (.int (0 : Int32)), (.int (0 : Int32)), (.int (0 : Int32)), (.int (0 : Int32))] (.int (0 : Int32)) ∧ Fld Z h o0 cn2 "handedIn" cn7 (.ref o14) ∧ Fld Z h o0 cn2 "next" "J" (.long (own_maxL (0 : Int64) (y1 / y2))) ∧ Exa Z h o0 cn2 ∧ Exa Z h o3 cn5 ∧ Exa Z h o4 cn4
set_option maxRecDepth 65536 in
set_option maxHeartbeats 40000000 in
theorem rmA3 (l : Launch) (Z : State) (a0 : Array Value) (hw : ∀ d ∈ tables_1, d.before a0 Z = true) (ws : List Jvm.Cond) (o0 : Addr) (y1 : Int64) (y2 : Int64) (o3 : Addr) (kk_o3 : ClassId) (o4 : Addr) (o5 : Addr) (o6 : Addr) (o7 : Addr) (o8 : Addr) (o9 : Addr) (o10 : Addr) (o11 : Addr) (o12 : Addr) (kk_o4 : ClassId) (o13 : Addr) (kk_o13 : ClassId) (kk_o5 : ClassId) (kk_o6 : ClassId) (kk_o7 : ClassId) (kk_o8 : ClassId) (kk_o9 : ClassId) (kk_o10 : ClassId) (kk_o11 : ClassId) (kk_o12 : ClassId) (o14 : Addr) (h0 : Heap) (n0 : Nat) (Z0 : n0 ≤ h0.size) (F_o0_handed : Fld Z h0 o0 cn2 "handed" "I" (.int (0 : Int32))) (F_o0_takenSize : Fld Z h0 o0 cn2 "takenSize" "I" (.int (0 : Int32))) (F_o0_width : Fld Z h0 o0 cn2 "width" "J" (.long y2)) (hq3 : ¬ (y2 = (0 : Int64))) (F_o0_total : Fld Z h0 o0 cn2 "total" "I" (.int (0 : Int32))) (F_o0_taken : Fld Z h0 o0 cn2 "taken" cn5 (.ref o3)) (V_o3 : Arv Z h0 o3 kk_o3 (.object cn6) (16 : Int32) [] .null) (F_o0_kept : Fld Z h0 o0 cn2 "kept" cn4 (.ref o4)) (V_o4 : Arv Z h0 o4 kk_o4 (.array (.object cn6)) (8 : Int32) [(.ref o5), (.ref o6), (.ref o7), (.ref o8), (.ref o9), (.ref o10), (.ref o11), (.ref o12)] .null) (F_o0_sizes : Fld Z h0 o0 cn2 "sizes" "[I" (.ref o13)) (V_o13 : Arv Z h0 o13 kk_o13 .int (8 : Int32) [(.int (0 : Int32)), (.int (0 : Int32)), (.int (0 : Int32)), (.int (0 : Int32)), (.int (0 : Int32)), (.int (0 : Int32)), (.int (0 : Int32)), (.int (0 : Int32))] (.int (0 : Int32))) (V_o5 : Arv Z h0 o5 kk_o5 (.object cn6) (16 : Int32) [] .null) (OV_o4 : OvrA Z kk_o4 (.object cn6) cn5) (V_o6 : Arv Z h0 o6 kk_o6 (.object cn6) (16 : Int32) [] .null) (V_o7 : Arv Z h0 o7 kk_o7 (.object cn6) (16 : Int32) [] .null) (V_o8 : Arv Z h0 o8 kk_o8 (.object cn6) (16 : Int32) [] .null) (V_o9 : Arv Z h0 o9 kk_o9 (.object cn6) (16 : Int32) [] .null) (V_o10 : Arv Z h0 o10 kk_o10 (.object cn6) (16 : Int32) [] .null) (V_o11 : Arv Z h0 o11 kk_o11 (.object cn6) (16 : Int32) [] .null) (V_o12 : Arv Z h0 o12 kk_o12 (.object cn6) (16 : Int32) [] .null) (F_o0_handedIn : Fld Z h0 o0 cn2 "handedIn" cn7 (.ref o14)) (F_o0_next : Fld Z h0 o0 cn2 "next" "J" (.long (0 : Int64))) (hq22 : ¬ ((own_maxL (0 : Int64) (y1 / y2)) < (y1 / y2))) (E_o0 : Exa Z h0 o0 cn2) (g_o0 : n0 ≤ o0) (ne_o4_o0 : o4 ≠ o0) (ne_o13_o0 : o13 ≠ o0) (ne_o5_o0 : o5 ≠ o0) (ne_o3_o0 : o3 ≠ o0) (g_o3 : n0 ≤ o3) (ne_o13_o3 : o13 ≠ o3) (ne_o4_o3 : o4 ≠ o3) (ne_o5_o3 : o5 ≠ o3) (E_o5 : Exa Z h0 o5 cn5) (g_o4 : n0 ≤ o4) (ne_o13_o4 : o13 ≠ o4) (g_o13 : n0 ≤ o13) (ne_o6_o0 : o6 ≠ o0) (ne_o6_o3 : o6 ≠ o3) (ne_o6_o4 : o6 ≠ o4) (ne_o6_o13 : o6 ≠ o13) (E_o6 : Exa Z h0 o6 cn5) (ne_o7_o0 : o7 ≠ o0) (ne_o7_o3 : o7 ≠ o3) (ne_o7_o4 : o7 ≠ o4) (ne_o7_o13 : o7 ≠ o13) (E_o7 : Exa Z h0 o7 cn5) (ne_o8_o0 : o8 ≠ o0) (ne_o8_o3 : o8 ≠ o3) (ne_o8_o4 : o8 ≠ o4) (ne_o8_o13 : o8 ≠ o13) (E_o8 : Exa Z h0 o8 cn5) (ne_o9_o0 : o9 ≠ o0) (ne_o9_o3 : o9 ≠ o3) (ne_o9_o4 : o9 ≠ o4) (ne_o9_o13 : o9 ≠ o13) (E_o9 : Exa Z h0 o9 cn5) (ne_o10_o0 : o10 ≠ o0) (ne_o10_o3 : o10 ≠ o3) (ne_o10_o4 : o10 ≠ o4) (ne_o10_o13 : o10 ≠ o13) (E_o10 : Exa Z h0 o10 cn5) (ne_o11_o0 : o11 ≠ o0) (ne_o11_o3 : o11 ≠ o3) (ne_o11_o4 : o11 ≠ o4) (ne_o11_o13 : o11 ≠ o13) (E_o11 : Exa Z h0 o11 cn5) (ne_o12_o0 : o12 ≠ o0) (ne_o12_o3 : o12 ≠ o3) (ne_o12_o4 : o12 ≠ o4) (ne_o12_o13 : o12 ≠ o13) (E_o12 : Exa Z h0 o12 cn5) (E_o3 : Exa Z h0 o3 cn5) (E_o4 : Exa Z h0 o4 cn4) :
    MetFree l mn1 (head1 (Jvm.Cond.code mn1 prog_49_method_5_code 4 (some (.object cn6)) :: ws) ({ frames := 5, cells := 0, slots := 0, locals := 75 } : Room)) (fun a U => a = #[(.ref o0), (.long y1)] ∧ Z.Warmed39 U.vm ∧ U.heap = h0) (fun _ _ _ _ _ => True) (fun _ U oc_ U' => ∃ v L, oc_ = .returned v ∧ QA3 Z o0 y1 y2 o3 kk_o3 o4 o5 o6 o7 o8 o9 o10 o11 o12 kk_o4 o13 kk_o13 kk_o5 kk_o6 kk_o7 kk_o8 kk_o9 kk_o10 kk_o11 kk_o12 o14 h0 n0 v U'.heap L ∧ FrameEnd U oc_ U' L ({ frames := 5, cells := 0, slots := 0, locals := 75 } : Room).cells ({ frames := 5, cells := 0, slots := 0, locals := 75 } : Room).slots) := by
  refine MetFree.of_bodySF (plainFor_of_name pn_com_example_strict_limiter_strictlimiter_SweepSchedule) hisR ?_
  intro p e s m args below meth c s₁ Bd hml0 hP hK
  obtain ⟨rfl, hZ, hh⟩ := hP
  have hx := Bd.exec
  have hby := Bd.bytes
  have hml : c.maxLocals = 4 := hml0
  have hown : s.vm.findClass cn2 = some m.cls := findClass_of_methodNamed Bd.named
  have hnm := (name_of_methodNamed Bd.named Bd.method).1
  have X0 : Stand p l e ({ frames := 5, cells := 0, slots := 0, locals := 75 } : Room) s m #[(.ref o0), (.long y1)] below meth c s₁ [] 0 0 := Stand.of_body Bd
  have e0 : s₁.heap = h0 := by rw [← hh, Bd.state]; rfl
  have N0 := Fr.nil n0
  have pre0 : ∀ t, Steps p.tables e below (s₁.setTop (mkF m 0 #[.val (.ref o0), .val (.long y1), .second, .unset] [])) t → Steps p.tables e below (s₁.setTop (entryFrame m #[(.ref o0), (.long y1)] 4)) t := fun t k => castTop (efa_prog_49_method_5_code_vv m o0 y1) k
  obtain ⟨T1, X1, e1, st1⟩ := getF X0 hx hZ hown (host := "") (Or.inl (wd46 hw)) Via.refl e0 F_o0_handed (g := (mkF m 1 #[.val (.ref o0), .val (.long y1), .second, .unset] [(.ref o0)])) rfl rfl (hb hby dd_prog_49_method_5_code_1)
  obtain ⟨T2, X2, e2, st2⟩ := getF X1 hx hZ hown (host := "") (Or.inl (wd48 hw)) Via.refl e1 F_o0_takenSize (g := (mkF m 5 #[.val (.ref o0), .val (.long y1), .second, .unset] [(.ref o0), (.int (0 : Int32))])) rfl rfl (hb hby dd_prog_49_method_5_code_5)
  obtain ⟨T3, X3, e3, st3⟩ := getF X2 hx hZ hown (host := "") (Or.inl (wd38 hw)) Via.refl e2 F_o0_width (g := (mkF m 14 #[.val (.ref o0), .val (.long y1), .second, .unset] [(.ref o0), (.long y1), (.ref o0)])) rfl rfl (hb hby dd_prog_49_method_5_code_14)
  obtain ⟨cq4, q4, q4'⟩ := E_o0.cell
  obtain ⟨_, _, ⟨T4, L4, kc4, ks4⟩, -, X4, ⟨Lc4, hQ4, l4, y4, z4⟩, st4⟩ := X3.privateBack hx (y := mn4) hown (mvT hZ (wd50 hw)) (mvT hZ (wd51 hw)) (own_selPriv (mvT hZ (wd10 hw)) (Cond.privateMethod_at (mvP hZ (wd52 hw) (args := #[]))) (mvT hZ (wd51 hw)) (by decide)) (Cond.privateMethod_at (mvP hZ (wd52 hw) (args := #[]))) (mvT hZ (wd53 hw)) (by decide) (backOf (W := 0) (rmA4 l Z a0 hw [] o0 ((y1 / y2)) o3 _ o4 o5 o6 o7 o8 o9 o10 o11 o12 _ o13 _ _ _ _ _ _ _ _ _ y2 o14 h0 n0 Z0 F_o0_total F_o0_taken V_o3 F_o0_takenSize F_o0_kept V_o4 F_o0_sizes V_o13 V_o5 OV_o4 V_o6 V_o7 V_o8 V_o9 V_o10 V_o11 V_o12 F_o0_handed F_o0_width F_o0_handedIn F_o0_next E_o0 g_o0 ne_o4_o0 ne_o13_o0 ne_o5_o0 ne_o3_o0 g_o3 ne_o13_o3 ne_o4_o3 ne_o5_o3 E_o5 g_o4 ne_o13_o4 g_o13 ne_o6_o0 ne_o6_o3 ne_o6_o4 ne_o6_o13 E_o6 ne_o7_o0 ne_o7_o3 ne_o7_o4 ne_o7_o13 E_o7 ne_o8_o0 ne_o8_o3 ne_o8_o4 ne_o8_o13 E_o8 ne_o9_o0 ne_o9_o3 ne_o9_o4 ne_o9_o13 E_o9 ne_o10_o0 ne_o10_o3 ne_o10_o4 ne_o10_o13 E_o10 ne_o11_o0 ne_o11_o3 ne_o11_o4 ne_o11_o13 E_o11 ne_o12_o0 ne_o12_o3 ne_o12_o4 ne_o12_o13 E_o12 E_o3 E_o4 hq22) hZ (wd53 hw) (wd11 hw) (by decide) (by decide)) (g := (mkF m 18 #[.val (.ref o0), .val (.long y1), .second, .unset] [(.long (y1 / y2)), (.ref o0)])) rfl (by rw [hml]; rfl) (Steps.refl _) (a := o0) (by rw [e3]; exact q4) q4' (argsL := [(.long (y1 / y2))]) (rest := []) (lenOf pd__J_V rfl) rfl (by show 2 * 0 + _ ≤ _; exact Nat.le_of_eq rfl) (hb hby dd_prog_49_method_5_code_18) (fun _ _ => ⟨rfl, e3, (by decide : 0 + 0 ≤ _), (by decide : 0 + 0 ≤ _)⟩)
  dsimp only [Pt.U, Pt.locs, Pt.cells, Pt.slots] at X4 l4 y4 z4 st4 hQ4
  subst l4 y4 z4
  obtain ⟨rfl, Nq4, Kq4, g4_0, g4_1, g4_2, g4_3, g4_4, g4_5, g4_6, g4_7, g4_8, g4_9, g4_10, g4_11, g4_12, g4_13, g4_14⟩ := hQ4
  have N4 := Fr.app N0 Nq4
  have Z4 : n0 ≤ T4.heap.size := Nat.le_trans Z0 Kq4.1
  have K4 : Keep h0 T4.heap [o0, o3, o4, o13] := Keep.trans (Keep.refl h0 [o0, o3, o4, o13]) Kq4 (allS (Or.inl (List.mem_of_getElem? (i := 3) rfl)) (allS (Or.inl (List.mem_of_getElem? (i := 2) rfl)) (allS (Or.inl (List.mem_of_getElem? (i := 1) rfl)) (allS (Or.inl (List.mem_of_getElem? (i := 0) rfl)) all0))))
  obtain ⟨T5, X5, e5, st5⟩ := getF X4 hx hZ hown (host := "") (Or.inl (wd46 hw)) Via.refl rfl g4_8 (g := (mkF m 24 #[.val (.ref o0), .val (.long y1), .second, .val .null] [(.ref o0)])) rfl rfl (hb hby dd_prog_49_method_5_code_24)
  obtain ⟨T6, X6, e6, st6⟩ := getF X5 hx hZ hown (host := "") (Or.inl (wd48 hw)) Via.refl e5 g4_3 (g := (mkF m 28 #[.val (.ref o0), .val (.long y1), .second, .val .null] [(.ref o0), (.int (0 : Int32))])) rfl rfl (hb hby dd_prog_49_method_5_code_28)
  obtain ⟨lfs, lhr, lhrun, lhended, lhW, lhsame⟩ := X6.leave (v := some .null) (fun h => by rw [Bd.returns] at h; cases h)
  refine ⟨_, _, pre0 _ ?_, lhrun, lhended, _, _, rfl, ?_, ⟨_, rfl⟩, lhW, lhsame.mono (by decide) (by decide)⟩
  · skip
    show Steps p.tables e below (s₁.setTop (mkF m 0 #[.val (.ref o0), .val (.long y1), .second, .unset] [])) _
    refine XS.aloadN X0.here hx rfl (hb hby dd_prog_49_method_5_code_0) rfl rfl ?_
    show Steps p.tables e below (s₁.setTop (mkF m 1 #[.val (.ref o0), .val (.long y1), .second, .unset] [(.ref o0)])) _
    refine st1 _ ?_
    show Steps p.tables e below (T1.setTop (mkF m 4 #[.val (.ref o0), .val (.long y1), .second, .unset] [(.int (0 : Int32))])) _
    refine XS.aloadN X1.here hx rfl (hb hby dd_prog_49_method_5_code_4) rfl rfl ?_
    show Steps p.tables e below (T1.setTop (mkF m 5 #[.val (.ref o0), .val (.long y1), .second, .unset] [(.ref o0), (.int (0 : Int32))])) _
    refine st2 _ ?_
    show Steps p.tables e below (T2.setTop (mkF m 8 #[.val (.ref o0), .val (.long y1), .second, .unset] [(.int (0 : Int32)), (.int (0 : Int32))])) _
    refine XS.icmpNo X2.here hx rfl (hb hby dd_prog_49_method_5_code_8) rfl (teq (by decide : (0 : Int32) = (0 : Int32))).2 ?_
    show Steps p.tables e below (T2.setTop (mkF m 11 #[.val (.ref o0), .val (.long y1), .second, .unset] [])) _
    refine XS.aloadN X2.here hx rfl (hb hby dd_prog_49_method_5_code_11) rfl rfl ?_
    refine XS.lloadN X2.here hx rfl (hb hby dd_prog_49_method_5_code_12) rfl ?_
    refine XS.aloadN X2.here hx rfl (hb hby dd_prog_49_method_5_code_13) rfl rfl ?_
    show Steps p.tables e below (T2.setTop (mkF m 14 #[.val (.ref o0), .val (.long y1), .second, .unset] [(.ref o0), (.long y1), (.ref o0)])) _
    refine st3 _ ?_
    show Steps p.tables e below (T3.setTop (mkF m 17 #[.val (.ref o0), .val (.long y1), .second, .unset] [(.long y2), (.long y1), (.ref o0)])) _
    refine XS.ldiv X3.here hx rfl (hb hby dd_prog_49_method_5_code_17) rfl hq3 ?_
    show Steps p.tables e below (T3.setTop (mkF m 18 #[.val (.ref o0), .val (.long y1), .second, .unset] [(.long (y1 / y2)), (.ref o0)])) _
    refine st4.trans ?_
    show Steps p.tables e below (T4.setTop (mkF m 21 #[.val (.ref o0), .val (.long y1), .second, .unset] [])) _
    refine XS.aconstNull X4.here hx rfl (hb hby dd_prog_49_method_5_code_21) ?_
    refine XS.astoreN X4.here hx rfl (hb hby dd_prog_49_method_5_code_22) rfl rfl (l' := #[.val (.ref o0), .val (.long y1), .second, .val .null]) rfl ?_
    refine XS.aloadN X4.here hx rfl (hb hby dd_prog_49_method_5_code_23) rfl rfl ?_
    show Steps p.tables e below (T4.setTop (mkF m 24 #[.val (.ref o0), .val (.long y1), .second, .val .null] [(.ref o0)])) _
    refine st5 _ ?_
    show Steps p.tables e below (T5.setTop (mkF m 27 #[.val (.ref o0), .val (.long y1), .second, .val .null] [(.int (0 : Int32))])) _
    refine XS.aloadN X5.here hx rfl (hb hby dd_prog_49_method_5_code_27) rfl rfl ?_
    show Steps p.tables e below (T5.setTop (mkF m 28 #[.val (.ref o0), .val (.long y1), .second, .val .null] [(.ref o0), (.int (0 : Int32))])) _
    refine st6 _ ?_
    show Steps p.tables e below (T6.setTop (mkF m 31 #[.val (.ref o0), .val (.long y1), .second, .val .null] [(.int (0 : Int32)), (.int (0 : Int32))])) _
    refine XS.icmpYes X6.here hx rfl (pc0 := 31) (pc' := 64) rfl (hb hby dd_prog_49_method_5_code_31) rfl (flt (by decide : ¬ ((0 : Int32) < (0 : Int32)))).2.1 (by decide) (by decide) ?_
    refine XS.aloadN X6.here hx rfl (hb hby dd_prog_49_method_5_code_64) rfl rfl ?_
    show Steps p.tables e below (T6.setTop (mkF m 65 #[.val (.ref o0), .val (.long y1), .second, .val .null] [.null])) _
    exact retOut X6 hx Bd.returns rfl (Or.inr (Or.inr (Or.inr (Or.inr ⟨rfl, rfl, rfl⟩)))) (hb hby dd_prog_49_method_5_code_65) lhr
  · skip
    show QA3 Z o0 y1 y2 o3 kk_o3 o4 o5 o6 o7 o8 o9 o10 o11 o12 kk_o4 o13 kk_o13 kk_o5 kk_o6 kk_o7 kk_o8 kk_o9 kk_o10 kk_o11 kk_o12 o14 h0 n0 _ T6.heap _
    rw [e6]
    exact ⟨rfl, N4, K4, g4_8, g4_3, g4_9, g4_0, g4_1, g4_2, g4_4, g4_5, g4_6, g4_7, g4_10, g4_11, g4_12, g4_13, g4_14⟩
def QA31 (Z : State) (o0 : Addr) (y1 : Int64) (o2 : Addr) (kk_o2 : ClassId) (o3 : Addr) (o4 : Addr) (o5 : Addr) (o6 : Addr) (o7 : Addr) (o8 : Addr) (o9 : Addr) (o10 : Addr) (o11 : Addr) (kk_o3 : ClassId) (o12 : Addr) (kk_o12 : ClassId) (kk_o4 : ClassId) (kk_o5 : ClassId) (kk_o6 : ClassId) (kk_o7 : ClassId) (kk_o8 : ClassId) (kk_o9 : ClassId) (kk_o10 : ClassId) (kk_o11 : ClassId) (y13 : Int64) (o14 : Addr) (y15 : Int64) (h0 : Heap) (n0 : Nat) (v : Option Value) (h : Heap) (L : List Loc) : Prop := v = none ∧ Fr n0 L ∧ Keep h0 h [o12, o3, o2, o0] ∧ Fld Z h o0 cn2 "total" "I" (.int (0 : Int32)) ∧ Fld Z h o0 cn2 "taken" cn5 (.ref o2) ∧ Arv Z h o2 kk_o2 (.object cn6) (16 : Int32) [] .null ∧ Fld Z h o0 cn2 "takenSize" "I" (.int (0 : Int32)) ∧ Fld Z h o0 cn2 "kept" cn4 (.ref o3) ∧ Arv Z h o3 kk_o3 (.array (.object cn6)) (8 : Int32) [(.ref o4), (.ref o5), (.ref o6), (.ref o7), (.ref o8), (.ref o9), (.ref o10), (.ref o11)] .null ∧ Fld Z h o0 cn2 "sizes" "[I" (.ref o12) ∧ Arv Z h o12 kk_o12 .int (8 : Int32) [(.int (0 : Int32)), (.int (0 : Int32)), (.int (0 : Int32)), (.int (0 : Int32)), (.int (0 : Int32)), (.int (0 : Int32)), (.int (0 : Int32)), (.int (0 : Int32))] (.int (0 : Int32)) ∧ Fld Z h o0 cn2 "handed" "I" (.int (0 : Int32)) ∧ Fld Z h o0 cn2 "width" "J" (.long y13) ∧ Fld Z h o0 cn2 "handedIn" cn7 (.ref o14) ∧ Fld Z h o0 cn2 "next" "J" (.long (own_maxL y15 y1)) ∧ Exa Z h o0 cn2 ∧ Exa Z h o2 cn5 ∧ Exa Z h o3 cn4
set_option maxRecDepth 65536 in
set_option maxHeartbeats 40000000 in
theorem rmA31 (l : Launch) (Z : State) (a0 : Array Value) (hw : ∀ d ∈ tables_1, d.before a0 Z = true) (ws : List Jvm.Cond) (o0 : Addr) (y1 : Int64) (o2 : Addr) (kk_o2 : ClassId) (o3 : Addr) (o4 : Addr) (o5 : Addr) (o6 : Addr) (o7 : Addr) (o8 : Addr) (o9 : Addr) (o10 : Addr) (o11 : Addr) (kk_o3 : ClassId) (o12 : Addr) (kk_o12 : ClassId) (kk_o4 : ClassId) (kk_o5 : ClassId) (kk_o6 : ClassId) (kk_o7 : ClassId) (kk_o8 : ClassId) (kk_o9 : ClassId) (kk_o10 : ClassId) (kk_o11 : ClassId) (y13 : Int64) (o14 : Addr) (y15 : Int64) (h0 : Heap) (n0 : Nat) (Z0 : n0 ≤ h0.size) (F_o0_total : Fld Z h0 o0 cn2 "total" "I" (.int (0 : Int32))) (F_o0_taken : Fld Z h0 o0 cn2 "taken" cn5 (.ref o2)) (V_o2 : Arv Z h0 o2 kk_o2 (.object cn6) (16 : Int32) [] .null) (F_o0_takenSize : Fld Z h0 o0 cn2 "takenSize" "I" (.int (0 : Int32))) (F_o0_kept : Fld Z h0 o0 cn2 "kept" cn4 (.ref o3)) (V_o3 : Arv Z h0 o3 kk_o3 (.array (.object cn6)) (8 : Int32) [(.ref o4), (.ref o5), (.ref o6), (.ref o7), (.ref o8), (.ref o9), (.ref o10), (.ref o11)] .null) (F_o0_sizes : Fld Z h0 o0 cn2 "sizes" "[I" (.ref o12)) (V_o12 : Arv Z h0 o12 kk_o12 .int (8 : Int32) [(.int (0 : Int32)), (.int (0 : Int32)), (.int (0 : Int32)), (.int (0 : Int32)), (.int (0 : Int32)), (.int (0 : Int32)), (.int (0 : Int32)), (.int (0 : Int32))] (.int (0 : Int32))) (V_o4 : Arv Z h0 o4 kk_o4 (.object cn6) (16 : Int32) [] .null) (OV_o3 : OvrA Z kk_o3 (.object cn6) cn5) (V_o5 : Arv Z h0 o5 kk_o5 (.object cn6) (16 : Int32) [] .null) (V_o6 : Arv Z h0 o6 kk_o6 (.object cn6) (16 : Int32) [] .null) (V_o7 : Arv Z h0 o7 kk_o7 (.object cn6) (16 : Int32) [] .null) (V_o8 : Arv Z h0 o8 kk_o8 (.object cn6) (16 : Int32) [] .null) (V_o9 : Arv Z h0 o9 kk_o9 (.object cn6) (16 : Int32) [] .null) (V_o10 : Arv Z h0 o10 kk_o10 (.object cn6) (16 : Int32) [] .null) (V_o11 : Arv Z h0 o11 kk_o11 (.object cn6) (16 : Int32) [] .null) (F_o0_handed : Fld Z h0 o0 cn2 "handed" "I" (.int (0 : Int32))) (F_o0_width : Fld Z h0 o0 cn2 "width" "J" (.long y13)) (F_o0_handedIn : Fld Z h0 o0 cn2 "handedIn" cn7 (.ref o14)) (F_o0_next : Fld Z h0 o0 cn2 "next" "J" (.long y15)) (E_o0 : Exa Z h0 o0 cn2) (g_o0 : n0 ≤ o0) (ne_o3_o0 : o3 ≠ o0) (ne_o12_o0 : o12 ≠ o0) (ne_o4_o0 : o4 ≠ o0) (ne_o2_o0 : o2 ≠ o0) (g_o2 : n0 ≤ o2) (ne_o12_o2 : o12 ≠ o2) (ne_o3_o2 : o3 ≠ o2) (ne_o4_o2 : o4 ≠ o2) (E_o4 : Exa Z h0 o4 cn5) (g_o3 : n0 ≤ o3) (ne_o12_o3 : o12 ≠ o3) (g_o12 : n0 ≤ o12) (ne_o5_o0 : o5 ≠ o0) (ne_o5_o2 : o5 ≠ o2) (ne_o5_o3 : o5 ≠ o3) (ne_o5_o12 : o5 ≠ o12) (E_o5 : Exa Z h0 o5 cn5) (ne_o6_o0 : o6 ≠ o0) (ne_o6_o2 : o6 ≠ o2) (ne_o6_o3 : o6 ≠ o3) (ne_o6_o12 : o6 ≠ o12) (E_o6 : Exa Z h0 o6 cn5) (ne_o7_o0 : o7 ≠ o0) (ne_o7_o2 : o7 ≠ o2) (ne_o7_o3 : o7 ≠ o3) (ne_o7_o12 : o7 ≠ o12) (E_o7 : Exa Z h0 o7 cn5) (ne_o8_o0 : o8 ≠ o0) (ne_o8_o2 : o8 ≠ o2) (ne_o8_o3 : o8 ≠ o3) (ne_o8_o12 : o8 ≠ o12) (E_o8 : Exa Z h0 o8 cn5) (ne_o9_o0 : o9 ≠ o0) (ne_o9_o2 : o9 ≠ o2) (ne_o9_o3 : o9 ≠ o3) (ne_o9_o12 : o9 ≠ o12) (E_o9 : Exa Z h0 o9 cn5) (ne_o10_o0 : o10 ≠ o0) (ne_o10_o2 : o10 ≠ o2) (ne_o10_o3 : o10 ≠ o3) (ne_o10_o12 : o10 ≠ o12) (E_o10 : Exa Z h0 o10 cn5) (ne_o11_o0 : o11 ≠ o0) (ne_o11_o2 : o11 ≠ o2) (ne_o11_o3 : o11 ≠ o3) (ne_o11_o12 : o11 ≠ o12) (E_o11 : Exa Z h0 o11 cn5) (E_o2 : Exa Z h0 o2 cn5) (E_o3 : Exa Z h0 o3 cn4) (hq72 : ¬ ((own_maxL y15 y1) < y1)) :
    MetFree l mn4 (head1 (Jvm.Cond.code mn4 prog_49_method_8_code 5 none :: ws) ({ frames := 4, cells := 0, slots := 0, locals := 59 } : Room)) (fun a U => a = #[(.ref o0), (.long y1)] ∧ Z.Warmed39 U.vm ∧ U.heap = h0) (fun _ _ _ _ _ => True) (fun _ U oc_ U' => ∃ v L, oc_ = .returned v ∧ QA31 Z o0 y1 o2 kk_o2 o3 o4 o5 o6 o7 o8 o9 o10 o11 kk_o3 o12 kk_o12 kk_o4 kk_o5 kk_o6 kk_o7 kk_o8 kk_o9 kk_o10 kk_o11 y13 o14 y15 h0 n0 v U'.heap L ∧ FrameEnd U oc_ U' L ({ frames := 4, cells := 0, slots := 0, locals := 59 } : Room).cells ({ frames := 4, cells := 0, slots := 0, locals := 59 } : Room).slots) := by
  refine MetFree.of_bodySF (plainFor_of_name pn_com_example_strict_limiter_strictlimiter_SweepSchedule) hisR ?_
  intro p e s m args below meth c s₁ Bd hml0 hP hK
  obtain ⟨rfl, hZ, hh⟩ := hP
  have hx := Bd.exec
  have hby := Bd.bytes
  have hml : c.maxLocals = 5 := hml0
  have hown : s.vm.findClass cn2 = some m.cls := findClass_of_methodNamed Bd.named
  have hnm := (name_of_methodNamed Bd.named Bd.method).1
  have X0 : Stand p l e ({ frames := 4, cells := 0, slots := 0, locals := 59 } : Room) s m #[(.ref o0), (.long y1)] below meth c s₁ [] 0 0 := Stand.of_body Bd
  have e0 : s₁.heap = h0 := by rw [← hh, Bd.state]; rfl
  have N0 := Fr.nil n0
  have pre0 : ∀ t, Steps p.tables e below (s₁.setTop (mkF m 0 #[.val (.ref o0), .val (.long y1), .second, .unset, .unset] [])) t → Steps p.tables e below (s₁.setTop (entryFrame m #[(.ref o0), (.long y1)] 5)) t := fun t k => castTop (efa_prog_49_method_8_code_vv m o0 y1) k
  obtain ⟨T1, X1, e1, st1⟩ := getF X0 hx hZ hown (host := "") (Or.inl (wd54 hw)) Via.refl e0 F_o0_total (g := (mkF m 1 #[.val (.ref o0), .val (.long y1), .second, .unset, .unset] [(.ref o0)])) rfl rfl (hb hby dd_prog_49_method_8_code_1)
  obtain ⟨cq2, q2, q2'⟩ := E_o0.cell
  obtain ⟨_, _, ⟨T2, L2, kc2, ks2⟩, -, X2, ⟨Lc2, hQ2, l2, y2, z2⟩, st2⟩ := X1.privateBack hx (y := mn5) hown (mvT hZ (wd56 hw)) (mvT hZ (wd57 hw)) (own_selPriv (mvT hZ (wd10 hw)) (Cond.privateMethod_at (mvP hZ (wd58 hw) (args := #[]))) (mvT hZ (wd57 hw)) (by decide)) (Cond.privateMethod_at (mvP hZ (wd58 hw) (args := #[]))) (mvT hZ (wd59 hw)) (by decide) (backOf (W := 0) (rmA5 l Z a0 hw [] o0 o2 _ o3 o4 o5 o6 o7 o8 o9 o10 o11 _ o12 _ _ _ _ _ _ _ _ _ ((.long y13)) ((.ref o14)) ((.long y15)) h0 n0 Z0 F_o0_taken V_o2 F_o0_total E_o0 F_o0_takenSize g_o0 F_o0_kept V_o3 ne_o3_o0 F_o0_sizes V_o12 ne_o12_o0 V_o4 ne_o4_o0 ne_o2_o0 g_o2 ne_o12_o2 ne_o3_o2 ne_o4_o2 E_o4 OV_o3 g_o3 ne_o12_o3 g_o12 V_o5 ne_o5_o0 ne_o5_o2 ne_o5_o3 ne_o5_o12 E_o5 V_o6 ne_o6_o0 ne_o6_o2 ne_o6_o3 ne_o6_o12 E_o6 V_o7 ne_o7_o0 ne_o7_o2 ne_o7_o3 ne_o7_o12 E_o7 V_o8 ne_o8_o0 ne_o8_o2 ne_o8_o3 ne_o8_o12 E_o8 V_o9 ne_o9_o0 ne_o9_o2 ne_o9_o3 ne_o9_o12 E_o9 V_o10 ne_o10_o0 ne_o10_o2 ne_o10_o3 ne_o10_o12 E_o10 V_o11 ne_o11_o0 ne_o11_o2 ne_o11_o3 ne_o11_o12 E_o11 F_o0_handed F_o0_width F_o0_handedIn F_o0_next E_o2 E_o3) hZ (wd59 hw) (wd11 hw) (by decide) (by decide)) (g := (mkF m 21 #[.val (.ref o0), .val (.long y1), .second, .unset, .unset] [(.ref o0)])) rfl (by rw [hml]; rfl) (Steps.refl _) (a := o0) (by rw [e1]; exact q2) q2' (argsL := []) (rest := []) (lenOf pd___V rfl) rfl (by show 2 * 0 + _ ≤ _; exact Nat.le_of_eq rfl) (hb hby dd_prog_49_method_8_code_21) (fun _ _ => ⟨rfl, e1, (by decide : 0 + 0 ≤ _), (by decide : 0 + 0 ≤ _)⟩)
  dsimp only [Pt.U, Pt.locs, Pt.cells, Pt.slots] at X2 l2 y2 z2 st2 hQ2
  subst l2 y2 z2
  obtain ⟨rfl, Nq2, Kq2, g2_0, g2_1, g2_2, g2_3, g2_4, g2_5, g2_6, g2_7, g2_8, g2_9, g2_10, g2_11, g2_12, g2_13, g2_14⟩ := hQ2
  have N2 := Fr.app N0 Nq2
  have Z2 : n0 ≤ T2.heap.size := Nat.le_trans Z0 Kq2.1
  have K2 : Keep h0 T2.heap [o12, o3, o2, o0] := Keep.trans (Keep.refl h0 [o12, o3, o2, o0]) Kq2 (allS (Or.inl (List.mem_of_getElem? (i := 3) rfl)) (allS (Or.inl (List.mem_of_getElem? (i := 2) rfl)) (allS (Or.inl (List.mem_of_getElem? (i := 1) rfl)) (allS (Or.inl (List.mem_of_getElem? (i := 0) rfl)) all0))))
  obtain ⟨T3, X3, e3, st3⟩ := getF X2 hx hZ hown (host := "") (Or.inl (wd74 hw)) Via.refl rfl g2_12 (g := (mkF m 26 #[.val (.ref o0), .val (.long y1), .second, .unset, .unset] [(.ref o0), (.ref o0)])) rfl rfl (hb hby dd_prog_49_method_8_code_26)
  obtain ⟨_, _, ⟨T4, L4, kc4, ks4⟩, -, X4, ⟨Lc4, hQ4, l4, y4, z4⟩, st4⟩ := Jvm.LawKit.callS X3 hx (y := mn6) hown (mvT hZ (wd76 hw)) (mvT hZ (wd2 hw)) (mvT hZ (wd3 hw)) (mvT hZ (wd4 hw)) (by decide) (backOf (W := 1) (rmMaxJ l Z a0 hw [] y15 y1 T2.heap n0 Z2) hZ (wd4 hw) (wd3 hw) (by decide) (by decide)) (g := (mkF m 30 #[.val (.ref o0), .val (.long y1), .second, .unset, .unset] [(.long y1), (.long y15), (.ref o0)])) rfl (by rw [hml]; rfl) (argsL := [(.long y15), (.long y1)]) (rest := [(.ref o0)]) (lenOf pd__JJ_J rfl) rfl (by show 2 * 0 + _ ≤ _; exact Nat.le_of_eq rfl) (hb hby dd_prog_49_method_8_code_30) (fun _ _ => ⟨rfl, e3, (by decide : 0 + 0 ≤ _), (by decide : 0 + 0 ≤ _)⟩)
  dsimp only [Pt.U, Pt.locs, Pt.cells, Pt.slots] at X4 l4 y4 z4 st4 hQ4
  subst l4 y4 z4
  obtain ⟨rfl, Nq4, eq4⟩ := hQ4
  have N4 := Fr.app N2 Nq4
  obtain ⟨T5, h5, X5, e5, W5, st5⟩ := putF X4 hx hZ hown (host := "") (Or.inl (wd74 hw)) Via.refl eq4 g2_12 g2_3 (Or.inl (wd75 hw)) (wd10 hw) (ty := .long) (by decide) rfl rfl (g := (mkF m 33 #[.val (.ref o0), .val (.long y1), .second, .unset, .unset] [(.long (own_maxL y15 y1)), (.ref o0)])) rfl rfl (hb hby dd_prog_49_method_8_code_33)
  have N5 := Fr.snoc X5 N4 g_o0
  have Z5 : n0 ≤ h5.size := by rw [W5.size]; exact Z2
  have K5 : Keep h0 h5 [o12, o3, o2, o0] := (K2.wr W5 (Or.inl (List.mem_of_getElem? (i := 3) rfl)))
  have Fw5 := g2_12.same W5
  have f6 := (g2_9.other W5 (Or.inr (slot_ne (Or.inl (wd47 hw)) (Or.inl (wd75 hw)) (by decide) (t := .int) (t' := .long) (by decide) (by decide))))
  obtain ⟨T7, X7, e7, st7⟩ := getF X5 hx hZ hown (host := "") (Or.inl (wd46 hw)) Via.refl e5 f6 (g := (mkF m 37 #[.val (.ref o0), .val (.long y1), .second, .unset, .unset] [(.ref o0)])) rfl rfl (hb hby dd_prog_49_method_8_code_37)
  have f8 := (g2_4.other W5 (Or.inr (slot_ne (Or.inl (wd49 hw)) (Or.inl (wd75 hw)) (by decide) (t := .int) (t' := .long) (by decide) (by decide))))
  obtain ⟨T9, X9, e9, st9⟩ := getF X7 hx hZ hown (host := "") (Or.inl (wd48 hw)) Via.refl e7 f8 (g := (mkF m 41 #[.val (.ref o0), .val (.long y1), .second, .unset, .unset] [(.ref o0), (.int (0 : Int32))])) rfl rfl (hb hby dd_prog_49_method_8_code_41)
  obtain ⟨T10, X10, e10, st10⟩ := getF X9 hx hZ hown (host := "") (Or.inl (wd74 hw)) Via.refl e9 Fw5 (g := (mkF m 48 #[.val (.ref o0), .val (.long y1), .second, .unset, .unset] [(.ref o0)])) rfl rfl (hb hby dd_prog_49_method_8_code_48)
  have f11 := (g2_2.other W5 (Or.inr (slot_ne (Or.inl (wd55 hw)) (Or.inl (wd75 hw)) (by decide) (t := .int) (t' := .long) (by decide) (by decide))))
  have f12 := (g2_0.other W5 (Or.inr (slot_ne (Or.inl (wd37 hw)) (Or.inl (wd75 hw)) (by decide) (t := (.array (.object cn6))) (t' := .long) (by decide) (by decide))))
  have f13 := (g2_1.other W5 ne_o2_o0)
  have f14 := (g2_5.other W5 (Or.inr (slot_ne (Or.inr (wd30 hw)) (Or.inl (wd75 hw)) (by decide) (t := (.array (.array (.object cn6)))) (t' := .long) (by decide) (by decide))))
  have f15 := (g2_6.other W5 ne_o3_o0)
  have f16 := (g2_7.other W5 (Or.inr (slot_ne (Or.inr (wd33 hw)) (Or.inl (wd75 hw)) (by decide) (t := (.array .int)) (t' := .long) (by decide) (by decide))))
  have f17 := (g2_8.other W5 ne_o12_o0)
  have f18 := (g2_10.other W5 (Or.inr (slot_ne (Or.inr (wd39 hw)) (Or.inl (wd75 hw)) (by decide) (t := .long) (t' := .long) (by decide) (by decide))))
  have f19 := (g2_11.other W5 (Or.inr (slot_ne (Or.inr (wd26 hw)) (Or.inl (wd75 hw)) (by decide) (t := (.object cn8)) (t' := .long) (by decide) (by decide))))
  have f20 := (g2_3.wr W5)
  have f21 := (g2_13.wr W5)
  have f22 := (g2_14.wr W5)
  obtain ⟨lfs, lhr, lhrun, lhended, lhW, lhsame⟩ := X10.leave (v := none) (fun _ => rfl)
  refine ⟨_, _, pre0 _ ?_, lhrun, lhended, _, _, rfl, ?_, ⟨_, rfl⟩, lhW, lhsame.mono (by decide) (by decide)⟩
  · skip
    show Steps p.tables e below (s₁.setTop (mkF m 0 #[.val (.ref o0), .val (.long y1), .second, .unset, .unset] [])) _
    refine XS.aloadN X0.here hx rfl (hb hby dd_prog_49_method_8_code_0) rfl rfl ?_
    show Steps p.tables e below (s₁.setTop (mkF m 1 #[.val (.ref o0), .val (.long y1), .second, .unset, .unset] [(.ref o0)])) _
    refine st1 _ ?_
    show Steps p.tables e below (T1.setTop (mkF m 4 #[.val (.ref o0), .val (.long y1), .second, .unset, .unset] [(.int (0 : Int32))])) _
    refine XS.ifYes X1.here hx rfl (pc0 := 4) (pc' := 20) rfl (hb hby dd_prog_49_method_8_code_4) rfl ((if0 _ _).trans (teq (by decide : (0 : Int32) = (0 : Int32))).1) (by decide) (by decide) ?_
    refine XS.aloadN X1.here hx rfl (hb hby dd_prog_49_method_8_code_20) rfl rfl ?_
    show Steps p.tables e below (T1.setTop (mkF m 21 #[.val (.ref o0), .val (.long y1), .second, .unset, .unset] [(.ref o0)])) _
    refine st2.trans ?_
    show Steps p.tables e below (T2.setTop (mkF m 24 #[.val (.ref o0), .val (.long y1), .second, .unset, .unset] [])) _
    refine XS.aloadN X2.here hx rfl (hb hby dd_prog_49_method_8_code_24) rfl rfl ?_
    refine XS.aloadN X2.here hx rfl (hb hby dd_prog_49_method_8_code_25) rfl rfl ?_
    show Steps p.tables e below (T2.setTop (mkF m 26 #[.val (.ref o0), .val (.long y1), .second, .unset, .unset] [(.ref o0), (.ref o0)])) _
    refine st3 _ ?_
    show Steps p.tables e below (T3.setTop (mkF m 29 #[.val (.ref o0), .val (.long y1), .second, .unset, .unset] [(.long y15), (.ref o0)])) _
    refine XS.lloadN X3.here hx rfl (hb hby dd_prog_49_method_8_code_29) rfl ?_
    show Steps p.tables e below (T3.setTop (mkF m 30 #[.val (.ref o0), .val (.long y1), .second, .unset, .unset] [(.long y1), (.long y15), (.ref o0)])) _
    refine st4 _ ?_
    show Steps p.tables e below (T4.setTop (mkF m 33 #[.val (.ref o0), .val (.long y1), .second, .unset, .unset] [(.long (own_maxL y15 y1)), (.ref o0)])) _
    refine st5 _ ?_
    show Steps p.tables e below (T5.setTop (mkF m 36 #[.val (.ref o0), .val (.long y1), .second, .unset, .unset] [])) _
    refine XS.aloadN X5.here hx rfl (hb hby dd_prog_49_method_8_code_36) rfl rfl ?_
    show Steps p.tables e below (T5.setTop (mkF m 37 #[.val (.ref o0), .val (.long y1), .second, .unset, .unset] [(.ref o0)])) _
    refine st7 _ ?_
    show Steps p.tables e below (T7.setTop (mkF m 40 #[.val (.ref o0), .val (.long y1), .second, .unset, .unset] [(.int (0 : Int32))])) _
    refine XS.aloadN X7.here hx rfl (hb hby dd_prog_49_method_8_code_40) rfl rfl ?_
    show Steps p.tables e below (T7.setTop (mkF m 41 #[.val (.ref o0), .val (.long y1), .second, .unset, .unset] [(.ref o0), (.int (0 : Int32))])) _
    refine st9 _ ?_
    show Steps p.tables e below (T9.setTop (mkF m 44 #[.val (.ref o0), .val (.long y1), .second, .unset, .unset] [(.int (0 : Int32)), (.int (0 : Int32))])) _
    refine XS.icmpNo X9.here hx rfl (hb hby dd_prog_49_method_8_code_44) rfl (teq (by decide : (0 : Int32) = (0 : Int32))).2 ?_
    refine XS.aloadN X9.here hx rfl (hb hby dd_prog_49_method_8_code_47) rfl rfl ?_
    show Steps p.tables e below (T9.setTop (mkF m 48 #[.val (.ref o0), .val (.long y1), .second, .unset, .unset] [(.ref o0)])) _
    refine st10 _ ?_
    show Steps p.tables e below (T10.setTop (mkF m 51 #[.val (.ref o0), .val (.long y1), .second, .unset, .unset] [(.long (own_maxL y15 y1))])) _
    refine XS.lloadN X10.here hx rfl (hb hby dd_prog_49_method_8_code_51) rfl ?_
    refine XS.lcmp X10.here hx rfl (hb hby dd_prog_49_method_8_code_52) rfl ?_
    show Steps p.tables e below (T10.setTop (mkF m 53 #[.val (.ref o0), .val (.long y1), .second, .unset, .unset] [(.int (lcmpW (own_maxL y15 y1) y1))])) _
    refine XS.ifYes X10.here hx rfl (pc0 := 53) (pc' := 145) rfl (hb hby dd_prog_49_method_8_code_53) rfl ((if0 _ _).trans (flt (fun q => hq72 ((lw_lt (own_maxL y15 y1) y1).mp q))).2.1) (by decide) (by decide) ?_
    show Steps p.tables e below (T10.setTop (mkF m 145 #[.val (.ref o0), .val (.long y1), .second, .unset, .unset] [])) _
    exact X10.returnOut hx Bd.returns (hb hby dd_prog_49_method_8_code_145) lhr
  · skip
    show QA31 Z o0 y1 o2 kk_o2 o3 o4 o5 o6 o7 o8 o9 o10 o11 kk_o3 o12 kk_o12 kk_o4 kk_o5 kk_o6 kk_o7 kk_o8 kk_o9 kk_o10 kk_o11 y13 o14 y15 h0 n0 _ T10.heap _
    rw [e10]
    exact ⟨rfl, N5, K5, f11, f12, f13, f8, f14, f15, f16, f17, f6, f18, f19, Fw5, f20, f21, f22⟩
def QA30 (Z : State) (o0 : Addr) (y1 : Int64) (y2 : Int64) (o3 : Addr) (kk_o3 : ClassId) (o4 : Addr) (o5 : Addr) (o6 : Addr) (o7 : Addr) (o8 : Addr) (o9 : Addr) (o10 : Addr) (o11 : Addr) (o12 : Addr) (kk_o4 : ClassId) (o13 : Addr) (kk_o13 : ClassId) (kk_o5 : ClassId) (kk_o6 : ClassId) (kk_o7 : ClassId) (kk_o8 : ClassId) (kk_o9 : ClassId) (kk_o10 : ClassId) (kk_o11 : ClassId) (kk_o12 : ClassId) (o14 : Addr) (y15 : Int64) (h0 : Heap) (n0 : Nat) (v : Option Value) (h : Heap) (L : List Loc) : Prop := v = some .null ∧ Fr n0 L ∧ Keep h0 h [o0, o3, o4, o13] ∧ Fld Z h o0 cn2 "handed" "I" (.int (0 : Int32)) ∧ Fld Z h o0 cn2 "takenSize" "I" (.int (0 : Int32)) ∧ Fld Z h o0 cn2 "width" "J" (.long y2) ∧ Fld Z h o0 cn2 "total" "I" (.int (0 : Int32)) ∧ Fld Z h o0 cn2 "taken" cn5 (.ref o3) ∧ Arv Z h o3 kk_o3 (.object cn6) (16 : Int32) [] .null ∧ Fld Z h o0 cn2 "kept" cn4 (.ref o4) ∧ Arv Z h o4 kk_o4 (.array (.object cn6)) (8 : Int32) [(.ref o5), (.ref o6), (.ref o7), (.ref o8), (.ref o9), (.ref o10), (.ref o11), (.ref o12)] .null ∧ Fld Z h o0 cn2 "sizes" "[I" (.ref o13) ∧ Arv Z h o13 kk_o13 .int (8 : Int32) [(.int (0 : Int32)), (.int (0 : Int32)), (.int (0 : Int32)), (.int (0 : Int32)), (.int (0 : Int32)), (.int (0 : Int32)), (.int (0 : Int32)), (.int (0 : Int32))] (.int (0 : Int32)) ∧ Fld Z h o0 cn2 "handedIn" cn7 (.ref o14) ∧ Fld Z h o0 cn2 "next" "J" (.long (own_maxL y15 (y1 / y2))) ∧ Exa Z h o0 cn2 ∧ Exa Z h o3 cn5 ∧ Exa Z h o4 cn4
set_option maxRecDepth 65536 in
set_option maxHeartbeats 40000000 in
theorem rmA30 (l : Launch) (Z : State) (a0 : Array Value) (hw : ∀ d ∈ tables_1, d.before a0 Z = true) (ws : List Jvm.Cond) (o0 : Addr) (y1 : Int64) (y2 : Int64) (o3 : Addr) (kk_o3 : ClassId) (o4 : Addr) (o5 : Addr) (o6 : Addr) (o7 : Addr) (o8 : Addr) (o9 : Addr) (o10 : Addr) (o11 : Addr) (o12 : Addr) (kk_o4 : ClassId) (o13 : Addr) (kk_o13 : ClassId) (kk_o5 : ClassId) (kk_o6 : ClassId) (kk_o7 : ClassId) (kk_o8 : ClassId) (kk_o9 : ClassId) (kk_o10 : ClassId) (kk_o11 : ClassId) (kk_o12 : ClassId) (o14 : Addr) (y15 : Int64) (h0 : Heap) (n0 : Nat) (Z0 : n0 ≤ h0.size) (F_o0_handed : Fld Z h0 o0 cn2 "handed" "I" (.int (0 : Int32))) (F_o0_takenSize : Fld Z h0 o0 cn2 "takenSize" "I" (.int (0 : Int32))) (F_o0_width : Fld Z h0 o0 cn2 "width" "J" (.long y2)) (hq3 : ¬ (y2 = (0 : Int64))) (F_o0_total : Fld Z h0 o0 cn2 "total" "I" (.int (0 : Int32))) (F_o0_taken : Fld Z h0 o0 cn2 "taken" cn5 (.ref o3)) (V_o3 : Arv Z h0 o3 kk_o3 (.object cn6) (16 : Int32) [] .null) (F_o0_kept : Fld Z h0 o0 cn2 "kept" cn4 (.ref o4)) (V_o4 : Arv Z h0 o4 kk_o4 (.array (.object cn6)) (8 : Int32) [(.ref o5), (.ref o6), (.ref o7), (.ref o8), (.ref o9), (.ref o10), (.ref o11), (.ref o12)] .null) (F_o0_sizes : Fld Z h0 o0 cn2 "sizes" "[I" (.ref o13)) (V_o13 : Arv Z h0 o13 kk_o13 .int (8 : Int32) [(.int (0 : Int32)), (.int (0 : Int32)), (.int (0 : Int32)), (.int (0 : Int32)), (.int (0 : Int32)), (.int (0 : Int32)), (.int (0 : Int32)), (.int (0 : Int32))] (.int (0 : Int32))) (V_o5 : Arv Z h0 o5 kk_o5 (.object cn6) (16 : Int32) [] .null) (OV_o4 : OvrA Z kk_o4 (.object cn6) cn5) (V_o6 : Arv Z h0 o6 kk_o6 (.object cn6) (16 : Int32) [] .null) (V_o7 : Arv Z h0 o7 kk_o7 (.object cn6) (16 : Int32) [] .null) (V_o8 : Arv Z h0 o8 kk_o8 (.object cn6) (16 : Int32) [] .null) (V_o9 : Arv Z h0 o9 kk_o9 (.object cn6) (16 : Int32) [] .null) (V_o10 : Arv Z h0 o10 kk_o10 (.object cn6) (16 : Int32) [] .null) (V_o11 : Arv Z h0 o11 kk_o11 (.object cn6) (16 : Int32) [] .null) (V_o12 : Arv Z h0 o12 kk_o12 (.object cn6) (16 : Int32) [] .null) (F_o0_handedIn : Fld Z h0 o0 cn2 "handedIn" cn7 (.ref o14)) (F_o0_next : Fld Z h0 o0 cn2 "next" "J" (.long y15)) (hq22 : ¬ ((own_maxL y15 (y1 / y2)) < (y1 / y2))) (E_o0 : Exa Z h0 o0 cn2) (g_o0 : n0 ≤ o0) (ne_o4_o0 : o4 ≠ o0) (ne_o13_o0 : o13 ≠ o0) (ne_o5_o0 : o5 ≠ o0) (ne_o3_o0 : o3 ≠ o0) (g_o3 : n0 ≤ o3) (ne_o13_o3 : o13 ≠ o3) (ne_o4_o3 : o4 ≠ o3) (ne_o5_o3 : o5 ≠ o3) (E_o5 : Exa Z h0 o5 cn5) (g_o4 : n0 ≤ o4) (ne_o13_o4 : o13 ≠ o4) (g_o13 : n0 ≤ o13) (ne_o6_o0 : o6 ≠ o0) (ne_o6_o3 : o6 ≠ o3) (ne_o6_o4 : o6 ≠ o4) (ne_o6_o13 : o6 ≠ o13) (E_o6 : Exa Z h0 o6 cn5) (ne_o7_o0 : o7 ≠ o0) (ne_o7_o3 : o7 ≠ o3) (ne_o7_o4 : o7 ≠ o4) (ne_o7_o13 : o7 ≠ o13) (E_o7 : Exa Z h0 o7 cn5) (ne_o8_o0 : o8 ≠ o0) (ne_o8_o3 : o8 ≠ o3) (ne_o8_o4 : o8 ≠ o4) (ne_o8_o13 : o8 ≠ o13) (E_o8 : Exa Z h0 o8 cn5) (ne_o9_o0 : o9 ≠ o0) (ne_o9_o3 : o9 ≠ o3) (ne_o9_o4 : o9 ≠ o4) (ne_o9_o13 : o9 ≠ o13) (E_o9 : Exa Z h0 o9 cn5) (ne_o10_o0 : o10 ≠ o0) (ne_o10_o3 : o10 ≠ o3) (ne_o10_o4 : o10 ≠ o4) (ne_o10_o13 : o10 ≠ o13) (E_o10 : Exa Z h0 o10 cn5) (ne_o11_o0 : o11 ≠ o0) (ne_o11_o3 : o11 ≠ o3) (ne_o11_o4 : o11 ≠ o4) (ne_o11_o13 : o11 ≠ o13) (E_o11 : Exa Z h0 o11 cn5) (ne_o12_o0 : o12 ≠ o0) (ne_o12_o3 : o12 ≠ o3) (ne_o12_o4 : o12 ≠ o4) (ne_o12_o13 : o12 ≠ o13) (E_o12 : Exa Z h0 o12 cn5) (E_o3 : Exa Z h0 o3 cn5) (E_o4 : Exa Z h0 o4 cn4) :
    MetFree l mn1 (head1 (Jvm.Cond.code mn1 prog_49_method_5_code 4 (some (.object cn6)) :: ws) ({ frames := 5, cells := 0, slots := 0, locals := 75 } : Room)) (fun a U => a = #[(.ref o0), (.long y1)] ∧ Z.Warmed39 U.vm ∧ U.heap = h0) (fun _ _ _ _ _ => True) (fun _ U oc_ U' => ∃ v L, oc_ = .returned v ∧ QA30 Z o0 y1 y2 o3 kk_o3 o4 o5 o6 o7 o8 o9 o10 o11 o12 kk_o4 o13 kk_o13 kk_o5 kk_o6 kk_o7 kk_o8 kk_o9 kk_o10 kk_o11 kk_o12 o14 y15 h0 n0 v U'.heap L ∧ FrameEnd U oc_ U' L ({ frames := 5, cells := 0, slots := 0, locals := 75 } : Room).cells ({ frames := 5, cells := 0, slots := 0, locals := 75 } : Room).slots) := by
  refine MetFree.of_bodySF (plainFor_of_name pn_com_example_strict_limiter_strictlimiter_SweepSchedule) hisR ?_
  intro p e s m args below meth c s₁ Bd hml0 hP hK
  obtain ⟨rfl, hZ, hh⟩ := hP
  have hx := Bd.exec
  have hby := Bd.bytes
  have hml : c.maxLocals = 4 := hml0
  have hown : s.vm.findClass cn2 = some m.cls := findClass_of_methodNamed Bd.named
  have hnm := (name_of_methodNamed Bd.named Bd.method).1
  have X0 : Stand p l e ({ frames := 5, cells := 0, slots := 0, locals := 75 } : Room) s m #[(.ref o0), (.long y1)] below meth c s₁ [] 0 0 := Stand.of_body Bd
  have e0 : s₁.heap = h0 := by rw [← hh, Bd.state]; rfl
  have N0 := Fr.nil n0
  have pre0 : ∀ t, Steps p.tables e below (s₁.setTop (mkF m 0 #[.val (.ref o0), .val (.long y1), .second, .unset] [])) t → Steps p.tables e below (s₁.setTop (entryFrame m #[(.ref o0), (.long y1)] 4)) t := fun t k => castTop (efa_prog_49_method_5_code_vv m o0 y1) k
  obtain ⟨T1, X1, e1, st1⟩ := getF X0 hx hZ hown (host := "") (Or.inl (wd46 hw)) Via.refl e0 F_o0_handed (g := (mkF m 1 #[.val (.ref o0), .val (.long y1), .second, .unset] [(.ref o0)])) rfl rfl (hb hby dd_prog_49_method_5_code_1)
  obtain ⟨T2, X2, e2, st2⟩ := getF X1 hx hZ hown (host := "") (Or.inl (wd48 hw)) Via.refl e1 F_o0_takenSize (g := (mkF m 5 #[.val (.ref o0), .val (.long y1), .second, .unset] [(.ref o0), (.int (0 : Int32))])) rfl rfl (hb hby dd_prog_49_method_5_code_5)
  obtain ⟨T3, X3, e3, st3⟩ := getF X2 hx hZ hown (host := "") (Or.inl (wd38 hw)) Via.refl e2 F_o0_width (g := (mkF m 14 #[.val (.ref o0), .val (.long y1), .second, .unset] [(.ref o0), (.long y1), (.ref o0)])) rfl rfl (hb hby dd_prog_49_method_5_code_14)
  obtain ⟨cq4, q4, q4'⟩ := E_o0.cell
  obtain ⟨_, _, ⟨T4, L4, kc4, ks4⟩, -, X4, ⟨Lc4, hQ4, l4, y4, z4⟩, st4⟩ := X3.privateBack hx (y := mn4) hown (mvT hZ (wd50 hw)) (mvT hZ (wd51 hw)) (own_selPriv (mvT hZ (wd10 hw)) (Cond.privateMethod_at (mvP hZ (wd52 hw) (args := #[]))) (mvT hZ (wd51 hw)) (by decide)) (Cond.privateMethod_at (mvP hZ (wd52 hw) (args := #[]))) (mvT hZ (wd53 hw)) (by decide) (backOf (W := 0) (rmA31 l Z a0 hw [] o0 ((y1 / y2)) o3 _ o4 o5 o6 o7 o8 o9 o10 o11 o12 _ o13 _ _ _ _ _ _ _ _ _ y2 o14 y15 h0 n0 Z0 F_o0_total F_o0_taken V_o3 F_o0_takenSize F_o0_kept V_o4 F_o0_sizes V_o13 V_o5 OV_o4 V_o6 V_o7 V_o8 V_o9 V_o10 V_o11 V_o12 F_o0_handed F_o0_width F_o0_handedIn F_o0_next E_o0 g_o0 ne_o4_o0 ne_o13_o0 ne_o5_o0 ne_o3_o0 g_o3 ne_o13_o3 ne_o4_o3 ne_o5_o3 E_o5 g_o4 ne_o13_o4 g_o13 ne_o6_o0 ne_o6_o3 ne_o6_o4 ne_o6_o13 E_o6 ne_o7_o0 ne_o7_o3 ne_o7_o4 ne_o7_o13 E_o7 ne_o8_o0 ne_o8_o3 ne_o8_o4 ne_o8_o13 E_o8 ne_o9_o0 ne_o9_o3 ne_o9_o4 ne_o9_o13 E_o9 ne_o10_o0 ne_o10_o3 ne_o10_o4 ne_o10_o13 E_o10 ne_o11_o0 ne_o11_o3 ne_o11_o4 ne_o11_o13 E_o11 ne_o12_o0 ne_o12_o3 ne_o12_o4 ne_o12_o13 E_o12 E_o3 E_o4 hq22) hZ (wd53 hw) (wd11 hw) (by decide) (by decide)) (g := (mkF m 18 #[.val (.ref o0), .val (.long y1), .second, .unset] [(.long (y1 / y2)), (.ref o0)])) rfl (by rw [hml]; rfl) (Steps.refl _) (a := o0) (by rw [e3]; exact q4) q4' (argsL := [(.long (y1 / y2))]) (rest := []) (lenOf pd__J_V rfl) rfl (by show 2 * 0 + _ ≤ _; exact Nat.le_of_eq rfl) (hb hby dd_prog_49_method_5_code_18) (fun _ _ => ⟨rfl, e3, (by decide : 0 + 0 ≤ _), (by decide : 0 + 0 ≤ _)⟩)
  dsimp only [Pt.U, Pt.locs, Pt.cells, Pt.slots] at X4 l4 y4 z4 st4 hQ4
  subst l4 y4 z4
  obtain ⟨rfl, Nq4, Kq4, g4_0, g4_1, g4_2, g4_3, g4_4, g4_5, g4_6, g4_7, g4_8, g4_9, g4_10, g4_11, g4_12, g4_13, g4_14⟩ := hQ4
  have N4 := Fr.app N0 Nq4
  have Z4 : n0 ≤ T4.heap.size := Nat.le_trans Z0 Kq4.1
  have K4 : Keep h0 T4.heap [o0, o3, o4, o13] := Keep.trans (Keep.refl h0 [o0, o3, o4, o13]) Kq4 (allS (Or.inl (List.mem_of_getElem? (i := 3) rfl)) (allS (Or.inl (List.mem_of_getElem? (i := 2) rfl)) (allS (Or.inl (List.mem_of_getElem? (i := 1) rfl)) (allS (Or.inl (List.mem_of_getElem? (i := 0) rfl)) all0))))
  obtain ⟨T5, X5, e5, st5⟩ := getF X4 hx hZ hown (host := "") (Or.inl (wd46 hw)) Via.refl rfl g4_8 (g := (mkF m 24 #[.val (.ref o0), .val (.long y1), .second, .val .null] [(.ref o0)])) rfl rfl (hb hby dd_prog_49_method_5_code_24)
  obtain ⟨T6, X6, e6, st6⟩ := getF X5 hx hZ hown (host := "") (Or.inl (wd48 hw)) Via.refl e5 g4_3 (g := (mkF m 28 #[.val (.ref o0), .val (.long y1), .second, .val .null] [(.ref o0), (.int (0 : Int32))])) rfl rfl (hb hby dd_prog_49_method_5_code_28)
  obtain ⟨lfs, lhr, lhrun, lhended, lhW, lhsame⟩ := X6.leave (v := some .null) (fun h => by rw [Bd.returns] at h; cases h)
  refine ⟨_, _, pre0 _ ?_, lhrun, lhended, _, _, rfl, ?_, ⟨_, rfl⟩, lhW, lhsame.mono (by decide) (by decide)⟩
  · skip
    show Steps p.tables e below (s₁.setTop (mkF m 0 #[.val (.ref o0), .val (.long y1), .second, .unset] [])) _
    refine XS.aloadN X0.here hx rfl (hb hby dd_prog_49_method_5_code_0) rfl rfl ?_
    show Steps p.tables e below (s₁.setTop (mkF m 1 #[.val (.ref o0), .val (.long y1), .second, .unset] [(.ref o0)])) _
    refine st1 _ ?_
    show Steps p.tables e below (T1.setTop (mkF m 4 #[.val (.ref o0), .val (.long y1), .second, .unset] [(.int (0 : Int32))])) _
    refine XS.aloadN X1.here hx rfl (hb hby dd_prog_49_method_5_code_4) rfl rfl ?_
    show Steps p.tables e below (T1.setTop (mkF m 5 #[.val (.ref o0), .val (.long y1), .second, .unset] [(.ref o0), (.int (0 : Int32))])) _
    refine st2 _ ?_
    show Steps p.tables e below (T2.setTop (mkF m 8 #[.val (.ref o0), .val (.long y1), .second, .unset] [(.int (0 : Int32)), (.int (0 : Int32))])) _
    refine XS.icmpNo X2.here hx rfl (hb hby dd_prog_49_method_5_code_8) rfl (teq (by decide : (0 : Int32) = (0 : Int32))).2 ?_
    show Steps p.tables e below (T2.setTop (mkF m 11 #[.val (.ref o0), .val (.long y1), .second, .unset] [])) _
    refine XS.aloadN X2.here hx rfl (hb hby dd_prog_49_method_5_code_11) rfl rfl ?_
    refine XS.lloadN X2.here hx rfl (hb hby dd_prog_49_method_5_code_12) rfl ?_
    refine XS.aloadN X2.here hx rfl (hb hby dd_prog_49_method_5_code_13) rfl rfl ?_
    show Steps p.tables e below (T2.setTop (mkF m 14 #[.val (.ref o0), .val (.long y1), .second, .unset] [(.ref o0), (.long y1), (.ref o0)])) _
    refine st3 _ ?_
    show Steps p.tables e below (T3.setTop (mkF m 17 #[.val (.ref o0), .val (.long y1), .second, .unset] [(.long y2), (.long y1), (.ref o0)])) _
    refine XS.ldiv X3.here hx rfl (hb hby dd_prog_49_method_5_code_17) rfl hq3 ?_
    show Steps p.tables e below (T3.setTop (mkF m 18 #[.val (.ref o0), .val (.long y1), .second, .unset] [(.long (y1 / y2)), (.ref o0)])) _
    refine st4.trans ?_
    show Steps p.tables e below (T4.setTop (mkF m 21 #[.val (.ref o0), .val (.long y1), .second, .unset] [])) _
    refine XS.aconstNull X4.here hx rfl (hb hby dd_prog_49_method_5_code_21) ?_
    refine XS.astoreN X4.here hx rfl (hb hby dd_prog_49_method_5_code_22) rfl rfl (l' := #[.val (.ref o0), .val (.long y1), .second, .val .null]) rfl ?_
    refine XS.aloadN X4.here hx rfl (hb hby dd_prog_49_method_5_code_23) rfl rfl ?_
    show Steps p.tables e below (T4.setTop (mkF m 24 #[.val (.ref o0), .val (.long y1), .second, .val .null] [(.ref o0)])) _
    refine st5 _ ?_
    show Steps p.tables e below (T5.setTop (mkF m 27 #[.val (.ref o0), .val (.long y1), .second, .val .null] [(.int (0 : Int32))])) _
    refine XS.aloadN X5.here hx rfl (hb hby dd_prog_49_method_5_code_27) rfl rfl ?_
    show Steps p.tables e below (T5.setTop (mkF m 28 #[.val (.ref o0), .val (.long y1), .second, .val .null] [(.ref o0), (.int (0 : Int32))])) _
    refine st6 _ ?_
    show Steps p.tables e below (T6.setTop (mkF m 31 #[.val (.ref o0), .val (.long y1), .second, .val .null] [(.int (0 : Int32)), (.int (0 : Int32))])) _
    refine XS.icmpYes X6.here hx rfl (pc0 := 31) (pc' := 64) rfl (hb hby dd_prog_49_method_5_code_31) rfl (flt (by decide : ¬ ((0 : Int32) < (0 : Int32)))).2.1 (by decide) (by decide) ?_
    refine XS.aloadN X6.here hx rfl (hb hby dd_prog_49_method_5_code_64) rfl rfl ?_
    show Steps p.tables e below (T6.setTop (mkF m 65 #[.val (.ref o0), .val (.long y1), .second, .val .null] [.null])) _
    exact retOut X6 hx Bd.returns rfl (Or.inr (Or.inr (Or.inr (Or.inr ⟨rfl, rfl, rfl⟩)))) (hb hby dd_prog_49_method_5_code_65) lhr
  · skip
    show QA30 Z o0 y1 y2 o3 kk_o3 o4 o5 o6 o7 o8 o9 o10 o11 o12 kk_o4 o13 kk_o13 kk_o5 kk_o6 kk_o7 kk_o8 kk_o9 kk_o10 kk_o11 kk_o12 o14 y15 h0 n0 _ T6.heap _
    rw [e6]
    exact ⟨rfl, N4, K4, g4_8, g4_3, g4_9, g4_0, g4_1, g4_2, g4_4, g4_5, g4_6, g4_7, g4_10, g4_11, g4_12, g4_13, g4_14⟩
theorem efa_prog_49_method_7_code_v (m : MethodId) (x0 : Addr) : entryFrame m #[(.ref x0)] 1 = mkF m 0 #[.val (.ref x0)] [] := by first | (simp [entryFrame, mkF, argsToLocals, Value.category]; done) | rfl
theorem dd_prog_49_method_7_code_0 : decode prog_49_method_7_code 0 = .ok (.aload_n 0, 1) := by decide +kernel
theorem dd_prog_49_method_7_code_1 : decode prog_49_method_7_code 1 = .ok (.getfield 62, 3) := by decide +kernel
theorem dd_prog_49_method_7_code_4 : decode prog_49_method_7_code 4 = .ok (.ldc2_w 97, 3) := by decide +kernel
theorem dd_prog_49_method_7_code_7 : decode prog_49_method_7_code 7 = .ok (.aload_n 0, 1) := by decide +kernel
theorem dd_prog_49_method_7_code_8 : decode prog_49_method_7_code 8 = .ok (.getfield 31, 3) := by decide +kernel
theorem dd_prog_49_method_7_code_11 : decode prog_49_method_7_code 11 = .ok (.ldiv, 1) := by decide +kernel
theorem dd_prog_49_method_7_code_12 : decode prog_49_method_7_code 12 = .ok (.lconst 1, 1) := by decide +kernel
theorem dd_prog_49_method_7_code_13 : decode prog_49_method_7_code 13 = .ok (.lsub, 1) := by decide +kernel
theorem dd_prog_49_method_7_code_14 : decode prog_49_method_7_code 14 = .ok (.lcmp, 1) := by decide +kernel
theorem dd_prog_49_method_7_code_15 : decode prog_49_method_7_code 15 = .ok (.ifCond .lt 9, 3) := by decide +kernel
theorem dd_prog_49_method_7_code_18 : decode prog_49_method_7_code 18 = .ok (.ldc2_w 97, 3) := by decide +kernel
theorem dd_prog_49_method_7_code_21 : decode prog_49_method_7_code 21 = .ok (.goto 14, 3) := by decide +kernel
theorem dd_prog_49_method_7_code_35 : decode prog_49_method_7_code 35 = .ok (.lreturn, 1) := by decide +kernel
def QA57 (Z : State) (o0 : Addr) (y1 : Int64) (y2 : Int64) (h0 : Heap) (n0 : Nat) (v : Option Value) (h : Heap) (L : List Loc) : Prop := v = some (.long (9223372036854775807 : Int64)) ∧ Fr n0 L ∧ h = h0
set_option maxRecDepth 65536 in
set_option maxHeartbeats 40000000 in
theorem rmA57 (l : Launch) (Z : State) (a0 : Array Value) (hw : ∀ d ∈ tables_1, d.before a0 Z = true) (ws : List Jvm.Cond) (o0 : Addr) (y1 : Int64) (y2 : Int64) (h0 : Heap) (n0 : Nat) (Z0 : n0 ≤ h0.size) (F_o0_next : Fld Z h0 o0 cn2 "next" "J" (.long y1)) (F_o0_width : Fld Z h0 o0 cn2 "width" "J" (.long y2)) (hq2 : ¬ (y2 = (0 : Int64))) (hq3 : ¬ (y1 < (((9223372036854775807 : Int64) / y2) - (1 : Int64)))) :
    MetFree l mn2 (head1 (Jvm.Cond.code mn2 prog_49_method_7_code 1 (some .long) :: ws) ({ frames := 0, cells := 0, slots := 0, locals := 0 } : Room)) (fun a U => a = #[(.ref o0)] ∧ Z.Warmed39 U.vm ∧ U.heap = h0) (fun _ _ _ _ _ => True) (fun _ U oc_ U' => ∃ v L, oc_ = .returned v ∧ QA57 Z o0 y1 y2 h0 n0 v U'.heap L ∧ FrameEnd U oc_ U' L ({ frames := 0, cells := 0, slots := 0, locals := 0 } : Room).cells ({ frames := 0, cells := 0, slots := 0, locals := 0 } : Room).slots) := by
  refine MetFree.of_bodySF (plainFor_of_name pn_com_example_strict_limiter_strictlimiter_SweepSchedule) hisR ?_
  intro p e s m args below meth c s₁ Bd hml0 hP hK
  obtain ⟨rfl, hZ, hh⟩ := hP
  have hx := Bd.exec
  have hby := Bd.bytes
  have hml : c.maxLocals = 1 := hml0
  have hown : s.vm.findClass cn2 = some m.cls := findClass_of_methodNamed Bd.named
  have hnm := (name_of_methodNamed Bd.named Bd.method).1
  have X0 : Stand p l e ({ frames := 0, cells := 0, slots := 0, locals := 0 } : Room) s m #[(.ref o0)] below meth c s₁ [] 0 0 := Stand.of_body Bd
  have e0 : s₁.heap = h0 := by rw [← hh, Bd.state]; rfl
  have N0 := Fr.nil n0
  have pre0 : ∀ t, Steps p.tables e below (s₁.setTop (mkF m 0 #[.val (.ref o0)] [])) t → Steps p.tables e below (s₁.setTop (entryFrame m #[(.ref o0)] 1)) t := fun t k => castTop (efa_prog_49_method_7_code_v m o0) k
  obtain ⟨T1, X1, e1, st1⟩ := getF X0 hx hZ hown (host := "") (Or.inl (wd74 hw)) Via.refl e0 F_o0_next (g := (mkF m 1 #[.val (.ref o0)] [(.ref o0)])) rfl rfl (hb hby dd_prog_49_method_7_code_1)
  obtain ⟨T2, X2, e2, st2⟩ := getF X1 hx hZ hown (host := "") (Or.inl (wd38 hw)) Via.refl e1 F_o0_width (g := (mkF m 8 #[.val (.ref o0)] [(.ref o0), (.long (9223372036854775807 : Int64)), (.long y1)])) rfl rfl (hb hby dd_prog_49_method_7_code_8)
  obtain ⟨lfs, lhr, lhrun, lhended, lhW, lhsame⟩ := X2.leave (v := some (.long (9223372036854775807 : Int64))) (fun h => by rw [Bd.returns] at h; cases h)
  refine ⟨_, _, pre0 _ ?_, lhrun, lhended, _, _, rfl, ?_, ⟨_, rfl⟩, lhW, lhsame.mono (by decide) (by decide)⟩
  · skip
    show Steps p.tables e below (s₁.setTop (mkF m 0 #[.val (.ref o0)] [])) _
    refine XS.aloadN X0.here hx rfl (hb hby dd_prog_49_method_7_code_0) rfl rfl ?_
    show Steps p.tables e below (s₁.setTop (mkF m 1 #[.val (.ref o0)] [(.ref o0)])) _
    refine st1 _ ?_
    show Steps p.tables e below (T1.setTop (mkF m 4 #[.val (.ref o0)] [(.long y1)])) _
    refine X1.ldc2Long hx hown (mvT hZ (wd82 hw)) (g := (mkF m 4 #[.val (.ref o0)] [(.long y1)])) rfl (hb hby dd_prog_49_method_7_code_4) _ ?_
    refine XS.aloadN X1.here hx rfl (hb hby dd_prog_49_method_7_code_7) rfl rfl ?_
    show Steps p.tables e below (T1.setTop (mkF m 8 #[.val (.ref o0)] [(.ref o0), (.long (9223372036854775807 : Int64)), (.long y1)])) _
    refine st2 _ ?_
    show Steps p.tables e below (T2.setTop (mkF m 11 #[.val (.ref o0)] [(.long y2), (.long (9223372036854775807 : Int64)), (.long y1)])) _
    refine XS.ldiv X2.here hx rfl (hb hby dd_prog_49_method_7_code_11) rfl hq2 ?_
    refine XS.lconst X2.here hx rfl (hb hby dd_prog_49_method_7_code_12) ?_
    refine XS.lsub X2.here hx rfl (hb hby dd_prog_49_method_7_code_13) rfl ?_
    show Steps p.tables e below (T2.setTop (mkF m 14 #[.val (.ref o0)] [(.long (((9223372036854775807 : Int64) / y2) - (1 : Int64))), (.long y1)])) _
    refine XS.lcmp X2.here hx rfl (hb hby dd_prog_49_method_7_code_14) rfl ?_
    refine XS.ifNo X2.here hx rfl (hb hby dd_prog_49_method_7_code_15) rfl ((if0 _ _).trans (flt (fun q => hq3 ((lw_lt y1 (((9223372036854775807 : Int64) / y2) - (1 : Int64))).mp q))).1) ?_
    refine X2.ldc2Long hx hown (mvT hZ (wd82 hw)) (g := (mkF m 18 #[.val (.ref o0)] [])) rfl (hb hby dd_prog_49_method_7_code_18) _ ?_
    show Steps p.tables e below (T2.setTop (mkF m 21 #[.val (.ref o0)] [(.long (9223372036854775807 : Int64))])) _
    refine XS.goto X2.here hx rfl (pc0 := 21) (pc' := 35) rfl (hb hby dd_prog_49_method_7_code_21) (by decide) (by decide) ?_
    show Steps p.tables e below (T2.setTop (mkF m 35 #[.val (.ref o0)] [(.long (9223372036854775807 : Int64))])) _
    exact retOut X2 hx Bd.returns rfl (Or.inr (Or.inl ⟨rfl, rfl, _, rfl⟩)) (hb hby dd_prog_49_method_7_code_35) lhr
  · skip
    show QA57 Z o0 y1 y2 h0 n0 _ T2.heap _
    rw [e2]
    exact ⟨rfl, N0, rfl⟩
theorem dd_prog_49_method_7_code_24 : decode prog_49_method_7_code 24 = .ok (.aload_n 0, 1) := by decide +kernel
theorem dd_prog_49_method_7_code_25 : decode prog_49_method_7_code 25 = .ok (.getfield 62, 3) := by decide +kernel
theorem dd_prog_49_method_7_code_28 : decode prog_49_method_7_code 28 = .ok (.lconst 1, 1) := by decide +kernel
theorem dd_prog_49_method_7_code_29 : decode prog_49_method_7_code 29 = .ok (.ladd, 1) := by decide +kernel
theorem dd_prog_49_method_7_code_30 : decode prog_49_method_7_code 30 = .ok (.aload_n 0, 1) := by decide +kernel
theorem dd_prog_49_method_7_code_31 : decode prog_49_method_7_code 31 = .ok (.getfield 31, 3) := by decide +kernel
theorem dd_prog_49_method_7_code_34 : decode prog_49_method_7_code 34 = .ok (.lmul, 1) := by decide +kernel
def QA58 (Z : State) (o0 : Addr) (y1 : Int64) (y2 : Int64) (h0 : Heap) (n0 : Nat) (v : Option Value) (h : Heap) (L : List Loc) : Prop := v = some (.long ((y1 + (1 : Int64)) * y2)) ∧ Fr n0 L ∧ h = h0
set_option maxRecDepth 65536 in
set_option maxHeartbeats 40000000 in
theorem rmA58 (l : Launch) (Z : State) (a0 : Array Value) (hw : ∀ d ∈ tables_1, d.before a0 Z = true) (ws : List Jvm.Cond) (o0 : Addr) (y1 : Int64) (y2 : Int64) (h0 : Heap) (n0 : Nat) (Z0 : n0 ≤ h0.size) (F_o0_next : Fld Z h0 o0 cn2 "next" "J" (.long y1)) (F_o0_width : Fld Z h0 o0 cn2 "width" "J" (.long y2)) (hq2 : ¬ (y2 = (0 : Int64))) (hq3 : y1 < (((9223372036854775807 : Int64) / y2) - (1 : Int64))) :
    MetFree l mn2 (head1 (Jvm.Cond.code mn2 prog_49_method_7_code 1 (some .long) :: ws) ({ frames := 0, cells := 0, slots := 0, locals := 0 } : Room)) (fun a U => a = #[(.ref o0)] ∧ Z.Warmed39 U.vm ∧ U.heap = h0) (fun _ _ _ _ _ => True) (fun _ U oc_ U' => ∃ v L, oc_ = .returned v ∧ QA58 Z o0 y1 y2 h0 n0 v U'.heap L ∧ FrameEnd U oc_ U' L ({ frames := 0, cells := 0, slots := 0, locals := 0 } : Room).cells ({ frames := 0, cells := 0, slots := 0, locals := 0 } : Room).slots) := by
  refine MetFree.of_bodySF (plainFor_of_name pn_com_example_strict_limiter_strictlimiter_SweepSchedule) hisR ?_
  intro p e s m args below meth c s₁ Bd hml0 hP hK
  obtain ⟨rfl, hZ, hh⟩ := hP
  have hx := Bd.exec
  have hby := Bd.bytes
  have hml : c.maxLocals = 1 := hml0
  have hown : s.vm.findClass cn2 = some m.cls := findClass_of_methodNamed Bd.named
  have hnm := (name_of_methodNamed Bd.named Bd.method).1
  have X0 : Stand p l e ({ frames := 0, cells := 0, slots := 0, locals := 0 } : Room) s m #[(.ref o0)] below meth c s₁ [] 0 0 := Stand.of_body Bd
  have e0 : s₁.heap = h0 := by rw [← hh, Bd.state]; rfl
  have N0 := Fr.nil n0
  have pre0 : ∀ t, Steps p.tables e below (s₁.setTop (mkF m 0 #[.val (.ref o0)] [])) t → Steps p.tables e below (s₁.setTop (entryFrame m #[(.ref o0)] 1)) t := fun t k => castTop (efa_prog_49_method_7_code_v m o0) k
  obtain ⟨T1, X1, e1, st1⟩ := getF X0 hx hZ hown (host := "") (Or.inl (wd74 hw)) Via.refl e0 F_o0_next (g := (mkF m 1 #[.val (.ref o0)] [(.ref o0)])) rfl rfl (hb hby dd_prog_49_method_7_code_1)
  obtain ⟨T2, X2, e2, st2⟩ := getF X1 hx hZ hown (host := "") (Or.inl (wd38 hw)) Via.refl e1 F_o0_width (g := (mkF m 8 #[.val (.ref o0)] [(.ref o0), (.long (9223372036854775807 : Int64)), (.long y1)])) rfl rfl (hb hby dd_prog_49_method_7_code_8)
  obtain ⟨T3, X3, e3, st3⟩ := getF X2 hx hZ hown (host := "") (Or.inl (wd74 hw)) Via.refl e2 F_o0_next (g := (mkF m 25 #[.val (.ref o0)] [(.ref o0)])) rfl rfl (hb hby dd_prog_49_method_7_code_25)
  obtain ⟨T4, X4, e4, st4⟩ := getF X3 hx hZ hown (host := "") (Or.inl (wd38 hw)) Via.refl e3 F_o0_width (g := (mkF m 31 #[.val (.ref o0)] [(.ref o0), (.long (y1 + (1 : Int64)))])) rfl rfl (hb hby dd_prog_49_method_7_code_31)
  obtain ⟨lfs, lhr, lhrun, lhended, lhW, lhsame⟩ := X4.leave (v := some (.long ((y1 + (1 : Int64)) * y2))) (fun h => by rw [Bd.returns] at h; cases h)
  refine ⟨_, _, pre0 _ ?_, lhrun, lhended, _, _, rfl, ?_, ⟨_, rfl⟩, lhW, lhsame.mono (by decide) (by decide)⟩
  · skip
    show Steps p.tables e below (s₁.setTop (mkF m 0 #[.val (.ref o0)] [])) _
    refine XS.aloadN X0.here hx rfl (hb hby dd_prog_49_method_7_code_0) rfl rfl ?_
    show Steps p.tables e below (s₁.setTop (mkF m 1 #[.val (.ref o0)] [(.ref o0)])) _
    refine st1 _ ?_
    show Steps p.tables e below (T1.setTop (mkF m 4 #[.val (.ref o0)] [(.long y1)])) _
    refine X1.ldc2Long hx hown (mvT hZ (wd82 hw)) (g := (mkF m 4 #[.val (.ref o0)] [(.long y1)])) rfl (hb hby dd_prog_49_method_7_code_4) _ ?_
    refine XS.aloadN X1.here hx rfl (hb hby dd_prog_49_method_7_code_7) rfl rfl ?_
    show Steps p.tables e below (T1.setTop (mkF m 8 #[.val (.ref o0)] [(.ref o0), (.long (9223372036854775807 : Int64)), (.long y1)])) _
    refine st2 _ ?_
    show Steps p.tables e below (T2.setTop (mkF m 11 #[.val (.ref o0)] [(.long y2), (.long (9223372036854775807 : Int64)), (.long y1)])) _
    refine XS.ldiv X2.here hx rfl (hb hby dd_prog_49_method_7_code_11) rfl hq2 ?_
    refine XS.lconst X2.here hx rfl (hb hby dd_prog_49_method_7_code_12) ?_
    refine XS.lsub X2.here hx rfl (hb hby dd_prog_49_method_7_code_13) rfl ?_
    show Steps p.tables e below (T2.setTop (mkF m 14 #[.val (.ref o0)] [(.long (((9223372036854775807 : Int64) / y2) - (1 : Int64))), (.long y1)])) _
    refine XS.lcmp X2.here hx rfl (hb hby dd_prog_49_method_7_code_14) rfl ?_
    refine XS.ifYes X2.here hx rfl (pc0 := 15) (pc' := 24) rfl (hb hby dd_prog_49_method_7_code_15) rfl ((if0 _ _).trans (tlt ((lw_lt y1 (((9223372036854775807 : Int64) / y2) - (1 : Int64))).mpr hq3)).1) (by decide) (by decide) ?_
    refine XS.aloadN X2.here hx rfl (hb hby dd_prog_49_method_7_code_24) rfl rfl ?_
    show Steps p.tables e below (T2.setTop (mkF m 25 #[.val (.ref o0)] [(.ref o0)])) _
    refine st3 _ ?_
    show Steps p.tables e below (T3.setTop (mkF m 28 #[.val (.ref o0)] [(.long y1)])) _
    refine XS.lconst X3.here hx rfl (hb hby dd_prog_49_method_7_code_28) ?_
    refine XS.ladd X3.here hx rfl (hb hby dd_prog_49_method_7_code_29) rfl ?_
    show Steps p.tables e below (T3.setTop (mkF m 30 #[.val (.ref o0)] [(.long (y1 + (1 : Int64)))])) _
    refine XS.aloadN X3.here hx rfl (hb hby dd_prog_49_method_7_code_30) rfl rfl ?_
    show Steps p.tables e below (T3.setTop (mkF m 31 #[.val (.ref o0)] [(.ref o0), (.long (y1 + (1 : Int64)))])) _
    refine st4 _ ?_
    show Steps p.tables e below (T4.setTop (mkF m 34 #[.val (.ref o0)] [(.long y2), (.long (y1 + (1 : Int64)))])) _
    refine XS.lmul X4.here hx rfl (hb hby dd_prog_49_method_7_code_34) rfl ?_
    show Steps p.tables e below (T4.setTop (mkF m 35 #[.val (.ref o0)] [(.long ((y1 + (1 : Int64)) * y2))])) _
    exact retOut X4 hx Bd.returns rfl (Or.inr (Or.inl ⟨rfl, rfl, _, rfl⟩)) (hb hby dd_prog_49_method_7_code_35) lhr
  · skip
    show QA58 Z o0 y1 y2 h0 n0 _ T4.heap _
    rw [e4]
    exact ⟨rfl, N0, rfl⟩
theorem ef_0 (m : MethodId) (x0 : Int64) (x1 : Int64) (x2 : Int64) (x3 : Int32) : entryFrame m #[(.long x0), (.long x1), (.long x2), (.int x3)] maxLocals = mkF m 0 #[.val (.long x0), .second, .val (.long x1), .second, .val (.long x2), .second, .val (.int x3), .unset, .unset, .unset, .unset, .unset, .unset, .unset, .unset, .unset, .unset, .unset, .unset, .unset, .unset, .unset, .unset, .unset] [] := by first | (simp [entryFrame, mkF, argsToLocals, Value.category, maxLocals]; done) | rfl
def Q0 (Z : State) (yw : Int64) (ya : Int64) (yb : Int64) (xm : Int32) (h0 : Heap) (n0 : Nat) (v : Option Value) (h : Heap) (L : List Loc) : Prop := v = some (.int 1) ∧ Fr n0 L
set_option maxRecDepth 65536 in
set_option maxHeartbeats 40000000 in
theorem rm0 (l : Launch) (Z : State) (a0 : Array Value) (hw : ∀ d ∈ tables_1, d.before a0 Z = true) (ws : List Jvm.Cond) (yw : Int64) (ya : Int64) (yb : Int64) (xm : Int32) (h0 : Heap) (n0 : Nat) (Z0 : n0 ≤ h0.size) (X00 : Old Z n0 h0) :
    MetFree l x (head1 (Jvm.Cond.code x code maxLocals ret :: ws) room_1) (fun a U => a = #[(.long yw), (.long ya), (.long yb), (.int xm)] ∧ Z.Warmed39 U.vm ∧ U.heap = h0) (fun _ _ _ _ _ => True) (fun _ U oc_ U' => ∃ v L, oc_ = .returned v ∧ Q0 Z yw ya yb xm h0 n0 v U'.heap L ∧ FrameEnd U oc_ U' L 40 448) := by
  refine MetFree.of_bodySF (plainFor_of_name pn_com_example_strict_limiter_strictlimiter_SweepSchedulePassesAtPinLaw) hisR ?_
  intro p e s m args below meth c s₁ Bd hml0 hP hK
  obtain ⟨rfl, hZ, hh⟩ := hP
  have hx := Bd.exec
  have hby := Bd.bytes
  have hml : c.maxLocals = 24 := hml0
  have hown : s.vm.findClass "com/example/strict_limiter/strictlimiter/SweepSchedulePassesAtPinLaw" = some m.cls := findClass_of_methodNamed Bd.named
  have hnm := (name_of_methodNamed Bd.named Bd.method).1
  have X0 : Stand p l e room_1 s m #[(.long yw), (.long ya), (.long yb), (.int xm)] below meth c s₁ [] 0 0 := Stand.of_body Bd
  have e0 : s₁.heap = h0 := by rw [← hh, Bd.state]; rfl
  have N0 := Fr.nil n0
  have pre0 : ∀ t, Steps p.tables e below (s₁.setTop (mkF m 0 #[.val (.long yw), .second, .val (.long ya), .second, .val (.long yb), .second, .val (.int xm), .unset, .unset, .unset, .unset, .unset, .unset, .unset, .unset, .unset, .unset, .unset, .unset, .unset, .unset, .unset, .unset, .unset] [])) t → Steps p.tables e below (s₁.setTop (entryFrame m #[(.long yw), (.long ya), (.long yb), (.int xm)] maxLocals)) t := fun t k => castTop (ef_0 m yw ya yb xm) k
  obtain ⟨_, _, ⟨T1, L1, kc1, ks1⟩, -, X1, ⟨Lc1, hQ1, l1, y1, z1⟩, st1⟩ := Jvm.LawKit.callS X0 hx (y := mn6) hown (mvT hZ (wd1 hw)) (mvT hZ (wd2 hw)) (mvT hZ (wd3 hw)) (mvT hZ (wd4 hw)) (by decide) (backOf (W := 0) (rmMaxJ l Z a0 hw [] (1 : Int64) (yw &&& (9223372036854775807 : Int64)) h0 n0 Z0) hZ (wd4 hw) (wd3 hw) (by decide) (by decide)) (g := (mkF m 6 #[.val (.long yw), .second, .val (.long ya), .second, .val (.long yb), .second, .val (.int xm), .unset, .unset, .unset, .unset, .unset, .unset, .unset, .unset, .unset, .unset, .unset, .unset, .unset, .unset, .unset, .unset, .unset] [(.long (yw &&& (9223372036854775807 : Int64))), (.long (1 : Int64))])) rfl (by rw [hml]; rfl) (argsL := [(.long (1 : Int64)), (.long (yw &&& (9223372036854775807 : Int64)))]) (rest := []) (lenOf pd__JJ_J rfl) rfl (by show 2 * 0 + _ ≤ _; exact Nat.le_of_eq rfl) (hb hby at_6) (fun _ _ => ⟨rfl, e0, (by decide : 0 + 0 ≤ _), (by decide : 0 + 0 ≤ _)⟩)
  dsimp only [Pt.U, Pt.locs, Pt.cells, Pt.slots] at X1 l1 y1 z1 st1 hQ1
  subst l1 y1 z1
  obtain ⟨rfl, Nq1, eq1⟩ := hQ1
  have N1 := Fr.app N0 Nq1
  have k2 : ∀ t, Steps p.tables e below (T1.setTop (mkF m 11 #[.val (.long yw), .second, .val (.long ya), .second, .val (.long yb), .second, .val (.int xm), .val (.long (own_maxL (1 : Int64) (yw &&& (9223372036854775807 : Int64)))), .second, .unset, .unset, .unset, .unset, .unset, .unset, .unset, .unset, .unset, .unset, .unset, .unset, .unset, .unset, .unset] [])) t → Steps p.tables e below (s₁.setTop (entryFrame m #[(.long yw), (.long ya), (.long yb), (.int xm)] maxLocals)) t := by
    intro t kt
    refine pre0 t ?_
    show Steps p.tables e below (s₁.setTop (mkF m 0 #[.val (.long yw), .second, .val (.long ya), .second, .val (.long yb), .second, .val (.int xm), .unset, .unset, .unset, .unset, .unset, .unset, .unset, .unset, .unset, .unset, .unset, .unset, .unset, .unset, .unset, .unset, .unset] [])) _
    refine XS.lconst X0.here hx rfl (hb hby at_0) ?_
    refine XS.lloadN X0.here hx rfl (hb hby at_1) rfl ?_
    show Steps p.tables e below (s₁.setTop (mkF m 2 #[.val (.long yw), .second, .val (.long ya), .second, .val (.long yb), .second, .val (.int xm), .unset, .unset, .unset, .unset, .unset, .unset, .unset, .unset, .unset, .unset, .unset, .unset, .unset, .unset, .unset, .unset, .unset] [(.long yw), (.long (1 : Int64))])) _
    refine X0.ldc2Long hx hown (mvT hZ (wd0 hw)) (g := (mkF m 2 #[.val (.long yw), .second, .val (.long ya), .second, .val (.long yb), .second, .val (.int xm), .unset, .unset, .unset, .unset, .unset, .unset, .unset, .unset, .unset, .unset, .unset, .unset, .unset, .unset, .unset, .unset, .unset] [(.long yw), (.long (1 : Int64))])) rfl (hb hby at_2) _ ?_
    refine XS.land X0.here hx rfl (hb hby at_5) rfl ?_
    show Steps p.tables e below (s₁.setTop (mkF m 6 #[.val (.long yw), .second, .val (.long ya), .second, .val (.long yb), .second, .val (.int xm), .unset, .unset, .unset, .unset, .unset, .unset, .unset, .unset, .unset, .unset, .unset, .unset, .unset, .unset, .unset, .unset, .unset] [(.long (yw &&& (9223372036854775807 : Int64))), (.long (1 : Int64))])) _
    refine st1 _ ?_
    show Steps p.tables e below (T1.setTop (mkF m 9 #[.val (.long yw), .second, .val (.long ya), .second, .val (.long yb), .second, .val (.int xm), .unset, .unset, .unset, .unset, .unset, .unset, .unset, .unset, .unset, .unset, .unset, .unset, .unset, .unset, .unset, .unset, .unset] [(.long (own_maxL (1 : Int64) (yw &&& (9223372036854775807 : Int64))))])) _
    refine XS.lstore X1.here hx rfl (hb hby at_9) rfl (l' := #[.val (.long yw), .second, .val (.long ya), .second, .val (.long yb), .second, .val (.int xm), .val (.long (own_maxL (1 : Int64) (yw &&& (9223372036854775807 : Int64)))), .second, .unset, .unset, .unset, .unset, .unset, .unset, .unset, .unset, .unset, .unset, .unset, .unset, .unset, .unset, .unset]) rfl ?_
    exact kt
  obtain ⟨wd, h_wd⟩ : ∃ z : Int64, z = (own_maxL (1 : Int64) (yw &&& (9223372036854775807 : Int64))) := ⟨_, rfl⟩
  rw [← h_wd] at k2
  have hwd : 1 ≤ wd.toInt := by
    have q := own_maxLI 1 (yw &&& 9223372036854775807); have o1 : (1 : Int64).toInt = 1 := rfl; rw [h_wd]; omega
  have hw0 : ¬ wd = (0 : Int64) := fun q => by have := congrArg Int64.toInt q; have o0 : (0 : Int64).toInt = 0 := rfl; omega
  have k3 : ∀ t, Steps p.tables e below (T1.setTop (mkF m 22 #[.val (.long yw), .second, .val (.long ya), .second, .val (.long yb), .second, .val (.int xm), .val (.long wd), .second, .val (.long (ya &&& (9223372036854775807 : Int64))), .second, .unset, .unset, .unset, .unset, .unset, .unset, .unset, .unset, .unset, .unset, .unset, .unset, .unset] [(.int (xm &&& (2 : Int32)))])) t → Steps p.tables e below (s₁.setTop (entryFrame m #[(.long yw), (.long ya), (.long yb), (.int xm)] maxLocals)) t := by
    intro t kt
    refine k2 t ?_
    show Steps p.tables e below (T1.setTop (mkF m 11 #[.val (.long yw), .second, .val (.long ya), .second, .val (.long yb), .second, .val (.int xm), .val (.long wd), .second, .unset, .unset, .unset, .unset, .unset, .unset, .unset, .unset, .unset, .unset, .unset, .unset, .unset, .unset, .unset] [])) _
    refine XS.lloadN X1.here hx rfl (hb hby at_11) rfl ?_
    refine X1.ldc2Long hx hown (mvT hZ (wd0 hw)) (g := (mkF m 12 #[.val (.long yw), .second, .val (.long ya), .second, .val (.long yb), .second, .val (.int xm), .val (.long wd), .second, .unset, .unset, .unset, .unset, .unset, .unset, .unset, .unset, .unset, .unset, .unset, .unset, .unset, .unset, .unset] [(.long ya)])) rfl (hb hby at_12) _ ?_
    show Steps p.tables e below (T1.setTop (mkF m 15 #[.val (.long yw), .second, .val (.long ya), .second, .val (.long yb), .second, .val (.int xm), .val (.long wd), .second, .unset, .unset, .unset, .unset, .unset, .unset, .unset, .unset, .unset, .unset, .unset, .unset, .unset, .unset, .unset] [(.long (9223372036854775807 : Int64)), (.long ya)])) _
    refine XS.land X1.here hx rfl (hb hby at_15) rfl ?_
    refine XS.lstore X1.here hx rfl (hb hby at_16) rfl (l' := #[.val (.long yw), .second, .val (.long ya), .second, .val (.long yb), .second, .val (.int xm), .val (.long wd), .second, .val (.long (ya &&& (9223372036854775807 : Int64))), .second, .unset, .unset, .unset, .unset, .unset, .unset, .unset, .unset, .unset, .unset, .unset, .unset, .unset]) rfl ?_
    refine XS.iload X1.here hx rfl (hb hby at_18) rfl ?_
    show Steps p.tables e below (T1.setTop (mkF m 20 #[.val (.long yw), .second, .val (.long ya), .second, .val (.long yb), .second, .val (.int xm), .val (.long wd), .second, .val (.long (ya &&& (9223372036854775807 : Int64))), .second, .unset, .unset, .unset, .unset, .unset, .unset, .unset, .unset, .unset, .unset, .unset, .unset, .unset] [(.int xm)])) _
    refine XS.iconst X1.here hx rfl (hb hby at_20) ?_
    refine XS.iand X1.here hx rfl (hb hby at_21) rfl ?_
    exact kt
  obtain ⟨ra, hj4, k4⟩ : ∃ (ra : Int64), (0 ≤ ra.toInt) ∧ ∀ t, Steps p.tables e below (T1.setTop (mkF m 36 #[.val (.long yw), .second, .val (.long ya), .second, .val (.long yb), .second, .val (.int xm), .val (.long wd), .second, .val (.long ra), .second, .unset, .unset, .unset, .unset, .unset, .unset, .unset, .unset, .unset, .unset, .unset, .unset, .unset] [])) t → Steps p.tables e below (s₁.setTop (entryFrame m #[(.long yw), (.long ya), (.long yb), (.int xm)] maxLocals)) t := by
    by_cases hc5 : (xm &&& (2 : Int32)) = (0 : Int32)
    · skip
      have k6 : ∀ t, Steps p.tables e below (T1.setTop (mkF m 36 #[.val (.long yw), .second, .val (.long ya), .second, .val (.long yb), .second, .val (.int xm), .val (.long wd), .second, .val (.long (ya &&& (9223372036854775807 : Int64))), .second, .unset, .unset, .unset, .unset, .unset, .unset, .unset, .unset, .unset, .unset, .unset, .unset, .unset] [])) t → Steps p.tables e below (s₁.setTop (entryFrame m #[(.long yw), (.long ya), (.long yb), (.int xm)] maxLocals)) t := by
        intro t kt
        refine k3 t ?_
        show Steps p.tables e below (T1.setTop (mkF m 22 #[.val (.long yw), .second, .val (.long ya), .second, .val (.long yb), .second, .val (.int xm), .val (.long wd), .second, .val (.long (ya &&& (9223372036854775807 : Int64))), .second, .unset, .unset, .unset, .unset, .unset, .unset, .unset, .unset, .unset, .unset, .unset, .unset, .unset] [(.int (xm &&& (2 : Int32)))])) _
        refine XS.ifYes X1.here hx rfl (pc0 := 22) (pc' := 36) rfl (hb hby at_22) rfl ((if0 _ _).trans (teq hc5).1) (by decide) (by decide) ?_
        exact kt
      exact ⟨(ya &&& (9223372036854775807 : Int64)), (own_m63 ya), k6⟩
    · skip
      have k7 : ∀ t, Steps p.tables e below (T1.setTop (mkF m 36 #[.val (.long yw), .second, .val (.long ya), .second, .val (.long yb), .second, .val (.int xm), .val (.long wd), .second, .val (.long ((9223372036854775807 : Int64) - (ya &&& (4294967295 : Int64)))), .second, .unset, .unset, .unset, .unset, .unset, .unset, .unset, .unset, .unset, .unset, .unset, .unset, .unset] [])) t → Steps p.tables e below (s₁.setTop (entryFrame m #[(.long yw), (.long ya), (.long yb), (.int xm)] maxLocals)) t := by
        intro t kt
        refine k3 t ?_
        show Steps p.tables e below (T1.setTop (mkF m 22 #[.val (.long yw), .second, .val (.long ya), .second, .val (.long yb), .second, .val (.int xm), .val (.long wd), .second, .val (.long (ya &&& (9223372036854775807 : Int64))), .second, .unset, .unset, .unset, .unset, .unset, .unset, .unset, .unset, .unset, .unset, .unset, .unset, .unset] [(.int (xm &&& (2 : Int32)))])) _
        refine XS.ifNo X1.here hx rfl (hb hby at_22) rfl ((if0 _ _).trans (feq hc5).1) ?_
        show Steps p.tables e below (T1.setTop (mkF m 25 #[.val (.long yw), .second, .val (.long ya), .second, .val (.long yb), .second, .val (.int xm), .val (.long wd), .second, .val (.long (ya &&& (9223372036854775807 : Int64))), .second, .unset, .unset, .unset, .unset, .unset, .unset, .unset, .unset, .unset, .unset, .unset, .unset, .unset] [])) _
        refine X1.ldc2Long hx hown (mvT hZ (wd0 hw)) (g := (mkF m 25 #[.val (.long yw), .second, .val (.long ya), .second, .val (.long yb), .second, .val (.int xm), .val (.long wd), .second, .val (.long (ya &&& (9223372036854775807 : Int64))), .second, .unset, .unset, .unset, .unset, .unset, .unset, .unset, .unset, .unset, .unset, .unset, .unset, .unset] [])) rfl (hb hby at_25) _ ?_
        refine XS.lloadN X1.here hx rfl (hb hby at_28) rfl ?_
        refine X1.ldc2Long hx hown (mvT hZ (wd5 hw)) (g := (mkF m 29 #[.val (.long yw), .second, .val (.long ya), .second, .val (.long yb), .second, .val (.int xm), .val (.long wd), .second, .val (.long (ya &&& (9223372036854775807 : Int64))), .second, .unset, .unset, .unset, .unset, .unset, .unset, .unset, .unset, .unset, .unset, .unset, .unset, .unset] [(.long ya), (.long (9223372036854775807 : Int64))])) rfl (hb hby at_29) _ ?_
        show Steps p.tables e below (T1.setTop (mkF m 32 #[.val (.long yw), .second, .val (.long ya), .second, .val (.long yb), .second, .val (.int xm), .val (.long wd), .second, .val (.long (ya &&& (9223372036854775807 : Int64))), .second, .unset, .unset, .unset, .unset, .unset, .unset, .unset, .unset, .unset, .unset, .unset, .unset, .unset] [(.long (4294967295 : Int64)), (.long ya), (.long (9223372036854775807 : Int64))])) _
        refine XS.land X1.here hx rfl (hb hby at_32) rfl ?_
        refine XS.lsub X1.here hx rfl (hb hby at_33) rfl ?_
        refine XS.lstore X1.here hx rfl (hb hby at_34) rfl (l' := #[.val (.long yw), .second, .val (.long ya), .second, .val (.long yb), .second, .val (.int xm), .val (.long wd), .second, .val (.long ((9223372036854775807 : Int64) - (ya &&& (4294967295 : Int64)))), .second, .unset, .unset, .unset, .unset, .unset, .unset, .unset, .unset, .unset, .unset, .unset, .unset, .unset]) rfl ?_
        exact kt
      exact ⟨((9223372036854775807 : Int64) - (ya &&& (4294967295 : Int64))), (own_m32 ya), k7⟩
  obtain ⟨_, _, ⟨T8, L8, kc8, ks8⟩, -, X8, ⟨Lc8, hQ8, l8, y8, z8⟩, st8⟩ := Jvm.LawKit.callS X1 hx (y := mn7) hown (mvT hZ (wd6 hw)) (mvT hZ (wd7 hw)) (mvT hZ (wd3 hw)) (mvT hZ (wd8 hw)) (by decide) (backOf (W := 0) (rmMinJ l Z a0 hw [] ra (yb &&& (9223372036854775807 : Int64)) h0 n0 Z0) hZ (wd8 hw) (wd3 hw) (by decide) (by decide)) (g := (mkF m 48 #[.val (.long yw), .second, .val (.long ya), .second, .val (.long yb), .second, .val (.int xm), .val (.long wd), .second, .val (.long ra), .second, .val (.long (yb &&& (9223372036854775807 : Int64))), .second, .unset, .unset, .unset, .unset, .unset, .unset, .unset, .unset, .unset, .unset, .unset] [(.long (yb &&& (9223372036854775807 : Int64))), (.long ra)])) rfl (by rw [hml]; rfl) (argsL := [(.long ra), (.long (yb &&& (9223372036854775807 : Int64)))]) (rest := []) (lenOf pd__JJ_J rfl) rfl (by show 2 * 0 + _ ≤ _; exact Nat.le_of_eq rfl) (hb hby at_48) (fun _ _ => ⟨rfl, eq1, (by decide : 0 + 0 ≤ _), (by decide : 0 + 0 ≤ _)⟩)
  dsimp only [Pt.U, Pt.locs, Pt.cells, Pt.slots] at X8 l8 y8 z8 st8 hQ8
  subst l8 y8 z8
  obtain ⟨rfl, Nq8, eq8⟩ := hQ8
  have N8 := Fr.app N1 Nq8
  obtain ⟨_, _, ⟨T9, L9, kc9, ks9⟩, -, X9, ⟨Lc9, hQ9, l9, y9, z9⟩, st9⟩ := Jvm.LawKit.callS X8 hx (y := mn6) hown (mvT hZ (wd1 hw)) (mvT hZ (wd2 hw)) (mvT hZ (wd3 hw)) (mvT hZ (wd4 hw)) (by decide) (backOf (W := 0) (rmMaxJ l Z a0 hw [] ra (yb &&& (9223372036854775807 : Int64)) h0 n0 Z0) hZ (wd4 hw) (wd3 hw) (by decide) (by decide)) (g := (mkF m 57 #[.val (.long yw), .second, .val (.long ya), .second, .val (.long yb), .second, .val (.int xm), .val (.long wd), .second, .val (.long ra), .second, .val (.long (yb &&& (9223372036854775807 : Int64))), .second, .val (.long (own_minL ra (yb &&& (9223372036854775807 : Int64)))), .second, .unset, .unset, .unset, .unset, .unset, .unset, .unset, .unset, .unset] [(.long (yb &&& (9223372036854775807 : Int64))), (.long ra)])) rfl (by rw [hml]; rfl) (argsL := [(.long ra), (.long (yb &&& (9223372036854775807 : Int64)))]) (rest := []) (lenOf pd__JJ_J rfl) rfl (by show 2 * 0 + _ ≤ _; exact Nat.le_of_eq rfl) (hb hby at_57) (fun _ _ => ⟨rfl, eq8, (by decide : 0 + 0 ≤ _), (by decide : 0 + 0 ≤ _)⟩)
  dsimp only [Pt.U, Pt.locs, Pt.cells, Pt.slots] at X9 l9 y9 z9 st9 hQ9
  subst l9 y9 z9
  obtain ⟨rfl, Nq9, eq9⟩ := hQ9
  have N9 := Fr.app N8 Nq9
  have k10 : ∀ t, Steps p.tables e below (T9.setTop (mkF m 62 #[.val (.long yw), .second, .val (.long ya), .second, .val (.long yb), .second, .val (.int xm), .val (.long wd), .second, .val (.long ra), .second, .val (.long (yb &&& (9223372036854775807 : Int64))), .second, .val (.long (own_minL ra (yb &&& (9223372036854775807 : Int64)))), .second, .val (.long (own_maxL ra (yb &&& (9223372036854775807 : Int64)))), .second, .unset, .unset, .unset, .unset, .unset, .unset, .unset] [])) t → Steps p.tables e below (s₁.setTop (entryFrame m #[(.long yw), (.long ya), (.long yb), (.int xm)] maxLocals)) t := by
    intro t kt
    refine k4 t ?_
    show Steps p.tables e below (T1.setTop (mkF m 36 #[.val (.long yw), .second, .val (.long ya), .second, .val (.long yb), .second, .val (.int xm), .val (.long wd), .second, .val (.long ra), .second, .unset, .unset, .unset, .unset, .unset, .unset, .unset, .unset, .unset, .unset, .unset, .unset, .unset] [])) _
    refine XS.lload X1.here hx rfl (hb hby at_36) rfl ?_
    show Steps p.tables e below (T1.setTop (mkF m 38 #[.val (.long yw), .second, .val (.long ya), .second, .val (.long yb), .second, .val (.int xm), .val (.long wd), .second, .val (.long ra), .second, .unset, .unset, .unset, .unset, .unset, .unset, .unset, .unset, .unset, .unset, .unset, .unset, .unset] [(.long yb)])) _
    refine X1.ldc2Long hx hown (mvT hZ (wd0 hw)) (g := (mkF m 38 #[.val (.long yw), .second, .val (.long ya), .second, .val (.long yb), .second, .val (.int xm), .val (.long wd), .second, .val (.long ra), .second, .unset, .unset, .unset, .unset, .unset, .unset, .unset, .unset, .unset, .unset, .unset, .unset, .unset] [(.long yb)])) rfl (hb hby at_38) _ ?_
    refine XS.land X1.here hx rfl (hb hby at_41) rfl ?_
    refine XS.lstore X1.here hx rfl (hb hby at_42) rfl (l' := #[.val (.long yw), .second, .val (.long ya), .second, .val (.long yb), .second, .val (.int xm), .val (.long wd), .second, .val (.long ra), .second, .val (.long (yb &&& (9223372036854775807 : Int64))), .second, .unset, .unset, .unset, .unset, .unset, .unset, .unset, .unset, .unset, .unset, .unset]) rfl ?_
    show Steps p.tables e below (T1.setTop (mkF m 44 #[.val (.long yw), .second, .val (.long ya), .second, .val (.long yb), .second, .val (.int xm), .val (.long wd), .second, .val (.long ra), .second, .val (.long (yb &&& (9223372036854775807 : Int64))), .second, .unset, .unset, .unset, .unset, .unset, .unset, .unset, .unset, .unset, .unset, .unset] [])) _
    refine XS.lload X1.here hx rfl (hb hby at_44) rfl ?_
    refine XS.lload X1.here hx rfl (hb hby at_46) rfl ?_
    show Steps p.tables e below (T1.setTop (mkF m 48 #[.val (.long yw), .second, .val (.long ya), .second, .val (.long yb), .second, .val (.int xm), .val (.long wd), .second, .val (.long ra), .second, .val (.long (yb &&& (9223372036854775807 : Int64))), .second, .unset, .unset, .unset, .unset, .unset, .unset, .unset, .unset, .unset, .unset, .unset] [(.long (yb &&& (9223372036854775807 : Int64))), (.long ra)])) _
    refine st8 _ ?_
    show Steps p.tables e below (T8.setTop (mkF m 51 #[.val (.long yw), .second, .val (.long ya), .second, .val (.long yb), .second, .val (.int xm), .val (.long wd), .second, .val (.long ra), .second, .val (.long (yb &&& (9223372036854775807 : Int64))), .second, .unset, .unset, .unset, .unset, .unset, .unset, .unset, .unset, .unset, .unset, .unset] [(.long (own_minL ra (yb &&& (9223372036854775807 : Int64))))])) _
    refine XS.lstore X8.here hx rfl (hb hby at_51) rfl (l' := #[.val (.long yw), .second, .val (.long ya), .second, .val (.long yb), .second, .val (.int xm), .val (.long wd), .second, .val (.long ra), .second, .val (.long (yb &&& (9223372036854775807 : Int64))), .second, .val (.long (own_minL ra (yb &&& (9223372036854775807 : Int64)))), .second, .unset, .unset, .unset, .unset, .unset, .unset, .unset, .unset, .unset]) rfl ?_
    refine XS.lload X8.here hx rfl (hb hby at_53) rfl ?_
    refine XS.lload X8.here hx rfl (hb hby at_55) rfl ?_
    show Steps p.tables e below (T8.setTop (mkF m 57 #[.val (.long yw), .second, .val (.long ya), .second, .val (.long yb), .second, .val (.int xm), .val (.long wd), .second, .val (.long ra), .second, .val (.long (yb &&& (9223372036854775807 : Int64))), .second, .val (.long (own_minL ra (yb &&& (9223372036854775807 : Int64)))), .second, .unset, .unset, .unset, .unset, .unset, .unset, .unset, .unset, .unset] [(.long (yb &&& (9223372036854775807 : Int64))), (.long ra)])) _
    refine st9 _ ?_
    show Steps p.tables e below (T9.setTop (mkF m 60 #[.val (.long yw), .second, .val (.long ya), .second, .val (.long yb), .second, .val (.int xm), .val (.long wd), .second, .val (.long ra), .second, .val (.long (yb &&& (9223372036854775807 : Int64))), .second, .val (.long (own_minL ra (yb &&& (9223372036854775807 : Int64)))), .second, .unset, .unset, .unset, .unset, .unset, .unset, .unset, .unset, .unset] [(.long (own_maxL ra (yb &&& (9223372036854775807 : Int64))))])) _
    refine XS.lstore X9.here hx rfl (hb hby at_60) rfl (l' := #[.val (.long yw), .second, .val (.long ya), .second, .val (.long yb), .second, .val (.int xm), .val (.long wd), .second, .val (.long ra), .second, .val (.long (yb &&& (9223372036854775807 : Int64))), .second, .val (.long (own_minL ra (yb &&& (9223372036854775807 : Int64)))), .second, .val (.long (own_maxL ra (yb &&& (9223372036854775807 : Int64)))), .second, .unset, .unset, .unset, .unset, .unset, .unset, .unset]) rfl ?_
    exact kt
  obtain ⟨lo, h_lo⟩ : ∃ z : Int64, z = (own_minL ra (yb &&& (9223372036854775807 : Int64))) := ⟨_, rfl⟩
  rw [← h_lo] at k10
  obtain ⟨hi, h_hi⟩ : ∃ z : Int64, z = (own_maxL ra (yb &&& (9223372036854775807 : Int64))) := ⟨_, rfl⟩
  rw [← h_hi] at k10
  have hlo : 0 ≤ lo.toInt ∧ lo.toInt ≤ hi.toInt := by
    have q1 := own_minLI ra (yb &&& 9223372036854775807); have q2 := own_maxLI ra (yb &&& 9223372036854775807); have q3 := own_m63 yb; rw [h_lo, h_hi]; omega
  obtain ⟨T11, h11, X11, e11, E11, A11, D11, -, st11⟩ := newO X9 hx hZ hown (wd9 hw) (wd10 hw) (wd11 hw) eq9 (g := (mkF m 62 #[.val (.long yw), .second, .val (.long ya), .second, .val (.long yb), .second, .val (.int xm), .val (.long wd), .second, .val (.long ra), .second, .val (.long (yb &&& (9223372036854775807 : Int64))), .second, .val (.long lo), .second, .val (.long hi), .second, .unset, .unset, .unset, .unset, .unset, .unset, .unset] [])) rfl (hb hby at_62) (by decide) (by decide)
  obtain ⟨b11, g11⟩ : ∃ z, z = h0.size := ⟨_, rfl⟩
  rw [← g11] at A11 D11 st11
  have ge_b11 : n0 ≤ b11 := Nat.le_trans Z0 (Nat.le_of_eq g11.symm)
  have sz_b11 : h0.size ≤ b11 := Nat.le_trans (Nat.le_refl _) (Nat.le_of_eq g11.symm)
  have Z11 : n0 ≤ h11.size := Nat.le_trans Z0 E11.1
  have K11 : Keep h0 h11 [] := ((Keep.refl h0 []).ext E11)
  have F11_handedIn : Fld Z h11 b11 cn2 "handedIn" cn7 .null := D11 (Or.inr (wd26 hw)) (ty := (.object cn8)) (by decide)
  have F11_kept : Fld Z h11 b11 cn2 "kept" cn4 .null := D11 (Or.inr (wd30 hw)) (ty := (.array (.array (.object cn6)))) (by decide)
  have F11_sizes : Fld Z h11 b11 cn2 "sizes" "[I" .null := D11 (Or.inr (wd33 hw)) (ty := (.array .int)) (by decide)
  have F11_taken : Fld Z h11 b11 cn2 "taken" cn5 .null := D11 (Or.inl (wd37 hw)) (ty := (.array (.object cn6))) (by decide)
  have F11_width : Fld Z h11 b11 cn2 "width" "J" (.long (0 : Int64)) := D11 (Or.inr (wd39 hw)) (ty := .long) (by decide)
  have F11_handed : Fld Z h11 b11 cn2 "handed" "I" (.int (0 : Int32)) := D11 (Or.inl (wd47 hw)) (ty := .int) (by decide)
  have F11_takenSize : Fld Z h11 b11 cn2 "takenSize" "I" (.int (0 : Int32)) := D11 (Or.inl (wd49 hw)) (ty := .int) (by decide)
  have F11_total : Fld Z h11 b11 cn2 "total" "I" (.int (0 : Int32)) := D11 (Or.inl (wd55 hw)) (ty := .int) (by decide)
  have F11_next : Fld Z h11 b11 cn2 "next" "J" (.long (0 : Int64)) := D11 (Or.inl (wd75 hw)) (ty := .long) (by decide)
  obtain ⟨_, _, ⟨T12, L12, kc12, ks12⟩, -, X12, ⟨Lc12, hQ12, l12, y12, z12⟩, st12⟩ := X11.specialBack hx (y := mn0) rfl hown (mvT hZ (wd12 hw)) (mvT hZ (wd13 hw)) (mvT hZ (wd14 hw)) (by decide) (backOf (W := 1) (rmA1 l Z a0 hw [] b11 wd ((.int (0 : Int32))) ((.int (0 : Int32))) ((.int (0 : Int32))) ((.long (0 : Int64))) h11 n0 Z11 A11 F11_handedIn ge_b11 F11_kept F11_sizes F11_taken F11_width F11_handed F11_takenSize F11_total F11_next) hZ (wd14 hw) (wd11 hw) (by decide) (by decide)) (g := (mkF m 68 #[.val (.long yw), .second, .val (.long ya), .second, .val (.long yb), .second, .val (.int xm), .val (.long wd), .second, .val (.long ra), .second, .val (.long (yb &&& (9223372036854775807 : Int64))), .second, .val (.long lo), .second, .val (.long hi), .second, .unset, .unset, .unset, .unset, .unset, .unset, .unset] [(.long wd), (.ref b11), (.ref b11)])) rfl (by rw [hml]; rfl) (Steps.refl _) (a := b11) (argsL := [(.long wd)]) (rest := [(.ref b11)]) (lenOf pd__J_V rfl) rfl (by show 2 * 0 + _ ≤ _; exact Nat.le_of_eq rfl) (hb hby at_68) (fun _ _ => ⟨rfl, e11, (by decide : 1 + 12 ≤ _), (by decide : 10 + 161 ≤ _)⟩)
  dsimp only [Pt.U, Pt.locs, Pt.cells, Pt.slots] at X12 l12 y12 z12 st12 hQ12
  subst l12 y12 z12
  obtain ⟨b12_0, b12_1, b12_2, b12_3, b12_4, b12_5, b12_6, b12_7, b12_8, b12_9, b12_10, b12_11, kv12_12, kv12_13, kv12_14, kv12_15, kv12_16, kv12_17, kv12_18, kv12_19, kv12_20, kv12_21, kv12_22, rfl, Nq12, Kq12, sz12_0, sz12_1, sz12_2, sz12_3, sz12_4, sz12_5, sz12_6, sz12_7, sz12_8, sz12_9, sz12_10, sz12_11, g12_0, g12_1, g12_2, g12_3, g12_4, g12_5, g12_6, g12_7, g12_8, g12_9, g12_10, g12_11, g12_12, g12_13, g12_14, g12_15, g12_16, g12_17, g12_18, g12_19, g12_20, g12_21, g12_22, g12_23, g12_24, g12_25, g12_26, g12_27, g12_28, g12_29, g12_30, g12_31, g12_32, g12_33, g12_34, g12_35, g12_36, g12_37, g12_38, g12_39, g12_40, g12_41, g12_42, g12_43, g12_44, g12_45, g12_46, g12_47, g12_48, g12_49, g12_50, g12_51, g12_52, g12_53, g12_54, g12_55, g12_56, g12_57, g12_58, g12_59, g12_60, g12_61, g12_62, g12_63, g12_64, g12_65, g12_66, g12_67, g12_68, g12_69, g12_70, g12_71, g12_72, g12_73, g12_74, g12_75, g12_76, g12_77, g12_78, g12_79, g12_80, g12_81, g12_82, g12_83, g12_84, g12_85, g12_86, g12_87, g12_88, g12_89, g12_90, g12_91, g12_92, g12_93, g12_94, g12_95, g12_96, g12_97, g12_98, g12_99, g12_100, g12_101, g12_102, g12_103, g12_104, g12_105, g12_106, g12_107⟩ := hQ12
  have N12 := Fr.app N9 Nq12
  have Z12 : n0 ≤ T12.heap.size := Nat.le_trans Z11 Kq12.1
  have K12 : Keep h0 T12.heap [] := Keep.trans K11 Kq12 (allS (Or.inr sz_b11) all0)
  have ne_b11_b12_0 : b11 ≠ b12_0 := Nat.ne_of_lt (Nat.lt_of_lt_of_le A11.lt sz12_0)
  have ge_b12_0 : n0 ≤ b12_0 := Nat.le_trans Z11 sz12_0
  have sz_b12_0 : h0.size ≤ b12_0 := Nat.le_trans K11.1 sz12_0
  have ne_b11_b12_1 : b11 ≠ b12_1 := Nat.ne_of_lt (Nat.lt_of_lt_of_le A11.lt sz12_1)
  have ge_b12_1 : n0 ≤ b12_1 := Nat.le_trans Z11 sz12_1
  have sz_b12_1 : h0.size ≤ b12_1 := Nat.le_trans K11.1 sz12_1
  have ne_b11_b12_2 : b11 ≠ b12_2 := Nat.ne_of_lt (Nat.lt_of_lt_of_le A11.lt sz12_2)
  have ge_b12_2 : n0 ≤ b12_2 := Nat.le_trans Z11 sz12_2
  have sz_b12_2 : h0.size ≤ b12_2 := Nat.le_trans K11.1 sz12_2
  have ne_b11_b12_3 : b11 ≠ b12_3 := Nat.ne_of_lt (Nat.lt_of_lt_of_le A11.lt sz12_3)
  have ge_b12_3 : n0 ≤ b12_3 := Nat.le_trans Z11 sz12_3
  have sz_b12_3 : h0.size ≤ b12_3 := Nat.le_trans K11.1 sz12_3
  have ne_b11_b12_4 : b11 ≠ b12_4 := Nat.ne_of_lt (Nat.lt_of_lt_of_le A11.lt sz12_4)
  have ge_b12_4 : n0 ≤ b12_4 := Nat.le_trans Z11 sz12_4
  have sz_b12_4 : h0.size ≤ b12_4 := Nat.le_trans K11.1 sz12_4
  have ne_b11_b12_5 : b11 ≠ b12_5 := Nat.ne_of_lt (Nat.lt_of_lt_of_le A11.lt sz12_5)
  have ge_b12_5 : n0 ≤ b12_5 := Nat.le_trans Z11 sz12_5
  have sz_b12_5 : h0.size ≤ b12_5 := Nat.le_trans K11.1 sz12_5
  have ne_b11_b12_6 : b11 ≠ b12_6 := Nat.ne_of_lt (Nat.lt_of_lt_of_le A11.lt sz12_6)
  have ge_b12_6 : n0 ≤ b12_6 := Nat.le_trans Z11 sz12_6
  have sz_b12_6 : h0.size ≤ b12_6 := Nat.le_trans K11.1 sz12_6
  have ne_b11_b12_7 : b11 ≠ b12_7 := Nat.ne_of_lt (Nat.lt_of_lt_of_le A11.lt sz12_7)
  have ge_b12_7 : n0 ≤ b12_7 := Nat.le_trans Z11 sz12_7
  have sz_b12_7 : h0.size ≤ b12_7 := Nat.le_trans K11.1 sz12_7
  have ne_b11_b12_8 : b11 ≠ b12_8 := Nat.ne_of_lt (Nat.lt_of_lt_of_le A11.lt sz12_8)
  have ge_b12_8 : n0 ≤ b12_8 := Nat.le_trans Z11 sz12_8
  have sz_b12_8 : h0.size ≤ b12_8 := Nat.le_trans K11.1 sz12_8
  have ne_b11_b12_9 : b11 ≠ b12_9 := Nat.ne_of_lt (Nat.lt_of_lt_of_le A11.lt sz12_9)
  have ge_b12_9 : n0 ≤ b12_9 := Nat.le_trans Z11 sz12_9
  have sz_b12_9 : h0.size ≤ b12_9 := Nat.le_trans K11.1 sz12_9
  have ne_b11_b12_10 : b11 ≠ b12_10 := Nat.ne_of_lt (Nat.lt_of_lt_of_le A11.lt sz12_10)
  have ge_b12_10 : n0 ≤ b12_10 := Nat.le_trans Z11 sz12_10
  have sz_b12_10 : h0.size ≤ b12_10 := Nat.le_trans K11.1 sz12_10
  have ne_b11_b12_11 : b11 ≠ b12_11 := Nat.ne_of_lt (Nat.lt_of_lt_of_le A11.lt sz12_11)
  have ge_b12_11 : n0 ≤ b12_11 := Nat.le_trans Z11 sz12_11
  have sz_b12_11 : h0.size ≤ b12_11 := Nat.le_trans K11.1 sz12_11
  have k13 : ∀ t, Steps p.tables e below (T12.setTop (mkF m 80 #[.val (.long yw), .second, .val (.long ya), .second, .val (.long yb), .second, .val (.int xm), .val (.long wd), .second, .val (.long ra), .second, .val (.long (yb &&& (9223372036854775807 : Int64))), .second, .val (.long lo), .second, .val (.long hi), .second, .val (.ref b11), .val (.long (0 : Int64)), .second, .unset, .unset, .unset, .unset] [(.int (xm &&& (1 : Int32)))])) t → Steps p.tables e below (s₁.setTop (entryFrame m #[(.long yw), (.long ya), (.long yb), (.int xm)] maxLocals)) t := by
    intro t kt
    refine k10 t ?_
    show Steps p.tables e below (T9.setTop (mkF m 62 #[.val (.long yw), .second, .val (.long ya), .second, .val (.long yb), .second, .val (.int xm), .val (.long wd), .second, .val (.long ra), .second, .val (.long (yb &&& (9223372036854775807 : Int64))), .second, .val (.long lo), .second, .val (.long hi), .second, .unset, .unset, .unset, .unset, .unset, .unset, .unset] [])) _
    refine st11 _ ?_
    show Steps p.tables e below (T11.setTop (mkF m 65 #[.val (.long yw), .second, .val (.long ya), .second, .val (.long yb), .second, .val (.int xm), .val (.long wd), .second, .val (.long ra), .second, .val (.long (yb &&& (9223372036854775807 : Int64))), .second, .val (.long lo), .second, .val (.long hi), .second, .unset, .unset, .unset, .unset, .unset, .unset, .unset] [(.ref b11)])) _
    refine XS.dup X11.here hx rfl (hb hby at_65) rfl rfl ?_
    refine XS.lload X11.here hx rfl (hb hby at_66) rfl ?_
    show Steps p.tables e below (T11.setTop (mkF m 68 #[.val (.long yw), .second, .val (.long ya), .second, .val (.long yb), .second, .val (.int xm), .val (.long wd), .second, .val (.long ra), .second, .val (.long (yb &&& (9223372036854775807 : Int64))), .second, .val (.long lo), .second, .val (.long hi), .second, .unset, .unset, .unset, .unset, .unset, .unset, .unset] [(.long wd), (.ref b11), (.ref b11)])) _
    refine st12.trans ?_
    show Steps p.tables e below (T12.setTop (mkF m 71 #[.val (.long yw), .second, .val (.long ya), .second, .val (.long yb), .second, .val (.int xm), .val (.long wd), .second, .val (.long ra), .second, .val (.long (yb &&& (9223372036854775807 : Int64))), .second, .val (.long lo), .second, .val (.long hi), .second, .unset, .unset, .unset, .unset, .unset, .unset, .unset] [(.ref b11)])) _
    refine XS.astore X12.here hx rfl (hb hby at_71) rfl rfl (l' := #[.val (.long yw), .second, .val (.long ya), .second, .val (.long yb), .second, .val (.int xm), .val (.long wd), .second, .val (.long ra), .second, .val (.long (yb &&& (9223372036854775807 : Int64))), .second, .val (.long lo), .second, .val (.long hi), .second, .val (.ref b11), .unset, .unset, .unset, .unset, .unset, .unset]) rfl ?_
    refine XS.lconst X12.here hx rfl (hb hby at_73) ?_
    refine XS.lstore X12.here hx rfl (hb hby at_74) rfl (l' := #[.val (.long yw), .second, .val (.long ya), .second, .val (.long yb), .second, .val (.int xm), .val (.long wd), .second, .val (.long ra), .second, .val (.long (yb &&& (9223372036854775807 : Int64))), .second, .val (.long lo), .second, .val (.long hi), .second, .val (.ref b11), .val (.long (0 : Int64)), .second, .unset, .unset, .unset, .unset]) rfl ?_
    show Steps p.tables e below (T12.setTop (mkF m 76 #[.val (.long yw), .second, .val (.long ya), .second, .val (.long yb), .second, .val (.int xm), .val (.long wd), .second, .val (.long ra), .second, .val (.long (yb &&& (9223372036854775807 : Int64))), .second, .val (.long lo), .second, .val (.long hi), .second, .val (.ref b11), .val (.long (0 : Int64)), .second, .unset, .unset, .unset, .unset] [])) _
    refine XS.iload X12.here hx rfl (hb hby at_76) rfl ?_
    refine XS.iconst X12.here hx rfl (hb hby at_78) ?_
    refine XS.iand X12.here hx rfl (hb hby at_79) rfl ?_
    exact kt
  by_cases hc14 : (xm &&& (1 : Int32)) = (0 : Int32)
  · skip
    obtain ⟨cq15, kq15, q15a, q15b, q15c⟩ := isOf hZ rfl g12_67
    obtain ⟨_, _, ⟨T15, L15, kc15, ks15⟩, -, X15, ⟨Lc15, hQ15, l15, y15, z15⟩, st15⟩ := X12.virtualBack hx (y := mn1) (z := mn1) hown (mvT hZ (wd41 hw)) (mvT hZ (wd42 hw)) (notFace_of_selects (args := #[]) (mvT hZ (wd44 hw))) (mvT hZ (wd44 hw)) (mvT hZ (wd43 hw)) (by decide) (backOf (W := 0) (rmA3 l Z a0 hw [] b11 lo wd b12_3 _ b12_1 b12_4 b12_5 b12_6 b12_7 b12_8 b12_9 b12_10 b12_11 _ b12_2 _ _ _ _ _ _ _ _ _ b12_0 T12.heap n0 Z12 g12_104 g12_105 g12_79 hw0 g12_106 g12_78 g12_75 g12_72 g12_69 g12_74 g12_73 g12_80 g12_71 g12_83 g12_86 g12_89 g12_92 g12_95 g12_98 g12_101 g12_68 g12_107 (own_maxnlt _ _) g12_67 ge_b11 (Ne.symm ne_b11_b12_1) (Ne.symm ne_b11_b12_2) (Ne.symm ne_b11_b12_4) (Ne.symm ne_b11_b12_3) ge_b12_3 g12_21 g12_12 (Ne.symm g12_30) g12_81 ge_b12_1 (Ne.symm g12_11) ge_b12_2 (Ne.symm ne_b11_b12_5) (Ne.symm g12_31) (Ne.symm g12_14) (Ne.symm g12_23) g12_84 (Ne.symm ne_b11_b12_6) (Ne.symm g12_32) (Ne.symm g12_15) (Ne.symm g12_24) g12_87 (Ne.symm ne_b11_b12_7) (Ne.symm g12_33) (Ne.symm g12_16) (Ne.symm g12_25) g12_90 (Ne.symm ne_b11_b12_8) (Ne.symm g12_34) (Ne.symm g12_17) (Ne.symm g12_26) g12_93 (Ne.symm ne_b11_b12_9) (Ne.symm g12_35) (Ne.symm g12_18) (Ne.symm g12_27) g12_96 (Ne.symm ne_b11_b12_10) (Ne.symm g12_36) (Ne.symm g12_19) (Ne.symm g12_28) g12_99 (Ne.symm ne_b11_b12_11) (Ne.symm g12_37) (Ne.symm g12_20) (Ne.symm g12_29) g12_102 g12_76 g12_70) hZ (wd45 hw) (wd11 hw) (by decide) (by decide)) q15a q15c (g := (mkF m 87 #[.val (.long yw), .second, .val (.long ya), .second, .val (.long yb), .second, .val (.int xm), .val (.long wd), .second, .val (.long ra), .second, .val (.long (yb &&& (9223372036854775807 : Int64))), .second, .val (.long lo), .second, .val (.long hi), .second, .val (.ref b11), .val (.long (0 : Int64)), .second, .unset, .unset, .unset, .unset] [(.long lo), (.ref b11)])) rfl (by rw [hml]; rfl) (Steps.refl _) (argsL := [(.long lo)]) (rest := []) (lenOf pd__J_Lcom_example_strict_limiter_strictlimiter_Count_ rfl) rfl (by show 2 * 0 + _ ≤ _; exact Nat.le_of_eq rfl) (hb hby at_87) (fun _ _ => ⟨rfl, rfl, (by decide : 13 + 0 ≤ _), (by decide : 171 + 0 ≤ _)⟩)
    dsimp only [Pt.U, Pt.locs, Pt.cells, Pt.slots] at X15 l15 y15 z15 st15 hQ15
    subst l15 y15 z15
    obtain ⟨rfl, Nq15, Kq15, g15_0, g15_1, g15_2, g15_3, g15_4, g15_5, g15_6, g15_7, g15_8, g15_9, g15_10, g15_11, g15_12, g15_13, g15_14⟩ := hQ15
    have N15 := Fr.app N12 Nq15
    have Z15 : n0 ≤ T15.heap.size := Nat.le_trans Z12 Kq15.1
    have K15 : Keep h0 T15.heap [] := Keep.trans K12 Kq15 (allS (Or.inr sz_b11) (allS (Or.inr sz_b12_3) (allS (Or.inr sz_b12_1) (allS (Or.inr sz_b12_2) all0))))
    have f16 := (g12_80.keep Kq15 (ninS (Ne.symm ne_b11_b12_4) (ninS (Ne.symm g12_30) (ninS (Ne.symm g12_13) (ninS (Ne.symm g12_22) nin0)))))
    have f17 := g12_71
    have f18 := (g12_83.keep Kq15 (ninS (Ne.symm ne_b11_b12_5) (ninS (Ne.symm g12_31) (ninS (Ne.symm g12_14) (ninS (Ne.symm g12_23) nin0)))))
    have f19 := (g12_86.keep Kq15 (ninS (Ne.symm ne_b11_b12_6) (ninS (Ne.symm g12_32) (ninS (Ne.symm g12_15) (ninS (Ne.symm g12_24) nin0)))))
    have f20 := (g12_89.keep Kq15 (ninS (Ne.symm ne_b11_b12_7) (ninS (Ne.symm g12_33) (ninS (Ne.symm g12_16) (ninS (Ne.symm g12_25) nin0)))))
    have f21 := (g12_92.keep Kq15 (ninS (Ne.symm ne_b11_b12_8) (ninS (Ne.symm g12_34) (ninS (Ne.symm g12_17) (ninS (Ne.symm g12_26) nin0)))))
    have f22 := (g12_95.keep Kq15 (ninS (Ne.symm ne_b11_b12_9) (ninS (Ne.symm g12_35) (ninS (Ne.symm g12_18) (ninS (Ne.symm g12_27) nin0)))))
    have f23 := (g12_98.keep Kq15 (ninS (Ne.symm ne_b11_b12_10) (ninS (Ne.symm g12_36) (ninS (Ne.symm g12_19) (ninS (Ne.symm g12_28) nin0)))))
    have f24 := (g12_101.keep Kq15 (ninS (Ne.symm ne_b11_b12_11) (ninS (Ne.symm g12_37) (ninS (Ne.symm g12_20) (ninS (Ne.symm g12_29) nin0)))))
    have f25 := (g12_81.keep Kq15)
    have f26 := (g12_84.keep Kq15)
    have f27 := (g12_87.keep Kq15)
    have f28 := (g12_90.keep Kq15)
    have f29 := (g12_93.keep Kq15)
    have f30 := (g12_96.keep Kq15)
    have f31 := (g12_99.keep Kq15)
    have f32 := (g12_102.keep Kq15)
    obtain ⟨cq33, kq33, q33a, q33b, q33c⟩ := isOf hZ rfl g15_12
    obtain ⟨_, _, ⟨T33, L33, kc33, ks33⟩, -, X33, ⟨Lc33, hQ33, l33, y33, z33⟩, st33⟩ := X15.virtualBack hx (y := mn1) (z := mn1) hown (mvT hZ (wd41 hw)) (mvT hZ (wd42 hw)) (notFace_of_selects (args := #[]) (mvT hZ (wd44 hw))) (mvT hZ (wd44 hw)) (mvT hZ (wd43 hw)) (by decide) (backOf (W := 0) (rmA30 l Z a0 hw [] b11 hi wd b12_3 _ b12_1 b12_4 b12_5 b12_6 b12_7 b12_8 b12_9 b12_10 b12_11 _ b12_2 _ _ _ _ _ _ _ _ _ b12_0 ((own_maxL (0 : Int64) (lo / wd))) T15.heap n0 Z15 g15_0 g15_1 g15_2 hw0 g15_3 g15_4 g15_5 g15_6 g15_7 g15_8 g15_9 f16 f17 f18 f19 f20 f21 f22 f23 f24 g15_10 g15_11 (own_maxnlt _ _) g15_12 ge_b11 (Ne.symm ne_b11_b12_1) (Ne.symm ne_b11_b12_2) (Ne.symm ne_b11_b12_4) (Ne.symm ne_b11_b12_3) ge_b12_3 g12_21 g12_12 (Ne.symm g12_30) f25 ge_b12_1 (Ne.symm g12_11) ge_b12_2 (Ne.symm ne_b11_b12_5) (Ne.symm g12_31) (Ne.symm g12_14) (Ne.symm g12_23) f26 (Ne.symm ne_b11_b12_6) (Ne.symm g12_32) (Ne.symm g12_15) (Ne.symm g12_24) f27 (Ne.symm ne_b11_b12_7) (Ne.symm g12_33) (Ne.symm g12_16) (Ne.symm g12_25) f28 (Ne.symm ne_b11_b12_8) (Ne.symm g12_34) (Ne.symm g12_17) (Ne.symm g12_26) f29 (Ne.symm ne_b11_b12_9) (Ne.symm g12_35) (Ne.symm g12_18) (Ne.symm g12_27) f30 (Ne.symm ne_b11_b12_10) (Ne.symm g12_36) (Ne.symm g12_19) (Ne.symm g12_28) f31 (Ne.symm ne_b11_b12_11) (Ne.symm g12_37) (Ne.symm g12_20) (Ne.symm g12_29) f32 g15_13 g15_14) hZ (wd45 hw) (wd11 hw) (by decide) (by decide)) q33a q33c (g := (mkF m 95 #[.val (.long yw), .second, .val (.long ya), .second, .val (.long yb), .second, .val (.int xm), .val (.long wd), .second, .val (.long ra), .second, .val (.long (yb &&& (9223372036854775807 : Int64))), .second, .val (.long lo), .second, .val (.long hi), .second, .val (.ref b11), .val (.long (0 : Int64)), .second, .unset, .unset, .unset, .unset] [(.long hi), (.ref b11)])) rfl (by rw [hml]; rfl) (Steps.refl _) (argsL := [(.long hi)]) (rest := []) (lenOf pd__J_Lcom_example_strict_limiter_strictlimiter_Count_ rfl) rfl (by show 2 * 0 + _ ≤ _; exact Nat.le_of_eq rfl) (hb hby at_95) (fun _ _ => ⟨rfl, rfl, (by decide : 13 + 0 ≤ _), (by decide : 171 + 0 ≤ _)⟩)
    dsimp only [Pt.U, Pt.locs, Pt.cells, Pt.slots] at X33 l33 y33 z33 st33 hQ33
    subst l33 y33 z33
    obtain ⟨rfl, Nq33, Kq33, g33_0, g33_1, g33_2, g33_3, g33_4, g33_5, g33_6, g33_7, g33_8, g33_9, g33_10, g33_11, g33_12, g33_13, g33_14⟩ := hQ33
    have N33 := Fr.app N15 Nq33
    have Z33 : n0 ≤ T33.heap.size := Nat.le_trans Z15 Kq33.1
    have K33 : Keep h0 T33.heap [] := Keep.trans K15 Kq33 (allS (Or.inr sz_b11) (allS (Or.inr sz_b12_3) (allS (Or.inr sz_b12_1) (allS (Or.inr sz_b12_2) all0))))
    have hnx34 : (own_maxL (own_maxL (0 : Int64) (lo / wd)) (hi / wd)) = (hi / wd) := own_nx hlo.1 hlo.2 hwd
    have Fn34 := g33_11
    rw [hnx34] at Fn34
    have hnow : 0 ≤ hi.toInt := by omega
    have k35 : ∀ t, Steps p.tables e below (T33.setTop (mkF m 125 #[.val (.long yw), .second, .val (.long ya), .second, .val (.long yb), .second, .val (.int xm), .val (.long wd), .second, .val (.long ra), .second, .val (.long (yb &&& (9223372036854775807 : Int64))), .second, .val (.long lo), .second, .val (.long hi), .second, .val (.ref b11), .val (.long hi), .second, .val (.long (hi - (hi % wd))), .second, .unset, .unset] [(.int (lcmpW (((9223372036854775807 : Int64) - (hi - (hi % wd))) - wd) wd))])) t → Steps p.tables e below (s₁.setTop (entryFrame m #[(.long yw), (.long ya), (.long yb), (.int xm)] maxLocals)) t := by
      intro t kt
      refine k13 t ?_
      show Steps p.tables e below (T12.setTop (mkF m 80 #[.val (.long yw), .second, .val (.long ya), .second, .val (.long yb), .second, .val (.int xm), .val (.long wd), .second, .val (.long ra), .second, .val (.long (yb &&& (9223372036854775807 : Int64))), .second, .val (.long lo), .second, .val (.long hi), .second, .val (.ref b11), .val (.long (0 : Int64)), .second, .unset, .unset, .unset, .unset] [(.int (xm &&& (1 : Int32)))])) _
      refine XS.ifNo X12.here hx rfl (hb hby at_80) rfl ((if0 _ _).trans (teq hc14).2) ?_
      refine XS.aload X12.here hx rfl (hb hby at_83) rfl rfl ?_
      refine XS.lload X12.here hx rfl (hb hby at_85) rfl ?_
      show Steps p.tables e below (T12.setTop (mkF m 87 #[.val (.long yw), .second, .val (.long ya), .second, .val (.long yb), .second, .val (.int xm), .val (.long wd), .second, .val (.long ra), .second, .val (.long (yb &&& (9223372036854775807 : Int64))), .second, .val (.long lo), .second, .val (.long hi), .second, .val (.ref b11), .val (.long (0 : Int64)), .second, .unset, .unset, .unset, .unset] [(.long lo), (.ref b11)])) _
      refine st15.trans ?_
      show Steps p.tables e below (T15.setTop (mkF m 90 #[.val (.long yw), .second, .val (.long ya), .second, .val (.long yb), .second, .val (.int xm), .val (.long wd), .second, .val (.long ra), .second, .val (.long (yb &&& (9223372036854775807 : Int64))), .second, .val (.long lo), .second, .val (.long hi), .second, .val (.ref b11), .val (.long (0 : Int64)), .second, .unset, .unset, .unset, .unset] [.null])) _
      refine XS.pop X15.here hx rfl (hb hby at_90) rfl rfl ?_
      refine XS.aload X15.here hx rfl (hb hby at_91) rfl rfl ?_
      show Steps p.tables e below (T15.setTop (mkF m 93 #[.val (.long yw), .second, .val (.long ya), .second, .val (.long yb), .second, .val (.int xm), .val (.long wd), .second, .val (.long ra), .second, .val (.long (yb &&& (9223372036854775807 : Int64))), .second, .val (.long lo), .second, .val (.long hi), .second, .val (.ref b11), .val (.long (0 : Int64)), .second, .unset, .unset, .unset, .unset] [(.ref b11)])) _
      refine XS.lload X15.here hx rfl (hb hby at_93) rfl ?_
      show Steps p.tables e below (T15.setTop (mkF m 95 #[.val (.long yw), .second, .val (.long ya), .second, .val (.long yb), .second, .val (.int xm), .val (.long wd), .second, .val (.long ra), .second, .val (.long (yb &&& (9223372036854775807 : Int64))), .second, .val (.long lo), .second, .val (.long hi), .second, .val (.ref b11), .val (.long (0 : Int64)), .second, .unset, .unset, .unset, .unset] [(.long hi), (.ref b11)])) _
      refine st33.trans ?_
      show Steps p.tables e below (T33.setTop (mkF m 98 #[.val (.long yw), .second, .val (.long ya), .second, .val (.long yb), .second, .val (.int xm), .val (.long wd), .second, .val (.long ra), .second, .val (.long (yb &&& (9223372036854775807 : Int64))), .second, .val (.long lo), .second, .val (.long hi), .second, .val (.ref b11), .val (.long (0 : Int64)), .second, .unset, .unset, .unset, .unset] [.null])) _
      refine XS.pop X33.here hx rfl (hb hby at_98) rfl rfl ?_
      show Steps p.tables e below (T33.setTop (mkF m 99 #[.val (.long yw), .second, .val (.long ya), .second, .val (.long yb), .second, .val (.int xm), .val (.long wd), .second, .val (.long ra), .second, .val (.long (yb &&& (9223372036854775807 : Int64))), .second, .val (.long lo), .second, .val (.long hi), .second, .val (.ref b11), .val (.long (0 : Int64)), .second, .unset, .unset, .unset, .unset] [])) _
      refine XS.lload X33.here hx rfl (hb hby at_99) rfl ?_
      refine XS.lstore X33.here hx rfl (hb hby at_101) rfl (l' := #[.val (.long yw), .second, .val (.long ya), .second, .val (.long yb), .second, .val (.int xm), .val (.long wd), .second, .val (.long ra), .second, .val (.long (yb &&& (9223372036854775807 : Int64))), .second, .val (.long lo), .second, .val (.long hi), .second, .val (.ref b11), .val (.long hi), .second, .unset, .unset, .unset, .unset]) rfl ?_
      refine XS.lload X33.here hx rfl (hb hby at_103) rfl ?_
      show Steps p.tables e below (T33.setTop (mkF m 105 #[.val (.long yw), .second, .val (.long ya), .second, .val (.long yb), .second, .val (.int xm), .val (.long wd), .second, .val (.long ra), .second, .val (.long (yb &&& (9223372036854775807 : Int64))), .second, .val (.long lo), .second, .val (.long hi), .second, .val (.ref b11), .val (.long hi), .second, .unset, .unset, .unset, .unset] [(.long hi)])) _
      refine XS.lload X33.here hx rfl (hb hby at_105) rfl ?_
      refine XS.lload X33.here hx rfl (hb hby at_107) rfl ?_
      refine own_lremM X33 hx rfl (hb hby at_109) rfl hw0 ?_
      show Steps p.tables e below (T33.setTop (mkF m 110 #[.val (.long yw), .second, .val (.long ya), .second, .val (.long yb), .second, .val (.int xm), .val (.long wd), .second, .val (.long ra), .second, .val (.long (yb &&& (9223372036854775807 : Int64))), .second, .val (.long lo), .second, .val (.long hi), .second, .val (.ref b11), .val (.long hi), .second, .unset, .unset, .unset, .unset] [(.long (hi % wd)), (.long hi)])) _
      refine XS.lsub X33.here hx rfl (hb hby at_110) rfl ?_
      refine XS.lstore X33.here hx rfl (hb hby at_111) rfl (l' := #[.val (.long yw), .second, .val (.long ya), .second, .val (.long yb), .second, .val (.int xm), .val (.long wd), .second, .val (.long ra), .second, .val (.long (yb &&& (9223372036854775807 : Int64))), .second, .val (.long lo), .second, .val (.long hi), .second, .val (.ref b11), .val (.long hi), .second, .val (.long (hi - (hi % wd))), .second, .unset, .unset]) rfl ?_
      refine X33.ldc2Long hx hown (mvT hZ (wd0 hw)) (g := (mkF m 113 #[.val (.long yw), .second, .val (.long ya), .second, .val (.long yb), .second, .val (.int xm), .val (.long wd), .second, .val (.long ra), .second, .val (.long (yb &&& (9223372036854775807 : Int64))), .second, .val (.long lo), .second, .val (.long hi), .second, .val (.ref b11), .val (.long hi), .second, .val (.long (hi - (hi % wd))), .second, .unset, .unset] [])) rfl (hb hby at_113) _ ?_
      show Steps p.tables e below (T33.setTop (mkF m 116 #[.val (.long yw), .second, .val (.long ya), .second, .val (.long yb), .second, .val (.int xm), .val (.long wd), .second, .val (.long ra), .second, .val (.long (yb &&& (9223372036854775807 : Int64))), .second, .val (.long lo), .second, .val (.long hi), .second, .val (.ref b11), .val (.long hi), .second, .val (.long (hi - (hi % wd))), .second, .unset, .unset] [(.long (9223372036854775807 : Int64))])) _
      refine XS.lload X33.here hx rfl (hb hby at_116) rfl ?_
      refine XS.lsub X33.here hx rfl (hb hby at_118) rfl ?_
      refine XS.lload X33.here hx rfl (hb hby at_119) rfl ?_
      show Steps p.tables e below (T33.setTop (mkF m 121 #[.val (.long yw), .second, .val (.long ya), .second, .val (.long yb), .second, .val (.int xm), .val (.long wd), .second, .val (.long ra), .second, .val (.long (yb &&& (9223372036854775807 : Int64))), .second, .val (.long lo), .second, .val (.long hi), .second, .val (.ref b11), .val (.long hi), .second, .val (.long (hi - (hi % wd))), .second, .unset, .unset] [(.long wd), (.long ((9223372036854775807 : Int64) - (hi - (hi % wd))))])) _
      refine XS.lsub X33.here hx rfl (hb hby at_121) rfl ?_
      refine XS.lload X33.here hx rfl (hb hby at_122) rfl ?_
      refine XS.lcmp X33.here hx rfl (hb hby at_124) rfl ?_
      exact kt
    by_cases hc36 : (((9223372036854775807 : Int64) - (hi - (hi % wd))) - wd) < wd
    · skip
      have hp37 : ¬ ((hi / wd) < (((9223372036854775807 : Int64) / wd) - (1 : Int64))) := own_pA hnow hwd hc36
      obtain ⟨cq38, kq38, q38a, q38b, q38c⟩ := isOf hZ rfl g33_12
      obtain ⟨_, _, ⟨T38, L38, kc38, ks38⟩, -, X38, ⟨Lc38, hQ38, l38, y38, z38⟩, st38⟩ := X33.virtualBack hx (y := mn2) (z := mn2) hown (mvT hZ (wd77 hw)) (mvT hZ (wd78 hw)) (notFace_of_selects (args := #[]) (mvT hZ (wd80 hw))) (mvT hZ (wd80 hw)) (mvT hZ (wd79 hw)) (by decide) (backOf (W := 0) (rmA57 l Z a0 hw [] b11 ((hi / wd)) wd T33.heap n0 Z33 Fn34 g33_2 hw0 hp37) hZ (wd81 hw) (wd11 hw) (by decide) (by decide)) q38a q38c (g := (mkF m 145 #[.val (.long yw), .second, .val (.long ya), .second, .val (.long yb), .second, .val (.int xm), .val (.long wd), .second, .val (.long ra), .second, .val (.long (yb &&& (9223372036854775807 : Int64))), .second, .val (.long lo), .second, .val (.long hi), .second, .val (.ref b11), .val (.long hi), .second, .val (.long (hi - (hi % wd))), .second, .val (.long (9223372036854775807 : Int64)), .second] [(.ref b11)])) rfl (by rw [hml]; rfl) (Steps.refl _) (argsL := []) (rest := []) (lenOf pd___J rfl) rfl (by show 2 * 0 + _ ≤ _; exact Nat.le_of_eq rfl) (hb hby at_145) (fun _ _ => ⟨rfl, rfl, (by decide : 13 + 0 ≤ _), (by decide : 171 + 0 ≤ _)⟩)
      dsimp only [Pt.U, Pt.locs, Pt.cells, Pt.slots] at X38 l38 y38 z38 st38 hQ38
      subst l38 y38 z38
      obtain ⟨rfl, Nq38, eq38⟩ := hQ38
      have N38 := Fr.app N33 Nq38
      obtain ⟨lfs, lhr, lhrun, lhended, lhW, lhsame⟩ := X38.leave (v := some (.int (1 : Int32))) (fun h => by rw [Bd.returns] at h; cases h)
      refine ⟨_, _, k35 _ ?_, lhrun, lhended, _, _, rfl, ?_, ⟨_, rfl⟩, lhW, lhsame.mono (by decide) (by decide)⟩
      · skip
        show Steps p.tables e below (T33.setTop (mkF m 125 #[.val (.long yw), .second, .val (.long ya), .second, .val (.long yb), .second, .val (.int xm), .val (.long wd), .second, .val (.long ra), .second, .val (.long (yb &&& (9223372036854775807 : Int64))), .second, .val (.long lo), .second, .val (.long hi), .second, .val (.ref b11), .val (.long hi), .second, .val (.long (hi - (hi % wd))), .second, .unset, .unset] [(.int (lcmpW (((9223372036854775807 : Int64) - (hi - (hi % wd))) - wd) wd))])) _
        refine XS.ifYes X33.here hx rfl (pc0 := 125) (pc' := 138) rfl (hb hby at_125) rfl ((if0 _ _).trans (tlt ((lw_lt (((9223372036854775807 : Int64) - (hi - (hi % wd))) - wd) wd).mpr hc36)).1) (by decide) (by decide) ?_
        refine X33.ldc2Long hx hown (mvT hZ (wd0 hw)) (g := (mkF m 138 #[.val (.long yw), .second, .val (.long ya), .second, .val (.long yb), .second, .val (.int xm), .val (.long wd), .second, .val (.long ra), .second, .val (.long (yb &&& (9223372036854775807 : Int64))), .second, .val (.long lo), .second, .val (.long hi), .second, .val (.ref b11), .val (.long hi), .second, .val (.long (hi - (hi % wd))), .second, .unset, .unset] [])) rfl (hb hby at_138) _ ?_
        refine XS.lstore X33.here hx rfl (hb hby at_141) rfl (l' := #[.val (.long yw), .second, .val (.long ya), .second, .val (.long yb), .second, .val (.int xm), .val (.long wd), .second, .val (.long ra), .second, .val (.long (yb &&& (9223372036854775807 : Int64))), .second, .val (.long lo), .second, .val (.long hi), .second, .val (.ref b11), .val (.long hi), .second, .val (.long (hi - (hi % wd))), .second, .val (.long (9223372036854775807 : Int64)), .second]) rfl ?_
        show Steps p.tables e below (T33.setTop (mkF m 143 #[.val (.long yw), .second, .val (.long ya), .second, .val (.long yb), .second, .val (.int xm), .val (.long wd), .second, .val (.long ra), .second, .val (.long (yb &&& (9223372036854775807 : Int64))), .second, .val (.long lo), .second, .val (.long hi), .second, .val (.ref b11), .val (.long hi), .second, .val (.long (hi - (hi % wd))), .second, .val (.long (9223372036854775807 : Int64)), .second] [])) _
        refine XS.aload X33.here hx rfl (hb hby at_143) rfl rfl ?_
        show Steps p.tables e below (T33.setTop (mkF m 145 #[.val (.long yw), .second, .val (.long ya), .second, .val (.long yb), .second, .val (.int xm), .val (.long wd), .second, .val (.long ra), .second, .val (.long (yb &&& (9223372036854775807 : Int64))), .second, .val (.long lo), .second, .val (.long hi), .second, .val (.ref b11), .val (.long hi), .second, .val (.long (hi - (hi % wd))), .second, .val (.long (9223372036854775807 : Int64)), .second] [(.ref b11)])) _
        refine st38.trans ?_
        show Steps p.tables e below (T38.setTop (mkF m 148 #[.val (.long yw), .second, .val (.long ya), .second, .val (.long yb), .second, .val (.int xm), .val (.long wd), .second, .val (.long ra), .second, .val (.long (yb &&& (9223372036854775807 : Int64))), .second, .val (.long lo), .second, .val (.long hi), .second, .val (.ref b11), .val (.long hi), .second, .val (.long (hi - (hi % wd))), .second, .val (.long (9223372036854775807 : Int64)), .second] [(.long (9223372036854775807 : Int64))])) _
        refine XS.lload X38.here hx rfl (hb hby at_148) rfl ?_
        show Steps p.tables e below (T38.setTop (mkF m 150 #[.val (.long yw), .second, .val (.long ya), .second, .val (.long yb), .second, .val (.int xm), .val (.long wd), .second, .val (.long ra), .second, .val (.long (yb &&& (9223372036854775807 : Int64))), .second, .val (.long lo), .second, .val (.long hi), .second, .val (.ref b11), .val (.long hi), .second, .val (.long (hi - (hi % wd))), .second, .val (.long (9223372036854775807 : Int64)), .second] [(.long (9223372036854775807 : Int64)), (.long (9223372036854775807 : Int64))])) _
        refine XS.lcmp X38.here hx rfl (hb hby at_150) rfl ?_
        refine XS.ifNo X38.here hx rfl (hb hby at_151) rfl ((if0 _ _).trans (teq ((lw_eq (9223372036854775807 : Int64) (9223372036854775807 : Int64)).mpr (by decide : (9223372036854775807 : Int64) = (9223372036854775807 : Int64)))).2) ?_
        refine XS.iconst X38.here hx rfl (hb hby at_154) ?_
        show Steps p.tables e below (T38.setTop (mkF m 155 #[.val (.long yw), .second, .val (.long ya), .second, .val (.long yb), .second, .val (.int xm), .val (.long wd), .second, .val (.long ra), .second, .val (.long (yb &&& (9223372036854775807 : Int64))), .second, .val (.long lo), .second, .val (.long hi), .second, .val (.ref b11), .val (.long hi), .second, .val (.long (hi - (hi % wd))), .second, .val (.long (9223372036854775807 : Int64)), .second] [(.int (1 : Int32))])) _
        refine XS.goto X38.here hx rfl (pc0 := 155) (pc' := 159) rfl (hb hby at_155) (by decide) (by decide) ?_
        show Steps p.tables e below (T38.setTop (mkF m 159 #[.val (.long yw), .second, .val (.long ya), .second, .val (.long yb), .second, .val (.int xm), .val (.long wd), .second, .val (.long ra), .second, .val (.long (yb &&& (9223372036854775807 : Int64))), .second, .val (.long lo), .second, .val (.long hi), .second, .val (.ref b11), .val (.long hi), .second, .val (.long (hi - (hi % wd))), .second, .val (.long (9223372036854775807 : Int64)), .second] [(.int (1 : Int32))])) _
        exact retN X38 hx (t := .boolean) Bd.returns (by simp) (hb hby at_159) lhr
      · skip
        show Q0 Z yw ya yb xm h0 n0 _ T38.heap _
        rw [eq38]
        exact ⟨rfl, N38⟩
    · skip
      have hp39 : (hi / wd) < (((9223372036854775807 : Int64) / wd) - (1 : Int64)) := own_pB hnow hwd hc36
      obtain ⟨cq40, kq40, q40a, q40b, q40c⟩ := isOf hZ rfl g33_12
      obtain ⟨_, _, ⟨T40, L40, kc40, ks40⟩, -, X40, ⟨Lc40, hQ40, l40, y40, z40⟩, st40⟩ := X33.virtualBack hx (y := mn2) (z := mn2) hown (mvT hZ (wd77 hw)) (mvT hZ (wd78 hw)) (notFace_of_selects (args := #[]) (mvT hZ (wd80 hw))) (mvT hZ (wd80 hw)) (mvT hZ (wd79 hw)) (by decide) (backOf (W := 0) (rmA58 l Z a0 hw [] b11 ((hi / wd)) wd T33.heap n0 Z33 Fn34 g33_2 hw0 hp39) hZ (wd81 hw) (wd11 hw) (by decide) (by decide)) q40a q40c (g := (mkF m 145 #[.val (.long yw), .second, .val (.long ya), .second, .val (.long yb), .second, .val (.int xm), .val (.long wd), .second, .val (.long ra), .second, .val (.long (yb &&& (9223372036854775807 : Int64))), .second, .val (.long lo), .second, .val (.long hi), .second, .val (.ref b11), .val (.long hi), .second, .val (.long (hi - (hi % wd))), .second, .val (.long ((hi - (hi % wd)) + wd)), .second] [(.ref b11)])) rfl (by rw [hml]; rfl) (Steps.refl _) (argsL := []) (rest := []) (lenOf pd___J rfl) rfl (by show 2 * 0 + _ ≤ _; exact Nat.le_of_eq rfl) (hb hby at_145) (fun _ _ => ⟨rfl, rfl, (by decide : 13 + 0 ≤ _), (by decide : 171 + 0 ≤ _)⟩)
      dsimp only [Pt.U, Pt.locs, Pt.cells, Pt.slots] at X40 l40 y40 z40 st40 hQ40
      subst l40 y40 z40
      obtain ⟨rfl, Nq40, eq40⟩ := hQ40
      have N40 := Fr.app N33 Nq40
      obtain ⟨lfs, lhr, lhrun, lhended, lhW, lhsame⟩ := X40.leave (v := some (.int (1 : Int32))) (fun h => by rw [Bd.returns] at h; cases h)
      refine ⟨_, _, k35 _ ?_, lhrun, lhended, _, _, rfl, ?_, ⟨_, rfl⟩, lhW, lhsame.mono (by decide) (by decide)⟩
      · skip
        show Steps p.tables e below (T33.setTop (mkF m 125 #[.val (.long yw), .second, .val (.long ya), .second, .val (.long yb), .second, .val (.int xm), .val (.long wd), .second, .val (.long ra), .second, .val (.long (yb &&& (9223372036854775807 : Int64))), .second, .val (.long lo), .second, .val (.long hi), .second, .val (.ref b11), .val (.long hi), .second, .val (.long (hi - (hi % wd))), .second, .unset, .unset] [(.int (lcmpW (((9223372036854775807 : Int64) - (hi - (hi % wd))) - wd) wd))])) _
        refine XS.ifNo X33.here hx rfl (hb hby at_125) rfl ((if0 _ _).trans (flt (fun q => hc36 ((lw_lt (((9223372036854775807 : Int64) - (hi - (hi % wd))) - wd) wd).mp q))).1) ?_
        refine XS.lload X33.here hx rfl (hb hby at_128) rfl ?_
        refine XS.lload X33.here hx rfl (hb hby at_130) rfl ?_
        show Steps p.tables e below (T33.setTop (mkF m 132 #[.val (.long yw), .second, .val (.long ya), .second, .val (.long yb), .second, .val (.int xm), .val (.long wd), .second, .val (.long ra), .second, .val (.long (yb &&& (9223372036854775807 : Int64))), .second, .val (.long lo), .second, .val (.long hi), .second, .val (.ref b11), .val (.long hi), .second, .val (.long (hi - (hi % wd))), .second, .unset, .unset] [(.long wd), (.long (hi - (hi % wd)))])) _
        refine XS.ladd X33.here hx rfl (hb hby at_132) rfl ?_
        refine XS.lstore X33.here hx rfl (hb hby at_133) rfl (l' := #[.val (.long yw), .second, .val (.long ya), .second, .val (.long yb), .second, .val (.int xm), .val (.long wd), .second, .val (.long ra), .second, .val (.long (yb &&& (9223372036854775807 : Int64))), .second, .val (.long lo), .second, .val (.long hi), .second, .val (.ref b11), .val (.long hi), .second, .val (.long (hi - (hi % wd))), .second, .val (.long ((hi - (hi % wd)) + wd)), .second]) rfl ?_
        refine XS.goto X33.here hx rfl (pc0 := 135) (pc' := 143) rfl (hb hby at_135) (by decide) (by decide) ?_
        show Steps p.tables e below (T33.setTop (mkF m 143 #[.val (.long yw), .second, .val (.long ya), .second, .val (.long yb), .second, .val (.int xm), .val (.long wd), .second, .val (.long ra), .second, .val (.long (yb &&& (9223372036854775807 : Int64))), .second, .val (.long lo), .second, .val (.long hi), .second, .val (.ref b11), .val (.long hi), .second, .val (.long (hi - (hi % wd))), .second, .val (.long ((hi - (hi % wd)) + wd)), .second] [])) _
        refine XS.aload X33.here hx rfl (hb hby at_143) rfl rfl ?_
        show Steps p.tables e below (T33.setTop (mkF m 145 #[.val (.long yw), .second, .val (.long ya), .second, .val (.long yb), .second, .val (.int xm), .val (.long wd), .second, .val (.long ra), .second, .val (.long (yb &&& (9223372036854775807 : Int64))), .second, .val (.long lo), .second, .val (.long hi), .second, .val (.ref b11), .val (.long hi), .second, .val (.long (hi - (hi % wd))), .second, .val (.long ((hi - (hi % wd)) + wd)), .second] [(.ref b11)])) _
        refine st40.trans ?_
        show Steps p.tables e below (T40.setTop (mkF m 148 #[.val (.long yw), .second, .val (.long ya), .second, .val (.long yb), .second, .val (.int xm), .val (.long wd), .second, .val (.long ra), .second, .val (.long (yb &&& (9223372036854775807 : Int64))), .second, .val (.long lo), .second, .val (.long hi), .second, .val (.ref b11), .val (.long hi), .second, .val (.long (hi - (hi % wd))), .second, .val (.long ((hi - (hi % wd)) + wd)), .second] [(.long (((hi / wd) + (1 : Int64)) * wd))])) _
        refine XS.lload X40.here hx rfl (hb hby at_148) rfl ?_
        show Steps p.tables e below (T40.setTop (mkF m 150 #[.val (.long yw), .second, .val (.long ya), .second, .val (.long yb), .second, .val (.int xm), .val (.long wd), .second, .val (.long ra), .second, .val (.long (yb &&& (9223372036854775807 : Int64))), .second, .val (.long lo), .second, .val (.long hi), .second, .val (.ref b11), .val (.long hi), .second, .val (.long (hi - (hi % wd))), .second, .val (.long ((hi - (hi % wd)) + wd)), .second] [(.long ((hi - (hi % wd)) + wd)), (.long (((hi / wd) + (1 : Int64)) * wd))])) _
        refine XS.lcmp X40.here hx rfl (hb hby at_150) rfl ?_
        refine XS.ifNo X40.here hx rfl (hb hby at_151) rfl ((if0 _ _).trans (teq ((lw_eq (((hi / wd) + (1 : Int64)) * wd) ((hi - (hi % wd)) + wd)).mpr (own_eq hi wd))).2) ?_
        refine XS.iconst X40.here hx rfl (hb hby at_154) ?_
        show Steps p.tables e below (T40.setTop (mkF m 155 #[.val (.long yw), .second, .val (.long ya), .second, .val (.long yb), .second, .val (.int xm), .val (.long wd), .second, .val (.long ra), .second, .val (.long (yb &&& (9223372036854775807 : Int64))), .second, .val (.long lo), .second, .val (.long hi), .second, .val (.ref b11), .val (.long hi), .second, .val (.long (hi - (hi % wd))), .second, .val (.long ((hi - (hi % wd)) + wd)), .second] [(.int (1 : Int32))])) _
        refine XS.goto X40.here hx rfl (pc0 := 155) (pc' := 159) rfl (hb hby at_155) (by decide) (by decide) ?_
        show Steps p.tables e below (T40.setTop (mkF m 159 #[.val (.long yw), .second, .val (.long ya), .second, .val (.long yb), .second, .val (.int xm), .val (.long wd), .second, .val (.long ra), .second, .val (.long (yb &&& (9223372036854775807 : Int64))), .second, .val (.long lo), .second, .val (.long hi), .second, .val (.ref b11), .val (.long hi), .second, .val (.long (hi - (hi % wd))), .second, .val (.long ((hi - (hi % wd)) + wd)), .second] [(.int (1 : Int32))])) _
        exact retN X40 hx (t := .boolean) Bd.returns (by simp) (hb hby at_159) lhr
      · skip
        show Q0 Z yw ya yb xm h0 n0 _ T40.heap _
        rw [eq40]
        exact ⟨rfl, N40⟩
  · skip
    have Fn41 : Fld Z T12.heap b11 cn2 "next" "J" (.long ((0 : Int64) / wd)) := by rw [own_0div hwd]; exact g12_107
    have hnow : 0 ≤ (0 : Int64).toInt := by decide
    have k42 : ∀ t, Steps p.tables e below (T12.setTop (mkF m 125 #[.val (.long yw), .second, .val (.long ya), .second, .val (.long yb), .second, .val (.int xm), .val (.long wd), .second, .val (.long ra), .second, .val (.long (yb &&& (9223372036854775807 : Int64))), .second, .val (.long lo), .second, .val (.long hi), .second, .val (.ref b11), .val (.long (0 : Int64)), .second, .val (.long ((0 : Int64) - ((0 : Int64) % wd))), .second, .unset, .unset] [(.int (lcmpW (((9223372036854775807 : Int64) - ((0 : Int64) - ((0 : Int64) % wd))) - wd) wd))])) t → Steps p.tables e below (s₁.setTop (entryFrame m #[(.long yw), (.long ya), (.long yb), (.int xm)] maxLocals)) t := by
      intro t kt
      refine k13 t ?_
      show Steps p.tables e below (T12.setTop (mkF m 80 #[.val (.long yw), .second, .val (.long ya), .second, .val (.long yb), .second, .val (.int xm), .val (.long wd), .second, .val (.long ra), .second, .val (.long (yb &&& (9223372036854775807 : Int64))), .second, .val (.long lo), .second, .val (.long hi), .second, .val (.ref b11), .val (.long (0 : Int64)), .second, .unset, .unset, .unset, .unset] [(.int (xm &&& (1 : Int32)))])) _
      refine XS.ifYes X12.here hx rfl (pc0 := 80) (pc' := 103) rfl (hb hby at_80) rfl ((if0 _ _).trans (feq hc14).2) (by decide) (by decide) ?_
      refine XS.lload X12.here hx rfl (hb hby at_103) rfl ?_
      refine XS.lload X12.here hx rfl (hb hby at_105) rfl ?_
      show Steps p.tables e below (T12.setTop (mkF m 107 #[.val (.long yw), .second, .val (.long ya), .second, .val (.long yb), .second, .val (.int xm), .val (.long wd), .second, .val (.long ra), .second, .val (.long (yb &&& (9223372036854775807 : Int64))), .second, .val (.long lo), .second, .val (.long hi), .second, .val (.ref b11), .val (.long (0 : Int64)), .second, .unset, .unset, .unset, .unset] [(.long (0 : Int64)), (.long (0 : Int64))])) _
      refine XS.lload X12.here hx rfl (hb hby at_107) rfl ?_
      refine own_lremM X12 hx rfl (hb hby at_109) rfl hw0 ?_
      refine XS.lsub X12.here hx rfl (hb hby at_110) rfl ?_
      show Steps p.tables e below (T12.setTop (mkF m 111 #[.val (.long yw), .second, .val (.long ya), .second, .val (.long yb), .second, .val (.int xm), .val (.long wd), .second, .val (.long ra), .second, .val (.long (yb &&& (9223372036854775807 : Int64))), .second, .val (.long lo), .second, .val (.long hi), .second, .val (.ref b11), .val (.long (0 : Int64)), .second, .unset, .unset, .unset, .unset] [(.long ((0 : Int64) - ((0 : Int64) % wd)))])) _
      refine XS.lstore X12.here hx rfl (hb hby at_111) rfl (l' := #[.val (.long yw), .second, .val (.long ya), .second, .val (.long yb), .second, .val (.int xm), .val (.long wd), .second, .val (.long ra), .second, .val (.long (yb &&& (9223372036854775807 : Int64))), .second, .val (.long lo), .second, .val (.long hi), .second, .val (.ref b11), .val (.long (0 : Int64)), .second, .val (.long ((0 : Int64) - ((0 : Int64) % wd))), .second, .unset, .unset]) rfl ?_
      refine X12.ldc2Long hx hown (mvT hZ (wd0 hw)) (g := (mkF m 113 #[.val (.long yw), .second, .val (.long ya), .second, .val (.long yb), .second, .val (.int xm), .val (.long wd), .second, .val (.long ra), .second, .val (.long (yb &&& (9223372036854775807 : Int64))), .second, .val (.long lo), .second, .val (.long hi), .second, .val (.ref b11), .val (.long (0 : Int64)), .second, .val (.long ((0 : Int64) - ((0 : Int64) % wd))), .second, .unset, .unset] [])) rfl (hb hby at_113) _ ?_
      refine XS.lload X12.here hx rfl (hb hby at_116) rfl ?_
      show Steps p.tables e below (T12.setTop (mkF m 118 #[.val (.long yw), .second, .val (.long ya), .second, .val (.long yb), .second, .val (.int xm), .val (.long wd), .second, .val (.long ra), .second, .val (.long (yb &&& (9223372036854775807 : Int64))), .second, .val (.long lo), .second, .val (.long hi), .second, .val (.ref b11), .val (.long (0 : Int64)), .second, .val (.long ((0 : Int64) - ((0 : Int64) % wd))), .second, .unset, .unset] [(.long ((0 : Int64) - ((0 : Int64) % wd))), (.long (9223372036854775807 : Int64))])) _
      refine XS.lsub X12.here hx rfl (hb hby at_118) rfl ?_
      refine XS.lload X12.here hx rfl (hb hby at_119) rfl ?_
      refine XS.lsub X12.here hx rfl (hb hby at_121) rfl ?_
      show Steps p.tables e below (T12.setTop (mkF m 122 #[.val (.long yw), .second, .val (.long ya), .second, .val (.long yb), .second, .val (.int xm), .val (.long wd), .second, .val (.long ra), .second, .val (.long (yb &&& (9223372036854775807 : Int64))), .second, .val (.long lo), .second, .val (.long hi), .second, .val (.ref b11), .val (.long (0 : Int64)), .second, .val (.long ((0 : Int64) - ((0 : Int64) % wd))), .second, .unset, .unset] [(.long (((9223372036854775807 : Int64) - ((0 : Int64) - ((0 : Int64) % wd))) - wd))])) _
      refine XS.lload X12.here hx rfl (hb hby at_122) rfl ?_
      refine XS.lcmp X12.here hx rfl (hb hby at_124) rfl ?_
      exact kt
    by_cases hc43 : (((9223372036854775807 : Int64) - ((0 : Int64) - ((0 : Int64) % wd))) - wd) < wd
    · skip
      have hp44 : ¬ (((0 : Int64) / wd) < (((9223372036854775807 : Int64) / wd) - (1 : Int64))) := own_pA hnow hwd hc43
      obtain ⟨cq45, kq45, q45a, q45b, q45c⟩ := isOf hZ rfl g12_67
      obtain ⟨_, _, ⟨T45, L45, kc45, ks45⟩, -, X45, ⟨Lc45, hQ45, l45, y45, z45⟩, st45⟩ := X12.virtualBack hx (y := mn2) (z := mn2) hown (mvT hZ (wd77 hw)) (mvT hZ (wd78 hw)) (notFace_of_selects (args := #[]) (mvT hZ (wd80 hw))) (mvT hZ (wd80 hw)) (mvT hZ (wd79 hw)) (by decide) (backOf (W := 0) (rmA57 l Z a0 hw [] b11 (((0 : Int64) / wd)) wd T12.heap n0 Z12 Fn41 g12_79 hw0 hp44) hZ (wd81 hw) (wd11 hw) (by decide) (by decide)) q45a q45c (g := (mkF m 145 #[.val (.long yw), .second, .val (.long ya), .second, .val (.long yb), .second, .val (.int xm), .val (.long wd), .second, .val (.long ra), .second, .val (.long (yb &&& (9223372036854775807 : Int64))), .second, .val (.long lo), .second, .val (.long hi), .second, .val (.ref b11), .val (.long (0 : Int64)), .second, .val (.long ((0 : Int64) - ((0 : Int64) % wd))), .second, .val (.long (9223372036854775807 : Int64)), .second] [(.ref b11)])) rfl (by rw [hml]; rfl) (Steps.refl _) (argsL := []) (rest := []) (lenOf pd___J rfl) rfl (by show 2 * 0 + _ ≤ _; exact Nat.le_of_eq rfl) (hb hby at_145) (fun _ _ => ⟨rfl, rfl, (by decide : 13 + 0 ≤ _), (by decide : 171 + 0 ≤ _)⟩)
      dsimp only [Pt.U, Pt.locs, Pt.cells, Pt.slots] at X45 l45 y45 z45 st45 hQ45
      subst l45 y45 z45
      obtain ⟨rfl, Nq45, eq45⟩ := hQ45
      have N45 := Fr.app N12 Nq45
      obtain ⟨lfs, lhr, lhrun, lhended, lhW, lhsame⟩ := X45.leave (v := some (.int (1 : Int32))) (fun h => by rw [Bd.returns] at h; cases h)
      refine ⟨_, _, k42 _ ?_, lhrun, lhended, _, _, rfl, ?_, ⟨_, rfl⟩, lhW, lhsame.mono (by decide) (by decide)⟩
      · skip
        show Steps p.tables e below (T12.setTop (mkF m 125 #[.val (.long yw), .second, .val (.long ya), .second, .val (.long yb), .second, .val (.int xm), .val (.long wd), .second, .val (.long ra), .second, .val (.long (yb &&& (9223372036854775807 : Int64))), .second, .val (.long lo), .second, .val (.long hi), .second, .val (.ref b11), .val (.long (0 : Int64)), .second, .val (.long ((0 : Int64) - ((0 : Int64) % wd))), .second, .unset, .unset] [(.int (lcmpW (((9223372036854775807 : Int64) - ((0 : Int64) - ((0 : Int64) % wd))) - wd) wd))])) _
        refine XS.ifYes X12.here hx rfl (pc0 := 125) (pc' := 138) rfl (hb hby at_125) rfl ((if0 _ _).trans (tlt ((lw_lt (((9223372036854775807 : Int64) - ((0 : Int64) - ((0 : Int64) % wd))) - wd) wd).mpr hc43)).1) (by decide) (by decide) ?_
        show Steps p.tables e below (T12.setTop (mkF m 138 #[.val (.long yw), .second, .val (.long ya), .second, .val (.long yb), .second, .val (.int xm), .val (.long wd), .second, .val (.long ra), .second, .val (.long (yb &&& (9223372036854775807 : Int64))), .second, .val (.long lo), .second, .val (.long hi), .second, .val (.ref b11), .val (.long (0 : Int64)), .second, .val (.long ((0 : Int64) - ((0 : Int64) % wd))), .second, .unset, .unset] [])) _
        refine X12.ldc2Long hx hown (mvT hZ (wd0 hw)) (g := (mkF m 138 #[.val (.long yw), .second, .val (.long ya), .second, .val (.long yb), .second, .val (.int xm), .val (.long wd), .second, .val (.long ra), .second, .val (.long (yb &&& (9223372036854775807 : Int64))), .second, .val (.long lo), .second, .val (.long hi), .second, .val (.ref b11), .val (.long (0 : Int64)), .second, .val (.long ((0 : Int64) - ((0 : Int64) % wd))), .second, .unset, .unset] [])) rfl (hb hby at_138) _ ?_
        refine XS.lstore X12.here hx rfl (hb hby at_141) rfl (l' := #[.val (.long yw), .second, .val (.long ya), .second, .val (.long yb), .second, .val (.int xm), .val (.long wd), .second, .val (.long ra), .second, .val (.long (yb &&& (9223372036854775807 : Int64))), .second, .val (.long lo), .second, .val (.long hi), .second, .val (.ref b11), .val (.long (0 : Int64)), .second, .val (.long ((0 : Int64) - ((0 : Int64) % wd))), .second, .val (.long (9223372036854775807 : Int64)), .second]) rfl ?_
        refine XS.aload X12.here hx rfl (hb hby at_143) rfl rfl ?_
        show Steps p.tables e below (T12.setTop (mkF m 145 #[.val (.long yw), .second, .val (.long ya), .second, .val (.long yb), .second, .val (.int xm), .val (.long wd), .second, .val (.long ra), .second, .val (.long (yb &&& (9223372036854775807 : Int64))), .second, .val (.long lo), .second, .val (.long hi), .second, .val (.ref b11), .val (.long (0 : Int64)), .second, .val (.long ((0 : Int64) - ((0 : Int64) % wd))), .second, .val (.long (9223372036854775807 : Int64)), .second] [(.ref b11)])) _
        refine st45.trans ?_
        show Steps p.tables e below (T45.setTop (mkF m 148 #[.val (.long yw), .second, .val (.long ya), .second, .val (.long yb), .second, .val (.int xm), .val (.long wd), .second, .val (.long ra), .second, .val (.long (yb &&& (9223372036854775807 : Int64))), .second, .val (.long lo), .second, .val (.long hi), .second, .val (.ref b11), .val (.long (0 : Int64)), .second, .val (.long ((0 : Int64) - ((0 : Int64) % wd))), .second, .val (.long (9223372036854775807 : Int64)), .second] [(.long (9223372036854775807 : Int64))])) _
        refine XS.lload X45.here hx rfl (hb hby at_148) rfl ?_
        refine XS.lcmp X45.here hx rfl (hb hby at_150) rfl ?_
        show Steps p.tables e below (T45.setTop (mkF m 151 #[.val (.long yw), .second, .val (.long ya), .second, .val (.long yb), .second, .val (.int xm), .val (.long wd), .second, .val (.long ra), .second, .val (.long (yb &&& (9223372036854775807 : Int64))), .second, .val (.long lo), .second, .val (.long hi), .second, .val (.ref b11), .val (.long (0 : Int64)), .second, .val (.long ((0 : Int64) - ((0 : Int64) % wd))), .second, .val (.long (9223372036854775807 : Int64)), .second] [(.int (lcmpW (9223372036854775807 : Int64) (9223372036854775807 : Int64)))])) _
        refine XS.ifNo X45.here hx rfl (hb hby at_151) rfl ((if0 _ _).trans (teq ((lw_eq (9223372036854775807 : Int64) (9223372036854775807 : Int64)).mpr (by decide : (9223372036854775807 : Int64) = (9223372036854775807 : Int64)))).2) ?_
        refine XS.iconst X45.here hx rfl (hb hby at_154) ?_
        refine XS.goto X45.here hx rfl (pc0 := 155) (pc' := 159) rfl (hb hby at_155) (by decide) (by decide) ?_
        show Steps p.tables e below (T45.setTop (mkF m 159 #[.val (.long yw), .second, .val (.long ya), .second, .val (.long yb), .second, .val (.int xm), .val (.long wd), .second, .val (.long ra), .second, .val (.long (yb &&& (9223372036854775807 : Int64))), .second, .val (.long lo), .second, .val (.long hi), .second, .val (.ref b11), .val (.long (0 : Int64)), .second, .val (.long ((0 : Int64) - ((0 : Int64) % wd))), .second, .val (.long (9223372036854775807 : Int64)), .second] [(.int (1 : Int32))])) _
        exact retN X45 hx (t := .boolean) Bd.returns (by simp) (hb hby at_159) lhr
      · skip
        show Q0 Z yw ya yb xm h0 n0 _ T45.heap _
        rw [eq45]
        exact ⟨rfl, N45⟩
    · skip
      have hp46 : ((0 : Int64) / wd) < (((9223372036854775807 : Int64) / wd) - (1 : Int64)) := own_pB hnow hwd hc43
      obtain ⟨cq47, kq47, q47a, q47b, q47c⟩ := isOf hZ rfl g12_67
      obtain ⟨_, _, ⟨T47, L47, kc47, ks47⟩, -, X47, ⟨Lc47, hQ47, l47, y47, z47⟩, st47⟩ := X12.virtualBack hx (y := mn2) (z := mn2) hown (mvT hZ (wd77 hw)) (mvT hZ (wd78 hw)) (notFace_of_selects (args := #[]) (mvT hZ (wd80 hw))) (mvT hZ (wd80 hw)) (mvT hZ (wd79 hw)) (by decide) (backOf (W := 0) (rmA58 l Z a0 hw [] b11 (((0 : Int64) / wd)) wd T12.heap n0 Z12 Fn41 g12_79 hw0 hp46) hZ (wd81 hw) (wd11 hw) (by decide) (by decide)) q47a q47c (g := (mkF m 145 #[.val (.long yw), .second, .val (.long ya), .second, .val (.long yb), .second, .val (.int xm), .val (.long wd), .second, .val (.long ra), .second, .val (.long (yb &&& (9223372036854775807 : Int64))), .second, .val (.long lo), .second, .val (.long hi), .second, .val (.ref b11), .val (.long (0 : Int64)), .second, .val (.long ((0 : Int64) - ((0 : Int64) % wd))), .second, .val (.long (((0 : Int64) - ((0 : Int64) % wd)) + wd)), .second] [(.ref b11)])) rfl (by rw [hml]; rfl) (Steps.refl _) (argsL := []) (rest := []) (lenOf pd___J rfl) rfl (by show 2 * 0 + _ ≤ _; exact Nat.le_of_eq rfl) (hb hby at_145) (fun _ _ => ⟨rfl, rfl, (by decide : 13 + 0 ≤ _), (by decide : 171 + 0 ≤ _)⟩)
      dsimp only [Pt.U, Pt.locs, Pt.cells, Pt.slots] at X47 l47 y47 z47 st47 hQ47
      subst l47 y47 z47
      obtain ⟨rfl, Nq47, eq47⟩ := hQ47
      have N47 := Fr.app N12 Nq47
      obtain ⟨lfs, lhr, lhrun, lhended, lhW, lhsame⟩ := X47.leave (v := some (.int (1 : Int32))) (fun h => by rw [Bd.returns] at h; cases h)
      refine ⟨_, _, k42 _ ?_, lhrun, lhended, _, _, rfl, ?_, ⟨_, rfl⟩, lhW, lhsame.mono (by decide) (by decide)⟩
      · skip
        show Steps p.tables e below (T12.setTop (mkF m 125 #[.val (.long yw), .second, .val (.long ya), .second, .val (.long yb), .second, .val (.int xm), .val (.long wd), .second, .val (.long ra), .second, .val (.long (yb &&& (9223372036854775807 : Int64))), .second, .val (.long lo), .second, .val (.long hi), .second, .val (.ref b11), .val (.long (0 : Int64)), .second, .val (.long ((0 : Int64) - ((0 : Int64) % wd))), .second, .unset, .unset] [(.int (lcmpW (((9223372036854775807 : Int64) - ((0 : Int64) - ((0 : Int64) % wd))) - wd) wd))])) _
        refine XS.ifNo X12.here hx rfl (hb hby at_125) rfl ((if0 _ _).trans (flt (fun q => hc43 ((lw_lt (((9223372036854775807 : Int64) - ((0 : Int64) - ((0 : Int64) % wd))) - wd) wd).mp q))).1) ?_
        show Steps p.tables e below (T12.setTop (mkF m 128 #[.val (.long yw), .second, .val (.long ya), .second, .val (.long yb), .second, .val (.int xm), .val (.long wd), .second, .val (.long ra), .second, .val (.long (yb &&& (9223372036854775807 : Int64))), .second, .val (.long lo), .second, .val (.long hi), .second, .val (.ref b11), .val (.long (0 : Int64)), .second, .val (.long ((0 : Int64) - ((0 : Int64) % wd))), .second, .unset, .unset] [])) _
        refine XS.lload X12.here hx rfl (hb hby at_128) rfl ?_
        refine XS.lload X12.here hx rfl (hb hby at_130) rfl ?_
        refine XS.ladd X12.here hx rfl (hb hby at_132) rfl ?_
        show Steps p.tables e below (T12.setTop (mkF m 133 #[.val (.long yw), .second, .val (.long ya), .second, .val (.long yb), .second, .val (.int xm), .val (.long wd), .second, .val (.long ra), .second, .val (.long (yb &&& (9223372036854775807 : Int64))), .second, .val (.long lo), .second, .val (.long hi), .second, .val (.ref b11), .val (.long (0 : Int64)), .second, .val (.long ((0 : Int64) - ((0 : Int64) % wd))), .second, .unset, .unset] [(.long (((0 : Int64) - ((0 : Int64) % wd)) + wd))])) _
        refine XS.lstore X12.here hx rfl (hb hby at_133) rfl (l' := #[.val (.long yw), .second, .val (.long ya), .second, .val (.long yb), .second, .val (.int xm), .val (.long wd), .second, .val (.long ra), .second, .val (.long (yb &&& (9223372036854775807 : Int64))), .second, .val (.long lo), .second, .val (.long hi), .second, .val (.ref b11), .val (.long (0 : Int64)), .second, .val (.long ((0 : Int64) - ((0 : Int64) % wd))), .second, .val (.long (((0 : Int64) - ((0 : Int64) % wd)) + wd)), .second]) rfl ?_
        refine XS.goto X12.here hx rfl (pc0 := 135) (pc' := 143) rfl (hb hby at_135) (by decide) (by decide) ?_
        refine XS.aload X12.here hx rfl (hb hby at_143) rfl rfl ?_
        show Steps p.tables e below (T12.setTop (mkF m 145 #[.val (.long yw), .second, .val (.long ya), .second, .val (.long yb), .second, .val (.int xm), .val (.long wd), .second, .val (.long ra), .second, .val (.long (yb &&& (9223372036854775807 : Int64))), .second, .val (.long lo), .second, .val (.long hi), .second, .val (.ref b11), .val (.long (0 : Int64)), .second, .val (.long ((0 : Int64) - ((0 : Int64) % wd))), .second, .val (.long (((0 : Int64) - ((0 : Int64) % wd)) + wd)), .second] [(.ref b11)])) _
        refine st47.trans ?_
        show Steps p.tables e below (T47.setTop (mkF m 148 #[.val (.long yw), .second, .val (.long ya), .second, .val (.long yb), .second, .val (.int xm), .val (.long wd), .second, .val (.long ra), .second, .val (.long (yb &&& (9223372036854775807 : Int64))), .second, .val (.long lo), .second, .val (.long hi), .second, .val (.ref b11), .val (.long (0 : Int64)), .second, .val (.long ((0 : Int64) - ((0 : Int64) % wd))), .second, .val (.long (((0 : Int64) - ((0 : Int64) % wd)) + wd)), .second] [(.long ((((0 : Int64) / wd) + (1 : Int64)) * wd))])) _
        refine XS.lload X47.here hx rfl (hb hby at_148) rfl ?_
        refine XS.lcmp X47.here hx rfl (hb hby at_150) rfl ?_
        show Steps p.tables e below (T47.setTop (mkF m 151 #[.val (.long yw), .second, .val (.long ya), .second, .val (.long yb), .second, .val (.int xm), .val (.long wd), .second, .val (.long ra), .second, .val (.long (yb &&& (9223372036854775807 : Int64))), .second, .val (.long lo), .second, .val (.long hi), .second, .val (.ref b11), .val (.long (0 : Int64)), .second, .val (.long ((0 : Int64) - ((0 : Int64) % wd))), .second, .val (.long (((0 : Int64) - ((0 : Int64) % wd)) + wd)), .second] [(.int (lcmpW ((((0 : Int64) / wd) + (1 : Int64)) * wd) (((0 : Int64) - ((0 : Int64) % wd)) + wd)))])) _
        refine XS.ifNo X47.here hx rfl (hb hby at_151) rfl ((if0 _ _).trans (teq ((lw_eq ((((0 : Int64) / wd) + (1 : Int64)) * wd) (((0 : Int64) - ((0 : Int64) % wd)) + wd)).mpr (own_eq (0 : Int64) wd))).2) ?_
        refine XS.iconst X47.here hx rfl (hb hby at_154) ?_
        refine XS.goto X47.here hx rfl (pc0 := 155) (pc' := 159) rfl (hb hby at_155) (by decide) (by decide) ?_
        show Steps p.tables e below (T47.setTop (mkF m 159 #[.val (.long yw), .second, .val (.long ya), .second, .val (.long yb), .second, .val (.int xm), .val (.long wd), .second, .val (.long ra), .second, .val (.long (yb &&& (9223372036854775807 : Int64))), .second, .val (.long lo), .second, .val (.long hi), .second, .val (.ref b11), .val (.long (0 : Int64)), .second, .val (.long ((0 : Int64) - ((0 : Int64) % wd))), .second, .val (.long (((0 : Int64) - ((0 : Int64) % wd)) + wd)), .second] [(.int (1 : Int32))])) _
        exact retN X47 hx (t := .boolean) Bd.returns (by simp) (hb hby at_159) lhr
      · skip
        show Q0 Z yw ya yb xm h0 n0 _ T47.heap _
        rw [eq47]
        exact ⟨rfl, N47⟩
set_option maxRecDepth 65536 in
set_option maxHeartbeats 40000000 in
theorem comes_1 {Post : Tables → Env → Array Value → State → Outcome → State → Prop} (hpost : ∀ tb e args s v u, (limb_1_1.after args s (.returned v) u = true ∧ limb_1_2.after args s (.returned v) u = true ∧ True) → FrameEnd s (.returned v) u (Jvm.fieldLocs frame_1_writes args s ++ Jvm.arrayLocs frame_1_arrays args s ++ Jvm.staticLocs frame_1_statics s) 40 448 → Post tb e args s (.returned v) u) :
    ArmFor flags0 classFile x code maxLocals ret World_1 tables_1 room_1 Calls_1 rest_1 Pre_1 Post := by
  intro l hfl _ _ p e ha hc hk s m args below hf hA hF happ hP
  obtain ⟨hcalls, hrest, hpre⟩ := hP
  obtain ⟨-, -, -, hnamed, -, -, -, hat⟩ := (Spec.applies_iff hf).mp happ
  obtain ⟨hg, hn⟩ := and_e (Cond.before_iff.mp (show (Jvm.Cond.and given_1 narrow_1).before args s = true from hpre))
  obtain ⟨g1a, g1b⟩ := and_e hg
  obtain ⟨g2a, g2b⟩ := and_e g1b
  obtain ⟨g3a, g3b⟩ := and_e g2b
  obtain ⟨g4a, g4b⟩ := and_e g3b
  obtain ⟨w0, w1, w2, w3, rfl⟩ : ∃ w0 w1 w2 w3 : Value, args = #[w0, w1, w2, w3] := by
    have hs : args.size = 4 := by simpa [Cond.value, given_1] using g1a
    obtain ⟨L⟩ := args
    match L, hs with
    | [w0, w1, w2, w3], _ => exact ⟨w0, w1, w2, w3, rfl⟩
  have hw := fun d (hd : d ∈ tables_1) => atoms_spec (ws := Jvm.Cond.code x code maxLocals ret :: tables_1) hat d (List.mem_cons_of_mem _ hd)
  have hfit : Fit s := fun {y c} hc i hi => by
    obtain ⟨ha, rfl⟩ := Array.getElem?_eq_some_iff.mp hc
    have q := List.all_eq_true.mp ((Array.all_eq_true_iff_forall_mem.mp hF) _ (Array.getElem_mem ha)) i (List.mem_range.mpr hi)
    simpa [Array.getElem?_eq_getElem hi] using q
  obtain ⟨i0, ei0⟩ := isL_v g2a
  obtain rfl : w0 = (.long i0) := Option.some.inj ei0
  obtain ⟨i1, ei1⟩ := isL_v g3a
  obtain rfl : w1 = (.long i1) := Option.some.inj ei1
  obtain ⟨i2, ei2⟩ := isL_v g4a
  obtain rfl : w2 = (.long i2) := Option.some.inj ei2
  obtain ⟨i3, ei3⟩ := is_v g4b
  obtain rfl : w3 = (.int i3) := Option.some.inj ei3
  obtain ⟨n, o, h1, h2, h3, _, L, rfl, ⟨rfl, N⟩, hq⟩ := rm0 l s _ hw tables_1 i0 i1 i2 i3 s.heap s.heap.size (Nat.le_refl _) (Old.start s) p e ha hc hk s m _ below hf ((Spec.applies_iff_loose hf).mp happ).1 ⟨rfl, State.Warmed39.refl s, rfl⟩ trivial
  refine ⟨n, _, h1, h2, h3, hpost _ _ _ _ _ _ ⟨Cond.after_iff.mpr rfl, Cond.after_iff.mpr (eq_i res_at (Term.int_eval (1)) rfl), trivial⟩ ⟨hq.1, hq.2.1, (hq.2.2.sift fun y hy => Or.inr (N y hy)).mono (by decide) (by decide)⟩⟩
theorem main_1_1 : Claimed_1_1 := comes_1 fun _ _ _ _ _ _ h hF => ⟨h.1, hF⟩
theorem main_1_2 : Claimed_1_2 := comes_1 fun _ _ _ _ _ _ h hF => ⟨h.2.1, hF⟩
end Jvm.Pilot.@@N@@
namespace Jvm.Pilot.@@N@@
open Jvm Jvm.ClassFile Sem Op Lib Jvm.Free Jvm.Stand Jvm.Pilot.@@N@@.Jvm.D
/-! MADE BY PROGRAM (witnessworld.py) out of the Statement's table words and the real class files: 16 classes; the members and pool entries that the words name. The judged class is class 1, her method 1. -/
namespace start1
open Jvm.ClassFile
def u (s : String) : CpInfo := .utf8 (stringToUtf16 s)
/-- a pool by its gaps: so many unusable entries, then the entry; so many at the end -/
def gap : Nat → List CpInfo → List CpInfo
  | 0, r => r
  | n + 1, r => .unusable :: gap n r
def poolList (es : List (Nat × CpInfo)) (last : Nat) : List CpInfo := es.foldr (fun e r => gap e.1 (e.2 :: r)) (gap last [])
def pool (es : List (Nat × CpInfo)) (last : Nat) : Array CpInfo := ⟨poolList es last⟩
def fileOf (pool : Array CpInfo) (this : Nat) (attrs : Array Attribute := #[]) (ms : Array MethodInfo := #[]) (fl : Nat := 33) (sup : Nat := 0) (ifs : Array Nat := #[]) (fds : Array FieldInfo := #[]) : ClassFile where
  minorVersion := 0
  majorVersion := 65
  constantPool := pool
  accessFlags := fl
  thisClass := this
  superClass := sup
  interfaces := ifs
  fields := fds
  methods := ms
  attributes := attrs
def plain (name : String) (sup : Option ClassId) : Class where
  name := name
  kind := .ordinary
  loader := none
  accessFlags := 33
  super := sup
  interfaces := #[]
  cf := none
  fields := #[]
  methods := #[]
  instanceTypes := #[]
  staticTypes := #[]
  resolved := #[]
  callSites := []
  init := .initialized
  statics := none
  mirror := none

def pool0 : Array CpInfo := pool [(5, u "<init>"), (0, u "()V"), (1, .class_ 10), (1, u "java/lang/Object")] 113

def k0c0 : Code := { maxStack := 0, maxLocals := 1, code := object_method_1_code, exceptionTable := #[], attributes := #[] }
def k0m0 : Method := { name := "<init>", desc := "()V", sig := { parameters := [], returnType := none }, accessFlags := 1, code := some k0c0 }
/-- java/lang/Object -/
def k0 : Class := { plain "java/lang/Object" none with
  accessFlags := 33
  interfaces := #[]
  cf := some (fileOf pool0 8 #[] #[{ accessFlags := 1, nameIndex := 5, descriptorIndex := 6, attributes := #[] }] 33 0 #[] #[])
  fields := #[]
  methods := #[k0m0]
  instanceTypes := #[]
  staticTypes := #[]
  resolved := Array.replicate 124 none
  statics := none }

def pool1 : Array CpInfo := pool [(2, .class_ 4), (1, u "java/lang/Object"), (0, u "<init>"), (0, u "()V"), (2, .long 9223372036854775807), (1, .methodref 12 13), (0, .class_ 14), (0, .nameAndType 15 16), (0, u "java/lang/Math"), (0, u "max"), (0, u "(JJ)J"), (0, .long 4294967295), (1, .methodref 12 20), (0, .nameAndType 21 16), (0, u "min"), (0, .class_ 23), (0, u "com/example/strict_limiter/strictlimiter/SweepSchedule"), (0, .methodref 22 25), (0, .nameAndType 5 26), (0, u "(J)V"), (0, .methodref 22 28), (0, .nameAndType 29 30), (0, u "due"), (0, u "(J)Lcom/example/strict_limiter/strictlimiter/Count;"), (0, .methodref 22 32), (0, .nameAndType 33 34), (0, u "passesAt"), (0, u "()J"), (0, .class_ 36), (0, u "com/example/strict_limiter/strictlimiter/SweepSchedulePassesAtPinLaw"), (2, u "law"), (0, u "(JJJI)Z")] 3

def k1m0 : Method := { name := "<init>", desc := "()V", sig := { parameters := [], returnType := none }, accessFlags := 1, code := none }
def k1c1 : Code := { maxStack := 6, maxLocals := 24, code := code, exceptionTable := #[], attributes := #[] }
def k1m1 : Method := { name := "law", desc := "(JJJI)Z", sig := { parameters := [.long, .long, .long, .int], returnType := some .boolean }, accessFlags := 9, code := some k1c1 }
/-- com/example/strict_limiter/strictlimiter/SweepSchedulePassesAtPinLaw -/
def k1 : Class := { plain "com/example/strict_limiter/strictlimiter/SweepSchedulePassesAtPinLaw" (some 0) with
  accessFlags := 49
  interfaces := #[]
  cf := some (fileOf pool1 35 #[] #[{ accessFlags := 1, nameIndex := 5, descriptorIndex := 6, attributes := #[] }, { accessFlags := 9, nameIndex := 39, descriptorIndex := 40, attributes := #[] }] 49 2 #[] #[])
  fields := #[]
  methods := #[k1m0, k1m1]
  instanceTypes := #[]
  staticTypes := #[]
  resolved := Array.replicate 44 none
  statics := none }

def pool2 : Array CpInfo := pool [(1, .class_ 2), (0, u "java/lang/Math"), (1, .class_ 6), (1, u "java/lang/Object"), (0, u "<init>"), (0, u "()V"), (89, .class_ 100), (1, u "java/lang/Math$RandomNumberGeneratorHolder"), (20, u "(JJ)J"), (50, u "negativeZeroFloatBits"), (0, u "J"), (2, u "negativeZeroDoubleBits"), (21, u "max"), (2, u "min"), (43, u "$assertionsDisabled"), (0, u "Z"), (91, u "twoToTheDoubleScaleDown"), (0, u "D"), (4, u "twoToTheDoubleScaleUp"), (9, u "E"), (3, u "PI"), (2, u "TAU"), (2, u "DEGREES_TO_RADIANS"), (0, u "RADIANS_TO_DEGREES")] 94

def k2m0 : Method := { name := "<init>", desc := "()V", sig := { parameters := [], returnType := none }, accessFlags := 2, code := none }
def k2c1 : Code := { maxStack := 4, maxLocals := 4, code := jdk_29_method_66_code, exceptionTable := #[], attributes := #[] }
def k2m1 : Method := { name := "max", desc := "(JJ)J", sig := { parameters := [.long, .long], returnType := some .long }, accessFlags := 9, code := some k2c1 }
def k2c2 : Code := { maxStack := 4, maxLocals := 4, code := jdk_29_method_70_code, exceptionTable := #[], attributes := #[] }
def k2m2 : Method := { name := "min", desc := "(JJ)J", sig := { parameters := [.long, .long], returnType := some .long }, accessFlags := 9, code := some k2c2 }
/-- java/lang/Math -/
def k2 : Class := { plain "java/lang/Math" (some 0) with
  accessFlags := 49
  interfaces := #[]
  cf := some (fileOf pool2 1 #[.nestMembers #[98]] #[{ accessFlags := 2, nameIndex := 7, descriptorIndex := 8, attributes := #[] }, { accessFlags := 9, nameIndex := 198, descriptorIndex := 121, attributes := #[] }, { accessFlags := 9, nameIndex := 201, descriptorIndex := 121, attributes := #[] }] 49 4 #[] #[{ accessFlags := 25, nameIndex := 354, descriptorIndex := 339, attributes := #[] }, { accessFlags := 25, nameIndex := 358, descriptorIndex := 339, attributes := #[] }, { accessFlags := 25, nameIndex := 361, descriptorIndex := 339, attributes := #[] }, { accessFlags := 26, nameIndex := 364, descriptorIndex := 339, attributes := #[] }, { accessFlags := 26, nameIndex := 365, descriptorIndex := 339, attributes := #[] }, { accessFlags := 26, nameIndex := 172, descriptorIndex := 173, attributes := #[] }, { accessFlags := 26, nameIndex := 176, descriptorIndex := 173, attributes := #[] }, { accessFlags := 8, nameIndex := 344, descriptorIndex := 339, attributes := #[] }, { accessFlags := 8, nameIndex := 338, descriptorIndex := 339, attributes := #[] }, { accessFlags := 4120, nameIndex := 245, descriptorIndex := 246, attributes := #[] }])
  fields := #[{ name := "E", type := .double, accessFlags := 25, slot := 0, constantValue := 0 }, { name := "PI", type := .double, accessFlags := 25, slot := 1, constantValue := 0 }, { name := "TAU", type := .double, accessFlags := 25, slot := 2, constantValue := 0 }, { name := "DEGREES_TO_RADIANS", type := .double, accessFlags := 26, slot := 3, constantValue := 0 }, { name := "RADIANS_TO_DEGREES", type := .double, accessFlags := 26, slot := 4, constantValue := 0 }, { name := "negativeZeroFloatBits", type := .long, accessFlags := 26, slot := 5, constantValue := 0 }, { name := "negativeZeroDoubleBits", type := .long, accessFlags := 26, slot := 6, constantValue := 0 }, { name := "twoToTheDoubleScaleUp", type := .double, accessFlags := 8, slot := 7, constantValue := 0 }, { name := "twoToTheDoubleScaleDown", type := .double, accessFlags := 8, slot := 8, constantValue := 0 }, { name := "$assertionsDisabled", type := .boolean, accessFlags := 4120, slot := 9, constantValue := 0 }]
  methods := #[k2m0, k2m1, k2m2]
  instanceTypes := #[]
  staticTypes := #[.double, .double, .double, .double, .double, .long, .long, .double, .double, .boolean]
  resolved := Array.replicate 460 none
  statics := none }

def pool3 : Array CpInfo := pool [(1, .methodref 2 3), (0, .class_ 4), (0, .nameAndType 5 6), (0, u "java/lang/Object"), (0, u "<init>"), (0, u "()V"), (0, .class_ 8), (0, u "java/util/concurrent/atomic/AtomicReference"), (0, .methodref 7 3), (0, .fieldref 11 12), (0, .class_ 13), (0, .nameAndType 14 15), (0, u "com/example/strict_limiter/strictlimiter/SweepSchedule"), (0, u "handedIn"), (0, u "Ljava/util/concurrent/atomic/AtomicReference;"), (0, .class_ 17), (0, u "[Lcom/example/strict_limiter/strictlimiter/Count;"), (0, .fieldref 11 19), (0, .nameAndType 20 21), (0, u "kept"), (0, u "[[Lcom/example/strict_limiter/strictlimiter/Count;"), (0, .fieldref 11 23), (0, .nameAndType 24 25), (0, u "sizes"), (0, u "[I"), (0, .class_ 27), (0, u "com/example/strict_limiter/strictlimiter/Count"), (0, .fieldref 11 29), (0, .nameAndType 30 17), (0, u "taken"), (0, .fieldref 11 32), (0, .nameAndType 33 34), (0, u "width"), (0, u "J"), (14, u "arrivals"), (0, u "Lcom/example/strict_limiter/strictlimiter/Count;"), (6, u "next"), (4, .fieldref 11 63), (0, .nameAndType 57 34), (0, .methodref 65 66), (0, .class_ 67), (0, .nameAndType 68 69), (0, u "java/lang/Math"), (0, u "max"), (0, u "(JJ)J"), (0, .long 8), (4, .methodref 76 77), (0, .class_ 78), (0, .nameAndType 79 80), (0, u "java/lang/System"), (0, u "arraycopy"), (0, u "(Ljava/lang/Object;ILjava/lang/Object;II)V"), (0, .fieldref 11 82), (0, .nameAndType 83 84), (0, u "total"), (0, u "I"), (0, .fieldref 11 86), (0, .nameAndType 87 84), (0, u "handed"), (0, .fieldref 11 89), (0, .nameAndType 90 84), (0, u "takenSize"), (0, .methodref 11 92), (0, .nameAndType 93 94), (0, u "take"), (0, u "(J)V"), (2, .long 9223372036854775807), (1, .methodref 11 100), (0, .nameAndType 101 6), (0, u "takeAll"), (0, .methodref 11 103), (0, .nameAndType 104 105), (0, u "roomAfter"), (0, u "([Lcom/example/strict_limiter/strictlimiter/Count;I)[Lcom/example/strict_limiter/strictlimiter/Count;"), (3, .methodref 110 111), (0, .class_ 112), (0, .nameAndType 113 114), (0, u "java/util/Arrays"), (0, u "fill"), (0, u "([Ljava/lang/Object;IILjava/lang/Object;)V"), (0, u "SLOTS"), (2, u "LEAST_ROOM"), (11, u "due"), (0, u "(J)Lcom/example/strict_limiter/strictlimiter/Count;"), (2, u "passesAt"), (0, u "()J")] 2

def k3c0 : Code := { maxStack := 3, maxLocals := 4, code := prog_49_method_1_code, exceptionTable := #[], attributes := #[] }
def k3m0 : Method := { name := "<init>", desc := "(J)V", sig := { parameters := [.long], returnType := none }, accessFlags := 0, code := some k3c0 }
def k3c1 : Code := { maxStack := 5, maxLocals := 4, code := prog_49_method_5_code, exceptionTable := #[], attributes := #[] }
def k3m1 : Method := { name := "due", desc := "(J)Lcom/example/strict_limiter/strictlimiter/Count;", sig := { parameters := [.long], returnType := some (.object "com/example/strict_limiter/strictlimiter/Count") }, accessFlags := 0, code := some k3c1 }
def k3c2 : Code := { maxStack := 6, maxLocals := 1, code := prog_49_method_7_code, exceptionTable := #[], attributes := #[] }
def k3m2 : Method := { name := "passesAt", desc := "()J", sig := { parameters := [], returnType := some .long }, accessFlags := 0, code := some k3c2 }
def k3c3 : Code := { maxStack := 5, maxLocals := 5, code := prog_49_method_8_code, exceptionTable := #[], attributes := #[] }
def k3m3 : Method := { name := "take", desc := "(J)V", sig := { parameters := [.long], returnType := none }, accessFlags := 2, code := some k3c3 }
def k3c4 : Code := { maxStack := 6, maxLocals := 2, code := prog_49_method_9_code, exceptionTable := #[], attributes := #[] }
def k3m4 : Method := { name := "takeAll", desc := "()V", sig := { parameters := [], returnType := none }, accessFlags := 2, code := some k3c4 }
def k3c5 : Code := { maxStack := 4, maxLocals := 3, code := prog_49_method_10_code, exceptionTable := #[], attributes := #[] }
def k3m5 : Method := { name := "roomAfter", desc := "([Lcom/example/strict_limiter/strictlimiter/Count;I)[Lcom/example/strict_limiter/strictlimiter/Count;", sig := { parameters := [(.array (.object "com/example/strict_limiter/strictlimiter/Count")), .int], returnType := some (.array (.object "com/example/strict_limiter/strictlimiter/Count")) }, accessFlags := 10, code := some k3c5 }
/-- com/example/strict_limiter/strictlimiter/SweepSchedule -/
def k3 : Class := { plain "com/example/strict_limiter/strictlimiter/SweepSchedule" (some 0) with
  accessFlags := 48
  interfaces := #[]
  cf := some (fileOf pool3 11 #[] #[{ accessFlags := 0, nameIndex := 5, descriptorIndex := 94, attributes := #[] }, { accessFlags := 0, nameIndex := 130, descriptorIndex := 131, attributes := #[] }, { accessFlags := 0, nameIndex := 134, descriptorIndex := 135, attributes := #[] }, { accessFlags := 2, nameIndex := 93, descriptorIndex := 94, attributes := #[] }, { accessFlags := 2, nameIndex := 101, descriptorIndex := 6, attributes := #[] }, { accessFlags := 10, nameIndex := 104, descriptorIndex := 105, attributes := #[] }] 48 2 #[] #[{ accessFlags := 26, nameIndex := 115, descriptorIndex := 84, attributes := #[] }, { accessFlags := 26, nameIndex := 118, descriptorIndex := 84, attributes := #[] }, { accessFlags := 18, nameIndex := 33, descriptorIndex := 34, attributes := #[] }, { accessFlags := 18, nameIndex := 14, descriptorIndex := 15, attributes := #[] }, { accessFlags := 2, nameIndex := 49, descriptorIndex := 50, attributes := #[] }, { accessFlags := 18, nameIndex := 20, descriptorIndex := 21, attributes := #[] }, { accessFlags := 18, nameIndex := 24, descriptorIndex := 25, attributes := #[] }, { accessFlags := 2, nameIndex := 83, descriptorIndex := 84, attributes := #[] }, { accessFlags := 2, nameIndex := 57, descriptorIndex := 34, attributes := #[] }, { accessFlags := 2, nameIndex := 30, descriptorIndex := 17, attributes := #[] }, { accessFlags := 2, nameIndex := 90, descriptorIndex := 84, attributes := #[] }, { accessFlags := 2, nameIndex := 87, descriptorIndex := 84, attributes := #[] }])
  fields := #[{ name := "SLOTS", type := .int, accessFlags := 26, slot := 0, constantValue := 0 }, { name := "LEAST_ROOM", type := .int, accessFlags := 26, slot := 1, constantValue := 0 }, { name := "width", type := .long, accessFlags := 18, slot := 0, constantValue := 0 }, { name := "handedIn", type := (.object "java/util/concurrent/atomic/AtomicReference"), accessFlags := 18, slot := 1, constantValue := 0 }, { name := "arrivals", type := (.object "com/example/strict_limiter/strictlimiter/Count"), accessFlags := 2, slot := 2, constantValue := 0 }, { name := "kept", type := (.array (.array (.object "com/example/strict_limiter/strictlimiter/Count"))), accessFlags := 18, slot := 3, constantValue := 0 }, { name := "sizes", type := (.array .int), accessFlags := 18, slot := 4, constantValue := 0 }, { name := "total", type := .int, accessFlags := 2, slot := 5, constantValue := 0 }, { name := "next", type := .long, accessFlags := 2, slot := 6, constantValue := 0 }, { name := "taken", type := (.array (.object "com/example/strict_limiter/strictlimiter/Count")), accessFlags := 2, slot := 7, constantValue := 0 }, { name := "takenSize", type := .int, accessFlags := 2, slot := 8, constantValue := 0 }, { name := "handed", type := .int, accessFlags := 2, slot := 9, constantValue := 0 }]
  methods := #[k3m0, k3m1, k3m2, k3m3, k3m4, k3m5]
  instanceTypes := #[.long, (.object "java/util/concurrent/atomic/AtomicReference"), (.object "com/example/strict_limiter/strictlimiter/Count"), (.array (.array (.object "com/example/strict_limiter/strictlimiter/Count"))), (.array .int), .int, .long, (.array (.object "com/example/strict_limiter/strictlimiter/Count")), .int, .int]
  staticTypes := #[.int, .int]
  resolved := Array.replicate 138 none
  statics := none }

def pool4 : Array CpInfo := pool [(1, .class_ 2), (0, u "java/io/Serializable"), (0, .class_ 4), (0, u "java/lang/Object")] 2

/-- java/io/Serializable -/
def k4 : Class := { plain "java/io/Serializable" (some 0) with
  accessFlags := 1537
  interfaces := #[]
  cf := some (fileOf pool4 1 #[] #[] 1537 3 #[] #[])
  fields := #[]
  methods := #[]
  instanceTypes := #[]
  staticTypes := #[]
  resolved := Array.replicate 7 none
  statics := none }

def pool5 : Array CpInfo := pool [(1, .methodref 2 3), (0, .class_ 4), (0, .nameAndType 5 6), (0, u "java/lang/Object"), (0, u "<init>"), (0, u "()V"), (1, .class_ 10), (1, u "java/util/concurrent/atomic/AtomicReference"), (0, u "value"), (0, u "Ljava/lang/Object;"), (2, u "VALUE"), (0, u "Ljava/lang/invoke/VarHandle;"), (96, .class_ 114), (0, u "java/io/Serializable"), (0, u "serialVersionUID"), (0, u "J")] 61

def k5c0 : Code := { maxStack := 1, maxLocals := 1, code := jdk_2809_method_2_code, exceptionTable := #[], attributes := #[] }
def k5m0 : Method := { name := "<init>", desc := "()V", sig := { parameters := [], returnType := none }, accessFlags := 1, code := some k5c0 }
/-- java/util/concurrent/atomic/AtomicReference -/
def k5 : Class := { plain "java/util/concurrent/atomic/AtomicReference" (some 0) with
  accessFlags := 33
  interfaces := #[4]
  cf := some (fileOf pool5 8 #[] #[{ accessFlags := 1, nameIndex := 5, descriptorIndex := 6, attributes := #[] }] 33 2 #[113] #[{ accessFlags := 26, nameIndex := 115, descriptorIndex := 116, attributes := #[] }, { accessFlags := 26, nameIndex := 15, descriptorIndex := 16, attributes := #[] }, { accessFlags := 66, nameIndex := 11, descriptorIndex := 12, attributes := #[] }])
  fields := #[{ name := "serialVersionUID", type := .long, accessFlags := 26, slot := 0, constantValue := 0 }, { name := "VALUE", type := (.object "java/lang/invoke/VarHandle"), accessFlags := 26, slot := 1, constantValue := 0 }, { name := "value", type := (.object "java/lang/Object"), accessFlags := 66, slot := 0, constantValue := 0 }]
  methods := #[k5m0]
  instanceTypes := #[(.object "java/lang/Object")]
  staticTypes := #[.long, (.object "java/lang/invoke/VarHandle")]
  resolved := Array.replicate 178 none
  statics := none }

def pool6 : Array CpInfo := pool [(2, .class_ 4), (1, u "java/lang/Object"), (0, u "<init>"), (0, u "()V"), (18, .class_ 27), (1, u "com/example/strict_limiter/strictlimiter/SpinLock"), (0, u "STATE"), (0, u "Ljava/lang/invoke/VarHandle;"), (32, u "state"), (10, u "MOST_PAUSES"), (0, u "I"), (2, u "FREE"), (1, u "HELD"), (1, u "DROPPED")] 17

def k6m0 : Method := { name := "<init>", desc := "()V", sig := { parameters := [], returnType := none }, accessFlags := 0, code := none }
/-- com/example/strict_limiter/strictlimiter/SpinLock -/
def k6 : Class := { plain "com/example/strict_limiter/strictlimiter/SpinLock" (some 0) with
  accessFlags := 32
  interfaces := #[]
  cf := some (fileOf pool6 25 #[] #[{ accessFlags := 0, nameIndex := 5, descriptorIndex := 6, attributes := #[] }] 32 2 #[] #[{ accessFlags := 26, nameIndex := 73, descriptorIndex := 74, attributes := #[] }, { accessFlags := 26, nameIndex := 77, descriptorIndex := 74, attributes := #[] }, { accessFlags := 26, nameIndex := 79, descriptorIndex := 74, attributes := #[] }, { accessFlags := 26, nameIndex := 81, descriptorIndex := 74, attributes := #[] }, { accessFlags := 26, nameIndex := 28, descriptorIndex := 29, attributes := #[] }, { accessFlags := 66, nameIndex := 62, descriptorIndex := 74, attributes := #[] }])
  fields := #[{ name := "MOST_PAUSES", type := .int, accessFlags := 26, slot := 0, constantValue := 0 }, { name := "FREE", type := .int, accessFlags := 26, slot := 1, constantValue := 0 }, { name := "HELD", type := .int, accessFlags := 26, slot := 2, constantValue := 0 }, { name := "DROPPED", type := .int, accessFlags := 26, slot := 3, constantValue := 0 }, { name := "STATE", type := (.object "java/lang/invoke/VarHandle"), accessFlags := 26, slot := 4, constantValue := 0 }, { name := "state", type := .int, accessFlags := 66, slot := 0, constantValue := 0 }]
  methods := #[k6m0]
  instanceTypes := #[.int]
  staticTypes := #[.int, .int, .int, .int, (.object "java/lang/invoke/VarHandle")]
  resolved := Array.replicate 99 none
  statics := none }

def pool7 : Array CpInfo := pool [(4, .class_ 6), (1, u "com/example/strict_limiter/strictlimiter/SpinLock"), (0, u "<init>"), (0, u "()V"), (0, .class_ 10), (0, u "com/example/strict_limiter/strictlimiter/Count"), (4, u "touched"), (0, u "J"), (2, u "name"), (0, u "Ljava/lang/String;"), (2, u "hash"), (0, u "I"), (2, u "CHAIN"), (0, u "Ljava/lang/invoke/VarHandle;"), (8, u "chain"), (0, u "Lcom/example/strict_limiter/strictlimiter/Count;"), (6, u "next"), (2, u "waiting"), (17, u "NEVER_LIVE")] 33

def k7m0 : Method := { name := "<init>", desc := "()V", sig := { parameters := [], returnType := none }, accessFlags := 0, code := none }
/-- com/example/strict_limiter/strictlimiter/Count -/
def k7 : Class := { plain "com/example/strict_limiter/strictlimiter/Count" (some 6) with
  accessFlags := 1056
  interfaces := #[]
  cf := some (fileOf pool7 9 #[] #[{ accessFlags := 0, nameIndex := 7, descriptorIndex := 8, attributes := #[] }] 1056 4 #[] #[{ accessFlags := 26, nameIndex := 27, descriptorIndex := 28, attributes := #[] }, { accessFlags := 26, nameIndex := 66, descriptorIndex := 16, attributes := #[] }, { accessFlags := 2, nameIndex := 15, descriptorIndex := 16, attributes := #[] }, { accessFlags := 2, nameIndex := 19, descriptorIndex := 20, attributes := #[] }, { accessFlags := 2, nameIndex := 23, descriptorIndex := 24, attributes := #[] }, { accessFlags := 2, nameIndex := 37, descriptorIndex := 38, attributes := #[] }, { accessFlags := 2, nameIndex := 45, descriptorIndex := 38, attributes := #[] }, { accessFlags := 2, nameIndex := 48, descriptorIndex := 24, attributes := #[] }])
  fields := #[{ name := "CHAIN", type := (.object "java/lang/invoke/VarHandle"), accessFlags := 26, slot := 0, constantValue := 0 }, { name := "NEVER_LIVE", type := .long, accessFlags := 26, slot := 1, constantValue := 0 }, { name := "touched", type := .long, accessFlags := 2, slot := 1, constantValue := 0 }, { name := "name", type := (.object "java/lang/String"), accessFlags := 2, slot := 2, constantValue := 0 }, { name := "hash", type := .int, accessFlags := 2, slot := 3, constantValue := 0 }, { name := "chain", type := (.object "com/example/strict_limiter/strictlimiter/Count"), accessFlags := 2, slot := 4, constantValue := 0 }, { name := "next", type := (.object "com/example/strict_limiter/strictlimiter/Count"), accessFlags := 2, slot := 5, constantValue := 0 }, { name := "waiting", type := .int, accessFlags := 2, slot := 6, constantValue := 0 }]
  methods := #[k7m0]
  instanceTypes := #[.int, .long, (.object "java/lang/String"), .int, (.object "com/example/strict_limiter/strictlimiter/Count"), (.object "com/example/strict_limiter/strictlimiter/Count"), .int]
  staticTypes := #[(.object "java/lang/invoke/VarHandle"), .long]
  resolved := Array.replicate 100 none
  statics := none }

def pool8 : Array CpInfo := pool [(2, .class_ 4), (1, u "java/lang/Object"), (0, u "<init>"), (0, u "()V"), (1, .class_ 10), (1, u "java/lang/System"), (0, u "allowSecurityManager"), (0, u "I"), (16, u "cons"), (0, u "Ljava/io/Console;"), (77, .class_ 110), (1, u "java/lang/System$CallersHolder"), (43, u "initialErrStream"), (0, u "Ljava/io/PrintStream;"), (19, u "security"), (0, u "Ljava/lang/SecurityManager;"), (31, .class_ 209), (0, u "java/lang/System$1"), (7, u "props"), (0, u "Ljava/util/Properties;"), (2, u "lineSeparator"), (0, u "Ljava/lang/String;"), (96, .class_ 321), (1, u "java/lang/System$LoggerFinder"), (5, .class_ 328), (0, u "java/lang/System$Logger"), (67, u "err"), (2, u "out"), (91, u "notSupportedJnuEncoding"), (15, u "in"), (17, u "initialIn"), (0, u "Ljava/io/InputStream;"), (35, u "bootLayer"), (0, u "Ljava/lang/ModuleLayer;"), (99, .class_ 664), (0, u "java/lang/System$2"), (9, u "NEVER"), (2, u "MAYBE"), (49, u "arraycopy"), (0, u "(Ljava/lang/Object;ILjava/lang/Object;II)V"), (72, .class_ 802), (0, u "java/lang/System$Logger$Level")] 31

def k8m0 : Method := { name := "<init>", desc := "()V", sig := { parameters := [], returnType := none }, accessFlags := 2, code := none }
def k8m1 : Method := { name := "arraycopy", desc := "(Ljava/lang/Object;ILjava/lang/Object;II)V", sig := { parameters := [(.object "java/lang/Object"), .int, (.object "java/lang/Object"), .int, .int], returnType := none }, accessFlags := 265, code := none }
/-- java/lang/System -/
def k8 : Class := { plain "java/lang/System" (some 0) with
  accessFlags := 49
  interfaces := #[]
  cf := some (fileOf pool8 8 #[.nestMembers #[319, 327, 801, 108, 663, 208]] #[{ accessFlags := 2, nameIndex := 5, descriptorIndex := 6, attributes := #[] }, { accessFlags := 265, nameIndex := 727, descriptorIndex := 728, attributes := #[] }] 49 2 #[] #[{ accessFlags := 25, nameIndex := 507, descriptorIndex := 526, attributes := #[] }, { accessFlags := 25, nameIndex := 399, descriptorIndex := 155, attributes := #[] }, { accessFlags := 25, nameIndex := 396, descriptorIndex := 155, attributes := #[] }, { accessFlags := 10, nameIndex := 525, descriptorIndex := 526, attributes := #[] }, { accessFlags := 26, nameIndex := 674, descriptorIndex := 12, attributes := #[] }, { accessFlags := 26, nameIndex := 677, descriptorIndex := 12, attributes := #[] }, { accessFlags := 10, nameIndex := 11, descriptorIndex := 12, attributes := #[] }, { accessFlags := 74, nameIndex := 175, descriptorIndex := 176, attributes := #[] }, { accessFlags := 10, nameIndex := 491, descriptorIndex := 222, attributes := #[] }, { accessFlags := 74, nameIndex := 29, descriptorIndex := 30, attributes := #[] }, { accessFlags := 74, nameIndex := 154, descriptorIndex := 155, attributes := #[] }, { accessFlags := 10, nameIndex := 217, descriptorIndex := 218, attributes := #[] }, { accessFlags := 10, nameIndex := 221, descriptorIndex := 222, attributes := #[] }, { accessFlags := 8, nameIndex := 562, descriptorIndex := 563, attributes := #[] }])
  fields := #[{ name := "in", type := (.object "java/io/InputStream"), accessFlags := 25, slot := 0, constantValue := 0 }, { name := "out", type := (.object "java/io/PrintStream"), accessFlags := 25, slot := 1, constantValue := 0 }, { name := "err", type := (.object "java/io/PrintStream"), accessFlags := 25, slot := 2, constantValue := 0 }, { name := "initialIn", type := (.object "java/io/InputStream"), accessFlags := 10, slot := 3, constantValue := 0 }, { name := "NEVER", type := .int, accessFlags := 26, slot := 4, constantValue := 0 }, { name := "MAYBE", type := .int, accessFlags := 26, slot := 5, constantValue := 0 }, { name := "allowSecurityManager", type := .int, accessFlags := 10, slot := 6, constantValue := 0 }, { name := "security", type := (.object "java/lang/SecurityManager"), accessFlags := 74, slot := 7, constantValue := 0 }, { name := "notSupportedJnuEncoding", type := (.object "java/lang/String"), accessFlags := 10, slot := 8, constantValue := 0 }, { name := "cons", type := (.object "java/io/Console"), accessFlags := 74, slot := 9, constantValue := 0 }, { name := "initialErrStream", type := (.object "java/io/PrintStream"), accessFlags := 74, slot := 10, constantValue := 0 }, { name := "props", type := (.object "java/util/Properties"), accessFlags := 10, slot := 11, constantValue := 0 }, { name := "lineSeparator", type := (.object "java/lang/String"), accessFlags := 10, slot := 12, constantValue := 0 }, { name := "bootLayer", type := (.object "java/lang/ModuleLayer"), accessFlags := 8, slot := 13, constantValue := 0 }]
  methods := #[k8m0, k8m1]
  instanceTypes := #[]
  staticTypes := #[(.object "java/io/InputStream"), (.object "java/io/PrintStream"), (.object "java/io/PrintStream"), (.object "java/io/InputStream"), .int, .int, .int, (.object "java/lang/SecurityManager"), (.object "java/lang/String"), (.object "java/io/Console"), (.object "java/io/PrintStream"), (.object "java/util/Properties"), (.object "java/lang/String"), (.object "java/lang/ModuleLayer")]
  resolved := Array.replicate 834 none
  statics := none }

def pool9 : Array CpInfo := pool [(2, .class_ 4), (1, u "java/lang/Object"), (0, u "<init>"), (0, u "()V"), (6, .methodref 14 15), (0, .class_ 16), (0, .nameAndType 17 18), (0, u "java/util/Arrays"), (0, u "rangeCheck"), (0, u "(III)V"), (55, .class_ 76), (1, u "java/util/Arrays$NaturalOrder"), (36, .class_ 115), (1, u "java/util/Arrays$LegacyMergeSort"), (1, u "Z"), (257, .class_ 376), (0, u "java/util/Arrays$ArrayList"), (68, u "$assertionsDisabled"), (269, u "MIN_ARRAY_SORT_GRAN"), (0, u "I"), (2, u "INSERTIONSORT_THRESHOLD"), (120, u "fill"), (18, u "([Ljava/lang/Object;IILjava/lang/Object;)V"), (115, .class_ 976), (0, u "java/util/Arrays$ArrayItr")] 52

def k9m0 : Method := { name := "<init>", desc := "()V", sig := { parameters := [], returnType := none }, accessFlags := 2, code := none }
def k9c1 : Code := { maxStack := 4, maxLocals := 3, code := jdk_65_method_30_code, exceptionTable := #[], attributes := #[] }
def k9m1 : Method := { name := "rangeCheck", desc := "(III)V", sig := { parameters := [.int, .int, .int], returnType := none }, accessFlags := 8, code := some k9c1 }
def k9c2 : Code := { maxStack := 3, maxLocals := 5, code := jdk_65_method_118_code, exceptionTable := #[], attributes := #[] }
def k9m2 : Method := { name := "fill", desc := "([Ljava/lang/Object;IILjava/lang/Object;)V", sig := { parameters := [(.array (.object "java/lang/Object")), .int, .int, (.object "java/lang/Object")], returnType := none }, accessFlags := 9, code := some k9c2 }
/-- java/util/Arrays -/
def k9 : Class := { plain "java/util/Arrays" (some 0) with
  accessFlags := 49
  interfaces := #[]
  cf := some (fileOf pool9 14 #[.nestMembers #[975, 375, 113, 74]] #[{ accessFlags := 2, nameIndex := 5, descriptorIndex := 6, attributes := #[] }, { accessFlags := 8, nameIndex := 17, descriptorIndex := 18, attributes := #[] }, { accessFlags := 9, nameIndex := 840, descriptorIndex := 859, attributes := #[] }] 49 2 #[] #[{ accessFlags := 26, nameIndex := 715, descriptorIndex := 716, attributes := #[] }, { accessFlags := 26, nameIndex := 719, descriptorIndex := 716, attributes := #[] }, { accessFlags := 4120, nameIndex := 445, descriptorIndex := 117, attributes := #[] }])
  fields := #[{ name := "MIN_ARRAY_SORT_GRAN", type := .int, accessFlags := 26, slot := 0, constantValue := 0 }, { name := "INSERTIONSORT_THRESHOLD", type := .int, accessFlags := 26, slot := 1, constantValue := 0 }, { name := "$assertionsDisabled", type := .boolean, accessFlags := 4120, slot := 2, constantValue := 0 }]
  methods := #[k9m0, k9m1, k9m2]
  instanceTypes := #[]
  staticTypes := #[.int, .int, .boolean]
  resolved := Array.replicate 1029 none
  statics := none }

def pool10 : Array CpInfo := pool [(1, u "java/lang/Cloneable"), (0, .class_ 1), (0, u "java/lang/Object"), (0, .class_ 3)] 3

/-- java/lang/Cloneable -/
def k10 : Class := { plain "java/lang/Cloneable" (some 0) with
  accessFlags := 1537
  interfaces := #[]
  cf := some (fileOf pool10 2 #[] #[] 1537 4 #[] #[])
  fields := #[]
  methods := #[]
  instanceTypes := #[]
  staticTypes := #[]
  resolved := Array.replicate 8 none
  statics := none }

/-- the primitive byte -/
def k11 : Class := { plain "byte" none with kind := .primitive 'B', accessFlags := 0x411 }
/-- [B -/
def k12 : Class := { plain "[B" (some 0) with kind := .array 11 .byte, interfaces := #[10, 4], accessFlags := 1041 }

/-- the primitive int -/
def k13 : Class := { plain "int" none with kind := .primitive 'I', accessFlags := 0x411 }
/-- [I -/
def k14 : Class := { plain "[I" (some 0) with kind := .array 13 .int, interfaces := #[10, 4], accessFlags := 1041 }

/-- [Lcom/example/strict_limiter/strictlimiter/Count; -/
def k15 : Class := { plain "[Lcom/example/strict_limiter/strictlimiter/Count;" (some 0) with kind := .array 7 (.object "com/example/strict_limiter/strictlimiter/Count"), interfaces := #[10, 4], accessFlags := 1041 }

def heap : Heap := #[]
def k16 : Class := { plain "[[Lcom/example/strict_limiter/strictlimiter/Count;" (some 0) with kind := .array 15 (.array (.object "com/example/strict_limiter/strictlimiter/Count")), interfaces := #[10, 4], accessFlags := 1041 }
def classes : Array Class := #[k0, k1, k2, k3, k4, k5, k6, k7, k8, k9, k10, k11, k12, k13, k14, k15, k16]
def interned : List (Array UInt16 × Addr) := []
def slotsUsed : Nat := 0
def theMethod : MethodId := ⟨1, 1⟩
def args0 : Array Value := #[.long 5, .long 7, .long 9, .int 3]
def aboutOver (below : List Frame) : State where
  vm := { classes := classes, interned := interned.toArray }
  heap := heap
  slotsUsed := slotsUsed
  threads := #[{ frames := .invoking theMethod args0 :: below }]
def below0 : List Frame := [.native { method := ⟨0, 0⟩, args := #[] }]
def about1 : State := aboutOver below0
def p0 : Program := .bare "" "" ""
def e0 : Env := launch0.env 0 0 0
theorem w_frames : about1.frames = Frame.invoking theMethod args0 :: below0 := rfl
set_option maxRecDepth 65536 in
theorem w_args : argsFit about1.vm theMethod args0 = true := by decide +kernel
set_option maxRecDepth 65536 in
theorem w_heap : heapFits about1 = true := by decide +kernel
set_option maxRecDepth 65536 in
theorem w_runnable : about1.curStatus? = some .runnable := by decide +kernel
set_option maxRecDepth 65536 in
theorem w_alone : about1.alone = true := by decide +kernel
set_option maxRecDepth 65536 in
theorem w_named : about1.methodNamed? x = some theMethod := by decide +kernel
set_option maxRecDepth 65536 in
theorem w_hears : about1.hears theMethod below0 = true := by decide +kernel
set_option maxRecDepth 65536 in
theorem w_ripe : about1.ripe theMethod args0 below0 = true := by decide +kernel
theorem w_running : about1.status = .running := rfl
set_option maxRecDepth 65536 in
theorem w_room : about1.hasRoom e0.platform room_1 = true :=
  launch0.hasRoom_least _ room_1 (by decide +kernel) (by decide +kernel) (by decide +kernel) (by decide +kernel) (by decide +kernel) (by decide +kernel)
theorem allAtoms_all (ts : List Jvm.Cond) (a : Array Jvm.Value) (st : Jvm.State) : (allAtoms ts).before a st = ts.all (fun c => c.before a st) := by
  induction ts with
  | nil => rfl
  | cons c t ih =>
    show (Jvm.Cond.and c (allAtoms t)).before a st = _
    rw [Jvm.Cond.before_and, ih, List.all_cons]
def words1 : List Jvm.Cond := Jvm.Cond.code x code maxLocals ret :: tables_1
/-- a 'code' word, met by the world's own term for the bytes: nothing is compared byte by byte -/
theorem code_word {y : MethodName} {bytes : ByteArray} {mx : Nat} {rt : Option FieldType} {a : Array Value} {s : State} {m : MethodId} {meth : Method} {c : Code} (h1 : s.methodNamed? y = some m) (h2 : s.vm.method? m = some meth) (h3 : meth.code = some c) (h4 : c.code = bytes)
    (h5 : (c.maxLocals == mx && c.exceptionTable.isEmpty && decide (c.maxStack ≤ mostOperands) && decide (meth.sig.returnType = rt) && !meth.locks && decide (parseMethodDescriptor y.desc = some meth.sig)) = true) : (Jvm.Cond.code y bytes mx rt).before a s = true := by
  simp only [Bool.and_eq_true, beq_iff_eq, Bool.not_eq_true', decide_eq_true_eq] at h5
  obtain ⟨⟨⟨⟨⟨g1, g2⟩, g3⟩, g4⟩, g5⟩, g6⟩ := h5
  simp [Cond.before, Cond.holds, Cond.value, h1, h2, h3, h4, g1, g2, g3, g4, g5, g6]
def isCode : Jvm.Cond → Bool
  | .code _ _ _ _ => true
  | _ => false
theorem all_split {L : List Jvm.Cond} {P : Jvm.Cond → Bool} (h1 : L.all (fun c => isCode c || P c) = true) (h2 : ∀ c ∈ L.filter isCode, P c = true) : L.all P = true := by
  refine List.all_eq_true.mpr fun c hc => ?_
  have h := List.all_eq_true.mp h1 c hc
  rcases Bool.eq_false_or_eq_true (isCode c) with hi | hi
  · exact h2 c (List.mem_filter.mpr ⟨hc, hi⟩)
  · simpa [hi] using h
set_option maxRecDepth 65536 in
theorem w_c0 : (Jvm.Cond.code x code maxLocals ret).before args0 about1 = true := code_word (m := ⟨1, 1⟩) (meth := k1m1) (c := k1c1) (by decide +kernel) rfl rfl rfl (by decide +kernel)
set_option maxRecDepth 65536 in
theorem w_c1 : (Jvm.Cond.code ({ cls := "java/lang/Math", name := "max", desc := "(JJ)J" } : Jvm.MethodName) jdk_29_method_66_code (4 : Nat) (Option.some Jvm.ClassFile.FieldType.long)).before args0 about1 = true := code_word (m := ⟨2, 1⟩) (meth := k2m1) (c := k2c1) (by decide +kernel) rfl rfl rfl (by decide +kernel)
set_option maxRecDepth 65536 in
theorem w_c2 : (Jvm.Cond.code ({ cls := "java/lang/Math", name := "min", desc := "(JJ)J" } : Jvm.MethodName) jdk_29_method_70_code (4 : Nat) (Option.some Jvm.ClassFile.FieldType.long)).before args0 about1 = true := code_word (m := ⟨2, 2⟩) (meth := k2m2) (c := k2c2) (by decide +kernel) rfl rfl rfl (by decide +kernel)
set_option maxRecDepth 65536 in
theorem w_c3 : (Jvm.Cond.code ({ cls := "com/example/strict_limiter/strictlimiter/SweepSchedule", name := "<init>", desc := "(J)V" } : Jvm.MethodName) prog_49_method_1_code (4 : Nat) (Option.none : Option Jvm.ClassFile.FieldType)).before args0 about1 = true := code_word (m := ⟨3, 0⟩) (meth := k3m0) (c := k3c0) (by decide +kernel) rfl rfl rfl (by decide +kernel)
set_option maxRecDepth 65536 in
theorem w_c4 : (Jvm.Cond.code ({ cls := "java/lang/Object", name := "<init>", desc := "()V" } : Jvm.MethodName) object_method_1_code (1 : Nat) (Option.none : Option Jvm.ClassFile.FieldType)).before args0 about1 = true := code_word (m := ⟨0, 0⟩) (meth := k0m0) (c := k0c0) (by decide +kernel) rfl rfl rfl (by decide +kernel)
set_option maxRecDepth 65536 in
theorem w_c5 : (Jvm.Cond.code ({ cls := "java/util/concurrent/atomic/AtomicReference", name := "<init>", desc := "()V" } : Jvm.MethodName) jdk_2809_method_2_code (1 : Nat) (Option.none : Option Jvm.ClassFile.FieldType)).before args0 about1 = true := code_word (m := ⟨5, 0⟩) (meth := k5m0) (c := k5c0) (by decide +kernel) rfl rfl rfl (by decide +kernel)
set_option maxRecDepth 65536 in
theorem w_c6 : (Jvm.Cond.code ({ cls := "com/example/strict_limiter/strictlimiter/SweepSchedule", name := "due", desc := "(J)Lcom/example/strict_limiter/strictlimiter/Count;" } : Jvm.MethodName) prog_49_method_5_code (4 : Nat) (Option.some (Jvm.ClassFile.FieldType.object "com/example/strict_limiter/strictlimiter/Count"))).before args0 about1 = true := code_word (m := ⟨3, 1⟩) (meth := k3m1) (c := k3c1) (by decide +kernel) rfl rfl rfl (by decide +kernel)
set_option maxRecDepth 65536 in
theorem w_c7 : (Jvm.Cond.code ({ cls := "com/example/strict_limiter/strictlimiter/SweepSchedule", name := "take", desc := "(J)V" } : Jvm.MethodName) prog_49_method_8_code (5 : Nat) (Option.none : Option Jvm.ClassFile.FieldType)).before args0 about1 = true := code_word (m := ⟨3, 3⟩) (meth := k3m3) (c := k3c3) (by decide +kernel) rfl rfl rfl (by decide +kernel)
set_option maxRecDepth 65536 in
theorem w_c8 : (Jvm.Cond.code ({ cls := "com/example/strict_limiter/strictlimiter/SweepSchedule", name := "takeAll", desc := "()V" } : Jvm.MethodName) prog_49_method_9_code (2 : Nat) (Option.none : Option Jvm.ClassFile.FieldType)).before args0 about1 = true := code_word (m := ⟨3, 4⟩) (meth := k3m4) (c := k3c4) (by decide +kernel) rfl rfl rfl (by decide +kernel)
set_option maxRecDepth 65536 in
theorem w_c9 : (Jvm.Cond.code ({ cls := "com/example/strict_limiter/strictlimiter/SweepSchedule", name := "roomAfter", desc := "([Lcom/example/strict_limiter/strictlimiter/Count;I)[Lcom/example/strict_limiter/strictlimiter/Count;" } : Jvm.MethodName) prog_49_method_10_code (3 : Nat) (Option.some (Jvm.ClassFile.FieldType.array (Jvm.ClassFile.FieldType.object "com/example/strict_limiter/strictlimiter/Count")))).before args0 about1 = true := code_word (m := ⟨3, 5⟩) (meth := k3m5) (c := k3c5) (by decide +kernel) rfl rfl rfl (by decide +kernel)
set_option maxRecDepth 65536 in
theorem w_c10 : (Jvm.Cond.code ({ cls := "java/util/Arrays", name := "fill", desc := "([Ljava/lang/Object;IILjava/lang/Object;)V" } : Jvm.MethodName) jdk_65_method_118_code (5 : Nat) (Option.none : Option Jvm.ClassFile.FieldType)).before args0 about1 = true := code_word (m := ⟨9, 2⟩) (meth := k9m2) (c := k9c2) (by decide +kernel) rfl rfl rfl (by decide +kernel)
set_option maxRecDepth 65536 in
theorem w_c11 : (Jvm.Cond.code ({ cls := "java/util/Arrays", name := "rangeCheck", desc := "(III)V" } : Jvm.MethodName) jdk_65_method_30_code (3 : Nat) (Option.none : Option Jvm.ClassFile.FieldType)).before args0 about1 = true := code_word (m := ⟨9, 1⟩) (meth := k9m1) (c := k9c1) (by decide +kernel) rfl rfl rfl (by decide +kernel)
set_option maxRecDepth 65536 in
theorem w_c12 : (Jvm.Cond.code ({ cls := "com/example/strict_limiter/strictlimiter/SweepSchedule", name := "passesAt", desc := "()J" } : Jvm.MethodName) prog_49_method_7_code (1 : Nat) (Option.some Jvm.ClassFile.FieldType.long)).before args0 about1 = true := code_word (m := ⟨3, 2⟩) (meth := k3m2) (c := k3c2) (by decide +kernel) rfl rfl rfl (by decide +kernel)
def codes1 : List Jvm.Cond := [Jvm.Cond.code x code maxLocals ret, Jvm.Cond.code ({ cls := "java/lang/Math", name := "max", desc := "(JJ)J" } : Jvm.MethodName) jdk_29_method_66_code (4 : Nat) (Option.some Jvm.ClassFile.FieldType.long), Jvm.Cond.code ({ cls := "java/lang/Math", name := "min", desc := "(JJ)J" } : Jvm.MethodName) jdk_29_method_70_code (4 : Nat) (Option.some Jvm.ClassFile.FieldType.long), Jvm.Cond.code ({ cls := "com/example/strict_limiter/strictlimiter/SweepSchedule", name := "<init>", desc := "(J)V" } : Jvm.MethodName) prog_49_method_1_code (4 : Nat) (Option.none : Option Jvm.ClassFile.FieldType), Jvm.Cond.code ({ cls := "java/lang/Object", name := "<init>", desc := "()V" } : Jvm.MethodName) object_method_1_code (1 : Nat) (Option.none : Option Jvm.ClassFile.FieldType), Jvm.Cond.code ({ cls := "java/util/concurrent/atomic/AtomicReference", name := "<init>", desc := "()V" } : Jvm.MethodName) jdk_2809_method_2_code (1 : Nat) (Option.none : Option Jvm.ClassFile.FieldType), Jvm.Cond.code ({ cls := "com/example/strict_limiter/strictlimiter/SweepSchedule", name := "due", desc := "(J)Lcom/example/strict_limiter/strictlimiter/Count;" } : Jvm.MethodName) prog_49_method_5_code (4 : Nat) (Option.some (Jvm.ClassFile.FieldType.object "com/example/strict_limiter/strictlimiter/Count")), Jvm.Cond.code ({ cls := "com/example/strict_limiter/strictlimiter/SweepSchedule", name := "take", desc := "(J)V" } : Jvm.MethodName) prog_49_method_8_code (5 : Nat) (Option.none : Option Jvm.ClassFile.FieldType), Jvm.Cond.code ({ cls := "com/example/strict_limiter/strictlimiter/SweepSchedule", name := "takeAll", desc := "()V" } : Jvm.MethodName) prog_49_method_9_code (2 : Nat) (Option.none : Option Jvm.ClassFile.FieldType), Jvm.Cond.code ({ cls := "com/example/strict_limiter/strictlimiter/SweepSchedule", name := "roomAfter", desc := "([Lcom/example/strict_limiter/strictlimiter/Count;I)[Lcom/example/strict_limiter/strictlimiter/Count;" } : Jvm.MethodName) prog_49_method_10_code (3 : Nat) (Option.some (Jvm.ClassFile.FieldType.array (Jvm.ClassFile.FieldType.object "com/example/strict_limiter/strictlimiter/Count"))), Jvm.Cond.code ({ cls := "java/util/Arrays", name := "fill", desc := "([Ljava/lang/Object;IILjava/lang/Object;)V" } : Jvm.MethodName) jdk_65_method_118_code (5 : Nat) (Option.none : Option Jvm.ClassFile.FieldType), Jvm.Cond.code ({ cls := "java/util/Arrays", name := "rangeCheck", desc := "(III)V" } : Jvm.MethodName) jdk_65_method_30_code (3 : Nat) (Option.none : Option Jvm.ClassFile.FieldType), Jvm.Cond.code ({ cls := "com/example/strict_limiter/strictlimiter/SweepSchedule", name := "passesAt", desc := "()J" } : Jvm.MethodName) prog_49_method_7_code (1 : Nat) (Option.some Jvm.ClassFile.FieldType.long)]
set_option maxRecDepth 65536 in
theorem codes_eq : words1.filter isCode = codes1 := rfl
theorem w_codes : ∀ c ∈ words1.filter isCode, c.before args0 about1 = true := by
  rw [codes_eq]
  intro c hc
  simp only [codes1, List.mem_cons, List.not_mem_nil, or_false] at hc
  rcases hc with rfl | rfl | rfl | rfl | rfl | rfl | rfl | rfl | rfl | rfl | rfl | rfl | rfl
  · exact w_c0
  · exact w_c1
  · exact w_c2
  · exact w_c3
  · exact w_c4
  · exact w_c5
  · exact w_c6
  · exact w_c7
  · exact w_c8
  · exact w_c9
  · exact w_c10
  · exact w_c11
  · exact w_c12
set_option maxRecDepth 65536 in
theorem w_t1 : (words1.take 24).all (fun c => isCode c || c.before args0 about1) = true := by decide +kernel
set_option maxRecDepth 65536 in
theorem w_t2 : ((words1.drop 24).take 24).all (fun c => isCode c || c.before args0 about1) = true := by decide +kernel
set_option maxRecDepth 65536 in
theorem w_t3 : (((words1.drop 24).drop 24).take 24).all (fun c => isCode c || c.before args0 about1) = true := by decide +kernel
set_option maxRecDepth 65536 in
theorem w_t4 : (((words1.drop 24).drop 24).drop 24).all (fun c => isCode c || c.before args0 about1) = true := by decide +kernel
theorem w_tables : (allAtoms (Jvm.Cond.code x code maxLocals ret :: tables_1)).before args0 about1 = true := by
  rw [allAtoms_all]
  show words1.all (fun c => c.before args0 about1) = true
  refine all_split ?_ w_codes
  rw [← List.take_append_drop 24 words1, List.all_append, w_t1, ← List.take_append_drop 24 (words1.drop 24), List.all_append, w_t2, ← List.take_append_drop 24 ((words1.drop 24).drop 24), List.all_append, w_t3, w_t4]
  rfl
set_option maxRecDepth 65536 in
theorem w_case : (Jvm.Cond.and given_1 narrow_1).before args0 about1 = true := by decide +kernel
theorem w_applies : (headSpec (Jvm.Cond.code x code maxLocals ret :: tables_1) room_1).applies x e0.platform about1 = true :=
  (Spec.applies_iff w_frames).mpr ⟨w_running, w_runnable, w_alone, w_named, w_hears, w_ripe, w_room, w_tables⟩
theorem atStart : AtStart classFile x code maxLocals ret World_1 tables_1 room_1 Calls_1 rest_1 Pre_1 launch0 p0 e0 about1 theMethod args0 below0 :=
  ⟨lists_1, trivial, launch0.admits_env _ _ _, launch0.least_env, fairChoices_fair.cas, fairChoices_fair.clock, w_frames, w_args, w_heap, w_applies, trivial, trivial, w_case⟩
end start1
theorem witness_1 : WitnessClaimed_1 := ⟨start1.p0, start1.e0, start1.about1, start1.theMethod, start1.args0, start1.below0, start1.atStart⟩
end Jvm.Pilot.@@N@@

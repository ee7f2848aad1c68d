import JvmDerived
import JvmDerived.Pilot.@@N@@Statement
import JvmDerived.Pilot.@@N@@Code
set_option linter.unusedVariables false
set_option linter.unusedSimpArgs false
namespace Jvm.RoadKit
open Sem ClassFile Op Lib Jvm.Stand Jvm.Free Jvm.LawKit
section New
variable {p : Program} {l : Launch} {e : Env} {R : Room} {s : State} {m : MethodId} {args : Array Value} {below : List Frame} {meth : Method} {c : Code} {T : State} {locs : List Loc} {cells slots : Nat}
theorem retI (X : Stand p l e R s m args below meth c T locs cells slots) (hx : p.tables.exec = Jvm.exec) {pc : Nat} {Ls : Array Slot} {z : Int32} {rest : List Value} (hret : meth.sig.returnType = some .int) (hd : decode c.code pc = .ok (.ireturn, 1)) {fs : List Frame}
    (hl : ∀ (f : JFrame) (acts : List Action), f.method = m → f.locked = none → f.entered = [] → (doReturn e (T.setTop f) acts (some (.int z))).1 = T.setFrames fs) : Steps p.tables e below (T.setTop (mkF m pc Ls (.int z :: rest))) (T.setFrames fs) :=
  retOut X hx hret rfl (Or.inl ⟨rfl, Or.inl rfl, z, rfl⟩) hd hl
theorem own_lremM {g : JFrame} {target : State} (X : Stand p l e R s m args below meth c T locs cells slots) (hx : p.tables.exec = Jvm.exec) (hg : g.method = m) {x y : Int64} {rest : List Value} (hd : decode c.code g.pc = .ok (.lrem, 1)) (hs : g.stack = .long y :: .long x :: rest) (hy : y ≠ 0)
    (hr : Steps p.tables e below (T.setTop { g with pc := g.pc + 1, stack := .long (x % y) :: rest }) target) : Steps p.tables e below (T.setTop g) target := by
  have q : x - x / y * y = x % y := lrem_mod x y
  exact XS.lrem X.here hx hg hd hs hy (by rw [q]; exact hr)
theorem own_evInt {Z : State} {args : Array Value} {t : Term} {k : Int32} (h : (Jvm.Cond.eq t (.int k)).value args Z none Z [] = some true) : t.eval args Z none [] Z = some (.int k) := by
  obtain ⟨x, y, h1, h2, -, -⟩ := cmp_v (Or.inl h)
  have hy : y = .int k := Option.some.inj (h2.symm.trans (Term.int_eval k))
  subst hy
  have hx : x = .int k := by
    cases x <;> simp [Cond.value, h1, h2] at h ⊢
    exact h
  rw [h1, hx]
theorem own_selPriv {y : MethodName} {kI : Nat} (hI : (Jvm.Cond.instantiable y.cls kI).before args s = true) (hpriv : s.PrivateAt y) (hinst : (Jvm.Cond.instanceMethod y).before args s = true) (hy : y.cls ≠ "java/lang/invoke/MethodHandle" ∧ y.cls ≠ "java/lang/invoke/VarHandle") : (Jvm.Cond.selects y.cls y y).before args s = true := by
  obtain ⟨c, k, h1, h2, -, h4, -⟩ := Cond.instantiable_spec hI
  exact selects_self_of_private h1 h2 (Bool.or_eq_false_iff.mp h4).1 hpriv hinst hy
theorem own_since0 (s : State) : s.Since s.vm 0 := (State.WarmedH.refl s).since _
theorem own_irr32 (x : Int32) : ¬ (x < x) := Int32.lt_irrefl
theorem own_irr64 (x : Int64) : ¬ (x < x) := Int64.lt_irrefl
theorem own_fldInt {Z : State} {args : Array Value} {t : Term} {a : Addr} {C n d : String} {k : Int32} (ev : t.eval args Z none [] Z = some (.ref a)) (h : (Jvm.Cond.eq (.field t C n d) (.int k)).value args Z none Z [] = some true) : Fld Z Z.heap a C n d (.int k) := by
  obtain ⟨x, y, h1, h2, -, -⟩ := cmp_v (Or.inl h)
  have hy : y = .int k := Option.some.inj (h2.symm.trans (Term.int_eval k))
  subst hy
  have hx : x = .int k := by
    cases x <;> simp [Cond.value, h1, h2] at h ⊢
    exact h
  rw [fld_at ev] at h1
  exact Fld.start (hx ▸ h1)
end New
end Jvm.RoadKit
namespace Jvm.RoadKit
open Sem ClassFile Op Lib Bundle Jvm.Stand Jvm.Free Jvm.LawKit Jvm.Free.SB Jvm.Free.SBG
theorem own_safeArv {Z : State} {EL : List (String × Nat)} {vm : Vm} {h : Heap} {x : Addr} {k : ClassId} {ty : FieldType} {z : Int32} {vs : List Value} {d : Value} (hal : Z.vm.Alike vm) (V : Arv Z h x k ty z vs d) (ht : ty ≠ .byte) : Safe Z EL vm h x := by
  obtain ⟨c, A, -⟩ := V; exact Safe.arr hal A ht
theorem own_backSafe {p : Program} {l : Launch} {e : Env} {R : Room} {s : State} {args : Array Value} {below : List Frame} {Z : State} {a0 : Array Value} {EL : List (String × Nat)} {h : Heap} {vm0 : Vm} {ss : List Addr} {y : MethodName} {bytes : ByteArray} {maxL : Nat} {ret : Option FieldType} {rm : Room} {len W : Nat} {as' : Array Value} {Q : Option Value → Heap → List Loc → Prop}
    (hM : MetFree l y (head1 [Cond.code y bytes maxL ret] rm) (fun a U => a = as' ∧ Z.Warmed39 U.vm ∧ U.heap = h ∧ CHv Z EL U.vm h ∧ ∀ x ∈ ss, Safe Z EL U.vm h x) (fun _ _ _ _ _ => True) (fun _ U o U' => ∃ v L, o = .returned v ∧ Q v U'.heap L ∧ CHr Z EL U.vm U.heap U'.vm U'.heap ∧ ReturnedEndW U o U' L rm.cells rm.slots))
    (hZ : Z.Warmed39 vm0) (wc : (Cond.code y bytes maxL ret).before a0 Z = true) (wz : (Cond.initialized y.cls).before a0 Z = true) (hf : rm.frames + 1 ≤ R.frames) (hl : W + (maxL + 11) + rm.locals ≤ R.locals) (hEL : EW Z a0 EL) (H : CHv Z EL vm0 h) (hs : ∀ x ∈ ss, x < h.size ∧ Safe Z EL vm0 h x) :
    BackS l R p e below (s.setVm vm0) args y len W (fun A a => a = as' ∧ A.U.heap = h ∧ A.cells + rm.cells ≤ R.cells ∧ A.slots + rm.slots ≤ R.slots)
      (fun A _ v B => ∃ L, Q v B.U.heap L ∧ B.locs = A.locs ++ L ∧ B.cells = A.cells + rm.cells ∧ B.slots = A.slots + rm.slots ∧ CHr Z EL vm0 h B.U.vm B.U.heap) := by
  refine BackS.of_freeW (bytes := bytes) (maxL := maxL) (ret := ret) (E := fun _ first o t L k n => k = rm.cells ∧ n = rm.slots ∧ (∃ v, o = .returned v ∧ Q v t.heap L) ∧ CHr Z EL first.vm first.heap t.vm t.heap) hM hf hl ?_ ?_ (fun _ _ _ _ _ _ _ _ _ => trivial) ?_ ?_
  · intro m meth c A a Y hp
    have hU : Z.Warmed39 A.U.vm := wtrans (s := s.setVm vm0) hZ Y.warmed
    exact ⟨by show (Cond.and _ .tt).before a A.U = true; rw [Cond.before_and, mv hU wc]; rfl, mv hU wc, mv hU wz, hp.2.2.1, hp.2.2.2⟩
  · intro m meth c A a g mk Y hp
    have q := CHv.at Y hZ hEL H
    exact ⟨hp.1, wtrans (s := s.setVm vm0) hZ Y.warmed, hp.2.1, q.1, fun x hx => q.safe (hs x hx).1 (hs x hx).2⟩
  · intro a first o t hq
    obtain ⟨v, L, h1, h2, h3, h4⟩ := hq
    exact ⟨L, _, _, h4, rfl, rfl, ⟨v, h1, h2⟩, h3⟩
  · intro m meth c A a g mk v t L k n Y hp _ _ hE
    obtain ⟨e1, e2, ⟨v', e3, e4⟩, e5⟩ := hE
    cases e3; subst e1 e2
    refine ⟨L, e4, rfl, rfl, rfl, (CHv.at Y hZ hEL H).trans ?_⟩
    rw [← hp.2.1]; exact e5
end Jvm.RoadKit
namespace Jvm.Pilot.@@N@@
open Jvm Jvm.ClassFile Sem Op Lib Jvm.Free Jvm.Stand Jvm.LawKit Jvm.RoadKit Bundle Jvm.Pilot.@@N@@.Jvm.D
theorem wd0 {a0 : Array Value} {Z : State} (hw : ∀ d ∈ tables_1, d.before a0 Z = true) : (Jvm.Cond.constant "com/example/aloq/aloq/engine/NewTaskDelaySecondsPinLaw" (7 : Nat) (2147483647 : Int32)).before a0 Z = true := hw _ (List.mem_of_getElem? (i := 0) rfl)
theorem wd1 {a0 : Array Value} {Z : State} (hw : ∀ d ∈ tables_1, d.before a0 Z = true) : (Jvm.Cond.constant "com/example/aloq/aloq/engine/NewTaskDelaySecondsPinLaw" (8 : Nat) (31536001 : Int32)).before a0 Z = true := hw _ (List.mem_of_getElem? (i := 1) rfl)
theorem wd2 {a0 : Array Value} {Z : State} (hw : ∀ d ∈ tables_1, d.before a0 Z = true) : (Jvm.Cond.classLink "com/example/aloq/aloq/engine/NewTaskDelaySecondsPinLaw" (9 : Nat) "com/example/aloq/aloq/engine/NewTask").before a0 Z = true := hw _ (List.mem_of_getElem? (i := 2) rfl)
theorem wd3 {a0 : Array Value} {Z : State} (hw : ∀ d ∈ tables_1, d.before a0 Z = true) : (Jvm.Cond.instantiable "com/example/aloq/aloq/engine/NewTask" (7 : Nat)).before a0 Z = true := hw _ (List.mem_of_getElem? (i := 3) rfl)
theorem wd4 {a0 : Array Value} {Z : State} (hw : ∀ d ∈ tables_1, d.before a0 Z = true) : (Jvm.Cond.initialized "com/example/aloq/aloq/engine/NewTask").before a0 Z = true := hw _ (List.mem_of_getElem? (i := 4) rfl)
theorem wd5 {a0 : Array Value} {Z : State} (hw : ∀ d ∈ tables_1, d.before a0 Z = true) : (Jvm.Cond.stringLink "com/example/aloq/aloq/engine/NewTaskDelaySecondsPinLaw" (11 : Nat) "q").before a0 Z = true := hw _ (List.mem_of_getElem? (i := 5) rfl)
theorem wd6 {a0 : Array Value} {Z : State} (hw : ∀ d ∈ tables_1, d.before a0 Z = true) : (Jvm.Cond.initialized "java/lang/String").before a0 Z = true := hw _ (List.mem_of_getElem? (i := 6) rfl)
theorem wd7 {a0 : Array Value} {Z : State} (hw : ∀ d ∈ tables_1, d.before a0 Z = true) : (Jvm.Cond.instantiable "java/lang/String" (4 : Nat)).before a0 Z = true := hw _ (List.mem_of_getElem? (i := 7) rfl)
theorem wd8 {a0 : Array Value} {Z : State} (hw : ∀ d ∈ tables_1, d.before a0 Z = true) : (Jvm.Cond.arrayClass Jvm.ClassFile.FieldType.byte).before a0 Z = true := hw _ (List.mem_of_getElem? (i := 8) rfl)
theorem wd13 {a0 : Array Value} {Z : State} (hw : ∀ d ∈ tables_1, d.before a0 Z = true) : (Jvm.Cond.stringLink "com/example/aloq/aloq/engine/NewTaskDelaySecondsPinLaw" (13 : Nat) "{}").before a0 Z = true := hw _ (List.mem_of_getElem? (i := 13) rfl)
theorem wd14 {a0 : Array Value} {Z : State} (hw : ∀ d ∈ tables_1, d.before a0 Z = true) : (Jvm.Cond.methodLink "com/example/aloq/aloq/engine/NewTaskDelaySecondsPinLaw" (15 : Nat) ({ cls := "com/example/aloq/aloq/engine/NewTask", name := "<init>", desc := "(Ljava/lang/String;Ljava/lang/String;)V" } : Jvm.MethodName)).before a0 Z = true := hw _ (List.mem_of_getElem? (i := 14) rfl)
theorem wd15 {a0 : Array Value} {Z : State} (hw : ∀ d ∈ tables_1, d.before a0 Z = true) : (Jvm.Cond.instanceMethod ({ cls := "com/example/aloq/aloq/engine/NewTask", name := "<init>", desc := "(Ljava/lang/String;Ljava/lang/String;)V" } : Jvm.MethodName)).before a0 Z = true := hw _ (List.mem_of_getElem? (i := 15) rfl)
theorem wd16 {a0 : Array Value} {Z : State} (hw : ∀ d ∈ tables_1, d.before a0 Z = true) : (Jvm.Cond.code ({ cls := "com/example/aloq/aloq/engine/NewTask", name := "<init>", desc := "(Ljava/lang/String;Ljava/lang/String;)V" } : Jvm.MethodName) prog_13_method_1_code (3 : Nat) (Option.none : Option Jvm.ClassFile.FieldType)).before a0 Z = true := hw _ (List.mem_of_getElem? (i := 16) rfl)
theorem wd17 {a0 : Array Value} {Z : State} (hw : ∀ d ∈ tables_1, d.before a0 Z = true) : (Jvm.Cond.methodLink "com/example/aloq/aloq/engine/NewTask" (1 : Nat) ({ cls := "java/lang/Object", name := "<init>", desc := "()V" } : Jvm.MethodName)).before a0 Z = true := hw _ (List.mem_of_getElem? (i := 17) rfl)
theorem wd18 {a0 : Array Value} {Z : State} (hw : ∀ d ∈ tables_1, d.before a0 Z = true) : (Jvm.Cond.instanceMethod ({ cls := "java/lang/Object", name := "<init>", desc := "()V" } : Jvm.MethodName)).before a0 Z = true := hw _ (List.mem_of_getElem? (i := 18) rfl)
theorem wd19 {a0 : Array Value} {Z : State} (hw : ∀ d ∈ tables_1, d.before a0 Z = true) : (Jvm.Cond.code ({ cls := "java/lang/Object", name := "<init>", desc := "()V" } : Jvm.MethodName) object_method_1_code (1 : Nat) (Option.none : Option Jvm.ClassFile.FieldType)).before a0 Z = true := hw _ (List.mem_of_getElem? (i := 19) rfl)
theorem wd20 {a0 : Array Value} {Z : State} (hw : ∀ d ∈ tables_1, d.before a0 Z = true) : (Jvm.Cond.fieldLink "com/example/aloq/aloq/engine/NewTask" (9 : Nat) "com/example/aloq/aloq/engine/NewTask" "maxAttempts" "I").before a0 Z = true := hw _ (List.mem_of_getElem? (i := 20) rfl)
theorem wd21 {a0 : Array Value} {Z : State} (hw : ∀ d ∈ tables_1, d.before a0 Z = true) : (Jvm.Cond.lays "com/example/aloq/aloq/engine/NewTask" "com/example/aloq/aloq/engine/NewTask" "maxAttempts" "I").before a0 Z = true := hw _ (List.mem_of_getElem? (i := 21) rfl)
theorem wd22 {a0 : Array Value} {Z : State} (hw : ∀ d ∈ tables_1, d.before a0 Z = true) : (Jvm.Cond.fieldLink "com/example/aloq/aloq/engine/NewTask" (13 : Nat) "com/example/aloq/aloq/engine/NewTask" "retryBackoffSeconds" "I").before a0 Z = true := hw _ (List.mem_of_getElem? (i := 22) rfl)
theorem wd23 {a0 : Array Value} {Z : State} (hw : ∀ d ∈ tables_1, d.before a0 Z = true) : (Jvm.Cond.lays "com/example/aloq/aloq/engine/NewTask" "com/example/aloq/aloq/engine/NewTask" "retryBackoffSeconds" "I").before a0 Z = true := hw _ (List.mem_of_getElem? (i := 23) rfl)
theorem wd24 {a0 : Array Value} {Z : State} (hw : ∀ d ∈ tables_1, d.before a0 Z = true) : (Jvm.Cond.methodLink "com/example/aloq/aloq/engine/NewTask" (16 : Nat) ({ cls := "com/example/aloq/aloq/engine/QueueName", name := "check", desc := "(Ljava/lang/String;)Ljava/lang/String;" } : Jvm.MethodName)).before a0 Z = true := hw _ (List.mem_of_getElem? (i := 24) rfl)
theorem wd25 {a0 : Array Value} {Z : State} (hw : ∀ d ∈ tables_1, d.before a0 Z = true) : (Jvm.Cond.static ({ cls := "com/example/aloq/aloq/engine/QueueName", name := "check", desc := "(Ljava/lang/String;)Ljava/lang/String;" } : Jvm.MethodName)).before a0 Z = true := hw _ (List.mem_of_getElem? (i := 25) rfl)
theorem wd26 {a0 : Array Value} {Z : State} (hw : ∀ d ∈ tables_1, d.before a0 Z = true) : (Jvm.Cond.initialized "com/example/aloq/aloq/engine/QueueName").before a0 Z = true := hw _ (List.mem_of_getElem? (i := 26) rfl)
theorem wd27 {a0 : Array Value} {Z : State} (hw : ∀ d ∈ tables_1, d.before a0 Z = true) : (Jvm.Cond.code ({ cls := "com/example/aloq/aloq/engine/QueueName", name := "check", desc := "(Ljava/lang/String;)Ljava/lang/String;" } : Jvm.MethodName) prog_16_method_2_code (3 : Nat) (Option.some (Jvm.ClassFile.FieldType.object "java/lang/String"))).before a0 Z = true := hw _ (List.mem_of_getElem? (i := 27) rfl)
theorem wd28 {a0 : Array Value} {Z : State} (hw : ∀ d ∈ tables_1, d.before a0 Z = true) : (Jvm.Cond.methodLink "com/example/aloq/aloq/engine/QueueName" (7 : Nat) ({ cls := "java/lang/String", name := "isEmpty", desc := "()Z" } : Jvm.MethodName)).before a0 Z = true := hw _ (List.mem_of_getElem? (i := 28) rfl)
theorem wd29 {a0 : Array Value} {Z : State} (hw : ∀ d ∈ tables_1, d.before a0 Z = true) : (Jvm.Cond.declares ({ cls := "java/lang/String", name := "isEmpty", desc := "()Z" } : Jvm.MethodName)).before a0 Z = true := hw _ (List.mem_of_getElem? (i := 29) rfl)
theorem wd30 {a0 : Array Value} {Z : State} (hw : ∀ d ∈ tables_1, d.before a0 Z = true) : (Jvm.Cond.instanceMethod ({ cls := "java/lang/String", name := "isEmpty", desc := "()Z" } : Jvm.MethodName)).before a0 Z = true := hw _ (List.mem_of_getElem? (i := 30) rfl)
theorem wd31 {a0 : Array Value} {Z : State} (hw : ∀ d ∈ tables_1, d.before a0 Z = true) : (Jvm.Cond.selects "java/lang/String" ({ cls := "java/lang/String", name := "isEmpty", desc := "()Z" } : Jvm.MethodName) ({ cls := "java/lang/String", name := "isEmpty", desc := "()Z" } : Jvm.MethodName)).before a0 Z = true := hw _ (List.mem_of_getElem? (i := 31) rfl)
theorem wd32 {a0 : Array Value} {Z : State} (hw : ∀ d ∈ tables_1, d.before a0 Z = true) : (Jvm.Cond.code ({ cls := "java/lang/String", name := "isEmpty", desc := "()Z" } : Jvm.MethodName) jdk_42_method_55_code (1 : Nat) (Option.some Jvm.ClassFile.FieldType.boolean)).before a0 Z = true := hw _ (List.mem_of_getElem? (i := 32) rfl)
theorem wd33 {a0 : Array Value} {Z : State} (hw : ∀ d ∈ tables_1, d.before a0 Z = true) : (Jvm.Cond.fieldLink "java/lang/String" (9 : Nat) "java/lang/String" "value" "[B").before a0 Z = true := hw _ (List.mem_of_getElem? (i := 33) rfl)
theorem wd34 {a0 : Array Value} {Z : State} (hw : ∀ d ∈ tables_1, d.before a0 Z = true) : (Jvm.Cond.methodLink "com/example/aloq/aloq/engine/QueueName" (13 : Nat) ({ cls := "java/lang/String", name := "length", desc := "()I" } : Jvm.MethodName)).before a0 Z = true := hw _ (List.mem_of_getElem? (i := 34) rfl)
theorem wd35 {a0 : Array Value} {Z : State} (hw : ∀ d ∈ tables_1, d.before a0 Z = true) : (Jvm.Cond.declares ({ cls := "java/lang/String", name := "length", desc := "()I" } : Jvm.MethodName)).before a0 Z = true := hw _ (List.mem_of_getElem? (i := 35) rfl)
theorem wd36 {a0 : Array Value} {Z : State} (hw : ∀ d ∈ tables_1, d.before a0 Z = true) : (Jvm.Cond.instanceMethod ({ cls := "java/lang/String", name := "length", desc := "()I" } : Jvm.MethodName)).before a0 Z = true := hw _ (List.mem_of_getElem? (i := 36) rfl)
theorem wd37 {a0 : Array Value} {Z : State} (hw : ∀ d ∈ tables_1, d.before a0 Z = true) : (Jvm.Cond.selects "java/lang/String" ({ cls := "java/lang/String", name := "length", desc := "()I" } : Jvm.MethodName) ({ cls := "java/lang/String", name := "length", desc := "()I" } : Jvm.MethodName)).before a0 Z = true := hw _ (List.mem_of_getElem? (i := 37) rfl)
theorem wd38 {a0 : Array Value} {Z : State} (hw : ∀ d ∈ tables_1, d.before a0 Z = true) : (Jvm.Cond.code ({ cls := "java/lang/String", name := "length", desc := "()I" } : Jvm.MethodName) jdk_42_method_54_code (1 : Nat) (Option.some Jvm.ClassFile.FieldType.int)).before a0 Z = true := hw _ (List.mem_of_getElem? (i := 38) rfl)
theorem wd39 {a0 : Array Value} {Z : State} (hw : ∀ d ∈ tables_1, d.before a0 Z = true) : (Jvm.Cond.methodLink "java/lang/String" (335 : Nat) ({ cls := "java/lang/String", name := "coder", desc := "()B" } : Jvm.MethodName)).before a0 Z = true := hw _ (List.mem_of_getElem? (i := 39) rfl)
theorem wd40 {a0 : Array Value} {Z : State} (hw : ∀ d ∈ tables_1, d.before a0 Z = true) : (Jvm.Cond.declares ({ cls := "java/lang/String", name := "coder", desc := "()B" } : Jvm.MethodName)).before a0 Z = true := hw _ (List.mem_of_getElem? (i := 40) rfl)
theorem wd41 {a0 : Array Value} {Z : State} (hw : ∀ d ∈ tables_1, d.before a0 Z = true) : (Jvm.Cond.instanceMethod ({ cls := "java/lang/String", name := "coder", desc := "()B" } : Jvm.MethodName)).before a0 Z = true := hw _ (List.mem_of_getElem? (i := 41) rfl)
theorem wd42 {a0 : Array Value} {Z : State} (hw : ∀ d ∈ tables_1, d.before a0 Z = true) : (Jvm.Cond.selects "java/lang/String" ({ cls := "java/lang/String", name := "coder", desc := "()B" } : Jvm.MethodName) ({ cls := "java/lang/String", name := "coder", desc := "()B" } : Jvm.MethodName)).before a0 Z = true := hw _ (List.mem_of_getElem? (i := 42) rfl)
theorem wd43 {a0 : Array Value} {Z : State} (hw : ∀ d ∈ tables_1, d.before a0 Z = true) : (Jvm.Cond.code ({ cls := "java/lang/String", name := "coder", desc := "()B" } : Jvm.MethodName) jdk_42_method_152_code (1 : Nat) (Option.some Jvm.ClassFile.FieldType.byte)).before a0 Z = true := hw _ (List.mem_of_getElem? (i := 43) rfl)
theorem wd44 {a0 : Array Value} {Z : State} (hw : ∀ d ∈ tables_1, d.before a0 Z = true) : (Jvm.Cond.fieldLink "java/lang/String" (38 : Nat) "java/lang/String" "COMPACT_STRINGS" "Z").before a0 Z = true := hw _ (List.mem_of_getElem? (i := 44) rfl)
theorem wd45 {a0 : Array Value} {Z : State} (hw : ∀ d ∈ tables_1, d.before a0 Z = true) : (Jvm.Cond.fieldLink "java/lang/String" (15 : Nat) "java/lang/String" "coder" "B").before a0 Z = true := hw _ (List.mem_of_getElem? (i := 45) rfl)
theorem wd46 {a0 : Array Value} {Z : State} (hw : ∀ d ∈ tables_1, d.before a0 Z = true) : (Jvm.Cond.methodLink "com/example/aloq/aloq/engine/QueueName" (23 : Nat) ({ cls := "java/lang/String", name := "charAt", desc := "(I)C" } : Jvm.MethodName)).before a0 Z = true := hw _ (List.mem_of_getElem? (i := 46) rfl)
theorem wd47 {a0 : Array Value} {Z : State} (hw : ∀ d ∈ tables_1, d.before a0 Z = true) : (Jvm.Cond.declares ({ cls := "java/lang/String", name := "charAt", desc := "(I)C" } : Jvm.MethodName)).before a0 Z = true := hw _ (List.mem_of_getElem? (i := 47) rfl)
theorem wd48 {a0 : Array Value} {Z : State} (hw : ∀ d ∈ tables_1, d.before a0 Z = true) : (Jvm.Cond.instanceMethod ({ cls := "java/lang/String", name := "charAt", desc := "(I)C" } : Jvm.MethodName)).before a0 Z = true := hw _ (List.mem_of_getElem? (i := 48) rfl)
theorem wd49 {a0 : Array Value} {Z : State} (hw : ∀ d ∈ tables_1, d.before a0 Z = true) : (Jvm.Cond.selects "java/lang/String" ({ cls := "java/lang/String", name := "charAt", desc := "(I)C" } : Jvm.MethodName) ({ cls := "java/lang/String", name := "charAt", desc := "(I)C" } : Jvm.MethodName)).before a0 Z = true := hw _ (List.mem_of_getElem? (i := 49) rfl)
theorem wd50 {a0 : Array Value} {Z : State} (hw : ∀ d ∈ tables_1, d.before a0 Z = true) : (Jvm.Cond.code ({ cls := "java/lang/String", name := "charAt", desc := "(I)C" } : Jvm.MethodName) jdk_42_method_56_code (2 : Nat) (Option.some Jvm.ClassFile.FieldType.char)).before a0 Z = true := hw _ (List.mem_of_getElem? (i := 50) rfl)
theorem wd51 {a0 : Array Value} {Z : State} (hw : ∀ d ∈ tables_1, d.before a0 Z = true) : (Jvm.Cond.methodLink "java/lang/String" (492 : Nat) ({ cls := "java/lang/String", name := "isLatin1", desc := "()Z" } : Jvm.MethodName)).before a0 Z = true := hw _ (List.mem_of_getElem? (i := 51) rfl)
theorem wd52 {a0 : Array Value} {Z : State} (hw : ∀ d ∈ tables_1, d.before a0 Z = true) : (Jvm.Cond.declares ({ cls := "java/lang/String", name := "isLatin1", desc := "()Z" } : Jvm.MethodName)).before a0 Z = true := hw _ (List.mem_of_getElem? (i := 52) rfl)
theorem wd53 {a0 : Array Value} {Z : State} (hw : ∀ d ∈ tables_1, d.before a0 Z = true) : (Jvm.Cond.instanceMethod ({ cls := "java/lang/String", name := "isLatin1", desc := "()Z" } : Jvm.MethodName)).before a0 Z = true := hw _ (List.mem_of_getElem? (i := 53) rfl)
theorem wd54 {a0 : Array Value} {Z : State} (hw : ∀ d ∈ tables_1, d.before a0 Z = true) : (Jvm.Cond.selects "java/lang/String" ({ cls := "java/lang/String", name := "isLatin1", desc := "()Z" } : Jvm.MethodName) ({ cls := "java/lang/String", name := "isLatin1", desc := "()Z" } : Jvm.MethodName)).before a0 Z = true := hw _ (List.mem_of_getElem? (i := 54) rfl)
theorem wd55 {a0 : Array Value} {Z : State} (hw : ∀ d ∈ tables_1, d.before a0 Z = true) : (Jvm.Cond.code ({ cls := "java/lang/String", name := "isLatin1", desc := "()Z" } : Jvm.MethodName) jdk_42_method_154_code (1 : Nat) (Option.some Jvm.ClassFile.FieldType.boolean)).before a0 Z = true := hw _ (List.mem_of_getElem? (i := 55) rfl)
theorem wd56 {a0 : Array Value} {Z : State} (hw : ∀ d ∈ tables_1, d.before a0 Z = true) : (Jvm.Cond.methodLink "java/lang/String" (495 : Nat) ({ cls := "java/lang/StringLatin1", name := "charAt", desc := "([BI)C" } : Jvm.MethodName)).before a0 Z = true := hw _ (List.mem_of_getElem? (i := 56) rfl)
theorem wd57 {a0 : Array Value} {Z : State} (hw : ∀ d ∈ tables_1, d.before a0 Z = true) : (Jvm.Cond.static ({ cls := "java/lang/StringLatin1", name := "charAt", desc := "([BI)C" } : Jvm.MethodName)).before a0 Z = true := hw _ (List.mem_of_getElem? (i := 57) rfl)
theorem wd58 {a0 : Array Value} {Z : State} (hw : ∀ d ∈ tables_1, d.before a0 Z = true) : (Jvm.Cond.initialized "java/lang/StringLatin1").before a0 Z = true := hw _ (List.mem_of_getElem? (i := 58) rfl)
theorem wd59 {a0 : Array Value} {Z : State} (hw : ∀ d ∈ tables_1, d.before a0 Z = true) : (Jvm.Cond.code ({ cls := "java/lang/StringLatin1", name := "charAt", desc := "([BI)C" } : Jvm.MethodName) jdk_43_method_2_code (2 : Nat) (Option.some Jvm.ClassFile.FieldType.char)).before a0 Z = true := hw _ (List.mem_of_getElem? (i := 59) rfl)
theorem wd60 {a0 : Array Value} {Z : State} (hw : ∀ d ∈ tables_1, d.before a0 Z = true) : (Jvm.Cond.methodLink "java/lang/StringLatin1" (9 : Nat) ({ cls := "java/lang/String", name := "checkIndex", desc := "(II)V" } : Jvm.MethodName)).before a0 Z = true := hw _ (List.mem_of_getElem? (i := 60) rfl)
theorem wd61 {a0 : Array Value} {Z : State} (hw : ∀ d ∈ tables_1, d.before a0 Z = true) : (Jvm.Cond.static ({ cls := "java/lang/String", name := "checkIndex", desc := "(II)V" } : Jvm.MethodName)).before a0 Z = true := hw _ (List.mem_of_getElem? (i := 61) rfl)
theorem wd62 {a0 : Array Value} {Z : State} (hw : ∀ d ∈ tables_1, d.before a0 Z = true) : (Jvm.Cond.code ({ cls := "java/lang/String", name := "checkIndex", desc := "(II)V" } : Jvm.MethodName) jdk_42_method_155_code (2 : Nat) (Option.none : Option Jvm.ClassFile.FieldType)).before a0 Z = true := hw _ (List.mem_of_getElem? (i := 62) rfl)
theorem wd63 {a0 : Array Value} {Z : State} (hw : ∀ d ∈ tables_1, d.before a0 Z = true) : (Jvm.Cond.fieldLink "java/lang/String" (1053 : Nat) "jdk/internal/util/Preconditions" "SIOOBE_FORMATTER" "Ljava/util/function/BiFunction;").before a0 Z = true := hw _ (List.mem_of_getElem? (i := 63) rfl)
theorem wd64 {a0 : Array Value} {Z : State} (hw : ∀ d ∈ tables_1, d.before a0 Z = true) : (Jvm.Cond.initialized "jdk/internal/util/Preconditions").before a0 Z = true := hw _ (List.mem_of_getElem? (i := 64) rfl)
theorem wd65 {a0 : Array Value} {Z : State} (hw : ∀ d ∈ tables_1, d.before a0 Z = true) : (Jvm.Cond.methodLink "java/lang/String" (1059 : Nat) ({ cls := "jdk/internal/util/Preconditions", name := "checkIndex", desc := "(IILjava/util/function/BiFunction;)I" } : Jvm.MethodName)).before a0 Z = true := hw _ (List.mem_of_getElem? (i := 65) rfl)
theorem wd66 {a0 : Array Value} {Z : State} (hw : ∀ d ∈ tables_1, d.before a0 Z = true) : (Jvm.Cond.static ({ cls := "jdk/internal/util/Preconditions", name := "checkIndex", desc := "(IILjava/util/function/BiFunction;)I" } : Jvm.MethodName)).before a0 Z = true := hw _ (List.mem_of_getElem? (i := 66) rfl)
theorem wd67 {a0 : Array Value} {Z : State} (hw : ∀ d ∈ tables_1, d.before a0 Z = true) : (Jvm.Cond.code ({ cls := "jdk/internal/util/Preconditions", name := "checkIndex", desc := "(IILjava/util/function/BiFunction;)I" } : Jvm.MethodName) jdk_41_method_11_code (3 : Nat) (Option.some Jvm.ClassFile.FieldType.int)).before a0 Z = true := hw _ (List.mem_of_getElem? (i := 67) rfl)
theorem wd68 {a0 : Array Value} {Z : State} (hw : ∀ d ∈ tables_1, d.before a0 Z = true) : (Jvm.Cond.fieldLink "com/example/aloq/aloq/engine/NewTask" (22 : Nat) "com/example/aloq/aloq/engine/NewTask" "queue" "Ljava/lang/String;").before a0 Z = true := hw _ (List.mem_of_getElem? (i := 68) rfl)
theorem wd69 {a0 : Array Value} {Z : State} (hw : ∀ d ∈ tables_1, d.before a0 Z = true) : (Jvm.Cond.laysFinal "com/example/aloq/aloq/engine/NewTask" "com/example/aloq/aloq/engine/NewTask" "queue" "Ljava/lang/String;").before a0 Z = true := hw _ (List.mem_of_getElem? (i := 69) rfl)
theorem wd70 {a0 : Array Value} {Z : State} (hw : ∀ d ∈ tables_1, d.before a0 Z = true) : (Jvm.Cond.stringLink "com/example/aloq/aloq/engine/NewTask" (26 : Nat) "payload").before a0 Z = true := hw _ (List.mem_of_getElem? (i := 70) rfl)
theorem wd71 {a0 : Array Value} {Z : State} (hw : ∀ d ∈ tables_1, d.before a0 Z = true) : (Jvm.Cond.methodLink "com/example/aloq/aloq/engine/NewTask" (28 : Nat) ({ cls := "java/util/Objects", name := "requireNonNull", desc := "(Ljava/lang/Object;Ljava/lang/String;)Ljava/lang/Object;" } : Jvm.MethodName)).before a0 Z = true := hw _ (List.mem_of_getElem? (i := 71) rfl)
theorem wd72 {a0 : Array Value} {Z : State} (hw : ∀ d ∈ tables_1, d.before a0 Z = true) : (Jvm.Cond.static ({ cls := "java/util/Objects", name := "requireNonNull", desc := "(Ljava/lang/Object;Ljava/lang/String;)Ljava/lang/Object;" } : Jvm.MethodName)).before a0 Z = true := hw _ (List.mem_of_getElem? (i := 72) rfl)
theorem wd73 {a0 : Array Value} {Z : State} (hw : ∀ d ∈ tables_1, d.before a0 Z = true) : (Jvm.Cond.initialized "java/util/Objects").before a0 Z = true := hw _ (List.mem_of_getElem? (i := 73) rfl)
theorem wd74 {a0 : Array Value} {Z : State} (hw : ∀ d ∈ tables_1, d.before a0 Z = true) : (Jvm.Cond.code ({ cls := "java/util/Objects", name := "requireNonNull", desc := "(Ljava/lang/Object;Ljava/lang/String;)Ljava/lang/Object;" } : Jvm.MethodName) jdk_31_method_11_code (2 : Nat) (Option.some (Jvm.ClassFile.FieldType.object "java/lang/Object"))).before a0 Z = true := hw _ (List.mem_of_getElem? (i := 74) rfl)
theorem wd75 {a0 : Array Value} {Z : State} (hw : ∀ d ∈ tables_1, d.before a0 Z = true) : (Jvm.Cond.classLink "com/example/aloq/aloq/engine/NewTask" (34 : Nat) "java/lang/String").before a0 Z = true := hw _ (List.mem_of_getElem? (i := 75) rfl)
theorem wd77 {a0 : Array Value} {Z : State} (hw : ∀ d ∈ tables_1, d.before a0 Z = true) : (Jvm.Cond.fieldLink "com/example/aloq/aloq/engine/NewTask" (36 : Nat) "com/example/aloq/aloq/engine/NewTask" "payload" "Ljava/lang/String;").before a0 Z = true := hw _ (List.mem_of_getElem? (i := 77) rfl)
theorem wd78 {a0 : Array Value} {Z : State} (hw : ∀ d ∈ tables_1, d.before a0 Z = true) : (Jvm.Cond.laysFinal "com/example/aloq/aloq/engine/NewTask" "com/example/aloq/aloq/engine/NewTask" "payload" "Ljava/lang/String;").before a0 Z = true := hw _ (List.mem_of_getElem? (i := 78) rfl)
theorem wd79 {a0 : Array Value} {Z : State} (hw : ∀ d ∈ tables_1, d.before a0 Z = true) : (Jvm.Cond.methodLink "com/example/aloq/aloq/engine/NewTaskDelaySecondsPinLaw" (18 : Nat) ({ cls := "com/example/aloq/aloq/engine/NewTask", name := "maxAttempts", desc := "(I)Lcom/example/aloq/aloq/engine/NewTask;" } : Jvm.MethodName)).before a0 Z = true := hw _ (List.mem_of_getElem? (i := 79) rfl)
theorem wd80 {a0 : Array Value} {Z : State} (hw : ∀ d ∈ tables_1, d.before a0 Z = true) : (Jvm.Cond.declares ({ cls := "com/example/aloq/aloq/engine/NewTask", name := "maxAttempts", desc := "(I)Lcom/example/aloq/aloq/engine/NewTask;" } : Jvm.MethodName)).before a0 Z = true := hw _ (List.mem_of_getElem? (i := 80) rfl)
theorem wd81 {a0 : Array Value} {Z : State} (hw : ∀ d ∈ tables_1, d.before a0 Z = true) : (Jvm.Cond.instanceMethod ({ cls := "com/example/aloq/aloq/engine/NewTask", name := "maxAttempts", desc := "(I)Lcom/example/aloq/aloq/engine/NewTask;" } : Jvm.MethodName)).before a0 Z = true := hw _ (List.mem_of_getElem? (i := 81) rfl)
theorem wd82 {a0 : Array Value} {Z : State} (hw : ∀ d ∈ tables_1, d.before a0 Z = true) : (Jvm.Cond.selects "com/example/aloq/aloq/engine/NewTask" ({ cls := "com/example/aloq/aloq/engine/NewTask", name := "maxAttempts", desc := "(I)Lcom/example/aloq/aloq/engine/NewTask;" } : Jvm.MethodName) ({ cls := "com/example/aloq/aloq/engine/NewTask", name := "maxAttempts", desc := "(I)Lcom/example/aloq/aloq/engine/NewTask;" } : Jvm.MethodName)).before a0 Z = true := hw _ (List.mem_of_getElem? (i := 82) rfl)
theorem wd83 {a0 : Array Value} {Z : State} (hw : ∀ d ∈ tables_1, d.before a0 Z = true) : (Jvm.Cond.code ({ cls := "com/example/aloq/aloq/engine/NewTask", name := "maxAttempts", desc := "(I)Lcom/example/aloq/aloq/engine/NewTask;" } : Jvm.MethodName) prog_13_method_5_code (2 : Nat) (Option.some (Jvm.ClassFile.FieldType.object "com/example/aloq/aloq/engine/NewTask"))).before a0 Z = true := hw _ (List.mem_of_getElem? (i := 83) rfl)
theorem wd84 {a0 : Array Value} {Z : State} (hw : ∀ d ∈ tables_1, d.before a0 Z = true) : (Jvm.Cond.stringLink "com/example/aloq/aloq/engine/NewTask" (105 : Nat) "max_attempts").before a0 Z = true := hw _ (List.mem_of_getElem? (i := 84) rfl)
theorem wd85 {a0 : Array Value} {Z : State} (hw : ∀ d ∈ tables_1, d.before a0 Z = true) : (Jvm.Cond.methodLink "com/example/aloq/aloq/engine/NewTask" (92 : Nat) ({ cls := "com/example/aloq/aloq/engine/Setting", name := "inRange", desc := "(Ljava/lang/String;III)I" } : Jvm.MethodName)).before a0 Z = true := hw _ (List.mem_of_getElem? (i := 85) rfl)
theorem wd86 {a0 : Array Value} {Z : State} (hw : ∀ d ∈ tables_1, d.before a0 Z = true) : (Jvm.Cond.static ({ cls := "com/example/aloq/aloq/engine/Setting", name := "inRange", desc := "(Ljava/lang/String;III)I" } : Jvm.MethodName)).before a0 Z = true := hw _ (List.mem_of_getElem? (i := 86) rfl)
theorem wd87 {a0 : Array Value} {Z : State} (hw : ∀ d ∈ tables_1, d.before a0 Z = true) : (Jvm.Cond.initialized "com/example/aloq/aloq/engine/Setting").before a0 Z = true := hw _ (List.mem_of_getElem? (i := 87) rfl)
theorem wd88 {a0 : Array Value} {Z : State} (hw : ∀ d ∈ tables_1, d.before a0 Z = true) : (Jvm.Cond.code ({ cls := "com/example/aloq/aloq/engine/Setting", name := "inRange", desc := "(Ljava/lang/String;III)I" } : Jvm.MethodName) prog_22_method_2_code (4 : Nat) (Option.some Jvm.ClassFile.FieldType.int)).before a0 Z = true := hw _ (List.mem_of_getElem? (i := 88) rfl)
theorem wd89 {a0 : Array Value} {Z : State} (hw : ∀ d ∈ tables_1, d.before a0 Z = true) : (Jvm.Cond.methodLink "com/example/aloq/aloq/engine/NewTaskDelaySecondsPinLaw" (25 : Nat) ({ cls := "com/example/aloq/aloq/engine/NewTask", name := "delaySeconds", desc := "()I" } : Jvm.MethodName)).before a0 Z = true := hw _ (List.mem_of_getElem? (i := 89) rfl)
theorem wd90 {a0 : Array Value} {Z : State} (hw : ∀ d ∈ tables_1, d.before a0 Z = true) : (Jvm.Cond.declares ({ cls := "com/example/aloq/aloq/engine/NewTask", name := "delaySeconds", desc := "()I" } : Jvm.MethodName)).before a0 Z = true := hw _ (List.mem_of_getElem? (i := 90) rfl)
theorem wd91 {a0 : Array Value} {Z : State} (hw : ∀ d ∈ tables_1, d.before a0 Z = true) : (Jvm.Cond.instanceMethod ({ cls := "com/example/aloq/aloq/engine/NewTask", name := "delaySeconds", desc := "()I" } : Jvm.MethodName)).before a0 Z = true := hw _ (List.mem_of_getElem? (i := 91) rfl)
theorem wd92 {a0 : Array Value} {Z : State} (hw : ∀ d ∈ tables_1, d.before a0 Z = true) : (Jvm.Cond.selects "com/example/aloq/aloq/engine/NewTask" ({ cls := "com/example/aloq/aloq/engine/NewTask", name := "delaySeconds", desc := "()I" } : Jvm.MethodName) ({ cls := "com/example/aloq/aloq/engine/NewTask", name := "delaySeconds", desc := "()I" } : Jvm.MethodName)).before a0 Z = true := hw _ (List.mem_of_getElem? (i := 92) rfl)
theorem wd93 {a0 : Array Value} {Z : State} (hw : ∀ d ∈ tables_1, d.before a0 Z = true) : (Jvm.Cond.code ({ cls := "com/example/aloq/aloq/engine/NewTask", name := "delaySeconds", desc := "()I" } : Jvm.MethodName) prog_13_method_11_code (1 : Nat) (Option.some Jvm.ClassFile.FieldType.int)).before a0 Z = true := hw _ (List.mem_of_getElem? (i := 93) rfl)
theorem wd94 {a0 : Array Value} {Z : State} (hw : ∀ d ∈ tables_1, d.before a0 Z = true) : (Jvm.Cond.fieldLink "com/example/aloq/aloq/engine/NewTask" (79 : Nat) "com/example/aloq/aloq/engine/NewTask" "delaySeconds" "Ljava/lang/Integer;").before a0 Z = true := hw _ (List.mem_of_getElem? (i := 94) rfl)
theorem wd95 {a0 : Array Value} {Z : State} (hw : ∀ d ∈ tables_1, d.before a0 Z = true) : (Jvm.Cond.lays "com/example/aloq/aloq/engine/NewTask" "com/example/aloq/aloq/engine/NewTask" "delaySeconds" "Ljava/lang/Integer;").before a0 Z = true := hw _ (List.mem_of_getElem? (i := 95) rfl)
theorem wd96 {a0 : Array Value} {Z : State} (hw : ∀ d ∈ tables_1, d.before a0 Z = true) : (Jvm.Cond.methodLink "com/example/aloq/aloq/engine/NewTaskDelaySecondsPinLaw" (22 : Nat) ({ cls := "com/example/aloq/aloq/engine/NewTask", name := "delaySeconds", desc := "(I)Lcom/example/aloq/aloq/engine/NewTask;" } : Jvm.MethodName)).before a0 Z = true := hw _ (List.mem_of_getElem? (i := 96) rfl)
theorem wd97 {a0 : Array Value} {Z : State} (hw : ∀ d ∈ tables_1, d.before a0 Z = true) : (Jvm.Cond.declares ({ cls := "com/example/aloq/aloq/engine/NewTask", name := "delaySeconds", desc := "(I)Lcom/example/aloq/aloq/engine/NewTask;" } : Jvm.MethodName)).before a0 Z = true := hw _ (List.mem_of_getElem? (i := 97) rfl)
theorem wd98 {a0 : Array Value} {Z : State} (hw : ∀ d ∈ tables_1, d.before a0 Z = true) : (Jvm.Cond.instanceMethod ({ cls := "com/example/aloq/aloq/engine/NewTask", name := "delaySeconds", desc := "(I)Lcom/example/aloq/aloq/engine/NewTask;" } : Jvm.MethodName)).before a0 Z = true := hw _ (List.mem_of_getElem? (i := 98) rfl)
theorem wd99 {a0 : Array Value} {Z : State} (hw : ∀ d ∈ tables_1, d.before a0 Z = true) : (Jvm.Cond.selects "com/example/aloq/aloq/engine/NewTask" ({ cls := "com/example/aloq/aloq/engine/NewTask", name := "delaySeconds", desc := "(I)Lcom/example/aloq/aloq/engine/NewTask;" } : Jvm.MethodName) ({ cls := "com/example/aloq/aloq/engine/NewTask", name := "delaySeconds", desc := "(I)Lcom/example/aloq/aloq/engine/NewTask;" } : Jvm.MethodName)).before a0 Z = true := hw _ (List.mem_of_getElem? (i := 99) rfl)
theorem wd100 {a0 : Array Value} {Z : State} (hw : ∀ d ∈ tables_1, d.before a0 Z = true) : (Jvm.Cond.code ({ cls := "com/example/aloq/aloq/engine/NewTask", name := "delaySeconds", desc := "(I)Lcom/example/aloq/aloq/engine/NewTask;" } : Jvm.MethodName) prog_13_method_3_code (3 : Nat) (Option.some (Jvm.ClassFile.FieldType.object "com/example/aloq/aloq/engine/NewTask"))).before a0 Z = true := hw _ (List.mem_of_getElem? (i := 100) rfl)
theorem wd101 {a0 : Array Value} {Z : State} (hw : ∀ d ∈ tables_1, d.before a0 Z = true) : (Jvm.Cond.stringLink "com/example/aloq/aloq/engine/NewTask" (89 : Nat) "delay_seconds").before a0 Z = true := hw _ (List.mem_of_getElem? (i := 101) rfl)
theorem wd102 {a0 : Array Value} {Z : State} (hw : ∀ d ∈ tables_1, d.before a0 Z = true) : (Jvm.Cond.constant "com/example/aloq/aloq/engine/NewTask" (91 : Nat) (31536000 : Int32)).before a0 Z = true := hw _ (List.mem_of_getElem? (i := 102) rfl)
theorem wd103 {a0 : Array Value} {Z : State} (hw : ∀ d ∈ tables_1, d.before a0 Z = true) : (Jvm.Cond.fieldLink "com/example/aloq/aloq/engine/NewTask" (87 : Nat) "com/example/aloq/aloq/engine/NewTask" "runAt" "Ljava/time/Instant;").before a0 Z = true := hw _ (List.mem_of_getElem? (i := 103) rfl)
theorem wd104 {a0 : Array Value} {Z : State} (hw : ∀ d ∈ tables_1, d.before a0 Z = true) : (Jvm.Cond.lays "com/example/aloq/aloq/engine/NewTask" "com/example/aloq/aloq/engine/NewTask" "runAt" "Ljava/time/Instant;").before a0 Z = true := hw _ (List.mem_of_getElem? (i := 104) rfl)
theorem wd105 {a0 : Array Value} {Z : State} (hw : ∀ d ∈ tables_1, d.before a0 Z = true) : (Jvm.Cond.methodLink "com/example/aloq/aloq/engine/NewTask" (98 : Nat) ({ cls := "java/lang/Integer", name := "valueOf", desc := "(I)Ljava/lang/Integer;" } : Jvm.MethodName)).before a0 Z = true := hw _ (List.mem_of_getElem? (i := 105) rfl)
theorem wd106 {a0 : Array Value} {Z : State} (hw : ∀ d ∈ tables_1, d.before a0 Z = true) : (Jvm.Cond.static ({ cls := "java/lang/Integer", name := "valueOf", desc := "(I)Ljava/lang/Integer;" } : Jvm.MethodName)).before a0 Z = true := hw _ (List.mem_of_getElem? (i := 106) rfl)
theorem wd107 {a0 : Array Value} {Z : State} (hw : ∀ d ∈ tables_1, d.before a0 Z = true) : (Jvm.Cond.initialized "java/lang/Integer").before a0 Z = true := hw _ (List.mem_of_getElem? (i := 107) rfl)
theorem wd108 {a0 : Array Value} {Z : State} (hw : ∀ d ∈ tables_1, d.before a0 Z = true) : (Jvm.Cond.code ({ cls := "java/lang/Integer", name := "valueOf", desc := "(I)Ljava/lang/Integer;" } : Jvm.MethodName) jdk_33_method_22_code (1 : Nat) (Option.some (Jvm.ClassFile.FieldType.object "java/lang/Integer"))).before a0 Z = true := hw _ (List.mem_of_getElem? (i := 108) rfl)
theorem wd109 {a0 : Array Value} {Z : State} (hw : ∀ d ∈ tables_1, d.before a0 Z = true) : (Jvm.Cond.fieldLink "java/lang/Integer" (191 : Nat) "java/lang/Integer$IntegerCache" "high" "I").before a0 Z = true := hw _ (List.mem_of_getElem? (i := 109) rfl)
theorem wd110 {a0 : Array Value} {Z : State} (hw : ∀ d ∈ tables_1, d.before a0 Z = true) : (Jvm.Cond.initialized "java/lang/Integer$IntegerCache").before a0 Z = true := hw _ (List.mem_of_getElem? (i := 110) rfl)
theorem wd111 {a0 : Array Value} {Z : State} (hw : ∀ d ∈ tables_1, d.before a0 Z = true) : (Jvm.Cond.fieldLink "java/lang/Integer" (195 : Nat) "java/lang/Integer$IntegerCache" "cache" "[Ljava/lang/Integer;").before a0 Z = true := hw _ (List.mem_of_getElem? (i := 111) rfl)
theorem wd112 {a0 : Array Value} {Z : State} (hw : ∀ d ∈ tables_1, d.before a0 Z = true) : (Jvm.Cond.methodLink "com/example/aloq/aloq/engine/NewTask" (121 : Nat) ({ cls := "java/lang/Integer", name := "intValue", desc := "()I" } : Jvm.MethodName)).before a0 Z = true := hw _ (List.mem_of_getElem? (i := 112) rfl)
theorem wd113 {a0 : Array Value} {Z : State} (hw : ∀ d ∈ tables_1, d.before a0 Z = true) : (Jvm.Cond.declares ({ cls := "java/lang/Integer", name := "intValue", desc := "()I" } : Jvm.MethodName)).before a0 Z = true := hw _ (List.mem_of_getElem? (i := 113) rfl)
theorem wd114 {a0 : Array Value} {Z : State} (hw : ∀ d ∈ tables_1, d.before a0 Z = true) : (Jvm.Cond.instanceMethod ({ cls := "java/lang/Integer", name := "intValue", desc := "()I" } : Jvm.MethodName)).before a0 Z = true := hw _ (List.mem_of_getElem? (i := 114) rfl)
theorem wd115 {a0 : Array Value} {Z : State} (hw : ∀ d ∈ tables_1, d.before a0 Z = true) : (Jvm.Cond.selects "java/lang/Integer" ({ cls := "java/lang/Integer", name := "intValue", desc := "()I" } : Jvm.MethodName) ({ cls := "java/lang/Integer", name := "intValue", desc := "()I" } : Jvm.MethodName)).before a0 Z = true := hw _ (List.mem_of_getElem? (i := 115) rfl)
theorem wd116 {a0 : Array Value} {Z : State} (hw : ∀ d ∈ tables_1, d.before a0 Z = true) : (Jvm.Cond.code ({ cls := "java/lang/Integer", name := "intValue", desc := "()I" } : Jvm.MethodName) jdk_33_method_27_code (1 : Nat) (Option.some Jvm.ClassFile.FieldType.int)).before a0 Z = true := hw _ (List.mem_of_getElem? (i := 116) rfl)
theorem wd117 {a0 : Array Value} {Z : State} (hw : ∀ d ∈ tables_1, d.before a0 Z = true) : (Jvm.Cond.fieldLink "java/lang/Integer" (205 : Nat) "java/lang/Integer" "value" "I").before a0 Z = true := hw _ (List.mem_of_getElem? (i := 117) rfl)
theorem wd118 {a0 : Array Value} {Z : State} (hw : ∀ d ∈ tables_1, d.before a0 Z = true) : (Jvm.Cond.laysFinal "java/lang/Integer" "java/lang/Integer" "value" "I").before a0 Z = true := hw _ (List.mem_of_getElem? (i := 118) rfl)
theorem wd119 {a0 : Array Value} {Z : State} (hw : ∀ d ∈ tables_1, d.before a0 Z = true) : (Jvm.Cond.classLink "java/lang/Integer" (1 : Nat) "java/lang/Integer").before a0 Z = true := hw _ (List.mem_of_getElem? (i := 119) rfl)
theorem wd120 {a0 : Array Value} {Z : State} (hw : ∀ d ∈ tables_1, d.before a0 Z = true) : (Jvm.Cond.instantiable "java/lang/Integer" (1 : Nat)).before a0 Z = true := hw _ (List.mem_of_getElem? (i := 120) rfl)
theorem wd121 {a0 : Array Value} {Z : State} (hw : ∀ d ∈ tables_1, d.before a0 Z = true) : (Jvm.Cond.methodLink "java/lang/Integer" (199 : Nat) ({ cls := "java/lang/Integer", name := "<init>", desc := "(I)V" } : Jvm.MethodName)).before a0 Z = true := hw _ (List.mem_of_getElem? (i := 121) rfl)
theorem wd122 {a0 : Array Value} {Z : State} (hw : ∀ d ∈ tables_1, d.before a0 Z = true) : (Jvm.Cond.instanceMethod ({ cls := "java/lang/Integer", name := "<init>", desc := "(I)V" } : Jvm.MethodName)).before a0 Z = true := hw _ (List.mem_of_getElem? (i := 122) rfl)
theorem wd124 {a0 : Array Value} {Z : State} (hw : ∀ d ∈ tables_1, d.before a0 Z = true) : (Jvm.Cond.code ({ cls := "java/lang/Integer", name := "<init>", desc := "(I)V" } : Jvm.MethodName) jdk_33_method_23_code (2 : Nat) (Option.none : Option Jvm.ClassFile.FieldType)).before a0 Z = true := hw _ (List.mem_of_getElem? (i := 124) rfl)
theorem wd125 {a0 : Array Value} {Z : State} (hw : ∀ d ∈ tables_1, d.before a0 Z = true) : (Jvm.Cond.methodLink "java/lang/Integer" (202 : Nat) ({ cls := "java/lang/Number", name := "<init>", desc := "()V" } : Jvm.MethodName)).before a0 Z = true := hw _ (List.mem_of_getElem? (i := 125) rfl)
theorem wd126 {a0 : Array Value} {Z : State} (hw : ∀ d ∈ tables_1, d.before a0 Z = true) : (Jvm.Cond.instanceMethod ({ cls := "java/lang/Number", name := "<init>", desc := "()V" } : Jvm.MethodName)).before a0 Z = true := hw _ (List.mem_of_getElem? (i := 126) rfl)
theorem wd129 {a0 : Array Value} {Z : State} (hw : ∀ d ∈ tables_1, d.before a0 Z = true) : (Jvm.Cond.initialized "java/lang/Number").before a0 Z = true := hw _ (List.mem_of_getElem? (i := 129) rfl)
theorem wd130 {a0 : Array Value} {Z : State} (hw : ∀ d ∈ tables_1, d.before a0 Z = true) : (Jvm.Cond.code ({ cls := "java/lang/Number", name := "<init>", desc := "()V" } : Jvm.MethodName) jdk_18_method_1_code (1 : Nat) (Option.none : Option Jvm.ClassFile.FieldType)).before a0 Z = true := hw _ (List.mem_of_getElem? (i := 130) rfl)
theorem wd131 {a0 : Array Value} {Z : State} (hw : ∀ d ∈ tables_1, d.before a0 Z = true) : (Jvm.Cond.methodLink "java/lang/Number" (1 : Nat) ({ cls := "java/lang/Object", name := "<init>", desc := "()V" } : Jvm.MethodName)).before a0 Z = true := hw _ (List.mem_of_getElem? (i := 131) rfl)
def own_EL : List (String × Nat) := [("com/example/aloq/aloq/engine/NewTask", 26), ("com/example/aloq/aloq/engine/NewTask", 89), ("com/example/aloq/aloq/engine/NewTask", 105), ("com/example/aloq/aloq/engine/NewTaskDelaySecondsPinLaw", 11), ("com/example/aloq/aloq/engine/NewTaskDelaySecondsPinLaw", 13)]
theorem own_EW (a0 : Array Value) (Z : State) (hw : ∀ d ∈ tables_1, d.before a0 Z = true) : EW Z a0 own_EL := (EW.cons (wd70 hw) (by decide +kernel) (EW.cons (wd101 hw) (by decide +kernel) (EW.cons (wd84 hw) (by decide +kernel) (EW.cons (wd5 hw) (by decide +kernel) (EW.cons (wd13 hw) (by decide +kernel) EW.nil)))))
theorem own_c1 (x : Int32) (h1 : ¬ (x < (-128 : Int32))) (h2 : ¬ ((127 : Int32) < x)) : ¬ (x + (128 : Int32)) < 0 ∧ (x + (128 : Int32)) < 256 := by
  rw [Int32.lt_iff_toInt_lt] at h1 h2
  have a := c_iadd x 128; have r := rng32 (x + 128)
  have z1 : (-128 : Int32).toInt = -128 := rfl
  have z2 : (127 : Int32).toInt = 127 := rfl
  have z3 : (128 : Int32).toInt = 128 := rfl
  have z4 : (0 : Int32).toInt = 0 := rfl
  have z5 : (256 : Int32).toInt = 256 := rfl
  rw [Int32.lt_iff_toInt_lt, Int32.lt_iff_toInt_lt]
  omega
theorem own_c2 (x : Int32) : x + (128 : Int32) - (128 : Int32) = x := by
  rw [← Int32.toInt_inj]
  have a := c_iadd x 128; have b := c_isub (x + 128) 128; have r := rng32 (x + 128 - 128); have r2 := rng32 x
  have z3 : (128 : Int32).toInt = 128 := rfl
  omega
theorem own_d (x : Int32) : 0 ≤ ((x &&& (2147483647 : Int32)) % (31536001 : Int32)).toInt ∧ ((x &&& (2147483647 : Int32)) % (31536001 : Int32)).toInt ≤ 31536000 := by
  have q1 := c_mask x 2147483647 31 (by decide) (by decide)
  have q2 := c_irem (x &&& 2147483647) 31536001 31536001 rfl
  omega
theorem own_at (x : Int32) : 1 ≤ (((x &&& (2147483647 : Int32)) % (100 : Int32)) + (1 : Int32)).toInt ∧ (((x &&& (2147483647 : Int32)) % (100 : Int32)) + (1 : Int32)).toInt ≤ 100 := by
  have q1 := c_mask x 2147483647 31 (by decide) (by decide)
  have q2 := c_irem (x &&& 2147483647) 100 100 rfl
  have q3 := c_iadd ((x &&& 2147483647) % 100) 1
  have r := rng32 (((x &&& (2147483647 : Int32)) % (100 : Int32)) + (1 : Int32))
  have o1 : (1 : Int32).toInt = 1 := rfl
  omega
theorem own_and3 (x : Int32) : (x &&& (3 : Int32)) = 0 ∨ (x &&& (3 : Int32)) = 1 ∨ (x &&& (3 : Int32)) = 2 ∨ (x &&& (3 : Int32)) = 3 := by
  have q := c_mask x 3 2 (by decide) (by decide)
  simp only [← Int32.toInt_inj]
  have o0 : (0 : Int32).toInt = 0 := rfl
  have o1 : (1 : Int32).toInt = 1 := rfl
  have o2 : (2 : Int32).toInt = 2 := rfl
  have o3 : (3 : Int32).toInt = 3 := rfl
  omega
theorem own_lenlt {Z : State} {args : Array Value} {t : Term} {a : Addr} {cl : Cell} {v : Value} (ev : t.eval args Z none [] Z = some (.ref a)) (ea : Z.arrayAt? a = some cl) (hl : (Term.length t).eval args Z none [] Z = some v) : cl.slots.size < 2 ^ 31 := by
  by_cases h : cl.slots.size < 2 ^ 31
  · exact h
  · simp [Term.eval, ev, ea, h] at hl
theorem own_bxs {Z : State} {args : Array Value} {a : Addr} {c : Cell} (ev : (Term.static "java/lang/Integer$IntegerCache" "cache" "[Ljava/lang/Integer;").eval args Z none [] Z = some (.ref a)) (A : Arr Z Z.heap a c (.object "java/lang/Integer")) (hl : (Term.length (Term.static "java/lang/Integer$IntegerCache" "cache" "[Ljava/lang/Integer;")).eval args Z none [] Z = some (.int 256))
    (h : (Jvm.Cond.all (Term.static "java/lang/Integer$IntegerCache" "cache" "[Ljava/lang/Integer;") (.and (.exactly (.elem (Term.static "java/lang/Integer$IntegerCache" "cache" "[Ljava/lang/Integer;") (.index 0)) "java/lang/Integer") (.eq (.field (.elem (Term.static "java/lang/Integer$IntegerCache" "cache" "[Ljava/lang/Integer;") (.index 0)) "java/lang/Integer" "value" "I") (.sub (.index 0) (.int 128))))).value args Z none Z [] = some true) :
    Bxs Z a c "java/lang/Integer" "I" (256 : Int32) (fun j => .int (j - (128 : Int32))) := by
  obtain ⟨x, c2, e1, e2, e3⟩ := Term.length_spec hl
  cases ev.symm.trans e1
  cases (A.fin (Vm.Alike.refl _)).symm.trans e2
  have hq : c.slots.size.toInt32 = 256 := (Value.int.inj e3).symm
  have hlt : c.slots.size < 2 ^ 31 := own_lenlt ev e2 hl
  refine Bxs.start (fun idx => ev) A hlt hq (by decide) h (fun X j hj q => ?_)
  have hF : (Term.sub (.index 0) (.int 128)).eval args Z none [j.toNatClampNeg] Z = some (.int (j - 128)) := by
    have this := idx_at (args := args) (s := Z) (first := Z) (o := none) hj
    simp [Term.eval] at this ⊢
    simp [this]
  exact eqv_i hF q
theorem ef_VC (m : MethodId) (x0 : Int32) : entryFrame m #[(.int x0)] 1 = mkF m 0 #[.val (.int x0)] [] := by first | (simp [entryFrame, mkF, argsToLocals, Value.category]; done) | rfl
theorem pn_java_lang_Integer : plainName "java/lang/Integer" = true := by first | (simp [plainName, overriddenIn]; done) | decide +kernel
theorem dd_jdk_33_method_22_code_0 : decode jdk_33_method_22_code 0 = .ok (.iload_n 0, 1) := by decide +kernel
theorem dd_jdk_33_method_22_code_1 : decode jdk_33_method_22_code 1 = .ok (.bipush (-128), 2) := by decide +kernel
theorem dd_jdk_33_method_22_code_3 : decode jdk_33_method_22_code 3 = .ok (.if_icmp .lt 20, 3) := by decide +kernel
theorem dd_jdk_33_method_22_code_6 : decode jdk_33_method_22_code 6 = .ok (.iload_n 0, 1) := by decide +kernel
theorem dd_jdk_33_method_22_code_7 : decode jdk_33_method_22_code 7 = .ok (.getstatic 191, 3) := by decide +kernel
theorem dd_jdk_33_method_22_code_10 : decode jdk_33_method_22_code 10 = .ok (.if_icmp .gt 13, 3) := by decide +kernel
theorem dd_jdk_33_method_22_code_13 : decode jdk_33_method_22_code 13 = .ok (.getstatic 195, 3) := by decide +kernel
theorem dd_jdk_33_method_22_code_16 : decode jdk_33_method_22_code 16 = .ok (.iload_n 0, 1) := by decide +kernel
theorem dd_jdk_33_method_22_code_17 : decode jdk_33_method_22_code 17 = .ok (.sipush 128, 3) := by decide +kernel
theorem dd_jdk_33_method_22_code_20 : decode jdk_33_method_22_code 20 = .ok (.iadd, 1) := by decide +kernel
theorem dd_jdk_33_method_22_code_21 : decode jdk_33_method_22_code 21 = .ok (.aaload, 1) := by decide +kernel
theorem dd_jdk_33_method_22_code_22 : decode jdk_33_method_22_code 22 = .ok (.areturn, 1) := by decide +kernel
def QVC (Z : State) (x0 : Int32) (ac : Addr) (cc : Cell) (h0 : Heap) (n0 : Nat) (v : Option Value) (h : Heap) (L : List Loc) : Prop := ∃ bx : Addr, v = some (.ref bx) ∧ Fr n0 L ∧ h = h0 ∧ Exa Z h bx "java/lang/Integer" ∧ Fld Z h bx "java/lang/Integer" "value" "I" (.int x0)
set_option maxRecDepth 65536 in
set_option maxHeartbeats 40000000 in
theorem rmVC (l : Launch) (Z : State) (a0 : Array Value) (hw : ∀ d ∈ tables_1, d.before a0 Z = true) (ws : List Jvm.Cond) (x0 : Int32) (ac : Addr) (cc : Cell) (h0 : Heap) (n0 : Nat) (Z0 : n0 ≤ h0.size) (S_h : Sta Z h0 "java/lang/Integer$IntegerCache" "high" "I" (.int (127 : Int32))) (S_c : Sta Z h0 "java/lang/Integer$IntegerCache" "cache" "[Ljava/lang/Integer;" (.ref ac)) (Bx : Bxs Z ac cc "java/lang/Integer" "I" (256 : Int32) (fun j => .int (j - (128 : Int32)))) (E0 : Ext Z.heap h0) (hlo : ¬ (x0 < (-128 : Int32))) (hhi : ¬ ((127 : Int32) < x0)) :
    MetFree l (⟨"java/lang/Integer", "valueOf", "(I)Ljava/lang/Integer;"⟩ : MethodName) (head1 (Jvm.Cond.code (⟨"java/lang/Integer", "valueOf", "(I)Ljava/lang/Integer;"⟩ : MethodName) jdk_33_method_22_code 1 (some (.object "java/lang/Integer")) :: ws) ({ frames := 0, cells := 0, slots := 0, locals := 0 } : Room)) (fun a U => a = #[(.int x0)] ∧ Z.Warmed39 U.vm ∧ U.heap = h0) (fun _ _ _ _ _ => True) (fun _ U oc_ U' => ∃ v L, oc_ = .returned v ∧ QVC Z x0 ac cc h0 n0 v U'.heap L ∧ FrameEnd U oc_ U' L ({ frames := 0, cells := 0, slots := 0, locals := 0 } : Room).cells ({ frames := 0, cells := 0, slots := 0, locals := 0 } : Room).slots) := by
  refine MetFree.of_bodySF (plainFor_of_name pn_java_lang_Integer) hisR ?_
  intro p e s m args below meth c s₁ Bd hml0 hP hK
  obtain ⟨rfl, hZ, hh⟩ := hP
  have hx := Bd.exec
  have hby := Bd.bytes
  have hml : c.maxLocals = 1 := hml0
  have hown : s.vm.findClass "java/lang/Integer" = some m.cls := findClass_of_methodNamed Bd.named
  have hnm := (name_of_methodNamed Bd.named Bd.method).1
  have X0 : Stand p l e ({ frames := 0, cells := 0, slots := 0, locals := 0 } : Room) s m #[(.int x0)] below meth c s₁ [] 0 0 := Stand.of_body Bd
  have e0 : s₁.heap = h0 := by rw [← hh, Bd.state]; rfl
  have N0 := Fr.nil n0
  have pre0 : ∀ t, Steps p.tables e below (s₁.setTop (mkF m 0 #[.val (.int x0)] [])) t → Steps p.tables e below (s₁.setTop (entryFrame m #[(.int x0)] 1)) t := fun t k => castTop (ef_VC m x0) k
  obtain ⟨T1, X1, e1, st1⟩ := getS2 X0 hx hZ hown (host := "") (Or.inl (wd109 hw)) Via.refl e0 S_h (g := (mkF m 7 #[.val (.int x0)] [(.int x0)])) rfl (hb hby dd_jdk_33_method_22_code_7)
  obtain ⟨T2, X2, e2, st2⟩ := getS2 X1 hx hZ hown (host := "") (Or.inl (wd111 hw)) Via.refl e1 S_c (g := (mkF m 13 #[.val (.int x0)] [])) rfl (hb hby dd_jdk_33_method_22_code_13)
  have hj : ¬ ((x0 + (128 : Int32)) < 0 ∨ cc.slots.size ≤ ((x0 + (128 : Int32))).toNatClampNeg) := inb_of Bx.2.1 (own_c1 x0 hlo hhi)
  obtain ⟨bx, hbx, Ebx, Fbx⟩ := Bx.2.2.2 (x0 + (128 : Int32)) hj
  simp only [own_c2] at Fbx
  obtain ⟨lfs, lhr, lhrun, lhended, lhW, lhsame⟩ := X2.leave (v := some (.ref bx)) (fun h => by rw [Bd.returns] at h; cases h)
  refine ⟨_, _, pre0 _ ?_, lhrun, lhended, _, _, rfl, ?_, ⟨_, rfl⟩, lhW, lhsame.mono (by decide) (by decide)⟩
  · skip
    show Steps p.tables e below (s₁.setTop (mkF m 0 #[.val (.int x0)] [])) _
    refine XS.iloadN X0.here hx rfl (hb hby dd_jdk_33_method_22_code_0) rfl ?_
    show Steps p.tables e below (s₁.setTop (mkF m 1 #[.val (.int x0)] [(.int x0)])) _
    refine XS.bipush X0.here hx rfl (hb hby dd_jdk_33_method_22_code_1) ?_
    show Steps p.tables e below (s₁.setTop (mkF m 3 #[.val (.int x0)] [(.int (-128 : Int32)), (.int x0)])) _
    refine XS.icmpNo X0.here hx rfl (hb hby dd_jdk_33_method_22_code_3) rfl (flt hlo).1 ?_
    show Steps p.tables e below (s₁.setTop (mkF m 6 #[.val (.int x0)] [])) _
    refine XS.iloadN X0.here hx rfl (hb hby dd_jdk_33_method_22_code_6) rfl ?_
    show Steps p.tables e below (s₁.setTop (mkF m 7 #[.val (.int x0)] [(.int x0)])) _
    refine st1 _ ?_
    show Steps p.tables e below (T1.setTop (mkF m 10 #[.val (.int x0)] [(.int (127 : Int32)), (.int x0)])) _
    refine XS.icmpNo X1.here hx rfl (hb hby dd_jdk_33_method_22_code_10) rfl (flt hhi).2.2.1 ?_
    show Steps p.tables e below (T1.setTop (mkF m 13 #[.val (.int x0)] [])) _
    refine st2 _ ?_
    show Steps p.tables e below (T2.setTop (mkF m 16 #[.val (.int x0)] [(.ref ac)])) _
    refine XS.iloadN X2.here hx rfl (hb hby dd_jdk_33_method_22_code_16) rfl ?_
    show Steps p.tables e below (T2.setTop (mkF m 17 #[.val (.int x0)] [(.int x0), (.ref ac)])) _
    refine XS.sipush X2.here hx rfl (hb hby dd_jdk_33_method_22_code_17) ?_
    show Steps p.tables e below (T2.setTop (mkF m 20 #[.val (.int x0)] [(.int (128 : Int32)), (.int x0), (.ref ac)])) _
    refine XS.iadd X2.here hx rfl (hb hby dd_jdk_33_method_22_code_20) rfl ?_
    show Steps p.tables e below (T2.setTop (mkF m 21 #[.val (.int x0)] [(.int (x0 + (128 : Int32))), (.ref ac)])) _
    refine X2.aaload hx (j := (x0 + (128 : Int32))) (v := (.ref bx)) (by (try rw [e2]); exact (Bx.1.ext E0).1) (State.isArrayOf_alike hZ.alike (Bx.1.ext E0).2.1) rfl (Bx.1.ext E0).2.2 hj hbx (g := (mkF m 21 #[.val (.int x0)] [(.int (x0 + (128 : Int32))), (.ref ac)])) rfl rfl (hb hby dd_jdk_33_method_22_code_21) _ ?_
    show Steps p.tables e below (T2.setTop (mkF m 22 #[.val (.int x0)] [(.ref bx)])) _
    exact retOut X2 hx Bd.returns rfl (Or.inr (Or.inr (Or.inr (Or.inr ⟨rfl, rfl, rfl⟩)))) (hb hby dd_jdk_33_method_22_code_22) lhr
  · skip
    show QVC Z x0 ac cc h0 n0 _ T2.heap _
    rw [e2]
    exact ⟨bx, rfl, N0, rfl, Ebx.ext E0, Fbx.ext E0⟩
theorem efa_jdk_41_method_11_code_vvn (m : MethodId) (x0 : Int32) (x1 : Int32) : entryFrame m #[(.int x0), (.int x1), .null] 3 = mkF m 0 #[.val (.int x0), .val (.int x1), .val .null] [] := by first | (simp [entryFrame, mkF, argsToLocals, Value.category]; done) | rfl
theorem pn_jdk_internal_util_Preconditions : plainName "jdk/internal/util/Preconditions" = true := by first | (simp [plainName, overriddenIn]; done) | decide +kernel
theorem dd_jdk_41_method_11_code_0 : decode jdk_41_method_11_code 0 = .ok (.iload_n 0, 1) := by decide +kernel
theorem dd_jdk_41_method_11_code_1 : decode jdk_41_method_11_code 1 = .ok (.ifCond .lt 8, 3) := by decide +kernel
theorem dd_jdk_41_method_11_code_4 : decode jdk_41_method_11_code 4 = .ok (.iload_n 0, 1) := by decide +kernel
theorem dd_jdk_41_method_11_code_5 : decode jdk_41_method_11_code 5 = .ok (.iload_n 1, 1) := by decide +kernel
theorem dd_jdk_41_method_11_code_6 : decode jdk_41_method_11_code 6 = .ok (.if_icmp .lt 10, 3) := by decide +kernel
theorem dd_jdk_41_method_11_code_16 : decode jdk_41_method_11_code 16 = .ok (.iload_n 0, 1) := by decide +kernel
theorem dd_jdk_41_method_11_code_17 : decode jdk_41_method_11_code 17 = .ok (.ireturn, 1) := by decide +kernel
def QA1 (Z : State) (x0 : Int32) (x1 : Int32) (h0 : Heap) (n0 : Nat) (v : Option Value) (h : Heap) (L : List Loc) : Prop := v = some (.int x0) ∧ Fr n0 L ∧ h = h0
set_option maxRecDepth 65536 in
set_option maxHeartbeats 40000000 in
theorem rmA1 (l : Launch) (Z : State) (a0 : Array Value) (hw : ∀ d ∈ tables_1, d.before a0 Z = true) (ws : List Jvm.Cond) (x0 : Int32) (x1 : Int32) (h0 : Heap) (n0 : Nat) (Z0 : n0 ≤ h0.size) (hq0 : ¬ (x0 < (0 : Int32))) (hq1 : x0 < x1) :
    MetFree l (⟨"jdk/internal/util/Preconditions", "checkIndex", "(IILjava/util/function/BiFunction;)I"⟩ : MethodName) (head1 (Jvm.Cond.code (⟨"jdk/internal/util/Preconditions", "checkIndex", "(IILjava/util/function/BiFunction;)I"⟩ : MethodName) jdk_41_method_11_code 3 (some .int) :: ws) ({ frames := 0, cells := 0, slots := 0, locals := 0 } : Room)) (fun a U => a = #[(.int x0), (.int x1), .null] ∧ Z.Warmed39 U.vm ∧ U.heap = h0) (fun _ _ _ _ _ => True) (fun _ U oc_ U' => ∃ v L, oc_ = .returned v ∧ QA1 Z x0 x1 h0 n0 v U'.heap L ∧ FrameEnd U oc_ U' L ({ frames := 0, cells := 0, slots := 0, locals := 0 } : Room).cells ({ frames := 0, cells := 0, slots := 0, locals := 0 } : Room).slots) := by
  refine MetFree.of_bodySF (plainFor_of_name pn_jdk_internal_util_Preconditions) hisR ?_
  intro p e s m args below meth c s₁ Bd hml0 hP hK
  obtain ⟨rfl, hZ, hh⟩ := hP
  have hx := Bd.exec
  have hby := Bd.bytes
  have hml : c.maxLocals = 3 := hml0
  have hown : s.vm.findClass "jdk/internal/util/Preconditions" = some m.cls := findClass_of_methodNamed Bd.named
  have hnm := (name_of_methodNamed Bd.named Bd.method).1
  have X0 : Stand p l e ({ frames := 0, cells := 0, slots := 0, locals := 0 } : Room) s m #[(.int x0), (.int x1), .null] below meth c s₁ [] 0 0 := Stand.of_body Bd
  have e0 : s₁.heap = h0 := by rw [← hh, Bd.state]; rfl
  have N0 := Fr.nil n0
  have pre0 : ∀ t, Steps p.tables e below (s₁.setTop (mkF m 0 #[.val (.int x0), .val (.int x1), .val .null] [])) t → Steps p.tables e below (s₁.setTop (entryFrame m #[(.int x0), (.int x1), .null] 3)) t := fun t k => castTop (efa_jdk_41_method_11_code_vvn m x0 x1) k
  obtain ⟨lfs, lhr, lhrun, lhended, lhW, lhsame⟩ := X0.leave (v := some (.int x0)) (fun h => by rw [Bd.returns] at h; cases h)
  refine ⟨_, _, pre0 _ ?_, lhrun, lhended, _, _, rfl, ?_, ⟨_, rfl⟩, lhW, lhsame.mono (by decide) (by decide)⟩
  · skip
    show Steps p.tables e below (s₁.setTop (mkF m 0 #[.val (.int x0), .val (.int x1), .val .null] [])) _
    refine XS.iloadN X0.here hx rfl (hb hby dd_jdk_41_method_11_code_0) rfl ?_
    show Steps p.tables e below (s₁.setTop (mkF m 1 #[.val (.int x0), .val (.int x1), .val .null] [(.int x0)])) _
    refine XS.ifNo X0.here hx rfl (hb hby dd_jdk_41_method_11_code_1) rfl ((if0 _ _).trans (flt hq0).1) ?_
    show Steps p.tables e below (s₁.setTop (mkF m 4 #[.val (.int x0), .val (.int x1), .val .null] [])) _
    refine XS.iloadN X0.here hx rfl (hb hby dd_jdk_41_method_11_code_4) rfl ?_
    show Steps p.tables e below (s₁.setTop (mkF m 5 #[.val (.int x0), .val (.int x1), .val .null] [(.int x0)])) _
    refine XS.iloadN X0.here hx rfl (hb hby dd_jdk_41_method_11_code_5) rfl ?_
    show Steps p.tables e below (s₁.setTop (mkF m 6 #[.val (.int x0), .val (.int x1), .val .null] [(.int x1), (.int x0)])) _
    refine XS.icmpYes X0.here hx rfl (pc0 := 6) (pc' := 16) rfl (hb hby dd_jdk_41_method_11_code_6) rfl (tlt hq1).1 (by decide) (by decide) ?_
    show Steps p.tables e below (s₁.setTop (mkF m 16 #[.val (.int x0), .val (.int x1), .val .null] [])) _
    refine XS.iloadN X0.here hx rfl (hb hby dd_jdk_41_method_11_code_16) rfl ?_
    show Steps p.tables e below (s₁.setTop (mkF m 17 #[.val (.int x0), .val (.int x1), .val .null] [(.int x0)])) _
    exact retI X0 hx Bd.returns (hb hby dd_jdk_41_method_11_code_17) lhr
  · skip
    show QA1 Z x0 x1 h0 n0 _ s₁.heap _
    rw [e0]
    exact ⟨rfl, N0, rfl⟩
theorem efa_jdk_41_method_11_code_vvv (m : MethodId) (x0 : Int32) (x1 : Int32) (x2 : Addr) : entryFrame m #[(.int x0), (.int x1), (.ref x2)] 3 = mkF m 0 #[.val (.int x0), .val (.int x1), .val (.ref x2)] [] := by first | (simp [entryFrame, mkF, argsToLocals, Value.category]; done) | rfl
def QA2 (Z : State) (x0 : Int32) (x1 : Int32) (o2 : Addr) (h0 : Heap) (n0 : Nat) (v : Option Value) (h : Heap) (L : List Loc) : Prop := v = some (.int x0) ∧ Fr n0 L ∧ h = h0
set_option maxRecDepth 65536 in
set_option maxHeartbeats 40000000 in
theorem rmA2 (l : Launch) (Z : State) (a0 : Array Value) (hw : ∀ d ∈ tables_1, d.before a0 Z = true) (ws : List Jvm.Cond) (x0 : Int32) (x1 : Int32) (o2 : Addr) (h0 : Heap) (n0 : Nat) (Z0 : n0 ≤ h0.size) (hq0 : ¬ (x0 < (0 : Int32))) (hq1 : x0 < x1) :
    MetFree l (⟨"jdk/internal/util/Preconditions", "checkIndex", "(IILjava/util/function/BiFunction;)I"⟩ : MethodName) (head1 (Jvm.Cond.code (⟨"jdk/internal/util/Preconditions", "checkIndex", "(IILjava/util/function/BiFunction;)I"⟩ : MethodName) jdk_41_method_11_code 3 (some .int) :: ws) ({ frames := 0, cells := 0, slots := 0, locals := 0 } : Room)) (fun a U => a = #[(.int x0), (.int x1), (.ref o2)] ∧ Z.Warmed39 U.vm ∧ U.heap = h0) (fun _ _ _ _ _ => True) (fun _ U oc_ U' => ∃ v L, oc_ = .returned v ∧ QA2 Z x0 x1 o2 h0 n0 v U'.heap L ∧ FrameEnd U oc_ U' L ({ frames := 0, cells := 0, slots := 0, locals := 0 } : Room).cells ({ frames := 0, cells := 0, slots := 0, locals := 0 } : Room).slots) := by
  refine MetFree.of_bodySF (plainFor_of_name pn_jdk_internal_util_Preconditions) hisR ?_
  intro p e s m args below meth c s₁ Bd hml0 hP hK
  obtain ⟨rfl, hZ, hh⟩ := hP
  have hx := Bd.exec
  have hby := Bd.bytes
  have hml : c.maxLocals = 3 := hml0
  have hown : s.vm.findClass "jdk/internal/util/Preconditions" = some m.cls := findClass_of_methodNamed Bd.named
  have hnm := (name_of_methodNamed Bd.named Bd.method).1
  have X0 : Stand p l e ({ frames := 0, cells := 0, slots := 0, locals := 0 } : Room) s m #[(.int x0), (.int x1), (.ref o2)] below meth c s₁ [] 0 0 := Stand.of_body Bd
  have e0 : s₁.heap = h0 := by rw [← hh, Bd.state]; rfl
  have N0 := Fr.nil n0
  have pre0 : ∀ t, Steps p.tables e below (s₁.setTop (mkF m 0 #[.val (.int x0), .val (.int x1), .val (.ref o2)] [])) t → Steps p.tables e below (s₁.setTop (entryFrame m #[(.int x0), (.int x1), (.ref o2)] 3)) t := fun t k => castTop (efa_jdk_41_method_11_code_vvv m x0 x1 o2) k
  obtain ⟨lfs, lhr, lhrun, lhended, lhW, lhsame⟩ := X0.leave (v := some (.int x0)) (fun h => by rw [Bd.returns] at h; cases h)
  refine ⟨_, _, pre0 _ ?_, lhrun, lhended, _, _, rfl, ?_, ⟨_, rfl⟩, lhW, lhsame.mono (by decide) (by decide)⟩
  · skip
    show Steps p.tables e below (s₁.setTop (mkF m 0 #[.val (.int x0), .val (.int x1), .val (.ref o2)] [])) _
    refine XS.iloadN X0.here hx rfl (hb hby dd_jdk_41_method_11_code_0) rfl ?_
    show Steps p.tables e below (s₁.setTop (mkF m 1 #[.val (.int x0), .val (.int x1), .val (.ref o2)] [(.int x0)])) _
    refine XS.ifNo X0.here hx rfl (hb hby dd_jdk_41_method_11_code_1) rfl ((if0 _ _).trans (flt hq0).1) ?_
    show Steps p.tables e below (s₁.setTop (mkF m 4 #[.val (.int x0), .val (.int x1), .val (.ref o2)] [])) _
    refine XS.iloadN X0.here hx rfl (hb hby dd_jdk_41_method_11_code_4) rfl ?_
    show Steps p.tables e below (s₁.setTop (mkF m 5 #[.val (.int x0), .val (.int x1), .val (.ref o2)] [(.int x0)])) _
    refine XS.iloadN X0.here hx rfl (hb hby dd_jdk_41_method_11_code_5) rfl ?_
    show Steps p.tables e below (s₁.setTop (mkF m 6 #[.val (.int x0), .val (.int x1), .val (.ref o2)] [(.int x1), (.int x0)])) _
    refine XS.icmpYes X0.here hx rfl (pc0 := 6) (pc' := 16) rfl (hb hby dd_jdk_41_method_11_code_6) rfl (tlt hq1).1 (by decide) (by decide) ?_
    show Steps p.tables e below (s₁.setTop (mkF m 16 #[.val (.int x0), .val (.int x1), .val (.ref o2)] [])) _
    refine XS.iloadN X0.here hx rfl (hb hby dd_jdk_41_method_11_code_16) rfl ?_
    show Steps p.tables e below (s₁.setTop (mkF m 17 #[.val (.int x0), .val (.int x1), .val (.ref o2)] [(.int x0)])) _
    exact retI X0 hx Bd.returns (hb hby dd_jdk_41_method_11_code_17) lhr
  · skip
    show QA2 Z x0 x1 o2 h0 n0 _ s₁.heap _
    rw [e0]
    exact ⟨rfl, N0, rfl⟩
theorem ef_CI (m : MethodId) (x0 : Int32) (x1 : Int32) : entryFrame m #[(.int x0), (.int x1)] 2 = mkF m 0 #[.val (.int x0), .val (.int x1)] [] := by first | (simp [entryFrame, mkF, argsToLocals, Value.category]; done) | rfl
theorem pn_java_lang_String : plainName "java/lang/String" = true := by first | (simp [plainName, overriddenIn]; done) | decide +kernel
theorem dd_jdk_42_method_155_code_0 : decode jdk_42_method_155_code 0 = .ok (.iload_n 0, 1) := by decide +kernel
theorem dd_jdk_42_method_155_code_1 : decode jdk_42_method_155_code 1 = .ok (.iload_n 1, 1) := by decide +kernel
theorem dd_jdk_42_method_155_code_2 : decode jdk_42_method_155_code 2 = .ok (.getstatic 1053, 3) := by decide +kernel
theorem dd_jdk_42_method_155_code_5 : decode jdk_42_method_155_code 5 = .ok (.invokestatic 1059, 3) := by decide +kernel
theorem pd__IILjava_util_function_BiFunction__I : parseMethodDescriptor "(IILjava/util/function/BiFunction;)I" = some ⟨[.int, .int, (.object "java/util/function/BiFunction")], some .int⟩ := by decide +kernel
theorem dd_jdk_42_method_155_code_8 : decode jdk_42_method_155_code 8 = .ok (.pop, 1) := by decide +kernel
theorem dd_jdk_42_method_155_code_9 : decode jdk_42_method_155_code 9 = .ok (.return_, 1) := by decide +kernel
def QCI (Z : State) (x0 : Int32) (x1 : Int32) (G3 : Value) (h0 : Heap) (n0 : Nat) (v : Option Value) (h : Heap) (L : List Loc) : Prop := v = none ∧ Fr n0 L ∧ h = h0
set_option maxRecDepth 65536 in
set_option maxHeartbeats 40000000 in
theorem rmCI (l : Launch) (Z : State) (a0 : Array Value) (hw : ∀ d ∈ tables_1, d.before a0 Z = true) (ws : List Jvm.Cond) (x0 : Int32) (x1 : Int32) (G3 : Value) (h0 : Heap) (n0 : Nat) (Z0 : n0 ≤ h0.size) (O4 : Sta Z h0 "jdk/internal/util/Preconditions" "SIOOBE_FORMATTER" "Ljava/util/function/BiFunction;" G3) (rG3 : G3.isRef = true) (h1 : ¬ (x0 < (0 : Int32))) (h2 : x0 < x1) :
    MetFree l (⟨"java/lang/String", "checkIndex", "(II)V"⟩ : MethodName) (head1 (Jvm.Cond.code (⟨"java/lang/String", "checkIndex", "(II)V"⟩ : MethodName) jdk_42_method_155_code 2 none :: ws) ({ frames := 1, cells := 0, slots := 0, locals := 14 } : Room)) (fun a U => a = #[(.int x0), (.int x1)] ∧ Z.Warmed39 U.vm ∧ U.heap = h0) (fun _ _ _ _ _ => True) (fun _ U oc_ U' => ∃ v L, oc_ = .returned v ∧ QCI Z x0 x1 G3 h0 n0 v U'.heap L ∧ FrameEnd U oc_ U' L ({ frames := 1, cells := 0, slots := 0, locals := 14 } : Room).cells ({ frames := 1, cells := 0, slots := 0, locals := 14 } : Room).slots) := by
  refine MetFree.of_bodySF (plainFor_of_name pn_java_lang_String) hisR ?_
  intro p e s m args below meth c s₁ Bd hml0 hP hK
  obtain ⟨rfl, hZ, hh⟩ := hP
  have hx := Bd.exec
  have hby := Bd.bytes
  have hml : c.maxLocals = 2 := hml0
  have hown : s.vm.findClass "java/lang/String" = some m.cls := findClass_of_methodNamed Bd.named
  have hnm := (name_of_methodNamed Bd.named Bd.method).1
  have X0 : Stand p l e ({ frames := 1, cells := 0, slots := 0, locals := 14 } : Room) s m #[(.int x0), (.int x1)] below meth c s₁ [] 0 0 := Stand.of_body Bd
  have e0 : s₁.heap = h0 := by rw [← hh, Bd.state]; rfl
  have N0 := Fr.nil n0
  have pre0 : ∀ t, Steps p.tables e below (s₁.setTop (mkF m 0 #[.val (.int x0), .val (.int x1)] [])) t → Steps p.tables e below (s₁.setTop (entryFrame m #[(.int x0), (.int x1)] 2)) t := fun t k => castTop (ef_CI m x0 x1) k
  obtain ⟨T1, X1, e1, st1⟩ := getS2 X0 hx hZ hown (host := "") (Or.inl (wd63 hw)) Via.refl e0 O4 (g := (mkF m 2 #[.val (.int x0), .val (.int x1)] [(.int x1), (.int x0)])) rfl (hb hby dd_jdk_42_method_155_code_2)
  have k2 : ∀ t, Steps p.tables e below (T1.setTop (mkF m 5 #[.val (.int x0), .val (.int x1)] [G3, (.int x1), (.int x0)])) t → Steps p.tables e below (s₁.setTop (entryFrame m #[(.int x0), (.int x1)] 2)) t := by
    intro t kt
    refine pre0 t ?_
    show Steps p.tables e below (s₁.setTop (mkF m 0 #[.val (.int x0), .val (.int x1)] [])) _
    refine XS.iloadN X0.here hx rfl (hb hby dd_jdk_42_method_155_code_0) rfl ?_
    show Steps p.tables e below (s₁.setTop (mkF m 1 #[.val (.int x0), .val (.int x1)] [(.int x0)])) _
    refine XS.iloadN X0.here hx rfl (hb hby dd_jdk_42_method_155_code_1) rfl ?_
    show Steps p.tables e below (s₁.setTop (mkF m 2 #[.val (.int x0), .val (.int x1)] [(.int x1), (.int x0)])) _
    refine st1 _ ?_
    exact kt
  rcases ref_cases rG3 with hg | ⟨g3, hg⟩
  · skip
    rw [hg] at k2
    obtain ⟨_, _, ⟨T3, L3, kc3, ks3⟩, -, X3, ⟨Lc3, hQ3, l3, y3, z3⟩, st3⟩ := Jvm.LawKit.callS X1 hx (y := (⟨"jdk/internal/util/Preconditions", "checkIndex", "(IILjava/util/function/BiFunction;)I"⟩ : MethodName)) hown (mvT hZ (wd65 hw)) (mvT hZ (wd66 hw)) (mvT hZ (wd64 hw)) (mvT hZ (wd67 hw)) (by decide) (backOf (W := 0) (rmA1 l Z a0 hw [] x0 x1 h0 n0 Z0 h1 h2) hZ (wd67 hw) (wd64 hw) (by decide) (by decide)) (g := (mkF m 5 #[.val (.int x0), .val (.int x1)] [.null, (.int x1), (.int x0)])) rfl (by rw [hml]; rfl) (argsL := [(.int x0), (.int x1), .null]) (rest := []) (lenOf pd__IILjava_util_function_BiFunction__I rfl) rfl (by show 2 * 0 + _ ≤ _; exact Nat.le_of_eq rfl) (hb hby dd_jdk_42_method_155_code_5) (fun _ _ => ⟨rfl, e1, (by decide : 0 + 0 ≤ _), (by decide : 0 + 0 ≤ _)⟩)
    dsimp only [Pt.U, Pt.locs, Pt.cells, Pt.slots] at X3 l3 y3 z3 st3 hQ3
    subst l3 y3 z3
    obtain ⟨rfl, Nq3, eq3⟩ := hQ3
    have N3 := Fr.app N0 Nq3
    obtain ⟨lfs, lhr, lhrun, lhended, lhW, lhsame⟩ := X3.leave (v := none) (fun _ => rfl)
    refine ⟨_, _, k2 _ ?_, lhrun, lhended, _, _, rfl, ?_, ⟨_, rfl⟩, lhW, lhsame.mono (by decide) (by decide)⟩
    · skip
      show Steps p.tables e below (T1.setTop (mkF m 5 #[.val (.int x0), .val (.int x1)] [.null, (.int x1), (.int x0)])) _
      refine st3 _ ?_
      show Steps p.tables e below (T3.setTop (mkF m 8 #[.val (.int x0), .val (.int x1)] [(.int x0)])) _
      refine XS.pop X3.here hx rfl (hb hby dd_jdk_42_method_155_code_8) rfl rfl ?_
      show Steps p.tables e below (T3.setTop (mkF m 9 #[.val (.int x0), .val (.int x1)] [])) _
      exact X3.returnOut hx Bd.returns (hb hby dd_jdk_42_method_155_code_9) lhr
    · skip
      show QCI Z x0 x1 G3 h0 n0 _ T3.heap _
      rw [eq3]
      exact ⟨rfl, N3, rfl⟩
  · skip
    rw [hg] at k2
    obtain ⟨_, _, ⟨T4, L4, kc4, ks4⟩, -, X4, ⟨Lc4, hQ4, l4, y4, z4⟩, st4⟩ := Jvm.LawKit.callS X1 hx (y := (⟨"jdk/internal/util/Preconditions", "checkIndex", "(IILjava/util/function/BiFunction;)I"⟩ : MethodName)) hown (mvT hZ (wd65 hw)) (mvT hZ (wd66 hw)) (mvT hZ (wd64 hw)) (mvT hZ (wd67 hw)) (by decide) (backOf (W := 0) (rmA2 l Z a0 hw [] x0 x1 g3 h0 n0 Z0 h1 h2) hZ (wd67 hw) (wd64 hw) (by decide) (by decide)) (g := (mkF m 5 #[.val (.int x0), .val (.int x1)] [(.ref g3), (.int x1), (.int x0)])) rfl (by rw [hml]; rfl) (argsL := [(.int x0), (.int x1), (.ref g3)]) (rest := []) (lenOf pd__IILjava_util_function_BiFunction__I rfl) rfl (by show 2 * 0 + _ ≤ _; exact Nat.le_of_eq rfl) (hb hby dd_jdk_42_method_155_code_5) (fun _ _ => ⟨rfl, e1, (by decide : 0 + 0 ≤ _), (by decide : 0 + 0 ≤ _)⟩)
    dsimp only [Pt.U, Pt.locs, Pt.cells, Pt.slots] at X4 l4 y4 z4 st4 hQ4
    subst l4 y4 z4
    obtain ⟨rfl, Nq4, eq4⟩ := hQ4
    have N4 := Fr.app N0 Nq4
    obtain ⟨lfs, lhr, lhrun, lhended, lhW, lhsame⟩ := X4.leave (v := none) (fun _ => rfl)
    refine ⟨_, _, k2 _ ?_, lhrun, lhended, _, _, rfl, ?_, ⟨_, rfl⟩, lhW, lhsame.mono (by decide) (by decide)⟩
    · skip
      show Steps p.tables e below (T1.setTop (mkF m 5 #[.val (.int x0), .val (.int x1)] [(.ref g3), (.int x1), (.int x0)])) _
      refine st4 _ ?_
      show Steps p.tables e below (T4.setTop (mkF m 8 #[.val (.int x0), .val (.int x1)] [(.int x0)])) _
      refine XS.pop X4.here hx rfl (hb hby dd_jdk_42_method_155_code_8) rfl rfl ?_
      show Steps p.tables e below (T4.setTop (mkF m 9 #[.val (.int x0), .val (.int x1)] [])) _
      exact X4.returnOut hx Bd.returns (hb hby dd_jdk_42_method_155_code_9) lhr
    · skip
      show QCI Z x0 x1 G3 h0 n0 _ T4.heap _
      rw [eq4]
      exact ⟨rfl, N4, rfl⟩
theorem efa_prog_13_method_1_code_vvv (m : MethodId) (x0 : Addr) (x1 : Addr) (x2 : Addr) : entryFrame m #[(.ref x0), (.ref x1), (.ref x2)] 3 = mkF m 0 #[.val (.ref x0), .val (.ref x1), .val (.ref x2)] [] := by first | (simp [entryFrame, mkF, argsToLocals, Value.category]; done) | rfl
theorem pn_com_example_aloq_aloq_engine_NewTask : plainName "com/example/aloq/aloq/engine/NewTask" = true := by first | (simp [plainName, overriddenIn]; done) | decide +kernel
theorem dd_prog_13_method_1_code_0 : decode prog_13_method_1_code 0 = .ok (.aload_n 0, 1) := by decide +kernel
theorem dd_prog_13_method_1_code_1 : decode prog_13_method_1_code 1 = .ok (.invokespecial 1, 3) := by decide +kernel
theorem dd_prog_13_method_1_code_4 : decode prog_13_method_1_code 4 = .ok (.aload_n 0, 1) := by decide +kernel
theorem dd_prog_13_method_1_code_5 : decode prog_13_method_1_code 5 = .ok (.iconst 5, 1) := by decide +kernel
theorem dd_prog_13_method_1_code_6 : decode prog_13_method_1_code 6 = .ok (.putfield 9, 3) := by decide +kernel
theorem dd_prog_13_method_1_code_9 : decode prog_13_method_1_code 9 = .ok (.aload_n 0, 1) := by decide +kernel
theorem dd_prog_13_method_1_code_10 : decode prog_13_method_1_code 10 = .ok (.bipush 10, 2) := by decide +kernel
theorem dd_prog_13_method_1_code_12 : decode prog_13_method_1_code 12 = .ok (.putfield 13, 3) := by decide +kernel
theorem dd_prog_13_method_1_code_15 : decode prog_13_method_1_code 15 = .ok (.aload_n 0, 1) := by decide +kernel
theorem dd_prog_13_method_1_code_16 : decode prog_13_method_1_code 16 = .ok (.aload_n 1, 1) := by decide +kernel
theorem dd_prog_13_method_1_code_17 : decode prog_13_method_1_code 17 = .ok (.invokestatic 16, 3) := by decide +kernel
theorem efa_prog_16_method_2_code_v (m : MethodId) (x0 : Addr) : entryFrame m #[(.ref x0)] 3 = mkF m 0 #[.val (.ref x0), .unset, .unset] [] := by first | (simp [entryFrame, mkF, argsToLocals, Value.category]; done) | rfl
theorem pn_com_example_aloq_aloq_engine_QueueName : plainName "com/example/aloq/aloq/engine/QueueName" = true := by first | (simp [plainName, overriddenIn]; done) | decide +kernel
theorem dd_prog_16_method_2_code_0 : decode prog_16_method_2_code 0 = .ok (.aload_n 0, 1) := by decide +kernel
theorem dd_prog_16_method_2_code_1 : decode prog_16_method_2_code 1 = .ok (.ifnull 19, 3) := by decide +kernel
theorem dd_prog_16_method_2_code_4 : decode prog_16_method_2_code 4 = .ok (.aload_n 0, 1) := by decide +kernel
theorem dd_prog_16_method_2_code_5 : decode prog_16_method_2_code 5 = .ok (.invokevirtual 7, 3) := by decide +kernel
theorem efa_jdk_42_method_55_code_v (m : MethodId) (x0 : Addr) : entryFrame m #[(.ref x0)] 1 = mkF m 0 #[.val (.ref x0)] [] := by first | (simp [entryFrame, mkF, argsToLocals, Value.category]; done) | rfl
theorem dd_jdk_42_method_55_code_0 : decode jdk_42_method_55_code 0 = .ok (.aload_n 0, 1) := by decide +kernel
theorem dd_jdk_42_method_55_code_1 : decode jdk_42_method_55_code 1 = .ok (.getfield 9, 3) := by decide +kernel
theorem dd_jdk_42_method_55_code_4 : decode jdk_42_method_55_code 4 = .ok (.arraylength, 1) := by decide +kernel
theorem dd_jdk_42_method_55_code_5 : decode jdk_42_method_55_code 5 = .ok (.ifCond .ne 7, 3) := by decide +kernel
theorem dd_jdk_42_method_55_code_12 : decode jdk_42_method_55_code 12 = .ok (.iconst 0, 1) := by decide +kernel
theorem dd_jdk_42_method_55_code_13 : decode jdk_42_method_55_code 13 = .ok (.ireturn, 1) := by decide +kernel
def QA5 (Z : State) (o0 : Addr) (o1 : Addr) (kk_o1 : ClassId) (h0 : Heap) (n0 : Nat) (v : Option Value) (h : Heap) (L : List Loc) : Prop := v = some (.int (0 : Int32)) ∧ Fr n0 L ∧ h = h0
set_option maxRecDepth 65536 in
set_option maxHeartbeats 40000000 in
theorem rmA5 (l : Launch) (Z : State) (a0 : Array Value) (hw : ∀ d ∈ tables_1, d.before a0 Z = true) (ws : List Jvm.Cond) (o0 : Addr) (o1 : Addr) (kk_o1 : ClassId) (h0 : Heap) (n0 : Nat) (Z0 : n0 ≤ h0.size) (F_o0_value : Fld Z h0 o0 "java/lang/String" "value" "[B" (.ref o1)) (V_o1 : Arv Z h0 o1 kk_o1 .byte (1 : Int32) [(.int (113 : Int32))] (.int (0 : Int32))) :
    MetFree l (⟨"java/lang/String", "isEmpty", "()Z"⟩ : MethodName) (head1 (Jvm.Cond.code (⟨"java/lang/String", "isEmpty", "()Z"⟩ : MethodName) jdk_42_method_55_code 1 (some .boolean) :: ws) ({ frames := 0, cells := 0, slots := 0, locals := 0 } : Room)) (fun a U => a = #[(.ref o0)] ∧ Z.Warmed39 U.vm ∧ U.heap = h0) (fun _ _ _ _ _ => True) (fun _ U oc_ U' => ∃ v L, oc_ = .returned v ∧ QA5 Z o0 o1 kk_o1 h0 n0 v U'.heap L ∧ FrameEnd U oc_ U' L ({ frames := 0, cells := 0, slots := 0, locals := 0 } : Room).cells ({ frames := 0, cells := 0, slots := 0, locals := 0 } : Room).slots) := by
  refine MetFree.of_bodySF (plainFor_of_name pn_java_lang_String) hisR ?_
  intro p e s m args below meth c s₁ Bd hml0 hP hK
  obtain ⟨rfl, hZ, hh⟩ := hP
  have hx := Bd.exec
  have hby := Bd.bytes
  have hml : c.maxLocals = 1 := hml0
  have hown : s.vm.findClass "java/lang/String" = some m.cls := findClass_of_methodNamed Bd.named
  have hnm := (name_of_methodNamed Bd.named Bd.method).1
  have X0 : Stand p l e ({ frames := 0, cells := 0, slots := 0, locals := 0 } : Room) s m #[(.ref o0)] below meth c s₁ [] 0 0 := Stand.of_body Bd
  have e0 : s₁.heap = h0 := by rw [← hh, Bd.state]; rfl
  have N0 := Fr.nil n0
  have pre0 : ∀ t, Steps p.tables e below (s₁.setTop (mkF m 0 #[.val (.ref o0)] [])) t → Steps p.tables e below (s₁.setTop (entryFrame m #[(.ref o0)] 1)) t := fun t k => castTop (efa_jdk_42_method_55_code_v m o0) k
  obtain ⟨T1, X1, e1, st1⟩ := getF X0 hx hZ hown (host := "") (Or.inl (wd33 hw)) Via.refl e0 F_o0_value (g := (mkF m 1 #[.val (.ref o0)] [(.ref o0)])) rfl rfl (hb hby dd_jdk_42_method_55_code_1)
  obtain ⟨cl2, Ar2, -, S2, M2, -, -⟩ := id V_o1
  obtain ⟨lfs, lhr, lhrun, lhended, lhW, lhsame⟩ := X1.leave (v := some (.int (0 : Int32))) (fun h => by rw [Bd.returns] at h; cases h)
  refine ⟨_, _, pre0 _ ?_, lhrun, lhended, _, _, rfl, ?_, ⟨_, rfl⟩, lhW, lhsame.mono (by decide) (by decide)⟩
  · skip
    show Steps p.tables e below (s₁.setTop (mkF m 0 #[.val (.ref o0)] [])) _
    refine XS.aloadN X0.here hx rfl (hb hby dd_jdk_42_method_55_code_0) rfl rfl ?_
    show Steps p.tables e below (s₁.setTop (mkF m 1 #[.val (.ref o0)] [(.ref o0)])) _
    refine st1 _ ?_
    show Steps p.tables e below (T1.setTop (mkF m 4 #[.val (.ref o0)] [(.ref o1)])) _
    refine X1.arraylength hx (by (try rw [e1]); exact Ar2.1) (State.isArrayOf_alike hZ.alike Ar2.2.1) (g := (mkF m 4 #[.val (.ref o0)] [(.ref o1)])) rfl rfl (hb hby dd_jdk_42_method_55_code_4) _ ?_
    rw [len_of S2 M2]
    show Steps p.tables e below (T1.setTop (mkF m 5 #[.val (.ref o0)] [(.int (1 : Int32))])) _
    refine XS.ifYes X1.here hx rfl (pc0 := 5) (pc' := 12) rfl (hb hby dd_jdk_42_method_55_code_5) rfl ((if0 _ _).trans (feq (by decide : ¬ ((1 : Int32) = (0 : Int32)))).2) (by decide) (by decide) ?_
    show Steps p.tables e below (T1.setTop (mkF m 12 #[.val (.ref o0)] [])) _
    refine XS.iconst X1.here hx rfl (hb hby dd_jdk_42_method_55_code_12) ?_
    show Steps p.tables e below (T1.setTop (mkF m 13 #[.val (.ref o0)] [(.int (0 : Int32))])) _
    exact retN X1 hx (t := .boolean) Bd.returns (by simp) (hb hby dd_jdk_42_method_55_code_13) lhr
  · skip
    show QA5 Z o0 o1 kk_o1 h0 n0 _ T1.heap _
    rw [e1]
    exact ⟨rfl, N0, rfl⟩
theorem pd___Z : parseMethodDescriptor "()Z" = some ⟨[], some .boolean⟩ := by decide +kernel
theorem dd_prog_16_method_2_code_8 : decode prog_16_method_2_code 8 = .ok (.ifCond .ne 12, 3) := by decide +kernel
theorem dd_prog_16_method_2_code_11 : decode prog_16_method_2_code 11 = .ok (.aload_n 0, 1) := by decide +kernel
theorem dd_prog_16_method_2_code_12 : decode prog_16_method_2_code 12 = .ok (.invokevirtual 13, 3) := by decide +kernel
theorem efa_jdk_42_method_54_code_v (m : MethodId) (x0 : Addr) : entryFrame m #[(.ref x0)] 1 = mkF m 0 #[.val (.ref x0)] [] := by first | (simp [entryFrame, mkF, argsToLocals, Value.category]; done) | rfl
theorem dd_jdk_42_method_54_code_0 : decode jdk_42_method_54_code 0 = .ok (.aload_n 0, 1) := by decide +kernel
theorem dd_jdk_42_method_54_code_1 : decode jdk_42_method_54_code 1 = .ok (.getfield 9, 3) := by decide +kernel
theorem dd_jdk_42_method_54_code_4 : decode jdk_42_method_54_code 4 = .ok (.arraylength, 1) := by decide +kernel
theorem dd_jdk_42_method_54_code_5 : decode jdk_42_method_54_code 5 = .ok (.aload_n 0, 1) := by decide +kernel
theorem dd_jdk_42_method_54_code_6 : decode jdk_42_method_54_code 6 = .ok (.invokevirtual 335, 3) := by decide +kernel
theorem efa_jdk_42_method_152_code_v (m : MethodId) (x0 : Addr) : entryFrame m #[(.ref x0)] 1 = mkF m 0 #[.val (.ref x0)] [] := by first | (simp [entryFrame, mkF, argsToLocals, Value.category]; done) | rfl
theorem dd_jdk_42_method_152_code_0 : decode jdk_42_method_152_code 0 = .ok (.getstatic 38, 3) := by decide +kernel
theorem dd_jdk_42_method_152_code_3 : decode jdk_42_method_152_code 3 = .ok (.ifCond .eq 10, 3) := by decide +kernel
theorem dd_jdk_42_method_152_code_6 : decode jdk_42_method_152_code 6 = .ok (.aload_n 0, 1) := by decide +kernel
theorem dd_jdk_42_method_152_code_7 : decode jdk_42_method_152_code 7 = .ok (.getfield 15, 3) := by decide +kernel
theorem dd_jdk_42_method_152_code_10 : decode jdk_42_method_152_code 10 = .ok (.goto 4, 3) := by decide +kernel
theorem dd_jdk_42_method_152_code_14 : decode jdk_42_method_152_code 14 = .ok (.ireturn, 1) := by decide +kernel
def QA7 (Z : State) (o0 : Addr) (x1 : Int32) (h0 : Heap) (n0 : Nat) (v : Option Value) (h : Heap) (L : List Loc) : Prop := v = some (.int (0 : Int32)) ∧ Fr n0 L ∧ h = h0
set_option maxRecDepth 65536 in
set_option maxHeartbeats 40000000 in
theorem rmA7 (l : Launch) (Z : State) (a0 : Array Value) (hw : ∀ d ∈ tables_1, d.before a0 Z = true) (ws : List Jvm.Cond) (o0 : Addr) (x1 : Int32) (h0 : Heap) (n0 : Nat) (Z0 : n0 ≤ h0.size) (S_COMPACT_STRINGS : Sta Z h0 "java/lang/String" "COMPACT_STRINGS" "Z" (.int x1)) (hq1 : ¬ (x1 = (0 : Int32))) (F_o0_coder : Fld Z h0 o0 "java/lang/String" "coder" "B" (.int (0 : Int32))) :
    MetFree l (⟨"java/lang/String", "coder", "()B"⟩ : MethodName) (head1 (Jvm.Cond.code (⟨"java/lang/String", "coder", "()B"⟩ : MethodName) jdk_42_method_152_code 1 (some .byte) :: ws) ({ frames := 0, cells := 0, slots := 0, locals := 0 } : Room)) (fun a U => a = #[(.ref o0)] ∧ Z.Warmed39 U.vm ∧ U.heap = h0) (fun _ _ _ _ _ => True) (fun _ U oc_ U' => ∃ v L, oc_ = .returned v ∧ QA7 Z o0 x1 h0 n0 v U'.heap L ∧ FrameEnd U oc_ U' L ({ frames := 0, cells := 0, slots := 0, locals := 0 } : Room).cells ({ frames := 0, cells := 0, slots := 0, locals := 0 } : Room).slots) := by
  refine MetFree.of_bodySF (plainFor_of_name pn_java_lang_String) hisR ?_
  intro p e s m args below meth c s₁ Bd hml0 hP hK
  obtain ⟨rfl, hZ, hh⟩ := hP
  have hx := Bd.exec
  have hby := Bd.bytes
  have hml : c.maxLocals = 1 := hml0
  have hown : s.vm.findClass "java/lang/String" = some m.cls := findClass_of_methodNamed Bd.named
  have hnm := (name_of_methodNamed Bd.named Bd.method).1
  have X0 : Stand p l e ({ frames := 0, cells := 0, slots := 0, locals := 0 } : Room) s m #[(.ref o0)] below meth c s₁ [] 0 0 := Stand.of_body Bd
  have e0 : s₁.heap = h0 := by rw [← hh, Bd.state]; rfl
  have N0 := Fr.nil n0
  have pre0 : ∀ t, Steps p.tables e below (s₁.setTop (mkF m 0 #[.val (.ref o0)] [])) t → Steps p.tables e below (s₁.setTop (entryFrame m #[(.ref o0)] 1)) t := fun t k => castTop (efa_jdk_42_method_152_code_v m o0) k
  obtain ⟨T1, X1, e1, st1⟩ := getS2 X0 hx hZ hown (host := "") (Or.inl (wd44 hw)) Via.refl e0 S_COMPACT_STRINGS (g := (mkF m 0 #[.val (.ref o0)] [])) rfl (hb hby dd_jdk_42_method_152_code_0)
  obtain ⟨T2, X2, e2, st2⟩ := getF X1 hx hZ hown (host := "") (Or.inl (wd45 hw)) Via.refl e1 F_o0_coder (g := (mkF m 7 #[.val (.ref o0)] [(.ref o0)])) rfl rfl (hb hby dd_jdk_42_method_152_code_7)
  obtain ⟨lfs, lhr, lhrun, lhended, lhW, lhsame⟩ := X2.leave (v := some (.int (0 : Int32))) (fun h => by rw [Bd.returns] at h; cases h)
  refine ⟨_, _, pre0 _ ?_, lhrun, lhended, _, _, rfl, ?_, ⟨_, rfl⟩, lhW, lhsame.mono (by decide) (by decide)⟩
  · skip
    show Steps p.tables e below (s₁.setTop (mkF m 0 #[.val (.ref o0)] [])) _
    refine st1 _ ?_
    show Steps p.tables e below (T1.setTop (mkF m 3 #[.val (.ref o0)] [(.int x1)])) _
    refine XS.ifNo X1.here hx rfl (hb hby dd_jdk_42_method_152_code_3) rfl ((if0 _ _).trans (feq hq1).1) ?_
    show Steps p.tables e below (T1.setTop (mkF m 6 #[.val (.ref o0)] [])) _
    refine XS.aloadN X1.here hx rfl (hb hby dd_jdk_42_method_152_code_6) rfl rfl ?_
    show Steps p.tables e below (T1.setTop (mkF m 7 #[.val (.ref o0)] [(.ref o0)])) _
    refine st2 _ ?_
    show Steps p.tables e below (T2.setTop (mkF m 10 #[.val (.ref o0)] [(.int (0 : Int32))])) _
    refine XS.goto X2.here hx rfl (pc0 := 10) (pc' := 14) rfl (hb hby dd_jdk_42_method_152_code_10) (by decide) (by decide) ?_
    show Steps p.tables e below (T2.setTop (mkF m 14 #[.val (.ref o0)] [(.int (0 : Int32))])) _
    exact retN X2 hx (t := .byte) Bd.returns (by simp) (hb hby dd_jdk_42_method_152_code_14) lhr
  · skip
    show QA7 Z o0 x1 h0 n0 _ T2.heap _
    rw [e2]
    exact ⟨rfl, N0, rfl⟩
theorem pd___B : parseMethodDescriptor "()B" = some ⟨[], some .byte⟩ := by decide +kernel
theorem dd_jdk_42_method_54_code_9 : decode jdk_42_method_54_code 9 = .ok (.ishr, 1) := by decide +kernel
theorem dd_jdk_42_method_54_code_10 : decode jdk_42_method_54_code 10 = .ok (.ireturn, 1) := by decide +kernel
def QA6 (Z : State) (o0 : Addr) (o1 : Addr) (kk_o1 : ClassId) (x2 : Int32) (h0 : Heap) (n0 : Nat) (v : Option Value) (h : Heap) (L : List Loc) : Prop := v = some (.int (1 : Int32)) ∧ Fr n0 L ∧ h = h0
set_option maxRecDepth 65536 in
set_option maxHeartbeats 40000000 in
theorem rmA6 (l : Launch) (Z : State) (a0 : Array Value) (hw : ∀ d ∈ tables_1, d.before a0 Z = true) (ws : List Jvm.Cond) (o0 : Addr) (o1 : Addr) (kk_o1 : ClassId) (x2 : Int32) (h0 : Heap) (n0 : Nat) (Z0 : n0 ≤ h0.size) (F_o0_value : Fld Z h0 o0 "java/lang/String" "value" "[B" (.ref o1)) (V_o1 : Arv Z h0 o1 kk_o1 .byte (1 : Int32) [(.int (113 : Int32))] (.int (0 : Int32))) (S_COMPACT_STRINGS : Sta Z h0 "java/lang/String" "COMPACT_STRINGS" "Z" (.int x2)) (hq3 : ¬ (x2 = (0 : Int32))) (F_o0_coder : Fld Z h0 o0 "java/lang/String" "coder" "B" (.int (0 : Int32))) (E_o0 : Exa Z h0 o0 "java/lang/String") :
    MetFree l (⟨"java/lang/String", "length", "()I"⟩ : MethodName) (head1 (Jvm.Cond.code (⟨"java/lang/String", "length", "()I"⟩ : MethodName) jdk_42_method_54_code 1 (some .int) :: ws) ({ frames := 1, cells := 0, slots := 0, locals := 13 } : Room)) (fun a U => a = #[(.ref o0)] ∧ Z.Warmed39 U.vm ∧ U.heap = h0) (fun _ _ _ _ _ => True) (fun _ U oc_ U' => ∃ v L, oc_ = .returned v ∧ QA6 Z o0 o1 kk_o1 x2 h0 n0 v U'.heap L ∧ FrameEnd U oc_ U' L ({ frames := 1, cells := 0, slots := 0, locals := 13 } : Room).cells ({ frames := 1, cells := 0, slots := 0, locals := 13 } : Room).slots) := by
  refine MetFree.of_bodySF (plainFor_of_name pn_java_lang_String) hisR ?_
  intro p e s m args below meth c s₁ Bd hml0 hP hK
  obtain ⟨rfl, hZ, hh⟩ := hP
  have hx := Bd.exec
  have hby := Bd.bytes
  have hml : c.maxLocals = 1 := hml0
  have hown : s.vm.findClass "java/lang/String" = some m.cls := findClass_of_methodNamed Bd.named
  have hnm := (name_of_methodNamed Bd.named Bd.method).1
  have X0 : Stand p l e ({ frames := 1, cells := 0, slots := 0, locals := 13 } : Room) s m #[(.ref o0)] below meth c s₁ [] 0 0 := Stand.of_body Bd
  have e0 : s₁.heap = h0 := by rw [← hh, Bd.state]; rfl
  have N0 := Fr.nil n0
  have pre0 : ∀ t, Steps p.tables e below (s₁.setTop (mkF m 0 #[.val (.ref o0)] [])) t → Steps p.tables e below (s₁.setTop (entryFrame m #[(.ref o0)] 1)) t := fun t k => castTop (efa_jdk_42_method_54_code_v m o0) k
  obtain ⟨T1, X1, e1, st1⟩ := getF X0 hx hZ hown (host := "") (Or.inl (wd33 hw)) Via.refl e0 F_o0_value (g := (mkF m 1 #[.val (.ref o0)] [(.ref o0)])) rfl rfl (hb hby dd_jdk_42_method_54_code_1)
  obtain ⟨cl2, Ar2, -, S2, M2, -, -⟩ := id V_o1
  obtain ⟨cq3, kq3, q3a, q3b, q3c⟩ := isOf hZ e1 E_o0
  obtain ⟨_, _, ⟨T3, L3, kc3, ks3⟩, -, X3, ⟨Lc3, hQ3, l3, y3, z3⟩, st3⟩ := X1.virtualBack hx (y := (⟨"java/lang/String", "coder", "()B"⟩ : MethodName)) (z := (⟨"java/lang/String", "coder", "()B"⟩ : MethodName)) hown (mvT hZ (wd39 hw)) (mvT hZ (wd40 hw)) (notFace_of_selects (args := #[]) (mvT hZ (wd42 hw))) (mvT hZ (wd42 hw)) (mvT hZ (wd41 hw)) (by decide) (backOf (W := 1) (rmA7 l Z a0 hw [] o0 x2 h0 n0 Z0 S_COMPACT_STRINGS hq3 F_o0_coder) hZ (wd43 hw) (wd6 hw) (by decide) (by decide)) q3a q3c (g := (mkF m 6 #[.val (.ref o0)] [(.ref o0), (.int (1 : Int32))])) rfl (by rw [hml]; rfl) (Steps.refl _) (argsL := []) (rest := [(.int (1 : Int32))]) (lenOf pd___B rfl) rfl (by show 2 * 0 + _ ≤ _; exact Nat.le_of_eq rfl) (hb hby dd_jdk_42_method_54_code_6) (fun _ _ => ⟨rfl, e1, (by decide : 0 + 0 ≤ _), (by decide : 0 + 0 ≤ _)⟩)
  dsimp only [Pt.U, Pt.locs, Pt.cells, Pt.slots] at X3 l3 y3 z3 st3 hQ3
  subst l3 y3 z3
  obtain ⟨rfl, Nq3, eq3⟩ := hQ3
  have N3 := Fr.app N0 Nq3
  obtain ⟨lfs, lhr, lhrun, lhended, lhW, lhsame⟩ := X3.leave (v := some (.int (1 : Int32))) (fun h => by rw [Bd.returns] at h; cases h)
  refine ⟨_, _, pre0 _ ?_, lhrun, lhended, _, _, rfl, ?_, ⟨_, rfl⟩, lhW, lhsame.mono (by decide) (by decide)⟩
  · skip
    show Steps p.tables e below (s₁.setTop (mkF m 0 #[.val (.ref o0)] [])) _
    refine XS.aloadN X0.here hx rfl (hb hby dd_jdk_42_method_54_code_0) rfl rfl ?_
    show Steps p.tables e below (s₁.setTop (mkF m 1 #[.val (.ref o0)] [(.ref o0)])) _
    refine st1 _ ?_
    show Steps p.tables e below (T1.setTop (mkF m 4 #[.val (.ref o0)] [(.ref o1)])) _
    refine X1.arraylength hx (by (try rw [e1]); exact Ar2.1) (State.isArrayOf_alike hZ.alike Ar2.2.1) (g := (mkF m 4 #[.val (.ref o0)] [(.ref o1)])) rfl rfl (hb hby dd_jdk_42_method_54_code_4) _ ?_
    rw [len_of S2 M2]
    show Steps p.tables e below (T1.setTop (mkF m 5 #[.val (.ref o0)] [(.int (1 : Int32))])) _
    refine XS.aloadN X1.here hx rfl (hb hby dd_jdk_42_method_54_code_5) rfl rfl ?_
    show Steps p.tables e below (T1.setTop (mkF m 6 #[.val (.ref o0)] [(.ref o0), (.int (1 : Int32))])) _
    refine st3.trans ?_
    show Steps p.tables e below (T3.setTop (mkF m 9 #[.val (.ref o0)] [(.int (0 : Int32)), (.int (1 : Int32))])) _
    refine XS.ishr X3.here hx rfl (hb hby dd_jdk_42_method_54_code_9) rfl ?_
    show Steps p.tables e below (T3.setTop (mkF m 10 #[.val (.ref o0)] [(.int (1 : Int32))])) _
    exact retI X3 hx Bd.returns (hb hby dd_jdk_42_method_54_code_10) lhr
  · skip
    show QA6 Z o0 o1 kk_o1 x2 h0 n0 _ T3.heap _
    rw [eq3]
    exact ⟨rfl, N3, rfl⟩
theorem pd___I : parseMethodDescriptor "()I" = some ⟨[], some .int⟩ := by decide +kernel
theorem dd_prog_16_method_2_code_15 : decode prog_16_method_2_code 15 = .ok (.bipush 64, 2) := by decide +kernel
theorem dd_prog_16_method_2_code_17 : decode prog_16_method_2_code 17 = .ok (.if_icmp .le 7, 3) := by decide +kernel
theorem dd_prog_16_method_2_code_24 : decode prog_16_method_2_code 24 = .ok (.iconst 0, 1) := by decide +kernel
theorem dd_prog_16_method_2_code_25 : decode prog_16_method_2_code 25 = .ok (.istore_n 1, 1) := by decide +kernel
theorem dd_prog_16_method_2_code_26 : decode prog_16_method_2_code 26 = .ok (.iload_n 1, 1) := by decide +kernel
theorem dd_prog_16_method_2_code_27 : decode prog_16_method_2_code 27 = .ok (.aload_n 0, 1) := by decide +kernel
theorem dd_prog_16_method_2_code_28 : decode prog_16_method_2_code 28 = .ok (.invokevirtual 13, 3) := by decide +kernel
theorem dd_prog_16_method_2_code_31 : decode prog_16_method_2_code 31 = .ok (.if_icmp .ge 61, 3) := by decide +kernel
theorem dd_prog_16_method_2_code_34 : decode prog_16_method_2_code 34 = .ok (.aload_n 0, 1) := by decide +kernel
theorem dd_prog_16_method_2_code_35 : decode prog_16_method_2_code 35 = .ok (.iload_n 1, 1) := by decide +kernel
theorem dd_prog_16_method_2_code_36 : decode prog_16_method_2_code 36 = .ok (.invokevirtual 23, 3) := by decide +kernel
theorem efa_jdk_42_method_56_code_vv (m : MethodId) (x0 : Addr) (x1 : Int32) : entryFrame m #[(.ref x0), (.int x1)] 2 = mkF m 0 #[.val (.ref x0), .val (.int x1)] [] := by first | (simp [entryFrame, mkF, argsToLocals, Value.category]; done) | rfl
theorem dd_jdk_42_method_56_code_0 : decode jdk_42_method_56_code 0 = .ok (.aload_n 0, 1) := by decide +kernel
theorem dd_jdk_42_method_56_code_1 : decode jdk_42_method_56_code 1 = .ok (.invokevirtual 492, 3) := by decide +kernel
theorem efa_jdk_42_method_154_code_v (m : MethodId) (x0 : Addr) : entryFrame m #[(.ref x0)] 1 = mkF m 0 #[.val (.ref x0)] [] := by first | (simp [entryFrame, mkF, argsToLocals, Value.category]; done) | rfl
theorem dd_jdk_42_method_154_code_0 : decode jdk_42_method_154_code 0 = .ok (.getstatic 38, 3) := by decide +kernel
theorem dd_jdk_42_method_154_code_3 : decode jdk_42_method_154_code 3 = .ok (.ifCond .eq 14, 3) := by decide +kernel
theorem dd_jdk_42_method_154_code_6 : decode jdk_42_method_154_code 6 = .ok (.aload_n 0, 1) := by decide +kernel
theorem dd_jdk_42_method_154_code_7 : decode jdk_42_method_154_code 7 = .ok (.getfield 15, 3) := by decide +kernel
theorem dd_jdk_42_method_154_code_10 : decode jdk_42_method_154_code 10 = .ok (.ifCond .ne 7, 3) := by decide +kernel
theorem dd_jdk_42_method_154_code_13 : decode jdk_42_method_154_code 13 = .ok (.iconst 1, 1) := by decide +kernel
theorem dd_jdk_42_method_154_code_14 : decode jdk_42_method_154_code 14 = .ok (.goto 4, 3) := by decide +kernel
theorem dd_jdk_42_method_154_code_18 : decode jdk_42_method_154_code 18 = .ok (.ireturn, 1) := by decide +kernel
def QA11 (Z : State) (o0 : Addr) (x1 : Int32) (h0 : Heap) (n0 : Nat) (v : Option Value) (h : Heap) (L : List Loc) : Prop := v = some (.int (1 : Int32)) ∧ Fr n0 L ∧ h = h0
set_option maxRecDepth 65536 in
set_option maxHeartbeats 40000000 in
theorem rmA11 (l : Launch) (Z : State) (a0 : Array Value) (hw : ∀ d ∈ tables_1, d.before a0 Z = true) (ws : List Jvm.Cond) (o0 : Addr) (x1 : Int32) (h0 : Heap) (n0 : Nat) (Z0 : n0 ≤ h0.size) (S_COMPACT_STRINGS : Sta Z h0 "java/lang/String" "COMPACT_STRINGS" "Z" (.int x1)) (hq1 : ¬ (x1 = (0 : Int32))) (F_o0_coder : Fld Z h0 o0 "java/lang/String" "coder" "B" (.int (0 : Int32))) :
    MetFree l (⟨"java/lang/String", "isLatin1", "()Z"⟩ : MethodName) (head1 (Jvm.Cond.code (⟨"java/lang/String", "isLatin1", "()Z"⟩ : MethodName) jdk_42_method_154_code 1 (some .boolean) :: ws) ({ frames := 0, cells := 0, slots := 0, locals := 0 } : Room)) (fun a U => a = #[(.ref o0)] ∧ Z.Warmed39 U.vm ∧ U.heap = h0) (fun _ _ _ _ _ => True) (fun _ U oc_ U' => ∃ v L, oc_ = .returned v ∧ QA11 Z o0 x1 h0 n0 v U'.heap L ∧ FrameEnd U oc_ U' L ({ frames := 0, cells := 0, slots := 0, locals := 0 } : Room).cells ({ frames := 0, cells := 0, slots := 0, locals := 0 } : Room).slots) := by
  refine MetFree.of_bodySF (plainFor_of_name pn_java_lang_String) hisR ?_
  intro p e s m args below meth c s₁ Bd hml0 hP hK
  obtain ⟨rfl, hZ, hh⟩ := hP
  have hx := Bd.exec
  have hby := Bd.bytes
  have hml : c.maxLocals = 1 := hml0
  have hown : s.vm.findClass "java/lang/String" = some m.cls := findClass_of_methodNamed Bd.named
  have hnm := (name_of_methodNamed Bd.named Bd.method).1
  have X0 : Stand p l e ({ frames := 0, cells := 0, slots := 0, locals := 0 } : Room) s m #[(.ref o0)] below meth c s₁ [] 0 0 := Stand.of_body Bd
  have e0 : s₁.heap = h0 := by rw [← hh, Bd.state]; rfl
  have N0 := Fr.nil n0
  have pre0 : ∀ t, Steps p.tables e below (s₁.setTop (mkF m 0 #[.val (.ref o0)] [])) t → Steps p.tables e below (s₁.setTop (entryFrame m #[(.ref o0)] 1)) t := fun t k => castTop (efa_jdk_42_method_154_code_v m o0) k
  obtain ⟨T1, X1, e1, st1⟩ := getS2 X0 hx hZ hown (host := "") (Or.inl (wd44 hw)) Via.refl e0 S_COMPACT_STRINGS (g := (mkF m 0 #[.val (.ref o0)] [])) rfl (hb hby dd_jdk_42_method_154_code_0)
  obtain ⟨T2, X2, e2, st2⟩ := getF X1 hx hZ hown (host := "") (Or.inl (wd45 hw)) Via.refl e1 F_o0_coder (g := (mkF m 7 #[.val (.ref o0)] [(.ref o0)])) rfl rfl (hb hby dd_jdk_42_method_154_code_7)
  obtain ⟨lfs, lhr, lhrun, lhended, lhW, lhsame⟩ := X2.leave (v := some (.int (1 : Int32))) (fun h => by rw [Bd.returns] at h; cases h)
  refine ⟨_, _, pre0 _ ?_, lhrun, lhended, _, _, rfl, ?_, ⟨_, rfl⟩, lhW, lhsame.mono (by decide) (by decide)⟩
  · skip
    show Steps p.tables e below (s₁.setTop (mkF m 0 #[.val (.ref o0)] [])) _
    refine st1 _ ?_
    show Steps p.tables e below (T1.setTop (mkF m 3 #[.val (.ref o0)] [(.int x1)])) _
    refine XS.ifNo X1.here hx rfl (hb hby dd_jdk_42_method_154_code_3) rfl ((if0 _ _).trans (feq hq1).1) ?_
    show Steps p.tables e below (T1.setTop (mkF m 6 #[.val (.ref o0)] [])) _
    refine XS.aloadN X1.here hx rfl (hb hby dd_jdk_42_method_154_code_6) rfl rfl ?_
    show Steps p.tables e below (T1.setTop (mkF m 7 #[.val (.ref o0)] [(.ref o0)])) _
    refine st2 _ ?_
    show Steps p.tables e below (T2.setTop (mkF m 10 #[.val (.ref o0)] [(.int (0 : Int32))])) _
    refine XS.ifNo X2.here hx rfl (hb hby dd_jdk_42_method_154_code_10) rfl ((if0 _ _).trans (teq (by decide : (0 : Int32) = (0 : Int32))).2) ?_
    show Steps p.tables e below (T2.setTop (mkF m 13 #[.val (.ref o0)] [])) _
    refine XS.iconst X2.here hx rfl (hb hby dd_jdk_42_method_154_code_13) ?_
    show Steps p.tables e below (T2.setTop (mkF m 14 #[.val (.ref o0)] [(.int (1 : Int32))])) _
    refine XS.goto X2.here hx rfl (pc0 := 14) (pc' := 18) rfl (hb hby dd_jdk_42_method_154_code_14) (by decide) (by decide) ?_
    show Steps p.tables e below (T2.setTop (mkF m 18 #[.val (.ref o0)] [(.int (1 : Int32))])) _
    exact retN X2 hx (t := .boolean) Bd.returns (by simp) (hb hby dd_jdk_42_method_154_code_18) lhr
  · skip
    show QA11 Z o0 x1 h0 n0 _ T2.heap _
    rw [e2]
    exact ⟨rfl, N0, rfl⟩
theorem dd_jdk_42_method_56_code_4 : decode jdk_42_method_56_code 4 = .ok (.ifCond .eq 12, 3) := by decide +kernel
theorem dd_jdk_42_method_56_code_7 : decode jdk_42_method_56_code 7 = .ok (.aload_n 0, 1) := by decide +kernel
theorem dd_jdk_42_method_56_code_8 : decode jdk_42_method_56_code 8 = .ok (.getfield 9, 3) := by decide +kernel
theorem dd_jdk_42_method_56_code_11 : decode jdk_42_method_56_code 11 = .ok (.iload_n 1, 1) := by decide +kernel
theorem dd_jdk_42_method_56_code_12 : decode jdk_42_method_56_code 12 = .ok (.invokestatic 495, 3) := by decide +kernel
theorem efa_jdk_43_method_2_code_vv (m : MethodId) (x0 : Addr) (x1 : Int32) : entryFrame m #[(.ref x0), (.int x1)] 2 = mkF m 0 #[.val (.ref x0), .val (.int x1)] [] := by first | (simp [entryFrame, mkF, argsToLocals, Value.category]; done) | rfl
theorem pn_java_lang_StringLatin1 : plainName "java/lang/StringLatin1" = true := by first | (simp [plainName, overriddenIn]; done) | decide +kernel
theorem dd_jdk_43_method_2_code_0 : decode jdk_43_method_2_code 0 = .ok (.iload_n 1, 1) := by decide +kernel
theorem dd_jdk_43_method_2_code_1 : decode jdk_43_method_2_code 1 = .ok (.aload_n 0, 1) := by decide +kernel
theorem dd_jdk_43_method_2_code_2 : decode jdk_43_method_2_code 2 = .ok (.arraylength, 1) := by decide +kernel
theorem dd_jdk_43_method_2_code_3 : decode jdk_43_method_2_code 3 = .ok (.invokestatic 9, 3) := by decide +kernel
theorem pd__II_V : parseMethodDescriptor "(II)V" = some ⟨[.int, .int], none⟩ := by decide +kernel
theorem dd_jdk_43_method_2_code_6 : decode jdk_43_method_2_code 6 = .ok (.aload_n 0, 1) := by decide +kernel
theorem dd_jdk_43_method_2_code_7 : decode jdk_43_method_2_code 7 = .ok (.iload_n 1, 1) := by decide +kernel
theorem dd_jdk_43_method_2_code_8 : decode jdk_43_method_2_code 8 = .ok (.baload, 1) := by decide +kernel
theorem dd_jdk_43_method_2_code_9 : decode jdk_43_method_2_code 9 = .ok (.sipush 255, 3) := by decide +kernel
theorem dd_jdk_43_method_2_code_12 : decode jdk_43_method_2_code 12 = .ok (.iand, 1) := by decide +kernel
theorem dd_jdk_43_method_2_code_13 : decode jdk_43_method_2_code 13 = .ok (.i2c, 1) := by decide +kernel
theorem dd_jdk_43_method_2_code_14 : decode jdk_43_method_2_code 14 = .ok (.ireturn, 1) := by decide +kernel
def QA12 (Z : State) (o0 : Addr) (kk_o0 : ClassId) (u1 : Value) (h0 : Heap) (n0 : Nat) (v : Option Value) (h : Heap) (L : List Loc) : Prop := v = some (.int (113 : Int32)) ∧ Fr n0 L ∧ h = h0
set_option maxRecDepth 65536 in
set_option maxHeartbeats 40000000 in
theorem rmA12 (l : Launch) (Z : State) (a0 : Array Value) (hw : ∀ d ∈ tables_1, d.before a0 Z = true) (ws : List Jvm.Cond) (o0 : Addr) (kk_o0 : ClassId) (u1 : Value) (h0 : Heap) (n0 : Nat) (Z0 : n0 ≤ h0.size) (V_o0 : Arv Z h0 o0 kk_o0 .byte (1 : Int32) [(.int (113 : Int32))] (.int (0 : Int32))) (S_SIOOBE_FORMATTER : Sta Z h0 "jdk/internal/util/Preconditions" "SIOOBE_FORMATTER" "Ljava/util/function/BiFunction;" u1) (rr_u1 : u1.isRef = true) :
    MetFree l (⟨"java/lang/StringLatin1", "charAt", "([BI)C"⟩ : MethodName) (head1 (Jvm.Cond.code (⟨"java/lang/StringLatin1", "charAt", "([BI)C"⟩ : MethodName) jdk_43_method_2_code 2 (some .char) :: ws) ({ frames := 2, cells := 0, slots := 0, locals := 27 } : Room)) (fun a U => a = #[(.ref o0), (.int (0 : Int32))] ∧ Z.Warmed39 U.vm ∧ U.heap = h0) (fun _ _ _ _ _ => True) (fun _ U oc_ U' => ∃ v L, oc_ = .returned v ∧ QA12 Z o0 kk_o0 u1 h0 n0 v U'.heap L ∧ FrameEnd U oc_ U' L ({ frames := 2, cells := 0, slots := 0, locals := 27 } : Room).cells ({ frames := 2, cells := 0, slots := 0, locals := 27 } : Room).slots) := by
  refine MetFree.of_bodySF (plainFor_of_name pn_java_lang_StringLatin1) hisR ?_
  intro p e s m args below meth c s₁ Bd hml0 hP hK
  obtain ⟨rfl, hZ, hh⟩ := hP
  have hx := Bd.exec
  have hby := Bd.bytes
  have hml : c.maxLocals = 2 := hml0
  have hown : s.vm.findClass "java/lang/StringLatin1" = some m.cls := findClass_of_methodNamed Bd.named
  have hnm := (name_of_methodNamed Bd.named Bd.method).1
  have X0 : Stand p l e ({ frames := 2, cells := 0, slots := 0, locals := 27 } : Room) s m #[(.ref o0), (.int (0 : Int32))] below meth c s₁ [] 0 0 := Stand.of_body Bd
  have e0 : s₁.heap = h0 := by rw [← hh, Bd.state]; rfl
  have N0 := Fr.nil n0
  have pre0 : ∀ t, Steps p.tables e below (s₁.setTop (mkF m 0 #[.val (.ref o0), .val (.int (0 : Int32))] [])) t → Steps p.tables e below (s₁.setTop (entryFrame m #[(.ref o0), (.int (0 : Int32))] 2)) t := fun t k => castTop (efa_jdk_43_method_2_code_vv m o0 (0 : Int32)) k
  obtain ⟨cl1, Ar1, -, S1, M1, -, -⟩ := id V_o0
  obtain ⟨_, _, ⟨T2, L2, kc2, ks2⟩, -, X2, ⟨Lc2, hQ2, l2, y2, z2⟩, st2⟩ := Jvm.LawKit.callS X0 hx (y := (⟨"java/lang/String", "checkIndex", "(II)V"⟩ : MethodName)) hown (mvT hZ (wd60 hw)) (mvT hZ (wd61 hw)) (mvT hZ (wd6 hw)) (mvT hZ (wd62 hw)) (by decide) (backOf (W := 0) (rmCI l Z a0 hw [] (0 : Int32) (1 : Int32) u1 h0 n0 Z0 S_SIOOBE_FORMATTER rr_u1 (by decide : ¬ ((0 : Int32) < (0 : Int32))) (by decide : (0 : Int32) < (1 : Int32))) hZ (wd62 hw) (wd6 hw) (by decide) (by decide)) (g := (mkF m 3 #[.val (.ref o0), .val (.int (0 : Int32))] [(.int (1 : Int32)), (.int (0 : Int32))])) rfl (by rw [hml]; rfl) (argsL := [(.int (0 : Int32)), (.int (1 : Int32))]) (rest := []) (lenOf pd__II_V rfl) rfl (by show 2 * 0 + _ ≤ _; exact Nat.le_of_eq rfl) (hb hby dd_jdk_43_method_2_code_3) (fun _ _ => ⟨rfl, e0, (by decide : 0 + 0 ≤ _), (by decide : 0 + 0 ≤ _)⟩)
  dsimp only [Pt.U, Pt.locs, Pt.cells, Pt.slots] at X2 l2 y2 z2 st2 hQ2
  subst l2 y2 z2
  obtain ⟨rfl, Nq2, eq2⟩ := hQ2
  have N2 := Fr.app N0 Nq2
  obtain ⟨cl3, Ar3, q3, S3, M3, HH3, GG3⟩ := id V_o0
  have hin3 : ¬ ((0 : Int32) < 0 ∨ cl3.slots.size ≤ ((0 : Int32)).toNatClampNeg) := inb_of S3 ⟨by decide, by decide⟩
  have hat3 : cl3.slots[((0 : Int32)).toNatClampNeg]? = some (.int (113 : Int32)) := Has.at HH3 hin3 rfl
  obtain ⟨lfs, lhr, lhrun, lhended, lhW, lhsame⟩ := X2.leave (v := some (.int (113 : Int32))) (fun h => by rw [Bd.returns] at h; cases h)
  refine ⟨_, _, pre0 _ ?_, lhrun, lhended, _, _, rfl, ?_, ⟨_, rfl⟩, lhW, lhsame.mono (by decide) (by decide)⟩
  · skip
    show Steps p.tables e below (s₁.setTop (mkF m 0 #[.val (.ref o0), .val (.int (0 : Int32))] [])) _
    refine XS.iloadN X0.here hx rfl (hb hby dd_jdk_43_method_2_code_0) rfl ?_
    show Steps p.tables e below (s₁.setTop (mkF m 1 #[.val (.ref o0), .val (.int (0 : Int32))] [(.int (0 : Int32))])) _
    refine XS.aloadN X0.here hx rfl (hb hby dd_jdk_43_method_2_code_1) rfl rfl ?_
    show Steps p.tables e below (s₁.setTop (mkF m 2 #[.val (.ref o0), .val (.int (0 : Int32))] [(.ref o0), (.int (0 : Int32))])) _
    refine X0.arraylength hx (by (try rw [e0]); exact Ar1.1) (State.isArrayOf_alike hZ.alike Ar1.2.1) (g := (mkF m 2 #[.val (.ref o0), .val (.int (0 : Int32))] [(.ref o0), (.int (0 : Int32))])) rfl rfl (hb hby dd_jdk_43_method_2_code_2) _ ?_
    rw [len_of S1 M1]
    show Steps p.tables e below (s₁.setTop (mkF m 3 #[.val (.ref o0), .val (.int (0 : Int32))] [(.int (1 : Int32)), (.int (0 : Int32))])) _
    refine st2 _ ?_
    show Steps p.tables e below (T2.setTop (mkF m 6 #[.val (.ref o0), .val (.int (0 : Int32))] [])) _
    refine XS.aloadN X2.here hx rfl (hb hby dd_jdk_43_method_2_code_6) rfl rfl ?_
    show Steps p.tables e below (T2.setTop (mkF m 7 #[.val (.ref o0), .val (.int (0 : Int32))] [(.ref o0)])) _
    refine XS.iloadN X2.here hx rfl (hb hby dd_jdk_43_method_2_code_7) rfl ?_
    show Steps p.tables e below (T2.setTop (mkF m 8 #[.val (.ref o0), .val (.int (0 : Int32))] [(.int (0 : Int32)), (.ref o0)])) _
    refine X2.baloadBytes hx (j := (0 : Int32)) (v := (.int (113 : Int32))) (by (try rw [eq2]); exact Ar3.1) (State.isArrayOf_alike hZ.alike Ar3.2.1) Ar3.2.2 hin3 hat3 (g := (mkF m 8 #[.val (.ref o0), .val (.int (0 : Int32))] [(.int (0 : Int32)), (.ref o0)])) rfl rfl (hb hby dd_jdk_43_method_2_code_8) _ ?_
    show Steps p.tables e below (T2.setTop (mkF m 9 #[.val (.ref o0), .val (.int (0 : Int32))] [(.int (113 : Int32))])) _
    refine XS.sipush X2.here hx rfl (hb hby dd_jdk_43_method_2_code_9) ?_
    show Steps p.tables e below (T2.setTop (mkF m 12 #[.val (.ref o0), .val (.int (0 : Int32))] [(.int (255 : Int32)), (.int (113 : Int32))])) _
    refine XS.iand X2.here hx rfl (hb hby dd_jdk_43_method_2_code_12) rfl ?_
    show Steps p.tables e below (T2.setTop (mkF m 13 #[.val (.ref o0), .val (.int (0 : Int32))] [(.int (113 : Int32))])) _
    refine XS.i2c X2.here hx rfl (hb hby dd_jdk_43_method_2_code_13) rfl ?_
    show Steps p.tables e below (T2.setTop (mkF m 14 #[.val (.ref o0), .val (.int (0 : Int32))] [(.int (113 : Int32))])) _
    exact retN X2 hx (t := .char) Bd.returns (by simp) (hb hby dd_jdk_43_method_2_code_14) lhr
  · skip
    show QA12 Z o0 kk_o0 u1 h0 n0 _ T2.heap _
    rw [eq2]
    exact ⟨rfl, N2, rfl⟩
theorem pd___BI_C : parseMethodDescriptor "([BI)C" = some ⟨[(.array .byte), .int], some .char⟩ := by decide +kernel
theorem dd_jdk_42_method_56_code_15 : decode jdk_42_method_56_code 15 = .ok (.ireturn, 1) := by decide +kernel
def QA10 (Z : State) (o0 : Addr) (x1 : Int32) (o2 : Addr) (kk_o2 : ClassId) (u3 : Value) (h0 : Heap) (n0 : Nat) (v : Option Value) (h : Heap) (L : List Loc) : Prop := v = some (.int (113 : Int32)) ∧ Fr n0 L ∧ h = h0
set_option maxRecDepth 65536 in
set_option maxHeartbeats 40000000 in
theorem rmA10 (l : Launch) (Z : State) (a0 : Array Value) (hw : ∀ d ∈ tables_1, d.before a0 Z = true) (ws : List Jvm.Cond) (o0 : Addr) (x1 : Int32) (o2 : Addr) (kk_o2 : ClassId) (u3 : Value) (h0 : Heap) (n0 : Nat) (Z0 : n0 ≤ h0.size) (S_COMPACT_STRINGS : Sta Z h0 "java/lang/String" "COMPACT_STRINGS" "Z" (.int x1)) (hq1 : ¬ (x1 = (0 : Int32))) (F_o0_coder : Fld Z h0 o0 "java/lang/String" "coder" "B" (.int (0 : Int32))) (E_o0 : Exa Z h0 o0 "java/lang/String") (F_o0_value : Fld Z h0 o0 "java/lang/String" "value" "[B" (.ref o2)) (V_o2 : Arv Z h0 o2 kk_o2 .byte (1 : Int32) [(.int (113 : Int32))] (.int (0 : Int32))) (S_SIOOBE_FORMATTER : Sta Z h0 "jdk/internal/util/Preconditions" "SIOOBE_FORMATTER" "Ljava/util/function/BiFunction;" u3) (rr_u3 : u3.isRef = true) :
    MetFree l (⟨"java/lang/String", "charAt", "(I)C"⟩ : MethodName) (head1 (Jvm.Cond.code (⟨"java/lang/String", "charAt", "(I)C"⟩ : MethodName) jdk_42_method_56_code 2 (some .char) :: ws) ({ frames := 3, cells := 0, slots := 0, locals := 40 } : Room)) (fun a U => a = #[(.ref o0), (.int (0 : Int32))] ∧ Z.Warmed39 U.vm ∧ U.heap = h0) (fun _ _ _ _ _ => True) (fun _ U oc_ U' => ∃ v L, oc_ = .returned v ∧ QA10 Z o0 x1 o2 kk_o2 u3 h0 n0 v U'.heap L ∧ FrameEnd U oc_ U' L ({ frames := 3, cells := 0, slots := 0, locals := 40 } : Room).cells ({ frames := 3, cells := 0, slots := 0, locals := 40 } : Room).slots) := by
  refine MetFree.of_bodySF (plainFor_of_name pn_java_lang_String) hisR ?_
  intro p e s m args below meth c s₁ Bd hml0 hP hK
  obtain ⟨rfl, hZ, hh⟩ := hP
  have hx := Bd.exec
  have hby := Bd.bytes
  have hml : c.maxLocals = 2 := hml0
  have hown : s.vm.findClass "java/lang/String" = some m.cls := findClass_of_methodNamed Bd.named
  have hnm := (name_of_methodNamed Bd.named Bd.method).1
  have X0 : Stand p l e ({ frames := 3, cells := 0, slots := 0, locals := 40 } : Room) s m #[(.ref o0), (.int (0 : Int32))] below meth c s₁ [] 0 0 := Stand.of_body Bd
  have e0 : s₁.heap = h0 := by rw [← hh, Bd.state]; rfl
  have N0 := Fr.nil n0
  have pre0 : ∀ t, Steps p.tables e below (s₁.setTop (mkF m 0 #[.val (.ref o0), .val (.int (0 : Int32))] [])) t → Steps p.tables e below (s₁.setTop (entryFrame m #[(.ref o0), (.int (0 : Int32))] 2)) t := fun t k => castTop (efa_jdk_42_method_56_code_vv m o0 (0 : Int32)) k
  obtain ⟨cq1, kq1, q1a, q1b, q1c⟩ := isOf hZ e0 E_o0
  obtain ⟨_, _, ⟨T1, L1, kc1, ks1⟩, -, X1, ⟨Lc1, hQ1, l1, y1, z1⟩, st1⟩ := X0.virtualBack hx (y := (⟨"java/lang/String", "isLatin1", "()Z"⟩ : MethodName)) (z := (⟨"java/lang/String", "isLatin1", "()Z"⟩ : MethodName)) hown (mvT hZ (wd51 hw)) (mvT hZ (wd52 hw)) (notFace_of_selects (args := #[]) (mvT hZ (wd54 hw))) (mvT hZ (wd54 hw)) (mvT hZ (wd53 hw)) (by decide) (backOf (W := 0) (rmA11 l Z a0 hw [] o0 x1 h0 n0 Z0 S_COMPACT_STRINGS hq1 F_o0_coder) hZ (wd55 hw) (wd6 hw) (by decide) (by decide)) q1a q1c (g := (mkF m 1 #[.val (.ref o0), .val (.int (0 : Int32))] [(.ref o0)])) rfl (by rw [hml]; rfl) (Steps.refl _) (argsL := []) (rest := []) (lenOf pd___Z rfl) rfl (by show 2 * 0 + _ ≤ _; exact Nat.le_of_eq rfl) (hb hby dd_jdk_42_method_56_code_1) (fun _ _ => ⟨rfl, e0, (by decide : 0 + 0 ≤ _), (by decide : 0 + 0 ≤ _)⟩)
  dsimp only [Pt.U, Pt.locs, Pt.cells, Pt.slots] at X1 l1 y1 z1 st1 hQ1
  subst l1 y1 z1
  obtain ⟨rfl, Nq1, eq1⟩ := hQ1
  have N1 := Fr.app N0 Nq1
  obtain ⟨T2, X2, e2, st2⟩ := getF X1 hx hZ hown (host := "") (Or.inl (wd33 hw)) Via.refl eq1 F_o0_value (g := (mkF m 8 #[.val (.ref o0), .val (.int (0 : Int32))] [(.ref o0)])) rfl rfl (hb hby dd_jdk_42_method_56_code_8)
  obtain ⟨_, _, ⟨T3, L3, kc3, ks3⟩, -, X3, ⟨Lc3, hQ3, l3, y3, z3⟩, st3⟩ := Jvm.LawKit.callS X2 hx (y := (⟨"java/lang/StringLatin1", "charAt", "([BI)C"⟩ : MethodName)) hown (mvT hZ (wd56 hw)) (mvT hZ (wd57 hw)) (mvT hZ (wd58 hw)) (mvT hZ (wd59 hw)) (by decide) (backOf (W := 0) (rmA12 l Z a0 hw [] o2 _ u3 h0 n0 Z0 V_o2 S_SIOOBE_FORMATTER rr_u3) hZ (wd59 hw) (wd58 hw) (by decide) (by decide)) (g := (mkF m 12 #[.val (.ref o0), .val (.int (0 : Int32))] [(.int (0 : Int32)), (.ref o2)])) rfl (by rw [hml]; rfl) (argsL := [(.ref o2), (.int (0 : Int32))]) (rest := []) (lenOf pd___BI_C rfl) rfl (by show 2 * 0 + _ ≤ _; exact Nat.le_of_eq rfl) (hb hby dd_jdk_42_method_56_code_12) (fun _ _ => ⟨rfl, e2, (by decide : 0 + 0 ≤ _), (by decide : 0 + 0 ≤ _)⟩)
  dsimp only [Pt.U, Pt.locs, Pt.cells, Pt.slots] at X3 l3 y3 z3 st3 hQ3
  subst l3 y3 z3
  obtain ⟨rfl, Nq3, eq3⟩ := hQ3
  have N3 := Fr.app N1 Nq3
  obtain ⟨lfs, lhr, lhrun, lhended, lhW, lhsame⟩ := X3.leave (v := some (.int (113 : Int32))) (fun h => by rw [Bd.returns] at h; cases h)
  refine ⟨_, _, pre0 _ ?_, lhrun, lhended, _, _, rfl, ?_, ⟨_, rfl⟩, lhW, lhsame.mono (by decide) (by decide)⟩
  · skip
    show Steps p.tables e below (s₁.setTop (mkF m 0 #[.val (.ref o0), .val (.int (0 : Int32))] [])) _
    refine XS.aloadN X0.here hx rfl (hb hby dd_jdk_42_method_56_code_0) rfl rfl ?_
    show Steps p.tables e below (s₁.setTop (mkF m 1 #[.val (.ref o0), .val (.int (0 : Int32))] [(.ref o0)])) _
    refine st1.trans ?_
    show Steps p.tables e below (T1.setTop (mkF m 4 #[.val (.ref o0), .val (.int (0 : Int32))] [(.int (1 : Int32))])) _
    refine XS.ifNo X1.here hx rfl (hb hby dd_jdk_42_method_56_code_4) rfl ((if0 _ _).trans (feq (by decide : ¬ ((1 : Int32) = (0 : Int32)))).1) ?_
    show Steps p.tables e below (T1.setTop (mkF m 7 #[.val (.ref o0), .val (.int (0 : Int32))] [])) _
    refine XS.aloadN X1.here hx rfl (hb hby dd_jdk_42_method_56_code_7) rfl rfl ?_
    show Steps p.tables e below (T1.setTop (mkF m 8 #[.val (.ref o0), .val (.int (0 : Int32))] [(.ref o0)])) _
    refine st2 _ ?_
    show Steps p.tables e below (T2.setTop (mkF m 11 #[.val (.ref o0), .val (.int (0 : Int32))] [(.ref o2)])) _
    refine XS.iloadN X2.here hx rfl (hb hby dd_jdk_42_method_56_code_11) rfl ?_
    show Steps p.tables e below (T2.setTop (mkF m 12 #[.val (.ref o0), .val (.int (0 : Int32))] [(.int (0 : Int32)), (.ref o2)])) _
    refine st3 _ ?_
    show Steps p.tables e below (T3.setTop (mkF m 15 #[.val (.ref o0), .val (.int (0 : Int32))] [(.int (113 : Int32))])) _
    exact retN X3 hx (t := .char) Bd.returns (by simp) (hb hby dd_jdk_42_method_56_code_15) lhr
  · skip
    show QA10 Z o0 x1 o2 kk_o2 u3 h0 n0 _ T3.heap _
    rw [eq3]
    exact ⟨rfl, N3, rfl⟩
theorem pd__I_C : parseMethodDescriptor "(I)C" = some ⟨[.int], some .char⟩ := by decide +kernel
theorem dd_prog_16_method_2_code_39 : decode prog_16_method_2_code 39 = .ok (.istore_n 2, 1) := by decide +kernel
theorem dd_prog_16_method_2_code_40 : decode prog_16_method_2_code 40 = .ok (.iload_n 2, 1) := by decide +kernel
theorem dd_prog_16_method_2_code_41 : decode prog_16_method_2_code 41 = .ok (.bipush 97, 2) := by decide +kernel
theorem dd_prog_16_method_2_code_43 : decode prog_16_method_2_code 43 = .ok (.if_icmp .lt 9, 3) := by decide +kernel
theorem dd_prog_16_method_2_code_46 : decode prog_16_method_2_code 46 = .ok (.iload_n 2, 1) := by decide +kernel
theorem dd_prog_16_method_2_code_47 : decode prog_16_method_2_code 47 = .ok (.bipush 122, 2) := by decide +kernel
theorem dd_prog_16_method_2_code_49 : decode prog_16_method_2_code 49 = .ok (.if_icmp .le 37, 3) := by decide +kernel
theorem dd_prog_16_method_2_code_86 : decode prog_16_method_2_code 86 = .ok (.iinc 1 1, 3) := by decide +kernel
theorem dd_prog_16_method_2_code_89 : decode prog_16_method_2_code 89 = .ok (.goto (-63), 3) := by decide +kernel
theorem dd_prog_16_method_2_code_92 : decode prog_16_method_2_code 92 = .ok (.aload_n 0, 1) := by decide +kernel
theorem dd_prog_16_method_2_code_93 : decode prog_16_method_2_code 93 = .ok (.areturn, 1) := by decide +kernel
def QA4 (Z : State) (o0 : Addr) (o1 : Addr) (kk_o1 : ClassId) (x2 : Int32) (u3 : Value) (h0 : Heap) (n0 : Nat) (v : Option Value) (h : Heap) (L : List Loc) : Prop := v = some (.ref o0) ∧ Fr n0 L ∧ h = h0
set_option maxRecDepth 65536 in
set_option maxHeartbeats 40000000 in
theorem rmA4 (l : Launch) (Z : State) (a0 : Array Value) (hw : ∀ d ∈ tables_1, d.before a0 Z = true) (ws : List Jvm.Cond) (o0 : Addr) (o1 : Addr) (kk_o1 : ClassId) (x2 : Int32) (u3 : Value) (h0 : Heap) (n0 : Nat) (Z0 : n0 ≤ h0.size) (F_o0_value : Fld Z h0 o0 "java/lang/String" "value" "[B" (.ref o1)) (V_o1 : Arv Z h0 o1 kk_o1 .byte (1 : Int32) [(.int (113 : Int32))] (.int (0 : Int32))) (E_o0 : Exa Z h0 o0 "java/lang/String") (S_COMPACT_STRINGS : Sta Z h0 "java/lang/String" "COMPACT_STRINGS" "Z" (.int x2)) (hq4 : ¬ (x2 = (0 : Int32))) (F_o0_coder : Fld Z h0 o0 "java/lang/String" "coder" "B" (.int (0 : Int32))) (S_SIOOBE_FORMATTER : Sta Z h0 "jdk/internal/util/Preconditions" "SIOOBE_FORMATTER" "Ljava/util/function/BiFunction;" u3) (rr_u3 : u3.isRef = true) :
    MetFree l (⟨"com/example/aloq/aloq/engine/QueueName", "check", "(Ljava/lang/String;)Ljava/lang/String;"⟩ : MethodName) (head1 (Jvm.Cond.code (⟨"com/example/aloq/aloq/engine/QueueName", "check", "(Ljava/lang/String;)Ljava/lang/String;"⟩ : MethodName) prog_16_method_2_code 3 (some (.object "java/lang/String")) :: ws) ({ frames := 4, cells := 0, slots := 0, locals := 53 } : Room)) (fun a U => a = #[(.ref o0)] ∧ Z.Warmed39 U.vm ∧ U.heap = h0) (fun _ _ _ _ _ => True) (fun _ U oc_ U' => ∃ v L, oc_ = .returned v ∧ QA4 Z o0 o1 kk_o1 x2 u3 h0 n0 v U'.heap L ∧ FrameEnd U oc_ U' L ({ frames := 4, cells := 0, slots := 0, locals := 53 } : Room).cells ({ frames := 4, cells := 0, slots := 0, locals := 53 } : Room).slots) := by
  refine MetFree.of_bodySF (plainFor_of_name pn_com_example_aloq_aloq_engine_QueueName) hisR ?_
  intro p e s m args below meth c s₁ Bd hml0 hP hK
  obtain ⟨rfl, hZ, hh⟩ := hP
  have hx := Bd.exec
  have hby := Bd.bytes
  have hml : c.maxLocals = 3 := hml0
  have hown : s.vm.findClass "com/example/aloq/aloq/engine/QueueName" = some m.cls := findClass_of_methodNamed Bd.named
  have hnm := (name_of_methodNamed Bd.named Bd.method).1
  have X0 : Stand p l e ({ frames := 4, cells := 0, slots := 0, locals := 53 } : Room) s m #[(.ref o0)] below meth c s₁ [] 0 0 := Stand.of_body Bd
  have e0 : s₁.heap = h0 := by rw [← hh, Bd.state]; rfl
  have N0 := Fr.nil n0
  have pre0 : ∀ t, Steps p.tables e below (s₁.setTop (mkF m 0 #[.val (.ref o0), .unset, .unset] [])) t → Steps p.tables e below (s₁.setTop (entryFrame m #[(.ref o0)] 3)) t := fun t k => castTop (efa_prog_16_method_2_code_v m o0) k
  obtain ⟨cq1, kq1, q1a, q1b, q1c⟩ := isOf hZ e0 E_o0
  obtain ⟨_, _, ⟨T1, L1, kc1, ks1⟩, -, X1, ⟨Lc1, hQ1, l1, y1, z1⟩, st1⟩ := X0.virtualBack hx (y := (⟨"java/lang/String", "isEmpty", "()Z"⟩ : MethodName)) (z := (⟨"java/lang/String", "isEmpty", "()Z"⟩ : MethodName)) hown (mvT hZ (wd28 hw)) (mvT hZ (wd29 hw)) (notFace_of_selects (args := #[]) (mvT hZ (wd31 hw))) (mvT hZ (wd31 hw)) (mvT hZ (wd30 hw)) (by decide) (backOf (W := 0) (rmA5 l Z a0 hw [] o0 o1 _ h0 n0 Z0 F_o0_value V_o1) hZ (wd32 hw) (wd6 hw) (by decide) (by decide)) q1a q1c (g := (mkF m 5 #[.val (.ref o0), .unset, .unset] [(.ref o0)])) rfl (by rw [hml]; rfl) (Steps.refl _) (argsL := []) (rest := []) (lenOf pd___Z rfl) rfl (by show 2 * 0 + _ ≤ _; exact Nat.le_of_eq rfl) (hb hby dd_prog_16_method_2_code_5) (fun _ _ => ⟨rfl, e0, (by decide : 0 + 0 ≤ _), (by decide : 0 + 0 ≤ _)⟩)
  dsimp only [Pt.U, Pt.locs, Pt.cells, Pt.slots] at X1 l1 y1 z1 st1 hQ1
  subst l1 y1 z1
  obtain ⟨rfl, Nq1, eq1⟩ := hQ1
  have N1 := Fr.app N0 Nq1
  obtain ⟨cq2, kq2, q2a, q2b, q2c⟩ := isOf hZ eq1 E_o0
  obtain ⟨_, _, ⟨T2, L2, kc2, ks2⟩, -, X2, ⟨Lc2, hQ2, l2, y2, z2⟩, st2⟩ := X1.virtualBack hx (y := (⟨"java/lang/String", "length", "()I"⟩ : MethodName)) (z := (⟨"java/lang/String", "length", "()I"⟩ : MethodName)) hown (mvT hZ (wd34 hw)) (mvT hZ (wd35 hw)) (notFace_of_selects (args := #[]) (mvT hZ (wd37 hw))) (mvT hZ (wd37 hw)) (mvT hZ (wd36 hw)) (by decide) (backOf (W := 0) (rmA6 l Z a0 hw [] o0 o1 _ x2 h0 n0 Z0 F_o0_value V_o1 S_COMPACT_STRINGS hq4 F_o0_coder E_o0) hZ (wd38 hw) (wd6 hw) (by decide) (by decide)) q2a q2c (g := (mkF m 12 #[.val (.ref o0), .unset, .unset] [(.ref o0)])) rfl (by rw [hml]; rfl) (Steps.refl _) (argsL := []) (rest := []) (lenOf pd___I rfl) rfl (by show 2 * 0 + _ ≤ _; exact Nat.le_of_eq rfl) (hb hby dd_prog_16_method_2_code_12) (fun _ _ => ⟨rfl, eq1, (by decide : 0 + 0 ≤ _), (by decide : 0 + 0 ≤ _)⟩)
  dsimp only [Pt.U, Pt.locs, Pt.cells, Pt.slots] at X2 l2 y2 z2 st2 hQ2
  subst l2 y2 z2
  obtain ⟨rfl, Nq2, eq2⟩ := hQ2
  have N2 := Fr.app N1 Nq2
  obtain ⟨cq3, kq3, q3a, q3b, q3c⟩ := isOf hZ eq2 E_o0
  obtain ⟨_, _, ⟨T3, L3, kc3, ks3⟩, -, X3, ⟨Lc3, hQ3, l3, y3, z3⟩, st3⟩ := X2.virtualBack hx (y := (⟨"java/lang/String", "length", "()I"⟩ : MethodName)) (z := (⟨"java/lang/String", "length", "()I"⟩ : MethodName)) hown (mvT hZ (wd34 hw)) (mvT hZ (wd35 hw)) (notFace_of_selects (args := #[]) (mvT hZ (wd37 hw))) (mvT hZ (wd37 hw)) (mvT hZ (wd36 hw)) (by decide) (backOf (W := 1) (rmA6 l Z a0 hw [] o0 o1 _ x2 h0 n0 Z0 F_o0_value V_o1 S_COMPACT_STRINGS hq4 F_o0_coder E_o0) hZ (wd38 hw) (wd6 hw) (by decide) (by decide)) q3a q3c (g := (mkF m 28 #[.val (.ref o0), .val (.int (0 : Int32)), .unset] [(.ref o0), (.int (0 : Int32))])) rfl (by rw [hml]; rfl) (Steps.refl _) (argsL := []) (rest := [(.int (0 : Int32))]) (lenOf pd___I rfl) rfl (by show 2 * 0 + _ ≤ _; exact Nat.le_of_eq rfl) (hb hby dd_prog_16_method_2_code_28) (fun _ _ => ⟨rfl, eq2, (by decide : 0 + 0 ≤ _), (by decide : 0 + 0 ≤ _)⟩)
  dsimp only [Pt.U, Pt.locs, Pt.cells, Pt.slots] at X3 l3 y3 z3 st3 hQ3
  subst l3 y3 z3
  obtain ⟨rfl, Nq3, eq3⟩ := hQ3
  have N3 := Fr.app N2 Nq3
  obtain ⟨cq4, kq4, q4a, q4b, q4c⟩ := isOf hZ eq3 E_o0
  obtain ⟨_, _, ⟨T4, L4, kc4, ks4⟩, -, X4, ⟨Lc4, hQ4, l4, y4, z4⟩, st4⟩ := X3.virtualBack hx (y := (⟨"java/lang/String", "charAt", "(I)C"⟩ : MethodName)) (z := (⟨"java/lang/String", "charAt", "(I)C"⟩ : MethodName)) hown (mvT hZ (wd46 hw)) (mvT hZ (wd47 hw)) (notFace_of_selects (args := #[]) (mvT hZ (wd49 hw))) (mvT hZ (wd49 hw)) (mvT hZ (wd48 hw)) (by decide) (backOf (W := 0) (rmA10 l Z a0 hw [] o0 x2 o1 _ u3 h0 n0 Z0 S_COMPACT_STRINGS hq4 F_o0_coder E_o0 F_o0_value V_o1 S_SIOOBE_FORMATTER rr_u3) hZ (wd50 hw) (wd6 hw) (by decide) (by decide)) q4a q4c (g := (mkF m 36 #[.val (.ref o0), .val (.int (0 : Int32)), .unset] [(.int (0 : Int32)), (.ref o0)])) rfl (by rw [hml]; rfl) (Steps.refl _) (argsL := [(.int (0 : Int32))]) (rest := []) (lenOf pd__I_C rfl) rfl (by show 2 * 0 + _ ≤ _; exact Nat.le_of_eq rfl) (hb hby dd_prog_16_method_2_code_36) (fun _ _ => ⟨rfl, eq3, (by decide : 0 + 0 ≤ _), (by decide : 0 + 0 ≤ _)⟩)
  dsimp only [Pt.U, Pt.locs, Pt.cells, Pt.slots] at X4 l4 y4 z4 st4 hQ4
  subst l4 y4 z4
  obtain ⟨rfl, Nq4, eq4⟩ := hQ4
  have N4 := Fr.app N3 Nq4
  obtain ⟨cq5, kq5, q5a, q5b, q5c⟩ := isOf hZ eq4 E_o0
  obtain ⟨_, _, ⟨T5, L5, kc5, ks5⟩, -, X5, ⟨Lc5, hQ5, l5, y5, z5⟩, st5⟩ := X4.virtualBack hx (y := (⟨"java/lang/String", "length", "()I"⟩ : MethodName)) (z := (⟨"java/lang/String", "length", "()I"⟩ : MethodName)) hown (mvT hZ (wd34 hw)) (mvT hZ (wd35 hw)) (notFace_of_selects (args := #[]) (mvT hZ (wd37 hw))) (mvT hZ (wd37 hw)) (mvT hZ (wd36 hw)) (by decide) (backOf (W := 1) (rmA6 l Z a0 hw [] o0 o1 _ x2 h0 n0 Z0 F_o0_value V_o1 S_COMPACT_STRINGS hq4 F_o0_coder E_o0) hZ (wd38 hw) (wd6 hw) (by decide) (by decide)) q5a q5c (g := (mkF m 28 #[.val (.ref o0), .val (.int (1 : Int32)), .val (.int (113 : Int32))] [(.ref o0), (.int (1 : Int32))])) rfl (by rw [hml]; rfl) (Steps.refl _) (argsL := []) (rest := [(.int (1 : Int32))]) (lenOf pd___I rfl) rfl (by show 2 * 0 + _ ≤ _; exact Nat.le_of_eq rfl) (hb hby dd_prog_16_method_2_code_28) (fun _ _ => ⟨rfl, eq4, (by decide : 0 + 0 ≤ _), (by decide : 0 + 0 ≤ _)⟩)
  dsimp only [Pt.U, Pt.locs, Pt.cells, Pt.slots] at X5 l5 y5 z5 st5 hQ5
  subst l5 y5 z5
  obtain ⟨rfl, Nq5, eq5⟩ := hQ5
  have N5 := Fr.app N4 Nq5
  obtain ⟨lfs, lhr, lhrun, lhended, lhW, lhsame⟩ := X5.leave (v := some (.ref o0)) (fun h => by rw [Bd.returns] at h; cases h)
  refine ⟨_, _, pre0 _ ?_, lhrun, lhended, _, _, rfl, ?_, ⟨_, rfl⟩, lhW, lhsame.mono (by decide) (by decide)⟩
  · skip
    show Steps p.tables e below (s₁.setTop (mkF m 0 #[.val (.ref o0), .unset, .unset] [])) _
    refine XS.aloadN X0.here hx rfl (hb hby dd_prog_16_method_2_code_0) rfl rfl ?_
    show Steps p.tables e below (s₁.setTop (mkF m 1 #[.val (.ref o0), .unset, .unset] [(.ref o0)])) _
    refine XS.ifnullNo X0.here hx rfl (hb hby dd_prog_16_method_2_code_1) rfl ?_
    show Steps p.tables e below (s₁.setTop (mkF m 4 #[.val (.ref o0), .unset, .unset] [])) _
    refine XS.aloadN X0.here hx rfl (hb hby dd_prog_16_method_2_code_4) rfl rfl ?_
    show Steps p.tables e below (s₁.setTop (mkF m 5 #[.val (.ref o0), .unset, .unset] [(.ref o0)])) _
    refine st1.trans ?_
    show Steps p.tables e below (T1.setTop (mkF m 8 #[.val (.ref o0), .unset, .unset] [(.int (0 : Int32))])) _
    refine XS.ifNo X1.here hx rfl (hb hby dd_prog_16_method_2_code_8) rfl ((if0 _ _).trans (teq (by decide : (0 : Int32) = (0 : Int32))).2) ?_
    show Steps p.tables e below (T1.setTop (mkF m 11 #[.val (.ref o0), .unset, .unset] [])) _
    refine XS.aloadN X1.here hx rfl (hb hby dd_prog_16_method_2_code_11) rfl rfl ?_
    show Steps p.tables e below (T1.setTop (mkF m 12 #[.val (.ref o0), .unset, .unset] [(.ref o0)])) _
    refine st2.trans ?_
    show Steps p.tables e below (T2.setTop (mkF m 15 #[.val (.ref o0), .unset, .unset] [(.int (1 : Int32))])) _
    refine XS.bipush X2.here hx rfl (hb hby dd_prog_16_method_2_code_15) ?_
    show Steps p.tables e below (T2.setTop (mkF m 17 #[.val (.ref o0), .unset, .unset] [(.int (64 : Int32)), (.int (1 : Int32))])) _
    refine XS.icmpYes X2.here hx rfl (pc0 := 17) (pc' := 24) rfl (hb hby dd_prog_16_method_2_code_17) rfl (flt (by decide : ¬ ((64 : Int32) < (1 : Int32)))).2.2.2 (by decide) (by decide) ?_
    show Steps p.tables e below (T2.setTop (mkF m 24 #[.val (.ref o0), .unset, .unset] [])) _
    refine XS.iconst X2.here hx rfl (hb hby dd_prog_16_method_2_code_24) ?_
    show Steps p.tables e below (T2.setTop (mkF m 25 #[.val (.ref o0), .unset, .unset] [(.int (0 : Int32))])) _
    refine XS.istoreN X2.here hx rfl (hb hby dd_prog_16_method_2_code_25) rfl (l' := #[.val (.ref o0), .val (.int (0 : Int32)), .unset]) rfl ?_
    show Steps p.tables e below (T2.setTop (mkF m 26 #[.val (.ref o0), .val (.int (0 : Int32)), .unset] [])) _
    refine XS.iloadN X2.here hx rfl (hb hby dd_prog_16_method_2_code_26) rfl ?_
    show Steps p.tables e below (T2.setTop (mkF m 27 #[.val (.ref o0), .val (.int (0 : Int32)), .unset] [(.int (0 : Int32))])) _
    refine XS.aloadN X2.here hx rfl (hb hby dd_prog_16_method_2_code_27) rfl rfl ?_
    show Steps p.tables e below (T2.setTop (mkF m 28 #[.val (.ref o0), .val (.int (0 : Int32)), .unset] [(.ref o0), (.int (0 : Int32))])) _
    refine st3.trans ?_
    show Steps p.tables e below (T3.setTop (mkF m 31 #[.val (.ref o0), .val (.int (0 : Int32)), .unset] [(.int (1 : Int32)), (.int (0 : Int32))])) _
    refine XS.icmpNo X3.here hx rfl (hb hby dd_prog_16_method_2_code_31) rfl (tlt (by decide : (0 : Int32) < (1 : Int32))).2.1 ?_
    show Steps p.tables e below (T3.setTop (mkF m 34 #[.val (.ref o0), .val (.int (0 : Int32)), .unset] [])) _
    refine XS.aloadN X3.here hx rfl (hb hby dd_prog_16_method_2_code_34) rfl rfl ?_
    show Steps p.tables e below (T3.setTop (mkF m 35 #[.val (.ref o0), .val (.int (0 : Int32)), .unset] [(.ref o0)])) _
    refine XS.iloadN X3.here hx rfl (hb hby dd_prog_16_method_2_code_35) rfl ?_
    show Steps p.tables e below (T3.setTop (mkF m 36 #[.val (.ref o0), .val (.int (0 : Int32)), .unset] [(.int (0 : Int32)), (.ref o0)])) _
    refine st4.trans ?_
    show Steps p.tables e below (T4.setTop (mkF m 39 #[.val (.ref o0), .val (.int (0 : Int32)), .unset] [(.int (113 : Int32))])) _
    refine XS.istoreN X4.here hx rfl (hb hby dd_prog_16_method_2_code_39) rfl (l' := #[.val (.ref o0), .val (.int (0 : Int32)), .val (.int (113 : Int32))]) rfl ?_
    show Steps p.tables e below (T4.setTop (mkF m 40 #[.val (.ref o0), .val (.int (0 : Int32)), .val (.int (113 : Int32))] [])) _
    refine XS.iloadN X4.here hx rfl (hb hby dd_prog_16_method_2_code_40) rfl ?_
    show Steps p.tables e below (T4.setTop (mkF m 41 #[.val (.ref o0), .val (.int (0 : Int32)), .val (.int (113 : Int32))] [(.int (113 : Int32))])) _
    refine XS.bipush X4.here hx rfl (hb hby dd_prog_16_method_2_code_41) ?_
    show Steps p.tables e below (T4.setTop (mkF m 43 #[.val (.ref o0), .val (.int (0 : Int32)), .val (.int (113 : Int32))] [(.int (97 : Int32)), (.int (113 : Int32))])) _
    refine XS.icmpNo X4.here hx rfl (hb hby dd_prog_16_method_2_code_43) rfl (flt (by decide : ¬ ((113 : Int32) < (97 : Int32)))).1 ?_
    show Steps p.tables e below (T4.setTop (mkF m 46 #[.val (.ref o0), .val (.int (0 : Int32)), .val (.int (113 : Int32))] [])) _
    refine XS.iloadN X4.here hx rfl (hb hby dd_prog_16_method_2_code_46) rfl ?_
    show Steps p.tables e below (T4.setTop (mkF m 47 #[.val (.ref o0), .val (.int (0 : Int32)), .val (.int (113 : Int32))] [(.int (113 : Int32))])) _
    refine XS.bipush X4.here hx rfl (hb hby dd_prog_16_method_2_code_47) ?_
    show Steps p.tables e below (T4.setTop (mkF m 49 #[.val (.ref o0), .val (.int (0 : Int32)), .val (.int (113 : Int32))] [(.int (122 : Int32)), (.int (113 : Int32))])) _
    refine XS.icmpYes X4.here hx rfl (pc0 := 49) (pc' := 86) rfl (hb hby dd_prog_16_method_2_code_49) rfl (flt (by decide : ¬ ((122 : Int32) < (113 : Int32)))).2.2.2 (by decide) (by decide) ?_
    show Steps p.tables e below (T4.setTop (mkF m 86 #[.val (.ref o0), .val (.int (0 : Int32)), .val (.int (113 : Int32))] [])) _
    refine XS.iinc X4.here hx rfl (hb hby dd_prog_16_method_2_code_86) rfl (l' := #[.val (.ref o0), .val (.int (1 : Int32)), .val (.int (113 : Int32))]) rfl ?_
    show Steps p.tables e below (T4.setTop (mkF m 89 #[.val (.ref o0), .val (.int (1 : Int32)), .val (.int (113 : Int32))] [])) _
    refine XS.goto X4.here hx rfl (pc0 := 89) (pc' := 26) rfl (hb hby dd_prog_16_method_2_code_89) (by decide) (by decide) ?_
    show Steps p.tables e below (T4.setTop (mkF m 26 #[.val (.ref o0), .val (.int (1 : Int32)), .val (.int (113 : Int32))] [])) _
    refine XS.iloadN X4.here hx rfl (hb hby dd_prog_16_method_2_code_26) rfl ?_
    show Steps p.tables e below (T4.setTop (mkF m 27 #[.val (.ref o0), .val (.int (1 : Int32)), .val (.int (113 : Int32))] [(.int (1 : Int32))])) _
    refine XS.aloadN X4.here hx rfl (hb hby dd_prog_16_method_2_code_27) rfl rfl ?_
    show Steps p.tables e below (T4.setTop (mkF m 28 #[.val (.ref o0), .val (.int (1 : Int32)), .val (.int (113 : Int32))] [(.ref o0), (.int (1 : Int32))])) _
    refine st5.trans ?_
    show Steps p.tables e below (T5.setTop (mkF m 31 #[.val (.ref o0), .val (.int (1 : Int32)), .val (.int (113 : Int32))] [(.int (1 : Int32)), (.int (1 : Int32))])) _
    refine XS.icmpYes X5.here hx rfl (pc0 := 31) (pc' := 92) rfl (hb hby dd_prog_16_method_2_code_31) rfl (flt (by decide : ¬ ((1 : Int32) < (1 : Int32)))).2.1 (by decide) (by decide) ?_
    show Steps p.tables e below (T5.setTop (mkF m 92 #[.val (.ref o0), .val (.int (1 : Int32)), .val (.int (113 : Int32))] [])) _
    refine XS.aloadN X5.here hx rfl (hb hby dd_prog_16_method_2_code_92) rfl rfl ?_
    show Steps p.tables e below (T5.setTop (mkF m 93 #[.val (.ref o0), .val (.int (1 : Int32)), .val (.int (113 : Int32))] [(.ref o0)])) _
    exact retOut X5 hx Bd.returns rfl (Or.inr (Or.inr (Or.inr (Or.inr ⟨rfl, rfl, rfl⟩)))) (hb hby dd_prog_16_method_2_code_93) lhr
  · skip
    show QA4 Z o0 o1 kk_o1 x2 u3 h0 n0 _ T5.heap _
    rw [eq5]
    exact ⟨rfl, N5, rfl⟩
theorem pd__Ljava_lang_String__Ljava_lang_String_ : parseMethodDescriptor "(Ljava/lang/String;)Ljava/lang/String;" = some ⟨[(.object "java/lang/String")], some (.object "java/lang/String")⟩ := by decide +kernel
theorem dd_prog_13_method_1_code_20 : decode prog_13_method_1_code 20 = .ok (.putfield 22, 3) := by decide +kernel
theorem dd_prog_13_method_1_code_23 : decode prog_13_method_1_code 23 = .ok (.aload_n 0, 1) := by decide +kernel
theorem dd_prog_13_method_1_code_24 : decode prog_13_method_1_code 24 = .ok (.aload_n 2, 1) := by decide +kernel
theorem dd_prog_13_method_1_code_25 : decode prog_13_method_1_code 25 = .ok (.ldc 26, 2) := by decide +kernel
theorem dd_prog_13_method_1_code_27 : decode prog_13_method_1_code 27 = .ok (.invokestatic 28, 3) := by decide +kernel
theorem efa_jdk_31_method_11_code_vv (m : MethodId) (x0 : Addr) (x1 : Addr) : entryFrame m #[(.ref x0), (.ref x1)] 2 = mkF m 0 #[.val (.ref x0), .val (.ref x1)] [] := by first | (simp [entryFrame, mkF, argsToLocals, Value.category]; done) | rfl
theorem pn_java_util_Objects : plainName "java/util/Objects" = true := by first | (simp [plainName, overriddenIn]; done) | decide +kernel
theorem dd_jdk_31_method_11_code_0 : decode jdk_31_method_11_code 0 = .ok (.aload_n 0, 1) := by decide +kernel
theorem dd_jdk_31_method_11_code_1 : decode jdk_31_method_11_code 1 = .ok (.ifnonnull 12, 3) := by decide +kernel
theorem dd_jdk_31_method_11_code_13 : decode jdk_31_method_11_code 13 = .ok (.aload_n 0, 1) := by decide +kernel
theorem dd_jdk_31_method_11_code_14 : decode jdk_31_method_11_code 14 = .ok (.areturn, 1) := by decide +kernel
def QA27 (Z : State) (o0 : Addr) (o1 : Addr) (h0 : Heap) (n0 : Nat) (v : Option Value) (h : Heap) (L : List Loc) : Prop := v = some (.ref o0) ∧ Fr n0 L ∧ h = h0
set_option maxRecDepth 65536 in
set_option maxHeartbeats 40000000 in
theorem rmA27 (l : Launch) (Z : State) (a0 : Array Value) (hw : ∀ d ∈ tables_1, d.before a0 Z = true) (ws : List Jvm.Cond) (o0 : Addr) (o1 : Addr) (h0 : Heap) (n0 : Nat) (Z0 : n0 ≤ h0.size) :
    MetFree l (⟨"java/util/Objects", "requireNonNull", "(Ljava/lang/Object;Ljava/lang/String;)Ljava/lang/Object;"⟩ : MethodName) (head1 (Jvm.Cond.code (⟨"java/util/Objects", "requireNonNull", "(Ljava/lang/Object;Ljava/lang/String;)Ljava/lang/Object;"⟩ : MethodName) jdk_31_method_11_code 2 (some (.object "java/lang/Object")) :: ws) ({ frames := 0, cells := 0, slots := 0, locals := 0 } : Room)) (fun a U => a = #[(.ref o0), (.ref o1)] ∧ Z.Warmed39 U.vm ∧ U.heap = h0) (fun _ _ _ _ _ => True) (fun _ U oc_ U' => ∃ v L, oc_ = .returned v ∧ QA27 Z o0 o1 h0 n0 v U'.heap L ∧ FrameEnd U oc_ U' L ({ frames := 0, cells := 0, slots := 0, locals := 0 } : Room).cells ({ frames := 0, cells := 0, slots := 0, locals := 0 } : Room).slots) := by
  refine MetFree.of_bodySF (plainFor_of_name pn_java_util_Objects) hisR ?_
  intro p e s m args below meth c s₁ Bd hml0 hP hK
  obtain ⟨rfl, hZ, hh⟩ := hP
  have hx := Bd.exec
  have hby := Bd.bytes
  have hml : c.maxLocals = 2 := hml0
  have hown : s.vm.findClass "java/util/Objects" = some m.cls := findClass_of_methodNamed Bd.named
  have hnm := (name_of_methodNamed Bd.named Bd.method).1
  have X0 : Stand p l e ({ frames := 0, cells := 0, slots := 0, locals := 0 } : Room) s m #[(.ref o0), (.ref o1)] below meth c s₁ [] 0 0 := Stand.of_body Bd
  have e0 : s₁.heap = h0 := by rw [← hh, Bd.state]; rfl
  have N0 := Fr.nil n0
  have pre0 : ∀ t, Steps p.tables e below (s₁.setTop (mkF m 0 #[.val (.ref o0), .val (.ref o1)] [])) t → Steps p.tables e below (s₁.setTop (entryFrame m #[(.ref o0), (.ref o1)] 2)) t := fun t k => castTop (efa_jdk_31_method_11_code_vv m o0 o1) k
  obtain ⟨lfs, lhr, lhrun, lhended, lhW, lhsame⟩ := X0.leave (v := some (.ref o0)) (fun h => by rw [Bd.returns] at h; cases h)
  refine ⟨_, _, pre0 _ ?_, lhrun, lhended, _, _, rfl, ?_, ⟨_, rfl⟩, lhW, lhsame.mono (by decide) (by decide)⟩
  · skip
    show Steps p.tables e below (s₁.setTop (mkF m 0 #[.val (.ref o0), .val (.ref o1)] [])) _
    refine XS.aloadN X0.here hx rfl (hb hby dd_jdk_31_method_11_code_0) rfl rfl ?_
    show Steps p.tables e below (s₁.setTop (mkF m 1 #[.val (.ref o0), .val (.ref o1)] [(.ref o0)])) _
    refine XS.ifnonnullYes X0.here hx rfl (pc0 := 1) (pc' := 13) rfl (hb hby dd_jdk_31_method_11_code_1) rfl (by decide) (by decide) ?_
    show Steps p.tables e below (s₁.setTop (mkF m 13 #[.val (.ref o0), .val (.ref o1)] [])) _
    refine XS.aloadN X0.here hx rfl (hb hby dd_jdk_31_method_11_code_13) rfl rfl ?_
    show Steps p.tables e below (s₁.setTop (mkF m 14 #[.val (.ref o0), .val (.ref o1)] [(.ref o0)])) _
    exact retOut X0 hx Bd.returns rfl (Or.inr (Or.inr (Or.inr (Or.inr ⟨rfl, rfl, rfl⟩)))) (hb hby dd_jdk_31_method_11_code_14) lhr
  · skip
    show QA27 Z o0 o1 h0 n0 _ s₁.heap _
    rw [e0]
    exact ⟨rfl, N0, rfl⟩
theorem pd__Ljava_lang_Object_Ljava_lang_String__Ljava_lang_Object_ : parseMethodDescriptor "(Ljava/lang/Object;Ljava/lang/String;)Ljava/lang/Object;" = some ⟨[(.object "java/lang/Object"), (.object "java/lang/String")], some (.object "java/lang/Object")⟩ := by decide +kernel
theorem dd_prog_13_method_1_code_30 : decode prog_13_method_1_code 30 = .ok (.checkcast 34, 3) := by decide +kernel
theorem dd_prog_13_method_1_code_33 : decode prog_13_method_1_code 33 = .ok (.putfield 36, 3) := by decide +kernel
theorem dd_prog_13_method_1_code_36 : decode prog_13_method_1_code 36 = .ok (.return_, 1) := by decide +kernel
def QA15 (Z : State) (o0 : Addr) (o1 : Addr) (o2 : Addr) (o3 : Addr) (kk_o3 : ClassId) (x4 : Int32) (u5 : Value) (u100 : Value) (u101 : Value) (h0 : Heap) (n0 : Nat) (v : Option Value) (h : Heap) (L : List Loc) : Prop := v = none ∧ Fr n0 L ∧ Keep h0 h [o0] ∧ Exa Z h o0 "com/example/aloq/aloq/engine/NewTask" ∧ Fld Z h o0 "com/example/aloq/aloq/engine/NewTask" "maxAttempts" "I" (.int (5 : Int32)) ∧ Fld Z h o0 "com/example/aloq/aloq/engine/NewTask" "retryBackoffSeconds" "I" (.int (10 : Int32)) ∧ Fld Z h o0 "com/example/aloq/aloq/engine/NewTask" "queue" "Ljava/lang/String;" (.ref o1) ∧ Fld Z h o0 "com/example/aloq/aloq/engine/NewTask" "payload" "Ljava/lang/String;" (.ref o2) ∧ Fld Z h o0 "com/example/aloq/aloq/engine/NewTask" "delaySeconds" "Ljava/lang/Integer;" u100 ∧ Fld Z h o0 "com/example/aloq/aloq/engine/NewTask" "runAt" "Ljava/time/Instant;" u101
set_option maxRecDepth 65536 in
set_option maxHeartbeats 40000000 in
theorem rmA15 (l : Launch) (Z : State) (a0 : Array Value) (hw : ∀ d ∈ tables_1, d.before a0 Z = true) (ws : List Jvm.Cond) (o0 : Addr) (o1 : Addr) (o2 : Addr) (o3 : Addr) (kk_o3 : ClassId) (x4 : Int32) (u5 : Value) (u100 : Value) (u101 : Value) (h0 : Heap) (n0 : Nat) (Z0 : n0 ≤ h0.size) (E_o0 : Exa Z h0 o0 "com/example/aloq/aloq/engine/NewTask") (F_o0_maxAttempts : Fld Z h0 o0 "com/example/aloq/aloq/engine/NewTask" "maxAttempts" "I" (.int (0 : Int32))) (g_o0 : n0 ≤ o0) (F_o0_retryBackoffSeconds : Fld Z h0 o0 "com/example/aloq/aloq/engine/NewTask" "retryBackoffSeconds" "I" (.int (0 : Int32))) (F_o1_value : Fld Z h0 o1 "java/lang/String" "value" "[B" (.ref o3)) (ne_o1_o0 : o1 ≠ o0) (V_o3 : Arv Z h0 o3 kk_o3 .byte (1 : Int32) [(.int (113 : Int32))] (.int (0 : Int32))) (ne_o3_o0 : o3 ≠ o0) (S_COMPACT_STRINGS : Sta Z h0 "java/lang/String" "COMPACT_STRINGS" "Z" (.int x4)) (hq9 : ¬ (x4 = (0 : Int32))) (F_o1_coder : Fld Z h0 o1 "java/lang/String" "coder" "B" (.int (0 : Int32))) (S_SIOOBE_FORMATTER : Sta Z h0 "jdk/internal/util/Preconditions" "SIOOBE_FORMATTER" "Ljava/util/function/BiFunction;" u5) (E_o1 : Exa Z h0 o1 "java/lang/String") (rr_u5 : u5.isRef = true) (F_o0_queue : Fld Z h0 o0 "com/example/aloq/aloq/engine/NewTask" "queue" "Ljava/lang/String;" .null) (E_o2 : Exa Z h0 o2 "java/lang/String") (F_o0_payload : Fld Z h0 o0 "com/example/aloq/aloq/engine/NewTask" "payload" "Ljava/lang/String;" .null) (F_o0_delaySeconds : Fld Z h0 o0 "com/example/aloq/aloq/engine/NewTask" "delaySeconds" "Ljava/lang/Integer;" u100) (F_o0_runAt : Fld Z h0 o0 "com/example/aloq/aloq/engine/NewTask" "runAt" "Ljava/time/Instant;" u101) :
    MetFree l (⟨"com/example/aloq/aloq/engine/NewTask", "<init>", "(Ljava/lang/String;Ljava/lang/String;)V"⟩ : MethodName) (head1 (Jvm.Cond.code (⟨"com/example/aloq/aloq/engine/NewTask", "<init>", "(Ljava/lang/String;Ljava/lang/String;)V"⟩ : MethodName) prog_13_method_1_code 3 none :: ws) ({ frames := 5, cells := 2, slots := 32, locals := 68 } : Room)) (fun a U => a = #[(.ref o0), (.ref o1), (.ref o2)] ∧ Z.Warmed39 U.vm ∧ U.heap = h0 ∧ CHv Z own_EL U.vm h0 ∧ ∀ x ∈ ([] : List Addr), Safe Z own_EL U.vm h0 x) (fun _ _ _ _ _ => True) (fun _ U oc_ U' => ∃ v L, oc_ = .returned v ∧ QA15 Z o0 o1 o2 o3 kk_o3 x4 u5 u100 u101 h0 n0 v U'.heap L ∧ CHr Z own_EL U.vm U.heap U'.vm U'.heap ∧ ReturnedEndW U oc_ U' L ({ frames := 5, cells := 2, slots := 32, locals := 68 } : Room).cells ({ frames := 5, cells := 2, slots := 32, locals := 68 } : Room).slots) := by
  refine MetFree.of_bodySF (plainFor_of_name pn_com_example_aloq_aloq_engine_NewTask) hisR ?_
  intro p e s m args below meth c s₁ Bd hml0 hP hK
  obtain ⟨rfl, hZ, hh, hCH, hSS⟩ := hP
  have hx := Bd.exec
  have hby := Bd.bytes
  have hml : c.maxLocals = 3 := hml0
  have hown : s.vm.findClass "com/example/aloq/aloq/engine/NewTask" = some m.cls := findClass_of_methodNamed Bd.named
  have hnm := (name_of_methodNamed Bd.named Bd.method).1
  have X0 : Stand p l e ({ frames := 5, cells := 2, slots := 32, locals := 68 } : Room) s m #[(.ref o0), (.ref o1), (.ref o2)] below meth c s₁ [] 0 0 := Stand.of_body Bd
  have e0 : s₁.heap = h0 := by rw [← hh, Bd.state]; rfl
  have N0 := Fr.nil n0
  have pre0 : ∀ t, Steps p.tables e below (s₁.setTop (mkF m 0 #[.val (.ref o0), .val (.ref o1), .val (.ref o2)] [])) t → Steps p.tables e below (s₁.setTop (entryFrame m #[(.ref o0), (.ref o1), (.ref o2)] 3)) t := fun t k => castTop (efa_prog_13_method_1_code_vvv m o0 o1 o2) k
  have X0 : Stand p l e ({ frames := 5, cells := 2, slots := 32, locals := 68 } : Room) (s.setVm s.vm) m #[(.ref o0), (.ref o1), (.ref o2)] below meth c s₁ [] 0 0 := X0
  have hS0 : s.Since s.vm 0 := own_since0 s
  have hk0 : 0 ≤ h0.size := Nat.zero_le _
  have CR0 : CHr Z own_EL s.vm h0 s.vm h0 := CHr.refl hCH
  have hEL := own_EW a0 Z hw
  have wS : ∀ a ∈ Bundle.stringAtoms, a.before a0 Z = true := fun d hd => hw d ((by decide +kernel : ∀ d ∈ Bundle.stringAtoms, d ∈ tables_1) d hd)
  obtain ⟨T1, X1, e1, st1⟩ := initO X0 hx hZ hown (wd17 hw) (wd18 hw) (wd19 hw) e0 (g := (mkF m 1 #[.val (.ref o0), .val (.ref o1), .val (.ref o2)] [(.ref o0)])) rfl (by rw [hml]; rfl) rfl (hb hby dd_prog_13_method_1_code_1) (by decide) (W := 0) (by show 2 * 0 + _ ≤ _; exact Nat.le_of_eq rfl) (by decide)
  obtain ⟨T2, h2, X2, e2, W2, st2⟩ := putF X1 hx hZ hown (host := "") (Or.inl (wd20 hw)) Via.refl e1 F_o0_maxAttempts E_o0 (Or.inl (wd21 hw)) (wd3 hw) (ty := .int) (by decide) rfl rfl (g := (mkF m 6 #[.val (.ref o0), .val (.ref o1), .val (.ref o2)] [(.int (5 : Int32)), (.ref o0)])) rfl rfl (hb hby dd_prog_13_method_1_code_6)
  have CS2 := CHr.wr W2 (Safe.exa hZ.alike E_o0 (by decide) (by decide)) CR0.1
  have CR2 := CR0.trans CS2
  have hk2 : _ ≤ h2.size := Nat.le_trans hk0 (Nat.le_of_eq W2.size.symm)
  have N2 := Fr.snoc X2 N0 g_o0
  have Z2 : n0 ≤ h2.size := by rw [W2.size]; exact Z0
  have K2 : Keep h0 h2 [o0] := ((Keep.refl h0 [o0]).wr W2 (Or.inl (List.mem_of_getElem? (i := 0) rfl)))
  have Fw2 := F_o0_maxAttempts.same W2
  have f3 := (E_o0.wr W2)
  have f4 := (F_o0_retryBackoffSeconds.other W2 (Or.inr (slot_ne (Or.inl (wd23 hw)) (Or.inl (wd21 hw)) (by decide) (t := .int) (t' := .int) (by decide) (by decide))))
  obtain ⟨T5, h5, X5, e5, W5, st5⟩ := putF X2 hx hZ hown (host := "") (Or.inl (wd22 hw)) Via.refl e2 f4 f3 (Or.inl (wd23 hw)) (wd3 hw) (ty := .int) (by decide) rfl rfl (g := (mkF m 12 #[.val (.ref o0), .val (.ref o1), .val (.ref o2)] [(.int (10 : Int32)), (.ref o0)])) rfl rfl (hb hby dd_prog_13_method_1_code_12)
  have CS5 := CHr.wr W5 (Safe.exa hZ.alike f3 (by decide) (by decide)) CR2.1
  have CR5 := CR2.trans CS5
  have hk5 : _ ≤ h5.size := Nat.le_trans hk2 (Nat.le_of_eq W5.size.symm)
  have N5 := Fr.snoc X5 N2 g_o0
  have Z5 : n0 ≤ h5.size := by rw [W5.size]; exact Z2
  have K5 : Keep h0 h5 [o0] := (K2.wr W5 (Or.inl (List.mem_of_getElem? (i := 0) rfl)))
  have Fw5 := f4.same W5
  have f6 := ((F_o1_value.other W2 (Or.inl ne_o1_o0)).other W5 (Or.inl ne_o1_o0))
  have f7 := ((V_o3.other W2 ne_o3_o0).other W5 ne_o3_o0)
  have f8 := ((S_COMPACT_STRINGS.wr W2).wr W5)
  have f9 := ((F_o1_coder.other W2 (Or.inl ne_o1_o0)).other W5 (Or.inl ne_o1_o0))
  have f10 := ((S_SIOOBE_FORMATTER.wr W2).wr W5)
  have f11 := ((E_o1.wr W2).wr W5)
  obtain ⟨_, _, ⟨T12, L12, kc12, ks12⟩, -, X12, ⟨Lc12, hQ12, l12, y12, z12⟩, st12⟩ := Jvm.LawKit.callS X5 hx (y := (⟨"com/example/aloq/aloq/engine/QueueName", "check", "(Ljava/lang/String;)Ljava/lang/String;"⟩ : MethodName)) hown (mvT hZ (wd24 hw)) (mvT hZ (wd25 hw)) (mvT hZ (wd26 hw)) (mvT hZ (wd27 hw)) (by decide) (backOf (W := 1) (rmA4 l Z a0 hw [] o1 o3 _ x4 u5 h5 n0 Z5 f6 f7 f11 f8 hq9 f9 f10 rr_u5) hZ (wd27 hw) (wd26 hw) (by decide) (by decide)) (g := (mkF m 17 #[.val (.ref o0), .val (.ref o1), .val (.ref o2)] [(.ref o1), (.ref o0)])) rfl (by rw [hml]; rfl) (argsL := [(.ref o1)]) (rest := [(.ref o0)]) (lenOf pd__Ljava_lang_String__Ljava_lang_String_ rfl) rfl (by show 2 * 0 + _ ≤ _; exact Nat.le_of_eq rfl) (hb hby dd_prog_13_method_1_code_17) (fun _ _ => ⟨rfl, e5, (by decide : 0 + 0 ≤ _), (by decide : 0 + 0 ≤ _)⟩)
  dsimp only [Pt.U, Pt.locs, Pt.cells, Pt.slots] at X12 l12 y12 z12 st12 hQ12
  subst l12 y12 z12
  obtain ⟨rfl, Nq12, eq12⟩ := hQ12
  have N12 := Fr.app N5 Nq12
  have f13 := (f3.wr W5)
  have f14 := ((F_o0_queue.other W2 (Or.inr (slot_ne (Or.inr (wd69 hw)) (Or.inl (wd21 hw)) (by decide) (t := (.object "java/lang/String")) (t' := .int) (by decide) (by decide)))).other W5 (Or.inr (slot_ne (Or.inr (wd69 hw)) (Or.inl (wd23 hw)) (by decide) (t := (.object "java/lang/String")) (t' := .int) (by decide) (by decide))))
  obtain ⟨T15, h15, X15, e15, W15, st15⟩ := putF X12 hx hZ hown (host := "") (Or.inl (wd68 hw)) Via.refl eq12 f14 f13 (Or.inr ⟨(wd69 hw), rfl, hnm⟩) (wd3 hw) (ty := (.object "java/lang/String")) (by decide) rfl rfl (g := (mkF m 20 #[.val (.ref o0), .val (.ref o1), .val (.ref o2)] [(.ref o1), (.ref o0)])) rfl rfl (hb hby dd_prog_13_method_1_code_20)
  have CS15 := CHr.wr W15 (Safe.exa hZ.alike f13 (by decide) (by decide)) CR5.1
  have CR15 := CR5.trans CS15
  have hk15 : _ ≤ h15.size := Nat.le_trans hk5 (Nat.le_of_eq W15.size.symm)
  have N15 := Fr.snoc X15 N12 g_o0
  have Z15 : n0 ≤ h15.size := by rw [W15.size]; exact Z5
  have K15 : Keep h0 h15 [o0] := (K5.wr W15 (Or.inl (List.mem_of_getElem? (i := 0) rfl)))
  have Fw15 := f14.same W15
  have f16 := (f13.wr W15)
  have f17 := (f6.other W15 (Or.inl ne_o1_o0))
  have f18 := (f7.other W15 ne_o3_o0)
  obtain ⟨a19, T19, h19, kk19, t19, kb19, X19, e19, E19, hS19, hk19, hZ19, hown19, gE19, gC19, gV19, gK19, la19, lt19, CS19, LL19, sne19, st19⟩ := ldcCH (s := s) (vm0 := s.vm) (EL := own_EL) X15 hx hZ hown (wd70 hw) wS e15 hS0 hk15 hEL (by decide) CR15.1 (vs := [(.int (112 : Int32)), (.int (97 : Int32)), (.int (121 : Int32)), (.int (108 : Int32)), (.int (111 : Int32)), (.int (97 : Int32)), (.int (100 : Int32))]) (z := (7 : Int32)) ⟨by decide +kernel, by first | rfl | decide +kernel⟩ (by decide) (by decide) (g := (mkF m 25 #[.val (.ref o0), .val (.ref o1), .val (.ref o2)] [(.ref o2), (.ref o0)])) rfl (hb hby dd_prog_13_method_1_code_25) (n := 28) (by decide +kernel) (by decide) (by decide) (by decide)
  have CR19 := CR15.trans CS19
  have Z19 : n0 ≤ h19.size := Nat.le_trans Z15 E19.1
  have K19 : Keep h0 h19 [o0] := (K15.ext E19)
  have f20 := (f16.ext E19)
  have nn_o0_19 := sne19 o0 (Safe.exa hZ19.alike f20 (by decide) (by decide))
  obtain ⟨_, _, ⟨T21, L21, kc21, ks21⟩, -, X21, ⟨Lc21, hQ21, l21, y21, z21⟩, st21⟩ := Jvm.LawKit.callS X19 hx (y := (⟨"java/util/Objects", "requireNonNull", "(Ljava/lang/Object;Ljava/lang/String;)Ljava/lang/Object;"⟩ : MethodName)) hown19 (mvT hZ19 (wd71 hw)) (mvT hZ19 (wd72 hw)) (mvT hZ19 (wd73 hw)) (mvT hZ19 (wd74 hw)) (by decide) (backOf (W := 1) (rmA27 l Z a0 hw [] o2 a19 h19 n0 Z19 ) hZ19 (wd74 hw) (wd73 hw) (by decide) (by decide)) (g := (mkF m 27 #[.val (.ref o0), .val (.ref o1), .val (.ref o2)] [(.ref a19), (.ref o2), (.ref o0)])) rfl (by rw [hml]; rfl) (argsL := [(.ref o2), (.ref a19)]) (rest := [(.ref o0)]) (lenOf pd__Ljava_lang_Object_Ljava_lang_String__Ljava_lang_Object_ rfl) rfl (by show 2 * 0 + _ ≤ _; exact Nat.le_of_eq rfl) (hb hby dd_prog_13_method_1_code_27) (fun _ _ => ⟨rfl, e19, (by decide : 2 + 0 ≤ _), (by decide : 32 + 0 ≤ _)⟩)
  dsimp only [Pt.U, Pt.locs, Pt.cells, Pt.slots] at X21 l21 y21 z21 st21 hQ21
  subst l21 y21 z21
  obtain ⟨rfl, Nq21, eq21⟩ := hQ21
  have N21 := Fr.app N15 Nq21
  have f22 := ((((E_o2.wr W2).wr W5).wr W15).ext E19)
  obtain ⟨T23, X23, e23, st23⟩ := castY X21 hx hZ19 hown19 (wd75 hw) eq21 (Ins.self f22) (g := (mkF m 30 #[.val (.ref o0), .val (.ref o1), .val (.ref o2)] [(.ref o2), (.ref o0)])) rfl rfl (hb hby dd_prog_13_method_1_code_30)
  have f24 := ((((F_o0_payload.other W2 (Or.inr (slot_ne (Or.inr (wd78 hw)) (Or.inl (wd21 hw)) (by decide) (t := (.object "java/lang/String")) (t' := .int) (by decide) (by decide)))).other W5 (Or.inr (slot_ne (Or.inr (wd78 hw)) (Or.inl (wd23 hw)) (by decide) (t := (.object "java/lang/String")) (t' := .int) (by decide) (by decide)))).other W15 (Or.inr (slot_ne (Or.inr (wd78 hw)) (Or.inr (wd69 hw)) (by decide) (t := (.object "java/lang/String")) (t' := (.object "java/lang/String")) (by decide) (by decide)))).ext E19)
  obtain ⟨T25, h25, X25, e25, W25, st25⟩ := putF X23 hx hZ19 hown19 (host := "") (Or.inl (wd77 hw)) Via.refl e23 f24 f20 (Or.inr ⟨(wd78 hw), rfl, hnm⟩) (wd3 hw) (ty := (.object "java/lang/String")) (by decide) rfl rfl (g := (mkF m 33 #[.val (.ref o0), .val (.ref o1), .val (.ref o2)] [(.ref o2), (.ref o0)])) rfl rfl (hb hby dd_prog_13_method_1_code_33)
  have CS25 := CHr.wr W25 (Safe.exa hZ19.alike f20 (by decide) (by decide)) CR19.1
  have CR25 := CR19.trans CS25
  have hk25 : _ ≤ h25.size := Nat.le_trans hk19 (Nat.le_of_eq W25.size.symm)
  have N25 := Fr.snoc X25 N21 g_o0
  have Z25 : n0 ≤ h25.size := by rw [W25.size]; exact Z19
  have K25 : Keep h0 h25 [o0] := (K19.wr W25 (Or.inl (List.mem_of_getElem? (i := 0) rfl)))
  have Fw25 := f24.same W25
  have f26 := (f20.wr W25)
  have f27 := ((((Fw2.other W5 (Or.inr (slot_ne (Or.inl (wd21 hw)) (Or.inl (wd23 hw)) (by decide) (t := .int) (t' := .int) (by decide) (by decide)))).other W15 (Or.inr (slot_ne (Or.inl (wd21 hw)) (Or.inr (wd69 hw)) (by decide) (t := .int) (t' := (.object "java/lang/String")) (by decide) (by decide)))).ext E19).other W25 (Or.inr (slot_ne (Or.inl (wd21 hw)) (Or.inr (wd78 hw)) (by decide) (t := .int) (t' := (.object "java/lang/String")) (by decide) (by decide))))
  have f28 := (((Fw5.other W15 (Or.inr (slot_ne (Or.inl (wd23 hw)) (Or.inr (wd69 hw)) (by decide) (t := .int) (t' := (.object "java/lang/String")) (by decide) (by decide)))).ext E19).other W25 (Or.inr (slot_ne (Or.inl (wd23 hw)) (Or.inr (wd78 hw)) (by decide) (t := .int) (t' := (.object "java/lang/String")) (by decide) (by decide))))
  have f29 := ((Fw15.ext E19).other W25 (Or.inr (slot_ne (Or.inr (wd69 hw)) (Or.inr (wd78 hw)) (by decide) (t := (.object "java/lang/String")) (t' := (.object "java/lang/String")) (by decide) (by decide))))
  have f30 := (((((F_o0_delaySeconds.other W2 (Or.inr (slot_ne (Or.inl (wd95 hw)) (Or.inl (wd21 hw)) (by decide) (t := (.object "java/lang/Integer")) (t' := .int) (by decide) (by decide)))).other W5 (Or.inr (slot_ne (Or.inl (wd95 hw)) (Or.inl (wd23 hw)) (by decide) (t := (.object "java/lang/Integer")) (t' := .int) (by decide) (by decide)))).other W15 (Or.inr (slot_ne (Or.inl (wd95 hw)) (Or.inr (wd69 hw)) (by decide) (t := (.object "java/lang/Integer")) (t' := (.object "java/lang/String")) (by decide) (by decide)))).ext E19).other W25 (Or.inr (slot_ne (Or.inl (wd95 hw)) (Or.inr (wd78 hw)) (by decide) (t := (.object "java/lang/Integer")) (t' := (.object "java/lang/String")) (by decide) (by decide))))
  have f31 := (((((F_o0_runAt.other W2 (Or.inr (slot_ne (Or.inl (wd104 hw)) (Or.inl (wd21 hw)) (by decide) (t := (.object "java/time/Instant")) (t' := .int) (by decide) (by decide)))).other W5 (Or.inr (slot_ne (Or.inl (wd104 hw)) (Or.inl (wd23 hw)) (by decide) (t := (.object "java/time/Instant")) (t' := .int) (by decide) (by decide)))).other W15 (Or.inr (slot_ne (Or.inl (wd104 hw)) (Or.inr (wd69 hw)) (by decide) (t := (.object "java/time/Instant")) (t' := (.object "java/lang/String")) (by decide) (by decide)))).ext E19).other W25 (Or.inr (slot_ne (Or.inl (wd104 hw)) (Or.inr (wd78 hw)) (by decide) (t := (.object "java/time/Instant")) (t' := (.object "java/lang/String")) (by decide) (by decide))))
  obtain ⟨lfs, lhr, lhrun, lhended, lhE⟩ := X25.leaveW hS19 (by rw [e25]; exact hk25) (v := none) (fun _ => rfl)
  refine ⟨_, _, pre0 _ ?_, lhrun, lhended, _, _, rfl, ?_, ?_, lhE.1, lhE.2.1, lhE.2.2.1, lhE.2.2.2.mono (by decide) (by decide)⟩
  · skip
    show Steps p.tables e below (s₁.setTop (mkF m 0 #[.val (.ref o0), .val (.ref o1), .val (.ref o2)] [])) _
    refine XS.aloadN X0.here hx rfl (hb hby dd_prog_13_method_1_code_0) rfl rfl ?_
    show Steps p.tables e below (s₁.setTop (mkF m 1 #[.val (.ref o0), .val (.ref o1), .val (.ref o2)] [(.ref o0)])) _
    refine st1 _ ?_
    show Steps p.tables e below (T1.setTop (mkF m 4 #[.val (.ref o0), .val (.ref o1), .val (.ref o2)] [])) _
    refine XS.aloadN X1.here hx rfl (hb hby dd_prog_13_method_1_code_4) rfl rfl ?_
    show Steps p.tables e below (T1.setTop (mkF m 5 #[.val (.ref o0), .val (.ref o1), .val (.ref o2)] [(.ref o0)])) _
    refine XS.iconst X1.here hx rfl (hb hby dd_prog_13_method_1_code_5) ?_
    show Steps p.tables e below (T1.setTop (mkF m 6 #[.val (.ref o0), .val (.ref o1), .val (.ref o2)] [(.int (5 : Int32)), (.ref o0)])) _
    refine st2 _ ?_
    show Steps p.tables e below (T2.setTop (mkF m 9 #[.val (.ref o0), .val (.ref o1), .val (.ref o2)] [])) _
    refine XS.aloadN X2.here hx rfl (hb hby dd_prog_13_method_1_code_9) rfl rfl ?_
    show Steps p.tables e below (T2.setTop (mkF m 10 #[.val (.ref o0), .val (.ref o1), .val (.ref o2)] [(.ref o0)])) _
    refine XS.bipush X2.here hx rfl (hb hby dd_prog_13_method_1_code_10) ?_
    show Steps p.tables e below (T2.setTop (mkF m 12 #[.val (.ref o0), .val (.ref o1), .val (.ref o2)] [(.int (10 : Int32)), (.ref o0)])) _
    refine st5 _ ?_
    show Steps p.tables e below (T5.setTop (mkF m 15 #[.val (.ref o0), .val (.ref o1), .val (.ref o2)] [])) _
    refine XS.aloadN X5.here hx rfl (hb hby dd_prog_13_method_1_code_15) rfl rfl ?_
    show Steps p.tables e below (T5.setTop (mkF m 16 #[.val (.ref o0), .val (.ref o1), .val (.ref o2)] [(.ref o0)])) _
    refine XS.aloadN X5.here hx rfl (hb hby dd_prog_13_method_1_code_16) rfl rfl ?_
    show Steps p.tables e below (T5.setTop (mkF m 17 #[.val (.ref o0), .val (.ref o1), .val (.ref o2)] [(.ref o1), (.ref o0)])) _
    refine st12 _ ?_
    show Steps p.tables e below (T12.setTop (mkF m 20 #[.val (.ref o0), .val (.ref o1), .val (.ref o2)] [(.ref o1), (.ref o0)])) _
    refine st15 _ ?_
    show Steps p.tables e below (T15.setTop (mkF m 23 #[.val (.ref o0), .val (.ref o1), .val (.ref o2)] [])) _
    refine XS.aloadN X15.here hx rfl (hb hby dd_prog_13_method_1_code_23) rfl rfl ?_
    show Steps p.tables e below (T15.setTop (mkF m 24 #[.val (.ref o0), .val (.ref o1), .val (.ref o2)] [(.ref o0)])) _
    refine XS.aloadN X15.here hx rfl (hb hby dd_prog_13_method_1_code_24) rfl rfl ?_
    show Steps p.tables e below (T15.setTop (mkF m 25 #[.val (.ref o0), .val (.ref o1), .val (.ref o2)] [(.ref o2), (.ref o0)])) _
    refine st19 _ ?_
    show Steps p.tables e below (T19.setTop (mkF m 27 #[.val (.ref o0), .val (.ref o1), .val (.ref o2)] [(.ref a19), (.ref o2), (.ref o0)])) _
    refine st21 _ ?_
    show Steps p.tables e below (T21.setTop (mkF m 30 #[.val (.ref o0), .val (.ref o1), .val (.ref o2)] [(.ref o2), (.ref o0)])) _
    refine st23 _ ?_
    show Steps p.tables e below (T23.setTop (mkF m 33 #[.val (.ref o0), .val (.ref o1), .val (.ref o2)] [(.ref o2), (.ref o0)])) _
    refine st25 _ ?_
    show Steps p.tables e below (T25.setTop (mkF m 36 #[.val (.ref o0), .val (.ref o1), .val (.ref o2)] [])) _
    exact X25.returnOut hx Bd.returns (hb hby dd_prog_13_method_1_code_36) lhr
  · skip
    show QA15 Z o0 o1 o2 o3 kk_o3 x4 u5 u100 u101 h0 n0 _ T25.heap _
    rw [e25]
    exact ⟨rfl, N25, K25, f26, f27, f28, f29, Fw25, f30, f31⟩
  · skip
    show CHr Z own_EL s.vm s.heap T25.vm T25.heap
    rw [hh]
    rw [e25]
    exact CR25.trans (CHv.at X25 hZ19 hEL CR25.1)
theorem efa_prog_13_method_5_code_vv (m : MethodId) (x0 : Addr) (x1 : Int32) : entryFrame m #[(.ref x0), (.int x1)] 2 = mkF m 0 #[.val (.ref x0), .val (.int x1)] [] := by first | (simp [entryFrame, mkF, argsToLocals, Value.category]; done) | rfl
theorem dd_prog_13_method_5_code_0 : decode prog_13_method_5_code 0 = .ok (.aload_n 0, 1) := by decide +kernel
theorem dd_prog_13_method_5_code_1 : decode prog_13_method_5_code 1 = .ok (.ldc 105, 2) := by decide +kernel
theorem dd_prog_13_method_5_code_3 : decode prog_13_method_5_code 3 = .ok (.iload_n 1, 1) := by decide +kernel
theorem dd_prog_13_method_5_code_4 : decode prog_13_method_5_code 4 = .ok (.iconst 1, 1) := by decide +kernel
theorem dd_prog_13_method_5_code_5 : decode prog_13_method_5_code 5 = .ok (.bipush 100, 2) := by decide +kernel
theorem dd_prog_13_method_5_code_7 : decode prog_13_method_5_code 7 = .ok (.invokestatic 92, 3) := by decide +kernel
theorem efa_prog_22_method_2_code_vvvv (m : MethodId) (x0 : Addr) (x1 : Int32) (x2 : Int32) (x3 : Int32) : entryFrame m #[(.ref x0), (.int x1), (.int x2), (.int x3)] 4 = mkF m 0 #[.val (.ref x0), .val (.int x1), .val (.int x2), .val (.int x3)] [] := by first | (simp [entryFrame, mkF, argsToLocals, Value.category]; done) | rfl
theorem pn_com_example_aloq_aloq_engine_Setting : plainName "com/example/aloq/aloq/engine/Setting" = true := by first | (simp [plainName, overriddenIn]; done) | decide +kernel
theorem dd_prog_22_method_2_code_0 : decode prog_22_method_2_code 0 = .ok (.iload_n 1, 1) := by decide +kernel
theorem dd_prog_22_method_2_code_1 : decode prog_22_method_2_code 1 = .ok (.iload_n 2, 1) := by decide +kernel
theorem dd_prog_22_method_2_code_2 : decode prog_22_method_2_code 2 = .ok (.if_icmp .lt 8, 3) := by decide +kernel
theorem dd_prog_22_method_2_code_5 : decode prog_22_method_2_code 5 = .ok (.iload_n 1, 1) := by decide +kernel
theorem dd_prog_22_method_2_code_6 : decode prog_22_method_2_code 6 = .ok (.iload_n 3, 1) := by decide +kernel
theorem dd_prog_22_method_2_code_7 : decode prog_22_method_2_code 7 = .ok (.if_icmp .le 19, 3) := by decide +kernel
theorem dd_prog_22_method_2_code_26 : decode prog_22_method_2_code 26 = .ok (.iload_n 1, 1) := by decide +kernel
theorem dd_prog_22_method_2_code_27 : decode prog_22_method_2_code 27 = .ok (.ireturn, 1) := by decide +kernel
def QA30 (Z : State) (o0 : Addr) (x1 : Int32) (h0 : Heap) (n0 : Nat) (v : Option Value) (h : Heap) (L : List Loc) : Prop := v = some (.int x1) ∧ Fr n0 L ∧ h = h0
set_option maxRecDepth 65536 in
set_option maxHeartbeats 40000000 in
theorem rmA30 (l : Launch) (Z : State) (a0 : Array Value) (hw : ∀ d ∈ tables_1, d.before a0 Z = true) (ws : List Jvm.Cond) (o0 : Addr) (x1 : Int32) (h0 : Heap) (n0 : Nat) (Z0 : n0 ≤ h0.size) (hq0 : ¬ (x1 < (1 : Int32))) (hq1 : ¬ ((100 : Int32) < x1)) :
    MetFree l (⟨"com/example/aloq/aloq/engine/Setting", "inRange", "(Ljava/lang/String;III)I"⟩ : MethodName) (head1 (Jvm.Cond.code (⟨"com/example/aloq/aloq/engine/Setting", "inRange", "(Ljava/lang/String;III)I"⟩ : MethodName) prog_22_method_2_code 4 (some .int) :: ws) ({ frames := 0, cells := 0, slots := 0, locals := 0 } : Room)) (fun a U => a = #[(.ref o0), (.int x1), (.int (1 : Int32)), (.int (100 : Int32))] ∧ Z.Warmed39 U.vm ∧ U.heap = h0) (fun _ _ _ _ _ => True) (fun _ U oc_ U' => ∃ v L, oc_ = .returned v ∧ QA30 Z o0 x1 h0 n0 v U'.heap L ∧ FrameEnd U oc_ U' L ({ frames := 0, cells := 0, slots := 0, locals := 0 } : Room).cells ({ frames := 0, cells := 0, slots := 0, locals := 0 } : Room).slots) := by
  refine MetFree.of_bodySF (plainFor_of_name pn_com_example_aloq_aloq_engine_Setting) hisR ?_
  intro p e s m args below meth c s₁ Bd hml0 hP hK
  obtain ⟨rfl, hZ, hh⟩ := hP
  have hx := Bd.exec
  have hby := Bd.bytes
  have hml : c.maxLocals = 4 := hml0
  have hown : s.vm.findClass "com/example/aloq/aloq/engine/Setting" = some m.cls := findClass_of_methodNamed Bd.named
  have hnm := (name_of_methodNamed Bd.named Bd.method).1
  have X0 : Stand p l e ({ frames := 0, cells := 0, slots := 0, locals := 0 } : Room) s m #[(.ref o0), (.int x1), (.int (1 : Int32)), (.int (100 : Int32))] below meth c s₁ [] 0 0 := Stand.of_body Bd
  have e0 : s₁.heap = h0 := by rw [← hh, Bd.state]; rfl
  have N0 := Fr.nil n0
  have pre0 : ∀ t, Steps p.tables e below (s₁.setTop (mkF m 0 #[.val (.ref o0), .val (.int x1), .val (.int (1 : Int32)), .val (.int (100 : Int32))] [])) t → Steps p.tables e below (s₁.setTop (entryFrame m #[(.ref o0), (.int x1), (.int (1 : Int32)), (.int (100 : Int32))] 4)) t := fun t k => castTop (efa_prog_22_method_2_code_vvvv m o0 x1 (1 : Int32) (100 : Int32)) k
  obtain ⟨lfs, lhr, lhrun, lhended, lhW, lhsame⟩ := X0.leave (v := some (.int x1)) (fun h => by rw [Bd.returns] at h; cases h)
  refine ⟨_, _, pre0 _ ?_, lhrun, lhended, _, _, rfl, ?_, ⟨_, rfl⟩, lhW, lhsame.mono (by decide) (by decide)⟩
  · skip
    show Steps p.tables e below (s₁.setTop (mkF m 0 #[.val (.ref o0), .val (.int x1), .val (.int (1 : Int32)), .val (.int (100 : Int32))] [])) _
    refine XS.iloadN X0.here hx rfl (hb hby dd_prog_22_method_2_code_0) rfl ?_
    show Steps p.tables e below (s₁.setTop (mkF m 1 #[.val (.ref o0), .val (.int x1), .val (.int (1 : Int32)), .val (.int (100 : Int32))] [(.int x1)])) _
    refine XS.iloadN X0.here hx rfl (hb hby dd_prog_22_method_2_code_1) rfl ?_
    show Steps p.tables e below (s₁.setTop (mkF m 2 #[.val (.ref o0), .val (.int x1), .val (.int (1 : Int32)), .val (.int (100 : Int32))] [(.int (1 : Int32)), (.int x1)])) _
    refine XS.icmpNo X0.here hx rfl (hb hby dd_prog_22_method_2_code_2) rfl (flt hq0).1 ?_
    show Steps p.tables e below (s₁.setTop (mkF m 5 #[.val (.ref o0), .val (.int x1), .val (.int (1 : Int32)), .val (.int (100 : Int32))] [])) _
    refine XS.iloadN X0.here hx rfl (hb hby dd_prog_22_method_2_code_5) rfl ?_
    show Steps p.tables e below (s₁.setTop (mkF m 6 #[.val (.ref o0), .val (.int x1), .val (.int (1 : Int32)), .val (.int (100 : Int32))] [(.int x1)])) _
    refine XS.iloadN X0.here hx rfl (hb hby dd_prog_22_method_2_code_6) rfl ?_
    show Steps p.tables e below (s₁.setTop (mkF m 7 #[.val (.ref o0), .val (.int x1), .val (.int (1 : Int32)), .val (.int (100 : Int32))] [(.int (100 : Int32)), (.int x1)])) _
    refine XS.icmpYes X0.here hx rfl (pc0 := 7) (pc' := 26) rfl (hb hby dd_prog_22_method_2_code_7) rfl (flt hq1).2.2.2 (by decide) (by decide) ?_
    show Steps p.tables e below (s₁.setTop (mkF m 26 #[.val (.ref o0), .val (.int x1), .val (.int (1 : Int32)), .val (.int (100 : Int32))] [])) _
    refine XS.iloadN X0.here hx rfl (hb hby dd_prog_22_method_2_code_26) rfl ?_
    show Steps p.tables e below (s₁.setTop (mkF m 27 #[.val (.ref o0), .val (.int x1), .val (.int (1 : Int32)), .val (.int (100 : Int32))] [(.int x1)])) _
    exact retI X0 hx Bd.returns (hb hby dd_prog_22_method_2_code_27) lhr
  · skip
    show QA30 Z o0 x1 h0 n0 _ s₁.heap _
    rw [e0]
    exact ⟨rfl, N0, rfl⟩
theorem pd__Ljava_lang_String_III_I : parseMethodDescriptor "(Ljava/lang/String;III)I" = some ⟨[(.object "java/lang/String"), .int, .int, .int], some .int⟩ := by decide +kernel
theorem dd_prog_13_method_5_code_10 : decode prog_13_method_5_code 10 = .ok (.putfield 9, 3) := by decide +kernel
theorem dd_prog_13_method_5_code_13 : decode prog_13_method_5_code 13 = .ok (.aload_n 0, 1) := by decide +kernel
theorem dd_prog_13_method_5_code_14 : decode prog_13_method_5_code 14 = .ok (.areturn, 1) := by decide +kernel
def QA29 (Z : State) (o0 : Addr) (x1 : Int32) (u100 : Value) (u101 : Value) (u102 : Value) (u103 : Value) (u104 : Value) (h0 : Heap) (n0 : Nat) (v : Option Value) (h : Heap) (L : List Loc) : Prop := v = some (.ref o0) ∧ Fr n0 L ∧ Keep h0 h [o0] ∧ Exa Z h o0 "com/example/aloq/aloq/engine/NewTask" ∧ Fld Z h o0 "com/example/aloq/aloq/engine/NewTask" "maxAttempts" "I" (.int x1) ∧ Fld Z h o0 "com/example/aloq/aloq/engine/NewTask" "retryBackoffSeconds" "I" u100 ∧ Fld Z h o0 "com/example/aloq/aloq/engine/NewTask" "queue" "Ljava/lang/String;" u101 ∧ Fld Z h o0 "com/example/aloq/aloq/engine/NewTask" "payload" "Ljava/lang/String;" u102 ∧ Fld Z h o0 "com/example/aloq/aloq/engine/NewTask" "delaySeconds" "Ljava/lang/Integer;" u103 ∧ Fld Z h o0 "com/example/aloq/aloq/engine/NewTask" "runAt" "Ljava/time/Instant;" u104
set_option maxRecDepth 65536 in
set_option maxHeartbeats 40000000 in
theorem rmA29 (l : Launch) (Z : State) (a0 : Array Value) (hw : ∀ d ∈ tables_1, d.before a0 Z = true) (ws : List Jvm.Cond) (o0 : Addr) (x1 : Int32) (u100 : Value) (u101 : Value) (u102 : Value) (u103 : Value) (u104 : Value) (h0 : Heap) (n0 : Nat) (Z0 : n0 ≤ h0.size) (hq0 : ¬ (x1 < (1 : Int32))) (hq1 : ¬ ((100 : Int32) < x1)) (E_o0 : Exa Z h0 o0 "com/example/aloq/aloq/engine/NewTask") (F_o0_maxAttempts : Fld Z h0 o0 "com/example/aloq/aloq/engine/NewTask" "maxAttempts" "I" (.int (5 : Int32))) (g_o0 : n0 ≤ o0) (F_o0_retryBackoffSeconds : Fld Z h0 o0 "com/example/aloq/aloq/engine/NewTask" "retryBackoffSeconds" "I" u100) (F_o0_queue : Fld Z h0 o0 "com/example/aloq/aloq/engine/NewTask" "queue" "Ljava/lang/String;" u101) (F_o0_payload : Fld Z h0 o0 "com/example/aloq/aloq/engine/NewTask" "payload" "Ljava/lang/String;" u102) (F_o0_delaySeconds : Fld Z h0 o0 "com/example/aloq/aloq/engine/NewTask" "delaySeconds" "Ljava/lang/Integer;" u103) (F_o0_runAt : Fld Z h0 o0 "com/example/aloq/aloq/engine/NewTask" "runAt" "Ljava/time/Instant;" u104) :
    MetFree l (⟨"com/example/aloq/aloq/engine/NewTask", "maxAttempts", "(I)Lcom/example/aloq/aloq/engine/NewTask;"⟩ : MethodName) (head1 (Jvm.Cond.code (⟨"com/example/aloq/aloq/engine/NewTask", "maxAttempts", "(I)Lcom/example/aloq/aloq/engine/NewTask;"⟩ : MethodName) prog_13_method_5_code 2 (some (.object "com/example/aloq/aloq/engine/NewTask")) :: ws) ({ frames := 1, cells := 2, slots := 52, locals := 16 } : Room)) (fun a U => a = #[(.ref o0), (.int x1)] ∧ Z.Warmed39 U.vm ∧ U.heap = h0 ∧ CHv Z own_EL U.vm h0 ∧ ∀ x ∈ ([] : List Addr), Safe Z own_EL U.vm h0 x) (fun _ _ _ _ _ => True) (fun _ U oc_ U' => ∃ v L, oc_ = .returned v ∧ QA29 Z o0 x1 u100 u101 u102 u103 u104 h0 n0 v U'.heap L ∧ CHr Z own_EL U.vm U.heap U'.vm U'.heap ∧ ReturnedEndW U oc_ U' L ({ frames := 1, cells := 2, slots := 52, locals := 16 } : Room).cells ({ frames := 1, cells := 2, slots := 52, locals := 16 } : Room).slots) := by
  refine MetFree.of_bodySF (plainFor_of_name pn_com_example_aloq_aloq_engine_NewTask) hisR ?_
  intro p e s m args below meth c s₁ Bd hml0 hP hK
  obtain ⟨rfl, hZ, hh, hCH, hSS⟩ := hP
  have hx := Bd.exec
  have hby := Bd.bytes
  have hml : c.maxLocals = 2 := hml0
  have hown : s.vm.findClass "com/example/aloq/aloq/engine/NewTask" = some m.cls := findClass_of_methodNamed Bd.named
  have hnm := (name_of_methodNamed Bd.named Bd.method).1
  have X0 : Stand p l e ({ frames := 1, cells := 2, slots := 52, locals := 16 } : Room) s m #[(.ref o0), (.int x1)] below meth c s₁ [] 0 0 := Stand.of_body Bd
  have e0 : s₁.heap = h0 := by rw [← hh, Bd.state]; rfl
  have N0 := Fr.nil n0
  have pre0 : ∀ t, Steps p.tables e below (s₁.setTop (mkF m 0 #[.val (.ref o0), .val (.int x1)] [])) t → Steps p.tables e below (s₁.setTop (entryFrame m #[(.ref o0), (.int x1)] 2)) t := fun t k => castTop (efa_prog_13_method_5_code_vv m o0 x1) k
  have X0 : Stand p l e ({ frames := 1, cells := 2, slots := 52, locals := 16 } : Room) (s.setVm s.vm) m #[(.ref o0), (.int x1)] below meth c s₁ [] 0 0 := X0
  have hS0 : s.Since s.vm 0 := own_since0 s
  have hk0 : 0 ≤ h0.size := Nat.zero_le _
  have CR0 : CHr Z own_EL s.vm h0 s.vm h0 := CHr.refl hCH
  have hEL := own_EW a0 Z hw
  have wS : ∀ a ∈ Bundle.stringAtoms, a.before a0 Z = true := fun d hd => hw d ((by decide +kernel : ∀ d ∈ Bundle.stringAtoms, d ∈ tables_1) d hd)
  obtain ⟨a1, T1, h1, kk1, t1, kb1, X1, e1, E1, hS1, hk1, hZ1, hown1, gE1, gC1, gV1, gK1, la1, lt1, CS1, LL1, sne1, st1⟩ := ldcCH (s := s) (vm0 := s.vm) (EL := own_EL) X0 hx hZ hown (wd84 hw) wS e0 hS0 hk0 hEL (by decide) CR0.1 (vs := [(.int (109 : Int32)), (.int (97 : Int32)), (.int (120 : Int32)), (.int (95 : Int32)), (.int (97 : Int32)), (.int (116 : Int32)), (.int (116 : Int32)), (.int (101 : Int32)), (.int (109 : Int32)), (.int (112 : Int32)), (.int (116 : Int32)), (.int (115 : Int32))]) (z := (12 : Int32)) ⟨by decide +kernel, by first | rfl | decide +kernel⟩ (by decide) (by decide) (g := (mkF m 1 #[.val (.ref o0), .val (.int x1)] [(.ref o0)])) rfl (hb hby dd_prog_13_method_5_code_1) (n := 48) (by decide +kernel) (by decide) (by decide) (by decide)
  have CR1 := CR0.trans CS1
  have Z1 : n0 ≤ h1.size := Nat.le_trans Z0 E1.1
  have K1 : Keep h0 h1 [o0] := ((Keep.refl h0 [o0]).ext E1)
  obtain ⟨_, _, ⟨T2, L2, kc2, ks2⟩, -, X2, ⟨Lc2, hQ2, l2, y2, z2⟩, st2⟩ := Jvm.LawKit.callS X1 hx (y := (⟨"com/example/aloq/aloq/engine/Setting", "inRange", "(Ljava/lang/String;III)I"⟩ : MethodName)) hown1 (mvT hZ1 (wd85 hw)) (mvT hZ1 (wd86 hw)) (mvT hZ1 (wd87 hw)) (mvT hZ1 (wd88 hw)) (by decide) (backOf (W := 1) (rmA30 l Z a0 hw [] a1 x1 h1 n0 Z1 hq0 hq1) hZ1 (wd88 hw) (wd87 hw) (by decide) (by decide)) (g := (mkF m 7 #[.val (.ref o0), .val (.int x1)] [(.int (100 : Int32)), (.int (1 : Int32)), (.int x1), (.ref a1), (.ref o0)])) rfl (by rw [hml]; rfl) (argsL := [(.ref a1), (.int x1), (.int (1 : Int32)), (.int (100 : Int32))]) (rest := [(.ref o0)]) (lenOf pd__Ljava_lang_String_III_I rfl) rfl (by show 2 * 0 + _ ≤ _; exact Nat.le_of_eq rfl) (hb hby dd_prog_13_method_5_code_7) (fun _ _ => ⟨rfl, e1, (by decide : 2 + 0 ≤ _), (by decide : 52 + 0 ≤ _)⟩)
  dsimp only [Pt.U, Pt.locs, Pt.cells, Pt.slots] at X2 l2 y2 z2 st2 hQ2
  subst l2 y2 z2
  obtain ⟨rfl, Nq2, eq2⟩ := hQ2
  have N2 := Fr.app N0 Nq2
  have f3 := (E_o0.ext E1)
  have f4 := (F_o0_maxAttempts.ext E1)
  obtain ⟨T5, h5, X5, e5, W5, st5⟩ := putF X2 hx hZ1 hown1 (host := "") (Or.inl (wd20 hw)) Via.refl eq2 f4 f3 (Or.inl (wd21 hw)) (wd3 hw) (ty := .int) (by decide) rfl rfl (g := (mkF m 10 #[.val (.ref o0), .val (.int x1)] [(.int x1), (.ref o0)])) rfl rfl (hb hby dd_prog_13_method_5_code_10)
  have CS5 := CHr.wr W5 (Safe.exa hZ1.alike f3 (by decide) (by decide)) CR1.1
  have CR5 := CR1.trans CS5
  have hk5 : _ ≤ h5.size := Nat.le_trans hk1 (Nat.le_of_eq W5.size.symm)
  have N5 := Fr.snoc X5 N2 g_o0
  have Z5 : n0 ≤ h5.size := by rw [W5.size]; exact Z1
  have K5 : Keep h0 h5 [o0] := (K1.wr W5 (Or.inl (List.mem_of_getElem? (i := 0) rfl)))
  have Fw5 := f4.same W5
  have f6 := (f3.wr W5)
  have f7 := ((F_o0_retryBackoffSeconds.ext E1).other W5 (Or.inr (slot_ne (Or.inl (wd23 hw)) (Or.inl (wd21 hw)) (by decide) (t := .int) (t' := .int) (by decide) (by decide))))
  have f8 := ((F_o0_queue.ext E1).other W5 (Or.inr (slot_ne (Or.inr (wd69 hw)) (Or.inl (wd21 hw)) (by decide) (t := (.object "java/lang/String")) (t' := .int) (by decide) (by decide))))
  have f9 := ((F_o0_payload.ext E1).other W5 (Or.inr (slot_ne (Or.inr (wd78 hw)) (Or.inl (wd21 hw)) (by decide) (t := (.object "java/lang/String")) (t' := .int) (by decide) (by decide))))
  have f10 := ((F_o0_delaySeconds.ext E1).other W5 (Or.inr (slot_ne (Or.inl (wd95 hw)) (Or.inl (wd21 hw)) (by decide) (t := (.object "java/lang/Integer")) (t' := .int) (by decide) (by decide))))
  have f11 := ((F_o0_runAt.ext E1).other W5 (Or.inr (slot_ne (Or.inl (wd104 hw)) (Or.inl (wd21 hw)) (by decide) (t := (.object "java/time/Instant")) (t' := .int) (by decide) (by decide))))
  obtain ⟨lfs, lhr, lhrun, lhended, lhE⟩ := X5.leaveW hS1 (by rw [e5]; exact hk5) (v := some (.ref o0)) (fun h => by rw [Bd.returns] at h; cases h)
  refine ⟨_, _, pre0 _ ?_, lhrun, lhended, _, _, rfl, ?_, ?_, lhE.1, lhE.2.1, lhE.2.2.1, lhE.2.2.2.mono (by decide) (by decide)⟩
  · skip
    show Steps p.tables e below (s₁.setTop (mkF m 0 #[.val (.ref o0), .val (.int x1)] [])) _
    refine XS.aloadN X0.here hx rfl (hb hby dd_prog_13_method_5_code_0) rfl rfl ?_
    show Steps p.tables e below (s₁.setTop (mkF m 1 #[.val (.ref o0), .val (.int x1)] [(.ref o0)])) _
    refine st1 _ ?_
    show Steps p.tables e below (T1.setTop (mkF m 3 #[.val (.ref o0), .val (.int x1)] [(.ref a1), (.ref o0)])) _
    refine XS.iloadN X1.here hx rfl (hb hby dd_prog_13_method_5_code_3) rfl ?_
    show Steps p.tables e below (T1.setTop (mkF m 4 #[.val (.ref o0), .val (.int x1)] [(.int x1), (.ref a1), (.ref o0)])) _
    refine XS.iconst X1.here hx rfl (hb hby dd_prog_13_method_5_code_4) ?_
    show Steps p.tables e below (T1.setTop (mkF m 5 #[.val (.ref o0), .val (.int x1)] [(.int (1 : Int32)), (.int x1), (.ref a1), (.ref o0)])) _
    refine XS.bipush X1.here hx rfl (hb hby dd_prog_13_method_5_code_5) ?_
    show Steps p.tables e below (T1.setTop (mkF m 7 #[.val (.ref o0), .val (.int x1)] [(.int (100 : Int32)), (.int (1 : Int32)), (.int x1), (.ref a1), (.ref o0)])) _
    refine st2 _ ?_
    show Steps p.tables e below (T2.setTop (mkF m 10 #[.val (.ref o0), .val (.int x1)] [(.int x1), (.ref o0)])) _
    refine st5 _ ?_
    show Steps p.tables e below (T5.setTop (mkF m 13 #[.val (.ref o0), .val (.int x1)] [])) _
    refine XS.aloadN X5.here hx rfl (hb hby dd_prog_13_method_5_code_13) rfl rfl ?_
    show Steps p.tables e below (T5.setTop (mkF m 14 #[.val (.ref o0), .val (.int x1)] [(.ref o0)])) _
    exact retOut X5 hx Bd.returns rfl (Or.inr (Or.inr (Or.inr (Or.inr ⟨rfl, rfl, rfl⟩)))) (hb hby dd_prog_13_method_5_code_14) lhr
  · skip
    show QA29 Z o0 x1 u100 u101 u102 u103 u104 h0 n0 _ T5.heap _
    rw [e5]
    exact ⟨rfl, N5, K5, f6, Fw5, f7, f8, f9, f10, f11⟩
  · skip
    show CHr Z own_EL s.vm s.heap T5.vm T5.heap
    rw [hh]
    rw [e5]
    exact CR5.trans (CHv.at X5 hZ1 hEL CR5.1)
theorem efa_prog_13_method_11_code_v (m : MethodId) (x0 : Addr) : entryFrame m #[(.ref x0)] 1 = mkF m 0 #[.val (.ref x0)] [] := by first | (simp [entryFrame, mkF, argsToLocals, Value.category]; done) | rfl
theorem dd_prog_13_method_11_code_0 : decode prog_13_method_11_code 0 = .ok (.aload_n 0, 1) := by decide +kernel
theorem dd_prog_13_method_11_code_1 : decode prog_13_method_11_code 1 = .ok (.getfield 79, 3) := by decide +kernel
theorem dd_prog_13_method_11_code_4 : decode prog_13_method_11_code 4 = .ok (.ifnonnull 7, 3) := by decide +kernel
theorem dd_prog_13_method_11_code_7 : decode prog_13_method_11_code 7 = .ok (.iconst 0, 1) := by decide +kernel
theorem dd_prog_13_method_11_code_8 : decode prog_13_method_11_code 8 = .ok (.goto 10, 3) := by decide +kernel
theorem dd_prog_13_method_11_code_18 : decode prog_13_method_11_code 18 = .ok (.ireturn, 1) := by decide +kernel
def QA31 (Z : State) (o0 : Addr) (h0 : Heap) (n0 : Nat) (v : Option Value) (h : Heap) (L : List Loc) : Prop := v = some (.int (0 : Int32)) ∧ Fr n0 L ∧ h = h0
set_option maxRecDepth 65536 in
set_option maxHeartbeats 40000000 in
theorem rmA31 (l : Launch) (Z : State) (a0 : Array Value) (hw : ∀ d ∈ tables_1, d.before a0 Z = true) (ws : List Jvm.Cond) (o0 : Addr) (h0 : Heap) (n0 : Nat) (Z0 : n0 ≤ h0.size) (F_o0_delaySeconds : Fld Z h0 o0 "com/example/aloq/aloq/engine/NewTask" "delaySeconds" "Ljava/lang/Integer;" .null) :
    MetFree l (⟨"com/example/aloq/aloq/engine/NewTask", "delaySeconds", "()I"⟩ : MethodName) (head1 (Jvm.Cond.code (⟨"com/example/aloq/aloq/engine/NewTask", "delaySeconds", "()I"⟩ : MethodName) prog_13_method_11_code 1 (some .int) :: ws) ({ frames := 0, cells := 0, slots := 0, locals := 0 } : Room)) (fun a U => a = #[(.ref o0)] ∧ Z.Warmed39 U.vm ∧ U.heap = h0) (fun _ _ _ _ _ => True) (fun _ U oc_ U' => ∃ v L, oc_ = .returned v ∧ QA31 Z o0 h0 n0 v U'.heap L ∧ FrameEnd U oc_ U' L ({ frames := 0, cells := 0, slots := 0, locals := 0 } : Room).cells ({ frames := 0, cells := 0, slots := 0, locals := 0 } : Room).slots) := by
  refine MetFree.of_bodySF (plainFor_of_name pn_com_example_aloq_aloq_engine_NewTask) hisR ?_
  intro p e s m args below meth c s₁ Bd hml0 hP hK
  obtain ⟨rfl, hZ, hh⟩ := hP
  have hx := Bd.exec
  have hby := Bd.bytes
  have hml : c.maxLocals = 1 := hml0
  have hown : s.vm.findClass "com/example/aloq/aloq/engine/NewTask" = some m.cls := findClass_of_methodNamed Bd.named
  have hnm := (name_of_methodNamed Bd.named Bd.method).1
  have X0 : Stand p l e ({ frames := 0, cells := 0, slots := 0, locals := 0 } : Room) s m #[(.ref o0)] below meth c s₁ [] 0 0 := Stand.of_body Bd
  have e0 : s₁.heap = h0 := by rw [← hh, Bd.state]; rfl
  have N0 := Fr.nil n0
  have pre0 : ∀ t, Steps p.tables e below (s₁.setTop (mkF m 0 #[.val (.ref o0)] [])) t → Steps p.tables e below (s₁.setTop (entryFrame m #[(.ref o0)] 1)) t := fun t k => castTop (efa_prog_13_method_11_code_v m o0) k
  obtain ⟨T1, X1, e1, st1⟩ := getF X0 hx hZ hown (host := "") (Or.inl (wd94 hw)) Via.refl e0 F_o0_delaySeconds (g := (mkF m 1 #[.val (.ref o0)] [(.ref o0)])) rfl rfl (hb hby dd_prog_13_method_11_code_1)
  obtain ⟨lfs, lhr, lhrun, lhended, lhW, lhsame⟩ := X1.leave (v := some (.int (0 : Int32))) (fun h => by rw [Bd.returns] at h; cases h)
  refine ⟨_, _, pre0 _ ?_, lhrun, lhended, _, _, rfl, ?_, ⟨_, rfl⟩, lhW, lhsame.mono (by decide) (by decide)⟩
  · skip
    show Steps p.tables e below (s₁.setTop (mkF m 0 #[.val (.ref o0)] [])) _
    refine XS.aloadN X0.here hx rfl (hb hby dd_prog_13_method_11_code_0) rfl rfl ?_
    show Steps p.tables e below (s₁.setTop (mkF m 1 #[.val (.ref o0)] [(.ref o0)])) _
    refine st1 _ ?_
    show Steps p.tables e below (T1.setTop (mkF m 4 #[.val (.ref o0)] [.null])) _
    refine XS.ifnonnullNo X1.here hx rfl (hb hby dd_prog_13_method_11_code_4) rfl ?_
    show Steps p.tables e below (T1.setTop (mkF m 7 #[.val (.ref o0)] [])) _
    refine XS.iconst X1.here hx rfl (hb hby dd_prog_13_method_11_code_7) ?_
    show Steps p.tables e below (T1.setTop (mkF m 8 #[.val (.ref o0)] [(.int (0 : Int32))])) _
    refine XS.goto X1.here hx rfl (pc0 := 8) (pc' := 18) rfl (hb hby dd_prog_13_method_11_code_8) (by decide) (by decide) ?_
    show Steps p.tables e below (T1.setTop (mkF m 18 #[.val (.ref o0)] [(.int (0 : Int32))])) _
    exact retI X1 hx Bd.returns (hb hby dd_prog_13_method_11_code_18) lhr
  · skip
    show QA31 Z o0 h0 n0 _ T1.heap _
    rw [e1]
    exact ⟨rfl, N0, rfl⟩
theorem efa_prog_13_method_3_code_vv (m : MethodId) (x0 : Addr) (x1 : Int32) : entryFrame m #[(.ref x0), (.int x1)] 3 = mkF m 0 #[.val (.ref x0), .val (.int x1), .unset] [] := by first | (simp [entryFrame, mkF, argsToLocals, Value.category]; done) | rfl
theorem dd_prog_13_method_3_code_0 : decode prog_13_method_3_code 0 = .ok (.ldc 89, 2) := by decide +kernel
theorem dd_prog_13_method_3_code_2 : decode prog_13_method_3_code 2 = .ok (.iload_n 1, 1) := by decide +kernel
theorem dd_prog_13_method_3_code_3 : decode prog_13_method_3_code 3 = .ok (.iconst 0, 1) := by decide +kernel
theorem dd_prog_13_method_3_code_4 : decode prog_13_method_3_code 4 = .ok (.ldc 91, 2) := by decide +kernel
theorem dd_prog_13_method_3_code_6 : decode prog_13_method_3_code 6 = .ok (.invokestatic 92, 3) := by decide +kernel
def QA34 (Z : State) (o0 : Addr) (x1 : Int32) (h0 : Heap) (n0 : Nat) (v : Option Value) (h : Heap) (L : List Loc) : Prop := v = some (.int x1) ∧ Fr n0 L ∧ h = h0
set_option maxRecDepth 65536 in
set_option maxHeartbeats 40000000 in
theorem rmA34 (l : Launch) (Z : State) (a0 : Array Value) (hw : ∀ d ∈ tables_1, d.before a0 Z = true) (ws : List Jvm.Cond) (o0 : Addr) (x1 : Int32) (h0 : Heap) (n0 : Nat) (Z0 : n0 ≤ h0.size) (hq0 : ¬ (x1 < (0 : Int32))) (hq1 : ¬ ((31536000 : Int32) < x1)) :
    MetFree l (⟨"com/example/aloq/aloq/engine/Setting", "inRange", "(Ljava/lang/String;III)I"⟩ : MethodName) (head1 (Jvm.Cond.code (⟨"com/example/aloq/aloq/engine/Setting", "inRange", "(Ljava/lang/String;III)I"⟩ : MethodName) prog_22_method_2_code 4 (some .int) :: ws) ({ frames := 0, cells := 0, slots := 0, locals := 0 } : Room)) (fun a U => a = #[(.ref o0), (.int x1), (.int (0 : Int32)), (.int (31536000 : Int32))] ∧ Z.Warmed39 U.vm ∧ U.heap = h0) (fun _ _ _ _ _ => True) (fun _ U oc_ U' => ∃ v L, oc_ = .returned v ∧ QA34 Z o0 x1 h0 n0 v U'.heap L ∧ FrameEnd U oc_ U' L ({ frames := 0, cells := 0, slots := 0, locals := 0 } : Room).cells ({ frames := 0, cells := 0, slots := 0, locals := 0 } : Room).slots) := by
  refine MetFree.of_bodySF (plainFor_of_name pn_com_example_aloq_aloq_engine_Setting) hisR ?_
  intro p e s m args below meth c s₁ Bd hml0 hP hK
  obtain ⟨rfl, hZ, hh⟩ := hP
  have hx := Bd.exec
  have hby := Bd.bytes
  have hml : c.maxLocals = 4 := hml0
  have hown : s.vm.findClass "com/example/aloq/aloq/engine/Setting" = some m.cls := findClass_of_methodNamed Bd.named
  have hnm := (name_of_methodNamed Bd.named Bd.method).1
  have X0 : Stand p l e ({ frames := 0, cells := 0, slots := 0, locals := 0 } : Room) s m #[(.ref o0), (.int x1), (.int (0 : Int32)), (.int (31536000 : Int32))] below meth c s₁ [] 0 0 := Stand.of_body Bd
  have e0 : s₁.heap = h0 := by rw [← hh, Bd.state]; rfl
  have N0 := Fr.nil n0
  have pre0 : ∀ t, Steps p.tables e below (s₁.setTop (mkF m 0 #[.val (.ref o0), .val (.int x1), .val (.int (0 : Int32)), .val (.int (31536000 : Int32))] [])) t → Steps p.tables e below (s₁.setTop (entryFrame m #[(.ref o0), (.int x1), (.int (0 : Int32)), (.int (31536000 : Int32))] 4)) t := fun t k => castTop (efa_prog_22_method_2_code_vvvv m o0 x1 (0 : Int32) (31536000 : Int32)) k
  obtain ⟨lfs, lhr, lhrun, lhended, lhW, lhsame⟩ := X0.leave (v := some (.int x1)) (fun h => by rw [Bd.returns] at h; cases h)
  refine ⟨_, _, pre0 _ ?_, lhrun, lhended, _, _, rfl, ?_, ⟨_, rfl⟩, lhW, lhsame.mono (by decide) (by decide)⟩
  · skip
    show Steps p.tables e below (s₁.setTop (mkF m 0 #[.val (.ref o0), .val (.int x1), .val (.int (0 : Int32)), .val (.int (31536000 : Int32))] [])) _
    refine XS.iloadN X0.here hx rfl (hb hby dd_prog_22_method_2_code_0) rfl ?_
    show Steps p.tables e below (s₁.setTop (mkF m 1 #[.val (.ref o0), .val (.int x1), .val (.int (0 : Int32)), .val (.int (31536000 : Int32))] [(.int x1)])) _
    refine XS.iloadN X0.here hx rfl (hb hby dd_prog_22_method_2_code_1) rfl ?_
    show Steps p.tables e below (s₁.setTop (mkF m 2 #[.val (.ref o0), .val (.int x1), .val (.int (0 : Int32)), .val (.int (31536000 : Int32))] [(.int (0 : Int32)), (.int x1)])) _
    refine XS.icmpNo X0.here hx rfl (hb hby dd_prog_22_method_2_code_2) rfl (flt hq0).1 ?_
    show Steps p.tables e below (s₁.setTop (mkF m 5 #[.val (.ref o0), .val (.int x1), .val (.int (0 : Int32)), .val (.int (31536000 : Int32))] [])) _
    refine XS.iloadN X0.here hx rfl (hb hby dd_prog_22_method_2_code_5) rfl ?_
    show Steps p.tables e below (s₁.setTop (mkF m 6 #[.val (.ref o0), .val (.int x1), .val (.int (0 : Int32)), .val (.int (31536000 : Int32))] [(.int x1)])) _
    refine XS.iloadN X0.here hx rfl (hb hby dd_prog_22_method_2_code_6) rfl ?_
    show Steps p.tables e below (s₁.setTop (mkF m 7 #[.val (.ref o0), .val (.int x1), .val (.int (0 : Int32)), .val (.int (31536000 : Int32))] [(.int (31536000 : Int32)), (.int x1)])) _
    refine XS.icmpYes X0.here hx rfl (pc0 := 7) (pc' := 26) rfl (hb hby dd_prog_22_method_2_code_7) rfl (flt hq1).2.2.2 (by decide) (by decide) ?_
    show Steps p.tables e below (s₁.setTop (mkF m 26 #[.val (.ref o0), .val (.int x1), .val (.int (0 : Int32)), .val (.int (31536000 : Int32))] [])) _
    refine XS.iloadN X0.here hx rfl (hb hby dd_prog_22_method_2_code_26) rfl ?_
    show Steps p.tables e below (s₁.setTop (mkF m 27 #[.val (.ref o0), .val (.int x1), .val (.int (0 : Int32)), .val (.int (31536000 : Int32))] [(.int x1)])) _
    exact retI X0 hx Bd.returns (hb hby dd_prog_22_method_2_code_27) lhr
  · skip
    show QA34 Z o0 x1 h0 n0 _ s₁.heap _
    rw [e0]
    exact ⟨rfl, N0, rfl⟩
theorem dd_prog_13_method_3_code_9 : decode prog_13_method_3_code 9 = .ok (.istore_n 2, 1) := by decide +kernel
theorem dd_prog_13_method_3_code_10 : decode prog_13_method_3_code 10 = .ok (.aload_n 0, 1) := by decide +kernel
theorem dd_prog_13_method_3_code_11 : decode prog_13_method_3_code 11 = .ok (.getfield 87, 3) := by decide +kernel
theorem dd_prog_13_method_3_code_14 : decode prog_13_method_3_code 14 = .ok (.ifnull 7, 3) := by decide +kernel
theorem dd_prog_13_method_3_code_21 : decode prog_13_method_3_code 21 = .ok (.aload_n 0, 1) := by decide +kernel
theorem dd_prog_13_method_3_code_22 : decode prog_13_method_3_code 22 = .ok (.iload_n 2, 1) := by decide +kernel
theorem dd_prog_13_method_3_code_23 : decode prog_13_method_3_code 23 = .ok (.invokestatic 98, 3) := by decide +kernel
theorem efa_jdk_33_method_22_code_v (m : MethodId) (x0 : Int32) : entryFrame m #[(.int x0)] 1 = mkF m 0 #[.val (.int x0)] [] := by first | (simp [entryFrame, mkF, argsToLocals, Value.category]; done) | rfl
theorem dd_jdk_33_method_22_code_23 : decode jdk_33_method_22_code 23 = .ok (.new 1, 3) := by decide +kernel
theorem dd_jdk_33_method_22_code_26 : decode jdk_33_method_22_code 26 = .ok (.dup, 1) := by decide +kernel
theorem dd_jdk_33_method_22_code_27 : decode jdk_33_method_22_code 27 = .ok (.iload_n 0, 1) := by decide +kernel
theorem dd_jdk_33_method_22_code_28 : decode jdk_33_method_22_code 28 = .ok (.invokespecial 199, 3) := by decide +kernel
theorem efa_jdk_33_method_23_code_vv (m : MethodId) (x0 : Addr) (x1 : Int32) : entryFrame m #[(.ref x0), (.int x1)] 2 = mkF m 0 #[.val (.ref x0), .val (.int x1)] [] := by first | (simp [entryFrame, mkF, argsToLocals, Value.category]; done) | rfl
theorem dd_jdk_33_method_23_code_0 : decode jdk_33_method_23_code 0 = .ok (.aload_n 0, 1) := by decide +kernel
theorem dd_jdk_33_method_23_code_1 : decode jdk_33_method_23_code 1 = .ok (.invokespecial 202, 3) := by decide +kernel
theorem efa_jdk_18_method_1_code_v (m : MethodId) (x0 : Addr) : entryFrame m #[(.ref x0)] 1 = mkF m 0 #[.val (.ref x0)] [] := by first | (simp [entryFrame, mkF, argsToLocals, Value.category]; done) | rfl
theorem pn_java_lang_Number : plainName "java/lang/Number" = true := by first | (simp [plainName, overriddenIn]; done) | decide +kernel
theorem dd_jdk_18_method_1_code_0 : decode jdk_18_method_1_code 0 = .ok (.aload_n 0, 1) := by decide +kernel
theorem dd_jdk_18_method_1_code_1 : decode jdk_18_method_1_code 1 = .ok (.invokespecial 1, 3) := by decide +kernel
theorem dd_jdk_18_method_1_code_4 : decode jdk_18_method_1_code 4 = .ok (.return_, 1) := by decide +kernel
def QA37 (Z : State) (o0 : Addr) (h0 : Heap) (n0 : Nat) (v : Option Value) (h : Heap) (L : List Loc) : Prop := v = none ∧ Fr n0 L ∧ h = h0
set_option maxRecDepth 65536 in
set_option maxHeartbeats 40000000 in
theorem rmA37 (l : Launch) (Z : State) (a0 : Array Value) (hw : ∀ d ∈ tables_1, d.before a0 Z = true) (ws : List Jvm.Cond) (o0 : Addr) (h0 : Heap) (n0 : Nat) (Z0 : n0 ≤ h0.size) :
    MetFree l (⟨"java/lang/Number", "<init>", "()V"⟩ : MethodName) (head1 (Jvm.Cond.code (⟨"java/lang/Number", "<init>", "()V"⟩ : MethodName) jdk_18_method_1_code 1 none :: ws) ({ frames := 1, cells := 0, slots := 0, locals := 12 } : Room)) (fun a U => a = #[(.ref o0)] ∧ Z.Warmed39 U.vm ∧ U.heap = h0) (fun _ _ _ _ _ => True) (fun _ U oc_ U' => ∃ v L, oc_ = .returned v ∧ QA37 Z o0 h0 n0 v U'.heap L ∧ FrameEnd U oc_ U' L ({ frames := 1, cells := 0, slots := 0, locals := 12 } : Room).cells ({ frames := 1, cells := 0, slots := 0, locals := 12 } : Room).slots) := by
  refine MetFree.of_bodySF (plainFor_of_name pn_java_lang_Number) hisR ?_
  intro p e s m args below meth c s₁ Bd hml0 hP hK
  obtain ⟨rfl, hZ, hh⟩ := hP
  have hx := Bd.exec
  have hby := Bd.bytes
  have hml : c.maxLocals = 1 := hml0
  have hown : s.vm.findClass "java/lang/Number" = some m.cls := findClass_of_methodNamed Bd.named
  have hnm := (name_of_methodNamed Bd.named Bd.method).1
  have X0 : Stand p l e ({ frames := 1, cells := 0, slots := 0, locals := 12 } : Room) s m #[(.ref o0)] below meth c s₁ [] 0 0 := Stand.of_body Bd
  have e0 : s₁.heap = h0 := by rw [← hh, Bd.state]; rfl
  have N0 := Fr.nil n0
  have pre0 : ∀ t, Steps p.tables e below (s₁.setTop (mkF m 0 #[.val (.ref o0)] [])) t → Steps p.tables e below (s₁.setTop (entryFrame m #[(.ref o0)] 1)) t := fun t k => castTop (efa_jdk_18_method_1_code_v m o0) k
  obtain ⟨T1, X1, e1, st1⟩ := initO X0 hx hZ hown (wd131 hw) (wd18 hw) (wd19 hw) e0 (g := (mkF m 1 #[.val (.ref o0)] [(.ref o0)])) rfl (by rw [hml]; rfl) rfl (hb hby dd_jdk_18_method_1_code_1) (by decide) (W := 0) (by show 2 * 0 + _ ≤ _; exact Nat.le_of_eq rfl) (by decide)
  obtain ⟨lfs, lhr, lhrun, lhended, lhW, lhsame⟩ := X1.leave (v := none) (fun _ => rfl)
  refine ⟨_, _, pre0 _ ?_, lhrun, lhended, _, _, rfl, ?_, ⟨_, rfl⟩, lhW, lhsame.mono (by decide) (by decide)⟩
  · skip
    show Steps p.tables e below (s₁.setTop (mkF m 0 #[.val (.ref o0)] [])) _
    refine XS.aloadN X0.here hx rfl (hb hby dd_jdk_18_method_1_code_0) rfl rfl ?_
    show Steps p.tables e below (s₁.setTop (mkF m 1 #[.val (.ref o0)] [(.ref o0)])) _
    refine st1 _ ?_
    show Steps p.tables e below (T1.setTop (mkF m 4 #[.val (.ref o0)] [])) _
    exact X1.returnOut hx Bd.returns (hb hby dd_jdk_18_method_1_code_4) lhr
  · skip
    show QA37 Z o0 h0 n0 _ T1.heap _
    rw [e1]
    exact ⟨rfl, N0, rfl⟩
theorem pd___V : parseMethodDescriptor "()V" = some ⟨[], none⟩ := by decide +kernel
theorem dd_jdk_33_method_23_code_4 : decode jdk_33_method_23_code 4 = .ok (.aload_n 0, 1) := by decide +kernel
theorem dd_jdk_33_method_23_code_5 : decode jdk_33_method_23_code 5 = .ok (.iload_n 1, 1) := by decide +kernel
theorem dd_jdk_33_method_23_code_6 : decode jdk_33_method_23_code 6 = .ok (.putfield 205, 3) := by decide +kernel
theorem dd_jdk_33_method_23_code_9 : decode jdk_33_method_23_code 9 = .ok (.return_, 1) := by decide +kernel
def QA36 (Z : State) (o0 : Addr) (x1 : Int32) (h0 : Heap) (n0 : Nat) (v : Option Value) (h : Heap) (L : List Loc) : Prop := v = none ∧ Fr n0 L ∧ Keep h0 h [o0] ∧ Exa Z h o0 "java/lang/Integer" ∧ Fld Z h o0 "java/lang/Integer" "value" "I" (.int x1)
set_option maxRecDepth 65536 in
set_option maxHeartbeats 40000000 in
theorem rmA36 (l : Launch) (Z : State) (a0 : Array Value) (hw : ∀ d ∈ tables_1, d.before a0 Z = true) (ws : List Jvm.Cond) (o0 : Addr) (x1 : Int32) (h0 : Heap) (n0 : Nat) (Z0 : n0 ≤ h0.size) (E_o0 : Exa Z h0 o0 "java/lang/Integer") (F_o0_value : Fld Z h0 o0 "java/lang/Integer" "value" "I" (.int (0 : Int32))) (g_o0 : n0 ≤ o0) :
    MetFree l (⟨"java/lang/Integer", "<init>", "(I)V"⟩ : MethodName) (head1 (Jvm.Cond.code (⟨"java/lang/Integer", "<init>", "(I)V"⟩ : MethodName) jdk_33_method_23_code 2 none :: ws) ({ frames := 2, cells := 0, slots := 0, locals := 24 } : Room)) (fun a U => a = #[(.ref o0), (.int x1)] ∧ Z.Warmed39 U.vm ∧ U.heap = h0) (fun _ _ _ _ _ => True) (fun _ U oc_ U' => ∃ v L, oc_ = .returned v ∧ QA36 Z o0 x1 h0 n0 v U'.heap L ∧ FrameEnd U oc_ U' L ({ frames := 2, cells := 0, slots := 0, locals := 24 } : Room).cells ({ frames := 2, cells := 0, slots := 0, locals := 24 } : Room).slots) := by
  refine MetFree.of_bodySF (plainFor_of_name pn_java_lang_Integer) hisR ?_
  intro p e s m args below meth c s₁ Bd hml0 hP hK
  obtain ⟨rfl, hZ, hh⟩ := hP
  have hx := Bd.exec
  have hby := Bd.bytes
  have hml : c.maxLocals = 2 := hml0
  have hown : s.vm.findClass "java/lang/Integer" = some m.cls := findClass_of_methodNamed Bd.named
  have hnm := (name_of_methodNamed Bd.named Bd.method).1
  have X0 : Stand p l e ({ frames := 2, cells := 0, slots := 0, locals := 24 } : Room) s m #[(.ref o0), (.int x1)] below meth c s₁ [] 0 0 := Stand.of_body Bd
  have e0 : s₁.heap = h0 := by rw [← hh, Bd.state]; rfl
  have N0 := Fr.nil n0
  have pre0 : ∀ t, Steps p.tables e below (s₁.setTop (mkF m 0 #[.val (.ref o0), .val (.int x1)] [])) t → Steps p.tables e below (s₁.setTop (entryFrame m #[(.ref o0), (.int x1)] 2)) t := fun t k => castTop (efa_jdk_33_method_23_code_vv m o0 x1) k
  obtain ⟨_, _, ⟨T1, L1, kc1, ks1⟩, -, X1, ⟨Lc1, hQ1, l1, y1, z1⟩, st1⟩ := X0.specialBack hx (y := (⟨"java/lang/Number", "<init>", "()V"⟩ : MethodName)) rfl hown (mvT hZ (wd125 hw)) (mvT hZ (wd126 hw)) (mvT hZ (wd130 hw)) (by decide) (backOf (W := 0) (rmA37 l Z a0 hw [] o0 h0 n0 Z0 ) hZ (wd130 hw) (wd129 hw) (by decide) (by decide)) (g := (mkF m 1 #[.val (.ref o0), .val (.int x1)] [(.ref o0)])) rfl (by rw [hml]; rfl) (Steps.refl _) (a := o0) (argsL := []) (rest := []) (lenOf pd___V rfl) rfl (by show 2 * 0 + _ ≤ _; exact Nat.le_of_eq rfl) (hb hby dd_jdk_33_method_23_code_1) (fun _ _ => ⟨rfl, e0, (by decide : 0 + 0 ≤ _), (by decide : 0 + 0 ≤ _)⟩)
  dsimp only [Pt.U, Pt.locs, Pt.cells, Pt.slots] at X1 l1 y1 z1 st1 hQ1
  subst l1 y1 z1
  obtain ⟨rfl, Nq1, eq1⟩ := hQ1
  have N1 := Fr.app N0 Nq1
  obtain ⟨T2, h2, X2, e2, W2, st2⟩ := putF X1 hx hZ hown (host := "") (Or.inl (wd117 hw)) Via.refl eq1 F_o0_value E_o0 (Or.inr ⟨(wd118 hw), rfl, hnm⟩) (wd120 hw) (ty := .int) (by decide) rfl rfl (g := (mkF m 6 #[.val (.ref o0), .val (.int x1)] [(.int x1), (.ref o0)])) rfl rfl (hb hby dd_jdk_33_method_23_code_6)
  have N2 := Fr.snoc X2 N1 g_o0
  have Z2 : n0 ≤ h2.size := by rw [W2.size]; exact Z0
  have K2 : Keep h0 h2 [o0] := ((Keep.refl h0 [o0]).wr W2 (Or.inl (List.mem_of_getElem? (i := 0) rfl)))
  have Fw2 := F_o0_value.same W2
  have f3 := (E_o0.wr W2)
  obtain ⟨lfs, lhr, lhrun, lhended, lhW, lhsame⟩ := X2.leave (v := none) (fun _ => rfl)
  refine ⟨_, _, pre0 _ ?_, lhrun, lhended, _, _, rfl, ?_, ⟨_, rfl⟩, lhW, lhsame.mono (by decide) (by decide)⟩
  · skip
    show Steps p.tables e below (s₁.setTop (mkF m 0 #[.val (.ref o0), .val (.int x1)] [])) _
    refine XS.aloadN X0.here hx rfl (hb hby dd_jdk_33_method_23_code_0) rfl rfl ?_
    show Steps p.tables e below (s₁.setTop (mkF m 1 #[.val (.ref o0), .val (.int x1)] [(.ref o0)])) _
    refine st1.trans ?_
    show Steps p.tables e below (T1.setTop (mkF m 4 #[.val (.ref o0), .val (.int x1)] [])) _
    refine XS.aloadN X1.here hx rfl (hb hby dd_jdk_33_method_23_code_4) rfl rfl ?_
    show Steps p.tables e below (T1.setTop (mkF m 5 #[.val (.ref o0), .val (.int x1)] [(.ref o0)])) _
    refine XS.iloadN X1.here hx rfl (hb hby dd_jdk_33_method_23_code_5) rfl ?_
    show Steps p.tables e below (T1.setTop (mkF m 6 #[.val (.ref o0), .val (.int x1)] [(.int x1), (.ref o0)])) _
    refine st2 _ ?_
    show Steps p.tables e below (T2.setTop (mkF m 9 #[.val (.ref o0), .val (.int x1)] [])) _
    exact X2.returnOut hx Bd.returns (hb hby dd_jdk_33_method_23_code_9) lhr
  · skip
    show QA36 Z o0 x1 h0 n0 _ T2.heap _
    rw [e2]
    exact ⟨rfl, N2, K2, f3, Fw2⟩
theorem pd__I_V : parseMethodDescriptor "(I)V" = some ⟨[.int], none⟩ := by decide +kernel
theorem dd_jdk_33_method_22_code_31 : decode jdk_33_method_22_code 31 = .ok (.areturn, 1) := by decide +kernel
def QA35 (Z : State) (x0 : Int32) (h0 : Heap) (n0 : Nat) (v : Option Value) (h : Heap) (L : List Loc) : Prop := ∃ (b2 : Addr), v = some (.ref b2) ∧ Fr n0 L ∧ Keep h0 h [] ∧ h0.size ≤ b2 ∧ Exa Z h b2 "java/lang/Integer" ∧ Fld Z h b2 "java/lang/Integer" "value" "I" (.int x0)
set_option maxRecDepth 65536 in
set_option maxHeartbeats 40000000 in
theorem rmA35 (l : Launch) (Z : State) (a0 : Array Value) (hw : ∀ d ∈ tables_1, d.before a0 Z = true) (ws : List Jvm.Cond) (x0 : Int32) (h0 : Heap) (n0 : Nat) (Z0 : n0 ≤ h0.size) (hq0 : ¬ (x0 < (-128 : Int32))) (S_high : Sta Z h0 "java/lang/Integer$IntegerCache" "high" "I" (.int (127 : Int32))) (hq2 : (127 : Int32) < x0) :
    MetFree l (⟨"java/lang/Integer", "valueOf", "(I)Ljava/lang/Integer;"⟩ : MethodName) (head1 (Jvm.Cond.code (⟨"java/lang/Integer", "valueOf", "(I)Ljava/lang/Integer;"⟩ : MethodName) jdk_33_method_22_code 1 (some (.object "java/lang/Integer")) :: ws) ({ frames := 3, cells := 1, slots := 1, locals := 38 } : Room)) (fun a U => a = #[(.int x0)] ∧ Z.Warmed39 U.vm ∧ U.heap = h0) (fun _ _ _ _ _ => True) (fun _ U oc_ U' => ∃ v L, oc_ = .returned v ∧ QA35 Z x0 h0 n0 v U'.heap L ∧ FrameEnd U oc_ U' L ({ frames := 3, cells := 1, slots := 1, locals := 38 } : Room).cells ({ frames := 3, cells := 1, slots := 1, locals := 38 } : Room).slots) := by
  refine MetFree.of_bodySF (plainFor_of_name pn_java_lang_Integer) hisR ?_
  intro p e s m args below meth c s₁ Bd hml0 hP hK
  obtain ⟨rfl, hZ, hh⟩ := hP
  have hx := Bd.exec
  have hby := Bd.bytes
  have hml : c.maxLocals = 1 := hml0
  have hown : s.vm.findClass "java/lang/Integer" = some m.cls := findClass_of_methodNamed Bd.named
  have hnm := (name_of_methodNamed Bd.named Bd.method).1
  have X0 : Stand p l e ({ frames := 3, cells := 1, slots := 1, locals := 38 } : Room) s m #[(.int x0)] below meth c s₁ [] 0 0 := Stand.of_body Bd
  have e0 : s₁.heap = h0 := by rw [← hh, Bd.state]; rfl
  have N0 := Fr.nil n0
  have pre0 : ∀ t, Steps p.tables e below (s₁.setTop (mkF m 0 #[.val (.int x0)] [])) t → Steps p.tables e below (s₁.setTop (entryFrame m #[(.int x0)] 1)) t := fun t k => castTop (efa_jdk_33_method_22_code_v m x0) k
  obtain ⟨T1, X1, e1, st1⟩ := getS2 X0 hx hZ hown (host := "") (Or.inl (wd109 hw)) Via.refl e0 S_high (g := (mkF m 7 #[.val (.int x0)] [(.int x0)])) rfl (hb hby dd_jdk_33_method_22_code_7)
  obtain ⟨T2, h2, X2, e2, E2, A2, D2, -, st2⟩ := newO X1 hx hZ hown (wd119 hw) (wd120 hw) (wd107 hw) e1 (g := (mkF m 23 #[.val (.int x0)] [])) rfl (hb hby dd_jdk_33_method_22_code_23) (by decide) (by decide)
  obtain ⟨b2, g2⟩ : ∃ z, z = h0.size := ⟨_, rfl⟩
  rw [← g2] at A2 D2 st2
  have ge_b2 : n0 ≤ b2 := Nat.le_trans Z0 (Nat.le_of_eq g2.symm)
  have sz_b2 : h0.size ≤ b2 := Nat.le_trans (Nat.le_refl _) (Nat.le_of_eq g2.symm)
  have Z2 : n0 ≤ h2.size := Nat.le_trans Z0 E2.1
  have K2 : Keep h0 h2 [] := ((Keep.refl h0 []).ext E2)
  have F2_value : Fld Z h2 b2 "java/lang/Integer" "value" "I" (.int (0 : Int32)) := D2 (Or.inr (wd118 hw)) (ty := .int) (by decide)
  obtain ⟨_, _, ⟨T3, L3, kc3, ks3⟩, -, X3, ⟨Lc3, hQ3, l3, y3, z3⟩, st3⟩ := X2.specialBack hx (y := (⟨"java/lang/Integer", "<init>", "(I)V"⟩ : MethodName)) rfl hown (mvT hZ (wd121 hw)) (mvT hZ (wd122 hw)) (mvT hZ (wd124 hw)) (by decide) (backOf (W := 1) (rmA36 l Z a0 hw [] b2 x0 h2 n0 Z2 A2 F2_value ge_b2) hZ (wd124 hw) (wd107 hw) (by decide) (by decide)) (g := (mkF m 28 #[.val (.int x0)] [(.int x0), (.ref b2), (.ref b2)])) rfl (by rw [hml]; rfl) (Steps.refl _) (a := b2) (argsL := [(.int x0)]) (rest := [(.ref b2)]) (lenOf pd__I_V rfl) rfl (by show 2 * 0 + _ ≤ _; exact Nat.le_of_eq rfl) (hb hby dd_jdk_33_method_22_code_28) (fun _ _ => ⟨rfl, e2, (by decide : 1 + 0 ≤ _), (by decide : 1 + 0 ≤ _)⟩)
  dsimp only [Pt.U, Pt.locs, Pt.cells, Pt.slots] at X3 l3 y3 z3 st3 hQ3
  subst l3 y3 z3
  obtain ⟨rfl, Nq3, Kq3, g3_0, g3_1⟩ := hQ3
  have N3 := Fr.app N0 Nq3
  have Z3 : n0 ≤ T3.heap.size := Nat.le_trans Z2 Kq3.1
  have K3 : Keep h0 T3.heap [] := Keep.trans K2 Kq3 (allS (Or.inr sz_b2) all0)
  obtain ⟨lfs, lhr, lhrun, lhended, lhW, lhsame⟩ := X3.leave (v := some (.ref b2)) (fun h => by rw [Bd.returns] at h; cases h)
  refine ⟨_, _, pre0 _ ?_, lhrun, lhended, _, _, rfl, ?_, ⟨_, rfl⟩, lhW, lhsame.mono (by decide) (by decide)⟩
  · skip
    show Steps p.tables e below (s₁.setTop (mkF m 0 #[.val (.int x0)] [])) _
    refine XS.iloadN X0.here hx rfl (hb hby dd_jdk_33_method_22_code_0) rfl ?_
    show Steps p.tables e below (s₁.setTop (mkF m 1 #[.val (.int x0)] [(.int x0)])) _
    refine XS.bipush X0.here hx rfl (hb hby dd_jdk_33_method_22_code_1) ?_
    show Steps p.tables e below (s₁.setTop (mkF m 3 #[.val (.int x0)] [(.int (-128 : Int32)), (.int x0)])) _
    refine XS.icmpNo X0.here hx rfl (hb hby dd_jdk_33_method_22_code_3) rfl (flt hq0).1 ?_
    show Steps p.tables e below (s₁.setTop (mkF m 6 #[.val (.int x0)] [])) _
    refine XS.iloadN X0.here hx rfl (hb hby dd_jdk_33_method_22_code_6) rfl ?_
    show Steps p.tables e below (s₁.setTop (mkF m 7 #[.val (.int x0)] [(.int x0)])) _
    refine st1 _ ?_
    show Steps p.tables e below (T1.setTop (mkF m 10 #[.val (.int x0)] [(.int (127 : Int32)), (.int x0)])) _
    refine XS.icmpYes X1.here hx rfl (pc0 := 10) (pc' := 23) rfl (hb hby dd_jdk_33_method_22_code_10) rfl (tlt hq2).2.2.1 (by decide) (by decide) ?_
    show Steps p.tables e below (T1.setTop (mkF m 23 #[.val (.int x0)] [])) _
    refine st2 _ ?_
    show Steps p.tables e below (T2.setTop (mkF m 26 #[.val (.int x0)] [(.ref b2)])) _
    refine XS.dup X2.here hx rfl (hb hby dd_jdk_33_method_22_code_26) rfl rfl ?_
    show Steps p.tables e below (T2.setTop (mkF m 27 #[.val (.int x0)] [(.ref b2), (.ref b2)])) _
    refine XS.iloadN X2.here hx rfl (hb hby dd_jdk_33_method_22_code_27) rfl ?_
    show Steps p.tables e below (T2.setTop (mkF m 28 #[.val (.int x0)] [(.int x0), (.ref b2), (.ref b2)])) _
    refine st3.trans ?_
    show Steps p.tables e below (T3.setTop (mkF m 31 #[.val (.int x0)] [(.ref b2)])) _
    exact retOut X3 hx Bd.returns rfl (Or.inr (Or.inr (Or.inr (Or.inr ⟨rfl, rfl, rfl⟩)))) (hb hby dd_jdk_33_method_22_code_31) lhr
  · skip
    show QA35 Z x0 h0 n0 _ T3.heap _
    skip
    exact ⟨b2, rfl, N3, K3, sz_b2, g3_0, g3_1⟩
theorem pd__I_Ljava_lang_Integer_ : parseMethodDescriptor "(I)Ljava/lang/Integer;" = some ⟨[.int], some (.object "java/lang/Integer")⟩ := by decide +kernel
theorem dd_prog_13_method_3_code_26 : decode prog_13_method_3_code 26 = .ok (.putfield 79, 3) := by decide +kernel
theorem dd_prog_13_method_3_code_29 : decode prog_13_method_3_code 29 = .ok (.aload_n 0, 1) := by decide +kernel
theorem dd_prog_13_method_3_code_30 : decode prog_13_method_3_code 30 = .ok (.areturn, 1) := by decide +kernel
def QA33 (Z : State) (o0 : Addr) (x1 : Int32) (u100 : Value) (u101 : Value) (u102 : Value) (u103 : Value) (h0 : Heap) (n0 : Nat) (v : Option Value) (h : Heap) (L : List Loc) : Prop := ∃ (b6_0 : Addr), v = some (.ref o0) ∧ Fr n0 L ∧ Keep h0 h [o0] ∧ h0.size ≤ b6_0 ∧ Fld Z h o0 "com/example/aloq/aloq/engine/NewTask" "runAt" "Ljava/time/Instant;" .null ∧ Exa Z h b6_0 "java/lang/Integer" ∧ Fld Z h b6_0 "java/lang/Integer" "value" "I" (.int x1) ∧ Exa Z h o0 "com/example/aloq/aloq/engine/NewTask" ∧ Fld Z h o0 "com/example/aloq/aloq/engine/NewTask" "delaySeconds" "Ljava/lang/Integer;" (.ref b6_0) ∧ Fld Z h o0 "com/example/aloq/aloq/engine/NewTask" "maxAttempts" "I" u100 ∧ Fld Z h o0 "com/example/aloq/aloq/engine/NewTask" "retryBackoffSeconds" "I" u101 ∧ Fld Z h o0 "com/example/aloq/aloq/engine/NewTask" "queue" "Ljava/lang/String;" u102 ∧ Fld Z h o0 "com/example/aloq/aloq/engine/NewTask" "payload" "Ljava/lang/String;" u103
set_option maxRecDepth 65536 in
set_option maxHeartbeats 40000000 in
theorem rmA33 (l : Launch) (Z : State) (a0 : Array Value) (hw : ∀ d ∈ tables_1, d.before a0 Z = true) (ws : List Jvm.Cond) (o0 : Addr) (x1 : Int32) (u100 : Value) (u101 : Value) (u102 : Value) (u103 : Value) (h0 : Heap) (n0 : Nat) (Z0 : n0 ≤ h0.size) (hq0 : ¬ (x1 < (0 : Int32))) (hq1 : ¬ ((31536000 : Int32) < x1)) (F_o0_runAt : Fld Z h0 o0 "com/example/aloq/aloq/engine/NewTask" "runAt" "Ljava/time/Instant;" .null) (hq3 : (127 : Int32) < x1) (hq4 : ¬ (x1 < (-128 : Int32))) (S_high : Sta Z h0 "java/lang/Integer$IntegerCache" "high" "I" (.int (127 : Int32))) (E_o0 : Exa Z h0 o0 "com/example/aloq/aloq/engine/NewTask") (F_o0_delaySeconds : Fld Z h0 o0 "com/example/aloq/aloq/engine/NewTask" "delaySeconds" "Ljava/lang/Integer;" .null) (g_o0 : n0 ≤ o0) (F_o0_maxAttempts : Fld Z h0 o0 "com/example/aloq/aloq/engine/NewTask" "maxAttempts" "I" u100) (F_o0_retryBackoffSeconds : Fld Z h0 o0 "com/example/aloq/aloq/engine/NewTask" "retryBackoffSeconds" "I" u101) (F_o0_queue : Fld Z h0 o0 "com/example/aloq/aloq/engine/NewTask" "queue" "Ljava/lang/String;" u102) (F_o0_payload : Fld Z h0 o0 "com/example/aloq/aloq/engine/NewTask" "payload" "Ljava/lang/String;" u103) :
    MetFree l (⟨"com/example/aloq/aloq/engine/NewTask", "delaySeconds", "(I)Lcom/example/aloq/aloq/engine/NewTask;"⟩ : MethodName) (head1 (Jvm.Cond.code (⟨"com/example/aloq/aloq/engine/NewTask", "delaySeconds", "(I)Lcom/example/aloq/aloq/engine/NewTask;"⟩ : MethodName) prog_13_method_3_code 3 (some (.object "com/example/aloq/aloq/engine/NewTask")) :: ws) ({ frames := 4, cells := 3, slots := 57, locals := 51 } : Room)) (fun a U => a = #[(.ref o0), (.int x1)] ∧ Z.Warmed39 U.vm ∧ U.heap = h0 ∧ CHv Z own_EL U.vm h0 ∧ ∀ x ∈ ([] : List Addr), Safe Z own_EL U.vm h0 x) (fun _ _ _ _ _ => True) (fun _ U oc_ U' => ∃ v L, oc_ = .returned v ∧ QA33 Z o0 x1 u100 u101 u102 u103 h0 n0 v U'.heap L ∧ CHr Z own_EL U.vm U.heap U'.vm U'.heap ∧ ReturnedEndW U oc_ U' L ({ frames := 4, cells := 3, slots := 57, locals := 51 } : Room).cells ({ frames := 4, cells := 3, slots := 57, locals := 51 } : Room).slots) := by
  refine MetFree.of_bodySF (plainFor_of_name pn_com_example_aloq_aloq_engine_NewTask) hisR ?_
  intro p e s m args below meth c s₁ Bd hml0 hP hK
  obtain ⟨rfl, hZ, hh, hCH, hSS⟩ := hP
  have hx := Bd.exec
  have hby := Bd.bytes
  have hml : c.maxLocals = 3 := hml0
  have hown : s.vm.findClass "com/example/aloq/aloq/engine/NewTask" = some m.cls := findClass_of_methodNamed Bd.named
  have hnm := (name_of_methodNamed Bd.named Bd.method).1
  have X0 : Stand p l e ({ frames := 4, cells := 3, slots := 57, locals := 51 } : Room) s m #[(.ref o0), (.int x1)] below meth c s₁ [] 0 0 := Stand.of_body Bd
  have e0 : s₁.heap = h0 := by rw [← hh, Bd.state]; rfl
  have N0 := Fr.nil n0
  have pre0 : ∀ t, Steps p.tables e below (s₁.setTop (mkF m 0 #[.val (.ref o0), .val (.int x1), .unset] [])) t → Steps p.tables e below (s₁.setTop (entryFrame m #[(.ref o0), (.int x1)] 3)) t := fun t k => castTop (efa_prog_13_method_3_code_vv m o0 x1) k
  have X0 : Stand p l e ({ frames := 4, cells := 3, slots := 57, locals := 51 } : Room) (s.setVm s.vm) m #[(.ref o0), (.int x1)] below meth c s₁ [] 0 0 := X0
  have hS0 : s.Since s.vm 0 := own_since0 s
  have hk0 : 0 ≤ h0.size := Nat.zero_le _
  have CR0 : CHr Z own_EL s.vm h0 s.vm h0 := CHr.refl hCH
  have hEL := own_EW a0 Z hw
  have wS : ∀ a ∈ Bundle.stringAtoms, a.before a0 Z = true := fun d hd => hw d ((by decide +kernel : ∀ d ∈ Bundle.stringAtoms, d ∈ tables_1) d hd)
  obtain ⟨a1, T1, h1, kk1, t1, kb1, X1, e1, E1, hS1, hk1, hZ1, hown1, gE1, gC1, gV1, gK1, la1, lt1, CS1, LL1, sne1, st1⟩ := ldcCH (s := s) (vm0 := s.vm) (EL := own_EL) X0 hx hZ hown (wd101 hw) wS e0 hS0 hk0 hEL (by decide) CR0.1 (vs := [(.int (100 : Int32)), (.int (101 : Int32)), (.int (108 : Int32)), (.int (97 : Int32)), (.int (121 : Int32)), (.int (95 : Int32)), (.int (115 : Int32)), (.int (101 : Int32)), (.int (99 : Int32)), (.int (111 : Int32)), (.int (110 : Int32)), (.int (100 : Int32)), (.int (115 : Int32))]) (z := (13 : Int32)) ⟨by decide +kernel, by first | rfl | decide +kernel⟩ (by decide) (by decide) (g := (mkF m 0 #[.val (.ref o0), .val (.int x1), .unset] [])) rfl (hb hby dd_prog_13_method_3_code_0) (n := 52) (by decide +kernel) (by decide) (by decide) (by decide)
  have CR1 := CR0.trans CS1
  have Z1 : n0 ≤ h1.size := Nat.le_trans Z0 E1.1
  have K1 : Keep h0 h1 [o0] := ((Keep.refl h0 [o0]).ext E1)
  obtain ⟨_, _, ⟨T2, L2, kc2, ks2⟩, -, X2, ⟨Lc2, hQ2, l2, y2, z2⟩, st2⟩ := Jvm.LawKit.callS X1 hx (y := (⟨"com/example/aloq/aloq/engine/Setting", "inRange", "(Ljava/lang/String;III)I"⟩ : MethodName)) hown1 (mvT hZ1 (wd85 hw)) (mvT hZ1 (wd86 hw)) (mvT hZ1 (wd87 hw)) (mvT hZ1 (wd88 hw)) (by decide) (backOf (W := 0) (rmA34 l Z a0 hw [] a1 x1 h1 n0 Z1 hq0 hq1) hZ1 (wd88 hw) (wd87 hw) (by decide) (by decide)) (g := (mkF m 6 #[.val (.ref o0), .val (.int x1), .unset] [(.int (31536000 : Int32)), (.int (0 : Int32)), (.int x1), (.ref a1)])) rfl (by rw [hml]; rfl) (argsL := [(.ref a1), (.int x1), (.int (0 : Int32)), (.int (31536000 : Int32))]) (rest := []) (lenOf pd__Ljava_lang_String_III_I rfl) rfl (by show 2 * 0 + _ ≤ _; exact Nat.le_of_eq rfl) (hb hby dd_prog_13_method_3_code_6) (fun _ _ => ⟨rfl, e1, (by decide : 2 + 0 ≤ _), (by decide : 56 + 0 ≤ _)⟩)
  dsimp only [Pt.U, Pt.locs, Pt.cells, Pt.slots] at X2 l2 y2 z2 st2 hQ2
  subst l2 y2 z2
  obtain ⟨rfl, Nq2, eq2⟩ := hQ2
  have N2 := Fr.app N0 Nq2
  have f3 := (F_o0_runAt.ext E1)
  obtain ⟨T4, X4, e4, st4⟩ := getF X2 hx hZ1 hown1 (host := "") (Or.inl (wd103 hw)) Via.refl eq2 f3 (g := (mkF m 11 #[.val (.ref o0), .val (.int x1), .val (.int x1)] [(.ref o0)])) rfl rfl (hb hby dd_prog_13_method_3_code_11)
  have f5 := (S_high.ext E1)
  obtain ⟨_, _, ⟨T6, L6, kc6, ks6⟩, -, X6, ⟨Lc6, hQ6, l6, y6, z6⟩, st6⟩ := Jvm.LawKit.callS X4 hx (y := (⟨"java/lang/Integer", "valueOf", "(I)Ljava/lang/Integer;"⟩ : MethodName)) hown1 (mvT hZ1 (wd105 hw)) (mvT hZ1 (wd106 hw)) (mvT hZ1 (wd107 hw)) (mvT hZ1 (wd108 hw)) (by decide) (backOf (W := 1) (rmA35 l Z a0 hw [] x1 h1 n0 Z1 hq4 f5 hq3) hZ1 (wd108 hw) (wd107 hw) (by decide) (by decide)) (g := (mkF m 23 #[.val (.ref o0), .val (.int x1), .val (.int x1)] [(.int x1), (.ref o0)])) rfl (by rw [hml]; rfl) (argsL := [(.int x1)]) (rest := [(.ref o0)]) (lenOf pd__I_Ljava_lang_Integer_ rfl) rfl (by show 2 * 0 + _ ≤ _; exact Nat.le_of_eq rfl) (hb hby dd_prog_13_method_3_code_23) (fun _ _ => ⟨rfl, e4, (by decide : 2 + 1 ≤ _), (by decide : 56 + 1 ≤ _)⟩)
  dsimp only [Pt.U, Pt.locs, Pt.cells, Pt.slots] at X6 l6 y6 z6 st6 hQ6
  subst l6 y6 z6
  obtain ⟨b6_0, rfl, Nq6, Kq6, sz6_0, g6_0, g6_1⟩ := hQ6
  have N6 := Fr.app N2 Nq6
  have CS6 := CHr.keep Kq6 all0 CR1.1
  have CR6 := CR1.trans CS6
  have hk6 : _ ≤ T6.heap.size := Nat.le_trans hk1 Kq6.1
  have Z6 : n0 ≤ T6.heap.size := Nat.le_trans Z1 Kq6.1
  have K6 : Keep h0 T6.heap [o0] := Keep.trans K1 Kq6 all0
  have ne_a1_b6_0 : a1 ≠ b6_0 := Nat.ne_of_lt (Nat.lt_of_lt_of_le gE1.lt sz6_0)
  have ne_t1_b6_0 : t1 ≠ b6_0 := Nat.ne_of_lt (Nat.lt_of_lt_of_le gK1.lt sz6_0)
  have ne_o0_b6_0 : o0 ≠ b6_0 := Nat.ne_of_lt (Nat.lt_of_lt_of_le f3.lt sz6_0)
  have ge_b6_0 : n0 ≤ b6_0 := Nat.le_trans Z1 sz6_0
  have sz_b6_0 : h0.size ≤ b6_0 := Nat.le_trans K1.1 sz6_0
  have f7 := ((E_o0.ext E1).keep Kq6)
  have f8 := ((F_o0_delaySeconds.ext E1).keep Kq6 nin0)
  obtain ⟨T9, h9, X9, e9, W9, st9⟩ := putF X6 hx hZ1 hown1 (host := "") (Or.inl (wd94 hw)) Via.refl rfl f8 f7 (Or.inl (wd95 hw)) (wd3 hw) (ty := (.object "java/lang/Integer")) (by decide) rfl rfl (g := (mkF m 26 #[.val (.ref o0), .val (.int x1), .val (.int x1)] [(.ref b6_0), (.ref o0)])) rfl rfl (hb hby dd_prog_13_method_3_code_26)
  have CS9 := CHr.wr W9 (Safe.exa hZ1.alike f7 (by decide) (by decide)) CR6.1
  have CR9 := CR6.trans CS9
  have hk9 : _ ≤ h9.size := Nat.le_trans hk6 (Nat.le_of_eq W9.size.symm)
  have N9 := Fr.snoc X9 N6 g_o0
  have Z9 : n0 ≤ h9.size := by rw [W9.size]; exact Z6
  have K9 : Keep h0 h9 [o0] := (K6.wr W9 (Or.inl (List.mem_of_getElem? (i := 0) rfl)))
  have Fw9 := f8.same W9
  have f10 := ((f3.keep Kq6 nin0).other W9 (Or.inr (slot_ne (Or.inl (wd104 hw)) (Or.inl (wd95 hw)) (by decide) (t := (.object "java/time/Instant")) (t' := (.object "java/lang/Integer")) (by decide) (by decide))))
  have f11 := (g6_0.wr W9)
  have f12 := (g6_1.other W9 (Or.inl (Ne.symm ne_o0_b6_0)))
  have f13 := (f7.wr W9)
  have f14 := (((F_o0_maxAttempts.ext E1).keep Kq6 nin0).other W9 (Or.inr (slot_ne (Or.inl (wd21 hw)) (Or.inl (wd95 hw)) (by decide) (t := .int) (t' := (.object "java/lang/Integer")) (by decide) (by decide))))
  have f15 := (((F_o0_retryBackoffSeconds.ext E1).keep Kq6 nin0).other W9 (Or.inr (slot_ne (Or.inl (wd23 hw)) (Or.inl (wd95 hw)) (by decide) (t := .int) (t' := (.object "java/lang/Integer")) (by decide) (by decide))))
  have f16 := (((F_o0_queue.ext E1).keep Kq6 nin0).other W9 (Or.inr (slot_ne (Or.inr (wd69 hw)) (Or.inl (wd95 hw)) (by decide) (t := (.object "java/lang/String")) (t' := (.object "java/lang/Integer")) (by decide) (by decide))))
  have f17 := (((F_o0_payload.ext E1).keep Kq6 nin0).other W9 (Or.inr (slot_ne (Or.inr (wd78 hw)) (Or.inl (wd95 hw)) (by decide) (t := (.object "java/lang/String")) (t' := (.object "java/lang/Integer")) (by decide) (by decide))))
  obtain ⟨lfs, lhr, lhrun, lhended, lhE⟩ := X9.leaveW hS1 (by rw [e9]; exact hk9) (v := some (.ref o0)) (fun h => by rw [Bd.returns] at h; cases h)
  refine ⟨_, _, pre0 _ ?_, lhrun, lhended, _, _, rfl, ?_, ?_, lhE.1, lhE.2.1, lhE.2.2.1, lhE.2.2.2.mono (by decide) (by decide)⟩
  · skip
    show Steps p.tables e below (s₁.setTop (mkF m 0 #[.val (.ref o0), .val (.int x1), .unset] [])) _
    refine st1 _ ?_
    show Steps p.tables e below (T1.setTop (mkF m 2 #[.val (.ref o0), .val (.int x1), .unset] [(.ref a1)])) _
    refine XS.iloadN X1.here hx rfl (hb hby dd_prog_13_method_3_code_2) rfl ?_
    show Steps p.tables e below (T1.setTop (mkF m 3 #[.val (.ref o0), .val (.int x1), .unset] [(.int x1), (.ref a1)])) _
    refine XS.iconst X1.here hx rfl (hb hby dd_prog_13_method_3_code_3) ?_
    show Steps p.tables e below (T1.setTop (mkF m 4 #[.val (.ref o0), .val (.int x1), .unset] [(.int (0 : Int32)), (.int x1), (.ref a1)])) _
    refine X1.ldcInt hx hown1 (mvT hZ1 (wd102 hw)) (g := (mkF m 4 #[.val (.ref o0), .val (.int x1), .unset] [(.int (0 : Int32)), (.int x1), (.ref a1)])) rfl (hb hby dd_prog_13_method_3_code_4) _ ?_
    show Steps p.tables e below (T1.setTop (mkF m 6 #[.val (.ref o0), .val (.int x1), .unset] [(.int (31536000 : Int32)), (.int (0 : Int32)), (.int x1), (.ref a1)])) _
    refine st2 _ ?_
    show Steps p.tables e below (T2.setTop (mkF m 9 #[.val (.ref o0), .val (.int x1), .unset] [(.int x1)])) _
    refine XS.istoreN X2.here hx rfl (hb hby dd_prog_13_method_3_code_9) rfl (l' := #[.val (.ref o0), .val (.int x1), .val (.int x1)]) rfl ?_
    show Steps p.tables e below (T2.setTop (mkF m 10 #[.val (.ref o0), .val (.int x1), .val (.int x1)] [])) _
    refine XS.aloadN X2.here hx rfl (hb hby dd_prog_13_method_3_code_10) rfl rfl ?_
    show Steps p.tables e below (T2.setTop (mkF m 11 #[.val (.ref o0), .val (.int x1), .val (.int x1)] [(.ref o0)])) _
    refine st4 _ ?_
    show Steps p.tables e below (T4.setTop (mkF m 14 #[.val (.ref o0), .val (.int x1), .val (.int x1)] [.null])) _
    refine XS.ifnullYes X4.here hx rfl (pc0 := 14) (pc' := 21) rfl (hb hby dd_prog_13_method_3_code_14) rfl (by decide) (by decide) ?_
    show Steps p.tables e below (T4.setTop (mkF m 21 #[.val (.ref o0), .val (.int x1), .val (.int x1)] [])) _
    refine XS.aloadN X4.here hx rfl (hb hby dd_prog_13_method_3_code_21) rfl rfl ?_
    show Steps p.tables e below (T4.setTop (mkF m 22 #[.val (.ref o0), .val (.int x1), .val (.int x1)] [(.ref o0)])) _
    refine XS.iloadN X4.here hx rfl (hb hby dd_prog_13_method_3_code_22) rfl ?_
    show Steps p.tables e below (T4.setTop (mkF m 23 #[.val (.ref o0), .val (.int x1), .val (.int x1)] [(.int x1), (.ref o0)])) _
    refine st6 _ ?_
    show Steps p.tables e below (T6.setTop (mkF m 26 #[.val (.ref o0), .val (.int x1), .val (.int x1)] [(.ref b6_0), (.ref o0)])) _
    refine st9 _ ?_
    show Steps p.tables e below (T9.setTop (mkF m 29 #[.val (.ref o0), .val (.int x1), .val (.int x1)] [])) _
    refine XS.aloadN X9.here hx rfl (hb hby dd_prog_13_method_3_code_29) rfl rfl ?_
    show Steps p.tables e below (T9.setTop (mkF m 30 #[.val (.ref o0), .val (.int x1), .val (.int x1)] [(.ref o0)])) _
    exact retOut X9 hx Bd.returns rfl (Or.inr (Or.inr (Or.inr (Or.inr ⟨rfl, rfl, rfl⟩)))) (hb hby dd_prog_13_method_3_code_30) lhr
  · skip
    show QA33 Z o0 x1 u100 u101 u102 u103 h0 n0 _ T9.heap _
    rw [e9]
    exact ⟨b6_0, rfl, N9, K9, sz_b6_0, f10, f11, f12, f13, Fw9, f14, f15, f16, f17⟩
  · skip
    show CHr Z own_EL s.vm s.heap T9.vm T9.heap
    rw [hh]
    rw [e9]
    exact CR9.trans (CHv.at X9 hZ1 hEL CR9.1)
theorem dd_prog_13_method_11_code_11 : decode prog_13_method_11_code 11 = .ok (.aload_n 0, 1) := by decide +kernel
theorem dd_prog_13_method_11_code_12 : decode prog_13_method_11_code 12 = .ok (.getfield 79, 3) := by decide +kernel
theorem dd_prog_13_method_11_code_15 : decode prog_13_method_11_code 15 = .ok (.invokevirtual 121, 3) := by decide +kernel
theorem efa_jdk_33_method_27_code_v (m : MethodId) (x0 : Addr) : entryFrame m #[(.ref x0)] 1 = mkF m 0 #[.val (.ref x0)] [] := by first | (simp [entryFrame, mkF, argsToLocals, Value.category]; done) | rfl
theorem dd_jdk_33_method_27_code_0 : decode jdk_33_method_27_code 0 = .ok (.aload_n 0, 1) := by decide +kernel
theorem dd_jdk_33_method_27_code_1 : decode jdk_33_method_27_code 1 = .ok (.getfield 205, 3) := by decide +kernel
theorem dd_jdk_33_method_27_code_4 : decode jdk_33_method_27_code 4 = .ok (.ireturn, 1) := by decide +kernel
def QA39 (Z : State) (o0 : Addr) (x1 : Int32) (h0 : Heap) (n0 : Nat) (v : Option Value) (h : Heap) (L : List Loc) : Prop := v = some (.int x1) ∧ Fr n0 L ∧ h = h0
set_option maxRecDepth 65536 in
set_option maxHeartbeats 40000000 in
theorem rmA39 (l : Launch) (Z : State) (a0 : Array Value) (hw : ∀ d ∈ tables_1, d.before a0 Z = true) (ws : List Jvm.Cond) (o0 : Addr) (x1 : Int32) (h0 : Heap) (n0 : Nat) (Z0 : n0 ≤ h0.size) (F_o0_value : Fld Z h0 o0 "java/lang/Integer" "value" "I" (.int x1)) :
    MetFree l (⟨"java/lang/Integer", "intValue", "()I"⟩ : MethodName) (head1 (Jvm.Cond.code (⟨"java/lang/Integer", "intValue", "()I"⟩ : MethodName) jdk_33_method_27_code 1 (some .int) :: ws) ({ frames := 0, cells := 0, slots := 0, locals := 0 } : Room)) (fun a U => a = #[(.ref o0)] ∧ Z.Warmed39 U.vm ∧ U.heap = h0) (fun _ _ _ _ _ => True) (fun _ U oc_ U' => ∃ v L, oc_ = .returned v ∧ QA39 Z o0 x1 h0 n0 v U'.heap L ∧ FrameEnd U oc_ U' L ({ frames := 0, cells := 0, slots := 0, locals := 0 } : Room).cells ({ frames := 0, cells := 0, slots := 0, locals := 0 } : Room).slots) := by
  refine MetFree.of_bodySF (plainFor_of_name pn_java_lang_Integer) hisR ?_
  intro p e s m args below meth c s₁ Bd hml0 hP hK
  obtain ⟨rfl, hZ, hh⟩ := hP
  have hx := Bd.exec
  have hby := Bd.bytes
  have hml : c.maxLocals = 1 := hml0
  have hown : s.vm.findClass "java/lang/Integer" = some m.cls := findClass_of_methodNamed Bd.named
  have hnm := (name_of_methodNamed Bd.named Bd.method).1
  have X0 : Stand p l e ({ frames := 0, cells := 0, slots := 0, locals := 0 } : Room) s m #[(.ref o0)] below meth c s₁ [] 0 0 := Stand.of_body Bd
  have e0 : s₁.heap = h0 := by rw [← hh, Bd.state]; rfl
  have N0 := Fr.nil n0
  have pre0 : ∀ t, Steps p.tables e below (s₁.setTop (mkF m 0 #[.val (.ref o0)] [])) t → Steps p.tables e below (s₁.setTop (entryFrame m #[(.ref o0)] 1)) t := fun t k => castTop (efa_jdk_33_method_27_code_v m o0) k
  obtain ⟨T1, X1, e1, st1⟩ := getF X0 hx hZ hown (host := "") (Or.inl (wd117 hw)) Via.refl e0 F_o0_value (g := (mkF m 1 #[.val (.ref o0)] [(.ref o0)])) rfl rfl (hb hby dd_jdk_33_method_27_code_1)
  obtain ⟨lfs, lhr, lhrun, lhended, lhW, lhsame⟩ := X1.leave (v := some (.int x1)) (fun h => by rw [Bd.returns] at h; cases h)
  refine ⟨_, _, pre0 _ ?_, lhrun, lhended, _, _, rfl, ?_, ⟨_, rfl⟩, lhW, lhsame.mono (by decide) (by decide)⟩
  · skip
    show Steps p.tables e below (s₁.setTop (mkF m 0 #[.val (.ref o0)] [])) _
    refine XS.aloadN X0.here hx rfl (hb hby dd_jdk_33_method_27_code_0) rfl rfl ?_
    show Steps p.tables e below (s₁.setTop (mkF m 1 #[.val (.ref o0)] [(.ref o0)])) _
    refine st1 _ ?_
    show Steps p.tables e below (T1.setTop (mkF m 4 #[.val (.ref o0)] [(.int x1)])) _
    exact retI X1 hx Bd.returns (hb hby dd_jdk_33_method_27_code_4) lhr
  · skip
    show QA39 Z o0 x1 h0 n0 _ T1.heap _
    rw [e1]
    exact ⟨rfl, N0, rfl⟩
def QA38 (Z : State) (o0 : Addr) (o1 : Addr) (x2 : Int32) (h0 : Heap) (n0 : Nat) (v : Option Value) (h : Heap) (L : List Loc) : Prop := v = some (.int x2) ∧ Fr n0 L ∧ h = h0
set_option maxRecDepth 65536 in
set_option maxHeartbeats 40000000 in
theorem rmA38 (l : Launch) (Z : State) (a0 : Array Value) (hw : ∀ d ∈ tables_1, d.before a0 Z = true) (ws : List Jvm.Cond) (o0 : Addr) (o1 : Addr) (x2 : Int32) (h0 : Heap) (n0 : Nat) (Z0 : n0 ≤ h0.size) (F_o0_delaySeconds : Fld Z h0 o0 "com/example/aloq/aloq/engine/NewTask" "delaySeconds" "Ljava/lang/Integer;" (.ref o1)) (F_o1_value : Fld Z h0 o1 "java/lang/Integer" "value" "I" (.int x2)) (E_o1 : Exa Z h0 o1 "java/lang/Integer") :
    MetFree l (⟨"com/example/aloq/aloq/engine/NewTask", "delaySeconds", "()I"⟩ : MethodName) (head1 (Jvm.Cond.code (⟨"com/example/aloq/aloq/engine/NewTask", "delaySeconds", "()I"⟩ : MethodName) prog_13_method_11_code 1 (some .int) :: ws) ({ frames := 1, cells := 0, slots := 0, locals := 12 } : Room)) (fun a U => a = #[(.ref o0)] ∧ Z.Warmed39 U.vm ∧ U.heap = h0) (fun _ _ _ _ _ => True) (fun _ U oc_ U' => ∃ v L, oc_ = .returned v ∧ QA38 Z o0 o1 x2 h0 n0 v U'.heap L ∧ FrameEnd U oc_ U' L ({ frames := 1, cells := 0, slots := 0, locals := 12 } : Room).cells ({ frames := 1, cells := 0, slots := 0, locals := 12 } : Room).slots) := by
  refine MetFree.of_bodySF (plainFor_of_name pn_com_example_aloq_aloq_engine_NewTask) hisR ?_
  intro p e s m args below meth c s₁ Bd hml0 hP hK
  obtain ⟨rfl, hZ, hh⟩ := hP
  have hx := Bd.exec
  have hby := Bd.bytes
  have hml : c.maxLocals = 1 := hml0
  have hown : s.vm.findClass "com/example/aloq/aloq/engine/NewTask" = some m.cls := findClass_of_methodNamed Bd.named
  have hnm := (name_of_methodNamed Bd.named Bd.method).1
  have X0 : Stand p l e ({ frames := 1, cells := 0, slots := 0, locals := 12 } : Room) s m #[(.ref o0)] below meth c s₁ [] 0 0 := Stand.of_body Bd
  have e0 : s₁.heap = h0 := by rw [← hh, Bd.state]; rfl
  have N0 := Fr.nil n0
  have pre0 : ∀ t, Steps p.tables e below (s₁.setTop (mkF m 0 #[.val (.ref o0)] [])) t → Steps p.tables e below (s₁.setTop (entryFrame m #[(.ref o0)] 1)) t := fun t k => castTop (efa_prog_13_method_11_code_v m o0) k
  obtain ⟨T1, X1, e1, st1⟩ := getF X0 hx hZ hown (host := "") (Or.inl (wd94 hw)) Via.refl e0 F_o0_delaySeconds (g := (mkF m 1 #[.val (.ref o0)] [(.ref o0)])) rfl rfl (hb hby dd_prog_13_method_11_code_1)
  obtain ⟨T2, X2, e2, st2⟩ := getF X1 hx hZ hown (host := "") (Or.inl (wd94 hw)) Via.refl e1 F_o0_delaySeconds (g := (mkF m 12 #[.val (.ref o0)] [(.ref o0)])) rfl rfl (hb hby dd_prog_13_method_11_code_12)
  obtain ⟨cq3, kq3, q3a, q3b, q3c⟩ := isOf hZ e2 E_o1
  obtain ⟨_, _, ⟨T3, L3, kc3, ks3⟩, -, X3, ⟨Lc3, hQ3, l3, y3, z3⟩, st3⟩ := X2.virtualBack hx (y := (⟨"java/lang/Integer", "intValue", "()I"⟩ : MethodName)) (z := (⟨"java/lang/Integer", "intValue", "()I"⟩ : MethodName)) hown (mvT hZ (wd112 hw)) (mvT hZ (wd113 hw)) (notFace_of_selects (args := #[]) (mvT hZ (wd115 hw))) (mvT hZ (wd115 hw)) (mvT hZ (wd114 hw)) (by decide) (backOf (W := 0) (rmA39 l Z a0 hw [] o1 x2 h0 n0 Z0 F_o1_value) hZ (wd116 hw) (wd107 hw) (by decide) (by decide)) q3a q3c (g := (mkF m 15 #[.val (.ref o0)] [(.ref o1)])) rfl (by rw [hml]; rfl) (Steps.refl _) (argsL := []) (rest := []) (lenOf pd___I rfl) rfl (by show 2 * 0 + _ ≤ _; exact Nat.le_of_eq rfl) (hb hby dd_prog_13_method_11_code_15) (fun _ _ => ⟨rfl, e2, (by decide : 0 + 0 ≤ _), (by decide : 0 + 0 ≤ _)⟩)
  dsimp only [Pt.U, Pt.locs, Pt.cells, Pt.slots] at X3 l3 y3 z3 st3 hQ3
  subst l3 y3 z3
  obtain ⟨rfl, Nq3, eq3⟩ := hQ3
  have N3 := Fr.app N0 Nq3
  obtain ⟨lfs, lhr, lhrun, lhended, lhW, lhsame⟩ := X3.leave (v := some (.int x2)) (fun h => by rw [Bd.returns] at h; cases h)
  refine ⟨_, _, pre0 _ ?_, lhrun, lhended, _, _, rfl, ?_, ⟨_, rfl⟩, lhW, lhsame.mono (by decide) (by decide)⟩
  · skip
    show Steps p.tables e below (s₁.setTop (mkF m 0 #[.val (.ref o0)] [])) _
    refine XS.aloadN X0.here hx rfl (hb hby dd_prog_13_method_11_code_0) rfl rfl ?_
    show Steps p.tables e below (s₁.setTop (mkF m 1 #[.val (.ref o0)] [(.ref o0)])) _
    refine st1 _ ?_
    show Steps p.tables e below (T1.setTop (mkF m 4 #[.val (.ref o0)] [(.ref o1)])) _
    refine XS.ifnonnullYes X1.here hx rfl (pc0 := 4) (pc' := 11) rfl (hb hby dd_prog_13_method_11_code_4) rfl (by decide) (by decide) ?_
    show Steps p.tables e below (T1.setTop (mkF m 11 #[.val (.ref o0)] [])) _
    refine XS.aloadN X1.here hx rfl (hb hby dd_prog_13_method_11_code_11) rfl rfl ?_
    show Steps p.tables e below (T1.setTop (mkF m 12 #[.val (.ref o0)] [(.ref o0)])) _
    refine st2 _ ?_
    show Steps p.tables e below (T2.setTop (mkF m 15 #[.val (.ref o0)] [(.ref o1)])) _
    refine st3.trans ?_
    show Steps p.tables e below (T3.setTop (mkF m 18 #[.val (.ref o0)] [(.int x2)])) _
    exact retI X3 hx Bd.returns (hb hby dd_prog_13_method_11_code_18) lhr
  · skip
    show QA38 Z o0 o1 x2 h0 n0 _ T3.heap _
    rw [eq3]
    exact ⟨rfl, N3, rfl⟩
def QA41 (Z : State) (o0 : Addr) (x1 : Int32) (o2 : Addr) (cc : Cell) (u100 : Value) (u101 : Value) (u102 : Value) (u103 : Value) (h0 : Heap) (n0 : Nat) (v : Option Value) (h : Heap) (L : List Loc) : Prop := ∃ (c8 : Addr), v = some (.ref o0) ∧ Fr n0 L ∧ Keep h0 h [o0] ∧ Fld Z h o0 "com/example/aloq/aloq/engine/NewTask" "runAt" "Ljava/time/Instant;" .null ∧ Exa Z h c8 "java/lang/Integer" ∧ Fld Z h c8 "java/lang/Integer" "value" "I" (.int x1) ∧ Exa Z h o0 "com/example/aloq/aloq/engine/NewTask" ∧ Fld Z h o0 "com/example/aloq/aloq/engine/NewTask" "delaySeconds" "Ljava/lang/Integer;" (.ref c8) ∧ Fld Z h o0 "com/example/aloq/aloq/engine/NewTask" "maxAttempts" "I" u100 ∧ Fld Z h o0 "com/example/aloq/aloq/engine/NewTask" "retryBackoffSeconds" "I" u101 ∧ Fld Z h o0 "com/example/aloq/aloq/engine/NewTask" "queue" "Ljava/lang/String;" u102 ∧ Fld Z h o0 "com/example/aloq/aloq/engine/NewTask" "payload" "Ljava/lang/String;" u103
set_option maxRecDepth 65536 in
set_option maxHeartbeats 40000000 in
theorem rmA41 (l : Launch) (Z : State) (a0 : Array Value) (hw : ∀ d ∈ tables_1, d.before a0 Z = true) (ws : List Jvm.Cond) (o0 : Addr) (x1 : Int32) (o2 : Addr) (cc : Cell) (u100 : Value) (u101 : Value) (u102 : Value) (u103 : Value) (h0 : Heap) (n0 : Nat) (Z0 : n0 ≤ h0.size) (hq0 : ¬ (x1 < (0 : Int32))) (hq1 : ¬ ((31536000 : Int32) < x1)) (F_o0_runAt : Fld Z h0 o0 "com/example/aloq/aloq/engine/NewTask" "runAt" "Ljava/time/Instant;" .null) (hq3 : ¬ ((127 : Int32) < x1)) (hq4 : ¬ (x1 < (-128 : Int32))) (S_high : Sta Z h0 "java/lang/Integer$IntegerCache" "high" "I" (.int (127 : Int32))) (S_cache : Sta Z h0 "java/lang/Integer$IntegerCache" "cache" "[Ljava/lang/Integer;" (.ref o2)) (Bx : Bxs Z o2 cc "java/lang/Integer" "I" (256 : Int32) (fun j => .int (j - (128 : Int32)))) (X00 : Old Z n0 h0) (E_o0 : Exa Z h0 o0 "com/example/aloq/aloq/engine/NewTask") (F_o0_delaySeconds : Fld Z h0 o0 "com/example/aloq/aloq/engine/NewTask" "delaySeconds" "Ljava/lang/Integer;" .null) (g_o0 : n0 ≤ o0) (F_o0_maxAttempts : Fld Z h0 o0 "com/example/aloq/aloq/engine/NewTask" "maxAttempts" "I" u100) (F_o0_retryBackoffSeconds : Fld Z h0 o0 "com/example/aloq/aloq/engine/NewTask" "retryBackoffSeconds" "I" u101) (F_o0_queue : Fld Z h0 o0 "com/example/aloq/aloq/engine/NewTask" "queue" "Ljava/lang/String;" u102) (F_o0_payload : Fld Z h0 o0 "com/example/aloq/aloq/engine/NewTask" "payload" "Ljava/lang/String;" u103) :
    MetFree l (⟨"com/example/aloq/aloq/engine/NewTask", "delaySeconds", "(I)Lcom/example/aloq/aloq/engine/NewTask;"⟩ : MethodName) (head1 (Jvm.Cond.code (⟨"com/example/aloq/aloq/engine/NewTask", "delaySeconds", "(I)Lcom/example/aloq/aloq/engine/NewTask;"⟩ : MethodName) prog_13_method_3_code 3 (some (.object "com/example/aloq/aloq/engine/NewTask")) :: ws) ({ frames := 1, cells := 2, slots := 56, locals := 15 } : Room)) (fun a U => a = #[(.ref o0), (.int x1)] ∧ Z.Warmed39 U.vm ∧ U.heap = h0 ∧ CHv Z own_EL U.vm h0 ∧ ∀ x ∈ ([] : List Addr), Safe Z own_EL U.vm h0 x) (fun _ _ _ _ _ => True) (fun _ U oc_ U' => ∃ v L, oc_ = .returned v ∧ QA41 Z o0 x1 o2 cc u100 u101 u102 u103 h0 n0 v U'.heap L ∧ CHr Z own_EL U.vm U.heap U'.vm U'.heap ∧ ReturnedEndW U oc_ U' L ({ frames := 1, cells := 2, slots := 56, locals := 15 } : Room).cells ({ frames := 1, cells := 2, slots := 56, locals := 15 } : Room).slots) := by
  refine MetFree.of_bodySF (plainFor_of_name pn_com_example_aloq_aloq_engine_NewTask) hisR ?_
  intro p e s m args below meth c s₁ Bd hml0 hP hK
  obtain ⟨rfl, hZ, hh, hCH, hSS⟩ := hP
  have hx := Bd.exec
  have hby := Bd.bytes
  have hml : c.maxLocals = 3 := hml0
  have hown : s.vm.findClass "com/example/aloq/aloq/engine/NewTask" = some m.cls := findClass_of_methodNamed Bd.named
  have hnm := (name_of_methodNamed Bd.named Bd.method).1
  have X0 : Stand p l e ({ frames := 1, cells := 2, slots := 56, locals := 15 } : Room) s m #[(.ref o0), (.int x1)] below meth c s₁ [] 0 0 := Stand.of_body Bd
  have e0 : s₁.heap = h0 := by rw [← hh, Bd.state]; rfl
  have N0 := Fr.nil n0
  have pre0 : ∀ t, Steps p.tables e below (s₁.setTop (mkF m 0 #[.val (.ref o0), .val (.int x1), .unset] [])) t → Steps p.tables e below (s₁.setTop (entryFrame m #[(.ref o0), (.int x1)] 3)) t := fun t k => castTop (efa_prog_13_method_3_code_vv m o0 x1) k
  have X0 : Stand p l e ({ frames := 1, cells := 2, slots := 56, locals := 15 } : Room) (s.setVm s.vm) m #[(.ref o0), (.int x1)] below meth c s₁ [] 0 0 := X0
  have hS0 : s.Since s.vm 0 := own_since0 s
  have hk0 : 0 ≤ h0.size := Nat.zero_le _
  have CR0 : CHr Z own_EL s.vm h0 s.vm h0 := CHr.refl hCH
  have hEL := own_EW a0 Z hw
  have wS : ∀ a ∈ Bundle.stringAtoms, a.before a0 Z = true := fun d hd => hw d ((by decide +kernel : ∀ d ∈ Bundle.stringAtoms, d ∈ tables_1) d hd)
  obtain ⟨a1, T1, h1, kk1, t1, kb1, X1, e1, E1, hS1, hk1, hZ1, hown1, gE1, gC1, gV1, gK1, la1, lt1, CS1, LL1, sne1, st1⟩ := ldcCH (s := s) (vm0 := s.vm) (EL := own_EL) X0 hx hZ hown (wd101 hw) wS e0 hS0 hk0 hEL (by decide) CR0.1 (vs := [(.int (100 : Int32)), (.int (101 : Int32)), (.int (108 : Int32)), (.int (97 : Int32)), (.int (121 : Int32)), (.int (95 : Int32)), (.int (115 : Int32)), (.int (101 : Int32)), (.int (99 : Int32)), (.int (111 : Int32)), (.int (110 : Int32)), (.int (100 : Int32)), (.int (115 : Int32))]) (z := (13 : Int32)) ⟨by decide +kernel, by first | rfl | decide +kernel⟩ (by decide) (by decide) (g := (mkF m 0 #[.val (.ref o0), .val (.int x1), .unset] [])) rfl (hb hby dd_prog_13_method_3_code_0) (n := 52) (by decide +kernel) (by decide) (by decide) (by decide)
  have CR1 := CR0.trans CS1
  have Z1 : n0 ≤ h1.size := Nat.le_trans Z0 E1.1
  have K1 : Keep h0 h1 [o0] := ((Keep.refl h0 [o0]).ext E1)
  obtain ⟨_, _, ⟨T2, L2, kc2, ks2⟩, -, X2, ⟨Lc2, hQ2, l2, y2, z2⟩, st2⟩ := Jvm.LawKit.callS X1 hx (y := (⟨"com/example/aloq/aloq/engine/Setting", "inRange", "(Ljava/lang/String;III)I"⟩ : MethodName)) hown1 (mvT hZ1 (wd85 hw)) (mvT hZ1 (wd86 hw)) (mvT hZ1 (wd87 hw)) (mvT hZ1 (wd88 hw)) (by decide) (backOf (W := 0) (rmA34 l Z a0 hw [] a1 x1 h1 n0 Z1 hq0 hq1) hZ1 (wd88 hw) (wd87 hw) (by decide) (by decide)) (g := (mkF m 6 #[.val (.ref o0), .val (.int x1), .unset] [(.int (31536000 : Int32)), (.int (0 : Int32)), (.int x1), (.ref a1)])) rfl (by rw [hml]; rfl) (argsL := [(.ref a1), (.int x1), (.int (0 : Int32)), (.int (31536000 : Int32))]) (rest := []) (lenOf pd__Ljava_lang_String_III_I rfl) rfl (by show 2 * 0 + _ ≤ _; exact Nat.le_of_eq rfl) (hb hby dd_prog_13_method_3_code_6) (fun _ _ => ⟨rfl, e1, (by decide : 2 + 0 ≤ _), (by decide : 56 + 0 ≤ _)⟩)
  dsimp only [Pt.U, Pt.locs, Pt.cells, Pt.slots] at X2 l2 y2 z2 st2 hQ2
  subst l2 y2 z2
  obtain ⟨rfl, Nq2, eq2⟩ := hQ2
  have N2 := Fr.app N0 Nq2
  have f3 := (F_o0_runAt.ext E1)
  obtain ⟨T4, X4, e4, st4⟩ := getF X2 hx hZ1 hown1 (host := "") (Or.inl (wd103 hw)) Via.refl eq2 f3 (g := (mkF m 11 #[.val (.ref o0), .val (.int x1), .val (.int x1)] [(.ref o0)])) rfl rfl (hb hby dd_prog_13_method_3_code_11)
  have f5 := (S_high.ext E1)
  have f6 := (S_cache.ext E1)
  have f7 := (X00.ext E1)
  obtain ⟨_, _, ⟨T8, L8, kc8, ks8⟩, -, X8, ⟨Lc8, hQ8, l8, y8, z8⟩, st8⟩ := Jvm.LawKit.callS X4 hx (y := (⟨"java/lang/Integer", "valueOf", "(I)Ljava/lang/Integer;"⟩ : MethodName)) hown1 (mvT hZ1 (wd105 hw)) (mvT hZ1 (wd106 hw)) (mvT hZ1 (wd107 hw)) (mvT hZ1 (wd108 hw)) (by decide) (backOf (W := 1) (rmVC l Z a0 hw [] x1 o2 cc h1 n0 Z1 f5 f6 Bx f7.2 hq4 hq3) hZ1 (wd108 hw) (wd107 hw) (by decide) (by decide)) (g := (mkF m 23 #[.val (.ref o0), .val (.int x1), .val (.int x1)] [(.int x1), (.ref o0)])) rfl (by rw [hml]; rfl) (argsL := [(.int x1)]) (rest := [(.ref o0)]) (lenOf pd__I_Ljava_lang_Integer_ rfl) rfl (by show 2 * 0 + _ ≤ _; exact Nat.le_of_eq rfl) (hb hby dd_prog_13_method_3_code_23) (fun _ _ => ⟨rfl, e4, (by decide : 2 + 0 ≤ _), (by decide : 56 + 0 ≤ _)⟩)
  dsimp only [Pt.U, Pt.locs, Pt.cells, Pt.slots] at X8 l8 y8 z8 st8 hQ8
  subst l8 y8 z8
  obtain ⟨c8, rfl, Nq8, eq8, gE8, gF8⟩ := hQ8
  have N8 := Fr.app N2 Nq8
  rw [eq8] at gE8 gF8
  have f9 := (E_o0.ext E1)
  have f10 := (F_o0_delaySeconds.ext E1)
  obtain ⟨T11, h11, X11, e11, W11, st11⟩ := putF X8 hx hZ1 hown1 (host := "") (Or.inl (wd94 hw)) Via.refl eq8 f10 f9 (Or.inl (wd95 hw)) (wd3 hw) (ty := (.object "java/lang/Integer")) (by decide) rfl rfl (g := (mkF m 26 #[.val (.ref o0), .val (.int x1), .val (.int x1)] [(.ref c8), (.ref o0)])) rfl rfl (hb hby dd_prog_13_method_3_code_26)
  have CS11 := CHr.wr W11 (Safe.exa hZ1.alike f9 (by decide) (by decide)) CR1.1
  have CR11 := CR1.trans CS11
  have hk11 : _ ≤ h11.size := Nat.le_trans hk1 (Nat.le_of_eq W11.size.symm)
  have N11 := Fr.snoc X11 N8 g_o0
  have Z11 : n0 ≤ h11.size := by rw [W11.size]; exact Z1
  have K11 : Keep h0 h11 [o0] := (K1.wr W11 (Or.inl (List.mem_of_getElem? (i := 0) rfl)))
  have Fw11 := f10.same W11
  have f12 := (f3.other W11 (Or.inr (slot_ne (Or.inl (wd104 hw)) (Or.inl (wd95 hw)) (by decide) (t := (.object "java/time/Instant")) (t' := (.object "java/lang/Integer")) (by decide) (by decide))))
  have f13 := (gE8.wr W11)
  have f14 := (f9.wr W11)
  have f15 := (gF8.other W11 (Or.inl (Exa.ne f13 f14 (by decide))))
  have f16 := ((F_o0_maxAttempts.ext E1).other W11 (Or.inr (slot_ne (Or.inl (wd21 hw)) (Or.inl (wd95 hw)) (by decide) (t := .int) (t' := (.object "java/lang/Integer")) (by decide) (by decide))))
  have f17 := ((F_o0_retryBackoffSeconds.ext E1).other W11 (Or.inr (slot_ne (Or.inl (wd23 hw)) (Or.inl (wd95 hw)) (by decide) (t := .int) (t' := (.object "java/lang/Integer")) (by decide) (by decide))))
  have f18 := ((F_o0_queue.ext E1).other W11 (Or.inr (slot_ne (Or.inr (wd69 hw)) (Or.inl (wd95 hw)) (by decide) (t := (.object "java/lang/String")) (t' := (.object "java/lang/Integer")) (by decide) (by decide))))
  have f19 := ((F_o0_payload.ext E1).other W11 (Or.inr (slot_ne (Or.inr (wd78 hw)) (Or.inl (wd95 hw)) (by decide) (t := (.object "java/lang/String")) (t' := (.object "java/lang/Integer")) (by decide) (by decide))))
  obtain ⟨lfs, lhr, lhrun, lhended, lhE⟩ := X11.leaveW hS1 (by rw [e11]; exact hk11) (v := some (.ref o0)) (fun h => by rw [Bd.returns] at h; cases h)
  refine ⟨_, _, pre0 _ ?_, lhrun, lhended, _, _, rfl, ?_, ?_, lhE.1, lhE.2.1, lhE.2.2.1, lhE.2.2.2.mono (by decide) (by decide)⟩
  · skip
    show Steps p.tables e below (s₁.setTop (mkF m 0 #[.val (.ref o0), .val (.int x1), .unset] [])) _
    refine st1 _ ?_
    show Steps p.tables e below (T1.setTop (mkF m 2 #[.val (.ref o0), .val (.int x1), .unset] [(.ref a1)])) _
    refine XS.iloadN X1.here hx rfl (hb hby dd_prog_13_method_3_code_2) rfl ?_
    show Steps p.tables e below (T1.setTop (mkF m 3 #[.val (.ref o0), .val (.int x1), .unset] [(.int x1), (.ref a1)])) _
    refine XS.iconst X1.here hx rfl (hb hby dd_prog_13_method_3_code_3) ?_
    show Steps p.tables e below (T1.setTop (mkF m 4 #[.val (.ref o0), .val (.int x1), .unset] [(.int (0 : Int32)), (.int x1), (.ref a1)])) _
    refine X1.ldcInt hx hown1 (mvT hZ1 (wd102 hw)) (g := (mkF m 4 #[.val (.ref o0), .val (.int x1), .unset] [(.int (0 : Int32)), (.int x1), (.ref a1)])) rfl (hb hby dd_prog_13_method_3_code_4) _ ?_
    show Steps p.tables e below (T1.setTop (mkF m 6 #[.val (.ref o0), .val (.int x1), .unset] [(.int (31536000 : Int32)), (.int (0 : Int32)), (.int x1), (.ref a1)])) _
    refine st2 _ ?_
    show Steps p.tables e below (T2.setTop (mkF m 9 #[.val (.ref o0), .val (.int x1), .unset] [(.int x1)])) _
    refine XS.istoreN X2.here hx rfl (hb hby dd_prog_13_method_3_code_9) rfl (l' := #[.val (.ref o0), .val (.int x1), .val (.int x1)]) rfl ?_
    show Steps p.tables e below (T2.setTop (mkF m 10 #[.val (.ref o0), .val (.int x1), .val (.int x1)] [])) _
    refine XS.aloadN X2.here hx rfl (hb hby dd_prog_13_method_3_code_10) rfl rfl ?_
    show Steps p.tables e below (T2.setTop (mkF m 11 #[.val (.ref o0), .val (.int x1), .val (.int x1)] [(.ref o0)])) _
    refine st4 _ ?_
    show Steps p.tables e below (T4.setTop (mkF m 14 #[.val (.ref o0), .val (.int x1), .val (.int x1)] [.null])) _
    refine XS.ifnullYes X4.here hx rfl (pc0 := 14) (pc' := 21) rfl (hb hby dd_prog_13_method_3_code_14) rfl (by decide) (by decide) ?_
    show Steps p.tables e below (T4.setTop (mkF m 21 #[.val (.ref o0), .val (.int x1), .val (.int x1)] [])) _
    refine XS.aloadN X4.here hx rfl (hb hby dd_prog_13_method_3_code_21) rfl rfl ?_
    show Steps p.tables e below (T4.setTop (mkF m 22 #[.val (.ref o0), .val (.int x1), .val (.int x1)] [(.ref o0)])) _
    refine XS.iloadN X4.here hx rfl (hb hby dd_prog_13_method_3_code_22) rfl ?_
    show Steps p.tables e below (T4.setTop (mkF m 23 #[.val (.ref o0), .val (.int x1), .val (.int x1)] [(.int x1), (.ref o0)])) _
    refine st8 _ ?_
    show Steps p.tables e below (T8.setTop (mkF m 26 #[.val (.ref o0), .val (.int x1), .val (.int x1)] [(.ref c8), (.ref o0)])) _
    refine st11 _ ?_
    show Steps p.tables e below (T11.setTop (mkF m 29 #[.val (.ref o0), .val (.int x1), .val (.int x1)] [])) _
    refine XS.aloadN X11.here hx rfl (hb hby dd_prog_13_method_3_code_29) rfl rfl ?_
    show Steps p.tables e below (T11.setTop (mkF m 30 #[.val (.ref o0), .val (.int x1), .val (.int x1)] [(.ref o0)])) _
    exact retOut X11 hx Bd.returns rfl (Or.inr (Or.inr (Or.inr (Or.inr ⟨rfl, rfl, rfl⟩)))) (hb hby dd_prog_13_method_3_code_30) lhr
  · skip
    show QA41 Z o0 x1 o2 cc u100 u101 u102 u103 h0 n0 _ T11.heap _
    rw [e11]
    exact ⟨c8, rfl, N11, K11, f12, f13, f15, f14, Fw11, f16, f17, f18, f19⟩
  · skip
    show CHr Z own_EL s.vm s.heap T11.vm T11.heap
    rw [hh]
    rw [e11]
    exact CR11.trans (CHv.at X11 hZ1 hEL CR11.1)
def QA52 (Z : State) (o0 : Addr) (x1 : Int32) (o2 : Addr) (u100 : Value) (u101 : Value) (u102 : Value) (u103 : Value) (h0 : Heap) (n0 : Nat) (v : Option Value) (h : Heap) (L : List Loc) : Prop := ∃ (b6_0 : Addr), v = some (.ref o0) ∧ Fr n0 L ∧ Keep h0 h [o0] ∧ h0.size ≤ b6_0 ∧ Fld Z h o0 "com/example/aloq/aloq/engine/NewTask" "runAt" "Ljava/time/Instant;" .null ∧ Exa Z h b6_0 "java/lang/Integer" ∧ Fld Z h b6_0 "java/lang/Integer" "value" "I" (.int x1) ∧ Exa Z h o0 "com/example/aloq/aloq/engine/NewTask" ∧ Fld Z h o0 "com/example/aloq/aloq/engine/NewTask" "delaySeconds" "Ljava/lang/Integer;" (.ref b6_0) ∧ Fld Z h o0 "com/example/aloq/aloq/engine/NewTask" "maxAttempts" "I" u100 ∧ Fld Z h o0 "com/example/aloq/aloq/engine/NewTask" "retryBackoffSeconds" "I" u101 ∧ Fld Z h o0 "com/example/aloq/aloq/engine/NewTask" "queue" "Ljava/lang/String;" u102 ∧ Fld Z h o0 "com/example/aloq/aloq/engine/NewTask" "payload" "Ljava/lang/String;" u103
set_option maxRecDepth 65536 in
set_option maxHeartbeats 40000000 in
theorem rmA52 (l : Launch) (Z : State) (a0 : Array Value) (hw : ∀ d ∈ tables_1, d.before a0 Z = true) (ws : List Jvm.Cond) (o0 : Addr) (x1 : Int32) (o2 : Addr) (u100 : Value) (u101 : Value) (u102 : Value) (u103 : Value) (h0 : Heap) (n0 : Nat) (Z0 : n0 ≤ h0.size) (hq0 : ¬ (x1 < (0 : Int32))) (hq1 : ¬ ((31536000 : Int32) < x1)) (F_o0_runAt : Fld Z h0 o0 "com/example/aloq/aloq/engine/NewTask" "runAt" "Ljava/time/Instant;" .null) (hq3 : (127 : Int32) < x1) (hq4 : ¬ (x1 < (-128 : Int32))) (S_high : Sta Z h0 "java/lang/Integer$IntegerCache" "high" "I" (.int (127 : Int32))) (E_o0 : Exa Z h0 o0 "com/example/aloq/aloq/engine/NewTask") (F_o0_delaySeconds : Fld Z h0 o0 "com/example/aloq/aloq/engine/NewTask" "delaySeconds" "Ljava/lang/Integer;" (.ref o2)) (g_o0 : n0 ≤ o0) (F_o0_maxAttempts : Fld Z h0 o0 "com/example/aloq/aloq/engine/NewTask" "maxAttempts" "I" u100) (F_o0_retryBackoffSeconds : Fld Z h0 o0 "com/example/aloq/aloq/engine/NewTask" "retryBackoffSeconds" "I" u101) (F_o0_queue : Fld Z h0 o0 "com/example/aloq/aloq/engine/NewTask" "queue" "Ljava/lang/String;" u102) (F_o0_payload : Fld Z h0 o0 "com/example/aloq/aloq/engine/NewTask" "payload" "Ljava/lang/String;" u103) :
    MetFree l (⟨"com/example/aloq/aloq/engine/NewTask", "delaySeconds", "(I)Lcom/example/aloq/aloq/engine/NewTask;"⟩ : MethodName) (head1 (Jvm.Cond.code (⟨"com/example/aloq/aloq/engine/NewTask", "delaySeconds", "(I)Lcom/example/aloq/aloq/engine/NewTask;"⟩ : MethodName) prog_13_method_3_code 3 (some (.object "com/example/aloq/aloq/engine/NewTask")) :: ws) ({ frames := 4, cells := 3, slots := 57, locals := 51 } : Room)) (fun a U => a = #[(.ref o0), (.int x1)] ∧ Z.Warmed39 U.vm ∧ U.heap = h0 ∧ CHv Z own_EL U.vm h0 ∧ ∀ x ∈ ([] : List Addr), Safe Z own_EL U.vm h0 x) (fun _ _ _ _ _ => True) (fun _ U oc_ U' => ∃ v L, oc_ = .returned v ∧ QA52 Z o0 x1 o2 u100 u101 u102 u103 h0 n0 v U'.heap L ∧ CHr Z own_EL U.vm U.heap U'.vm U'.heap ∧ ReturnedEndW U oc_ U' L ({ frames := 4, cells := 3, slots := 57, locals := 51 } : Room).cells ({ frames := 4, cells := 3, slots := 57, locals := 51 } : Room).slots) := by
  refine MetFree.of_bodySF (plainFor_of_name pn_com_example_aloq_aloq_engine_NewTask) hisR ?_
  intro p e s m args below meth c s₁ Bd hml0 hP hK
  obtain ⟨rfl, hZ, hh, hCH, hSS⟩ := hP
  have hx := Bd.exec
  have hby := Bd.bytes
  have hml : c.maxLocals = 3 := hml0
  have hown : s.vm.findClass "com/example/aloq/aloq/engine/NewTask" = some m.cls := findClass_of_methodNamed Bd.named
  have hnm := (name_of_methodNamed Bd.named Bd.method).1
  have X0 : Stand p l e ({ frames := 4, cells := 3, slots := 57, locals := 51 } : Room) s m #[(.ref o0), (.int x1)] below meth c s₁ [] 0 0 := Stand.of_body Bd
  have e0 : s₁.heap = h0 := by rw [← hh, Bd.state]; rfl
  have N0 := Fr.nil n0
  have pre0 : ∀ t, Steps p.tables e below (s₁.setTop (mkF m 0 #[.val (.ref o0), .val (.int x1), .unset] [])) t → Steps p.tables e below (s₁.setTop (entryFrame m #[(.ref o0), (.int x1)] 3)) t := fun t k => castTop (efa_prog_13_method_3_code_vv m o0 x1) k
  have X0 : Stand p l e ({ frames := 4, cells := 3, slots := 57, locals := 51 } : Room) (s.setVm s.vm) m #[(.ref o0), (.int x1)] below meth c s₁ [] 0 0 := X0
  have hS0 : s.Since s.vm 0 := own_since0 s
  have hk0 : 0 ≤ h0.size := Nat.zero_le _
  have CR0 : CHr Z own_EL s.vm h0 s.vm h0 := CHr.refl hCH
  have hEL := own_EW a0 Z hw
  have wS : ∀ a ∈ Bundle.stringAtoms, a.before a0 Z = true := fun d hd => hw d ((by decide +kernel : ∀ d ∈ Bundle.stringAtoms, d ∈ tables_1) d hd)
  obtain ⟨a1, T1, h1, kk1, t1, kb1, X1, e1, E1, hS1, hk1, hZ1, hown1, gE1, gC1, gV1, gK1, la1, lt1, CS1, LL1, sne1, st1⟩ := ldcCH (s := s) (vm0 := s.vm) (EL := own_EL) X0 hx hZ hown (wd101 hw) wS e0 hS0 hk0 hEL (by decide) CR0.1 (vs := [(.int (100 : Int32)), (.int (101 : Int32)), (.int (108 : Int32)), (.int (97 : Int32)), (.int (121 : Int32)), (.int (95 : Int32)), (.int (115 : Int32)), (.int (101 : Int32)), (.int (99 : Int32)), (.int (111 : Int32)), (.int (110 : Int32)), (.int (100 : Int32)), (.int (115 : Int32))]) (z := (13 : Int32)) ⟨by decide +kernel, by first | rfl | decide +kernel⟩ (by decide) (by decide) (g := (mkF m 0 #[.val (.ref o0), .val (.int x1), .unset] [])) rfl (hb hby dd_prog_13_method_3_code_0) (n := 52) (by decide +kernel) (by decide) (by decide) (by decide)
  have CR1 := CR0.trans CS1
  have Z1 : n0 ≤ h1.size := Nat.le_trans Z0 E1.1
  have K1 : Keep h0 h1 [o0] := ((Keep.refl h0 [o0]).ext E1)
  obtain ⟨_, _, ⟨T2, L2, kc2, ks2⟩, -, X2, ⟨Lc2, hQ2, l2, y2, z2⟩, st2⟩ := Jvm.LawKit.callS X1 hx (y := (⟨"com/example/aloq/aloq/engine/Setting", "inRange", "(Ljava/lang/String;III)I"⟩ : MethodName)) hown1 (mvT hZ1 (wd85 hw)) (mvT hZ1 (wd86 hw)) (mvT hZ1 (wd87 hw)) (mvT hZ1 (wd88 hw)) (by decide) (backOf (W := 0) (rmA34 l Z a0 hw [] a1 x1 h1 n0 Z1 hq0 hq1) hZ1 (wd88 hw) (wd87 hw) (by decide) (by decide)) (g := (mkF m 6 #[.val (.ref o0), .val (.int x1), .unset] [(.int (31536000 : Int32)), (.int (0 : Int32)), (.int x1), (.ref a1)])) rfl (by rw [hml]; rfl) (argsL := [(.ref a1), (.int x1), (.int (0 : Int32)), (.int (31536000 : Int32))]) (rest := []) (lenOf pd__Ljava_lang_String_III_I rfl) rfl (by show 2 * 0 + _ ≤ _; exact Nat.le_of_eq rfl) (hb hby dd_prog_13_method_3_code_6) (fun _ _ => ⟨rfl, e1, (by decide : 2 + 0 ≤ _), (by decide : 56 + 0 ≤ _)⟩)
  dsimp only [Pt.U, Pt.locs, Pt.cells, Pt.slots] at X2 l2 y2 z2 st2 hQ2
  subst l2 y2 z2
  obtain ⟨rfl, Nq2, eq2⟩ := hQ2
  have N2 := Fr.app N0 Nq2
  have f3 := (F_o0_runAt.ext E1)
  obtain ⟨T4, X4, e4, st4⟩ := getF X2 hx hZ1 hown1 (host := "") (Or.inl (wd103 hw)) Via.refl eq2 f3 (g := (mkF m 11 #[.val (.ref o0), .val (.int x1), .val (.int x1)] [(.ref o0)])) rfl rfl (hb hby dd_prog_13_method_3_code_11)
  have f5 := (S_high.ext E1)
  obtain ⟨_, _, ⟨T6, L6, kc6, ks6⟩, -, X6, ⟨Lc6, hQ6, l6, y6, z6⟩, st6⟩ := Jvm.LawKit.callS X4 hx (y := (⟨"java/lang/Integer", "valueOf", "(I)Ljava/lang/Integer;"⟩ : MethodName)) hown1 (mvT hZ1 (wd105 hw)) (mvT hZ1 (wd106 hw)) (mvT hZ1 (wd107 hw)) (mvT hZ1 (wd108 hw)) (by decide) (backOf (W := 1) (rmA35 l Z a0 hw [] x1 h1 n0 Z1 hq4 f5 hq3) hZ1 (wd108 hw) (wd107 hw) (by decide) (by decide)) (g := (mkF m 23 #[.val (.ref o0), .val (.int x1), .val (.int x1)] [(.int x1), (.ref o0)])) rfl (by rw [hml]; rfl) (argsL := [(.int x1)]) (rest := [(.ref o0)]) (lenOf pd__I_Ljava_lang_Integer_ rfl) rfl (by show 2 * 0 + _ ≤ _; exact Nat.le_of_eq rfl) (hb hby dd_prog_13_method_3_code_23) (fun _ _ => ⟨rfl, e4, (by decide : 2 + 1 ≤ _), (by decide : 56 + 1 ≤ _)⟩)
  dsimp only [Pt.U, Pt.locs, Pt.cells, Pt.slots] at X6 l6 y6 z6 st6 hQ6
  subst l6 y6 z6
  obtain ⟨b6_0, rfl, Nq6, Kq6, sz6_0, g6_0, g6_1⟩ := hQ6
  have N6 := Fr.app N2 Nq6
  have CS6 := CHr.keep Kq6 all0 CR1.1
  have CR6 := CR1.trans CS6
  have hk6 : _ ≤ T6.heap.size := Nat.le_trans hk1 Kq6.1
  have Z6 : n0 ≤ T6.heap.size := Nat.le_trans Z1 Kq6.1
  have K6 : Keep h0 T6.heap [o0] := Keep.trans K1 Kq6 all0
  have ne_a1_b6_0 : a1 ≠ b6_0 := Nat.ne_of_lt (Nat.lt_of_lt_of_le gE1.lt sz6_0)
  have ne_t1_b6_0 : t1 ≠ b6_0 := Nat.ne_of_lt (Nat.lt_of_lt_of_le gK1.lt sz6_0)
  have ne_o0_b6_0 : o0 ≠ b6_0 := Nat.ne_of_lt (Nat.lt_of_lt_of_le f3.lt sz6_0)
  have ge_b6_0 : n0 ≤ b6_0 := Nat.le_trans Z1 sz6_0
  have sz_b6_0 : h0.size ≤ b6_0 := Nat.le_trans K1.1 sz6_0
  have f7 := ((E_o0.ext E1).keep Kq6)
  have f8 := ((F_o0_delaySeconds.ext E1).keep Kq6 nin0)
  obtain ⟨T9, h9, X9, e9, W9, st9⟩ := putF X6 hx hZ1 hown1 (host := "") (Or.inl (wd94 hw)) Via.refl rfl f8 f7 (Or.inl (wd95 hw)) (wd3 hw) (ty := (.object "java/lang/Integer")) (by decide) rfl rfl (g := (mkF m 26 #[.val (.ref o0), .val (.int x1), .val (.int x1)] [(.ref b6_0), (.ref o0)])) rfl rfl (hb hby dd_prog_13_method_3_code_26)
  have CS9 := CHr.wr W9 (Safe.exa hZ1.alike f7 (by decide) (by decide)) CR6.1
  have CR9 := CR6.trans CS9
  have hk9 : _ ≤ h9.size := Nat.le_trans hk6 (Nat.le_of_eq W9.size.symm)
  have N9 := Fr.snoc X9 N6 g_o0
  have Z9 : n0 ≤ h9.size := by rw [W9.size]; exact Z6
  have K9 : Keep h0 h9 [o0] := (K6.wr W9 (Or.inl (List.mem_of_getElem? (i := 0) rfl)))
  have Fw9 := f8.same W9
  have f10 := ((f3.keep Kq6 nin0).other W9 (Or.inr (slot_ne (Or.inl (wd104 hw)) (Or.inl (wd95 hw)) (by decide) (t := (.object "java/time/Instant")) (t' := (.object "java/lang/Integer")) (by decide) (by decide))))
  have f11 := (g6_0.wr W9)
  have f12 := (g6_1.other W9 (Or.inl (Ne.symm ne_o0_b6_0)))
  have f13 := (f7.wr W9)
  have f14 := (((F_o0_maxAttempts.ext E1).keep Kq6 nin0).other W9 (Or.inr (slot_ne (Or.inl (wd21 hw)) (Or.inl (wd95 hw)) (by decide) (t := .int) (t' := (.object "java/lang/Integer")) (by decide) (by decide))))
  have f15 := (((F_o0_retryBackoffSeconds.ext E1).keep Kq6 nin0).other W9 (Or.inr (slot_ne (Or.inl (wd23 hw)) (Or.inl (wd95 hw)) (by decide) (t := .int) (t' := (.object "java/lang/Integer")) (by decide) (by decide))))
  have f16 := (((F_o0_queue.ext E1).keep Kq6 nin0).other W9 (Or.inr (slot_ne (Or.inr (wd69 hw)) (Or.inl (wd95 hw)) (by decide) (t := (.object "java/lang/String")) (t' := (.object "java/lang/Integer")) (by decide) (by decide))))
  have f17 := (((F_o0_payload.ext E1).keep Kq6 nin0).other W9 (Or.inr (slot_ne (Or.inr (wd78 hw)) (Or.inl (wd95 hw)) (by decide) (t := (.object "java/lang/String")) (t' := (.object "java/lang/Integer")) (by decide) (by decide))))
  obtain ⟨lfs, lhr, lhrun, lhended, lhE⟩ := X9.leaveW hS1 (by rw [e9]; exact hk9) (v := some (.ref o0)) (fun h => by rw [Bd.returns] at h; cases h)
  refine ⟨_, _, pre0 _ ?_, lhrun, lhended, _, _, rfl, ?_, ?_, lhE.1, lhE.2.1, lhE.2.2.1, lhE.2.2.2.mono (by decide) (by decide)⟩
  · skip
    show Steps p.tables e below (s₁.setTop (mkF m 0 #[.val (.ref o0), .val (.int x1), .unset] [])) _
    refine st1 _ ?_
    show Steps p.tables e below (T1.setTop (mkF m 2 #[.val (.ref o0), .val (.int x1), .unset] [(.ref a1)])) _
    refine XS.iloadN X1.here hx rfl (hb hby dd_prog_13_method_3_code_2) rfl ?_
    show Steps p.tables e below (T1.setTop (mkF m 3 #[.val (.ref o0), .val (.int x1), .unset] [(.int x1), (.ref a1)])) _
    refine XS.iconst X1.here hx rfl (hb hby dd_prog_13_method_3_code_3) ?_
    show Steps p.tables e below (T1.setTop (mkF m 4 #[.val (.ref o0), .val (.int x1), .unset] [(.int (0 : Int32)), (.int x1), (.ref a1)])) _
    refine X1.ldcInt hx hown1 (mvT hZ1 (wd102 hw)) (g := (mkF m 4 #[.val (.ref o0), .val (.int x1), .unset] [(.int (0 : Int32)), (.int x1), (.ref a1)])) rfl (hb hby dd_prog_13_method_3_code_4) _ ?_
    show Steps p.tables e below (T1.setTop (mkF m 6 #[.val (.ref o0), .val (.int x1), .unset] [(.int (31536000 : Int32)), (.int (0 : Int32)), (.int x1), (.ref a1)])) _
    refine st2 _ ?_
    show Steps p.tables e below (T2.setTop (mkF m 9 #[.val (.ref o0), .val (.int x1), .unset] [(.int x1)])) _
    refine XS.istoreN X2.here hx rfl (hb hby dd_prog_13_method_3_code_9) rfl (l' := #[.val (.ref o0), .val (.int x1), .val (.int x1)]) rfl ?_
    show Steps p.tables e below (T2.setTop (mkF m 10 #[.val (.ref o0), .val (.int x1), .val (.int x1)] [])) _
    refine XS.aloadN X2.here hx rfl (hb hby dd_prog_13_method_3_code_10) rfl rfl ?_
    show Steps p.tables e below (T2.setTop (mkF m 11 #[.val (.ref o0), .val (.int x1), .val (.int x1)] [(.ref o0)])) _
    refine st4 _ ?_
    show Steps p.tables e below (T4.setTop (mkF m 14 #[.val (.ref o0), .val (.int x1), .val (.int x1)] [.null])) _
    refine XS.ifnullYes X4.here hx rfl (pc0 := 14) (pc' := 21) rfl (hb hby dd_prog_13_method_3_code_14) rfl (by decide) (by decide) ?_
    show Steps p.tables e below (T4.setTop (mkF m 21 #[.val (.ref o0), .val (.int x1), .val (.int x1)] [])) _
    refine XS.aloadN X4.here hx rfl (hb hby dd_prog_13_method_3_code_21) rfl rfl ?_
    show Steps p.tables e below (T4.setTop (mkF m 22 #[.val (.ref o0), .val (.int x1), .val (.int x1)] [(.ref o0)])) _
    refine XS.iloadN X4.here hx rfl (hb hby dd_prog_13_method_3_code_22) rfl ?_
    show Steps p.tables e below (T4.setTop (mkF m 23 #[.val (.ref o0), .val (.int x1), .val (.int x1)] [(.int x1), (.ref o0)])) _
    refine st6 _ ?_
    show Steps p.tables e below (T6.setTop (mkF m 26 #[.val (.ref o0), .val (.int x1), .val (.int x1)] [(.ref b6_0), (.ref o0)])) _
    refine st9 _ ?_
    show Steps p.tables e below (T9.setTop (mkF m 29 #[.val (.ref o0), .val (.int x1), .val (.int x1)] [])) _
    refine XS.aloadN X9.here hx rfl (hb hby dd_prog_13_method_3_code_29) rfl rfl ?_
    show Steps p.tables e below (T9.setTop (mkF m 30 #[.val (.ref o0), .val (.int x1), .val (.int x1)] [(.ref o0)])) _
    exact retOut X9 hx Bd.returns rfl (Or.inr (Or.inr (Or.inr (Or.inr ⟨rfl, rfl, rfl⟩)))) (hb hby dd_prog_13_method_3_code_30) lhr
  · skip
    show QA52 Z o0 x1 o2 u100 u101 u102 u103 h0 n0 _ T9.heap _
    rw [e9]
    exact ⟨b6_0, rfl, N9, K9, sz_b6_0, f10, f11, f12, f13, Fw9, f14, f15, f16, f17⟩
  · skip
    show CHr Z own_EL s.vm s.heap T9.vm T9.heap
    rw [hh]
    rw [e9]
    exact CR9.trans (CHv.at X9 hZ1 hEL CR9.1)
def QA60 (Z : State) (o0 : Addr) (x1 : Int32) (o2 : Addr) (cc : Cell) (o3 : Addr) (u100 : Value) (u101 : Value) (u102 : Value) (u103 : Value) (h0 : Heap) (n0 : Nat) (v : Option Value) (h : Heap) (L : List Loc) : Prop := ∃ (c8 : Addr), v = some (.ref o0) ∧ Fr n0 L ∧ Keep h0 h [o0] ∧ Fld Z h o0 "com/example/aloq/aloq/engine/NewTask" "runAt" "Ljava/time/Instant;" .null ∧ Exa Z h c8 "java/lang/Integer" ∧ Fld Z h c8 "java/lang/Integer" "value" "I" (.int x1) ∧ Exa Z h o0 "com/example/aloq/aloq/engine/NewTask" ∧ Fld Z h o0 "com/example/aloq/aloq/engine/NewTask" "delaySeconds" "Ljava/lang/Integer;" (.ref c8) ∧ Fld Z h o0 "com/example/aloq/aloq/engine/NewTask" "maxAttempts" "I" u100 ∧ Fld Z h o0 "com/example/aloq/aloq/engine/NewTask" "retryBackoffSeconds" "I" u101 ∧ Fld Z h o0 "com/example/aloq/aloq/engine/NewTask" "queue" "Ljava/lang/String;" u102 ∧ Fld Z h o0 "com/example/aloq/aloq/engine/NewTask" "payload" "Ljava/lang/String;" u103
set_option maxRecDepth 65536 in
set_option maxHeartbeats 40000000 in
theorem rmA60 (l : Launch) (Z : State) (a0 : Array Value) (hw : ∀ d ∈ tables_1, d.before a0 Z = true) (ws : List Jvm.Cond) (o0 : Addr) (x1 : Int32) (o2 : Addr) (cc : Cell) (o3 : Addr) (u100 : Value) (u101 : Value) (u102 : Value) (u103 : Value) (h0 : Heap) (n0 : Nat) (Z0 : n0 ≤ h0.size) (hq0 : ¬ (x1 < (0 : Int32))) (hq1 : ¬ ((31536000 : Int32) < x1)) (F_o0_runAt : Fld Z h0 o0 "com/example/aloq/aloq/engine/NewTask" "runAt" "Ljava/time/Instant;" .null) (hq3 : ¬ ((127 : Int32) < x1)) (hq4 : ¬ (x1 < (-128 : Int32))) (S_high : Sta Z h0 "java/lang/Integer$IntegerCache" "high" "I" (.int (127 : Int32))) (S_cache : Sta Z h0 "java/lang/Integer$IntegerCache" "cache" "[Ljava/lang/Integer;" (.ref o2)) (Bx : Bxs Z o2 cc "java/lang/Integer" "I" (256 : Int32) (fun j => .int (j - (128 : Int32)))) (X00 : Old Z n0 h0) (E_o0 : Exa Z h0 o0 "com/example/aloq/aloq/engine/NewTask") (F_o0_delaySeconds : Fld Z h0 o0 "com/example/aloq/aloq/engine/NewTask" "delaySeconds" "Ljava/lang/Integer;" (.ref o3)) (g_o0 : n0 ≤ o0) (F_o0_maxAttempts : Fld Z h0 o0 "com/example/aloq/aloq/engine/NewTask" "maxAttempts" "I" u100) (F_o0_retryBackoffSeconds : Fld Z h0 o0 "com/example/aloq/aloq/engine/NewTask" "retryBackoffSeconds" "I" u101) (F_o0_queue : Fld Z h0 o0 "com/example/aloq/aloq/engine/NewTask" "queue" "Ljava/lang/String;" u102) (F_o0_payload : Fld Z h0 o0 "com/example/aloq/aloq/engine/NewTask" "payload" "Ljava/lang/String;" u103) :
    MetFree l (⟨"com/example/aloq/aloq/engine/NewTask", "delaySeconds", "(I)Lcom/example/aloq/aloq/engine/NewTask;"⟩ : MethodName) (head1 (Jvm.Cond.code (⟨"com/example/aloq/aloq/engine/NewTask", "delaySeconds", "(I)Lcom/example/aloq/aloq/engine/NewTask;"⟩ : MethodName) prog_13_method_3_code 3 (some (.object "com/example/aloq/aloq/engine/NewTask")) :: ws) ({ frames := 1, cells := 2, slots := 56, locals := 15 } : Room)) (fun a U => a = #[(.ref o0), (.int x1)] ∧ Z.Warmed39 U.vm ∧ U.heap = h0 ∧ CHv Z own_EL U.vm h0 ∧ ∀ x ∈ ([] : List Addr), Safe Z own_EL U.vm h0 x) (fun _ _ _ _ _ => True) (fun _ U oc_ U' => ∃ v L, oc_ = .returned v ∧ QA60 Z o0 x1 o2 cc o3 u100 u101 u102 u103 h0 n0 v U'.heap L ∧ CHr Z own_EL U.vm U.heap U'.vm U'.heap ∧ ReturnedEndW U oc_ U' L ({ frames := 1, cells := 2, slots := 56, locals := 15 } : Room).cells ({ frames := 1, cells := 2, slots := 56, locals := 15 } : Room).slots) := by
  refine MetFree.of_bodySF (plainFor_of_name pn_com_example_aloq_aloq_engine_NewTask) hisR ?_
  intro p e s m args below meth c s₁ Bd hml0 hP hK
  obtain ⟨rfl, hZ, hh, hCH, hSS⟩ := hP
  have hx := Bd.exec
  have hby := Bd.bytes
  have hml : c.maxLocals = 3 := hml0
  have hown : s.vm.findClass "com/example/aloq/aloq/engine/NewTask" = some m.cls := findClass_of_methodNamed Bd.named
  have hnm := (name_of_methodNamed Bd.named Bd.method).1
  have X0 : Stand p l e ({ frames := 1, cells := 2, slots := 56, locals := 15 } : Room) s m #[(.ref o0), (.int x1)] below meth c s₁ [] 0 0 := Stand.of_body Bd
  have e0 : s₁.heap = h0 := by rw [← hh, Bd.state]; rfl
  have N0 := Fr.nil n0
  have pre0 : ∀ t, Steps p.tables e below (s₁.setTop (mkF m 0 #[.val (.ref o0), .val (.int x1), .unset] [])) t → Steps p.tables e below (s₁.setTop (entryFrame m #[(.ref o0), (.int x1)] 3)) t := fun t k => castTop (efa_prog_13_method_3_code_vv m o0 x1) k
  have X0 : Stand p l e ({ frames := 1, cells := 2, slots := 56, locals := 15 } : Room) (s.setVm s.vm) m #[(.ref o0), (.int x1)] below meth c s₁ [] 0 0 := X0
  have hS0 : s.Since s.vm 0 := own_since0 s
  have hk0 : 0 ≤ h0.size := Nat.zero_le _
  have CR0 : CHr Z own_EL s.vm h0 s.vm h0 := CHr.refl hCH
  have hEL := own_EW a0 Z hw
  have wS : ∀ a ∈ Bundle.stringAtoms, a.before a0 Z = true := fun d hd => hw d ((by decide +kernel : ∀ d ∈ Bundle.stringAtoms, d ∈ tables_1) d hd)
  obtain ⟨a1, T1, h1, kk1, t1, kb1, X1, e1, E1, hS1, hk1, hZ1, hown1, gE1, gC1, gV1, gK1, la1, lt1, CS1, LL1, sne1, st1⟩ := ldcCH (s := s) (vm0 := s.vm) (EL := own_EL) X0 hx hZ hown (wd101 hw) wS e0 hS0 hk0 hEL (by decide) CR0.1 (vs := [(.int (100 : Int32)), (.int (101 : Int32)), (.int (108 : Int32)), (.int (97 : Int32)), (.int (121 : Int32)), (.int (95 : Int32)), (.int (115 : Int32)), (.int (101 : Int32)), (.int (99 : Int32)), (.int (111 : Int32)), (.int (110 : Int32)), (.int (100 : Int32)), (.int (115 : Int32))]) (z := (13 : Int32)) ⟨by decide +kernel, by first | rfl | decide +kernel⟩ (by decide) (by decide) (g := (mkF m 0 #[.val (.ref o0), .val (.int x1), .unset] [])) rfl (hb hby dd_prog_13_method_3_code_0) (n := 52) (by decide +kernel) (by decide) (by decide) (by decide)
  have CR1 := CR0.trans CS1
  have Z1 : n0 ≤ h1.size := Nat.le_trans Z0 E1.1
  have K1 : Keep h0 h1 [o0] := ((Keep.refl h0 [o0]).ext E1)
  obtain ⟨_, _, ⟨T2, L2, kc2, ks2⟩, -, X2, ⟨Lc2, hQ2, l2, y2, z2⟩, st2⟩ := Jvm.LawKit.callS X1 hx (y := (⟨"com/example/aloq/aloq/engine/Setting", "inRange", "(Ljava/lang/String;III)I"⟩ : MethodName)) hown1 (mvT hZ1 (wd85 hw)) (mvT hZ1 (wd86 hw)) (mvT hZ1 (wd87 hw)) (mvT hZ1 (wd88 hw)) (by decide) (backOf (W := 0) (rmA34 l Z a0 hw [] a1 x1 h1 n0 Z1 hq0 hq1) hZ1 (wd88 hw) (wd87 hw) (by decide) (by decide)) (g := (mkF m 6 #[.val (.ref o0), .val (.int x1), .unset] [(.int (31536000 : Int32)), (.int (0 : Int32)), (.int x1), (.ref a1)])) rfl (by rw [hml]; rfl) (argsL := [(.ref a1), (.int x1), (.int (0 : Int32)), (.int (31536000 : Int32))]) (rest := []) (lenOf pd__Ljava_lang_String_III_I rfl) rfl (by show 2 * 0 + _ ≤ _; exact Nat.le_of_eq rfl) (hb hby dd_prog_13_method_3_code_6) (fun _ _ => ⟨rfl, e1, (by decide : 2 + 0 ≤ _), (by decide : 56 + 0 ≤ _)⟩)
  dsimp only [Pt.U, Pt.locs, Pt.cells, Pt.slots] at X2 l2 y2 z2 st2 hQ2
  subst l2 y2 z2
  obtain ⟨rfl, Nq2, eq2⟩ := hQ2
  have N2 := Fr.app N0 Nq2
  have f3 := (F_o0_runAt.ext E1)
  obtain ⟨T4, X4, e4, st4⟩ := getF X2 hx hZ1 hown1 (host := "") (Or.inl (wd103 hw)) Via.refl eq2 f3 (g := (mkF m 11 #[.val (.ref o0), .val (.int x1), .val (.int x1)] [(.ref o0)])) rfl rfl (hb hby dd_prog_13_method_3_code_11)
  have f5 := (S_high.ext E1)
  have f6 := (S_cache.ext E1)
  have f7 := (X00.ext E1)
  obtain ⟨_, _, ⟨T8, L8, kc8, ks8⟩, -, X8, ⟨Lc8, hQ8, l8, y8, z8⟩, st8⟩ := Jvm.LawKit.callS X4 hx (y := (⟨"java/lang/Integer", "valueOf", "(I)Ljava/lang/Integer;"⟩ : MethodName)) hown1 (mvT hZ1 (wd105 hw)) (mvT hZ1 (wd106 hw)) (mvT hZ1 (wd107 hw)) (mvT hZ1 (wd108 hw)) (by decide) (backOf (W := 1) (rmVC l Z a0 hw [] x1 o2 cc h1 n0 Z1 f5 f6 Bx f7.2 hq4 hq3) hZ1 (wd108 hw) (wd107 hw) (by decide) (by decide)) (g := (mkF m 23 #[.val (.ref o0), .val (.int x1), .val (.int x1)] [(.int x1), (.ref o0)])) rfl (by rw [hml]; rfl) (argsL := [(.int x1)]) (rest := [(.ref o0)]) (lenOf pd__I_Ljava_lang_Integer_ rfl) rfl (by show 2 * 0 + _ ≤ _; exact Nat.le_of_eq rfl) (hb hby dd_prog_13_method_3_code_23) (fun _ _ => ⟨rfl, e4, (by decide : 2 + 0 ≤ _), (by decide : 56 + 0 ≤ _)⟩)
  dsimp only [Pt.U, Pt.locs, Pt.cells, Pt.slots] at X8 l8 y8 z8 st8 hQ8
  subst l8 y8 z8
  obtain ⟨c8, rfl, Nq8, eq8, gE8, gF8⟩ := hQ8
  have N8 := Fr.app N2 Nq8
  rw [eq8] at gE8 gF8
  have f9 := (E_o0.ext E1)
  have f10 := (F_o0_delaySeconds.ext E1)
  obtain ⟨T11, h11, X11, e11, W11, st11⟩ := putF X8 hx hZ1 hown1 (host := "") (Or.inl (wd94 hw)) Via.refl eq8 f10 f9 (Or.inl (wd95 hw)) (wd3 hw) (ty := (.object "java/lang/Integer")) (by decide) rfl rfl (g := (mkF m 26 #[.val (.ref o0), .val (.int x1), .val (.int x1)] [(.ref c8), (.ref o0)])) rfl rfl (hb hby dd_prog_13_method_3_code_26)
  have CS11 := CHr.wr W11 (Safe.exa hZ1.alike f9 (by decide) (by decide)) CR1.1
  have CR11 := CR1.trans CS11
  have hk11 : _ ≤ h11.size := Nat.le_trans hk1 (Nat.le_of_eq W11.size.symm)
  have N11 := Fr.snoc X11 N8 g_o0
  have Z11 : n0 ≤ h11.size := by rw [W11.size]; exact Z1
  have K11 : Keep h0 h11 [o0] := (K1.wr W11 (Or.inl (List.mem_of_getElem? (i := 0) rfl)))
  have Fw11 := f10.same W11
  have f12 := (f3.other W11 (Or.inr (slot_ne (Or.inl (wd104 hw)) (Or.inl (wd95 hw)) (by decide) (t := (.object "java/time/Instant")) (t' := (.object "java/lang/Integer")) (by decide) (by decide))))
  have f13 := (gE8.wr W11)
  have f14 := (f9.wr W11)
  have f15 := (gF8.other W11 (Or.inl (Exa.ne f13 f14 (by decide))))
  have f16 := ((F_o0_maxAttempts.ext E1).other W11 (Or.inr (slot_ne (Or.inl (wd21 hw)) (Or.inl (wd95 hw)) (by decide) (t := .int) (t' := (.object "java/lang/Integer")) (by decide) (by decide))))
  have f17 := ((F_o0_retryBackoffSeconds.ext E1).other W11 (Or.inr (slot_ne (Or.inl (wd23 hw)) (Or.inl (wd95 hw)) (by decide) (t := .int) (t' := (.object "java/lang/Integer")) (by decide) (by decide))))
  have f18 := ((F_o0_queue.ext E1).other W11 (Or.inr (slot_ne (Or.inr (wd69 hw)) (Or.inl (wd95 hw)) (by decide) (t := (.object "java/lang/String")) (t' := (.object "java/lang/Integer")) (by decide) (by decide))))
  have f19 := ((F_o0_payload.ext E1).other W11 (Or.inr (slot_ne (Or.inr (wd78 hw)) (Or.inl (wd95 hw)) (by decide) (t := (.object "java/lang/String")) (t' := (.object "java/lang/Integer")) (by decide) (by decide))))
  obtain ⟨lfs, lhr, lhrun, lhended, lhE⟩ := X11.leaveW hS1 (by rw [e11]; exact hk11) (v := some (.ref o0)) (fun h => by rw [Bd.returns] at h; cases h)
  refine ⟨_, _, pre0 _ ?_, lhrun, lhended, _, _, rfl, ?_, ?_, lhE.1, lhE.2.1, lhE.2.2.1, lhE.2.2.2.mono (by decide) (by decide)⟩
  · skip
    show Steps p.tables e below (s₁.setTop (mkF m 0 #[.val (.ref o0), .val (.int x1), .unset] [])) _
    refine st1 _ ?_
    show Steps p.tables e below (T1.setTop (mkF m 2 #[.val (.ref o0), .val (.int x1), .unset] [(.ref a1)])) _
    refine XS.iloadN X1.here hx rfl (hb hby dd_prog_13_method_3_code_2) rfl ?_
    show Steps p.tables e below (T1.setTop (mkF m 3 #[.val (.ref o0), .val (.int x1), .unset] [(.int x1), (.ref a1)])) _
    refine XS.iconst X1.here hx rfl (hb hby dd_prog_13_method_3_code_3) ?_
    show Steps p.tables e below (T1.setTop (mkF m 4 #[.val (.ref o0), .val (.int x1), .unset] [(.int (0 : Int32)), (.int x1), (.ref a1)])) _
    refine X1.ldcInt hx hown1 (mvT hZ1 (wd102 hw)) (g := (mkF m 4 #[.val (.ref o0), .val (.int x1), .unset] [(.int (0 : Int32)), (.int x1), (.ref a1)])) rfl (hb hby dd_prog_13_method_3_code_4) _ ?_
    show Steps p.tables e below (T1.setTop (mkF m 6 #[.val (.ref o0), .val (.int x1), .unset] [(.int (31536000 : Int32)), (.int (0 : Int32)), (.int x1), (.ref a1)])) _
    refine st2 _ ?_
    show Steps p.tables e below (T2.setTop (mkF m 9 #[.val (.ref o0), .val (.int x1), .unset] [(.int x1)])) _
    refine XS.istoreN X2.here hx rfl (hb hby dd_prog_13_method_3_code_9) rfl (l' := #[.val (.ref o0), .val (.int x1), .val (.int x1)]) rfl ?_
    show Steps p.tables e below (T2.setTop (mkF m 10 #[.val (.ref o0), .val (.int x1), .val (.int x1)] [])) _
    refine XS.aloadN X2.here hx rfl (hb hby dd_prog_13_method_3_code_10) rfl rfl ?_
    show Steps p.tables e below (T2.setTop (mkF m 11 #[.val (.ref o0), .val (.int x1), .val (.int x1)] [(.ref o0)])) _
    refine st4 _ ?_
    show Steps p.tables e below (T4.setTop (mkF m 14 #[.val (.ref o0), .val (.int x1), .val (.int x1)] [.null])) _
    refine XS.ifnullYes X4.here hx rfl (pc0 := 14) (pc' := 21) rfl (hb hby dd_prog_13_method_3_code_14) rfl (by decide) (by decide) ?_
    show Steps p.tables e below (T4.setTop (mkF m 21 #[.val (.ref o0), .val (.int x1), .val (.int x1)] [])) _
    refine XS.aloadN X4.here hx rfl (hb hby dd_prog_13_method_3_code_21) rfl rfl ?_
    show Steps p.tables e below (T4.setTop (mkF m 22 #[.val (.ref o0), .val (.int x1), .val (.int x1)] [(.ref o0)])) _
    refine XS.iloadN X4.here hx rfl (hb hby dd_prog_13_method_3_code_22) rfl ?_
    show Steps p.tables e below (T4.setTop (mkF m 23 #[.val (.ref o0), .val (.int x1), .val (.int x1)] [(.int x1), (.ref o0)])) _
    refine st8 _ ?_
    show Steps p.tables e below (T8.setTop (mkF m 26 #[.val (.ref o0), .val (.int x1), .val (.int x1)] [(.ref c8), (.ref o0)])) _
    refine st11 _ ?_
    show Steps p.tables e below (T11.setTop (mkF m 29 #[.val (.ref o0), .val (.int x1), .val (.int x1)] [])) _
    refine XS.aloadN X11.here hx rfl (hb hby dd_prog_13_method_3_code_29) rfl rfl ?_
    show Steps p.tables e below (T11.setTop (mkF m 30 #[.val (.ref o0), .val (.int x1), .val (.int x1)] [(.ref o0)])) _
    exact retOut X11 hx Bd.returns rfl (Or.inr (Or.inr (Or.inr (Or.inr ⟨rfl, rfl, rfl⟩)))) (hb hby dd_prog_13_method_3_code_30) lhr
  · skip
    show QA60 Z o0 x1 o2 cc o3 u100 u101 u102 u103 h0 n0 _ T11.heap _
    rw [e11]
    exact ⟨c8, rfl, N11, K11, f12, f13, f15, f14, Fw11, f16, f17, f18, f19⟩
  · skip
    show CHr Z own_EL s.vm s.heap T11.vm T11.heap
    rw [hh]
    rw [e11]
    exact CR11.trans (CHv.at X11 hZ1 hEL CR11.1)
theorem ef_0 (m : MethodId) (x0 : Int32) (x1 : Int32) (x2 : Int32) : entryFrame m #[(.int x0), (.int x1), (.int x2)] maxLocals = mkF m 0 #[.val (.int x0), .val (.int x1), .val (.int x2), .unset, .unset, .unset, .unset, .unset, .unset] [] := by first | (simp [entryFrame, mkF, argsToLocals, Value.category, maxLocals]; done) | rfl
theorem pn_com_example_aloq_aloq_engine_NewTaskDelaySecondsPinLaw : plainName "com/example/aloq/aloq/engine/NewTaskDelaySecondsPinLaw" = true := by first | (simp [plainName, overriddenIn]; done) | decide +kernel
theorem pd__Ljava_lang_String_Ljava_lang_String__V : parseMethodDescriptor "(Ljava/lang/String;Ljava/lang/String;)V" = some ⟨[(.object "java/lang/String"), (.object "java/lang/String")], none⟩ := by decide +kernel
theorem pd__I_Lcom_example_aloq_aloq_engine_NewTask_ : parseMethodDescriptor "(I)Lcom/example/aloq/aloq/engine/NewTask;" = some ⟨[.int], some (.object "com/example/aloq/aloq/engine/NewTask")⟩ := by decide +kernel
def Q0 (Z : State) (x0 : Int32) (x1 : Int32) (x2 : Int32) (G1 : Int32) (G3 : Value) (ac : Addr) (cc : Cell) (h0 : Heap) (n0 : Nat) (v : Option Value) (h : Heap) (L : List Loc) : Prop := v = some (.int 1) ∧ Fr n0 L
set_option maxRecDepth 65536 in
set_option maxHeartbeats 40000000 in
theorem rm0 (l : Launch) (Z : State) (a0 : Array Value) (hw : ∀ d ∈ tables_1, d.before a0 Z = true) (ws : List Jvm.Cond) (x0 : Int32) (x1 : Int32) (x2 : Int32) (G1 : Int32) (G3 : Value) (ac : Addr) (cc : Cell) (h0 : Heap) (n0 : Nat) (Z0 : n0 ≤ h0.size) (O2 : Sta Z Z.heap "java/lang/String" "COMPACT_STRINGS" "Z" (.int G1)) (P5 : ¬ (G1 = (0 : Int32))) (X00 : Old Z n0 h0) (O4 : Sta Z Z.heap "jdk/internal/util/Preconditions" "SIOOBE_FORMATTER" "Ljava/util/function/BiFunction;" G3) (rG3 : G3.isRef = true) (S_h : Sta Z Z.heap "java/lang/Integer$IntegerCache" "high" "I" (.int (127 : Int32))) (S_c : Sta Z Z.heap "java/lang/Integer$IntegerCache" "cache" "[Ljava/lang/Integer;" (.ref ac)) (Bx : Bxs Z ac cc "java/lang/Integer" "I" (256 : Int32) (fun j => .int (j - (128 : Int32)))) :
    MetFree l x (head1 (Jvm.Cond.code x code maxLocals ret :: ws) room_1) (fun a U => a = #[(.int x0), (.int x1), (.int x2)] ∧ Z.Warmed39 U.vm ∧ U.heap = h0 ∧ CHv Z own_EL U.vm h0 ∧ ∀ x ∈ ([] : List Addr), Safe Z own_EL U.vm h0 x) (fun _ _ _ _ _ => True) (fun _ U oc_ U' => ∃ v L, oc_ = .returned v ∧ Q0 Z x0 x1 x2 G1 G3 ac cc h0 n0 v U'.heap L ∧ CHr Z own_EL U.vm U.heap U'.vm U'.heap ∧ ReturnedEndW U oc_ U' L 24 5248) := by
  refine MetFree.of_bodySF (plainFor_of_name pn_com_example_aloq_aloq_engine_NewTaskDelaySecondsPinLaw) hisR ?_
  intro p e s m args below meth c s₁ Bd hml0 hP hK
  obtain ⟨rfl, hZ, hh, hCH, hSS⟩ := hP
  have hx := Bd.exec
  have hby := Bd.bytes
  have hml : c.maxLocals = 9 := hml0
  have hown : s.vm.findClass "com/example/aloq/aloq/engine/NewTaskDelaySecondsPinLaw" = some m.cls := findClass_of_methodNamed Bd.named
  have hnm := (name_of_methodNamed Bd.named Bd.method).1
  have X0 : Stand p l e room_1 s m #[(.int x0), (.int x1), (.int x2)] below meth c s₁ [] 0 0 := Stand.of_body Bd
  have e0 : s₁.heap = h0 := by rw [← hh, Bd.state]; rfl
  have N0 := Fr.nil n0
  have pre0 : ∀ t, Steps p.tables e below (s₁.setTop (mkF m 0 #[.val (.int x0), .val (.int x1), .val (.int x2), .unset, .unset, .unset, .unset, .unset, .unset] [])) t → Steps p.tables e below (s₁.setTop (entryFrame m #[(.int x0), (.int x1), (.int x2)] maxLocals)) t := fun t k => castTop (ef_0 m x0 x1 x2) k
  have X0 : Stand p l e room_1 (s.setVm s.vm) m #[(.int x0), (.int x1), (.int x2)] below meth c s₁ [] 0 0 := X0
  have hS0 : s.Since s.vm 0 := own_since0 s
  have hk0 : 0 ≤ h0.size := Nat.zero_le _
  have CR0 : CHr Z own_EL s.vm h0 s.vm h0 := CHr.refl hCH
  have hEL := own_EW a0 Z hw
  have wS : ∀ a ∈ Bundle.stringAtoms, a.before a0 Z = true := fun d hd => hw d ((by decide +kernel : ∀ d ∈ Bundle.stringAtoms, d ∈ tables_1) d hd)
  have k1 : ∀ t, Steps p.tables e below (s₁.setTop (mkF m 28 #[.val (.int x0), .val (.int x1), .val (.int x2), .val (.int ((x1 &&& (2147483647 : Int32)) % (31536001 : Int32))), .val (.int ((x2 &&& (2147483647 : Int32)) % (31536001 : Int32))), .val (.int (((x2 &&& (2147483647 : Int32)) % (100 : Int32)) + (1 : Int32))), .unset, .unset, .unset] [])) t → Steps p.tables e below (s₁.setTop (entryFrame m #[(.int x0), (.int x1), (.int x2)] maxLocals)) t := by
    intro t kt
    refine pre0 t ?_
    show Steps p.tables e below (s₁.setTop (mkF m 0 #[.val (.int x0), .val (.int x1), .val (.int x2), .unset, .unset, .unset, .unset, .unset, .unset] [])) _
    refine XS.iloadN X0.here hx rfl (hb hby at_0) rfl ?_
    show Steps p.tables e below (s₁.setTop (mkF m 1 #[.val (.int x0), .val (.int x1), .val (.int x2), .unset, .unset, .unset, .unset, .unset, .unset] [(.int x1)])) _
    refine X0.ldcInt hx hown (mvT hZ (wd0 hw)) (g := (mkF m 1 #[.val (.int x0), .val (.int x1), .val (.int x2), .unset, .unset, .unset, .unset, .unset, .unset] [(.int x1)])) rfl (hb hby at_1) _ ?_
    show Steps p.tables e below (s₁.setTop (mkF m 3 #[.val (.int x0), .val (.int x1), .val (.int x2), .unset, .unset, .unset, .unset, .unset, .unset] [(.int (2147483647 : Int32)), (.int x1)])) _
    refine XS.iand X0.here hx rfl (hb hby at_3) rfl ?_
    show Steps p.tables e below (s₁.setTop (mkF m 4 #[.val (.int x0), .val (.int x1), .val (.int x2), .unset, .unset, .unset, .unset, .unset, .unset] [(.int (x1 &&& (2147483647 : Int32)))])) _
    refine X0.ldcInt hx hown (mvT hZ (wd1 hw)) (g := (mkF m 4 #[.val (.int x0), .val (.int x1), .val (.int x2), .unset, .unset, .unset, .unset, .unset, .unset] [(.int (x1 &&& (2147483647 : Int32)))])) rfl (hb hby at_4) _ ?_
    show Steps p.tables e below (s₁.setTop (mkF m 6 #[.val (.int x0), .val (.int x1), .val (.int x2), .unset, .unset, .unset, .unset, .unset, .unset] [(.int (31536001 : Int32)), (.int (x1 &&& (2147483647 : Int32)))])) _
    refine iremM X0 hx rfl (hb hby at_6) rfl (by decide) ?_
    show Steps p.tables e below (s₁.setTop (mkF m 7 #[.val (.int x0), .val (.int x1), .val (.int x2), .unset, .unset, .unset, .unset, .unset, .unset] [(.int ((x1 &&& (2147483647 : Int32)) % (31536001 : Int32)))])) _
    refine XS.istoreN X0.here hx rfl (hb hby at_7) rfl (l' := #[.val (.int x0), .val (.int x1), .val (.int x2), .val (.int ((x1 &&& (2147483647 : Int32)) % (31536001 : Int32))), .unset, .unset, .unset, .unset, .unset]) rfl ?_
    show Steps p.tables e below (s₁.setTop (mkF m 8 #[.val (.int x0), .val (.int x1), .val (.int x2), .val (.int ((x1 &&& (2147483647 : Int32)) % (31536001 : Int32))), .unset, .unset, .unset, .unset, .unset] [])) _
    refine XS.iloadN X0.here hx rfl (hb hby at_8) rfl ?_
    show Steps p.tables e below (s₁.setTop (mkF m 9 #[.val (.int x0), .val (.int x1), .val (.int x2), .val (.int ((x1 &&& (2147483647 : Int32)) % (31536001 : Int32))), .unset, .unset, .unset, .unset, .unset] [(.int x2)])) _
    refine X0.ldcInt hx hown (mvT hZ (wd0 hw)) (g := (mkF m 9 #[.val (.int x0), .val (.int x1), .val (.int x2), .val (.int ((x1 &&& (2147483647 : Int32)) % (31536001 : Int32))), .unset, .unset, .unset, .unset, .unset] [(.int x2)])) rfl (hb hby at_9) _ ?_
    show Steps p.tables e below (s₁.setTop (mkF m 11 #[.val (.int x0), .val (.int x1), .val (.int x2), .val (.int ((x1 &&& (2147483647 : Int32)) % (31536001 : Int32))), .unset, .unset, .unset, .unset, .unset] [(.int (2147483647 : Int32)), (.int x2)])) _
    refine XS.iand X0.here hx rfl (hb hby at_11) rfl ?_
    show Steps p.tables e below (s₁.setTop (mkF m 12 #[.val (.int x0), .val (.int x1), .val (.int x2), .val (.int ((x1 &&& (2147483647 : Int32)) % (31536001 : Int32))), .unset, .unset, .unset, .unset, .unset] [(.int (x2 &&& (2147483647 : Int32)))])) _
    refine X0.ldcInt hx hown (mvT hZ (wd1 hw)) (g := (mkF m 12 #[.val (.int x0), .val (.int x1), .val (.int x2), .val (.int ((x1 &&& (2147483647 : Int32)) % (31536001 : Int32))), .unset, .unset, .unset, .unset, .unset] [(.int (x2 &&& (2147483647 : Int32)))])) rfl (hb hby at_12) _ ?_
    show Steps p.tables e below (s₁.setTop (mkF m 14 #[.val (.int x0), .val (.int x1), .val (.int x2), .val (.int ((x1 &&& (2147483647 : Int32)) % (31536001 : Int32))), .unset, .unset, .unset, .unset, .unset] [(.int (31536001 : Int32)), (.int (x2 &&& (2147483647 : Int32)))])) _
    refine iremM X0 hx rfl (hb hby at_14) rfl (by decide) ?_
    show Steps p.tables e below (s₁.setTop (mkF m 15 #[.val (.int x0), .val (.int x1), .val (.int x2), .val (.int ((x1 &&& (2147483647 : Int32)) % (31536001 : Int32))), .unset, .unset, .unset, .unset, .unset] [(.int ((x2 &&& (2147483647 : Int32)) % (31536001 : Int32)))])) _
    refine XS.istore X0.here hx rfl (hb hby at_15) rfl (l' := #[.val (.int x0), .val (.int x1), .val (.int x2), .val (.int ((x1 &&& (2147483647 : Int32)) % (31536001 : Int32))), .val (.int ((x2 &&& (2147483647 : Int32)) % (31536001 : Int32))), .unset, .unset, .unset, .unset]) rfl ?_
    show Steps p.tables e below (s₁.setTop (mkF m 17 #[.val (.int x0), .val (.int x1), .val (.int x2), .val (.int ((x1 &&& (2147483647 : Int32)) % (31536001 : Int32))), .val (.int ((x2 &&& (2147483647 : Int32)) % (31536001 : Int32))), .unset, .unset, .unset, .unset] [])) _
    refine XS.iloadN X0.here hx rfl (hb hby at_17) rfl ?_
    show Steps p.tables e below (s₁.setTop (mkF m 18 #[.val (.int x0), .val (.int x1), .val (.int x2), .val (.int ((x1 &&& (2147483647 : Int32)) % (31536001 : Int32))), .val (.int ((x2 &&& (2147483647 : Int32)) % (31536001 : Int32))), .unset, .unset, .unset, .unset] [(.int x2)])) _
    refine X0.ldcInt hx hown (mvT hZ (wd0 hw)) (g := (mkF m 18 #[.val (.int x0), .val (.int x1), .val (.int x2), .val (.int ((x1 &&& (2147483647 : Int32)) % (31536001 : Int32))), .val (.int ((x2 &&& (2147483647 : Int32)) % (31536001 : Int32))), .unset, .unset, .unset, .unset] [(.int x2)])) rfl (hb hby at_18) _ ?_
    show Steps p.tables e below (s₁.setTop (mkF m 20 #[.val (.int x0), .val (.int x1), .val (.int x2), .val (.int ((x1 &&& (2147483647 : Int32)) % (31536001 : Int32))), .val (.int ((x2 &&& (2147483647 : Int32)) % (31536001 : Int32))), .unset, .unset, .unset, .unset] [(.int (2147483647 : Int32)), (.int x2)])) _
    refine XS.iand X0.here hx rfl (hb hby at_20) rfl ?_
    show Steps p.tables e below (s₁.setTop (mkF m 21 #[.val (.int x0), .val (.int x1), .val (.int x2), .val (.int ((x1 &&& (2147483647 : Int32)) % (31536001 : Int32))), .val (.int ((x2 &&& (2147483647 : Int32)) % (31536001 : Int32))), .unset, .unset, .unset, .unset] [(.int (x2 &&& (2147483647 : Int32)))])) _
    refine XS.bipush X0.here hx rfl (hb hby at_21) ?_
    show Steps p.tables e below (s₁.setTop (mkF m 23 #[.val (.int x0), .val (.int x1), .val (.int x2), .val (.int ((x1 &&& (2147483647 : Int32)) % (31536001 : Int32))), .val (.int ((x2 &&& (2147483647 : Int32)) % (31536001 : Int32))), .unset, .unset, .unset, .unset] [(.int (100 : Int32)), (.int (x2 &&& (2147483647 : Int32)))])) _
    refine iremM X0 hx rfl (hb hby at_23) rfl (by decide) ?_
    show Steps p.tables e below (s₁.setTop (mkF m 24 #[.val (.int x0), .val (.int x1), .val (.int x2), .val (.int ((x1 &&& (2147483647 : Int32)) % (31536001 : Int32))), .val (.int ((x2 &&& (2147483647 : Int32)) % (31536001 : Int32))), .unset, .unset, .unset, .unset] [(.int ((x2 &&& (2147483647 : Int32)) % (100 : Int32)))])) _
    refine XS.iconst X0.here hx rfl (hb hby at_24) ?_
    show Steps p.tables e below (s₁.setTop (mkF m 25 #[.val (.int x0), .val (.int x1), .val (.int x2), .val (.int ((x1 &&& (2147483647 : Int32)) % (31536001 : Int32))), .val (.int ((x2 &&& (2147483647 : Int32)) % (31536001 : Int32))), .unset, .unset, .unset, .unset] [(.int (1 : Int32)), (.int ((x2 &&& (2147483647 : Int32)) % (100 : Int32)))])) _
    refine XS.iadd X0.here hx rfl (hb hby at_25) rfl ?_
    show Steps p.tables e below (s₁.setTop (mkF m 26 #[.val (.int x0), .val (.int x1), .val (.int x2), .val (.int ((x1 &&& (2147483647 : Int32)) % (31536001 : Int32))), .val (.int ((x2 &&& (2147483647 : Int32)) % (31536001 : Int32))), .unset, .unset, .unset, .unset] [(.int (((x2 &&& (2147483647 : Int32)) % (100 : Int32)) + (1 : Int32)))])) _
    refine XS.istore X0.here hx rfl (hb hby at_26) rfl (l' := #[.val (.int x0), .val (.int x1), .val (.int x2), .val (.int ((x1 &&& (2147483647 : Int32)) % (31536001 : Int32))), .val (.int ((x2 &&& (2147483647 : Int32)) % (31536001 : Int32))), .val (.int (((x2 &&& (2147483647 : Int32)) % (100 : Int32)) + (1 : Int32))), .unset, .unset, .unset]) rfl ?_
    exact kt
  obtain ⟨d1, h_d1⟩ : ∃ z : Int32, z = ((x1 &&& (2147483647 : Int32)) % (31536001 : Int32)) := ⟨_, rfl⟩
  rw [← h_d1] at k1
  have b_d1 := own_d x1
  rw [← h_d1] at b_d1
  have k0_d1 : ¬ (d1 < (0 : Int32)) := fun q => by
    rw [Int32.lt_iff_toInt_lt] at q
    have z1 : (0 : Int32).toInt = 0 := rfl
    omega
  have k1_d1 : ¬ ((31536000 : Int32) < d1) := fun q => by
    rw [Int32.lt_iff_toInt_lt] at q
    have z1 : (31536000 : Int32).toInt = 31536000 := rfl
    omega
  have k2_d1 : ¬ (d1 < (-128 : Int32)) := fun q => by
    rw [Int32.lt_iff_toInt_lt] at q
    have z1 : (-128 : Int32).toInt = -128 := rfl
    omega
  obtain ⟨d2, h_d2⟩ : ∃ z : Int32, z = ((x2 &&& (2147483647 : Int32)) % (31536001 : Int32)) := ⟨_, rfl⟩
  rw [← h_d2] at k1
  have b_d2 := own_d x2
  rw [← h_d2] at b_d2
  have k0_d2 : ¬ (d2 < (0 : Int32)) := fun q => by
    rw [Int32.lt_iff_toInt_lt] at q
    have z1 : (0 : Int32).toInt = 0 := rfl
    omega
  have k1_d2 : ¬ ((31536000 : Int32) < d2) := fun q => by
    rw [Int32.lt_iff_toInt_lt] at q
    have z1 : (31536000 : Int32).toInt = 31536000 := rfl
    omega
  have k2_d2 : ¬ (d2 < (-128 : Int32)) := fun q => by
    rw [Int32.lt_iff_toInt_lt] at q
    have z1 : (-128 : Int32).toInt = -128 := rfl
    omega
  obtain ⟨at1, h_at1⟩ : ∃ z : Int32, z = (((x2 &&& (2147483647 : Int32)) % (100 : Int32)) + (1 : Int32)) := ⟨_, rfl⟩
  rw [← h_at1] at k1
  have b_at1 := own_at x2
  rw [← h_at1] at b_at1
  have k0_at1 : ¬ (at1 < (1 : Int32)) := fun q => by
    rw [Int32.lt_iff_toInt_lt] at q
    have z1 : (1 : Int32).toInt = 1 := rfl
    omega
  have k1_at1 : ¬ ((100 : Int32) < at1) := fun q => by
    rw [Int32.lt_iff_toInt_lt] at q
    have z1 : (100 : Int32).toInt = 100 := rfl
    omega
  obtain ⟨T2, h2, X2, e2, E2, A2, D2, -, st2⟩ := newO X0 hx hZ hown (wd2 hw) (wd3 hw) (wd4 hw) e0 (g := (mkF m 28 #[.val (.int x0), .val (.int x1), .val (.int x2), .val (.int d1), .val (.int d2), .val (.int at1), .unset, .unset, .unset] [])) rfl (hb hby at_28) (by decide) (by decide)
  obtain ⟨b2, g2⟩ : ∃ z, z = h0.size := ⟨_, rfl⟩
  rw [← g2] at A2 D2 st2
  have ge_b2 : n0 ≤ b2 := Nat.le_trans Z0 (Nat.le_of_eq g2.symm)
  have sz_b2 : h0.size ≤ b2 := Nat.le_trans (Nat.le_refl _) (Nat.le_of_eq g2.symm)
  have CS2 := CHr.ext E2 CR0.1
  have CR2 := CR0.trans CS2
  have hk2 : _ ≤ h2.size := Nat.le_trans hk0 E2.1
  have Z2 : n0 ≤ h2.size := Nat.le_trans Z0 E2.1
  have K2 : Keep h0 h2 [] := ((Keep.refl h0 []).ext E2)
  have F2_maxAttempts : Fld Z h2 b2 "com/example/aloq/aloq/engine/NewTask" "maxAttempts" "I" (.int (0 : Int32)) := D2 (Or.inl (wd21 hw)) (ty := .int) (by decide)
  have F2_retryBackoffSeconds : Fld Z h2 b2 "com/example/aloq/aloq/engine/NewTask" "retryBackoffSeconds" "I" (.int (0 : Int32)) := D2 (Or.inl (wd23 hw)) (ty := .int) (by decide)
  have F2_queue : Fld Z h2 b2 "com/example/aloq/aloq/engine/NewTask" "queue" "Ljava/lang/String;" .null := D2 (Or.inr (wd69 hw)) (ty := (.object "java/lang/String")) (by decide)
  have F2_payload : Fld Z h2 b2 "com/example/aloq/aloq/engine/NewTask" "payload" "Ljava/lang/String;" .null := D2 (Or.inr (wd78 hw)) (ty := (.object "java/lang/String")) (by decide)
  have F2_delaySeconds : Fld Z h2 b2 "com/example/aloq/aloq/engine/NewTask" "delaySeconds" "Ljava/lang/Integer;" .null := D2 (Or.inl (wd95 hw)) (ty := (.object "java/lang/Integer")) (by decide)
  have F2_runAt : Fld Z h2 b2 "com/example/aloq/aloq/engine/NewTask" "runAt" "Ljava/time/Instant;" .null := D2 (Or.inl (wd104 hw)) (ty := (.object "java/time/Instant")) (by decide)
  obtain ⟨a3, T3, h3, kk3, t3, kb3, X3, e3, E3, hS3, hk3, hZ3, hown3, gE3, gC3, gV3, gK3, la3, lt3, CS3, LL3, sne3, st3⟩ := ldcCH (s := s) (vm0 := s.vm) (EL := own_EL) X2 hx hZ hown (wd5 hw) wS e2 hS0 hk2 hEL (by decide) CR2.1 (vs := [(.int (113 : Int32))]) (z := (1 : Int32)) ⟨by decide +kernel, by first | rfl | decide +kernel⟩ (by decide) (by decide) (g := (mkF m 32 #[.val (.int x0), .val (.int x1), .val (.int x2), .val (.int d1), .val (.int d2), .val (.int at1), .unset, .unset, .unset] [(.ref b2), (.ref b2)])) rfl (hb hby at_32) (n := 4) (by decide +kernel) (by decide) (by decide) (by decide)
  have CR3 := CR2.trans CS3
  have Z3 : n0 ≤ h3.size := Nat.le_trans Z2 E3.1
  have K3 : Keep h0 h3 [] := (K2.ext E3)
  have f4 := (A2.ext E3)
  have nn_b2_3 := sne3 b2 (Safe.exa hZ3.alike f4 (by decide) (by decide))
  obtain ⟨a5, T5, h5, kk5, t5, kb5, X5, e5, E5, hS5, hk5, hZ5, hown5, gE5, gC5, gV5, gK5, la5, lt5, CS5, LL5, sne5, st5⟩ := ldcCH (s := s) (vm0 := T3.vm) (EL := own_EL) X3 hx hZ3 hown3 (wd13 hw) wS e3 hS3 hk3 hEL (by decide) CR3.1 (vs := [(.int (123 : Int32)), (.int (125 : Int32))]) (z := (2 : Int32)) ⟨by decide +kernel, by first | rfl | decide +kernel⟩ (by decide) (by decide) (g := (mkF m 34 #[.val (.int x0), .val (.int x1), .val (.int x2), .val (.int d1), .val (.int d2), .val (.int at1), .unset, .unset, .unset] [(.ref a3), (.ref b2), (.ref b2)])) rfl (hb hby at_34) (n := 8) (by decide +kernel) (by decide) (by decide) (by decide)
  have CR5 := CR3.trans CS5
  have Z5 : n0 ≤ h5.size := Nat.le_trans Z3 E5.1
  have K5 : Keep h0 h5 [] := (K3.ext E5)
  have f6 := (f4.ext E5)
  have nn_b2_5 := sne5 b2 (Safe.exa hZ5.alike f6 (by decide) (by decide))
  have f7 := ((F2_maxAttempts.ext E3).ext E5)
  have f8 := ((F2_retryBackoffSeconds.ext E3).ext E5)
  have f9 := (gV3.ext E5)
  have f10 := (gK3.ext E5)
  have f11 := (((X00.ext E2).ext E3).ext E5)
  have f12 := (gC3.ext E5)
  have f13 := ((F2_queue.ext E3).ext E5)
  have f14 := ((F2_payload.ext E3).ext E5)
  have f15 := ((F2_delaySeconds.ext E3).ext E5)
  have f16 := ((F2_runAt.ext E3).ext E5)
  have f17 := (gE3.ext E5)
  obtain ⟨_, _, ⟨T18, L18, kc18, ks18⟩, -, X18, hSq18, hgr18, ⟨Lc18, hQ18, l18, y18, z18, CS18⟩, st18⟩ := X5.specialBackS hx (y := (⟨"com/example/aloq/aloq/engine/NewTask", "<init>", "(Ljava/lang/String;Ljava/lang/String;)V"⟩ : MethodName)) rfl hown5 (mvT hZ5 (wd14 hw)) (mvT hZ5 (wd15 hw)) (mvT hZ5 (wd16 hw)) (by decide) (own_backSafe (s := s) (vm0 := T5.vm) (EL := own_EL) (ss := []) (W := 1) (rmA15 l Z a0 hw [] b2 a3 a5 t3 _ G1 G3 .null .null h5 n0 Z5 f6 f7 ge_b2 f8 f9 (Ne.symm nn_b2_3.1) f10 (Ne.symm nn_b2_3.2) (O2.ext f11.2) P5 f12 (O4.ext f11.2) f17 rG3 f13 gE5 f14 f15 f16) hZ5 (wd16 hw) (wd4 hw) (by decide) (by decide) hEL CR5.1 all0) (g := (mkF m 36 #[.val (.int x0), .val (.int x1), .val (.int x2), .val (.int d1), .val (.int d2), .val (.int at1), .unset, .unset, .unset] [(.ref a5), (.ref a3), (.ref b2), (.ref b2)])) rfl (by rw [hml]; rfl) (Steps.refl _) (a := b2) (argsL := [(.ref a3), (.ref a5)]) (rest := [(.ref b2)]) (lenOf pd__Ljava_lang_String_Ljava_lang_String__V rfl) rfl (by show 2 * 0 + _ ≤ _; exact Nat.le_of_eq rfl) (hb hby at_36) (fun _ _ => ⟨rfl, e5, (by decide : 5 + 2 ≤ _), (by decide : 27 + 32 ≤ _)⟩)
  dsimp only [Pt.U, Pt.locs, Pt.cells, Pt.slots] at X18 l18 y18 z18 st18 hQ18 hSq18 hgr18 CS18
  subst l18 y18 z18
  obtain ⟨X18, hS18, hZ18, hown18⟩ := rebS hS5 hk5 X18 hSq18 (by rw [e5] at hgr18; exact hgr18) hZ5 hown5
  obtain ⟨rfl, Nq18, Kq18, g18_0, g18_1, g18_2, g18_3, g18_4, g18_5, g18_6⟩ := hQ18
  have N18 := Fr.app N0 Nq18
  have CR18 := CR5.trans CS18
  have Z18 : n0 ≤ T18.heap.size := Nat.le_trans Z5 Kq18.1
  have K18 : Keep h0 T18.heap [] := Keep.trans K5 Kq18 (allS (Or.inr sz_b2) all0)
  have k19 : ∀ t, Steps p.tables e below (T18.setTop (mkF m 46 #[.val (.int x0), .val (.int x1), .val (.int x2), .val (.int d1), .val (.int d2), .val (.int at1), .val (.ref b2), .val (.int (x0 &&& (3 : Int32))), .unset] [])) t → Steps p.tables e below (s₁.setTop (entryFrame m #[(.int x0), (.int x1), (.int x2)] maxLocals)) t := by
    intro t kt
    refine k1 t ?_
    show Steps p.tables e below (s₁.setTop (mkF m 28 #[.val (.int x0), .val (.int x1), .val (.int x2), .val (.int d1), .val (.int d2), .val (.int at1), .unset, .unset, .unset] [])) _
    refine st2 _ ?_
    show Steps p.tables e below (T2.setTop (mkF m 31 #[.val (.int x0), .val (.int x1), .val (.int x2), .val (.int d1), .val (.int d2), .val (.int at1), .unset, .unset, .unset] [(.ref b2)])) _
    refine XS.dup X2.here hx rfl (hb hby at_31) rfl rfl ?_
    show Steps p.tables e below (T2.setTop (mkF m 32 #[.val (.int x0), .val (.int x1), .val (.int x2), .val (.int d1), .val (.int d2), .val (.int at1), .unset, .unset, .unset] [(.ref b2), (.ref b2)])) _
    refine st3 _ ?_
    show Steps p.tables e below (T3.setTop (mkF m 34 #[.val (.int x0), .val (.int x1), .val (.int x2), .val (.int d1), .val (.int d2), .val (.int at1), .unset, .unset, .unset] [(.ref a3), (.ref b2), (.ref b2)])) _
    refine st5 _ ?_
    show Steps p.tables e below (T5.setTop (mkF m 36 #[.val (.int x0), .val (.int x1), .val (.int x2), .val (.int d1), .val (.int d2), .val (.int at1), .unset, .unset, .unset] [(.ref a5), (.ref a3), (.ref b2), (.ref b2)])) _
    refine st18.trans ?_
    show Steps p.tables e below (T18.setTop (mkF m 39 #[.val (.int x0), .val (.int x1), .val (.int x2), .val (.int d1), .val (.int d2), .val (.int at1), .unset, .unset, .unset] [(.ref b2)])) _
    refine XS.astore X18.here hx rfl (hb hby at_39) rfl rfl (l' := #[.val (.int x0), .val (.int x1), .val (.int x2), .val (.int d1), .val (.int d2), .val (.int at1), .val (.ref b2), .unset, .unset]) rfl ?_
    show Steps p.tables e below (T18.setTop (mkF m 41 #[.val (.int x0), .val (.int x1), .val (.int x2), .val (.int d1), .val (.int d2), .val (.int at1), .val (.ref b2), .unset, .unset] [])) _
    refine XS.iloadN X18.here hx rfl (hb hby at_41) rfl ?_
    show Steps p.tables e below (T18.setTop (mkF m 42 #[.val (.int x0), .val (.int x1), .val (.int x2), .val (.int d1), .val (.int d2), .val (.int at1), .val (.ref b2), .unset, .unset] [(.int x0)])) _
    refine XS.iconst X18.here hx rfl (hb hby at_42) ?_
    show Steps p.tables e below (T18.setTop (mkF m 43 #[.val (.int x0), .val (.int x1), .val (.int x2), .val (.int d1), .val (.int d2), .val (.int at1), .val (.ref b2), .unset, .unset] [(.int (3 : Int32)), (.int x0)])) _
    refine XS.iand X18.here hx rfl (hb hby at_43) rfl ?_
    show Steps p.tables e below (T18.setTop (mkF m 44 #[.val (.int x0), .val (.int x1), .val (.int x2), .val (.int d1), .val (.int d2), .val (.int at1), .val (.ref b2), .unset, .unset] [(.int (x0 &&& (3 : Int32)))])) _
    refine XS.istore X18.here hx rfl (hb hby at_44) rfl (l' := #[.val (.int x0), .val (.int x1), .val (.int x2), .val (.int d1), .val (.int d2), .val (.int at1), .val (.ref b2), .val (.int (x0 &&& (3 : Int32))), .unset]) rfl ?_
    exact kt
  rcases own_and3 x0 with hm | hm | hm | hm
  · skip
    rw [(hm : (x0 &&& (3 : Int32)) = (0 : Int32))] at k19
    obtain ⟨cq20, kq20, q20a, q20b, q20c⟩ := isOf hZ18 rfl g18_0
    obtain ⟨_, _, ⟨T20, L20, kc20, ks20⟩, -, X20, hSq20, hgr20, ⟨Lc20, hQ20, l20, y20, z20, CS20⟩, st20⟩ := X18.virtualBackS hx (y := (⟨"com/example/aloq/aloq/engine/NewTask", "maxAttempts", "(I)Lcom/example/aloq/aloq/engine/NewTask;"⟩ : MethodName)) (z := (⟨"com/example/aloq/aloq/engine/NewTask", "maxAttempts", "(I)Lcom/example/aloq/aloq/engine/NewTask;"⟩ : MethodName)) hown18 (mvT hZ18 (wd79 hw)) (mvT hZ18 (wd80 hw)) (notFace_of_selects (args := #[]) (mvT hZ18 (wd82 hw))) (mvT hZ18 (wd82 hw)) (mvT hZ18 (wd81 hw)) (by decide) (own_backSafe (s := s) (vm0 := T18.vm) (EL := own_EL) (ss := []) (W := 0) (rmA29 l Z a0 hw [] b2 at1 ((.int (10 : Int32))) ((.ref a3)) ((.ref a5)) .null .null T18.heap n0 Z18 k0_at1 k1_at1 g18_0 g18_1 ge_b2 g18_2 g18_3 g18_4 g18_5 g18_6) hZ18 (wd83 hw) (wd4 hw) (by decide) (by decide) hEL CR18.1 all0) q20a q20c (g := (mkF m 58 #[.val (.int x0), .val (.int x1), .val (.int x2), .val (.int d1), .val (.int d2), .val (.int at1), .val (.ref b2), .val (.int (0 : Int32)), .val (.int (0 : Int32))] [(.int at1), (.ref b2)])) rfl (by rw [hml]; rfl) (Steps.refl _) (argsL := [(.int at1)]) (rest := []) (lenOf pd__I_Lcom_example_aloq_aloq_engine_NewTask_ rfl) rfl (by show 2 * 0 + _ ≤ _; exact Nat.le_of_eq rfl) (hb hby at_58) (fun _ _ => ⟨rfl, rfl, (by decide : 7 + 2 ≤ _), (by decide : 59 + 52 ≤ _)⟩)
    dsimp only [Pt.U, Pt.locs, Pt.cells, Pt.slots] at X20 l20 y20 z20 st20 hQ20 hSq20 hgr20 CS20
    subst l20 y20 z20
    obtain ⟨X20, hS20, hZ20, hown20⟩ := rebS hS18 (Nat.le_refl T18.heap.size) X20 hSq20 hgr20 hZ18 hown18
    obtain ⟨rfl, Nq20, Kq20, g20_0, g20_1, g20_2, g20_3, g20_4, g20_5, g20_6⟩ := hQ20
    have N20 := Fr.app N18 Nq20
    have CR20 := CR18.trans CS20
    have Z20 : n0 ≤ T20.heap.size := Nat.le_trans Z18 Kq20.1
    have K20 : Keep h0 T20.heap [] := Keep.trans K18 Kq20 (allS (Or.inr sz_b2) all0)
    obtain ⟨cq21, kq21, q21a, q21b, q21c⟩ := isOf hZ20 rfl g20_0
    obtain ⟨_, _, ⟨T21, L21, kc21, ks21⟩, -, X21, ⟨Lc21, hQ21, l21, y21, z21⟩, st21⟩ := X20.virtualBack hx (y := (⟨"com/example/aloq/aloq/engine/NewTask", "delaySeconds", "()I"⟩ : MethodName)) (z := (⟨"com/example/aloq/aloq/engine/NewTask", "delaySeconds", "()I"⟩ : MethodName)) hown20 (mvT hZ20 (wd89 hw)) (mvT hZ20 (wd90 hw)) (notFace_of_selects (args := #[]) (mvT hZ20 (wd92 hw))) (mvT hZ20 (wd92 hw)) (mvT hZ20 (wd91 hw)) (by decide) (backOf (W := 0) (rmA31 l Z a0 hw [] b2 T20.heap n0 Z20 g20_5) hZ20 (wd93 hw) (wd4 hw) (by decide) (by decide)) q21a q21c (g := (mkF m 124 #[.val (.int x0), .val (.int x1), .val (.int x2), .val (.int d1), .val (.int d2), .val (.int at1), .val (.ref b2), .val (.int (0 : Int32)), .val (.int (0 : Int32))] [(.ref b2)])) rfl (by rw [hml]; rfl) (Steps.refl _) (argsL := []) (rest := []) (lenOf pd___I rfl) rfl (by show 2 * 0 + _ ≤ _; exact Nat.le_of_eq rfl) (hb hby at_124) (fun _ _ => ⟨rfl, rfl, (by decide : 9 + 0 ≤ _), (by decide : 111 + 0 ≤ _)⟩)
    dsimp only [Pt.U, Pt.locs, Pt.cells, Pt.slots] at X21 l21 y21 z21 st21 hQ21
    subst l21 y21 z21
    obtain ⟨rfl, Nq21, eq21⟩ := hQ21
    have N21 := Fr.app N20 Nq21
    obtain ⟨lfs, lhr, lhrun, lhended, lhE⟩ := X21.leaveW hS20 (by rw [eq21]; exact (Nat.le_refl T20.heap.size)) (v := some (.int (1 : Int32))) (fun h => by rw [Bd.returns] at h; cases h)
    refine ⟨_, _, k19 _ ?_, lhrun, lhended, _, _, rfl, ?_, ?_, lhE.1, lhE.2.1, lhE.2.2.1, lhE.2.2.2.mono (by decide) (by decide)⟩
    · skip
      show Steps p.tables e below (T18.setTop (mkF m 46 #[.val (.int x0), .val (.int x1), .val (.int x2), .val (.int d1), .val (.int d2), .val (.int at1), .val (.ref b2), .val (.int (0 : Int32)), .unset] [])) _
      refine XS.iconst X18.here hx rfl (hb hby at_46) ?_
      show Steps p.tables e below (T18.setTop (mkF m 47 #[.val (.int x0), .val (.int x1), .val (.int x2), .val (.int d1), .val (.int d2), .val (.int at1), .val (.ref b2), .val (.int (0 : Int32)), .unset] [(.int (0 : Int32))])) _
      refine XS.istore X18.here hx rfl (hb hby at_47) rfl (l' := #[.val (.int x0), .val (.int x1), .val (.int x2), .val (.int d1), .val (.int d2), .val (.int at1), .val (.ref b2), .val (.int (0 : Int32)), .val (.int (0 : Int32))]) rfl ?_
      show Steps p.tables e below (T18.setTop (mkF m 49 #[.val (.int x0), .val (.int x1), .val (.int x2), .val (.int d1), .val (.int d2), .val (.int at1), .val (.ref b2), .val (.int (0 : Int32)), .val (.int (0 : Int32))] [])) _
      refine XS.iload X18.here hx rfl (hb hby at_49) rfl ?_
      show Steps p.tables e below (T18.setTop (mkF m 51 #[.val (.int x0), .val (.int x1), .val (.int x2), .val (.int d1), .val (.int d2), .val (.int at1), .val (.ref b2), .val (.int (0 : Int32)), .val (.int (0 : Int32))] [(.int (0 : Int32))])) _
      refine XS.ifNo X18.here hx rfl (hb hby at_51) rfl ((if0 _ _).trans (teq (by decide : (0 : Int32) = (0 : Int32))).2) ?_
      show Steps p.tables e below (T18.setTop (mkF m 54 #[.val (.int x0), .val (.int x1), .val (.int x2), .val (.int d1), .val (.int d2), .val (.int at1), .val (.ref b2), .val (.int (0 : Int32)), .val (.int (0 : Int32))] [])) _
      refine XS.aload X18.here hx rfl (hb hby at_54) rfl rfl ?_
      show Steps p.tables e below (T18.setTop (mkF m 56 #[.val (.int x0), .val (.int x1), .val (.int x2), .val (.int d1), .val (.int d2), .val (.int at1), .val (.ref b2), .val (.int (0 : Int32)), .val (.int (0 : Int32))] [(.ref b2)])) _
      refine XS.iload X18.here hx rfl (hb hby at_56) rfl ?_
      show Steps p.tables e below (T18.setTop (mkF m 58 #[.val (.int x0), .val (.int x1), .val (.int x2), .val (.int d1), .val (.int d2), .val (.int at1), .val (.ref b2), .val (.int (0 : Int32)), .val (.int (0 : Int32))] [(.int at1), (.ref b2)])) _
      refine st20.trans ?_
      show Steps p.tables e below (T20.setTop (mkF m 61 #[.val (.int x0), .val (.int x1), .val (.int x2), .val (.int d1), .val (.int d2), .val (.int at1), .val (.ref b2), .val (.int (0 : Int32)), .val (.int (0 : Int32))] [(.ref b2)])) _
      refine XS.pop X20.here hx rfl (hb hby at_61) rfl rfl ?_
      show Steps p.tables e below (T20.setTop (mkF m 62 #[.val (.int x0), .val (.int x1), .val (.int x2), .val (.int d1), .val (.int d2), .val (.int at1), .val (.ref b2), .val (.int (0 : Int32)), .val (.int (0 : Int32))] [])) _
      refine XS.iload X20.here hx rfl (hb hby at_62) rfl ?_
      show Steps p.tables e below (T20.setTop (mkF m 64 #[.val (.int x0), .val (.int x1), .val (.int x2), .val (.int d1), .val (.int d2), .val (.int at1), .val (.ref b2), .val (.int (0 : Int32)), .val (.int (0 : Int32))] [(.int (0 : Int32))])) _
      refine XS.iconst X20.here hx rfl (hb hby at_64) ?_
      show Steps p.tables e below (T20.setTop (mkF m 65 #[.val (.int x0), .val (.int x1), .val (.int x2), .val (.int d1), .val (.int d2), .val (.int at1), .val (.ref b2), .val (.int (0 : Int32)), .val (.int (0 : Int32))] [(.int (1 : Int32)), (.int (0 : Int32))])) _
      refine XS.icmpNo X20.here hx rfl (hb hby at_65) rfl (feq (by decide : ¬ ((0 : Int32) = (1 : Int32)))).1 ?_
      show Steps p.tables e below (T20.setTop (mkF m 68 #[.val (.int x0), .val (.int x1), .val (.int x2), .val (.int d1), .val (.int d2), .val (.int at1), .val (.ref b2), .val (.int (0 : Int32)), .val (.int (0 : Int32))] [])) _
      refine XS.iload X20.here hx rfl (hb hby at_68) rfl ?_
      show Steps p.tables e below (T20.setTop (mkF m 70 #[.val (.int x0), .val (.int x1), .val (.int x2), .val (.int d1), .val (.int d2), .val (.int at1), .val (.ref b2), .val (.int (0 : Int32)), .val (.int (0 : Int32))] [(.int (0 : Int32))])) _
      refine XS.iconst X20.here hx rfl (hb hby at_70) ?_
      show Steps p.tables e below (T20.setTop (mkF m 71 #[.val (.int x0), .val (.int x1), .val (.int x2), .val (.int d1), .val (.int d2), .val (.int at1), .val (.ref b2), .val (.int (0 : Int32)), .val (.int (0 : Int32))] [(.int (2 : Int32)), (.int (0 : Int32))])) _
      refine XS.icmpNo X20.here hx rfl (hb hby at_71) rfl (feq (by decide : ¬ ((0 : Int32) = (2 : Int32)))).1 ?_
      show Steps p.tables e below (T20.setTop (mkF m 74 #[.val (.int x0), .val (.int x1), .val (.int x2), .val (.int d1), .val (.int d2), .val (.int at1), .val (.ref b2), .val (.int (0 : Int32)), .val (.int (0 : Int32))] [])) _
      refine XS.iload X20.here hx rfl (hb hby at_74) rfl ?_
      show Steps p.tables e below (T20.setTop (mkF m 76 #[.val (.int x0), .val (.int x1), .val (.int x2), .val (.int d1), .val (.int d2), .val (.int at1), .val (.ref b2), .val (.int (0 : Int32)), .val (.int (0 : Int32))] [(.int (0 : Int32))])) _
      refine XS.iconst X20.here hx rfl (hb hby at_76) ?_
      show Steps p.tables e below (T20.setTop (mkF m 77 #[.val (.int x0), .val (.int x1), .val (.int x2), .val (.int d1), .val (.int d2), .val (.int at1), .val (.ref b2), .val (.int (0 : Int32)), .val (.int (0 : Int32))] [(.int (3 : Int32)), (.int (0 : Int32))])) _
      refine XS.icmpYes X20.here hx rfl (pc0 := 77) (pc' := 90) rfl (hb hby at_77) rfl (feq (by decide : ¬ ((0 : Int32) = (3 : Int32)))).2 (by decide) (by decide) ?_
      show Steps p.tables e below (T20.setTop (mkF m 90 #[.val (.int x0), .val (.int x1), .val (.int x2), .val (.int d1), .val (.int d2), .val (.int at1), .val (.ref b2), .val (.int (0 : Int32)), .val (.int (0 : Int32))] [])) _
      refine XS.iload X20.here hx rfl (hb hby at_90) rfl ?_
      show Steps p.tables e below (T20.setTop (mkF m 92 #[.val (.int x0), .val (.int x1), .val (.int x2), .val (.int d1), .val (.int d2), .val (.int at1), .val (.ref b2), .val (.int (0 : Int32)), .val (.int (0 : Int32))] [(.int (0 : Int32))])) _
      refine XS.iconst X20.here hx rfl (hb hby at_92) ?_
      show Steps p.tables e below (T20.setTop (mkF m 93 #[.val (.int x0), .val (.int x1), .val (.int x2), .val (.int d1), .val (.int d2), .val (.int at1), .val (.ref b2), .val (.int (0 : Int32)), .val (.int (0 : Int32))] [(.int (2 : Int32)), (.int (0 : Int32))])) _
      refine XS.icmpYes X20.here hx rfl (pc0 := 93) (pc' := 108) rfl (hb hby at_93) rfl (feq (by decide : ¬ ((0 : Int32) = (2 : Int32)))).2 (by decide) (by decide) ?_
      show Steps p.tables e below (T20.setTop (mkF m 108 #[.val (.int x0), .val (.int x1), .val (.int x2), .val (.int d1), .val (.int d2), .val (.int at1), .val (.ref b2), .val (.int (0 : Int32)), .val (.int (0 : Int32))] [])) _
      refine XS.iload X20.here hx rfl (hb hby at_108) rfl ?_
      show Steps p.tables e below (T20.setTop (mkF m 110 #[.val (.int x0), .val (.int x1), .val (.int x2), .val (.int d1), .val (.int d2), .val (.int at1), .val (.ref b2), .val (.int (0 : Int32)), .val (.int (0 : Int32))] [(.int (0 : Int32))])) _
      refine XS.iconst X20.here hx rfl (hb hby at_110) ?_
      show Steps p.tables e below (T20.setTop (mkF m 111 #[.val (.int x0), .val (.int x1), .val (.int x2), .val (.int d1), .val (.int d2), .val (.int at1), .val (.ref b2), .val (.int (0 : Int32)), .val (.int (0 : Int32))] [(.int (3 : Int32)), (.int (0 : Int32))])) _
      refine XS.icmpYes X20.here hx rfl (pc0 := 111) (pc' := 122) rfl (hb hby at_111) rfl (feq (by decide : ¬ ((0 : Int32) = (3 : Int32)))).2 (by decide) (by decide) ?_
      show Steps p.tables e below (T20.setTop (mkF m 122 #[.val (.int x0), .val (.int x1), .val (.int x2), .val (.int d1), .val (.int d2), .val (.int at1), .val (.ref b2), .val (.int (0 : Int32)), .val (.int (0 : Int32))] [])) _
      refine XS.aload X20.here hx rfl (hb hby at_122) rfl rfl ?_
      show Steps p.tables e below (T20.setTop (mkF m 124 #[.val (.int x0), .val (.int x1), .val (.int x2), .val (.int d1), .val (.int d2), .val (.int at1), .val (.ref b2), .val (.int (0 : Int32)), .val (.int (0 : Int32))] [(.ref b2)])) _
      refine st21.trans ?_
      show Steps p.tables e below (T21.setTop (mkF m 127 #[.val (.int x0), .val (.int x1), .val (.int x2), .val (.int d1), .val (.int d2), .val (.int at1), .val (.ref b2), .val (.int (0 : Int32)), .val (.int (0 : Int32))] [(.int (0 : Int32))])) _
      refine XS.iload X21.here hx rfl (hb hby at_127) rfl ?_
      show Steps p.tables e below (T21.setTop (mkF m 129 #[.val (.int x0), .val (.int x1), .val (.int x2), .val (.int d1), .val (.int d2), .val (.int at1), .val (.ref b2), .val (.int (0 : Int32)), .val (.int (0 : Int32))] [(.int (0 : Int32)), (.int (0 : Int32))])) _
      refine XS.icmpNo X21.here hx rfl (hb hby at_129) rfl (teq (by decide : (0 : Int32) = (0 : Int32))).2 ?_
      show Steps p.tables e below (T21.setTop (mkF m 132 #[.val (.int x0), .val (.int x1), .val (.int x2), .val (.int d1), .val (.int d2), .val (.int at1), .val (.ref b2), .val (.int (0 : Int32)), .val (.int (0 : Int32))] [])) _
      refine XS.iconst X21.here hx rfl (hb hby at_132) ?_
      show Steps p.tables e below (T21.setTop (mkF m 133 #[.val (.int x0), .val (.int x1), .val (.int x2), .val (.int d1), .val (.int d2), .val (.int at1), .val (.ref b2), .val (.int (0 : Int32)), .val (.int (0 : Int32))] [(.int (1 : Int32))])) _
      refine XS.goto X21.here hx rfl (pc0 := 133) (pc' := 137) rfl (hb hby at_133) (by decide) (by decide) ?_
      show Steps p.tables e below (T21.setTop (mkF m 137 #[.val (.int x0), .val (.int x1), .val (.int x2), .val (.int d1), .val (.int d2), .val (.int at1), .val (.ref b2), .val (.int (0 : Int32)), .val (.int (0 : Int32))] [(.int (1 : Int32))])) _
      exact retN X21 hx (t := .boolean) Bd.returns (by simp) (hb hby at_137) lhr
    · skip
      show Q0 Z x0 x1 x2 G1 G3 ac cc h0 n0 _ T21.heap _
      rw [eq21]
      exact ⟨rfl, N21⟩
    · skip
      show CHr Z own_EL s.vm s.heap T21.vm T21.heap
      rw [hh]
      rw [eq21]
      exact CR20.trans (CHv.at X21 hZ20 hEL CR20.1)
  · skip
    rw [(hm : (x0 &&& (3 : Int32)) = (1 : Int32))] at k19
    have k22 : ∀ t, Steps p.tables e below (T18.setTop (mkF m 83 #[.val (.int x0), .val (.int x1), .val (.int x2), .val (.int d1), .val (.int d2), .val (.int at1), .val (.ref b2), .val (.int (1 : Int32)), .val (.int (0 : Int32))] [(.int d1), (.ref b2)])) t → Steps p.tables e below (s₁.setTop (entryFrame m #[(.int x0), (.int x1), (.int x2)] maxLocals)) t := by
      intro t kt
      refine k19 t ?_
      show Steps p.tables e below (T18.setTop (mkF m 46 #[.val (.int x0), .val (.int x1), .val (.int x2), .val (.int d1), .val (.int d2), .val (.int at1), .val (.ref b2), .val (.int (1 : Int32)), .unset] [])) _
      refine XS.iconst X18.here hx rfl (hb hby at_46) ?_
      show Steps p.tables e below (T18.setTop (mkF m 47 #[.val (.int x0), .val (.int x1), .val (.int x2), .val (.int d1), .val (.int d2), .val (.int at1), .val (.ref b2), .val (.int (1 : Int32)), .unset] [(.int (0 : Int32))])) _
      refine XS.istore X18.here hx rfl (hb hby at_47) rfl (l' := #[.val (.int x0), .val (.int x1), .val (.int x2), .val (.int d1), .val (.int d2), .val (.int at1), .val (.ref b2), .val (.int (1 : Int32)), .val (.int (0 : Int32))]) rfl ?_
      show Steps p.tables e below (T18.setTop (mkF m 49 #[.val (.int x0), .val (.int x1), .val (.int x2), .val (.int d1), .val (.int d2), .val (.int at1), .val (.ref b2), .val (.int (1 : Int32)), .val (.int (0 : Int32))] [])) _
      refine XS.iload X18.here hx rfl (hb hby at_49) rfl ?_
      show Steps p.tables e below (T18.setTop (mkF m 51 #[.val (.int x0), .val (.int x1), .val (.int x2), .val (.int d1), .val (.int d2), .val (.int at1), .val (.ref b2), .val (.int (1 : Int32)), .val (.int (0 : Int32))] [(.int (1 : Int32))])) _
      refine XS.ifYes X18.here hx rfl (pc0 := 51) (pc' := 62) rfl (hb hby at_51) rfl ((if0 _ _).trans (feq (by decide : ¬ ((1 : Int32) = (0 : Int32)))).2) (by decide) (by decide) ?_
      show Steps p.tables e below (T18.setTop (mkF m 62 #[.val (.int x0), .val (.int x1), .val (.int x2), .val (.int d1), .val (.int d2), .val (.int at1), .val (.ref b2), .val (.int (1 : Int32)), .val (.int (0 : Int32))] [])) _
      refine XS.iload X18.here hx rfl (hb hby at_62) rfl ?_
      show Steps p.tables e below (T18.setTop (mkF m 64 #[.val (.int x0), .val (.int x1), .val (.int x2), .val (.int d1), .val (.int d2), .val (.int at1), .val (.ref b2), .val (.int (1 : Int32)), .val (.int (0 : Int32))] [(.int (1 : Int32))])) _
      refine XS.iconst X18.here hx rfl (hb hby at_64) ?_
      show Steps p.tables e below (T18.setTop (mkF m 65 #[.val (.int x0), .val (.int x1), .val (.int x2), .val (.int d1), .val (.int d2), .val (.int at1), .val (.ref b2), .val (.int (1 : Int32)), .val (.int (0 : Int32))] [(.int (1 : Int32)), (.int (1 : Int32))])) _
      refine XS.icmpYes X18.here hx rfl (pc0 := 65) (pc' := 80) rfl (hb hby at_65) rfl (teq (by decide : (1 : Int32) = (1 : Int32))).1 (by decide) (by decide) ?_
      show Steps p.tables e below (T18.setTop (mkF m 80 #[.val (.int x0), .val (.int x1), .val (.int x2), .val (.int d1), .val (.int d2), .val (.int at1), .val (.ref b2), .val (.int (1 : Int32)), .val (.int (0 : Int32))] [])) _
      refine XS.aload X18.here hx rfl (hb hby at_80) rfl rfl ?_
      show Steps p.tables e below (T18.setTop (mkF m 82 #[.val (.int x0), .val (.int x1), .val (.int x2), .val (.int d1), .val (.int d2), .val (.int at1), .val (.ref b2), .val (.int (1 : Int32)), .val (.int (0 : Int32))] [(.ref b2)])) _
      refine XS.iloadN X18.here hx rfl (hb hby at_82) rfl ?_
      exact kt
    by_cases hb_d1 : (127 : Int32) < d1
    · skip
      have f23 := (f11.keep Kq18 (allS ge_b2 all0))
      have f24 := (f17.keep Kq18)
      have f25 := (f10.keep Kq18 (ninS (Ne.symm nn_b2_3.2) nin0))
      have f26 := (gE5.keep Kq18)
      have f27 := (gK5.keep Kq18 (ninS (Ne.symm nn_b2_5.2) nin0))
      obtain ⟨cq28, kq28, q28a, q28b, q28c⟩ := isOf hZ18 rfl g18_0
      obtain ⟨_, _, ⟨T28, L28, kc28, ks28⟩, -, X28, hSq28, hgr28, ⟨Lc28, hQ28, l28, y28, z28, CS28⟩, st28⟩ := X18.virtualBackS hx (y := (⟨"com/example/aloq/aloq/engine/NewTask", "delaySeconds", "(I)Lcom/example/aloq/aloq/engine/NewTask;"⟩ : MethodName)) (z := (⟨"com/example/aloq/aloq/engine/NewTask", "delaySeconds", "(I)Lcom/example/aloq/aloq/engine/NewTask;"⟩ : MethodName)) hown18 (mvT hZ18 (wd96 hw)) (mvT hZ18 (wd97 hw)) (notFace_of_selects (args := #[]) (mvT hZ18 (wd99 hw))) (mvT hZ18 (wd99 hw)) (mvT hZ18 (wd98 hw)) (by decide) (own_backSafe (s := s) (vm0 := T18.vm) (EL := own_EL) (ss := []) (W := 0) (rmA33 l Z a0 hw [] b2 d1 ((.int (5 : Int32))) ((.int (10 : Int32))) ((.ref a3)) ((.ref a5)) T18.heap n0 Z18 k0_d1 k1_d1 g18_6 hb_d1 k2_d1 (S_h.ext f23.2) g18_0 g18_5 ge_b2 g18_1 g18_2 g18_3 g18_4) hZ18 (wd100 hw) (wd4 hw) (by decide) (by decide) hEL CR18.1 all0) q28a q28c (g := (mkF m 83 #[.val (.int x0), .val (.int x1), .val (.int x2), .val (.int d1), .val (.int d2), .val (.int at1), .val (.ref b2), .val (.int (1 : Int32)), .val (.int (0 : Int32))] [(.int d1), (.ref b2)])) rfl (by rw [hml]; rfl) (Steps.refl _) (argsL := [(.int d1)]) (rest := []) (lenOf pd__I_Lcom_example_aloq_aloq_engine_NewTask_ rfl) rfl (by show 2 * 0 + _ ≤ _; exact Nat.le_of_eq rfl) (hb hby at_83) (fun _ _ => ⟨rfl, rfl, (by decide : 7 + 3 ≤ _), (by decide : 59 + 57 ≤ _)⟩)
      dsimp only [Pt.U, Pt.locs, Pt.cells, Pt.slots] at X28 l28 y28 z28 st28 hQ28 hSq28 hgr28 CS28
      subst l28 y28 z28
      obtain ⟨X28, hS28, hZ28, hown28⟩ := rebS hS18 (Nat.le_refl T18.heap.size) X28 hSq28 hgr28 hZ18 hown18
      obtain ⟨b28_0, rfl, Nq28, Kq28, sz28_0, g28_0, g28_1, g28_2, g28_3, g28_4, g28_5, g28_6, g28_7, g28_8⟩ := hQ28
      have N28 := Fr.app N18 Nq28
      have CR28 := CR18.trans CS28
      have Z28 : n0 ≤ T28.heap.size := Nat.le_trans Z18 Kq28.1
      have K28 : Keep h0 T28.heap [] := Keep.trans K18 Kq28 (allS (Or.inr sz_b2) all0)
      have ne_b2_b28_0 : b2 ≠ b28_0 := Nat.ne_of_lt (Nat.lt_of_lt_of_le g18_0.lt sz28_0)
      have ne_a3_b28_0 : a3 ≠ b28_0 := Nat.ne_of_lt (Nat.lt_of_lt_of_le f24.lt sz28_0)
      have ne_t3_b28_0 : t3 ≠ b28_0 := Nat.ne_of_lt (Nat.lt_of_lt_of_le f25.lt sz28_0)
      have ne_a5_b28_0 : a5 ≠ b28_0 := Nat.ne_of_lt (Nat.lt_of_lt_of_le f26.lt sz28_0)
      have ne_t5_b28_0 : t5 ≠ b28_0 := Nat.ne_of_lt (Nat.lt_of_lt_of_le f27.lt sz28_0)
      have ge_b28_0 : n0 ≤ b28_0 := Nat.le_trans Z18 sz28_0
      have sz_b28_0 : h0.size ≤ b28_0 := Nat.le_trans K18.1 sz28_0
      obtain ⟨cq29, kq29, q29a, q29b, q29c⟩ := isOf hZ28 rfl g28_3
      obtain ⟨_, _, ⟨T29, L29, kc29, ks29⟩, -, X29, ⟨Lc29, hQ29, l29, y29, z29⟩, st29⟩ := X28.virtualBack hx (y := (⟨"com/example/aloq/aloq/engine/NewTask", "delaySeconds", "()I"⟩ : MethodName)) (z := (⟨"com/example/aloq/aloq/engine/NewTask", "delaySeconds", "()I"⟩ : MethodName)) hown28 (mvT hZ28 (wd89 hw)) (mvT hZ28 (wd90 hw)) (notFace_of_selects (args := #[]) (mvT hZ28 (wd92 hw))) (mvT hZ28 (wd92 hw)) (mvT hZ28 (wd91 hw)) (by decide) (backOf (W := 0) (rmA38 l Z a0 hw [] b2 b28_0 d1 T28.heap n0 Z28 g28_4 g28_2 g28_1) hZ28 (wd93 hw) (wd4 hw) (by decide) (by decide)) q29a q29c (g := (mkF m 124 #[.val (.int x0), .val (.int x1), .val (.int x2), .val (.int d1), .val (.int d2), .val (.int at1), .val (.ref b2), .val (.int (1 : Int32)), .val (.int d1)] [(.ref b2)])) rfl (by rw [hml]; rfl) (Steps.refl _) (argsL := []) (rest := []) (lenOf pd___I rfl) rfl (by show 2 * 0 + _ ≤ _; exact Nat.le_of_eq rfl) (hb hby at_124) (fun _ _ => ⟨rfl, rfl, (by decide : 10 + 0 ≤ _), (by decide : 116 + 0 ≤ _)⟩)
      dsimp only [Pt.U, Pt.locs, Pt.cells, Pt.slots] at X29 l29 y29 z29 st29 hQ29
      subst l29 y29 z29
      obtain ⟨rfl, Nq29, eq29⟩ := hQ29
      have N29 := Fr.app N28 Nq29
      obtain ⟨lfs, lhr, lhrun, lhended, lhE⟩ := X29.leaveW hS28 (by rw [eq29]; exact (Nat.le_refl T28.heap.size)) (v := some (.int (1 : Int32))) (fun h => by rw [Bd.returns] at h; cases h)
      refine ⟨_, _, k22 _ ?_, lhrun, lhended, _, _, rfl, ?_, ?_, lhE.1, lhE.2.1, lhE.2.2.1, lhE.2.2.2.mono (by decide) (by decide)⟩
      · skip
        show Steps p.tables e below (T18.setTop (mkF m 83 #[.val (.int x0), .val (.int x1), .val (.int x2), .val (.int d1), .val (.int d2), .val (.int at1), .val (.ref b2), .val (.int (1 : Int32)), .val (.int (0 : Int32))] [(.int d1), (.ref b2)])) _
        refine st28.trans ?_
        show Steps p.tables e below (T28.setTop (mkF m 86 #[.val (.int x0), .val (.int x1), .val (.int x2), .val (.int d1), .val (.int d2), .val (.int at1), .val (.ref b2), .val (.int (1 : Int32)), .val (.int (0 : Int32))] [(.ref b2)])) _
        refine XS.pop X28.here hx rfl (hb hby at_86) rfl rfl ?_
        show Steps p.tables e below (T28.setTop (mkF m 87 #[.val (.int x0), .val (.int x1), .val (.int x2), .val (.int d1), .val (.int d2), .val (.int at1), .val (.ref b2), .val (.int (1 : Int32)), .val (.int (0 : Int32))] [])) _
        refine XS.iloadN X28.here hx rfl (hb hby at_87) rfl ?_
        show Steps p.tables e below (T28.setTop (mkF m 88 #[.val (.int x0), .val (.int x1), .val (.int x2), .val (.int d1), .val (.int d2), .val (.int at1), .val (.ref b2), .val (.int (1 : Int32)), .val (.int (0 : Int32))] [(.int d1)])) _
        refine XS.istore X28.here hx rfl (hb hby at_88) rfl (l' := #[.val (.int x0), .val (.int x1), .val (.int x2), .val (.int d1), .val (.int d2), .val (.int at1), .val (.ref b2), .val (.int (1 : Int32)), .val (.int d1)]) rfl ?_
        show Steps p.tables e below (T28.setTop (mkF m 90 #[.val (.int x0), .val (.int x1), .val (.int x2), .val (.int d1), .val (.int d2), .val (.int at1), .val (.ref b2), .val (.int (1 : Int32)), .val (.int d1)] [])) _
        refine XS.iload X28.here hx rfl (hb hby at_90) rfl ?_
        show Steps p.tables e below (T28.setTop (mkF m 92 #[.val (.int x0), .val (.int x1), .val (.int x2), .val (.int d1), .val (.int d2), .val (.int at1), .val (.ref b2), .val (.int (1 : Int32)), .val (.int d1)] [(.int (1 : Int32))])) _
        refine XS.iconst X28.here hx rfl (hb hby at_92) ?_
        show Steps p.tables e below (T28.setTop (mkF m 93 #[.val (.int x0), .val (.int x1), .val (.int x2), .val (.int d1), .val (.int d2), .val (.int at1), .val (.ref b2), .val (.int (1 : Int32)), .val (.int d1)] [(.int (2 : Int32)), (.int (1 : Int32))])) _
        refine XS.icmpYes X28.here hx rfl (pc0 := 93) (pc' := 108) rfl (hb hby at_93) rfl (feq (by decide : ¬ ((1 : Int32) = (2 : Int32)))).2 (by decide) (by decide) ?_
        show Steps p.tables e below (T28.setTop (mkF m 108 #[.val (.int x0), .val (.int x1), .val (.int x2), .val (.int d1), .val (.int d2), .val (.int at1), .val (.ref b2), .val (.int (1 : Int32)), .val (.int d1)] [])) _
        refine XS.iload X28.here hx rfl (hb hby at_108) rfl ?_
        show Steps p.tables e below (T28.setTop (mkF m 110 #[.val (.int x0), .val (.int x1), .val (.int x2), .val (.int d1), .val (.int d2), .val (.int at1), .val (.ref b2), .val (.int (1 : Int32)), .val (.int d1)] [(.int (1 : Int32))])) _
        refine XS.iconst X28.here hx rfl (hb hby at_110) ?_
        show Steps p.tables e below (T28.setTop (mkF m 111 #[.val (.int x0), .val (.int x1), .val (.int x2), .val (.int d1), .val (.int d2), .val (.int at1), .val (.ref b2), .val (.int (1 : Int32)), .val (.int d1)] [(.int (3 : Int32)), (.int (1 : Int32))])) _
        refine XS.icmpYes X28.here hx rfl (pc0 := 111) (pc' := 122) rfl (hb hby at_111) rfl (feq (by decide : ¬ ((1 : Int32) = (3 : Int32)))).2 (by decide) (by decide) ?_
        show Steps p.tables e below (T28.setTop (mkF m 122 #[.val (.int x0), .val (.int x1), .val (.int x2), .val (.int d1), .val (.int d2), .val (.int at1), .val (.ref b2), .val (.int (1 : Int32)), .val (.int d1)] [])) _
        refine XS.aload X28.here hx rfl (hb hby at_122) rfl rfl ?_
        show Steps p.tables e below (T28.setTop (mkF m 124 #[.val (.int x0), .val (.int x1), .val (.int x2), .val (.int d1), .val (.int d2), .val (.int at1), .val (.ref b2), .val (.int (1 : Int32)), .val (.int d1)] [(.ref b2)])) _
        refine st29.trans ?_
        show Steps p.tables e below (T29.setTop (mkF m 127 #[.val (.int x0), .val (.int x1), .val (.int x2), .val (.int d1), .val (.int d2), .val (.int at1), .val (.ref b2), .val (.int (1 : Int32)), .val (.int d1)] [(.int d1)])) _
        refine XS.iload X29.here hx rfl (hb hby at_127) rfl ?_
        show Steps p.tables e below (T29.setTop (mkF m 129 #[.val (.int x0), .val (.int x1), .val (.int x2), .val (.int d1), .val (.int d2), .val (.int at1), .val (.ref b2), .val (.int (1 : Int32)), .val (.int d1)] [(.int d1), (.int d1)])) _
        refine XS.icmpNo X29.here hx rfl (hb hby at_129) rfl (teq (rfl : d1 = d1)).2 ?_
        show Steps p.tables e below (T29.setTop (mkF m 132 #[.val (.int x0), .val (.int x1), .val (.int x2), .val (.int d1), .val (.int d2), .val (.int at1), .val (.ref b2), .val (.int (1 : Int32)), .val (.int d1)] [])) _
        refine XS.iconst X29.here hx rfl (hb hby at_132) ?_
        show Steps p.tables e below (T29.setTop (mkF m 133 #[.val (.int x0), .val (.int x1), .val (.int x2), .val (.int d1), .val (.int d2), .val (.int at1), .val (.ref b2), .val (.int (1 : Int32)), .val (.int d1)] [(.int (1 : Int32))])) _
        refine XS.goto X29.here hx rfl (pc0 := 133) (pc' := 137) rfl (hb hby at_133) (by decide) (by decide) ?_
        show Steps p.tables e below (T29.setTop (mkF m 137 #[.val (.int x0), .val (.int x1), .val (.int x2), .val (.int d1), .val (.int d2), .val (.int at1), .val (.ref b2), .val (.int (1 : Int32)), .val (.int d1)] [(.int (1 : Int32))])) _
        exact retN X29 hx (t := .boolean) Bd.returns (by simp) (hb hby at_137) lhr
      · skip
        show Q0 Z x0 x1 x2 G1 G3 ac cc h0 n0 _ T29.heap _
        rw [eq29]
        exact ⟨rfl, N29⟩
      · skip
        show CHr Z own_EL s.vm s.heap T29.vm T29.heap
        rw [hh]
        rw [eq29]
        exact CR28.trans (CHv.at X29 hZ28 hEL CR28.1)
    · skip
      have f30 := (f11.keep Kq18 (allS ge_b2 all0))
      obtain ⟨cq31, kq31, q31a, q31b, q31c⟩ := isOf hZ18 rfl g18_0
      obtain ⟨_, _, ⟨T31, L31, kc31, ks31⟩, -, X31, hSq31, hgr31, ⟨Lc31, hQ31, l31, y31, z31, CS31⟩, st31⟩ := X18.virtualBackS hx (y := (⟨"com/example/aloq/aloq/engine/NewTask", "delaySeconds", "(I)Lcom/example/aloq/aloq/engine/NewTask;"⟩ : MethodName)) (z := (⟨"com/example/aloq/aloq/engine/NewTask", "delaySeconds", "(I)Lcom/example/aloq/aloq/engine/NewTask;"⟩ : MethodName)) hown18 (mvT hZ18 (wd96 hw)) (mvT hZ18 (wd97 hw)) (notFace_of_selects (args := #[]) (mvT hZ18 (wd99 hw))) (mvT hZ18 (wd99 hw)) (mvT hZ18 (wd98 hw)) (by decide) (own_backSafe (s := s) (vm0 := T18.vm) (EL := own_EL) (ss := []) (W := 0) (rmA41 l Z a0 hw [] b2 d1 ac cc ((.int (5 : Int32))) ((.int (10 : Int32))) ((.ref a3)) ((.ref a5)) T18.heap n0 Z18 k0_d1 k1_d1 g18_6 hb_d1 k2_d1 (S_h.ext f30.2) (S_c.ext f30.2) Bx f30 g18_0 g18_5 ge_b2 g18_1 g18_2 g18_3 g18_4) hZ18 (wd100 hw) (wd4 hw) (by decide) (by decide) hEL CR18.1 all0) q31a q31c (g := (mkF m 83 #[.val (.int x0), .val (.int x1), .val (.int x2), .val (.int d1), .val (.int d2), .val (.int at1), .val (.ref b2), .val (.int (1 : Int32)), .val (.int (0 : Int32))] [(.int d1), (.ref b2)])) rfl (by rw [hml]; rfl) (Steps.refl _) (argsL := [(.int d1)]) (rest := []) (lenOf pd__I_Lcom_example_aloq_aloq_engine_NewTask_ rfl) rfl (by show 2 * 0 + _ ≤ _; exact Nat.le_of_eq rfl) (hb hby at_83) (fun _ _ => ⟨rfl, rfl, (by decide : 7 + 2 ≤ _), (by decide : 59 + 56 ≤ _)⟩)
      dsimp only [Pt.U, Pt.locs, Pt.cells, Pt.slots] at X31 l31 y31 z31 st31 hQ31 hSq31 hgr31 CS31
      subst l31 y31 z31
      obtain ⟨X31, hS31, hZ31, hown31⟩ := rebS hS18 (Nat.le_refl T18.heap.size) X31 hSq31 hgr31 hZ18 hown18
      obtain ⟨b31_0, rfl, Nq31, Kq31, g31_0, g31_1, g31_2, g31_3, g31_4, g31_5, g31_6, g31_7, g31_8⟩ := hQ31
      have N31 := Fr.app N18 Nq31
      have CR31 := CR18.trans CS31
      have Z31 : n0 ≤ T31.heap.size := Nat.le_trans Z18 Kq31.1
      have K31 : Keep h0 T31.heap [] := Keep.trans K18 Kq31 (allS (Or.inr sz_b2) all0)
      obtain ⟨cq32, kq32, q32a, q32b, q32c⟩ := isOf hZ31 rfl g31_3
      obtain ⟨_, _, ⟨T32, L32, kc32, ks32⟩, -, X32, ⟨Lc32, hQ32, l32, y32, z32⟩, st32⟩ := X31.virtualBack hx (y := (⟨"com/example/aloq/aloq/engine/NewTask", "delaySeconds", "()I"⟩ : MethodName)) (z := (⟨"com/example/aloq/aloq/engine/NewTask", "delaySeconds", "()I"⟩ : MethodName)) hown31 (mvT hZ31 (wd89 hw)) (mvT hZ31 (wd90 hw)) (notFace_of_selects (args := #[]) (mvT hZ31 (wd92 hw))) (mvT hZ31 (wd92 hw)) (mvT hZ31 (wd91 hw)) (by decide) (backOf (W := 0) (rmA38 l Z a0 hw [] b2 b31_0 d1 T31.heap n0 Z31 g31_4 g31_2 g31_1) hZ31 (wd93 hw) (wd4 hw) (by decide) (by decide)) q32a q32c (g := (mkF m 124 #[.val (.int x0), .val (.int x1), .val (.int x2), .val (.int d1), .val (.int d2), .val (.int at1), .val (.ref b2), .val (.int (1 : Int32)), .val (.int d1)] [(.ref b2)])) rfl (by rw [hml]; rfl) (Steps.refl _) (argsL := []) (rest := []) (lenOf pd___I rfl) rfl (by show 2 * 0 + _ ≤ _; exact Nat.le_of_eq rfl) (hb hby at_124) (fun _ _ => ⟨rfl, rfl, (by decide : 9 + 0 ≤ _), (by decide : 115 + 0 ≤ _)⟩)
      dsimp only [Pt.U, Pt.locs, Pt.cells, Pt.slots] at X32 l32 y32 z32 st32 hQ32
      subst l32 y32 z32
      obtain ⟨rfl, Nq32, eq32⟩ := hQ32
      have N32 := Fr.app N31 Nq32
      obtain ⟨lfs, lhr, lhrun, lhended, lhE⟩ := X32.leaveW hS31 (by rw [eq32]; exact (Nat.le_refl T31.heap.size)) (v := some (.int (1 : Int32))) (fun h => by rw [Bd.returns] at h; cases h)
      refine ⟨_, _, k22 _ ?_, lhrun, lhended, _, _, rfl, ?_, ?_, lhE.1, lhE.2.1, lhE.2.2.1, lhE.2.2.2.mono (by decide) (by decide)⟩
      · skip
        show Steps p.tables e below (T18.setTop (mkF m 83 #[.val (.int x0), .val (.int x1), .val (.int x2), .val (.int d1), .val (.int d2), .val (.int at1), .val (.ref b2), .val (.int (1 : Int32)), .val (.int (0 : Int32))] [(.int d1), (.ref b2)])) _
        refine st31.trans ?_
        show Steps p.tables e below (T31.setTop (mkF m 86 #[.val (.int x0), .val (.int x1), .val (.int x2), .val (.int d1), .val (.int d2), .val (.int at1), .val (.ref b2), .val (.int (1 : Int32)), .val (.int (0 : Int32))] [(.ref b2)])) _
        refine XS.pop X31.here hx rfl (hb hby at_86) rfl rfl ?_
        show Steps p.tables e below (T31.setTop (mkF m 87 #[.val (.int x0), .val (.int x1), .val (.int x2), .val (.int d1), .val (.int d2), .val (.int at1), .val (.ref b2), .val (.int (1 : Int32)), .val (.int (0 : Int32))] [])) _
        refine XS.iloadN X31.here hx rfl (hb hby at_87) rfl ?_
        show Steps p.tables e below (T31.setTop (mkF m 88 #[.val (.int x0), .val (.int x1), .val (.int x2), .val (.int d1), .val (.int d2), .val (.int at1), .val (.ref b2), .val (.int (1 : Int32)), .val (.int (0 : Int32))] [(.int d1)])) _
        refine XS.istore X31.here hx rfl (hb hby at_88) rfl (l' := #[.val (.int x0), .val (.int x1), .val (.int x2), .val (.int d1), .val (.int d2), .val (.int at1), .val (.ref b2), .val (.int (1 : Int32)), .val (.int d1)]) rfl ?_
        show Steps p.tables e below (T31.setTop (mkF m 90 #[.val (.int x0), .val (.int x1), .val (.int x2), .val (.int d1), .val (.int d2), .val (.int at1), .val (.ref b2), .val (.int (1 : Int32)), .val (.int d1)] [])) _
        refine XS.iload X31.here hx rfl (hb hby at_90) rfl ?_
        show Steps p.tables e below (T31.setTop (mkF m 92 #[.val (.int x0), .val (.int x1), .val (.int x2), .val (.int d1), .val (.int d2), .val (.int at1), .val (.ref b2), .val (.int (1 : Int32)), .val (.int d1)] [(.int (1 : Int32))])) _
        refine XS.iconst X31.here hx rfl (hb hby at_92) ?_
        show Steps p.tables e below (T31.setTop (mkF m 93 #[.val (.int x0), .val (.int x1), .val (.int x2), .val (.int d1), .val (.int d2), .val (.int at1), .val (.ref b2), .val (.int (1 : Int32)), .val (.int d1)] [(.int (2 : Int32)), (.int (1 : Int32))])) _
        refine XS.icmpYes X31.here hx rfl (pc0 := 93) (pc' := 108) rfl (hb hby at_93) rfl (feq (by decide : ¬ ((1 : Int32) = (2 : Int32)))).2 (by decide) (by decide) ?_
        show Steps p.tables e below (T31.setTop (mkF m 108 #[.val (.int x0), .val (.int x1), .val (.int x2), .val (.int d1), .val (.int d2), .val (.int at1), .val (.ref b2), .val (.int (1 : Int32)), .val (.int d1)] [])) _
        refine XS.iload X31.here hx rfl (hb hby at_108) rfl ?_
        show Steps p.tables e below (T31.setTop (mkF m 110 #[.val (.int x0), .val (.int x1), .val (.int x2), .val (.int d1), .val (.int d2), .val (.int at1), .val (.ref b2), .val (.int (1 : Int32)), .val (.int d1)] [(.int (1 : Int32))])) _
        refine XS.iconst X31.here hx rfl (hb hby at_110) ?_
        show Steps p.tables e below (T31.setTop (mkF m 111 #[.val (.int x0), .val (.int x1), .val (.int x2), .val (.int d1), .val (.int d2), .val (.int at1), .val (.ref b2), .val (.int (1 : Int32)), .val (.int d1)] [(.int (3 : Int32)), (.int (1 : Int32))])) _
        refine XS.icmpYes X31.here hx rfl (pc0 := 111) (pc' := 122) rfl (hb hby at_111) rfl (feq (by decide : ¬ ((1 : Int32) = (3 : Int32)))).2 (by decide) (by decide) ?_
        show Steps p.tables e below (T31.setTop (mkF m 122 #[.val (.int x0), .val (.int x1), .val (.int x2), .val (.int d1), .val (.int d2), .val (.int at1), .val (.ref b2), .val (.int (1 : Int32)), .val (.int d1)] [])) _
        refine XS.aload X31.here hx rfl (hb hby at_122) rfl rfl ?_
        show Steps p.tables e below (T31.setTop (mkF m 124 #[.val (.int x0), .val (.int x1), .val (.int x2), .val (.int d1), .val (.int d2), .val (.int at1), .val (.ref b2), .val (.int (1 : Int32)), .val (.int d1)] [(.ref b2)])) _
        refine st32.trans ?_
        show Steps p.tables e below (T32.setTop (mkF m 127 #[.val (.int x0), .val (.int x1), .val (.int x2), .val (.int d1), .val (.int d2), .val (.int at1), .val (.ref b2), .val (.int (1 : Int32)), .val (.int d1)] [(.int d1)])) _
        refine XS.iload X32.here hx rfl (hb hby at_127) rfl ?_
        show Steps p.tables e below (T32.setTop (mkF m 129 #[.val (.int x0), .val (.int x1), .val (.int x2), .val (.int d1), .val (.int d2), .val (.int at1), .val (.ref b2), .val (.int (1 : Int32)), .val (.int d1)] [(.int d1), (.int d1)])) _
        refine XS.icmpNo X32.here hx rfl (hb hby at_129) rfl (teq (rfl : d1 = d1)).2 ?_
        show Steps p.tables e below (T32.setTop (mkF m 132 #[.val (.int x0), .val (.int x1), .val (.int x2), .val (.int d1), .val (.int d2), .val (.int at1), .val (.ref b2), .val (.int (1 : Int32)), .val (.int d1)] [])) _
        refine XS.iconst X32.here hx rfl (hb hby at_132) ?_
        show Steps p.tables e below (T32.setTop (mkF m 133 #[.val (.int x0), .val (.int x1), .val (.int x2), .val (.int d1), .val (.int d2), .val (.int at1), .val (.ref b2), .val (.int (1 : Int32)), .val (.int d1)] [(.int (1 : Int32))])) _
        refine XS.goto X32.here hx rfl (pc0 := 133) (pc' := 137) rfl (hb hby at_133) (by decide) (by decide) ?_
        show Steps p.tables e below (T32.setTop (mkF m 137 #[.val (.int x0), .val (.int x1), .val (.int x2), .val (.int d1), .val (.int d2), .val (.int at1), .val (.ref b2), .val (.int (1 : Int32)), .val (.int d1)] [(.int (1 : Int32))])) _
        exact retN X32 hx (t := .boolean) Bd.returns (by simp) (hb hby at_137) lhr
      · skip
        show Q0 Z x0 x1 x2 G1 G3 ac cc h0 n0 _ T32.heap _
        rw [eq32]
        exact ⟨rfl, N32⟩
      · skip
        show CHr Z own_EL s.vm s.heap T32.vm T32.heap
        rw [hh]
        rw [eq32]
        exact CR31.trans (CHv.at X32 hZ31 hEL CR31.1)
  · skip
    rw [(hm : (x0 &&& (3 : Int32)) = (2 : Int32))] at k19
    have k33 : ∀ t, Steps p.tables e below (T18.setTop (mkF m 83 #[.val (.int x0), .val (.int x1), .val (.int x2), .val (.int d1), .val (.int d2), .val (.int at1), .val (.ref b2), .val (.int (2 : Int32)), .val (.int (0 : Int32))] [(.int d1), (.ref b2)])) t → Steps p.tables e below (s₁.setTop (entryFrame m #[(.int x0), (.int x1), (.int x2)] maxLocals)) t := by
      intro t kt
      refine k19 t ?_
      show Steps p.tables e below (T18.setTop (mkF m 46 #[.val (.int x0), .val (.int x1), .val (.int x2), .val (.int d1), .val (.int d2), .val (.int at1), .val (.ref b2), .val (.int (2 : Int32)), .unset] [])) _
      refine XS.iconst X18.here hx rfl (hb hby at_46) ?_
      show Steps p.tables e below (T18.setTop (mkF m 47 #[.val (.int x0), .val (.int x1), .val (.int x2), .val (.int d1), .val (.int d2), .val (.int at1), .val (.ref b2), .val (.int (2 : Int32)), .unset] [(.int (0 : Int32))])) _
      refine XS.istore X18.here hx rfl (hb hby at_47) rfl (l' := #[.val (.int x0), .val (.int x1), .val (.int x2), .val (.int d1), .val (.int d2), .val (.int at1), .val (.ref b2), .val (.int (2 : Int32)), .val (.int (0 : Int32))]) rfl ?_
      show Steps p.tables e below (T18.setTop (mkF m 49 #[.val (.int x0), .val (.int x1), .val (.int x2), .val (.int d1), .val (.int d2), .val (.int at1), .val (.ref b2), .val (.int (2 : Int32)), .val (.int (0 : Int32))] [])) _
      refine XS.iload X18.here hx rfl (hb hby at_49) rfl ?_
      show Steps p.tables e below (T18.setTop (mkF m 51 #[.val (.int x0), .val (.int x1), .val (.int x2), .val (.int d1), .val (.int d2), .val (.int at1), .val (.ref b2), .val (.int (2 : Int32)), .val (.int (0 : Int32))] [(.int (2 : Int32))])) _
      refine XS.ifYes X18.here hx rfl (pc0 := 51) (pc' := 62) rfl (hb hby at_51) rfl ((if0 _ _).trans (feq (by decide : ¬ ((2 : Int32) = (0 : Int32)))).2) (by decide) (by decide) ?_
      show Steps p.tables e below (T18.setTop (mkF m 62 #[.val (.int x0), .val (.int x1), .val (.int x2), .val (.int d1), .val (.int d2), .val (.int at1), .val (.ref b2), .val (.int (2 : Int32)), .val (.int (0 : Int32))] [])) _
      refine XS.iload X18.here hx rfl (hb hby at_62) rfl ?_
      show Steps p.tables e below (T18.setTop (mkF m 64 #[.val (.int x0), .val (.int x1), .val (.int x2), .val (.int d1), .val (.int d2), .val (.int at1), .val (.ref b2), .val (.int (2 : Int32)), .val (.int (0 : Int32))] [(.int (2 : Int32))])) _
      refine XS.iconst X18.here hx rfl (hb hby at_64) ?_
      show Steps p.tables e below (T18.setTop (mkF m 65 #[.val (.int x0), .val (.int x1), .val (.int x2), .val (.int d1), .val (.int d2), .val (.int at1), .val (.ref b2), .val (.int (2 : Int32)), .val (.int (0 : Int32))] [(.int (1 : Int32)), (.int (2 : Int32))])) _
      refine XS.icmpNo X18.here hx rfl (hb hby at_65) rfl (feq (by decide : ¬ ((2 : Int32) = (1 : Int32)))).1 ?_
      show Steps p.tables e below (T18.setTop (mkF m 68 #[.val (.int x0), .val (.int x1), .val (.int x2), .val (.int d1), .val (.int d2), .val (.int at1), .val (.ref b2), .val (.int (2 : Int32)), .val (.int (0 : Int32))] [])) _
      refine XS.iload X18.here hx rfl (hb hby at_68) rfl ?_
      show Steps p.tables e below (T18.setTop (mkF m 70 #[.val (.int x0), .val (.int x1), .val (.int x2), .val (.int d1), .val (.int d2), .val (.int at1), .val (.ref b2), .val (.int (2 : Int32)), .val (.int (0 : Int32))] [(.int (2 : Int32))])) _
      refine XS.iconst X18.here hx rfl (hb hby at_70) ?_
      show Steps p.tables e below (T18.setTop (mkF m 71 #[.val (.int x0), .val (.int x1), .val (.int x2), .val (.int d1), .val (.int d2), .val (.int at1), .val (.ref b2), .val (.int (2 : Int32)), .val (.int (0 : Int32))] [(.int (2 : Int32)), (.int (2 : Int32))])) _
      refine XS.icmpYes X18.here hx rfl (pc0 := 71) (pc' := 80) rfl (hb hby at_71) rfl (teq (by decide : (2 : Int32) = (2 : Int32))).1 (by decide) (by decide) ?_
      show Steps p.tables e below (T18.setTop (mkF m 80 #[.val (.int x0), .val (.int x1), .val (.int x2), .val (.int d1), .val (.int d2), .val (.int at1), .val (.ref b2), .val (.int (2 : Int32)), .val (.int (0 : Int32))] [])) _
      refine XS.aload X18.here hx rfl (hb hby at_80) rfl rfl ?_
      show Steps p.tables e below (T18.setTop (mkF m 82 #[.val (.int x0), .val (.int x1), .val (.int x2), .val (.int d1), .val (.int d2), .val (.int at1), .val (.ref b2), .val (.int (2 : Int32)), .val (.int (0 : Int32))] [(.ref b2)])) _
      refine XS.iloadN X18.here hx rfl (hb hby at_82) rfl ?_
      exact kt
    by_cases hb_d1 : (127 : Int32) < d1
    · skip
      have f34 := (f11.keep Kq18 (allS ge_b2 all0))
      have f35 := (f17.keep Kq18)
      have f36 := (f10.keep Kq18 (ninS (Ne.symm nn_b2_3.2) nin0))
      have f37 := (gE5.keep Kq18)
      have f38 := (gK5.keep Kq18 (ninS (Ne.symm nn_b2_5.2) nin0))
      obtain ⟨cq39, kq39, q39a, q39b, q39c⟩ := isOf hZ18 rfl g18_0
      obtain ⟨_, _, ⟨T39, L39, kc39, ks39⟩, -, X39, hSq39, hgr39, ⟨Lc39, hQ39, l39, y39, z39, CS39⟩, st39⟩ := X18.virtualBackS hx (y := (⟨"com/example/aloq/aloq/engine/NewTask", "delaySeconds", "(I)Lcom/example/aloq/aloq/engine/NewTask;"⟩ : MethodName)) (z := (⟨"com/example/aloq/aloq/engine/NewTask", "delaySeconds", "(I)Lcom/example/aloq/aloq/engine/NewTask;"⟩ : MethodName)) hown18 (mvT hZ18 (wd96 hw)) (mvT hZ18 (wd97 hw)) (notFace_of_selects (args := #[]) (mvT hZ18 (wd99 hw))) (mvT hZ18 (wd99 hw)) (mvT hZ18 (wd98 hw)) (by decide) (own_backSafe (s := s) (vm0 := T18.vm) (EL := own_EL) (ss := []) (W := 0) (rmA33 l Z a0 hw [] b2 d1 ((.int (5 : Int32))) ((.int (10 : Int32))) ((.ref a3)) ((.ref a5)) T18.heap n0 Z18 k0_d1 k1_d1 g18_6 hb_d1 k2_d1 (S_h.ext f34.2) g18_0 g18_5 ge_b2 g18_1 g18_2 g18_3 g18_4) hZ18 (wd100 hw) (wd4 hw) (by decide) (by decide) hEL CR18.1 all0) q39a q39c (g := (mkF m 83 #[.val (.int x0), .val (.int x1), .val (.int x2), .val (.int d1), .val (.int d2), .val (.int at1), .val (.ref b2), .val (.int (2 : Int32)), .val (.int (0 : Int32))] [(.int d1), (.ref b2)])) rfl (by rw [hml]; rfl) (Steps.refl _) (argsL := [(.int d1)]) (rest := []) (lenOf pd__I_Lcom_example_aloq_aloq_engine_NewTask_ rfl) rfl (by show 2 * 0 + _ ≤ _; exact Nat.le_of_eq rfl) (hb hby at_83) (fun _ _ => ⟨rfl, rfl, (by decide : 7 + 3 ≤ _), (by decide : 59 + 57 ≤ _)⟩)
      dsimp only [Pt.U, Pt.locs, Pt.cells, Pt.slots] at X39 l39 y39 z39 st39 hQ39 hSq39 hgr39 CS39
      subst l39 y39 z39
      obtain ⟨X39, hS39, hZ39, hown39⟩ := rebS hS18 (Nat.le_refl T18.heap.size) X39 hSq39 hgr39 hZ18 hown18
      obtain ⟨b39_0, rfl, Nq39, Kq39, sz39_0, g39_0, g39_1, g39_2, g39_3, g39_4, g39_5, g39_6, g39_7, g39_8⟩ := hQ39
      have N39 := Fr.app N18 Nq39
      have CR39 := CR18.trans CS39
      have Z39 : n0 ≤ T39.heap.size := Nat.le_trans Z18 Kq39.1
      have K39 : Keep h0 T39.heap [] := Keep.trans K18 Kq39 (allS (Or.inr sz_b2) all0)
      have ne_b2_b39_0 : b2 ≠ b39_0 := Nat.ne_of_lt (Nat.lt_of_lt_of_le g18_0.lt sz39_0)
      have ne_a3_b39_0 : a3 ≠ b39_0 := Nat.ne_of_lt (Nat.lt_of_lt_of_le f35.lt sz39_0)
      have ne_t3_b39_0 : t3 ≠ b39_0 := Nat.ne_of_lt (Nat.lt_of_lt_of_le f36.lt sz39_0)
      have ne_a5_b39_0 : a5 ≠ b39_0 := Nat.ne_of_lt (Nat.lt_of_lt_of_le f37.lt sz39_0)
      have ne_t5_b39_0 : t5 ≠ b39_0 := Nat.ne_of_lt (Nat.lt_of_lt_of_le f38.lt sz39_0)
      have ge_b39_0 : n0 ≤ b39_0 := Nat.le_trans Z18 sz39_0
      have sz_b39_0 : h0.size ≤ b39_0 := Nat.le_trans K18.1 sz39_0
      have k40 : ∀ t, Steps p.tables e below (T39.setTop (mkF m 100 #[.val (.int x0), .val (.int x1), .val (.int x2), .val (.int d1), .val (.int d2), .val (.int at1), .val (.ref b2), .val (.int (2 : Int32)), .val (.int d1)] [(.int d2), (.ref b2)])) t → Steps p.tables e below (s₁.setTop (entryFrame m #[(.int x0), (.int x1), (.int x2)] maxLocals)) t := by
        intro t kt
        refine k33 t ?_
        show Steps p.tables e below (T18.setTop (mkF m 83 #[.val (.int x0), .val (.int x1), .val (.int x2), .val (.int d1), .val (.int d2), .val (.int at1), .val (.ref b2), .val (.int (2 : Int32)), .val (.int (0 : Int32))] [(.int d1), (.ref b2)])) _
        refine st39.trans ?_
        show Steps p.tables e below (T39.setTop (mkF m 86 #[.val (.int x0), .val (.int x1), .val (.int x2), .val (.int d1), .val (.int d2), .val (.int at1), .val (.ref b2), .val (.int (2 : Int32)), .val (.int (0 : Int32))] [(.ref b2)])) _
        refine XS.pop X39.here hx rfl (hb hby at_86) rfl rfl ?_
        show Steps p.tables e below (T39.setTop (mkF m 87 #[.val (.int x0), .val (.int x1), .val (.int x2), .val (.int d1), .val (.int d2), .val (.int at1), .val (.ref b2), .val (.int (2 : Int32)), .val (.int (0 : Int32))] [])) _
        refine XS.iloadN X39.here hx rfl (hb hby at_87) rfl ?_
        show Steps p.tables e below (T39.setTop (mkF m 88 #[.val (.int x0), .val (.int x1), .val (.int x2), .val (.int d1), .val (.int d2), .val (.int at1), .val (.ref b2), .val (.int (2 : Int32)), .val (.int (0 : Int32))] [(.int d1)])) _
        refine XS.istore X39.here hx rfl (hb hby at_88) rfl (l' := #[.val (.int x0), .val (.int x1), .val (.int x2), .val (.int d1), .val (.int d2), .val (.int at1), .val (.ref b2), .val (.int (2 : Int32)), .val (.int d1)]) rfl ?_
        show Steps p.tables e below (T39.setTop (mkF m 90 #[.val (.int x0), .val (.int x1), .val (.int x2), .val (.int d1), .val (.int d2), .val (.int at1), .val (.ref b2), .val (.int (2 : Int32)), .val (.int d1)] [])) _
        refine XS.iload X39.here hx rfl (hb hby at_90) rfl ?_
        show Steps p.tables e below (T39.setTop (mkF m 92 #[.val (.int x0), .val (.int x1), .val (.int x2), .val (.int d1), .val (.int d2), .val (.int at1), .val (.ref b2), .val (.int (2 : Int32)), .val (.int d1)] [(.int (2 : Int32))])) _
        refine XS.iconst X39.here hx rfl (hb hby at_92) ?_
        show Steps p.tables e below (T39.setTop (mkF m 93 #[.val (.int x0), .val (.int x1), .val (.int x2), .val (.int d1), .val (.int d2), .val (.int at1), .val (.ref b2), .val (.int (2 : Int32)), .val (.int d1)] [(.int (2 : Int32)), (.int (2 : Int32))])) _
        refine XS.icmpNo X39.here hx rfl (hb hby at_93) rfl (teq (by decide : (2 : Int32) = (2 : Int32))).2 ?_
        show Steps p.tables e below (T39.setTop (mkF m 96 #[.val (.int x0), .val (.int x1), .val (.int x2), .val (.int d1), .val (.int d2), .val (.int at1), .val (.ref b2), .val (.int (2 : Int32)), .val (.int d1)] [])) _
        refine XS.aload X39.here hx rfl (hb hby at_96) rfl rfl ?_
        show Steps p.tables e below (T39.setTop (mkF m 98 #[.val (.int x0), .val (.int x1), .val (.int x2), .val (.int d1), .val (.int d2), .val (.int at1), .val (.ref b2), .val (.int (2 : Int32)), .val (.int d1)] [(.ref b2)])) _
        refine XS.iload X39.here hx rfl (hb hby at_98) rfl ?_
        exact kt
      by_cases hb_d2 : (127 : Int32) < d2
      · skip
        have f41 := (f34.keep Kq39 (allS ge_b2 all0))
        have f42 := (f35.keep Kq39)
        have f43 := (f36.keep Kq39 (ninS (Ne.symm nn_b2_3.2) nin0))
        have f44 := (f37.keep Kq39)
        have f45 := (f38.keep Kq39 (ninS (Ne.symm nn_b2_5.2) nin0))
        obtain ⟨cq46, kq46, q46a, q46b, q46c⟩ := isOf hZ39 rfl g39_3
        obtain ⟨_, _, ⟨T46, L46, kc46, ks46⟩, -, X46, hSq46, hgr46, ⟨Lc46, hQ46, l46, y46, z46, CS46⟩, st46⟩ := X39.virtualBackS hx (y := (⟨"com/example/aloq/aloq/engine/NewTask", "delaySeconds", "(I)Lcom/example/aloq/aloq/engine/NewTask;"⟩ : MethodName)) (z := (⟨"com/example/aloq/aloq/engine/NewTask", "delaySeconds", "(I)Lcom/example/aloq/aloq/engine/NewTask;"⟩ : MethodName)) hown39 (mvT hZ39 (wd96 hw)) (mvT hZ39 (wd97 hw)) (notFace_of_selects (args := #[]) (mvT hZ39 (wd99 hw))) (mvT hZ39 (wd99 hw)) (mvT hZ39 (wd98 hw)) (by decide) (own_backSafe (s := s) (vm0 := T39.vm) (EL := own_EL) (ss := []) (W := 0) (rmA52 l Z a0 hw [] b2 d2 b39_0 ((.int (5 : Int32))) ((.int (10 : Int32))) ((.ref a3)) ((.ref a5)) T39.heap n0 Z39 k0_d2 k1_d2 g39_0 hb_d2 k2_d2 (S_h.ext f41.2) g39_3 g39_4 ge_b2 g39_5 g39_6 g39_7 g39_8) hZ39 (wd100 hw) (wd4 hw) (by decide) (by decide) hEL CR39.1 all0) q46a q46c (g := (mkF m 100 #[.val (.int x0), .val (.int x1), .val (.int x2), .val (.int d1), .val (.int d2), .val (.int at1), .val (.ref b2), .val (.int (2 : Int32)), .val (.int d1)] [(.int d2), (.ref b2)])) rfl (by rw [hml]; rfl) (Steps.refl _) (argsL := [(.int d2)]) (rest := []) (lenOf pd__I_Lcom_example_aloq_aloq_engine_NewTask_ rfl) rfl (by show 2 * 0 + _ ≤ _; exact Nat.le_of_eq rfl) (hb hby at_100) (fun _ _ => ⟨rfl, rfl, (by decide : 10 + 3 ≤ _), (by decide : 116 + 57 ≤ _)⟩)
        dsimp only [Pt.U, Pt.locs, Pt.cells, Pt.slots] at X46 l46 y46 z46 st46 hQ46 hSq46 hgr46 CS46
        subst l46 y46 z46
        obtain ⟨X46, hS46, hZ46, hown46⟩ := rebS hS39 (Nat.le_refl T39.heap.size) X46 hSq46 hgr46 hZ39 hown39
        obtain ⟨b46_0, rfl, Nq46, Kq46, sz46_0, g46_0, g46_1, g46_2, g46_3, g46_4, g46_5, g46_6, g46_7, g46_8⟩ := hQ46
        have N46 := Fr.app N39 Nq46
        have CR46 := CR39.trans CS46
        have Z46 : n0 ≤ T46.heap.size := Nat.le_trans Z39 Kq46.1
        have K46 : Keep h0 T46.heap [] := Keep.trans K39 Kq46 (allS (Or.inr sz_b2) all0)
        have ne_b2_b46_0 : b2 ≠ b46_0 := Nat.ne_of_lt (Nat.lt_of_lt_of_le g39_3.lt sz46_0)
        have ne_a3_b46_0 : a3 ≠ b46_0 := Nat.ne_of_lt (Nat.lt_of_lt_of_le f42.lt sz46_0)
        have ne_t3_b46_0 : t3 ≠ b46_0 := Nat.ne_of_lt (Nat.lt_of_lt_of_le f43.lt sz46_0)
        have ne_a5_b46_0 : a5 ≠ b46_0 := Nat.ne_of_lt (Nat.lt_of_lt_of_le f44.lt sz46_0)
        have ne_t5_b46_0 : t5 ≠ b46_0 := Nat.ne_of_lt (Nat.lt_of_lt_of_le f45.lt sz46_0)
        have ne_b39_0_b46_0 : b39_0 ≠ b46_0 := Nat.ne_of_lt (Nat.lt_of_lt_of_le g39_1.lt sz46_0)
        have ge_b46_0 : n0 ≤ b46_0 := Nat.le_trans Z39 sz46_0
        have sz_b46_0 : h0.size ≤ b46_0 := Nat.le_trans K39.1 sz46_0
        obtain ⟨cq47, kq47, q47a, q47b, q47c⟩ := isOf hZ46 rfl g46_3
        obtain ⟨_, _, ⟨T47, L47, kc47, ks47⟩, -, X47, ⟨Lc47, hQ47, l47, y47, z47⟩, st47⟩ := X46.virtualBack hx (y := (⟨"com/example/aloq/aloq/engine/NewTask", "delaySeconds", "()I"⟩ : MethodName)) (z := (⟨"com/example/aloq/aloq/engine/NewTask", "delaySeconds", "()I"⟩ : MethodName)) hown46 (mvT hZ46 (wd89 hw)) (mvT hZ46 (wd90 hw)) (notFace_of_selects (args := #[]) (mvT hZ46 (wd92 hw))) (mvT hZ46 (wd92 hw)) (mvT hZ46 (wd91 hw)) (by decide) (backOf (W := 0) (rmA38 l Z a0 hw [] b2 b46_0 d2 T46.heap n0 Z46 g46_4 g46_2 g46_1) hZ46 (wd93 hw) (wd4 hw) (by decide) (by decide)) q47a q47c (g := (mkF m 124 #[.val (.int x0), .val (.int x1), .val (.int x2), .val (.int d1), .val (.int d2), .val (.int at1), .val (.ref b2), .val (.int (2 : Int32)), .val (.int d2)] [(.ref b2)])) rfl (by rw [hml]; rfl) (Steps.refl _) (argsL := []) (rest := []) (lenOf pd___I rfl) rfl (by show 2 * 0 + _ ≤ _; exact Nat.le_of_eq rfl) (hb hby at_124) (fun _ _ => ⟨rfl, rfl, (by decide : 13 + 0 ≤ _), (by decide : 173 + 0 ≤ _)⟩)
        dsimp only [Pt.U, Pt.locs, Pt.cells, Pt.slots] at X47 l47 y47 z47 st47 hQ47
        subst l47 y47 z47
        obtain ⟨rfl, Nq47, eq47⟩ := hQ47
        have N47 := Fr.app N46 Nq47
        obtain ⟨lfs, lhr, lhrun, lhended, lhE⟩ := X47.leaveW hS46 (by rw [eq47]; exact (Nat.le_refl T46.heap.size)) (v := some (.int (1 : Int32))) (fun h => by rw [Bd.returns] at h; cases h)
        refine ⟨_, _, k40 _ ?_, lhrun, lhended, _, _, rfl, ?_, ?_, lhE.1, lhE.2.1, lhE.2.2.1, lhE.2.2.2.mono (by decide) (by decide)⟩
        · skip
          show Steps p.tables e below (T39.setTop (mkF m 100 #[.val (.int x0), .val (.int x1), .val (.int x2), .val (.int d1), .val (.int d2), .val (.int at1), .val (.ref b2), .val (.int (2 : Int32)), .val (.int d1)] [(.int d2), (.ref b2)])) _
          refine st46.trans ?_
          show Steps p.tables e below (T46.setTop (mkF m 103 #[.val (.int x0), .val (.int x1), .val (.int x2), .val (.int d1), .val (.int d2), .val (.int at1), .val (.ref b2), .val (.int (2 : Int32)), .val (.int d1)] [(.ref b2)])) _
          refine XS.pop X46.here hx rfl (hb hby at_103) rfl rfl ?_
          show Steps p.tables e below (T46.setTop (mkF m 104 #[.val (.int x0), .val (.int x1), .val (.int x2), .val (.int d1), .val (.int d2), .val (.int at1), .val (.ref b2), .val (.int (2 : Int32)), .val (.int d1)] [])) _
          refine XS.iload X46.here hx rfl (hb hby at_104) rfl ?_
          show Steps p.tables e below (T46.setTop (mkF m 106 #[.val (.int x0), .val (.int x1), .val (.int x2), .val (.int d1), .val (.int d2), .val (.int at1), .val (.ref b2), .val (.int (2 : Int32)), .val (.int d1)] [(.int d2)])) _
          refine XS.istore X46.here hx rfl (hb hby at_106) rfl (l' := #[.val (.int x0), .val (.int x1), .val (.int x2), .val (.int d1), .val (.int d2), .val (.int at1), .val (.ref b2), .val (.int (2 : Int32)), .val (.int d2)]) rfl ?_
          show Steps p.tables e below (T46.setTop (mkF m 108 #[.val (.int x0), .val (.int x1), .val (.int x2), .val (.int d1), .val (.int d2), .val (.int at1), .val (.ref b2), .val (.int (2 : Int32)), .val (.int d2)] [])) _
          refine XS.iload X46.here hx rfl (hb hby at_108) rfl ?_
          show Steps p.tables e below (T46.setTop (mkF m 110 #[.val (.int x0), .val (.int x1), .val (.int x2), .val (.int d1), .val (.int d2), .val (.int at1), .val (.ref b2), .val (.int (2 : Int32)), .val (.int d2)] [(.int (2 : Int32))])) _
          refine XS.iconst X46.here hx rfl (hb hby at_110) ?_
          show Steps p.tables e below (T46.setTop (mkF m 111 #[.val (.int x0), .val (.int x1), .val (.int x2), .val (.int d1), .val (.int d2), .val (.int at1), .val (.ref b2), .val (.int (2 : Int32)), .val (.int d2)] [(.int (3 : Int32)), (.int (2 : Int32))])) _
          refine XS.icmpYes X46.here hx rfl (pc0 := 111) (pc' := 122) rfl (hb hby at_111) rfl (feq (by decide : ¬ ((2 : Int32) = (3 : Int32)))).2 (by decide) (by decide) ?_
          show Steps p.tables e below (T46.setTop (mkF m 122 #[.val (.int x0), .val (.int x1), .val (.int x2), .val (.int d1), .val (.int d2), .val (.int at1), .val (.ref b2), .val (.int (2 : Int32)), .val (.int d2)] [])) _
          refine XS.aload X46.here hx rfl (hb hby at_122) rfl rfl ?_
          show Steps p.tables e below (T46.setTop (mkF m 124 #[.val (.int x0), .val (.int x1), .val (.int x2), .val (.int d1), .val (.int d2), .val (.int at1), .val (.ref b2), .val (.int (2 : Int32)), .val (.int d2)] [(.ref b2)])) _
          refine st47.trans ?_
          show Steps p.tables e below (T47.setTop (mkF m 127 #[.val (.int x0), .val (.int x1), .val (.int x2), .val (.int d1), .val (.int d2), .val (.int at1), .val (.ref b2), .val (.int (2 : Int32)), .val (.int d2)] [(.int d2)])) _
          refine XS.iload X47.here hx rfl (hb hby at_127) rfl ?_
          show Steps p.tables e below (T47.setTop (mkF m 129 #[.val (.int x0), .val (.int x1), .val (.int x2), .val (.int d1), .val (.int d2), .val (.int at1), .val (.ref b2), .val (.int (2 : Int32)), .val (.int d2)] [(.int d2), (.int d2)])) _
          refine XS.icmpNo X47.here hx rfl (hb hby at_129) rfl (teq (rfl : d2 = d2)).2 ?_
          show Steps p.tables e below (T47.setTop (mkF m 132 #[.val (.int x0), .val (.int x1), .val (.int x2), .val (.int d1), .val (.int d2), .val (.int at1), .val (.ref b2), .val (.int (2 : Int32)), .val (.int d2)] [])) _
          refine XS.iconst X47.here hx rfl (hb hby at_132) ?_
          show Steps p.tables e below (T47.setTop (mkF m 133 #[.val (.int x0), .val (.int x1), .val (.int x2), .val (.int d1), .val (.int d2), .val (.int at1), .val (.ref b2), .val (.int (2 : Int32)), .val (.int d2)] [(.int (1 : Int32))])) _
          refine XS.goto X47.here hx rfl (pc0 := 133) (pc' := 137) rfl (hb hby at_133) (by decide) (by decide) ?_
          show Steps p.tables e below (T47.setTop (mkF m 137 #[.val (.int x0), .val (.int x1), .val (.int x2), .val (.int d1), .val (.int d2), .val (.int at1), .val (.ref b2), .val (.int (2 : Int32)), .val (.int d2)] [(.int (1 : Int32))])) _
          exact retN X47 hx (t := .boolean) Bd.returns (by simp) (hb hby at_137) lhr
        · skip
          show Q0 Z x0 x1 x2 G1 G3 ac cc h0 n0 _ T47.heap _
          rw [eq47]
          exact ⟨rfl, N47⟩
        · skip
          show CHr Z own_EL s.vm s.heap T47.vm T47.heap
          rw [hh]
          rw [eq47]
          exact CR46.trans (CHv.at X47 hZ46 hEL CR46.1)
      · skip
        have f48 := (f34.keep Kq39 (allS ge_b2 all0))
        obtain ⟨cq49, kq49, q49a, q49b, q49c⟩ := isOf hZ39 rfl g39_3
        obtain ⟨_, _, ⟨T49, L49, kc49, ks49⟩, -, X49, hSq49, hgr49, ⟨Lc49, hQ49, l49, y49, z49, CS49⟩, st49⟩ := X39.virtualBackS hx (y := (⟨"com/example/aloq/aloq/engine/NewTask", "delaySeconds", "(I)Lcom/example/aloq/aloq/engine/NewTask;"⟩ : MethodName)) (z := (⟨"com/example/aloq/aloq/engine/NewTask", "delaySeconds", "(I)Lcom/example/aloq/aloq/engine/NewTask;"⟩ : MethodName)) hown39 (mvT hZ39 (wd96 hw)) (mvT hZ39 (wd97 hw)) (notFace_of_selects (args := #[]) (mvT hZ39 (wd99 hw))) (mvT hZ39 (wd99 hw)) (mvT hZ39 (wd98 hw)) (by decide) (own_backSafe (s := s) (vm0 := T39.vm) (EL := own_EL) (ss := []) (W := 0) (rmA60 l Z a0 hw [] b2 d2 ac cc b39_0 ((.int (5 : Int32))) ((.int (10 : Int32))) ((.ref a3)) ((.ref a5)) T39.heap n0 Z39 k0_d2 k1_d2 g39_0 hb_d2 k2_d2 (S_h.ext f48.2) (S_c.ext f48.2) Bx f48 g39_3 g39_4 ge_b2 g39_5 g39_6 g39_7 g39_8) hZ39 (wd100 hw) (wd4 hw) (by decide) (by decide) hEL CR39.1 all0) q49a q49c (g := (mkF m 100 #[.val (.int x0), .val (.int x1), .val (.int x2), .val (.int d1), .val (.int d2), .val (.int at1), .val (.ref b2), .val (.int (2 : Int32)), .val (.int d1)] [(.int d2), (.ref b2)])) rfl (by rw [hml]; rfl) (Steps.refl _) (argsL := [(.int d2)]) (rest := []) (lenOf pd__I_Lcom_example_aloq_aloq_engine_NewTask_ rfl) rfl (by show 2 * 0 + _ ≤ _; exact Nat.le_of_eq rfl) (hb hby at_100) (fun _ _ => ⟨rfl, rfl, (by decide : 10 + 2 ≤ _), (by decide : 116 + 56 ≤ _)⟩)
        dsimp only [Pt.U, Pt.locs, Pt.cells, Pt.slots] at X49 l49 y49 z49 st49 hQ49 hSq49 hgr49 CS49
        subst l49 y49 z49
        obtain ⟨X49, hS49, hZ49, hown49⟩ := rebS hS39 (Nat.le_refl T39.heap.size) X49 hSq49 hgr49 hZ39 hown39
        obtain ⟨b49_0, rfl, Nq49, Kq49, g49_0, g49_1, g49_2, g49_3, g49_4, g49_5, g49_6, g49_7, g49_8⟩ := hQ49
        have N49 := Fr.app N39 Nq49
        have CR49 := CR39.trans CS49
        have Z49 : n0 ≤ T49.heap.size := Nat.le_trans Z39 Kq49.1
        have K49 : Keep h0 T49.heap [] := Keep.trans K39 Kq49 (allS (Or.inr sz_b2) all0)
        obtain ⟨cq50, kq50, q50a, q50b, q50c⟩ := isOf hZ49 rfl g49_3
        obtain ⟨_, _, ⟨T50, L50, kc50, ks50⟩, -, X50, ⟨Lc50, hQ50, l50, y50, z50⟩, st50⟩ := X49.virtualBack hx (y := (⟨"com/example/aloq/aloq/engine/NewTask", "delaySeconds", "()I"⟩ : MethodName)) (z := (⟨"com/example/aloq/aloq/engine/NewTask", "delaySeconds", "()I"⟩ : MethodName)) hown49 (mvT hZ49 (wd89 hw)) (mvT hZ49 (wd90 hw)) (notFace_of_selects (args := #[]) (mvT hZ49 (wd92 hw))) (mvT hZ49 (wd92 hw)) (mvT hZ49 (wd91 hw)) (by decide) (backOf (W := 0) (rmA38 l Z a0 hw [] b2 b49_0 d2 T49.heap n0 Z49 g49_4 g49_2 g49_1) hZ49 (wd93 hw) (wd4 hw) (by decide) (by decide)) q50a q50c (g := (mkF m 124 #[.val (.int x0), .val (.int x1), .val (.int x2), .val (.int d1), .val (.int d2), .val (.int at1), .val (.ref b2), .val (.int (2 : Int32)), .val (.int d2)] [(.ref b2)])) rfl (by rw [hml]; rfl) (Steps.refl _) (argsL := []) (rest := []) (lenOf pd___I rfl) rfl (by show 2 * 0 + _ ≤ _; exact Nat.le_of_eq rfl) (hb hby at_124) (fun _ _ => ⟨rfl, rfl, (by decide : 12 + 0 ≤ _), (by decide : 172 + 0 ≤ _)⟩)
        dsimp only [Pt.U, Pt.locs, Pt.cells, Pt.slots] at X50 l50 y50 z50 st50 hQ50
        subst l50 y50 z50
        obtain ⟨rfl, Nq50, eq50⟩ := hQ50
        have N50 := Fr.app N49 Nq50
        obtain ⟨lfs, lhr, lhrun, lhended, lhE⟩ := X50.leaveW hS49 (by rw [eq50]; exact (Nat.le_refl T49.heap.size)) (v := some (.int (1 : Int32))) (fun h => by rw [Bd.returns] at h; cases h)
        refine ⟨_, _, k40 _ ?_, lhrun, lhended, _, _, rfl, ?_, ?_, lhE.1, lhE.2.1, lhE.2.2.1, lhE.2.2.2.mono (by decide) (by decide)⟩
        · skip
          show Steps p.tables e below (T39.setTop (mkF m 100 #[.val (.int x0), .val (.int x1), .val (.int x2), .val (.int d1), .val (.int d2), .val (.int at1), .val (.ref b2), .val (.int (2 : Int32)), .val (.int d1)] [(.int d2), (.ref b2)])) _
          refine st49.trans ?_
          show Steps p.tables e below (T49.setTop (mkF m 103 #[.val (.int x0), .val (.int x1), .val (.int x2), .val (.int d1), .val (.int d2), .val (.int at1), .val (.ref b2), .val (.int (2 : Int32)), .val (.int d1)] [(.ref b2)])) _
          refine XS.pop X49.here hx rfl (hb hby at_103) rfl rfl ?_
          show Steps p.tables e below (T49.setTop (mkF m 104 #[.val (.int x0), .val (.int x1), .val (.int x2), .val (.int d1), .val (.int d2), .val (.int at1), .val (.ref b2), .val (.int (2 : Int32)), .val (.int d1)] [])) _
          refine XS.iload X49.here hx rfl (hb hby at_104) rfl ?_
          show Steps p.tables e below (T49.setTop (mkF m 106 #[.val (.int x0), .val (.int x1), .val (.int x2), .val (.int d1), .val (.int d2), .val (.int at1), .val (.ref b2), .val (.int (2 : Int32)), .val (.int d1)] [(.int d2)])) _
          refine XS.istore X49.here hx rfl (hb hby at_106) rfl (l' := #[.val (.int x0), .val (.int x1), .val (.int x2), .val (.int d1), .val (.int d2), .val (.int at1), .val (.ref b2), .val (.int (2 : Int32)), .val (.int d2)]) rfl ?_
          show Steps p.tables e below (T49.setTop (mkF m 108 #[.val (.int x0), .val (.int x1), .val (.int x2), .val (.int d1), .val (.int d2), .val (.int at1), .val (.ref b2), .val (.int (2 : Int32)), .val (.int d2)] [])) _
          refine XS.iload X49.here hx rfl (hb hby at_108) rfl ?_
          show Steps p.tables e below (T49.setTop (mkF m 110 #[.val (.int x0), .val (.int x1), .val (.int x2), .val (.int d1), .val (.int d2), .val (.int at1), .val (.ref b2), .val (.int (2 : Int32)), .val (.int d2)] [(.int (2 : Int32))])) _
          refine XS.iconst X49.here hx rfl (hb hby at_110) ?_
          show Steps p.tables e below (T49.setTop (mkF m 111 #[.val (.int x0), .val (.int x1), .val (.int x2), .val (.int d1), .val (.int d2), .val (.int at1), .val (.ref b2), .val (.int (2 : Int32)), .val (.int d2)] [(.int (3 : Int32)), (.int (2 : Int32))])) _
          refine XS.icmpYes X49.here hx rfl (pc0 := 111) (pc' := 122) rfl (hb hby at_111) rfl (feq (by decide : ¬ ((2 : Int32) = (3 : Int32)))).2 (by decide) (by decide) ?_
          show Steps p.tables e below (T49.setTop (mkF m 122 #[.val (.int x0), .val (.int x1), .val (.int x2), .val (.int d1), .val (.int d2), .val (.int at1), .val (.ref b2), .val (.int (2 : Int32)), .val (.int d2)] [])) _
          refine XS.aload X49.here hx rfl (hb hby at_122) rfl rfl ?_
          show Steps p.tables e below (T49.setTop (mkF m 124 #[.val (.int x0), .val (.int x1), .val (.int x2), .val (.int d1), .val (.int d2), .val (.int at1), .val (.ref b2), .val (.int (2 : Int32)), .val (.int d2)] [(.ref b2)])) _
          refine st50.trans ?_
          show Steps p.tables e below (T50.setTop (mkF m 127 #[.val (.int x0), .val (.int x1), .val (.int x2), .val (.int d1), .val (.int d2), .val (.int at1), .val (.ref b2), .val (.int (2 : Int32)), .val (.int d2)] [(.int d2)])) _
          refine XS.iload X50.here hx rfl (hb hby at_127) rfl ?_
          show Steps p.tables e below (T50.setTop (mkF m 129 #[.val (.int x0), .val (.int x1), .val (.int x2), .val (.int d1), .val (.int d2), .val (.int at1), .val (.ref b2), .val (.int (2 : Int32)), .val (.int d2)] [(.int d2), (.int d2)])) _
          refine XS.icmpNo X50.here hx rfl (hb hby at_129) rfl (teq (rfl : d2 = d2)).2 ?_
          show Steps p.tables e below (T50.setTop (mkF m 132 #[.val (.int x0), .val (.int x1), .val (.int x2), .val (.int d1), .val (.int d2), .val (.int at1), .val (.ref b2), .val (.int (2 : Int32)), .val (.int d2)] [])) _
          refine XS.iconst X50.here hx rfl (hb hby at_132) ?_
          show Steps p.tables e below (T50.setTop (mkF m 133 #[.val (.int x0), .val (.int x1), .val (.int x2), .val (.int d1), .val (.int d2), .val (.int at1), .val (.ref b2), .val (.int (2 : Int32)), .val (.int d2)] [(.int (1 : Int32))])) _
          refine XS.goto X50.here hx rfl (pc0 := 133) (pc' := 137) rfl (hb hby at_133) (by decide) (by decide) ?_
          show Steps p.tables e below (T50.setTop (mkF m 137 #[.val (.int x0), .val (.int x1), .val (.int x2), .val (.int d1), .val (.int d2), .val (.int at1), .val (.ref b2), .val (.int (2 : Int32)), .val (.int d2)] [(.int (1 : Int32))])) _
          exact retN X50 hx (t := .boolean) Bd.returns (by simp) (hb hby at_137) lhr
        · skip
          show Q0 Z x0 x1 x2 G1 G3 ac cc h0 n0 _ T50.heap _
          rw [eq50]
          exact ⟨rfl, N50⟩
        · skip
          show CHr Z own_EL s.vm s.heap T50.vm T50.heap
          rw [hh]
          rw [eq50]
          exact CR49.trans (CHv.at X50 hZ49 hEL CR49.1)
    · skip
      have f51 := (f11.keep Kq18 (allS ge_b2 all0))
      obtain ⟨cq52, kq52, q52a, q52b, q52c⟩ := isOf hZ18 rfl g18_0
      obtain ⟨_, _, ⟨T52, L52, kc52, ks52⟩, -, X52, hSq52, hgr52, ⟨Lc52, hQ52, l52, y52, z52, CS52⟩, st52⟩ := X18.virtualBackS hx (y := (⟨"com/example/aloq/aloq/engine/NewTask", "delaySeconds", "(I)Lcom/example/aloq/aloq/engine/NewTask;"⟩ : MethodName)) (z := (⟨"com/example/aloq/aloq/engine/NewTask", "delaySeconds", "(I)Lcom/example/aloq/aloq/engine/NewTask;"⟩ : MethodName)) hown18 (mvT hZ18 (wd96 hw)) (mvT hZ18 (wd97 hw)) (notFace_of_selects (args := #[]) (mvT hZ18 (wd99 hw))) (mvT hZ18 (wd99 hw)) (mvT hZ18 (wd98 hw)) (by decide) (own_backSafe (s := s) (vm0 := T18.vm) (EL := own_EL) (ss := []) (W := 0) (rmA41 l Z a0 hw [] b2 d1 ac cc ((.int (5 : Int32))) ((.int (10 : Int32))) ((.ref a3)) ((.ref a5)) T18.heap n0 Z18 k0_d1 k1_d1 g18_6 hb_d1 k2_d1 (S_h.ext f51.2) (S_c.ext f51.2) Bx f51 g18_0 g18_5 ge_b2 g18_1 g18_2 g18_3 g18_4) hZ18 (wd100 hw) (wd4 hw) (by decide) (by decide) hEL CR18.1 all0) q52a q52c (g := (mkF m 83 #[.val (.int x0), .val (.int x1), .val (.int x2), .val (.int d1), .val (.int d2), .val (.int at1), .val (.ref b2), .val (.int (2 : Int32)), .val (.int (0 : Int32))] [(.int d1), (.ref b2)])) rfl (by rw [hml]; rfl) (Steps.refl _) (argsL := [(.int d1)]) (rest := []) (lenOf pd__I_Lcom_example_aloq_aloq_engine_NewTask_ rfl) rfl (by show 2 * 0 + _ ≤ _; exact Nat.le_of_eq rfl) (hb hby at_83) (fun _ _ => ⟨rfl, rfl, (by decide : 7 + 2 ≤ _), (by decide : 59 + 56 ≤ _)⟩)
      dsimp only [Pt.U, Pt.locs, Pt.cells, Pt.slots] at X52 l52 y52 z52 st52 hQ52 hSq52 hgr52 CS52
      subst l52 y52 z52
      obtain ⟨X52, hS52, hZ52, hown52⟩ := rebS hS18 (Nat.le_refl T18.heap.size) X52 hSq52 hgr52 hZ18 hown18
      obtain ⟨b52_0, rfl, Nq52, Kq52, g52_0, g52_1, g52_2, g52_3, g52_4, g52_5, g52_6, g52_7, g52_8⟩ := hQ52
      have N52 := Fr.app N18 Nq52
      have CR52 := CR18.trans CS52
      have Z52 : n0 ≤ T52.heap.size := Nat.le_trans Z18 Kq52.1
      have K52 : Keep h0 T52.heap [] := Keep.trans K18 Kq52 (allS (Or.inr sz_b2) all0)
      have k53 : ∀ t, Steps p.tables e below (T52.setTop (mkF m 100 #[.val (.int x0), .val (.int x1), .val (.int x2), .val (.int d1), .val (.int d2), .val (.int at1), .val (.ref b2), .val (.int (2 : Int32)), .val (.int d1)] [(.int d2), (.ref b2)])) t → Steps p.tables e below (s₁.setTop (entryFrame m #[(.int x0), (.int x1), (.int x2)] maxLocals)) t := by
        intro t kt
        refine k33 t ?_
        show Steps p.tables e below (T18.setTop (mkF m 83 #[.val (.int x0), .val (.int x1), .val (.int x2), .val (.int d1), .val (.int d2), .val (.int at1), .val (.ref b2), .val (.int (2 : Int32)), .val (.int (0 : Int32))] [(.int d1), (.ref b2)])) _
        refine st52.trans ?_
        show Steps p.tables e below (T52.setTop (mkF m 86 #[.val (.int x0), .val (.int x1), .val (.int x2), .val (.int d1), .val (.int d2), .val (.int at1), .val (.ref b2), .val (.int (2 : Int32)), .val (.int (0 : Int32))] [(.ref b2)])) _
        refine XS.pop X52.here hx rfl (hb hby at_86) rfl rfl ?_
        show Steps p.tables e below (T52.setTop (mkF m 87 #[.val (.int x0), .val (.int x1), .val (.int x2), .val (.int d1), .val (.int d2), .val (.int at1), .val (.ref b2), .val (.int (2 : Int32)), .val (.int (0 : Int32))] [])) _
        refine XS.iloadN X52.here hx rfl (hb hby at_87) rfl ?_
        show Steps p.tables e below (T52.setTop (mkF m 88 #[.val (.int x0), .val (.int x1), .val (.int x2), .val (.int d1), .val (.int d2), .val (.int at1), .val (.ref b2), .val (.int (2 : Int32)), .val (.int (0 : Int32))] [(.int d1)])) _
        refine XS.istore X52.here hx rfl (hb hby at_88) rfl (l' := #[.val (.int x0), .val (.int x1), .val (.int x2), .val (.int d1), .val (.int d2), .val (.int at1), .val (.ref b2), .val (.int (2 : Int32)), .val (.int d1)]) rfl ?_
        show Steps p.tables e below (T52.setTop (mkF m 90 #[.val (.int x0), .val (.int x1), .val (.int x2), .val (.int d1), .val (.int d2), .val (.int at1), .val (.ref b2), .val (.int (2 : Int32)), .val (.int d1)] [])) _
        refine XS.iload X52.here hx rfl (hb hby at_90) rfl ?_
        show Steps p.tables e below (T52.setTop (mkF m 92 #[.val (.int x0), .val (.int x1), .val (.int x2), .val (.int d1), .val (.int d2), .val (.int at1), .val (.ref b2), .val (.int (2 : Int32)), .val (.int d1)] [(.int (2 : Int32))])) _
        refine XS.iconst X52.here hx rfl (hb hby at_92) ?_
        show Steps p.tables e below (T52.setTop (mkF m 93 #[.val (.int x0), .val (.int x1), .val (.int x2), .val (.int d1), .val (.int d2), .val (.int at1), .val (.ref b2), .val (.int (2 : Int32)), .val (.int d1)] [(.int (2 : Int32)), (.int (2 : Int32))])) _
        refine XS.icmpNo X52.here hx rfl (hb hby at_93) rfl (teq (by decide : (2 : Int32) = (2 : Int32))).2 ?_
        show Steps p.tables e below (T52.setTop (mkF m 96 #[.val (.int x0), .val (.int x1), .val (.int x2), .val (.int d1), .val (.int d2), .val (.int at1), .val (.ref b2), .val (.int (2 : Int32)), .val (.int d1)] [])) _
        refine XS.aload X52.here hx rfl (hb hby at_96) rfl rfl ?_
        show Steps p.tables e below (T52.setTop (mkF m 98 #[.val (.int x0), .val (.int x1), .val (.int x2), .val (.int d1), .val (.int d2), .val (.int at1), .val (.ref b2), .val (.int (2 : Int32)), .val (.int d1)] [(.ref b2)])) _
        refine XS.iload X52.here hx rfl (hb hby at_98) rfl ?_
        exact kt
      by_cases hb_d2 : (127 : Int32) < d2
      · skip
        have f54 := (f51.keep Kq52 (allS ge_b2 all0))
        have f55 := ((f17.keep Kq18).keep Kq52)
        have f56 := ((f10.keep Kq18 (ninS (Ne.symm nn_b2_3.2) nin0)).keep Kq52 (ninS (Ne.symm nn_b2_3.2) nin0))
        have f57 := ((gE5.keep Kq18).keep Kq52)
        have f58 := ((gK5.keep Kq18 (ninS (Ne.symm nn_b2_5.2) nin0)).keep Kq52 (ninS (Ne.symm nn_b2_5.2) nin0))
        obtain ⟨cq59, kq59, q59a, q59b, q59c⟩ := isOf hZ52 rfl g52_3
        obtain ⟨_, _, ⟨T59, L59, kc59, ks59⟩, -, X59, hSq59, hgr59, ⟨Lc59, hQ59, l59, y59, z59, CS59⟩, st59⟩ := X52.virtualBackS hx (y := (⟨"com/example/aloq/aloq/engine/NewTask", "delaySeconds", "(I)Lcom/example/aloq/aloq/engine/NewTask;"⟩ : MethodName)) (z := (⟨"com/example/aloq/aloq/engine/NewTask", "delaySeconds", "(I)Lcom/example/aloq/aloq/engine/NewTask;"⟩ : MethodName)) hown52 (mvT hZ52 (wd96 hw)) (mvT hZ52 (wd97 hw)) (notFace_of_selects (args := #[]) (mvT hZ52 (wd99 hw))) (mvT hZ52 (wd99 hw)) (mvT hZ52 (wd98 hw)) (by decide) (own_backSafe (s := s) (vm0 := T52.vm) (EL := own_EL) (ss := []) (W := 0) (rmA52 l Z a0 hw [] b2 d2 b52_0 ((.int (5 : Int32))) ((.int (10 : Int32))) ((.ref a3)) ((.ref a5)) T52.heap n0 Z52 k0_d2 k1_d2 g52_0 hb_d2 k2_d2 (S_h.ext f54.2) g52_3 g52_4 ge_b2 g52_5 g52_6 g52_7 g52_8) hZ52 (wd100 hw) (wd4 hw) (by decide) (by decide) hEL CR52.1 all0) q59a q59c (g := (mkF m 100 #[.val (.int x0), .val (.int x1), .val (.int x2), .val (.int d1), .val (.int d2), .val (.int at1), .val (.ref b2), .val (.int (2 : Int32)), .val (.int d1)] [(.int d2), (.ref b2)])) rfl (by rw [hml]; rfl) (Steps.refl _) (argsL := [(.int d2)]) (rest := []) (lenOf pd__I_Lcom_example_aloq_aloq_engine_NewTask_ rfl) rfl (by show 2 * 0 + _ ≤ _; exact Nat.le_of_eq rfl) (hb hby at_100) (fun _ _ => ⟨rfl, rfl, (by decide : 9 + 3 ≤ _), (by decide : 115 + 57 ≤ _)⟩)
        dsimp only [Pt.U, Pt.locs, Pt.cells, Pt.slots] at X59 l59 y59 z59 st59 hQ59 hSq59 hgr59 CS59
        subst l59 y59 z59
        obtain ⟨X59, hS59, hZ59, hown59⟩ := rebS hS52 (Nat.le_refl T52.heap.size) X59 hSq59 hgr59 hZ52 hown52
        obtain ⟨b59_0, rfl, Nq59, Kq59, sz59_0, g59_0, g59_1, g59_2, g59_3, g59_4, g59_5, g59_6, g59_7, g59_8⟩ := hQ59
        have N59 := Fr.app N52 Nq59
        have CR59 := CR52.trans CS59
        have Z59 : n0 ≤ T59.heap.size := Nat.le_trans Z52 Kq59.1
        have K59 : Keep h0 T59.heap [] := Keep.trans K52 Kq59 (allS (Or.inr sz_b2) all0)
        have ne_b2_b59_0 : b2 ≠ b59_0 := Nat.ne_of_lt (Nat.lt_of_lt_of_le g52_3.lt sz59_0)
        have ne_a3_b59_0 : a3 ≠ b59_0 := Nat.ne_of_lt (Nat.lt_of_lt_of_le f55.lt sz59_0)
        have ne_t3_b59_0 : t3 ≠ b59_0 := Nat.ne_of_lt (Nat.lt_of_lt_of_le f56.lt sz59_0)
        have ne_a5_b59_0 : a5 ≠ b59_0 := Nat.ne_of_lt (Nat.lt_of_lt_of_le f57.lt sz59_0)
        have ne_t5_b59_0 : t5 ≠ b59_0 := Nat.ne_of_lt (Nat.lt_of_lt_of_le f58.lt sz59_0)
        have ne_b52_0_b59_0 : b52_0 ≠ b59_0 := Nat.ne_of_lt (Nat.lt_of_lt_of_le g52_1.lt sz59_0)
        have ge_b59_0 : n0 ≤ b59_0 := Nat.le_trans Z52 sz59_0
        have sz_b59_0 : h0.size ≤ b59_0 := Nat.le_trans K52.1 sz59_0
        obtain ⟨cq60, kq60, q60a, q60b, q60c⟩ := isOf hZ59 rfl g59_3
        obtain ⟨_, _, ⟨T60, L60, kc60, ks60⟩, -, X60, ⟨Lc60, hQ60, l60, y60, z60⟩, st60⟩ := X59.virtualBack hx (y := (⟨"com/example/aloq/aloq/engine/NewTask", "delaySeconds", "()I"⟩ : MethodName)) (z := (⟨"com/example/aloq/aloq/engine/NewTask", "delaySeconds", "()I"⟩ : MethodName)) hown59 (mvT hZ59 (wd89 hw)) (mvT hZ59 (wd90 hw)) (notFace_of_selects (args := #[]) (mvT hZ59 (wd92 hw))) (mvT hZ59 (wd92 hw)) (mvT hZ59 (wd91 hw)) (by decide) (backOf (W := 0) (rmA38 l Z a0 hw [] b2 b59_0 d2 T59.heap n0 Z59 g59_4 g59_2 g59_1) hZ59 (wd93 hw) (wd4 hw) (by decide) (by decide)) q60a q60c (g := (mkF m 124 #[.val (.int x0), .val (.int x1), .val (.int x2), .val (.int d1), .val (.int d2), .val (.int at1), .val (.ref b2), .val (.int (2 : Int32)), .val (.int d2)] [(.ref b2)])) rfl (by rw [hml]; rfl) (Steps.refl _) (argsL := []) (rest := []) (lenOf pd___I rfl) rfl (by show 2 * 0 + _ ≤ _; exact Nat.le_of_eq rfl) (hb hby at_124) (fun _ _ => ⟨rfl, rfl, (by decide : 12 + 0 ≤ _), (by decide : 172 + 0 ≤ _)⟩)
        dsimp only [Pt.U, Pt.locs, Pt.cells, Pt.slots] at X60 l60 y60 z60 st60 hQ60
        subst l60 y60 z60
        obtain ⟨rfl, Nq60, eq60⟩ := hQ60
        have N60 := Fr.app N59 Nq60
        obtain ⟨lfs, lhr, lhrun, lhended, lhE⟩ := X60.leaveW hS59 (by rw [eq60]; exact (Nat.le_refl T59.heap.size)) (v := some (.int (1 : Int32))) (fun h => by rw [Bd.returns] at h; cases h)
        refine ⟨_, _, k53 _ ?_, lhrun, lhended, _, _, rfl, ?_, ?_, lhE.1, lhE.2.1, lhE.2.2.1, lhE.2.2.2.mono (by decide) (by decide)⟩
        · skip
          show Steps p.tables e below (T52.setTop (mkF m 100 #[.val (.int x0), .val (.int x1), .val (.int x2), .val (.int d1), .val (.int d2), .val (.int at1), .val (.ref b2), .val (.int (2 : Int32)), .val (.int d1)] [(.int d2), (.ref b2)])) _
          refine st59.trans ?_
          show Steps p.tables e below (T59.setTop (mkF m 103 #[.val (.int x0), .val (.int x1), .val (.int x2), .val (.int d1), .val (.int d2), .val (.int at1), .val (.ref b2), .val (.int (2 : Int32)), .val (.int d1)] [(.ref b2)])) _
          refine XS.pop X59.here hx rfl (hb hby at_103) rfl rfl ?_
          show Steps p.tables e below (T59.setTop (mkF m 104 #[.val (.int x0), .val (.int x1), .val (.int x2), .val (.int d1), .val (.int d2), .val (.int at1), .val (.ref b2), .val (.int (2 : Int32)), .val (.int d1)] [])) _
          refine XS.iload X59.here hx rfl (hb hby at_104) rfl ?_
          show Steps p.tables e below (T59.setTop (mkF m 106 #[.val (.int x0), .val (.int x1), .val (.int x2), .val (.int d1), .val (.int d2), .val (.int at1), .val (.ref b2), .val (.int (2 : Int32)), .val (.int d1)] [(.int d2)])) _
          refine XS.istore X59.here hx rfl (hb hby at_106) rfl (l' := #[.val (.int x0), .val (.int x1), .val (.int x2), .val (.int d1), .val (.int d2), .val (.int at1), .val (.ref b2), .val (.int (2 : Int32)), .val (.int d2)]) rfl ?_
          show Steps p.tables e below (T59.setTop (mkF m 108 #[.val (.int x0), .val (.int x1), .val (.int x2), .val (.int d1), .val (.int d2), .val (.int at1), .val (.ref b2), .val (.int (2 : Int32)), .val (.int d2)] [])) _
          refine XS.iload X59.here hx rfl (hb hby at_108) rfl ?_
          show Steps p.tables e below (T59.setTop (mkF m 110 #[.val (.int x0), .val (.int x1), .val (.int x2), .val (.int d1), .val (.int d2), .val (.int at1), .val (.ref b2), .val (.int (2 : Int32)), .val (.int d2)] [(.int (2 : Int32))])) _
          refine XS.iconst X59.here hx rfl (hb hby at_110) ?_
          show Steps p.tables e below (T59.setTop (mkF m 111 #[.val (.int x0), .val (.int x1), .val (.int x2), .val (.int d1), .val (.int d2), .val (.int at1), .val (.ref b2), .val (.int (2 : Int32)), .val (.int d2)] [(.int (3 : Int32)), (.int (2 : Int32))])) _
          refine XS.icmpYes X59.here hx rfl (pc0 := 111) (pc' := 122) rfl (hb hby at_111) rfl (feq (by decide : ¬ ((2 : Int32) = (3 : Int32)))).2 (by decide) (by decide) ?_
          show Steps p.tables e below (T59.setTop (mkF m 122 #[.val (.int x0), .val (.int x1), .val (.int x2), .val (.int d1), .val (.int d2), .val (.int at1), .val (.ref b2), .val (.int (2 : Int32)), .val (.int d2)] [])) _
          refine XS.aload X59.here hx rfl (hb hby at_122) rfl rfl ?_
          show Steps p.tables e below (T59.setTop (mkF m 124 #[.val (.int x0), .val (.int x1), .val (.int x2), .val (.int d1), .val (.int d2), .val (.int at1), .val (.ref b2), .val (.int (2 : Int32)), .val (.int d2)] [(.ref b2)])) _
          refine st60.trans ?_
          show Steps p.tables e below (T60.setTop (mkF m 127 #[.val (.int x0), .val (.int x1), .val (.int x2), .val (.int d1), .val (.int d2), .val (.int at1), .val (.ref b2), .val (.int (2 : Int32)), .val (.int d2)] [(.int d2)])) _
          refine XS.iload X60.here hx rfl (hb hby at_127) rfl ?_
          show Steps p.tables e below (T60.setTop (mkF m 129 #[.val (.int x0), .val (.int x1), .val (.int x2), .val (.int d1), .val (.int d2), .val (.int at1), .val (.ref b2), .val (.int (2 : Int32)), .val (.int d2)] [(.int d2), (.int d2)])) _
          refine XS.icmpNo X60.here hx rfl (hb hby at_129) rfl (teq (rfl : d2 = d2)).2 ?_
          show Steps p.tables e below (T60.setTop (mkF m 132 #[.val (.int x0), .val (.int x1), .val (.int x2), .val (.int d1), .val (.int d2), .val (.int at1), .val (.ref b2), .val (.int (2 : Int32)), .val (.int d2)] [])) _
          refine XS.iconst X60.here hx rfl (hb hby at_132) ?_
          show Steps p.tables e below (T60.setTop (mkF m 133 #[.val (.int x0), .val (.int x1), .val (.int x2), .val (.int d1), .val (.int d2), .val (.int at1), .val (.ref b2), .val (.int (2 : Int32)), .val (.int d2)] [(.int (1 : Int32))])) _
          refine XS.goto X60.here hx rfl (pc0 := 133) (pc' := 137) rfl (hb hby at_133) (by decide) (by decide) ?_
          show Steps p.tables e below (T60.setTop (mkF m 137 #[.val (.int x0), .val (.int x1), .val (.int x2), .val (.int d1), .val (.int d2), .val (.int at1), .val (.ref b2), .val (.int (2 : Int32)), .val (.int d2)] [(.int (1 : Int32))])) _
          exact retN X60 hx (t := .boolean) Bd.returns (by simp) (hb hby at_137) lhr
        · skip
          show Q0 Z x0 x1 x2 G1 G3 ac cc h0 n0 _ T60.heap _
          rw [eq60]
          exact ⟨rfl, N60⟩
        · skip
          show CHr Z own_EL s.vm s.heap T60.vm T60.heap
          rw [hh]
          rw [eq60]
          exact CR59.trans (CHv.at X60 hZ59 hEL CR59.1)
      · skip
        have f61 := (f51.keep Kq52 (allS ge_b2 all0))
        obtain ⟨cq62, kq62, q62a, q62b, q62c⟩ := isOf hZ52 rfl g52_3
        obtain ⟨_, _, ⟨T62, L62, kc62, ks62⟩, -, X62, hSq62, hgr62, ⟨Lc62, hQ62, l62, y62, z62, CS62⟩, st62⟩ := X52.virtualBackS hx (y := (⟨"com/example/aloq/aloq/engine/NewTask", "delaySeconds", "(I)Lcom/example/aloq/aloq/engine/NewTask;"⟩ : MethodName)) (z := (⟨"com/example/aloq/aloq/engine/NewTask", "delaySeconds", "(I)Lcom/example/aloq/aloq/engine/NewTask;"⟩ : MethodName)) hown52 (mvT hZ52 (wd96 hw)) (mvT hZ52 (wd97 hw)) (notFace_of_selects (args := #[]) (mvT hZ52 (wd99 hw))) (mvT hZ52 (wd99 hw)) (mvT hZ52 (wd98 hw)) (by decide) (own_backSafe (s := s) (vm0 := T52.vm) (EL := own_EL) (ss := []) (W := 0) (rmA60 l Z a0 hw [] b2 d2 ac cc b52_0 ((.int (5 : Int32))) ((.int (10 : Int32))) ((.ref a3)) ((.ref a5)) T52.heap n0 Z52 k0_d2 k1_d2 g52_0 hb_d2 k2_d2 (S_h.ext f61.2) (S_c.ext f61.2) Bx f61 g52_3 g52_4 ge_b2 g52_5 g52_6 g52_7 g52_8) hZ52 (wd100 hw) (wd4 hw) (by decide) (by decide) hEL CR52.1 all0) q62a q62c (g := (mkF m 100 #[.val (.int x0), .val (.int x1), .val (.int x2), .val (.int d1), .val (.int d2), .val (.int at1), .val (.ref b2), .val (.int (2 : Int32)), .val (.int d1)] [(.int d2), (.ref b2)])) rfl (by rw [hml]; rfl) (Steps.refl _) (argsL := [(.int d2)]) (rest := []) (lenOf pd__I_Lcom_example_aloq_aloq_engine_NewTask_ rfl) rfl (by show 2 * 0 + _ ≤ _; exact Nat.le_of_eq rfl) (hb hby at_100) (fun _ _ => ⟨rfl, rfl, (by decide : 9 + 2 ≤ _), (by decide : 115 + 56 ≤ _)⟩)
        dsimp only [Pt.U, Pt.locs, Pt.cells, Pt.slots] at X62 l62 y62 z62 st62 hQ62 hSq62 hgr62 CS62
        subst l62 y62 z62
        obtain ⟨X62, hS62, hZ62, hown62⟩ := rebS hS52 (Nat.le_refl T52.heap.size) X62 hSq62 hgr62 hZ52 hown52
        obtain ⟨b62_0, rfl, Nq62, Kq62, g62_0, g62_1, g62_2, g62_3, g62_4, g62_5, g62_6, g62_7, g62_8⟩ := hQ62
        have N62 := Fr.app N52 Nq62
        have CR62 := CR52.trans CS62
        have Z62 : n0 ≤ T62.heap.size := Nat.le_trans Z52 Kq62.1
        have K62 : Keep h0 T62.heap [] := Keep.trans K52 Kq62 (allS (Or.inr sz_b2) all0)
        obtain ⟨cq63, kq63, q63a, q63b, q63c⟩ := isOf hZ62 rfl g62_3
        obtain ⟨_, _, ⟨T63, L63, kc63, ks63⟩, -, X63, ⟨Lc63, hQ63, l63, y63, z63⟩, st63⟩ := X62.virtualBack hx (y := (⟨"com/example/aloq/aloq/engine/NewTask", "delaySeconds", "()I"⟩ : MethodName)) (z := (⟨"com/example/aloq/aloq/engine/NewTask", "delaySeconds", "()I"⟩ : MethodName)) hown62 (mvT hZ62 (wd89 hw)) (mvT hZ62 (wd90 hw)) (notFace_of_selects (args := #[]) (mvT hZ62 (wd92 hw))) (mvT hZ62 (wd92 hw)) (mvT hZ62 (wd91 hw)) (by decide) (backOf (W := 0) (rmA38 l Z a0 hw [] b2 b62_0 d2 T62.heap n0 Z62 g62_4 g62_2 g62_1) hZ62 (wd93 hw) (wd4 hw) (by decide) (by decide)) q63a q63c (g := (mkF m 124 #[.val (.int x0), .val (.int x1), .val (.int x2), .val (.int d1), .val (.int d2), .val (.int at1), .val (.ref b2), .val (.int (2 : Int32)), .val (.int d2)] [(.ref b2)])) rfl (by rw [hml]; rfl) (Steps.refl _) (argsL := []) (rest := []) (lenOf pd___I rfl) rfl (by show 2 * 0 + _ ≤ _; exact Nat.le_of_eq rfl) (hb hby at_124) (fun _ _ => ⟨rfl, rfl, (by decide : 11 + 0 ≤ _), (by decide : 171 + 0 ≤ _)⟩)
        dsimp only [Pt.U, Pt.locs, Pt.cells, Pt.slots] at X63 l63 y63 z63 st63 hQ63
        subst l63 y63 z63
        obtain ⟨rfl, Nq63, eq63⟩ := hQ63
        have N63 := Fr.app N62 Nq63
        obtain ⟨lfs, lhr, lhrun, lhended, lhE⟩ := X63.leaveW hS62 (by rw [eq63]; exact (Nat.le_refl T62.heap.size)) (v := some (.int (1 : Int32))) (fun h => by rw [Bd.returns] at h; cases h)
        refine ⟨_, _, k53 _ ?_, lhrun, lhended, _, _, rfl, ?_, ?_, lhE.1, lhE.2.1, lhE.2.2.1, lhE.2.2.2.mono (by decide) (by decide)⟩
        · skip
          show Steps p.tables e below (T52.setTop (mkF m 100 #[.val (.int x0), .val (.int x1), .val (.int x2), .val (.int d1), .val (.int d2), .val (.int at1), .val (.ref b2), .val (.int (2 : Int32)), .val (.int d1)] [(.int d2), (.ref b2)])) _
          refine st62.trans ?_
          show Steps p.tables e below (T62.setTop (mkF m 103 #[.val (.int x0), .val (.int x1), .val (.int x2), .val (.int d1), .val (.int d2), .val (.int at1), .val (.ref b2), .val (.int (2 : Int32)), .val (.int d1)] [(.ref b2)])) _
          refine XS.pop X62.here hx rfl (hb hby at_103) rfl rfl ?_
          show Steps p.tables e below (T62.setTop (mkF m 104 #[.val (.int x0), .val (.int x1), .val (.int x2), .val (.int d1), .val (.int d2), .val (.int at1), .val (.ref b2), .val (.int (2 : Int32)), .val (.int d1)] [])) _
          refine XS.iload X62.here hx rfl (hb hby at_104) rfl ?_
          show Steps p.tables e below (T62.setTop (mkF m 106 #[.val (.int x0), .val (.int x1), .val (.int x2), .val (.int d1), .val (.int d2), .val (.int at1), .val (.ref b2), .val (.int (2 : Int32)), .val (.int d1)] [(.int d2)])) _
          refine XS.istore X62.here hx rfl (hb hby at_106) rfl (l' := #[.val (.int x0), .val (.int x1), .val (.int x2), .val (.int d1), .val (.int d2), .val (.int at1), .val (.ref b2), .val (.int (2 : Int32)), .val (.int d2)]) rfl ?_
          show Steps p.tables e below (T62.setTop (mkF m 108 #[.val (.int x0), .val (.int x1), .val (.int x2), .val (.int d1), .val (.int d2), .val (.int at1), .val (.ref b2), .val (.int (2 : Int32)), .val (.int d2)] [])) _
          refine XS.iload X62.here hx rfl (hb hby at_108) rfl ?_
          show Steps p.tables e below (T62.setTop (mkF m 110 #[.val (.int x0), .val (.int x1), .val (.int x2), .val (.int d1), .val (.int d2), .val (.int at1), .val (.ref b2), .val (.int (2 : Int32)), .val (.int d2)] [(.int (2 : Int32))])) _
          refine XS.iconst X62.here hx rfl (hb hby at_110) ?_
          show Steps p.tables e below (T62.setTop (mkF m 111 #[.val (.int x0), .val (.int x1), .val (.int x2), .val (.int d1), .val (.int d2), .val (.int at1), .val (.ref b2), .val (.int (2 : Int32)), .val (.int d2)] [(.int (3 : Int32)), (.int (2 : Int32))])) _
          refine XS.icmpYes X62.here hx rfl (pc0 := 111) (pc' := 122) rfl (hb hby at_111) rfl (feq (by decide : ¬ ((2 : Int32) = (3 : Int32)))).2 (by decide) (by decide) ?_
          show Steps p.tables e below (T62.setTop (mkF m 122 #[.val (.int x0), .val (.int x1), .val (.int x2), .val (.int d1), .val (.int d2), .val (.int at1), .val (.ref b2), .val (.int (2 : Int32)), .val (.int d2)] [])) _
          refine XS.aload X62.here hx rfl (hb hby at_122) rfl rfl ?_
          show Steps p.tables e below (T62.setTop (mkF m 124 #[.val (.int x0), .val (.int x1), .val (.int x2), .val (.int d1), .val (.int d2), .val (.int at1), .val (.ref b2), .val (.int (2 : Int32)), .val (.int d2)] [(.ref b2)])) _
          refine st63.trans ?_
          show Steps p.tables e below (T63.setTop (mkF m 127 #[.val (.int x0), .val (.int x1), .val (.int x2), .val (.int d1), .val (.int d2), .val (.int at1), .val (.ref b2), .val (.int (2 : Int32)), .val (.int d2)] [(.int d2)])) _
          refine XS.iload X63.here hx rfl (hb hby at_127) rfl ?_
          show Steps p.tables e below (T63.setTop (mkF m 129 #[.val (.int x0), .val (.int x1), .val (.int x2), .val (.int d1), .val (.int d2), .val (.int at1), .val (.ref b2), .val (.int (2 : Int32)), .val (.int d2)] [(.int d2), (.int d2)])) _
          refine XS.icmpNo X63.here hx rfl (hb hby at_129) rfl (teq (rfl : d2 = d2)).2 ?_
          show Steps p.tables e below (T63.setTop (mkF m 132 #[.val (.int x0), .val (.int x1), .val (.int x2), .val (.int d1), .val (.int d2), .val (.int at1), .val (.ref b2), .val (.int (2 : Int32)), .val (.int d2)] [])) _
          refine XS.iconst X63.here hx rfl (hb hby at_132) ?_
          show Steps p.tables e below (T63.setTop (mkF m 133 #[.val (.int x0), .val (.int x1), .val (.int x2), .val (.int d1), .val (.int d2), .val (.int at1), .val (.ref b2), .val (.int (2 : Int32)), .val (.int d2)] [(.int (1 : Int32))])) _
          refine XS.goto X63.here hx rfl (pc0 := 133) (pc' := 137) rfl (hb hby at_133) (by decide) (by decide) ?_
          show Steps p.tables e below (T63.setTop (mkF m 137 #[.val (.int x0), .val (.int x1), .val (.int x2), .val (.int d1), .val (.int d2), .val (.int at1), .val (.ref b2), .val (.int (2 : Int32)), .val (.int d2)] [(.int (1 : Int32))])) _
          exact retN X63 hx (t := .boolean) Bd.returns (by simp) (hb hby at_137) lhr
        · skip
          show Q0 Z x0 x1 x2 G1 G3 ac cc h0 n0 _ T63.heap _
          rw [eq63]
          exact ⟨rfl, N63⟩
        · skip
          show CHr Z own_EL s.vm s.heap T63.vm T63.heap
          rw [hh]
          rw [eq63]
          exact CR62.trans (CHv.at X63 hZ62 hEL CR62.1)
  · skip
    rw [(hm : (x0 &&& (3 : Int32)) = (3 : Int32))] at k19
    have k64 : ∀ t, Steps p.tables e below (T18.setTop (mkF m 83 #[.val (.int x0), .val (.int x1), .val (.int x2), .val (.int d1), .val (.int d2), .val (.int at1), .val (.ref b2), .val (.int (3 : Int32)), .val (.int (0 : Int32))] [(.int d1), (.ref b2)])) t → Steps p.tables e below (s₁.setTop (entryFrame m #[(.int x0), (.int x1), (.int x2)] maxLocals)) t := by
      intro t kt
      refine k19 t ?_
      show Steps p.tables e below (T18.setTop (mkF m 46 #[.val (.int x0), .val (.int x1), .val (.int x2), .val (.int d1), .val (.int d2), .val (.int at1), .val (.ref b2), .val (.int (3 : Int32)), .unset] [])) _
      refine XS.iconst X18.here hx rfl (hb hby at_46) ?_
      show Steps p.tables e below (T18.setTop (mkF m 47 #[.val (.int x0), .val (.int x1), .val (.int x2), .val (.int d1), .val (.int d2), .val (.int at1), .val (.ref b2), .val (.int (3 : Int32)), .unset] [(.int (0 : Int32))])) _
      refine XS.istore X18.here hx rfl (hb hby at_47) rfl (l' := #[.val (.int x0), .val (.int x1), .val (.int x2), .val (.int d1), .val (.int d2), .val (.int at1), .val (.ref b2), .val (.int (3 : Int32)), .val (.int (0 : Int32))]) rfl ?_
      show Steps p.tables e below (T18.setTop (mkF m 49 #[.val (.int x0), .val (.int x1), .val (.int x2), .val (.int d1), .val (.int d2), .val (.int at1), .val (.ref b2), .val (.int (3 : Int32)), .val (.int (0 : Int32))] [])) _
      refine XS.iload X18.here hx rfl (hb hby at_49) rfl ?_
      show Steps p.tables e below (T18.setTop (mkF m 51 #[.val (.int x0), .val (.int x1), .val (.int x2), .val (.int d1), .val (.int d2), .val (.int at1), .val (.ref b2), .val (.int (3 : Int32)), .val (.int (0 : Int32))] [(.int (3 : Int32))])) _
      refine XS.ifYes X18.here hx rfl (pc0 := 51) (pc' := 62) rfl (hb hby at_51) rfl ((if0 _ _).trans (feq (by decide : ¬ ((3 : Int32) = (0 : Int32)))).2) (by decide) (by decide) ?_
      show Steps p.tables e below (T18.setTop (mkF m 62 #[.val (.int x0), .val (.int x1), .val (.int x2), .val (.int d1), .val (.int d2), .val (.int at1), .val (.ref b2), .val (.int (3 : Int32)), .val (.int (0 : Int32))] [])) _
      refine XS.iload X18.here hx rfl (hb hby at_62) rfl ?_
      show Steps p.tables e below (T18.setTop (mkF m 64 #[.val (.int x0), .val (.int x1), .val (.int x2), .val (.int d1), .val (.int d2), .val (.int at1), .val (.ref b2), .val (.int (3 : Int32)), .val (.int (0 : Int32))] [(.int (3 : Int32))])) _
      refine XS.iconst X18.here hx rfl (hb hby at_64) ?_
      show Steps p.tables e below (T18.setTop (mkF m 65 #[.val (.int x0), .val (.int x1), .val (.int x2), .val (.int d1), .val (.int d2), .val (.int at1), .val (.ref b2), .val (.int (3 : Int32)), .val (.int (0 : Int32))] [(.int (1 : Int32)), (.int (3 : Int32))])) _
      refine XS.icmpNo X18.here hx rfl (hb hby at_65) rfl (feq (by decide : ¬ ((3 : Int32) = (1 : Int32)))).1 ?_
      show Steps p.tables e below (T18.setTop (mkF m 68 #[.val (.int x0), .val (.int x1), .val (.int x2), .val (.int d1), .val (.int d2), .val (.int at1), .val (.ref b2), .val (.int (3 : Int32)), .val (.int (0 : Int32))] [])) _
      refine XS.iload X18.here hx rfl (hb hby at_68) rfl ?_
      show Steps p.tables e below (T18.setTop (mkF m 70 #[.val (.int x0), .val (.int x1), .val (.int x2), .val (.int d1), .val (.int d2), .val (.int at1), .val (.ref b2), .val (.int (3 : Int32)), .val (.int (0 : Int32))] [(.int (3 : Int32))])) _
      refine XS.iconst X18.here hx rfl (hb hby at_70) ?_
      show Steps p.tables e below (T18.setTop (mkF m 71 #[.val (.int x0), .val (.int x1), .val (.int x2), .val (.int d1), .val (.int d2), .val (.int at1), .val (.ref b2), .val (.int (3 : Int32)), .val (.int (0 : Int32))] [(.int (2 : Int32)), (.int (3 : Int32))])) _
      refine XS.icmpNo X18.here hx rfl (hb hby at_71) rfl (feq (by decide : ¬ ((3 : Int32) = (2 : Int32)))).1 ?_
      show Steps p.tables e below (T18.setTop (mkF m 74 #[.val (.int x0), .val (.int x1), .val (.int x2), .val (.int d1), .val (.int d2), .val (.int at1), .val (.ref b2), .val (.int (3 : Int32)), .val (.int (0 : Int32))] [])) _
      refine XS.iload X18.here hx rfl (hb hby at_74) rfl ?_
      show Steps p.tables e below (T18.setTop (mkF m 76 #[.val (.int x0), .val (.int x1), .val (.int x2), .val (.int d1), .val (.int d2), .val (.int at1), .val (.ref b2), .val (.int (3 : Int32)), .val (.int (0 : Int32))] [(.int (3 : Int32))])) _
      refine XS.iconst X18.here hx rfl (hb hby at_76) ?_
      show Steps p.tables e below (T18.setTop (mkF m 77 #[.val (.int x0), .val (.int x1), .val (.int x2), .val (.int d1), .val (.int d2), .val (.int at1), .val (.ref b2), .val (.int (3 : Int32)), .val (.int (0 : Int32))] [(.int (3 : Int32)), (.int (3 : Int32))])) _
      refine XS.icmpNo X18.here hx rfl (hb hby at_77) rfl (teq (by decide : (3 : Int32) = (3 : Int32))).2 ?_
      show Steps p.tables e below (T18.setTop (mkF m 80 #[.val (.int x0), .val (.int x1), .val (.int x2), .val (.int d1), .val (.int d2), .val (.int at1), .val (.ref b2), .val (.int (3 : Int32)), .val (.int (0 : Int32))] [])) _
      refine XS.aload X18.here hx rfl (hb hby at_80) rfl rfl ?_
      show Steps p.tables e below (T18.setTop (mkF m 82 #[.val (.int x0), .val (.int x1), .val (.int x2), .val (.int d1), .val (.int d2), .val (.int at1), .val (.ref b2), .val (.int (3 : Int32)), .val (.int (0 : Int32))] [(.ref b2)])) _
      refine XS.iloadN X18.here hx rfl (hb hby at_82) rfl ?_
      exact kt
    by_cases hb_d1 : (127 : Int32) < d1
    · skip
      have f65 := (f11.keep Kq18 (allS ge_b2 all0))
      have f66 := (f17.keep Kq18)
      have f67 := (f10.keep Kq18 (ninS (Ne.symm nn_b2_3.2) nin0))
      have f68 := (gE5.keep Kq18)
      have f69 := (gK5.keep Kq18 (ninS (Ne.symm nn_b2_5.2) nin0))
      obtain ⟨cq70, kq70, q70a, q70b, q70c⟩ := isOf hZ18 rfl g18_0
      obtain ⟨_, _, ⟨T70, L70, kc70, ks70⟩, -, X70, hSq70, hgr70, ⟨Lc70, hQ70, l70, y70, z70, CS70⟩, st70⟩ := X18.virtualBackS hx (y := (⟨"com/example/aloq/aloq/engine/NewTask", "delaySeconds", "(I)Lcom/example/aloq/aloq/engine/NewTask;"⟩ : MethodName)) (z := (⟨"com/example/aloq/aloq/engine/NewTask", "delaySeconds", "(I)Lcom/example/aloq/aloq/engine/NewTask;"⟩ : MethodName)) hown18 (mvT hZ18 (wd96 hw)) (mvT hZ18 (wd97 hw)) (notFace_of_selects (args := #[]) (mvT hZ18 (wd99 hw))) (mvT hZ18 (wd99 hw)) (mvT hZ18 (wd98 hw)) (by decide) (own_backSafe (s := s) (vm0 := T18.vm) (EL := own_EL) (ss := []) (W := 0) (rmA33 l Z a0 hw [] b2 d1 ((.int (5 : Int32))) ((.int (10 : Int32))) ((.ref a3)) ((.ref a5)) T18.heap n0 Z18 k0_d1 k1_d1 g18_6 hb_d1 k2_d1 (S_h.ext f65.2) g18_0 g18_5 ge_b2 g18_1 g18_2 g18_3 g18_4) hZ18 (wd100 hw) (wd4 hw) (by decide) (by decide) hEL CR18.1 all0) q70a q70c (g := (mkF m 83 #[.val (.int x0), .val (.int x1), .val (.int x2), .val (.int d1), .val (.int d2), .val (.int at1), .val (.ref b2), .val (.int (3 : Int32)), .val (.int (0 : Int32))] [(.int d1), (.ref b2)])) rfl (by rw [hml]; rfl) (Steps.refl _) (argsL := [(.int d1)]) (rest := []) (lenOf pd__I_Lcom_example_aloq_aloq_engine_NewTask_ rfl) rfl (by show 2 * 0 + _ ≤ _; exact Nat.le_of_eq rfl) (hb hby at_83) (fun _ _ => ⟨rfl, rfl, (by decide : 7 + 3 ≤ _), (by decide : 59 + 57 ≤ _)⟩)
      dsimp only [Pt.U, Pt.locs, Pt.cells, Pt.slots] at X70 l70 y70 z70 st70 hQ70 hSq70 hgr70 CS70
      subst l70 y70 z70
      obtain ⟨X70, hS70, hZ70, hown70⟩ := rebS hS18 (Nat.le_refl T18.heap.size) X70 hSq70 hgr70 hZ18 hown18
      obtain ⟨b70_0, rfl, Nq70, Kq70, sz70_0, g70_0, g70_1, g70_2, g70_3, g70_4, g70_5, g70_6, g70_7, g70_8⟩ := hQ70
      have N70 := Fr.app N18 Nq70
      have CR70 := CR18.trans CS70
      have Z70 : n0 ≤ T70.heap.size := Nat.le_trans Z18 Kq70.1
      have K70 : Keep h0 T70.heap [] := Keep.trans K18 Kq70 (allS (Or.inr sz_b2) all0)
      have ne_b2_b70_0 : b2 ≠ b70_0 := Nat.ne_of_lt (Nat.lt_of_lt_of_le g18_0.lt sz70_0)
      have ne_a3_b70_0 : a3 ≠ b70_0 := Nat.ne_of_lt (Nat.lt_of_lt_of_le f66.lt sz70_0)
      have ne_t3_b70_0 : t3 ≠ b70_0 := Nat.ne_of_lt (Nat.lt_of_lt_of_le f67.lt sz70_0)
      have ne_a5_b70_0 : a5 ≠ b70_0 := Nat.ne_of_lt (Nat.lt_of_lt_of_le f68.lt sz70_0)
      have ne_t5_b70_0 : t5 ≠ b70_0 := Nat.ne_of_lt (Nat.lt_of_lt_of_le f69.lt sz70_0)
      have ge_b70_0 : n0 ≤ b70_0 := Nat.le_trans Z18 sz70_0
      have sz_b70_0 : h0.size ≤ b70_0 := Nat.le_trans K18.1 sz70_0
      obtain ⟨cq71, kq71, q71a, q71b, q71c⟩ := isOf hZ70 rfl g70_3
      obtain ⟨_, _, ⟨T71, L71, kc71, ks71⟩, -, X71, hSq71, hgr71, ⟨Lc71, hQ71, l71, y71, z71, CS71⟩, st71⟩ := X70.virtualBackS hx (y := (⟨"com/example/aloq/aloq/engine/NewTask", "maxAttempts", "(I)Lcom/example/aloq/aloq/engine/NewTask;"⟩ : MethodName)) (z := (⟨"com/example/aloq/aloq/engine/NewTask", "maxAttempts", "(I)Lcom/example/aloq/aloq/engine/NewTask;"⟩ : MethodName)) hown70 (mvT hZ70 (wd79 hw)) (mvT hZ70 (wd80 hw)) (notFace_of_selects (args := #[]) (mvT hZ70 (wd82 hw))) (mvT hZ70 (wd82 hw)) (mvT hZ70 (wd81 hw)) (by decide) (own_backSafe (s := s) (vm0 := T70.vm) (EL := own_EL) (ss := []) (W := 0) (rmA29 l Z a0 hw [] b2 at1 ((.int (10 : Int32))) ((.ref a3)) ((.ref a5)) ((.ref b70_0)) .null T70.heap n0 Z70 k0_at1 k1_at1 g70_3 g70_5 ge_b2 g70_6 g70_7 g70_8 g70_4 g70_0) hZ70 (wd83 hw) (wd4 hw) (by decide) (by decide) hEL CR70.1 all0) q71a q71c (g := (mkF m 118 #[.val (.int x0), .val (.int x1), .val (.int x2), .val (.int d1), .val (.int d2), .val (.int at1), .val (.ref b2), .val (.int (3 : Int32)), .val (.int d1)] [(.int at1), (.ref b2)])) rfl (by rw [hml]; rfl) (Steps.refl _) (argsL := [(.int at1)]) (rest := []) (lenOf pd__I_Lcom_example_aloq_aloq_engine_NewTask_ rfl) rfl (by show 2 * 0 + _ ≤ _; exact Nat.le_of_eq rfl) (hb hby at_118) (fun _ _ => ⟨rfl, rfl, (by decide : 10 + 2 ≤ _), (by decide : 116 + 52 ≤ _)⟩)
      dsimp only [Pt.U, Pt.locs, Pt.cells, Pt.slots] at X71 l71 y71 z71 st71 hQ71 hSq71 hgr71 CS71
      subst l71 y71 z71
      obtain ⟨X71, hS71, hZ71, hown71⟩ := rebS hS70 (Nat.le_refl T70.heap.size) X71 hSq71 hgr71 hZ70 hown70
      obtain ⟨rfl, Nq71, Kq71, g71_0, g71_1, g71_2, g71_3, g71_4, g71_5, g71_6⟩ := hQ71
      have N71 := Fr.app N70 Nq71
      have CR71 := CR70.trans CS71
      have Z71 : n0 ≤ T71.heap.size := Nat.le_trans Z70 Kq71.1
      have K71 : Keep h0 T71.heap [] := Keep.trans K70 Kq71 (allS (Or.inr sz_b2) all0)
      have f72 := (g70_2.keep Kq71 (ninS (Ne.symm ne_b2_b70_0) nin0))
      have f73 := (g70_1.keep Kq71)
      obtain ⟨cq74, kq74, q74a, q74b, q74c⟩ := isOf hZ71 rfl g71_0
      obtain ⟨_, _, ⟨T74, L74, kc74, ks74⟩, -, X74, ⟨Lc74, hQ74, l74, y74, z74⟩, st74⟩ := X71.virtualBack hx (y := (⟨"com/example/aloq/aloq/engine/NewTask", "delaySeconds", "()I"⟩ : MethodName)) (z := (⟨"com/example/aloq/aloq/engine/NewTask", "delaySeconds", "()I"⟩ : MethodName)) hown71 (mvT hZ71 (wd89 hw)) (mvT hZ71 (wd90 hw)) (notFace_of_selects (args := #[]) (mvT hZ71 (wd92 hw))) (mvT hZ71 (wd92 hw)) (mvT hZ71 (wd91 hw)) (by decide) (backOf (W := 0) (rmA38 l Z a0 hw [] b2 b70_0 d1 T71.heap n0 Z71 g71_5 f72 f73) hZ71 (wd93 hw) (wd4 hw) (by decide) (by decide)) q74a q74c (g := (mkF m 124 #[.val (.int x0), .val (.int x1), .val (.int x2), .val (.int d1), .val (.int d2), .val (.int at1), .val (.ref b2), .val (.int (3 : Int32)), .val (.int d1)] [(.ref b2)])) rfl (by rw [hml]; rfl) (Steps.refl _) (argsL := []) (rest := []) (lenOf pd___I rfl) rfl (by show 2 * 0 + _ ≤ _; exact Nat.le_of_eq rfl) (hb hby at_124) (fun _ _ => ⟨rfl, rfl, (by decide : 12 + 0 ≤ _), (by decide : 168 + 0 ≤ _)⟩)
      dsimp only [Pt.U, Pt.locs, Pt.cells, Pt.slots] at X74 l74 y74 z74 st74 hQ74
      subst l74 y74 z74
      obtain ⟨rfl, Nq74, eq74⟩ := hQ74
      have N74 := Fr.app N71 Nq74
      obtain ⟨lfs, lhr, lhrun, lhended, lhE⟩ := X74.leaveW hS71 (by rw [eq74]; exact (Nat.le_refl T71.heap.size)) (v := some (.int (1 : Int32))) (fun h => by rw [Bd.returns] at h; cases h)
      refine ⟨_, _, k64 _ ?_, lhrun, lhended, _, _, rfl, ?_, ?_, lhE.1, lhE.2.1, lhE.2.2.1, lhE.2.2.2.mono (by decide) (by decide)⟩
      · skip
        show Steps p.tables e below (T18.setTop (mkF m 83 #[.val (.int x0), .val (.int x1), .val (.int x2), .val (.int d1), .val (.int d2), .val (.int at1), .val (.ref b2), .val (.int (3 : Int32)), .val (.int (0 : Int32))] [(.int d1), (.ref b2)])) _
        refine st70.trans ?_
        show Steps p.tables e below (T70.setTop (mkF m 86 #[.val (.int x0), .val (.int x1), .val (.int x2), .val (.int d1), .val (.int d2), .val (.int at1), .val (.ref b2), .val (.int (3 : Int32)), .val (.int (0 : Int32))] [(.ref b2)])) _
        refine XS.pop X70.here hx rfl (hb hby at_86) rfl rfl ?_
        show Steps p.tables e below (T70.setTop (mkF m 87 #[.val (.int x0), .val (.int x1), .val (.int x2), .val (.int d1), .val (.int d2), .val (.int at1), .val (.ref b2), .val (.int (3 : Int32)), .val (.int (0 : Int32))] [])) _
        refine XS.iloadN X70.here hx rfl (hb hby at_87) rfl ?_
        show Steps p.tables e below (T70.setTop (mkF m 88 #[.val (.int x0), .val (.int x1), .val (.int x2), .val (.int d1), .val (.int d2), .val (.int at1), .val (.ref b2), .val (.int (3 : Int32)), .val (.int (0 : Int32))] [(.int d1)])) _
        refine XS.istore X70.here hx rfl (hb hby at_88) rfl (l' := #[.val (.int x0), .val (.int x1), .val (.int x2), .val (.int d1), .val (.int d2), .val (.int at1), .val (.ref b2), .val (.int (3 : Int32)), .val (.int d1)]) rfl ?_
        show Steps p.tables e below (T70.setTop (mkF m 90 #[.val (.int x0), .val (.int x1), .val (.int x2), .val (.int d1), .val (.int d2), .val (.int at1), .val (.ref b2), .val (.int (3 : Int32)), .val (.int d1)] [])) _
        refine XS.iload X70.here hx rfl (hb hby at_90) rfl ?_
        show Steps p.tables e below (T70.setTop (mkF m 92 #[.val (.int x0), .val (.int x1), .val (.int x2), .val (.int d1), .val (.int d2), .val (.int at1), .val (.ref b2), .val (.int (3 : Int32)), .val (.int d1)] [(.int (3 : Int32))])) _
        refine XS.iconst X70.here hx rfl (hb hby at_92) ?_
        show Steps p.tables e below (T70.setTop (mkF m 93 #[.val (.int x0), .val (.int x1), .val (.int x2), .val (.int d1), .val (.int d2), .val (.int at1), .val (.ref b2), .val (.int (3 : Int32)), .val (.int d1)] [(.int (2 : Int32)), (.int (3 : Int32))])) _
        refine XS.icmpYes X70.here hx rfl (pc0 := 93) (pc' := 108) rfl (hb hby at_93) rfl (feq (by decide : ¬ ((3 : Int32) = (2 : Int32)))).2 (by decide) (by decide) ?_
        show Steps p.tables e below (T70.setTop (mkF m 108 #[.val (.int x0), .val (.int x1), .val (.int x2), .val (.int d1), .val (.int d2), .val (.int at1), .val (.ref b2), .val (.int (3 : Int32)), .val (.int d1)] [])) _
        refine XS.iload X70.here hx rfl (hb hby at_108) rfl ?_
        show Steps p.tables e below (T70.setTop (mkF m 110 #[.val (.int x0), .val (.int x1), .val (.int x2), .val (.int d1), .val (.int d2), .val (.int at1), .val (.ref b2), .val (.int (3 : Int32)), .val (.int d1)] [(.int (3 : Int32))])) _
        refine XS.iconst X70.here hx rfl (hb hby at_110) ?_
        show Steps p.tables e below (T70.setTop (mkF m 111 #[.val (.int x0), .val (.int x1), .val (.int x2), .val (.int d1), .val (.int d2), .val (.int at1), .val (.ref b2), .val (.int (3 : Int32)), .val (.int d1)] [(.int (3 : Int32)), (.int (3 : Int32))])) _
        refine XS.icmpNo X70.here hx rfl (hb hby at_111) rfl (teq (by decide : (3 : Int32) = (3 : Int32))).2 ?_
        show Steps p.tables e below (T70.setTop (mkF m 114 #[.val (.int x0), .val (.int x1), .val (.int x2), .val (.int d1), .val (.int d2), .val (.int at1), .val (.ref b2), .val (.int (3 : Int32)), .val (.int d1)] [])) _
        refine XS.aload X70.here hx rfl (hb hby at_114) rfl rfl ?_
        show Steps p.tables e below (T70.setTop (mkF m 116 #[.val (.int x0), .val (.int x1), .val (.int x2), .val (.int d1), .val (.int d2), .val (.int at1), .val (.ref b2), .val (.int (3 : Int32)), .val (.int d1)] [(.ref b2)])) _
        refine XS.iload X70.here hx rfl (hb hby at_116) rfl ?_
        show Steps p.tables e below (T70.setTop (mkF m 118 #[.val (.int x0), .val (.int x1), .val (.int x2), .val (.int d1), .val (.int d2), .val (.int at1), .val (.ref b2), .val (.int (3 : Int32)), .val (.int d1)] [(.int at1), (.ref b2)])) _
        refine st71.trans ?_
        show Steps p.tables e below (T71.setTop (mkF m 121 #[.val (.int x0), .val (.int x1), .val (.int x2), .val (.int d1), .val (.int d2), .val (.int at1), .val (.ref b2), .val (.int (3 : Int32)), .val (.int d1)] [(.ref b2)])) _
        refine XS.pop X71.here hx rfl (hb hby at_121) rfl rfl ?_
        show Steps p.tables e below (T71.setTop (mkF m 122 #[.val (.int x0), .val (.int x1), .val (.int x2), .val (.int d1), .val (.int d2), .val (.int at1), .val (.ref b2), .val (.int (3 : Int32)), .val (.int d1)] [])) _
        refine XS.aload X71.here hx rfl (hb hby at_122) rfl rfl ?_
        show Steps p.tables e below (T71.setTop (mkF m 124 #[.val (.int x0), .val (.int x1), .val (.int x2), .val (.int d1), .val (.int d2), .val (.int at1), .val (.ref b2), .val (.int (3 : Int32)), .val (.int d1)] [(.ref b2)])) _
        refine st74.trans ?_
        show Steps p.tables e below (T74.setTop (mkF m 127 #[.val (.int x0), .val (.int x1), .val (.int x2), .val (.int d1), .val (.int d2), .val (.int at1), .val (.ref b2), .val (.int (3 : Int32)), .val (.int d1)] [(.int d1)])) _
        refine XS.iload X74.here hx rfl (hb hby at_127) rfl ?_
        show Steps p.tables e below (T74.setTop (mkF m 129 #[.val (.int x0), .val (.int x1), .val (.int x2), .val (.int d1), .val (.int d2), .val (.int at1), .val (.ref b2), .val (.int (3 : Int32)), .val (.int d1)] [(.int d1), (.int d1)])) _
        refine XS.icmpNo X74.here hx rfl (hb hby at_129) rfl (teq (rfl : d1 = d1)).2 ?_
        show Steps p.tables e below (T74.setTop (mkF m 132 #[.val (.int x0), .val (.int x1), .val (.int x2), .val (.int d1), .val (.int d2), .val (.int at1), .val (.ref b2), .val (.int (3 : Int32)), .val (.int d1)] [])) _
        refine XS.iconst X74.here hx rfl (hb hby at_132) ?_
        show Steps p.tables e below (T74.setTop (mkF m 133 #[.val (.int x0), .val (.int x1), .val (.int x2), .val (.int d1), .val (.int d2), .val (.int at1), .val (.ref b2), .val (.int (3 : Int32)), .val (.int d1)] [(.int (1 : Int32))])) _
        refine XS.goto X74.here hx rfl (pc0 := 133) (pc' := 137) rfl (hb hby at_133) (by decide) (by decide) ?_
        show Steps p.tables e below (T74.setTop (mkF m 137 #[.val (.int x0), .val (.int x1), .val (.int x2), .val (.int d1), .val (.int d2), .val (.int at1), .val (.ref b2), .val (.int (3 : Int32)), .val (.int d1)] [(.int (1 : Int32))])) _
        exact retN X74 hx (t := .boolean) Bd.returns (by simp) (hb hby at_137) lhr
      · skip
        show Q0 Z x0 x1 x2 G1 G3 ac cc h0 n0 _ T74.heap _
        rw [eq74]
        exact ⟨rfl, N74⟩
      · skip
        show CHr Z own_EL s.vm s.heap T74.vm T74.heap
        rw [hh]
        rw [eq74]
        exact CR71.trans (CHv.at X74 hZ71 hEL CR71.1)
    · skip
      have f75 := (f11.keep Kq18 (allS ge_b2 all0))
      obtain ⟨cq76, kq76, q76a, q76b, q76c⟩ := isOf hZ18 rfl g18_0
      obtain ⟨_, _, ⟨T76, L76, kc76, ks76⟩, -, X76, hSq76, hgr76, ⟨Lc76, hQ76, l76, y76, z76, CS76⟩, st76⟩ := X18.virtualBackS hx (y := (⟨"com/example/aloq/aloq/engine/NewTask", "delaySeconds", "(I)Lcom/example/aloq/aloq/engine/NewTask;"⟩ : MethodName)) (z := (⟨"com/example/aloq/aloq/engine/NewTask", "delaySeconds", "(I)Lcom/example/aloq/aloq/engine/NewTask;"⟩ : MethodName)) hown18 (mvT hZ18 (wd96 hw)) (mvT hZ18 (wd97 hw)) (notFace_of_selects (args := #[]) (mvT hZ18 (wd99 hw))) (mvT hZ18 (wd99 hw)) (mvT hZ18 (wd98 hw)) (by decide) (own_backSafe (s := s) (vm0 := T18.vm) (EL := own_EL) (ss := []) (W := 0) (rmA41 l Z a0 hw [] b2 d1 ac cc ((.int (5 : Int32))) ((.int (10 : Int32))) ((.ref a3)) ((.ref a5)) T18.heap n0 Z18 k0_d1 k1_d1 g18_6 hb_d1 k2_d1 (S_h.ext f75.2) (S_c.ext f75.2) Bx f75 g18_0 g18_5 ge_b2 g18_1 g18_2 g18_3 g18_4) hZ18 (wd100 hw) (wd4 hw) (by decide) (by decide) hEL CR18.1 all0) q76a q76c (g := (mkF m 83 #[.val (.int x0), .val (.int x1), .val (.int x2), .val (.int d1), .val (.int d2), .val (.int at1), .val (.ref b2), .val (.int (3 : Int32)), .val (.int (0 : Int32))] [(.int d1), (.ref b2)])) rfl (by rw [hml]; rfl) (Steps.refl _) (argsL := [(.int d1)]) (rest := []) (lenOf pd__I_Lcom_example_aloq_aloq_engine_NewTask_ rfl) rfl (by show 2 * 0 + _ ≤ _; exact Nat.le_of_eq rfl) (hb hby at_83) (fun _ _ => ⟨rfl, rfl, (by decide : 7 + 2 ≤ _), (by decide : 59 + 56 ≤ _)⟩)
      dsimp only [Pt.U, Pt.locs, Pt.cells, Pt.slots] at X76 l76 y76 z76 st76 hQ76 hSq76 hgr76 CS76
      subst l76 y76 z76
      obtain ⟨X76, hS76, hZ76, hown76⟩ := rebS hS18 (Nat.le_refl T18.heap.size) X76 hSq76 hgr76 hZ18 hown18
      obtain ⟨b76_0, rfl, Nq76, Kq76, g76_0, g76_1, g76_2, g76_3, g76_4, g76_5, g76_6, g76_7, g76_8⟩ := hQ76
      have N76 := Fr.app N18 Nq76
      have CR76 := CR18.trans CS76
      have Z76 : n0 ≤ T76.heap.size := Nat.le_trans Z18 Kq76.1
      have K76 : Keep h0 T76.heap [] := Keep.trans K18 Kq76 (allS (Or.inr sz_b2) all0)
      obtain ⟨cq77, kq77, q77a, q77b, q77c⟩ := isOf hZ76 rfl g76_3
      obtain ⟨_, _, ⟨T77, L77, kc77, ks77⟩, -, X77, hSq77, hgr77, ⟨Lc77, hQ77, l77, y77, z77, CS77⟩, st77⟩ := X76.virtualBackS hx (y := (⟨"com/example/aloq/aloq/engine/NewTask", "maxAttempts", "(I)Lcom/example/aloq/aloq/engine/NewTask;"⟩ : MethodName)) (z := (⟨"com/example/aloq/aloq/engine/NewTask", "maxAttempts", "(I)Lcom/example/aloq/aloq/engine/NewTask;"⟩ : MethodName)) hown76 (mvT hZ76 (wd79 hw)) (mvT hZ76 (wd80 hw)) (notFace_of_selects (args := #[]) (mvT hZ76 (wd82 hw))) (mvT hZ76 (wd82 hw)) (mvT hZ76 (wd81 hw)) (by decide) (own_backSafe (s := s) (vm0 := T76.vm) (EL := own_EL) (ss := []) (W := 0) (rmA29 l Z a0 hw [] b2 at1 ((.int (10 : Int32))) ((.ref a3)) ((.ref a5)) ((.ref b76_0)) .null T76.heap n0 Z76 k0_at1 k1_at1 g76_3 g76_5 ge_b2 g76_6 g76_7 g76_8 g76_4 g76_0) hZ76 (wd83 hw) (wd4 hw) (by decide) (by decide) hEL CR76.1 all0) q77a q77c (g := (mkF m 118 #[.val (.int x0), .val (.int x1), .val (.int x2), .val (.int d1), .val (.int d2), .val (.int at1), .val (.ref b2), .val (.int (3 : Int32)), .val (.int d1)] [(.int at1), (.ref b2)])) rfl (by rw [hml]; rfl) (Steps.refl _) (argsL := [(.int at1)]) (rest := []) (lenOf pd__I_Lcom_example_aloq_aloq_engine_NewTask_ rfl) rfl (by show 2 * 0 + _ ≤ _; exact Nat.le_of_eq rfl) (hb hby at_118) (fun _ _ => ⟨rfl, rfl, (by decide : 9 + 2 ≤ _), (by decide : 115 + 52 ≤ _)⟩)
      dsimp only [Pt.U, Pt.locs, Pt.cells, Pt.slots] at X77 l77 y77 z77 st77 hQ77 hSq77 hgr77 CS77
      subst l77 y77 z77
      obtain ⟨X77, hS77, hZ77, hown77⟩ := rebS hS76 (Nat.le_refl T76.heap.size) X77 hSq77 hgr77 hZ76 hown76
      obtain ⟨rfl, Nq77, Kq77, g77_0, g77_1, g77_2, g77_3, g77_4, g77_5, g77_6⟩ := hQ77
      have N77 := Fr.app N76 Nq77
      have CR77 := CR76.trans CS77
      have Z77 : n0 ≤ T77.heap.size := Nat.le_trans Z76 Kq77.1
      have K77 : Keep h0 T77.heap [] := Keep.trans K76 Kq77 (allS (Or.inr sz_b2) all0)
      have f78 := (g76_1.keep Kq77)
      have f79 := (g76_2.keep Kq77 (ninS (Exa.ne f78 g77_0 (by decide)) nin0))
      obtain ⟨cq80, kq80, q80a, q80b, q80c⟩ := isOf hZ77 rfl g77_0
      obtain ⟨_, _, ⟨T80, L80, kc80, ks80⟩, -, X80, ⟨Lc80, hQ80, l80, y80, z80⟩, st80⟩ := X77.virtualBack hx (y := (⟨"com/example/aloq/aloq/engine/NewTask", "delaySeconds", "()I"⟩ : MethodName)) (z := (⟨"com/example/aloq/aloq/engine/NewTask", "delaySeconds", "()I"⟩ : MethodName)) hown77 (mvT hZ77 (wd89 hw)) (mvT hZ77 (wd90 hw)) (notFace_of_selects (args := #[]) (mvT hZ77 (wd92 hw))) (mvT hZ77 (wd92 hw)) (mvT hZ77 (wd91 hw)) (by decide) (backOf (W := 0) (rmA38 l Z a0 hw [] b2 b76_0 d1 T77.heap n0 Z77 g77_5 f79 f78) hZ77 (wd93 hw) (wd4 hw) (by decide) (by decide)) q80a q80c (g := (mkF m 124 #[.val (.int x0), .val (.int x1), .val (.int x2), .val (.int d1), .val (.int d2), .val (.int at1), .val (.ref b2), .val (.int (3 : Int32)), .val (.int d1)] [(.ref b2)])) rfl (by rw [hml]; rfl) (Steps.refl _) (argsL := []) (rest := []) (lenOf pd___I rfl) rfl (by show 2 * 0 + _ ≤ _; exact Nat.le_of_eq rfl) (hb hby at_124) (fun _ _ => ⟨rfl, rfl, (by decide : 11 + 0 ≤ _), (by decide : 167 + 0 ≤ _)⟩)
      dsimp only [Pt.U, Pt.locs, Pt.cells, Pt.slots] at X80 l80 y80 z80 st80 hQ80
      subst l80 y80 z80
      obtain ⟨rfl, Nq80, eq80⟩ := hQ80
      have N80 := Fr.app N77 Nq80
      obtain ⟨lfs, lhr, lhrun, lhended, lhE⟩ := X80.leaveW hS77 (by rw [eq80]; exact (Nat.le_refl T77.heap.size)) (v := some (.int (1 : Int32))) (fun h => by rw [Bd.returns] at h; cases h)
      refine ⟨_, _, k64 _ ?_, lhrun, lhended, _, _, rfl, ?_, ?_, lhE.1, lhE.2.1, lhE.2.2.1, lhE.2.2.2.mono (by decide) (by decide)⟩
      · skip
        show Steps p.tables e below (T18.setTop (mkF m 83 #[.val (.int x0), .val (.int x1), .val (.int x2), .val (.int d1), .val (.int d2), .val (.int at1), .val (.ref b2), .val (.int (3 : Int32)), .val (.int (0 : Int32))] [(.int d1), (.ref b2)])) _
        refine st76.trans ?_
        show Steps p.tables e below (T76.setTop (mkF m 86 #[.val (.int x0), .val (.int x1), .val (.int x2), .val (.int d1), .val (.int d2), .val (.int at1), .val (.ref b2), .val (.int (3 : Int32)), .val (.int (0 : Int32))] [(.ref b2)])) _
        refine XS.pop X76.here hx rfl (hb hby at_86) rfl rfl ?_
        show Steps p.tables e below (T76.setTop (mkF m 87 #[.val (.int x0), .val (.int x1), .val (.int x2), .val (.int d1), .val (.int d2), .val (.int at1), .val (.ref b2), .val (.int (3 : Int32)), .val (.int (0 : Int32))] [])) _
        refine XS.iloadN X76.here hx rfl (hb hby at_87) rfl ?_
        show Steps p.tables e below (T76.setTop (mkF m 88 #[.val (.int x0), .val (.int x1), .val (.int x2), .val (.int d1), .val (.int d2), .val (.int at1), .val (.ref b2), .val (.int (3 : Int32)), .val (.int (0 : Int32))] [(.int d1)])) _
        refine XS.istore X76.here hx rfl (hb hby at_88) rfl (l' := #[.val (.int x0), .val (.int x1), .val (.int x2), .val (.int d1), .val (.int d2), .val (.int at1), .val (.ref b2), .val (.int (3 : Int32)), .val (.int d1)]) rfl ?_
        show Steps p.tables e below (T76.setTop (mkF m 90 #[.val (.int x0), .val (.int x1), .val (.int x2), .val (.int d1), .val (.int d2), .val (.int at1), .val (.ref b2), .val (.int (3 : Int32)), .val (.int d1)] [])) _
        refine XS.iload X76.here hx rfl (hb hby at_90) rfl ?_
        show Steps p.tables e below (T76.setTop (mkF m 92 #[.val (.int x0), .val (.int x1), .val (.int x2), .val (.int d1), .val (.int d2), .val (.int at1), .val (.ref b2), .val (.int (3 : Int32)), .val (.int d1)] [(.int (3 : Int32))])) _
        refine XS.iconst X76.here hx rfl (hb hby at_92) ?_
        show Steps p.tables e below (T76.setTop (mkF m 93 #[.val (.int x0), .val (.int x1), .val (.int x2), .val (.int d1), .val (.int d2), .val (.int at1), .val (.ref b2), .val (.int (3 : Int32)), .val (.int d1)] [(.int (2 : Int32)), (.int (3 : Int32))])) _
        refine XS.icmpYes X76.here hx rfl (pc0 := 93) (pc' := 108) rfl (hb hby at_93) rfl (feq (by decide : ¬ ((3 : Int32) = (2 : Int32)))).2 (by decide) (by decide) ?_
        show Steps p.tables e below (T76.setTop (mkF m 108 #[.val (.int x0), .val (.int x1), .val (.int x2), .val (.int d1), .val (.int d2), .val (.int at1), .val (.ref b2), .val (.int (3 : Int32)), .val (.int d1)] [])) _
        refine XS.iload X76.here hx rfl (hb hby at_108) rfl ?_
        show Steps p.tables e below (T76.setTop (mkF m 110 #[.val (.int x0), .val (.int x1), .val (.int x2), .val (.int d1), .val (.int d2), .val (.int at1), .val (.ref b2), .val (.int (3 : Int32)), .val (.int d1)] [(.int (3 : Int32))])) _
        refine XS.iconst X76.here hx rfl (hb hby at_110) ?_
        show Steps p.tables e below (T76.setTop (mkF m 111 #[.val (.int x0), .val (.int x1), .val (.int x2), .val (.int d1), .val (.int d2), .val (.int at1), .val (.ref b2), .val (.int (3 : Int32)), .val (.int d1)] [(.int (3 : Int32)), (.int (3 : Int32))])) _
        refine XS.icmpNo X76.here hx rfl (hb hby at_111) rfl (teq (by decide : (3 : Int32) = (3 : Int32))).2 ?_
        show Steps p.tables e below (T76.setTop (mkF m 114 #[.val (.int x0), .val (.int x1), .val (.int x2), .val (.int d1), .val (.int d2), .val (.int at1), .val (.ref b2), .val (.int (3 : Int32)), .val (.int d1)] [])) _
        refine XS.aload X76.here hx rfl (hb hby at_114) rfl rfl ?_
        show Steps p.tables e below (T76.setTop (mkF m 116 #[.val (.int x0), .val (.int x1), .val (.int x2), .val (.int d1), .val (.int d2), .val (.int at1), .val (.ref b2), .val (.int (3 : Int32)), .val (.int d1)] [(.ref b2)])) _
        refine XS.iload X76.here hx rfl (hb hby at_116) rfl ?_
        show Steps p.tables e below (T76.setTop (mkF m 118 #[.val (.int x0), .val (.int x1), .val (.int x2), .val (.int d1), .val (.int d2), .val (.int at1), .val (.ref b2), .val (.int (3 : Int32)), .val (.int d1)] [(.int at1), (.ref b2)])) _
        refine st77.trans ?_
        show Steps p.tables e below (T77.setTop (mkF m 121 #[.val (.int x0), .val (.int x1), .val (.int x2), .val (.int d1), .val (.int d2), .val (.int at1), .val (.ref b2), .val (.int (3 : Int32)), .val (.int d1)] [(.ref b2)])) _
        refine XS.pop X77.here hx rfl (hb hby at_121) rfl rfl ?_
        show Steps p.tables e below (T77.setTop (mkF m 122 #[.val (.int x0), .val (.int x1), .val (.int x2), .val (.int d1), .val (.int d2), .val (.int at1), .val (.ref b2), .val (.int (3 : Int32)), .val (.int d1)] [])) _
        refine XS.aload X77.here hx rfl (hb hby at_122) rfl rfl ?_
        show Steps p.tables e below (T77.setTop (mkF m 124 #[.val (.int x0), .val (.int x1), .val (.int x2), .val (.int d1), .val (.int d2), .val (.int at1), .val (.ref b2), .val (.int (3 : Int32)), .val (.int d1)] [(.ref b2)])) _
        refine st80.trans ?_
        show Steps p.tables e below (T80.setTop (mkF m 127 #[.val (.int x0), .val (.int x1), .val (.int x2), .val (.int d1), .val (.int d2), .val (.int at1), .val (.ref b2), .val (.int (3 : Int32)), .val (.int d1)] [(.int d1)])) _
        refine XS.iload X80.here hx rfl (hb hby at_127) rfl ?_
        show Steps p.tables e below (T80.setTop (mkF m 129 #[.val (.int x0), .val (.int x1), .val (.int x2), .val (.int d1), .val (.int d2), .val (.int at1), .val (.ref b2), .val (.int (3 : Int32)), .val (.int d1)] [(.int d1), (.int d1)])) _
        refine XS.icmpNo X80.here hx rfl (hb hby at_129) rfl (teq (rfl : d1 = d1)).2 ?_
        show Steps p.tables e below (T80.setTop (mkF m 132 #[.val (.int x0), .val (.int x1), .val (.int x2), .val (.int d1), .val (.int d2), .val (.int at1), .val (.ref b2), .val (.int (3 : Int32)), .val (.int d1)] [])) _
        refine XS.iconst X80.here hx rfl (hb hby at_132) ?_
        show Steps p.tables e below (T80.setTop (mkF m 133 #[.val (.int x0), .val (.int x1), .val (.int x2), .val (.int d1), .val (.int d2), .val (.int at1), .val (.ref b2), .val (.int (3 : Int32)), .val (.int d1)] [(.int (1 : Int32))])) _
        refine XS.goto X80.here hx rfl (pc0 := 133) (pc' := 137) rfl (hb hby at_133) (by decide) (by decide) ?_
        show Steps p.tables e below (T80.setTop (mkF m 137 #[.val (.int x0), .val (.int x1), .val (.int x2), .val (.int d1), .val (.int d2), .val (.int at1), .val (.ref b2), .val (.int (3 : Int32)), .val (.int d1)] [(.int (1 : Int32))])) _
        exact retN X80 hx (t := .boolean) Bd.returns (by simp) (hb hby at_137) lhr
      · skip
        show Q0 Z x0 x1 x2 G1 G3 ac cc h0 n0 _ T80.heap _
        rw [eq80]
        exact ⟨rfl, N80⟩
      · skip
        show CHr Z own_EL s.vm s.heap T80.vm T80.heap
        rw [hh]
        rw [eq80]
        exact CR77.trans (CHv.at X80 hZ77 hEL CR77.1)
set_option maxRecDepth 65536 in
set_option maxHeartbeats 40000000 in
theorem comes_1 {Post : Tables → Env → Array Value → State → Outcome → State → Prop} (hpost : ∀ tb e args s v u, (limb_1_1.after args s (.returned v) u = true ∧ limb_1_2.after args s (.returned v) u = true ∧ True) → FramedW s (.returned v) u (Jvm.fieldLocs frame_1_writes args s ++ Jvm.arrayLocs frame_1_arrays args s ++ Jvm.staticLocs frame_1_statics s) 24 5248 → Post tb e args s (.returned v) u) :
    ArmFor flags0 classFile x code maxLocals ret World_1 tables_1 room_1 Calls_1 rest_1 Pre_1 Post := by
  intro l hfl _ _ p e ha hc hk s m args below hf hA hF happ hP
  obtain ⟨hcalls, hrest, hpre⟩ := hP
  obtain ⟨-, -, -, hnamed, -, -, -, hat⟩ := (Spec.applies_iff hf).mp happ
  obtain ⟨hg, hn⟩ := and_e (Cond.before_iff.mp (show (Jvm.Cond.and given_1 narrow_1).before args s = true from hpre))
  obtain ⟨g1a, g1b⟩ := and_e hg
  obtain ⟨g2a, g2b⟩ := and_e g1b
  obtain ⟨g3a, g3b⟩ := and_e g2b
  obtain ⟨w0, w1, w2, rfl⟩ : ∃ w0 w1 w2 : Value, args = #[w0, w1, w2] := by
    have hs : args.size = 3 := by simpa [Cond.value, given_1] using g1a
    obtain ⟨L⟩ := args
    match L, hs with
    | [w0, w1, w2], _ => exact ⟨w0, w1, w2, rfl⟩
  have hw := fun d (hd : d ∈ tables_1) => atoms_spec (ws := Jvm.Cond.code x code maxLocals ret :: tables_1) hat d (List.mem_cons_of_mem _ hd)
  have hfit : Fit s := fun {y c} hc i hi => by
    obtain ⟨ha, rfl⟩ := Array.getElem?_eq_some_iff.mp hc
    have q := List.all_eq_true.mp ((Array.all_eq_true_iff_forall_mem.mp hF) _ (Array.getElem_mem ha)) i (List.mem_range.mpr hi)
    simpa [Array.getElem?_eq_getElem hi] using q
  obtain ⟨hsets, hown0⟩ := atoms_of _ (rest_1_c_eq ▸ (show rest_1_c.before _ s = true from hrest))
  have hr0 := Cond.before_iff.mp hown0
  obtain ⟨i0, ei0⟩ := is_v g2a
  obtain rfl : w0 = (.int i0) := Option.some.inj ei0
  obtain ⟨i1, ei1⟩ := is_v g3a
  obtain rfl : w1 = (.int i1) := Option.some.inj ei1
  obtain ⟨i2, ei2⟩ := is_v g3b
  obtain rfl : w2 = (.int i2) := Option.some.inj ei2
  obtain ⟨G1, eG1⟩ := is_v (Cond.before_iff.mp (hsets _ (List.mem_of_getElem? (i := 1) rfl)))
  have O2 := Sta.start eG1 (Or.inl (hsets _ (List.mem_of_getElem? (i := 0) rfl)))
  have P5 : ¬ (G1 = (0 : Int32)) := gotF (Cond.eq_ints eG1 (Term.int_eval (0))) (not_v (Cond.before_iff.mp (hsets _ (List.mem_of_getElem? (i := 2) rfl))))
  obtain ⟨G3, eG3, rG3⟩ := isR_v (Cond.before_iff.mp (hsets _ (List.mem_of_getElem? (i := 8) rfl)))
  have O4 := Sta.start eG3 (Or.inl (hsets _ (List.mem_of_getElem? (i := 7) rfl)))
  have hCH : CHv s own_EL s.vm s.heap := CHv.start (own_EW _ s hw) (fun p hp => hcalls.1 p hp) (hsets _ (List.mem_of_getElem? (i := 2) rfl)) (wd8 hw) (wd7 hw)
  have eh := own_evInt (Cond.before_iff.mp (hsets _ (List.mem_of_getElem? (i := 12) rfl)))
  have S_h := Sta.start eh (Or.inl (hsets _ (List.mem_of_getElem? (i := 10) rfl)))
  obtain ⟨ac, eac⟩ := arr_v (Cond.before_iff.mp (hsets _ (List.mem_of_getElem? (i := 13) rfl)))
  have S_c := Sta.start eac (Or.inr ⟨(wd110 hw), (hsets _ (List.mem_of_getElem? (i := 11) rfl))⟩)
  obtain ⟨cc, Acc⟩ := Arr.start eac (Cond.before_iff.mp (hsets _ (List.mem_of_getElem? (i := 13) rfl)))
  have Bx := own_bxs eac Acc (own_evInt (Cond.before_iff.mp (hsets _ (List.mem_of_getElem? (i := 15) rfl)))) (Cond.before_iff.mp (hsets _ (List.mem_of_getElem? (i := 16) rfl)))
  obtain ⟨n, o, h1, h2, h3, _, L, rfl, ⟨rfl, N⟩, -, hq⟩ := rm0 l s _ hw tables_1 i0 i1 i2 G1 G3 ac cc s.heap s.heap.size (Nat.le_refl _) O2 P5 (Old.start s) O4 rG3 S_h S_c Bx p e ha hc hk s m _ below hf ((Spec.applies_iff_loose hf).mp happ).1 ⟨rfl, State.Warmed39.refl s, rfl, hCH, fun x hx => by cases hx⟩ trivial
  refine ⟨n, _, h1, h2, h3, hpost _ _ _ _ _ _ ⟨Cond.after_iff.mpr rfl, Cond.after_iff.mpr (eq_i res_at (Term.int_eval (1)) rfl), trivial⟩ ⟨hq.1, hq.2.1, hq.2.2.1, (hq.2.2.2.sift fun y hy => Or.inr (N y hy)).mono (by decide) (by decide)⟩⟩
theorem main_1_1 : Claimed_1_1 := comes_1 fun _ _ _ _ _ _ h hF => ⟨h.1, hF⟩
theorem main_1_2 : Claimed_1_2 := comes_1 fun _ _ _ _ _ _ h hF => ⟨h.2.1, hF⟩
end Jvm.Pilot.@@N@@
namespace Jvm.Pilot.@@N@@
open Jvm Jvm.ClassFile Sem Op Lib Jvm.Free Jvm.Stand Jvm.Pilot.@@N@@.Jvm.D
/-! MADE BY PROGRAM (witnessworld.py) out of the Statement's table words and the real class files: 24 classes; the members and pool entries that the words name. The judged class is class 1, her method 1. -/
namespace start1
open Jvm.ClassFile
def u (s : String) : CpInfo := .utf8 (stringToUtf16 s)
/-- a pool by its gaps: so many unusable entries, then the entry; so many at the end -/
def gap : Nat → List CpInfo → List CpInfo
  | 0, r => r
  | n + 1, r => .unusable :: gap n r
def poolList (es : List (Nat × CpInfo)) (last : Nat) : List CpInfo := es.foldr (fun e r => gap e.1 (e.2 :: r)) (gap last [])
def pool (es : List (Nat × CpInfo)) (last : Nat) : Array CpInfo := ⟨poolList es last⟩
def fileOf (pool : Array CpInfo) (this : Nat) (attrs : Array Attribute := #[]) (ms : Array MethodInfo := #[]) (fl : Nat := 33) (sup : Nat := 0) (ifs : Array Nat := #[]) (fds : Array FieldInfo := #[]) : ClassFile where
  minorVersion := 0
  majorVersion := 65
  constantPool := pool
  accessFlags := fl
  thisClass := this
  superClass := sup
  interfaces := ifs
  fields := fds
  methods := ms
  attributes := attrs
def plain (name : String) (sup : Option ClassId) : Class where
  name := name
  kind := .ordinary
  loader := none
  accessFlags := 33
  super := sup
  interfaces := #[]
  cf := none
  fields := #[]
  methods := #[]
  instanceTypes := #[]
  staticTypes := #[]
  resolved := #[]
  callSites := []
  init := .initialized
  statics := none
  mirror := none

def pool0 : Array CpInfo := pool [(5, u "<init>"), (0, u "()V"), (1, .class_ 10), (1, u "java/lang/Object")] 113

def k0c0 : Code := { maxStack := 0, maxLocals := 1, code := object_method_1_code, exceptionTable := #[], attributes := #[] }
def k0m0 : Method := { name := "<init>", desc := "()V", sig := { parameters := [], returnType := none }, accessFlags := 1, code := some k0c0 }
/-- java/lang/Object -/
def k0 : Class := { plain "java/lang/Object" none with
  accessFlags := 33
  interfaces := #[]
  cf := some (fileOf pool0 8 #[] #[{ accessFlags := 1, nameIndex := 5, descriptorIndex := 6, attributes := #[] }] 33 0 #[] #[])
  fields := #[]
  methods := #[k0m0]
  instanceTypes := #[]
  staticTypes := #[]
  resolved := Array.replicate 124 none
  statics := none }

def pool1 : Array CpInfo := pool [(2, .class_ 4), (1, u "java/lang/Object"), (0, u "<init>"), (0, u "()V"), (0, .integer 2147483647), (0, .integer 31536001), (0, .class_ 10), (0, u "com/example/aloq/aloq/engine/NewTask"), (0, .string 12), (0, u "q"), (0, .string 14), (0, u "{}"), (0, .methodref 9 16), (0, .nameAndType 5 17), (0, u "(Ljava/lang/String;Ljava/lang/String;)V"), (0, .methodref 9 19), (0, .nameAndType 20 21), (0, u "maxAttempts"), (0, u "(I)Lcom/example/aloq/aloq/engine/NewTask;"), (0, .methodref 9 23), (0, .nameAndType 24 21), (0, u "delaySeconds"), (0, .methodref 9 26), (0, .nameAndType 24 27), (0, u "()I"), (0, .class_ 29), (0, u "com/example/aloq/aloq/engine/NewTaskDelaySecondsPinLaw"), (2, u "law"), (0, u "(III)Z")] 3

def k1m0 : Method := { name := "<init>", desc := "()V", sig := { parameters := [], returnType := none }, accessFlags := 1, code := none }
def k1c1 : Code := { maxStack := 4, maxLocals := 9, code := code, exceptionTable := #[], attributes := #[] }
def k1m1 : Method := { name := "law", desc := "(III)Z", sig := { parameters := [.int, .int, .int], returnType := some .boolean }, accessFlags := 9, code := some k1c1 }
/-- com/example/aloq/aloq/engine/NewTaskDelaySecondsPinLaw -/
def k1 : Class := { plain "com/example/aloq/aloq/engine/NewTaskDelaySecondsPinLaw" (some 0) with
  accessFlags := 49
  interfaces := #[]
  cf := some (fileOf pool1 28 #[] #[{ accessFlags := 1, nameIndex := 5, descriptorIndex := 6, attributes := #[] }, { accessFlags := 9, nameIndex := 32, descriptorIndex := 33, attributes := #[] }] 49 2 #[] #[])
  fields := #[]
  methods := #[k1m0, k1m1]
  instanceTypes := #[]
  staticTypes := #[]
  resolved := Array.replicate 37 none
  statics := none }

def pool2 : Array CpInfo := pool [(1, .methodref 2 3), (0, .class_ 4), (0, .nameAndType 5 6), (0, u "java/lang/Object"), (0, u "<init>"), (0, u "()V"), (0, .class_ 8), (0, u "com/example/aloq/aloq/engine/NewTask"), (0, .fieldref 7 10), (0, .nameAndType 11 12), (0, u "maxAttempts"), (0, u "I"), (0, .fieldref 7 14), (0, .nameAndType 15 12), (0, u "retryBackoffSeconds"), (0, .methodref 17 18), (0, .class_ 19), (0, .nameAndType 20 21), (0, u "com/example/aloq/aloq/engine/QueueName"), (0, u "check"), (0, u "(Ljava/lang/String;)Ljava/lang/String;"), (0, .fieldref 7 23), (0, .nameAndType 24 25), (0, u "queue"), (0, u "Ljava/lang/String;"), (0, .string 27), (0, u "payload"), (0, .methodref 29 30), (0, .class_ 31), (0, .nameAndType 32 33), (0, u "java/util/Objects"), (0, u "requireNonNull"), (0, u "(Ljava/lang/Object;Ljava/lang/String;)Ljava/lang/Object;"), (0, .class_ 35), (0, u "java/lang/String"), (0, .fieldref 7 37), (0, .nameAndType 27 25), (1, u "runAt"), (14, u "EARLIEST_RUN_AT"), (0, u "Ljava/time/Instant;"), (6, u "LATEST_RUN_AT"), (7, u "valueOf"), (8, .fieldref 7 80), (0, .nameAndType 81 82), (0, u "delaySeconds"), (0, u "Ljava/lang/Integer;"), (4, .fieldref 7 88), (0, .nameAndType 39 55), (0, .string 90), (0, u "delay_seconds"), (0, .integer 31536000), (0, .methodref 93 94), (0, .class_ 95), (0, .nameAndType 96 97), (0, u "com/example/aloq/aloq/engine/Setting"), (0, u "inRange"), (0, u "(Ljava/lang/String;III)I"), (0, .methodref 99 100), (0, .class_ 101), (0, .nameAndType 70 102), (0, u "java/lang/Integer"), (0, u "(I)Ljava/lang/Integer;"), (2, .string 106), (0, u "max_attempts"), (13, u "idempotencyKey"), (0, .methodref 99 122), (0, .nameAndType 123 124), (0, u "intValue"), (0, u "()I"), (8, u "DEFAULT_MAX_ATTEMPTS"), (2, u "DEFAULT_RETRY_BACKOFF_SECONDS"), (1, u "MAX_ATTEMPTS_LIMIT"), (1, u "RETRY_BACKOFF_SECONDS_LIMIT"), (0, u "DELAY_SECONDS_LIMIT"), (0, u "IDEMPOTENCY_KEY_LIMIT"), (1, u "(Ljava/lang/String;Ljava/lang/String;)V"), (4, u "(I)Lcom/example/aloq/aloq/engine/NewTask;")] 21

def k2c0 : Code := { maxStack := 3, maxLocals := 3, code := prog_13_method_1_code, exceptionTable := #[], attributes := #[] }
def k2m0 : Method := { name := "<init>", desc := "(Ljava/lang/String;Ljava/lang/String;)V", sig := { parameters := [(.object "java/lang/String"), (.object "java/lang/String")], returnType := none }, accessFlags := 1, code := some k2c0 }
def k2c1 : Code := { maxStack := 4, maxLocals := 3, code := prog_13_method_3_code, exceptionTable := #[], attributes := #[] }
def k2m1 : Method := { name := "delaySeconds", desc := "(I)Lcom/example/aloq/aloq/engine/NewTask;", sig := { parameters := [.int], returnType := some (.object "com/example/aloq/aloq/engine/NewTask") }, accessFlags := 1, code := some k2c1 }
def k2c2 : Code := { maxStack := 5, maxLocals := 2, code := prog_13_method_5_code, exceptionTable := #[], attributes := #[] }
def k2m2 : Method := { name := "maxAttempts", desc := "(I)Lcom/example/aloq/aloq/engine/NewTask;", sig := { parameters := [.int], returnType := some (.object "com/example/aloq/aloq/engine/NewTask") }, accessFlags := 1, code := some k2c2 }
def k2c3 : Code := { maxStack := 1, maxLocals := 1, code := prog_13_method_11_code, exceptionTable := #[], attributes := #[] }
def k2m3 : Method := { name := "delaySeconds", desc := "()I", sig := { parameters := [], returnType := some .int }, accessFlags := 1, code := some k2c3 }
/-- com/example/aloq/aloq/engine/NewTask -/
def k2 : Class := { plain "com/example/aloq/aloq/engine/NewTask" (some 0) with
  accessFlags := 49
  interfaces := #[]
  cf := some (fileOf pool2 7 #[] #[{ accessFlags := 1, nameIndex := 5, descriptorIndex := 144, attributes := #[] }, { accessFlags := 1, nameIndex := 81, descriptorIndex := 149, attributes := #[] }, { accessFlags := 1, nameIndex := 11, descriptorIndex := 149, attributes := #[] }, { accessFlags := 1, nameIndex := 81, descriptorIndex := 124, attributes := #[] }] 49 2 #[] #[{ accessFlags := 25, nameIndex := 133, descriptorIndex := 12, attributes := #[] }, { accessFlags := 25, nameIndex := 136, descriptorIndex := 12, attributes := #[] }, { accessFlags := 26, nameIndex := 138, descriptorIndex := 12, attributes := #[] }, { accessFlags := 26, nameIndex := 140, descriptorIndex := 12, attributes := #[] }, { accessFlags := 26, nameIndex := 141, descriptorIndex := 12, attributes := #[] }, { accessFlags := 26, nameIndex := 54, descriptorIndex := 55, attributes := #[] }, { accessFlags := 26, nameIndex := 62, descriptorIndex := 55, attributes := #[] }, { accessFlags := 26, nameIndex := 142, descriptorIndex := 12, attributes := #[] }, { accessFlags := 18, nameIndex := 24, descriptorIndex := 25, attributes := #[] }, { accessFlags := 18, nameIndex := 27, descriptorIndex := 25, attributes := #[] }, { accessFlags := 2, nameIndex := 39, descriptorIndex := 55, attributes := #[] }, { accessFlags := 2, nameIndex := 81, descriptorIndex := 82, attributes := #[] }, { accessFlags := 2, nameIndex := 11, descriptorIndex := 12, attributes := #[] }, { accessFlags := 2, nameIndex := 15, descriptorIndex := 12, attributes := #[] }, { accessFlags := 2, nameIndex := 120, descriptorIndex := 25, attributes := #[] }])
  fields := #[{ name := "DEFAULT_MAX_ATTEMPTS", type := .int, accessFlags := 25, slot := 0, constantValue := 0 }, { name := "DEFAULT_RETRY_BACKOFF_SECONDS", type := .int, accessFlags := 25, slot := 1, constantValue := 0 }, { name := "MAX_ATTEMPTS_LIMIT", type := .int, accessFlags := 26, slot := 2, constantValue := 0 }, { name := "RETRY_BACKOFF_SECONDS_LIMIT", type := .int, accessFlags := 26, slot := 3, constantValue := 0 }, { name := "DELAY_SECONDS_LIMIT", type := .int, accessFlags := 26, slot := 4, constantValue := 0 }, { name := "EARLIEST_RUN_AT", type := (.object "java/time/Instant"), accessFlags := 26, slot := 5, constantValue := 0 }, { name := "LATEST_RUN_AT", type := (.object "java/time/Instant"), accessFlags := 26, slot := 6, constantValue := 0 }, { name := "IDEMPOTENCY_KEY_LIMIT", type := .int, accessFlags := 26, slot := 7, constantValue := 0 }, { name := "queue", type := (.object "java/lang/String"), accessFlags := 18, slot := 0, constantValue := 0 }, { name := "payload", type := (.object "java/lang/String"), accessFlags := 18, slot := 1, constantValue := 0 }, { name := "runAt", type := (.object "java/time/Instant"), accessFlags := 2, slot := 2, constantValue := 0 }, { name := "delaySeconds", type := (.object "java/lang/Integer"), accessFlags := 2, slot := 3, constantValue := 0 }, { name := "maxAttempts", type := .int, accessFlags := 2, slot := 4, constantValue := 0 }, { name := "retryBackoffSeconds", type := .int, accessFlags := 2, slot := 5, constantValue := 0 }, { name := "idempotencyKey", type := (.object "java/lang/String"), accessFlags := 2, slot := 6, constantValue := 0 }]
  methods := #[k2m0, k2m1, k2m2, k2m3]
  instanceTypes := #[(.object "java/lang/String"), (.object "java/lang/String"), (.object "java/time/Instant"), (.object "java/lang/Integer"), .int, .int, (.object "java/lang/String")]
  staticTypes := #[.int, .int, .int, .int, .int, (.object "java/time/Instant"), (.object "java/time/Instant"), .int]
  resolved := Array.replicate 171 none
  statics := none }

def pool3 : Array CpInfo := pool [(1, .class_ 2), (0, u "java/io/Serializable"), (0, .class_ 4), (0, u "java/lang/Object")] 2

/-- java/io/Serializable -/
def k3 : Class := { plain "java/io/Serializable" (some 0) with
  accessFlags := 1537
  interfaces := #[]
  cf := some (fileOf pool3 1 #[] #[] 1537 3 #[] #[])
  fields := #[]
  methods := #[]
  instanceTypes := #[]
  staticTypes := #[]
  resolved := Array.replicate 7 none
  statics := none }

def pool4 : Array CpInfo := pool [(1, .class_ 2), (0, u "java/lang/Comparable"), (0, .class_ 4), (0, u "java/lang/Object")] 7

/-- java/lang/Comparable -/
def k4 : Class := { plain "java/lang/Comparable" (some 0) with
  accessFlags := 1537
  interfaces := #[]
  cf := some (fileOf pool4 1 #[] #[] 1537 3 #[] #[])
  fields := #[]
  methods := #[]
  instanceTypes := #[]
  staticTypes := #[]
  resolved := Array.replicate 12 none
  statics := none }

def pool5 : Array CpInfo := pool [(2, .class_ 4), (1, u "java/lang/CharSequence"), (42, .class_ 48), (0, u "java/lang/CharSequence$1CodePointIterator"), (10, .class_ 60), (0, u "java/lang/CharSequence$1CharIterator"), (5, .class_ 67), (0, u "java/lang/Object")] 63

/-- java/lang/CharSequence -/
def k5 : Class := { plain "java/lang/CharSequence" (some 0) with
  accessFlags := 1537
  interfaces := #[]
  cf := some (fileOf pool5 2 #[.nestMembers #[47, 59]] #[] 1537 66 #[] #[])
  fields := #[]
  methods := #[]
  instanceTypes := #[]
  staticTypes := #[]
  resolved := Array.replicate 131 none
  statics := none }

def pool6 : Array CpInfo := pool [(1, .class_ 2), (0, u "java/lang/constant/Constable"), (0, .class_ 4), (0, u "java/lang/Object")] 6

/-- java/lang/constant/Constable -/
def k6 : Class := { plain "java/lang/constant/Constable" (some 0) with
  accessFlags := 1537
  interfaces := #[]
  cf := some (fileOf pool6 1 #[] #[] 1537 3 #[] #[])
  fields := #[]
  methods := #[]
  instanceTypes := #[]
  staticTypes := #[]
  resolved := Array.replicate 11 none
  statics := none }

def pool7 : Array CpInfo := pool [(1, .class_ 2), (0, u "java/lang/constant/ConstantDesc"), (0, .class_ 4), (0, u "java/lang/Object")] 32

/-- java/lang/constant/ConstantDesc -/
def k7 : Class := { plain "java/lang/constant/ConstantDesc" (some 0) with
  accessFlags := 1537
  interfaces := #[]
  cf := some (fileOf pool7 1 #[] #[] 1537 3 #[] #[])
  fields := #[]
  methods := #[]
  instanceTypes := #[]
  staticTypes := #[]
  resolved := Array.replicate 37 none
  statics := none }

def pool8 : Array CpInfo := pool [(2, .class_ 4), (1, u "java/lang/Object"), (0, u "<init>"), (0, u "()V"), (2, .fieldref 10 11), (0, .class_ 12), (0, .nameAndType 13 14), (0, u "java/lang/String"), (0, u "value"), (0, u "[B"), (0, .fieldref 10 16), (0, .nameAndType 17 18), (0, u "coder"), (0, u "B"), (2, u "hash"), (0, u "I"), (2, u "hashIsZero"), (0, u "Z"), (11, .fieldref 10 39), (0, .nameAndType 40 26), (0, u "COMPACT_STRINGS"), (66, .class_ 109), (1, u "java/lang/StringLatin1"), (32, u "()Z"), (191, u "()I"), (0, .methodref 10 336), (0, .nameAndType 17 337), (0, u "()B"), (25, u "([BI)C"), (27, u "(II)V"), (35, u "(I)C"), (64, .methodref 10 493), (0, .nameAndType 494 142), (0, u "isLatin1"), (0, .methodref 107 496), (0, .nameAndType 497 363), (0, u "charAt"), (3, u "checkIndex"), (5, u "length"), (67, .class_ 576), (0, u "java/lang/CharSequence"), (22, u "CASE_INSENSITIVE_ORDER"), (0, u "Ljava/util/Comparator;"), (91, u "isEmpty"), (360, .fieldref 1054 1055), (0, .class_ 1056), (0, .nameAndType 1057 1058), (0, u "jdk/internal/util/Preconditions"), (0, u "SIOOBE_FORMATTER"), (0, u "Ljava/util/function/BiFunction;"), (0, .methodref 1054 1060), (0, .nameAndType 501 1061), (0, u "(IILjava/util/function/BiFunction;)I"), (39, u "serialPersistentFields"), (0, u "[Ljava/io/ObjectStreamField;"), (0, .class_ 1104), (0, u "java/lang/String$CaseInsensitiveComparator"), (1, .class_ 1107), (0, u "java/io/Serializable"), (0, .class_ 1109), (0, u "java/lang/Comparable"), (0, .class_ 1111), (0, u "java/lang/constant/Constable"), (0, .class_ 1113), (0, u "java/lang/constant/ConstantDesc"), (2, u "serialVersionUID"), (0, u "J"), (3, u "REPL"), (0, u "C"), (2, u "LATIN1"), (1, u "UTF16")] 323

def k8m0 : Method := { name := "<init>", desc := "()V", sig := { parameters := [], returnType := none }, accessFlags := 1, code := none }
def k8c1 : Code := { maxStack := 2, maxLocals := 1, code := jdk_42_method_54_code, exceptionTable := #[], attributes := #[] }
def k8m1 : Method := { name := "length", desc := "()I", sig := { parameters := [], returnType := some .int }, accessFlags := 1, code := some k8c1 }
def k8c2 : Code := { maxStack := 1, maxLocals := 1, code := jdk_42_method_55_code, exceptionTable := #[], attributes := #[] }
def k8m2 : Method := { name := "isEmpty", desc := "()Z", sig := { parameters := [], returnType := some .boolean }, accessFlags := 1, code := some k8c2 }
def k8c3 : Code := { maxStack := 2, maxLocals := 2, code := jdk_42_method_56_code, exceptionTable := #[], attributes := #[] }
def k8m3 : Method := { name := "charAt", desc := "(I)C", sig := { parameters := [.int], returnType := some .char }, accessFlags := 1, code := some k8c3 }
def k8c4 : Code := { maxStack := 1, maxLocals := 1, code := jdk_42_method_152_code, exceptionTable := #[], attributes := #[] }
def k8m4 : Method := { name := "coder", desc := "()B", sig := { parameters := [], returnType := some .byte }, accessFlags := 0, code := some k8c4 }
def k8c5 : Code := { maxStack := 1, maxLocals := 1, code := jdk_42_method_154_code, exceptionTable := #[], attributes := #[] }
def k8m5 : Method := { name := "isLatin1", desc := "()Z", sig := { parameters := [], returnType := some .boolean }, accessFlags := 0, code := some k8c5 }
def k8c6 : Code := { maxStack := 3, maxLocals := 2, code := jdk_42_method_155_code, exceptionTable := #[], attributes := #[] }
def k8m6 : Method := { name := "checkIndex", desc := "(II)V", sig := { parameters := [.int, .int], returnType := none }, accessFlags := 8, code := some k8c6 }
/-- java/lang/String -/
def k8 : Class := { plain "java/lang/String" (some 0) with
  accessFlags := 49
  interfaces := #[3, 4, 5, 6, 7]
  cf := some (fileOf pool8 10 #[.nestMembers #[1103]] #[{ accessFlags := 1, nameIndex := 5, descriptorIndex := 6, attributes := #[] }, { accessFlags := 1, nameIndex := 507, descriptorIndex := 334, attributes := #[] }, { accessFlags := 1, nameIndex := 692, descriptorIndex := 142, attributes := #[] }, { accessFlags := 1, nameIndex := 497, descriptorIndex := 427, attributes := #[] }, { accessFlags := 0, nameIndex := 17, descriptorIndex := 337, attributes := #[] }, { accessFlags := 0, nameIndex := 494, descriptorIndex := 142, attributes := #[] }, { accessFlags := 8, nameIndex := 501, descriptorIndex := 391, attributes := #[] }] 49 2 #[1106, 1108, 575, 1110, 1112] #[{ accessFlags := 18, nameIndex := 13, descriptorIndex := 14, attributes := #[] }, { accessFlags := 18, nameIndex := 17, descriptorIndex := 18, attributes := #[] }, { accessFlags := 2, nameIndex := 21, descriptorIndex := 22, attributes := #[] }, { accessFlags := 2, nameIndex := 25, descriptorIndex := 26, attributes := #[] }, { accessFlags := 26, nameIndex := 1116, descriptorIndex := 1117, attributes := #[] }, { accessFlags := 24, nameIndex := 40, descriptorIndex := 26, attributes := #[] }, { accessFlags := 26, nameIndex := 1101, descriptorIndex := 1102, attributes := #[] }, { accessFlags := 26, nameIndex := 1121, descriptorIndex := 1122, attributes := #[] }, { accessFlags := 25, nameIndex := 599, descriptorIndex := 600, attributes := #[] }, { accessFlags := 24, nameIndex := 1125, descriptorIndex := 18, attributes := #[] }, { accessFlags := 24, nameIndex := 1127, descriptorIndex := 18, attributes := #[] }])
  fields := #[{ name := "value", type := (.array .byte), accessFlags := 18, slot := 0, constantValue := 0 }, { name := "coder", type := .byte, accessFlags := 18, slot := 1, constantValue := 0 }, { name := "hash", type := .int, accessFlags := 2, slot := 2, constantValue := 0 }, { name := "hashIsZero", type := .boolean, accessFlags := 2, slot := 3, constantValue := 0 }, { name := "serialVersionUID", type := .long, accessFlags := 26, slot := 0, constantValue := 0 }, { name := "COMPACT_STRINGS", type := .boolean, accessFlags := 24, slot := 1, constantValue := 0 }, { name := "serialPersistentFields", type := (.array (.object "java/io/ObjectStreamField")), accessFlags := 26, slot := 2, constantValue := 0 }, { name := "REPL", type := .char, accessFlags := 26, slot := 3, constantValue := 0 }, { name := "CASE_INSENSITIVE_ORDER", type := (.object "java/util/Comparator"), accessFlags := 25, slot := 4, constantValue := 0 }, { name := "LATIN1", type := .byte, accessFlags := 24, slot := 5, constantValue := 0 }, { name := "UTF16", type := .byte, accessFlags := 24, slot := 6, constantValue := 0 }]
  methods := #[k8m0, k8m1, k8m2, k8m3, k8m4, k8m5, k8m6]
  instanceTypes := #[(.array .byte), .byte, .int, .boolean]
  staticTypes := #[.long, .boolean, (.array (.object "java/io/ObjectStreamField")), .char, (.object "java/util/Comparator"), .byte, .byte]
  resolved := Array.replicate 1451 none
  statics := some 0 }

def pool9 : Array CpInfo := pool [(2, .class_ 4), (1, u "java/lang/Object"), (0, u "<init>"), (0, u "()V"), (0, .methodref 8 9), (0, .class_ 10), (0, .nameAndType 11 12), (0, u "java/lang/String"), (0, u "isEmpty"), (0, u "()Z"), (0, .methodref 8 14), (0, .nameAndType 15 16), (0, u "length"), (0, u "()I"), (0, .class_ 18), (0, u "com/example/aloq/aloq/engine/QueueName"), (4, .methodref 8 24), (0, .nameAndType 25 26), (0, u "charAt"), (0, u "(I)C"), (7, u "MAX_LENGTH"), (0, u "I"), (4, u "check"), (0, u "(Ljava/lang/String;)Ljava/lang/String;")] 3

def k9m0 : Method := { name := "<init>", desc := "()V", sig := { parameters := [], returnType := none }, accessFlags := 2, code := none }
def k9c1 : Code := { maxStack := 2, maxLocals := 3, code := prog_16_method_2_code, exceptionTable := #[], attributes := #[] }
def k9m1 : Method := { name := "check", desc := "(Ljava/lang/String;)Ljava/lang/String;", sig := { parameters := [(.object "java/lang/String")], returnType := some (.object "java/lang/String") }, accessFlags := 8, code := some k9c1 }
/-- com/example/aloq/aloq/engine/QueueName -/
def k9 : Class := { plain "com/example/aloq/aloq/engine/QueueName" (some 0) with
  accessFlags := 48
  interfaces := #[]
  cf := some (fileOf pool9 17 #[] #[{ accessFlags := 2, nameIndex := 5, descriptorIndex := 6, attributes := #[] }, { accessFlags := 8, nameIndex := 40, descriptorIndex := 41, attributes := #[] }] 48 2 #[] #[{ accessFlags := 26, nameIndex := 34, descriptorIndex := 35, attributes := #[] }])
  fields := #[{ name := "MAX_LENGTH", type := .int, accessFlags := 26, slot := 0, constantValue := 0 }]
  methods := #[k9m0, k9m1]
  instanceTypes := #[]
  staticTypes := #[.int]
  resolved := Array.replicate 45 none
  statics := none }

def pool10 : Array CpInfo := pool [(1, .class_ 2), (0, u "java/lang/String"), (1, .class_ 6), (1, u "java/lang/Object"), (0, u "<init>"), (0, u "()V"), (0, .methodref 1 10), (0, .nameAndType 11 12), (0, u "checkIndex"), (0, u "(II)V"), (1, .class_ 16), (1, u "java/lang/StringLatin1"), (36, u "([BI)C"), (67, u "$assertionsDisabled"), (0, u "Z"), (98, .class_ 223), (1, u "java/lang/StringLatin1$LinesSpliterator"), (28, u "charAt"), (137, .class_ 391), (0, u "java/lang/StringLatin1$CharsSpliterator")] 3

def k10m0 : Method := { name := "<init>", desc := "()V", sig := { parameters := [], returnType := none }, accessFlags := 0, code := none }
def k10c1 : Code := { maxStack := 2, maxLocals := 2, code := jdk_43_method_2_code, exceptionTable := #[], attributes := #[] }
def k10m1 : Method := { name := "charAt", desc := "([BI)C", sig := { parameters := [(.array .byte), .int], returnType := some .char }, accessFlags := 9, code := some k10c1 }
/-- java/lang/StringLatin1 -/
def k10 : Class := { plain "java/lang/StringLatin1" (some 0) with
  accessFlags := 48
  interfaces := #[]
  cf := some (fileOf pool10 14 #[.nestMembers #[390, 221]] #[{ accessFlags := 0, nameIndex := 7, descriptorIndex := 8, attributes := #[] }, { accessFlags := 9, nameIndex := 252, descriptorIndex := 53, attributes := #[] }] 48 4 #[] #[{ accessFlags := 4120, nameIndex := 121, descriptorIndex := 122, attributes := #[] }])
  fields := #[{ name := "$assertionsDisabled", type := .boolean, accessFlags := 4120, slot := 0, constantValue := 0 }]
  methods := #[k10m0, k10m1]
  instanceTypes := #[]
  staticTypes := #[.boolean]
  resolved := Array.replicate 395 none
  statics := none }

def pool11 : Array CpInfo := pool [(2, .class_ 4), (1, u "java/lang/Object"), (0, u "<init>"), (0, u "()V"), (17, .class_ 26), (1, u "jdk/internal/util/Preconditions"), (6, u "checkIndex"), (21, .class_ 56), (0, u "jdk/internal/util/Preconditions$4"), (57, .class_ 115), (0, u "jdk/internal/util/Preconditions$1"), (7, u "SIOOBE_FORMATTER"), (0, u "Ljava/util/function/BiFunction;"), (0, .class_ 126), (0, u "jdk/internal/util/Preconditions$2"), (3, u "AIOOBE_FORMATTER"), (0, .class_ 132), (0, u "jdk/internal/util/Preconditions$3"), (3, u "IOOBE_FORMATTER"), (41, u "(IILjava/util/function/BiFunction;)I")] 15

def k11m0 : Method := { name := "<init>", desc := "()V", sig := { parameters := [], returnType := none }, accessFlags := 1, code := none }
def k11c1 : Code := { maxStack := 3, maxLocals := 3, code := jdk_41_method_11_code, exceptionTable := #[], attributes := #[] }
def k11m1 : Method := { name := "checkIndex", desc := "(IILjava/util/function/BiFunction;)I", sig := { parameters := [.int, .int, (.object "java/util/function/BiFunction")], returnType := some .int }, accessFlags := 9, code := some k11c1 }
/-- jdk/internal/util/Preconditions -/
def k11 : Class := { plain "jdk/internal/util/Preconditions" (some 0) with
  accessFlags := 33
  interfaces := #[]
  cf := some (fileOf pool11 24 #[.nestMembers #[55, 131, 125, 114]] #[{ accessFlags := 1, nameIndex := 5, descriptorIndex := 6, attributes := #[] }, { accessFlags := 9, nameIndex := 33, descriptorIndex := 178, attributes := #[] }] 33 2 #[] #[{ accessFlags := 25, nameIndex := 123, descriptorIndex := 124, attributes := #[] }, { accessFlags := 25, nameIndex := 130, descriptorIndex := 124, attributes := #[] }, { accessFlags := 25, nameIndex := 136, descriptorIndex := 124, attributes := #[] }])
  fields := #[{ name := "SIOOBE_FORMATTER", type := (.object "java/util/function/BiFunction"), accessFlags := 25, slot := 0, constantValue := 0 }, { name := "AIOOBE_FORMATTER", type := (.object "java/util/function/BiFunction"), accessFlags := 25, slot := 1, constantValue := 0 }, { name := "IOOBE_FORMATTER", type := (.object "java/util/function/BiFunction"), accessFlags := 25, slot := 2, constantValue := 0 }]
  methods := #[k11m0, k11m1]
  instanceTypes := #[]
  staticTypes := #[(.object "java/util/function/BiFunction"), (.object "java/util/function/BiFunction"), (.object "java/util/function/BiFunction")]
  resolved := Array.replicate 194 none
  statics := some 1 }

def pool12 : Array CpInfo := pool [(2, .class_ 4), (1, u "java/lang/Object"), (0, u "<init>"), (0, u "()V"), (35, .class_ 44), (1, u "java/util/Objects"), (0, u "requireNonNull"), (48, u "(Ljava/lang/Object;Ljava/lang/String;)Ljava/lang/Object;")] 89

def k12m0 : Method := { name := "<init>", desc := "()V", sig := { parameters := [], returnType := none }, accessFlags := 2, code := none }
def k12c1 : Code := { maxStack := 3, maxLocals := 2, code := jdk_31_method_11_code, exceptionTable := #[], attributes := #[] }
def k12m1 : Method := { name := "requireNonNull", desc := "(Ljava/lang/Object;Ljava/lang/String;)Ljava/lang/Object;", sig := { parameters := [(.object "java/lang/Object"), (.object "java/lang/String")], returnType := some (.object "java/lang/Object") }, accessFlags := 9, code := some k12c1 }
/-- java/util/Objects -/
def k12 : Class := { plain "java/util/Objects" (some 0) with
  accessFlags := 49
  interfaces := #[]
  cf := some (fileOf pool12 42 #[] #[{ accessFlags := 2, nameIndex := 5, descriptorIndex := 6, attributes := #[] }, { accessFlags := 9, nameIndex := 45, descriptorIndex := 94, attributes := #[] }] 49 2 #[] #[])
  fields := #[]
  methods := #[k12m0, k12m1]
  instanceTypes := #[]
  staticTypes := #[]
  resolved := Array.replicate 184 none
  statics := none }

def pool13 : Array CpInfo := pool [(2, .class_ 4), (1, u "java/lang/Object"), (0, u "<init>"), (0, u "()V"), (9, .class_ 17), (0, u "com/example/aloq/aloq/engine/Setting"), (2, u "inRange"), (0, u "(Ljava/lang/String;III)I")] 18

def k13m0 : Method := { name := "<init>", desc := "()V", sig := { parameters := [], returnType := none }, accessFlags := 2, code := none }
def k13c1 : Code := { maxStack := 5, maxLocals := 4, code := prog_22_method_2_code, exceptionTable := #[], attributes := #[] }
def k13m1 : Method := { name := "inRange", desc := "(Ljava/lang/String;III)I", sig := { parameters := [(.object "java/lang/String"), .int, .int, .int], returnType := some .int }, accessFlags := 8, code := some k13c1 }
/-- com/example/aloq/aloq/engine/Setting -/
def k13 : Class := { plain "com/example/aloq/aloq/engine/Setting" (some 0) with
  accessFlags := 48
  interfaces := #[]
  cf := some (fileOf pool13 16 #[] #[{ accessFlags := 2, nameIndex := 5, descriptorIndex := 6, attributes := #[] }, { accessFlags := 8, nameIndex := 20, descriptorIndex := 21, attributes := #[] }] 48 2 #[] #[])
  fields := #[]
  methods := #[k13m0, k13m1]
  instanceTypes := #[]
  staticTypes := #[]
  resolved := Array.replicate 40 none
  statics := none }

def pool14 : Array CpInfo := pool [(1, .methodref 2 3), (0, .class_ 4), (0, .nameAndType 5 6), (0, u "java/lang/Object"), (0, u "<init>"), (0, u "()V"), (1, .class_ 10), (1, u "java/lang/Number"), (2, .class_ 14), (0, u "java/io/Serializable"), (0, u "serialVersionUID"), (0, u "J")] 20

def k14c0 : Code := { maxStack := 1, maxLocals := 1, code := jdk_18_method_1_code, exceptionTable := #[], attributes := #[] }
def k14m0 : Method := { name := "<init>", desc := "()V", sig := { parameters := [], returnType := none }, accessFlags := 1, code := some k14c0 }
/-- java/lang/Number -/
def k14 : Class := { plain "java/lang/Number" (some 0) with
  accessFlags := 1057
  interfaces := #[3]
  cf := some (fileOf pool14 8 #[] #[{ accessFlags := 1, nameIndex := 5, descriptorIndex := 6, attributes := #[] }] 1057 2 #[13] #[{ accessFlags := 26, nameIndex := 15, descriptorIndex := 16, attributes := #[] }])
  fields := #[{ name := "serialVersionUID", type := .long, accessFlags := 26, slot := 0, constantValue := 0 }]
  methods := #[k14m0]
  instanceTypes := #[]
  staticTypes := #[.long]
  resolved := Array.replicate 37 none
  statics := none }

def pool15 : Array CpInfo := pool [(1, .class_ 2), (0, u "java/lang/Integer"), (16, u "digits"), (0, u "[C"), (46, u "<init>"), (17, u "DigitOnes"), (0, u "[B"), (2, u "DigitTens"), (10, .nameAndType 67 101), (0, u "()V"), (19, u "()I"), (65, u "valueOf"), (0, u "(I)Ljava/lang/Integer;"), (0, .class_ 190), (0, u "java/lang/Integer$IntegerCache"), (0, .fieldref 189 192), (0, .nameAndType 193 194), (0, u "high"), (0, u "I"), (0, .fieldref 189 196), (0, .nameAndType 197 198), (0, u "cache"), (0, u "[Ljava/lang/Integer;"), (0, .methodref 1 200), (0, .nameAndType 67 201), (0, u "(I)V"), (0, .methodref 203 100), (0, .class_ 204), (0, u "java/lang/Number"), (0, .fieldref 1 206), (0, .nameAndType 207 194), (0, u "value"), (5, u "intValue"), (88, u "TYPE"), (0, u "Ljava/lang/Class;"), (0, .class_ 305), (0, u "java/lang/Comparable"), (0, .class_ 307), (0, u "java/lang/constant/Constable"), (0, .class_ 309), (0, u "java/lang/constant/ConstantDesc"), (0, u "MIN_VALUE"), (1, u "MAX_VALUE"), (3, u "SIZE"), (1, u "BYTES"), (1, u "serialVersionUID"), (0, u "J")] 131

def k15c0 : Code := { maxStack := 3, maxLocals := 1, code := jdk_33_method_22_code, exceptionTable := #[], attributes := #[] }
def k15m0 : Method := { name := "valueOf", desc := "(I)Ljava/lang/Integer;", sig := { parameters := [.int], returnType := some (.object "java/lang/Integer") }, accessFlags := 9, code := some k15c0 }
def k15c1 : Code := { maxStack := 2, maxLocals := 2, code := jdk_33_method_23_code, exceptionTable := #[], attributes := #[] }
def k15m1 : Method := { name := "<init>", desc := "(I)V", sig := { parameters := [.int], returnType := none }, accessFlags := 1, code := some k15c1 }
def k15c2 : Code := { maxStack := 1, maxLocals := 1, code := jdk_33_method_27_code, exceptionTable := #[], attributes := #[] }
def k15m2 : Method := { name := "intValue", desc := "()I", sig := { parameters := [], returnType := some .int }, accessFlags := 1, code := some k15c2 }
/-- java/lang/Integer -/
def k15 : Class := { plain "java/lang/Integer" (some 14) with
  accessFlags := 49
  interfaces := #[4, 6, 7]
  cf := some (fileOf pool15 1 #[.nestMembers #[189]] #[{ accessFlags := 9, nameIndex := 187, descriptorIndex := 188, attributes := #[] }, { accessFlags := 1, nameIndex := 67, descriptorIndex := 201, attributes := #[] }, { accessFlags := 1, nameIndex := 213, descriptorIndex := 121, attributes := #[] }] 49 203 #[304, 306, 308] #[{ accessFlags := 25, nameIndex := 310, descriptorIndex := 194, attributes := #[] }, { accessFlags := 25, nameIndex := 312, descriptorIndex := 194, attributes := #[] }, { accessFlags := 25, nameIndex := 302, descriptorIndex := 303, attributes := #[] }, { accessFlags := 24, nameIndex := 19, descriptorIndex := 20, attributes := #[] }, { accessFlags := 24, nameIndex := 89, descriptorIndex := 86, attributes := #[] }, { accessFlags := 24, nameIndex := 85, descriptorIndex := 86, attributes := #[] }, { accessFlags := 18, nameIndex := 207, descriptorIndex := 194, attributes := #[] }, { accessFlags := 25, nameIndex := 316, descriptorIndex := 194, attributes := #[] }, { accessFlags := 25, nameIndex := 318, descriptorIndex := 194, attributes := #[] }, { accessFlags := 26, nameIndex := 320, descriptorIndex := 321, attributes := #[] }])
  fields := #[{ name := "MIN_VALUE", type := .int, accessFlags := 25, slot := 0, constantValue := 0 }, { name := "MAX_VALUE", type := .int, accessFlags := 25, slot := 1, constantValue := 0 }, { name := "TYPE", type := (.object "java/lang/Class"), accessFlags := 25, slot := 2, constantValue := 0 }, { name := "digits", type := (.array .char), accessFlags := 24, slot := 3, constantValue := 0 }, { name := "DigitTens", type := (.array .byte), accessFlags := 24, slot := 4, constantValue := 0 }, { name := "DigitOnes", type := (.array .byte), accessFlags := 24, slot := 5, constantValue := 0 }, { name := "value", type := .int, accessFlags := 18, slot := 0, constantValue := 0 }, { name := "SIZE", type := .int, accessFlags := 25, slot := 6, constantValue := 0 }, { name := "BYTES", type := .int, accessFlags := 25, slot := 7, constantValue := 0 }, { name := "serialVersionUID", type := .long, accessFlags := 26, slot := 8, constantValue := 0 }]
  methods := #[k15m0, k15m1, k15m2]
  instanceTypes := #[.int]
  staticTypes := #[.int, .int, (.object "java/lang/Class"), (.array .char), (.array .byte), (.array .byte), .int, .int, .long]
  resolved := Array.replicate 453 none
  statics := none }

def pool16 : Array CpInfo := pool [(2, .class_ 4), (1, u "java/lang/Object"), (0, u "<init>"), (0, u "()V"), (0, .class_ 8), (0, u "java/lang/Integer"), (7, .class_ 18), (1, u "java/lang/Integer$IntegerCache"), (0, u "$assertionsDisabled"), (0, u "Z"), (26, u "high"), (0, u "I"), (8, u "archivedCache"), (0, u "[Ljava/lang/Integer;"), (12, u "cache"), (0, u "low")] 27

def k16m0 : Method := { name := "<init>", desc := "()V", sig := { parameters := [], returnType := none }, accessFlags := 2, code := none }
/-- java/lang/Integer$IntegerCache -/
def k16 : Class := { plain "java/lang/Integer$IntegerCache" (some 0) with
  accessFlags := 48
  interfaces := #[]
  cf := some (fileOf pool16 16 #[.nestHost 7] #[{ accessFlags := 2, nameIndex := 5, descriptorIndex := 6, attributes := #[] }] 48 2 #[] #[{ accessFlags := 24, nameIndex := 72, descriptorIndex := 48, attributes := #[] }, { accessFlags := 24, nameIndex := 47, descriptorIndex := 48, attributes := #[] }, { accessFlags := 24, nameIndex := 71, descriptorIndex := 58, attributes := #[] }, { accessFlags := 8, nameIndex := 57, descriptorIndex := 58, attributes := #[] }, { accessFlags := 4120, nameIndex := 19, descriptorIndex := 20, attributes := #[] }])
  fields := #[{ name := "low", type := .int, accessFlags := 24, slot := 0, constantValue := 0 }, { name := "high", type := .int, accessFlags := 24, slot := 1, constantValue := 0 }, { name := "cache", type := (.array (.object "java/lang/Integer")), accessFlags := 24, slot := 2, constantValue := 0 }, { name := "archivedCache", type := (.array (.object "java/lang/Integer")), accessFlags := 8, slot := 3, constantValue := 0 }, { name := "$assertionsDisabled", type := .boolean, accessFlags := 4120, slot := 4, constantValue := 0 }]
  methods := #[k16m0]
  instanceTypes := #[]
  staticTypes := #[.int, .int, (.array (.object "java/lang/Integer")), (.array (.object "java/lang/Integer")), .boolean]
  resolved := Array.replicate 100 none
  statics := some 2 }

def pool17 : Array CpInfo := pool [(9, u "<init>"), (6, .class_ 18), (1, u "java/lang/Object"), (0, u "()V"), (1, .class_ 23), (1, u "jdk/internal/util/ArraysSupport"), (0, u "LOG2_ARRAY_LONG_INDEX_SCALE"), (0, u "I"), (2, u "U"), (0, u "Ljdk/internal/misc/Unsafe;"), (8, u "BIG_ENDIAN"), (0, u "Z"), (8, u "LOG2_BYTE_BIT_SIZE"), (4, u "LOG2_ARRAY_INT_INDEX_SCALE"), (54, u "JLA"), (0, u "Ljdk/internal/access/JavaLangAccess;"), (11, u "LOG2_ARRAY_BOOLEAN_INDEX_SCALE"), (9, u "LOG2_ARRAY_BYTE_INDEX_SCALE"), (5, u "LOG2_ARRAY_CHAR_INDEX_SCALE"), (5, u "LOG2_ARRAY_SHORT_INDEX_SCALE"), (18, u "LOG2_ARRAY_FLOAT_INDEX_SCALE"), (24, u "LOG2_ARRAY_DOUBLE_INDEX_SCALE"), (89, u "T_BOOLEAN"), (2, u "T_CHAR"), (1, u "T_FLOAT"), (1, u "T_DOUBLE"), (1, u "T_BYTE"), (1, u "T_SHORT"), (1, u "T_INT"), (1, u "T_LONG"), (1, u "SOFT_MAX_ARRAY_LENGTH")] 83

def k17m0 : Method := { name := "<init>", desc := "()V", sig := { parameters := [], returnType := none }, accessFlags := 2, code := none }
/-- jdk/internal/util/ArraysSupport -/
def k17 : Class := { plain "jdk/internal/util/ArraysSupport" (some 0) with
  accessFlags := 33
  interfaces := #[]
  cf := some (fileOf pool17 21 #[] #[{ accessFlags := 2, nameIndex := 9, descriptorIndex := 19, attributes := #[] }] 33 16 #[] #[{ accessFlags := 24, nameIndex := 28, descriptorIndex := 29, attributes := #[] }, { accessFlags := 26, nameIndex := 38, descriptorIndex := 39, attributes := #[] }, { accessFlags := 25, nameIndex := 121, descriptorIndex := 25, attributes := #[] }, { accessFlags := 25, nameIndex := 131, descriptorIndex := 25, attributes := #[] }, { accessFlags := 25, nameIndex := 137, descriptorIndex := 25, attributes := #[] }, { accessFlags := 25, nameIndex := 143, descriptorIndex := 25, attributes := #[] }, { accessFlags := 25, nameIndex := 53, descriptorIndex := 25, attributes := #[] }, { accessFlags := 25, nameIndex := 24, descriptorIndex := 25, attributes := #[] }, { accessFlags := 25, nameIndex := 162, descriptorIndex := 25, attributes := #[] }, { accessFlags := 25, nameIndex := 187, descriptorIndex := 25, attributes := #[] }, { accessFlags := 26, nameIndex := 48, descriptorIndex := 25, attributes := #[] }, { accessFlags := 25, nameIndex := 277, descriptorIndex := 25, attributes := #[] }, { accessFlags := 25, nameIndex := 280, descriptorIndex := 25, attributes := #[] }, { accessFlags := 25, nameIndex := 282, descriptorIndex := 25, attributes := #[] }, { accessFlags := 25, nameIndex := 284, descriptorIndex := 25, attributes := #[] }, { accessFlags := 25, nameIndex := 286, descriptorIndex := 25, attributes := #[] }, { accessFlags := 25, nameIndex := 288, descriptorIndex := 25, attributes := #[] }, { accessFlags := 25, nameIndex := 290, descriptorIndex := 25, attributes := #[] }, { accessFlags := 25, nameIndex := 292, descriptorIndex := 25, attributes := #[] }, { accessFlags := 26, nameIndex := 108, descriptorIndex := 109, attributes := #[] }, { accessFlags := 25, nameIndex := 294, descriptorIndex := 25, attributes := #[] }])
  fields := #[{ name := "U", type := (.object "jdk/internal/misc/Unsafe"), accessFlags := 24, slot := 0, constantValue := 0 }, { name := "BIG_ENDIAN", type := .boolean, accessFlags := 26, slot := 1, constantValue := 0 }, { name := "LOG2_ARRAY_BOOLEAN_INDEX_SCALE", type := .int, accessFlags := 25, slot := 2, constantValue := 0 }, { name := "LOG2_ARRAY_BYTE_INDEX_SCALE", type := .int, accessFlags := 25, slot := 3, constantValue := 0 }, { name := "LOG2_ARRAY_CHAR_INDEX_SCALE", type := .int, accessFlags := 25, slot := 4, constantValue := 0 }, { name := "LOG2_ARRAY_SHORT_INDEX_SCALE", type := .int, accessFlags := 25, slot := 5, constantValue := 0 }, { name := "LOG2_ARRAY_INT_INDEX_SCALE", type := .int, accessFlags := 25, slot := 6, constantValue := 0 }, { name := "LOG2_ARRAY_LONG_INDEX_SCALE", type := .int, accessFlags := 25, slot := 7, constantValue := 0 }, { name := "LOG2_ARRAY_FLOAT_INDEX_SCALE", type := .int, accessFlags := 25, slot := 8, constantValue := 0 }, { name := "LOG2_ARRAY_DOUBLE_INDEX_SCALE", type := .int, accessFlags := 25, slot := 9, constantValue := 0 }, { name := "LOG2_BYTE_BIT_SIZE", type := .int, accessFlags := 26, slot := 10, constantValue := 0 }, { name := "T_BOOLEAN", type := .int, accessFlags := 25, slot := 11, constantValue := 0 }, { name := "T_CHAR", type := .int, accessFlags := 25, slot := 12, constantValue := 0 }, { name := "T_FLOAT", type := .int, accessFlags := 25, slot := 13, constantValue := 0 }, { name := "T_DOUBLE", type := .int, accessFlags := 25, slot := 14, constantValue := 0 }, { name := "T_BYTE", type := .int, accessFlags := 25, slot := 15, constantValue := 0 }, { name := "T_SHORT", type := .int, accessFlags := 25, slot := 16, constantValue := 0 }, { name := "T_INT", type := .int, accessFlags := 25, slot := 17, constantValue := 0 }, { name := "T_LONG", type := .int, accessFlags := 25, slot := 18, constantValue := 0 }, { name := "JLA", type := (.object "jdk/internal/access/JavaLangAccess"), accessFlags := 26, slot := 19, constantValue := 0 }, { name := "SOFT_MAX_ARRAY_LENGTH", type := .int, accessFlags := 25, slot := 20, constantValue := 0 }]
  methods := #[k17m0]
  instanceTypes := #[]
  staticTypes := #[(.object "jdk/internal/misc/Unsafe"), .boolean, .int, .int, .int, .int, .int, .int, .int, .int, .int, .int, .int, .int, .int, .int, .int, .int, .int, (.object "jdk/internal/access/JavaLangAccess"), .int]
  resolved := Array.replicate 378 none
  statics := none }

def pool18 : Array CpInfo := pool [(1, u "java/lang/Cloneable"), (0, .class_ 1), (0, u "java/lang/Object"), (0, .class_ 3)] 3

/-- java/lang/Cloneable -/
def k18 : Class := { plain "java/lang/Cloneable" (some 0) with
  accessFlags := 1537
  interfaces := #[]
  cf := some (fileOf pool18 2 #[] #[] 1537 4 #[] #[])
  fields := #[]
  methods := #[]
  instanceTypes := #[]
  staticTypes := #[]
  resolved := Array.replicate 8 none
  statics := none }

/-- the primitive byte -/
def k19 : Class := { plain "byte" none with kind := .primitive 'B', accessFlags := 0x411 }
/-- [B -/
def k20 : Class := { plain "[B" (some 0) with kind := .array 19 .byte, interfaces := #[18, 3], accessFlags := 1041 }

/-- the primitive int -/
def k21 : Class := { plain "int" none with kind := .primitive 'I', accessFlags := 0x411 }
/-- [I -/
def k22 : Class := { plain "[I" (some 0) with kind := .array 21 .int, interfaces := #[18, 3], accessFlags := 1041 }

/-- [Ljava/lang/Integer; -/
def k23 : Class := { plain "[Ljava/lang/Integer;" (some 0) with kind := .array 15 (.object "java/lang/Integer"), interfaces := #[18, 3], accessFlags := 1041 }

def heap : Heap := #[{ cls := 8, slots := #[.long 0, .int 1, .null, .int 0, .null, .int 0, .int 0], vm := .statics 8 },
  { cls := 11, slots := #[.null, .null, .null], vm := .statics 11 },
  { cls := 16, slots := #[.int 0, .int 127, .ref 3, .null, .int 0], vm := .statics 16 },
  { cls := 23, slots := #[.ref 4, .ref 5, .ref 6, .ref 7, .ref 8, .ref 9, .ref 10, .ref 11, .ref 12, .ref 13, .ref 14, .ref 15, .ref 16, .ref 17, .ref 18, .ref 19, .ref 20, .ref 21, .ref 22, .ref 23, .ref 24, .ref 25, .ref 26, .ref 27, .ref 28, .ref 29, .ref 30, .ref 31, .ref 32, .ref 33, .ref 34, .ref 35, .ref 36, .ref 37, .ref 38, .ref 39, .ref 40, .ref 41, .ref 42, .ref 43, .ref 44, .ref 45, .ref 46, .ref 47, .ref 48, .ref 49, .ref 50, .ref 51, .ref 52, .ref 53, .ref 54, .ref 55, .ref 56, .ref 57, .ref 58, .ref 59, .ref 60, .ref 61, .ref 62, .ref 63, .ref 64, .ref 65, .ref 66, .ref 67, .ref 68, .ref 69, .ref 70, .ref 71, .ref 72, .ref 73, .ref 74, .ref 75, .ref 76, .ref 77, .ref 78, .ref 79, .ref 80, .ref 81, .ref 82, .ref 83, .ref 84, .ref 85, .ref 86, .ref 87, .ref 88, .ref 89, .ref 90, .ref 91, .ref 92, .ref 93, .ref 94, .ref 95, .ref 96, .ref 97, .ref 98, .ref 99, .ref 100, .ref 101, .ref 102, .ref 103, .ref 104, .ref 105, .ref 106, .ref 107, .ref 108, .ref 109, .ref 110, .ref 111, .ref 112, .ref 113, .ref 114, .ref 115, .ref 116, .ref 117, .ref 118, .ref 119, .ref 120, .ref 121, .ref 122, .ref 123, .ref 124, .ref 125, .ref 126, .ref 127, .ref 128, .ref 129, .ref 130, .ref 131, .ref 132, .ref 133, .ref 134, .ref 135, .ref 136, .ref 137, .ref 138, .ref 139, .ref 140, .ref 141, .ref 142, .ref 143, .ref 144, .ref 145, .ref 146, .ref 147, .ref 148, .ref 149, .ref 150, .ref 151, .ref 152, .ref 153, .ref 154, .ref 155, .ref 156, .ref 157, .ref 158, .ref 159, .ref 160, .ref 161, .ref 162, .ref 163, .ref 164, .ref 165, .ref 166, .ref 167, .ref 168, .ref 169, .ref 170, .ref 171, .ref 172, .ref 173, .ref 174, .ref 175, .ref 176, .ref 177, .ref 178, .ref 179, .ref 180, .ref 181, .ref 182, .ref 183, .ref 184, .ref 185, .ref 186, .ref 187, .ref 188, .ref 189, .ref 190, .ref 191, .ref 192, .ref 193, .ref 194, .ref 195, .ref 196, .ref 197, .ref 198, .ref 199, .ref 200, .ref 201, .ref 202, .ref 203, .ref 204, .ref 205, .ref 206, .ref 207, .ref 208, .ref 209, .ref 210, .ref 211, .ref 212, .ref 213, .ref 214, .ref 215, .ref 216, .ref 217, .ref 218, .ref 219, .ref 220, .ref 221, .ref 222, .ref 223, .ref 224, .ref 225, .ref 226, .ref 227, .ref 228, .ref 229, .ref 230, .ref 231, .ref 232, .ref 233, .ref 234, .ref 235, .ref 236, .ref 237, .ref 238, .ref 239, .ref 240, .ref 241, .ref 242, .ref 243, .ref 244, .ref 245, .ref 246, .ref 247, .ref 248, .ref 249, .ref 250, .ref 251, .ref 252, .ref 253, .ref 254, .ref 255, .ref 256, .ref 257, .ref 258, .ref 259], vm := .none },
  { cls := 15, slots := #[.int (-128)], vm := .none },
  { cls := 15, slots := #[.int (-127)], vm := .none },
  { cls := 15, slots := #[.int (-126)], vm := .none },
  { cls := 15, slots := #[.int (-125)], vm := .none },
  { cls := 15, slots := #[.int (-124)], vm := .none },
  { cls := 15, slots := #[.int (-123)], vm := .none },
  { cls := 15, slots := #[.int (-122)], vm := .none },
  { cls := 15, slots := #[.int (-121)], vm := .none },
  { cls := 15, slots := #[.int (-120)], vm := .none },
  { cls := 15, slots := #[.int (-119)], vm := .none },
  { cls := 15, slots := #[.int (-118)], vm := .none },
  { cls := 15, slots := #[.int (-117)], vm := .none },
  { cls := 15, slots := #[.int (-116)], vm := .none },
  { cls := 15, slots := #[.int (-115)], vm := .none },
  { cls := 15, slots := #[.int (-114)], vm := .none },
  { cls := 15, slots := #[.int (-113)], vm := .none },
  { cls := 15, slots := #[.int (-112)], vm := .none },
  { cls := 15, slots := #[.int (-111)], vm := .none },
  { cls := 15, slots := #[.int (-110)], vm := .none },
  { cls := 15, slots := #[.int (-109)], vm := .none },
  { cls := 15, slots := #[.int (-108)], vm := .none },
  { cls := 15, slots := #[.int (-107)], vm := .none },
  { cls := 15, slots := #[.int (-106)], vm := .none },
  { cls := 15, slots := #[.int (-105)], vm := .none },
  { cls := 15, slots := #[.int (-104)], vm := .none },
  { cls := 15, slots := #[.int (-103)], vm := .none },
  { cls := 15, slots := #[.int (-102)], vm := .none },
  { cls := 15, slots := #[.int (-101)], vm := .none },
  { cls := 15, slots := #[.int (-100)], vm := .none },
  { cls := 15, slots := #[.int (-99)], vm := .none },
  { cls := 15, slots := #[.int (-98)], vm := .none },
  { cls := 15, slots := #[.int (-97)], vm := .none },
  { cls := 15, slots := #[.int (-96)], vm := .none },
  { cls := 15, slots := #[.int (-95)], vm := .none },
  { cls := 15, slots := #[.int (-94)], vm := .none },
  { cls := 15, slots := #[.int (-93)], vm := .none },
  { cls := 15, slots := #[.int (-92)], vm := .none },
  { cls := 15, slots := #[.int (-91)], vm := .none },
  { cls := 15, slots := #[.int (-90)], vm := .none },
  { cls := 15, slots := #[.int (-89)], vm := .none },
  { cls := 15, slots := #[.int (-88)], vm := .none },
  { cls := 15, slots := #[.int (-87)], vm := .none },
  { cls := 15, slots := #[.int (-86)], vm := .none },
  { cls := 15, slots := #[.int (-85)], vm := .none },
  { cls := 15, slots := #[.int (-84)], vm := .none },
  { cls := 15, slots := #[.int (-83)], vm := .none },
  { cls := 15, slots := #[.int (-82)], vm := .none },
  { cls := 15, slots := #[.int (-81)], vm := .none },
  { cls := 15, slots := #[.int (-80)], vm := .none },
  { cls := 15, slots := #[.int (-79)], vm := .none },
  { cls := 15, slots := #[.int (-78)], vm := .none },
  { cls := 15, slots := #[.int (-77)], vm := .none },
  { cls := 15, slots := #[.int (-76)], vm := .none },
  { cls := 15, slots := #[.int (-75)], vm := .none },
  { cls := 15, slots := #[.int (-74)], vm := .none },
  { cls := 15, slots := #[.int (-73)], vm := .none },
  { cls := 15, slots := #[.int (-72)], vm := .none },
  { cls := 15, slots := #[.int (-71)], vm := .none },
  { cls := 15, slots := #[.int (-70)], vm := .none },
  { cls := 15, slots := #[.int (-69)], vm := .none },
  { cls := 15, slots := #[.int (-68)], vm := .none },
  { cls := 15, slots := #[.int (-67)], vm := .none },
  { cls := 15, slots := #[.int (-66)], vm := .none },
  { cls := 15, slots := #[.int (-65)], vm := .none },
  { cls := 15, slots := #[.int (-64)], vm := .none },
  { cls := 15, slots := #[.int (-63)], vm := .none },
  { cls := 15, slots := #[.int (-62)], vm := .none },
  { cls := 15, slots := #[.int (-61)], vm := .none },
  { cls := 15, slots := #[.int (-60)], vm := .none },
  { cls := 15, slots := #[.int (-59)], vm := .none },
  { cls := 15, slots := #[.int (-58)], vm := .none },
  { cls := 15, slots := #[.int (-57)], vm := .none },
  { cls := 15, slots := #[.int (-56)], vm := .none },
  { cls := 15, slots := #[.int (-55)], vm := .none },
  { cls := 15, slots := #[.int (-54)], vm := .none },
  { cls := 15, slots := #[.int (-53)], vm := .none },
  { cls := 15, slots := #[.int (-52)], vm := .none },
  { cls := 15, slots := #[.int (-51)], vm := .none },
  { cls := 15, slots := #[.int (-50)], vm := .none },
  { cls := 15, slots := #[.int (-49)], vm := .none },
  { cls := 15, slots := #[.int (-48)], vm := .none },
  { cls := 15, slots := #[.int (-47)], vm := .none },
  { cls := 15, slots := #[.int (-46)], vm := .none },
  { cls := 15, slots := #[.int (-45)], vm := .none },
  { cls := 15, slots := #[.int (-44)], vm := .none },
  { cls := 15, slots := #[.int (-43)], vm := .none },
  { cls := 15, slots := #[.int (-42)], vm := .none },
  { cls := 15, slots := #[.int (-41)], vm := .none },
  { cls := 15, slots := #[.int (-40)], vm := .none },
  { cls := 15, slots := #[.int (-39)], vm := .none },
  { cls := 15, slots := #[.int (-38)], vm := .none },
  { cls := 15, slots := #[.int (-37)], vm := .none },
  { cls := 15, slots := #[.int (-36)], vm := .none },
  { cls := 15, slots := #[.int (-35)], vm := .none },
  { cls := 15, slots := #[.int (-34)], vm := .none },
  { cls := 15, slots := #[.int (-33)], vm := .none },
  { cls := 15, slots := #[.int (-32)], vm := .none },
  { cls := 15, slots := #[.int (-31)], vm := .none },
  { cls := 15, slots := #[.int (-30)], vm := .none },
  { cls := 15, slots := #[.int (-29)], vm := .none },
  { cls := 15, slots := #[.int (-28)], vm := .none },
  { cls := 15, slots := #[.int (-27)], vm := .none },
  { cls := 15, slots := #[.int (-26)], vm := .none },
  { cls := 15, slots := #[.int (-25)], vm := .none },
  { cls := 15, slots := #[.int (-24)], vm := .none },
  { cls := 15, slots := #[.int (-23)], vm := .none },
  { cls := 15, slots := #[.int (-22)], vm := .none },
  { cls := 15, slots := #[.int (-21)], vm := .none },
  { cls := 15, slots := #[.int (-20)], vm := .none },
  { cls := 15, slots := #[.int (-19)], vm := .none },
  { cls := 15, slots := #[.int (-18)], vm := .none },
  { cls := 15, slots := #[.int (-17)], vm := .none },
  { cls := 15, slots := #[.int (-16)], vm := .none },
  { cls := 15, slots := #[.int (-15)], vm := .none },
  { cls := 15, slots := #[.int (-14)], vm := .none },
  { cls := 15, slots := #[.int (-13)], vm := .none },
  { cls := 15, slots := #[.int (-12)], vm := .none },
  { cls := 15, slots := #[.int (-11)], vm := .none },
  { cls := 15, slots := #[.int (-10)], vm := .none },
  { cls := 15, slots := #[.int (-9)], vm := .none },
  { cls := 15, slots := #[.int (-8)], vm := .none },
  { cls := 15, slots := #[.int (-7)], vm := .none },
  { cls := 15, slots := #[.int (-6)], vm := .none },
  { cls := 15, slots := #[.int (-5)], vm := .none },
  { cls := 15, slots := #[.int (-4)], vm := .none },
  { cls := 15, slots := #[.int (-3)], vm := .none },
  { cls := 15, slots := #[.int (-2)], vm := .none },
  { cls := 15, slots := #[.int (-1)], vm := .none },
  { cls := 15, slots := #[.int 0], vm := .none },
  { cls := 15, slots := #[.int 1], vm := .none },
  { cls := 15, slots := #[.int 2], vm := .none },
  { cls := 15, slots := #[.int 3], vm := .none },
  { cls := 15, slots := #[.int 4], vm := .none },
  { cls := 15, slots := #[.int 5], vm := .none },
  { cls := 15, slots := #[.int 6], vm := .none },
  { cls := 15, slots := #[.int 7], vm := .none },
  { cls := 15, slots := #[.int 8], vm := .none },
  { cls := 15, slots := #[.int 9], vm := .none },
  { cls := 15, slots := #[.int 10], vm := .none },
  { cls := 15, slots := #[.int 11], vm := .none },
  { cls := 15, slots := #[.int 12], vm := .none },
  { cls := 15, slots := #[.int 13], vm := .none },
  { cls := 15, slots := #[.int 14], vm := .none },
  { cls := 15, slots := #[.int 15], vm := .none },
  { cls := 15, slots := #[.int 16], vm := .none },
  { cls := 15, slots := #[.int 17], vm := .none },
  { cls := 15, slots := #[.int 18], vm := .none },
  { cls := 15, slots := #[.int 19], vm := .none },
  { cls := 15, slots := #[.int 20], vm := .none },
  { cls := 15, slots := #[.int 21], vm := .none },
  { cls := 15, slots := #[.int 22], vm := .none },
  { cls := 15, slots := #[.int 23], vm := .none },
  { cls := 15, slots := #[.int 24], vm := .none },
  { cls := 15, slots := #[.int 25], vm := .none },
  { cls := 15, slots := #[.int 26], vm := .none },
  { cls := 15, slots := #[.int 27], vm := .none },
  { cls := 15, slots := #[.int 28], vm := .none },
  { cls := 15, slots := #[.int 29], vm := .none },
  { cls := 15, slots := #[.int 30], vm := .none },
  { cls := 15, slots := #[.int 31], vm := .none },
  { cls := 15, slots := #[.int 32], vm := .none },
  { cls := 15, slots := #[.int 33], vm := .none },
  { cls := 15, slots := #[.int 34], vm := .none },
  { cls := 15, slots := #[.int 35], vm := .none },
  { cls := 15, slots := #[.int 36], vm := .none },
  { cls := 15, slots := #[.int 37], vm := .none },
  { cls := 15, slots := #[.int 38], vm := .none },
  { cls := 15, slots := #[.int 39], vm := .none },
  { cls := 15, slots := #[.int 40], vm := .none },
  { cls := 15, slots := #[.int 41], vm := .none },
  { cls := 15, slots := #[.int 42], vm := .none },
  { cls := 15, slots := #[.int 43], vm := .none },
  { cls := 15, slots := #[.int 44], vm := .none },
  { cls := 15, slots := #[.int 45], vm := .none },
  { cls := 15, slots := #[.int 46], vm := .none },
  { cls := 15, slots := #[.int 47], vm := .none },
  { cls := 15, slots := #[.int 48], vm := .none },
  { cls := 15, slots := #[.int 49], vm := .none },
  { cls := 15, slots := #[.int 50], vm := .none },
  { cls := 15, slots := #[.int 51], vm := .none },
  { cls := 15, slots := #[.int 52], vm := .none },
  { cls := 15, slots := #[.int 53], vm := .none },
  { cls := 15, slots := #[.int 54], vm := .none },
  { cls := 15, slots := #[.int 55], vm := .none },
  { cls := 15, slots := #[.int 56], vm := .none },
  { cls := 15, slots := #[.int 57], vm := .none },
  { cls := 15, slots := #[.int 58], vm := .none },
  { cls := 15, slots := #[.int 59], vm := .none },
  { cls := 15, slots := #[.int 60], vm := .none },
  { cls := 15, slots := #[.int 61], vm := .none },
  { cls := 15, slots := #[.int 62], vm := .none },
  { cls := 15, slots := #[.int 63], vm := .none },
  { cls := 15, slots := #[.int 64], vm := .none },
  { cls := 15, slots := #[.int 65], vm := .none },
  { cls := 15, slots := #[.int 66], vm := .none },
  { cls := 15, slots := #[.int 67], vm := .none },
  { cls := 15, slots := #[.int 68], vm := .none },
  { cls := 15, slots := #[.int 69], vm := .none },
  { cls := 15, slots := #[.int 70], vm := .none },
  { cls := 15, slots := #[.int 71], vm := .none },
  { cls := 15, slots := #[.int 72], vm := .none },
  { cls := 15, slots := #[.int 73], vm := .none },
  { cls := 15, slots := #[.int 74], vm := .none },
  { cls := 15, slots := #[.int 75], vm := .none },
  { cls := 15, slots := #[.int 76], vm := .none },
  { cls := 15, slots := #[.int 77], vm := .none },
  { cls := 15, slots := #[.int 78], vm := .none },
  { cls := 15, slots := #[.int 79], vm := .none },
  { cls := 15, slots := #[.int 80], vm := .none },
  { cls := 15, slots := #[.int 81], vm := .none },
  { cls := 15, slots := #[.int 82], vm := .none },
  { cls := 15, slots := #[.int 83], vm := .none },
  { cls := 15, slots := #[.int 84], vm := .none },
  { cls := 15, slots := #[.int 85], vm := .none },
  { cls := 15, slots := #[.int 86], vm := .none },
  { cls := 15, slots := #[.int 87], vm := .none },
  { cls := 15, slots := #[.int 88], vm := .none },
  { cls := 15, slots := #[.int 89], vm := .none },
  { cls := 15, slots := #[.int 90], vm := .none },
  { cls := 15, slots := #[.int 91], vm := .none },
  { cls := 15, slots := #[.int 92], vm := .none },
  { cls := 15, slots := #[.int 93], vm := .none },
  { cls := 15, slots := #[.int 94], vm := .none },
  { cls := 15, slots := #[.int 95], vm := .none },
  { cls := 15, slots := #[.int 96], vm := .none },
  { cls := 15, slots := #[.int 97], vm := .none },
  { cls := 15, slots := #[.int 98], vm := .none },
  { cls := 15, slots := #[.int 99], vm := .none },
  { cls := 15, slots := #[.int 100], vm := .none },
  { cls := 15, slots := #[.int 101], vm := .none },
  { cls := 15, slots := #[.int 102], vm := .none },
  { cls := 15, slots := #[.int 103], vm := .none },
  { cls := 15, slots := #[.int 104], vm := .none },
  { cls := 15, slots := #[.int 105], vm := .none },
  { cls := 15, slots := #[.int 106], vm := .none },
  { cls := 15, slots := #[.int 107], vm := .none },
  { cls := 15, slots := #[.int 108], vm := .none },
  { cls := 15, slots := #[.int 109], vm := .none },
  { cls := 15, slots := #[.int 110], vm := .none },
  { cls := 15, slots := #[.int 111], vm := .none },
  { cls := 15, slots := #[.int 112], vm := .none },
  { cls := 15, slots := #[.int 113], vm := .none },
  { cls := 15, slots := #[.int 114], vm := .none },
  { cls := 15, slots := #[.int 115], vm := .none },
  { cls := 15, slots := #[.int 116], vm := .none },
  { cls := 15, slots := #[.int 117], vm := .none },
  { cls := 15, slots := #[.int 118], vm := .none },
  { cls := 15, slots := #[.int 119], vm := .none },
  { cls := 15, slots := #[.int 120], vm := .none },
  { cls := 15, slots := #[.int 121], vm := .none },
  { cls := 15, slots := #[.int 122], vm := .none },
  { cls := 15, slots := #[.int 123], vm := .none },
  { cls := 15, slots := #[.int 124], vm := .none },
  { cls := 15, slots := #[.int 125], vm := .none },
  { cls := 15, slots := #[.int 126], vm := .none },
  { cls := 15, slots := #[.int 127], vm := .none }]
def classes : Array Class := #[k0, k1, k2, k3, k4, k5, k6, k7, k8, k9, k10, k11, k12, k13, k14, k15, k16, k17, k18, k19, k20, k21, k22, k23]
def interned : List (Array UInt16 × Addr) := []
def slotsUsed : Nat := 527
def theMethod : MethodId := ⟨1, 1⟩
def args0 : Array Value := #[.int 5, .int 7, .int 9]
def aboutOver (below : List Frame) : State where
  vm := { classes := classes, interned := interned.toArray }
  heap := heap
  slotsUsed := slotsUsed
  threads := #[{ frames := .invoking theMethod args0 :: below }]
def below0 : List Frame := [.native { method := ⟨0, 0⟩, args := #[] }]
def about1 : State := aboutOver below0
def p0 : Program := .bare "" "" ""
def e0 : Env := launch0.env 0 0 0
theorem w_frames : about1.frames = Frame.invoking theMethod args0 :: below0 := rfl
set_option maxRecDepth 65536 in
theorem w_args : argsFit about1.vm theMethod args0 = true := by decide +kernel
set_option maxRecDepth 65536 in
theorem w_heap : heapFits about1 = true := by decide +kernel
set_option maxRecDepth 65536 in
theorem w_runnable : about1.curStatus? = some .runnable := by decide +kernel
set_option maxRecDepth 65536 in
theorem w_alone : about1.alone = true := by decide +kernel
set_option maxRecDepth 65536 in
theorem w_named : about1.methodNamed? x = some theMethod := by decide +kernel
set_option maxRecDepth 65536 in
theorem w_hears : about1.hears theMethod below0 = true := by decide +kernel
set_option maxRecDepth 65536 in
theorem w_ripe : about1.ripe theMethod args0 below0 = true := by decide +kernel
theorem w_running : about1.status = .running := rfl
set_option maxRecDepth 65536 in
theorem w_room : about1.hasRoom e0.platform room_1 = true :=
  launch0.hasRoom_least _ room_1 (by decide +kernel) (by decide +kernel) (by decide +kernel) (by decide +kernel) (by decide +kernel) (by decide +kernel)
theorem allAtoms_all (ts : List Jvm.Cond) (a : Array Jvm.Value) (st : Jvm.State) : (allAtoms ts).before a st = ts.all (fun c => c.before a st) := by
  induction ts with
  | nil => rfl
  | cons c t ih =>
    show (Jvm.Cond.and c (allAtoms t)).before a st = _
    rw [Jvm.Cond.before_and, ih, List.all_cons]
def words1 : List Jvm.Cond := Jvm.Cond.code x code maxLocals ret :: tables_1
/-- a 'code' word, met by the world's own term for the bytes: nothing is compared byte by byte -/
theorem code_word {y : MethodName} {bytes : ByteArray} {mx : Nat} {rt : Option FieldType} {a : Array Value} {s : State} {m : MethodId} {meth : Method} {c : Code} (h1 : s.methodNamed? y = some m) (h2 : s.vm.method? m = some meth) (h3 : meth.code = some c) (h4 : c.code = bytes)
    (h5 : (c.maxLocals == mx && c.exceptionTable.isEmpty && decide (c.maxStack ≤ mostOperands) && decide (meth.sig.returnType = rt) && !meth.locks && decide (parseMethodDescriptor y.desc = some meth.sig)) = true) : (Jvm.Cond.code y bytes mx rt).before a s = true := by
  simp only [Bool.and_eq_true, beq_iff_eq, Bool.not_eq_true', decide_eq_true_eq] at h5
  obtain ⟨⟨⟨⟨⟨g1, g2⟩, g3⟩, g4⟩, g5⟩, g6⟩ := h5
  simp [Cond.before, Cond.holds, Cond.value, h1, h2, h3, h4, g1, g2, g3, g4, g5, g6]
def isCode : Jvm.Cond → Bool
  | .code _ _ _ _ => true
  | _ => false
theorem all_split {L : List Jvm.Cond} {P : Jvm.Cond → Bool} (h1 : L.all (fun c => isCode c || P c) = true) (h2 : ∀ c ∈ L.filter isCode, P c = true) : L.all P = true := by
  refine List.all_eq_true.mpr fun c hc => ?_
  have h := List.all_eq_true.mp h1 c hc
  rcases Bool.eq_false_or_eq_true (isCode c) with hi | hi
  · exact h2 c (List.mem_filter.mpr ⟨hc, hi⟩)
  · simpa [hi] using h
set_option maxRecDepth 65536 in
theorem w_c0 : (Jvm.Cond.code x code maxLocals ret).before args0 about1 = true := code_word (m := ⟨1, 1⟩) (meth := k1m1) (c := k1c1) (by decide +kernel) rfl rfl rfl (by decide +kernel)
set_option maxRecDepth 65536 in
theorem w_c1 : (Jvm.Cond.code ({ cls := "com/example/aloq/aloq/engine/NewTask", name := "<init>", desc := "(Ljava/lang/String;Ljava/lang/String;)V" } : Jvm.MethodName) prog_13_method_1_code (3 : Nat) (Option.none : Option Jvm.ClassFile.FieldType)).before args0 about1 = true := code_word (m := ⟨2, 0⟩) (meth := k2m0) (c := k2c0) (by decide +kernel) rfl rfl rfl (by decide +kernel)
set_option maxRecDepth 65536 in
theorem w_c2 : (Jvm.Cond.code ({ cls := "java/lang/Object", name := "<init>", desc := "()V" } : Jvm.MethodName) object_method_1_code (1 : Nat) (Option.none : Option Jvm.ClassFile.FieldType)).before args0 about1 = true := code_word (m := ⟨0, 0⟩) (meth := k0m0) (c := k0c0) (by decide +kernel) rfl rfl rfl (by decide +kernel)
set_option maxRecDepth 65536 in
theorem w_c3 : (Jvm.Cond.code ({ cls := "com/example/aloq/aloq/engine/QueueName", name := "check", desc := "(Ljava/lang/String;)Ljava/lang/String;" } : Jvm.MethodName) prog_16_method_2_code (3 : Nat) (Option.some (Jvm.ClassFile.FieldType.object "java/lang/String"))).before args0 about1 = true := code_word (m := ⟨9, 1⟩) (meth := k9m1) (c := k9c1) (by decide +kernel) rfl rfl rfl (by decide +kernel)
set_option maxRecDepth 65536 in
theorem w_c4 : (Jvm.Cond.code ({ cls := "java/lang/String", name := "isEmpty", desc := "()Z" } : Jvm.MethodName) jdk_42_method_55_code (1 : Nat) (Option.some Jvm.ClassFile.FieldType.boolean)).before args0 about1 = true := code_word (m := ⟨8, 2⟩) (meth := k8m2) (c := k8c2) (by decide +kernel) rfl rfl rfl (by decide +kernel)
set_option maxRecDepth 65536 in
theorem w_c5 : (Jvm.Cond.code ({ cls := "java/lang/String", name := "length", desc := "()I" } : Jvm.MethodName) jdk_42_method_54_code (1 : Nat) (Option.some Jvm.ClassFile.FieldType.int)).before args0 about1 = true := code_word (m := ⟨8, 1⟩) (meth := k8m1) (c := k8c1) (by decide +kernel) rfl rfl rfl (by decide +kernel)
set_option maxRecDepth 65536 in
theorem w_c6 : (Jvm.Cond.code ({ cls := "java/lang/String", name := "coder", desc := "()B" } : Jvm.MethodName) jdk_42_method_152_code (1 : Nat) (Option.some Jvm.ClassFile.FieldType.byte)).before args0 about1 = true := code_word (m := ⟨8, 4⟩) (meth := k8m4) (c := k8c4) (by decide +kernel) rfl rfl rfl (by decide +kernel)
set_option maxRecDepth 65536 in
theorem w_c7 : (Jvm.Cond.code ({ cls := "java/lang/String", name := "charAt", desc := "(I)C" } : Jvm.MethodName) jdk_42_method_56_code (2 : Nat) (Option.some Jvm.ClassFile.FieldType.char)).before args0 about1 = true := code_word (m := ⟨8, 3⟩) (meth := k8m3) (c := k8c3) (by decide +kernel) rfl rfl rfl (by decide +kernel)
set_option maxRecDepth 65536 in
theorem w_c8 : (Jvm.Cond.code ({ cls := "java/lang/String", name := "isLatin1", desc := "()Z" } : Jvm.MethodName) jdk_42_method_154_code (1 : Nat) (Option.some Jvm.ClassFile.FieldType.boolean)).before args0 about1 = true := code_word (m := ⟨8, 5⟩) (meth := k8m5) (c := k8c5) (by decide +kernel) rfl rfl rfl (by decide +kernel)
set_option maxRecDepth 65536 in
theorem w_c9 : (Jvm.Cond.code ({ cls := "java/lang/StringLatin1", name := "charAt", desc := "([BI)C" } : Jvm.MethodName) jdk_43_method_2_code (2 : Nat) (Option.some Jvm.ClassFile.FieldType.char)).before args0 about1 = true := code_word (m := ⟨10, 1⟩) (meth := k10m1) (c := k10c1) (by decide +kernel) rfl rfl rfl (by decide +kernel)
set_option maxRecDepth 65536 in
theorem w_c10 : (Jvm.Cond.code ({ cls := "java/lang/String", name := "checkIndex", desc := "(II)V" } : Jvm.MethodName) jdk_42_method_155_code (2 : Nat) (Option.none : Option Jvm.ClassFile.FieldType)).before args0 about1 = true := code_word (m := ⟨8, 6⟩) (meth := k8m6) (c := k8c6) (by decide +kernel) rfl rfl rfl (by decide +kernel)
set_option maxRecDepth 65536 in
theorem w_c11 : (Jvm.Cond.code ({ cls := "jdk/internal/util/Preconditions", name := "checkIndex", desc := "(IILjava/util/function/BiFunction;)I" } : Jvm.MethodName) jdk_41_method_11_code (3 : Nat) (Option.some Jvm.ClassFile.FieldType.int)).before args0 about1 = true := code_word (m := ⟨11, 1⟩) (meth := k11m1) (c := k11c1) (by decide +kernel) rfl rfl rfl (by decide +kernel)
set_option maxRecDepth 65536 in
theorem w_c12 : (Jvm.Cond.code ({ cls := "java/util/Objects", name := "requireNonNull", desc := "(Ljava/lang/Object;Ljava/lang/String;)Ljava/lang/Object;" } : Jvm.MethodName) jdk_31_method_11_code (2 : Nat) (Option.some (Jvm.ClassFile.FieldType.object "java/lang/Object"))).before args0 about1 = true := code_word (m := ⟨12, 1⟩) (meth := k12m1) (c := k12c1) (by decide +kernel) rfl rfl rfl (by decide +kernel)
set_option maxRecDepth 65536 in
theorem w_c13 : (Jvm.Cond.code ({ cls := "com/example/aloq/aloq/engine/NewTask", name := "maxAttempts", desc := "(I)Lcom/example/aloq/aloq/engine/NewTask;" } : Jvm.MethodName) prog_13_method_5_code (2 : Nat) (Option.some (Jvm.ClassFile.FieldType.object "com/example/aloq/aloq/engine/NewTask"))).before args0 about1 = true := code_word (m := ⟨2, 2⟩) (meth := k2m2) (c := k2c2) (by decide +kernel) rfl rfl rfl (by decide +kernel)
set_option maxRecDepth 65536 in
theorem w_c14 : (Jvm.Cond.code ({ cls := "com/example/aloq/aloq/engine/Setting", name := "inRange", desc := "(Ljava/lang/String;III)I" } : Jvm.MethodName) prog_22_method_2_code (4 : Nat) (Option.some Jvm.ClassFile.FieldType.int)).before args0 about1 = true := code_word (m := ⟨13, 1⟩) (meth := k13m1) (c := k13c1) (by decide +kernel) rfl rfl rfl (by decide +kernel)
set_option maxRecDepth 65536 in
theorem w_c15 : (Jvm.Cond.code ({ cls := "com/example/aloq/aloq/engine/NewTask", name := "delaySeconds", desc := "()I" } : Jvm.MethodName) prog_13_method_11_code (1 : Nat) (Option.some Jvm.ClassFile.FieldType.int)).before args0 about1 = true := code_word (m := ⟨2, 3⟩) (meth := k2m3) (c := k2c3) (by decide +kernel) rfl rfl rfl (by decide +kernel)
set_option maxRecDepth 65536 in
theorem w_c16 : (Jvm.Cond.code ({ cls := "com/example/aloq/aloq/engine/NewTask", name := "delaySeconds", desc := "(I)Lcom/example/aloq/aloq/engine/NewTask;" } : Jvm.MethodName) prog_13_method_3_code (3 : Nat) (Option.some (Jvm.ClassFile.FieldType.object "com/example/aloq/aloq/engine/NewTask"))).before args0 about1 = true := code_word (m := ⟨2, 1⟩) (meth := k2m1) (c := k2c1) (by decide +kernel) rfl rfl rfl (by decide +kernel)
set_option maxRecDepth 65536 in
theorem w_c17 : (Jvm.Cond.code ({ cls := "java/lang/Integer", name := "valueOf", desc := "(I)Ljava/lang/Integer;" } : Jvm.MethodName) jdk_33_method_22_code (1 : Nat) (Option.some (Jvm.ClassFile.FieldType.object "java/lang/Integer"))).before args0 about1 = true := code_word (m := ⟨15, 0⟩) (meth := k15m0) (c := k15c0) (by decide +kernel) rfl rfl rfl (by decide +kernel)
set_option maxRecDepth 65536 in
theorem w_c18 : (Jvm.Cond.code ({ cls := "java/lang/Integer", name := "intValue", desc := "()I" } : Jvm.MethodName) jdk_33_method_27_code (1 : Nat) (Option.some Jvm.ClassFile.FieldType.int)).before args0 about1 = true := code_word (m := ⟨15, 2⟩) (meth := k15m2) (c := k15c2) (by decide +kernel) rfl rfl rfl (by decide +kernel)
set_option maxRecDepth 65536 in
theorem w_c19 : (Jvm.Cond.code ({ cls := "java/lang/Integer", name := "<init>", desc := "(I)V" } : Jvm.MethodName) jdk_33_method_23_code (2 : Nat) (Option.none : Option Jvm.ClassFile.FieldType)).before args0 about1 = true := code_word (m := ⟨15, 1⟩) (meth := k15m1) (c := k15c1) (by decide +kernel) rfl rfl rfl (by decide +kernel)
set_option maxRecDepth 65536 in
theorem w_c20 : (Jvm.Cond.code ({ cls := "java/lang/Number", name := "<init>", desc := "()V" } : Jvm.MethodName) jdk_18_method_1_code (1 : Nat) (Option.none : Option Jvm.ClassFile.FieldType)).before args0 about1 = true := code_word (m := ⟨14, 0⟩) (meth := k14m0) (c := k14c0) (by decide +kernel) rfl rfl rfl (by decide +kernel)
def codes1 : List Jvm.Cond := [Jvm.Cond.code x code maxLocals ret, Jvm.Cond.code ({ cls := "com/example/aloq/aloq/engine/NewTask", name := "<init>", desc := "(Ljava/lang/String;Ljava/lang/String;)V" } : Jvm.MethodName) prog_13_method_1_code (3 : Nat) (Option.none : Option Jvm.ClassFile.FieldType), Jvm.Cond.code ({ cls := "java/lang/Object", name := "<init>", desc := "()V" } : Jvm.MethodName) object_method_1_code (1 : Nat) (Option.none : Option Jvm.ClassFile.FieldType), Jvm.Cond.code ({ cls := "com/example/aloq/aloq/engine/QueueName", name := "check", desc := "(Ljava/lang/String;)Ljava/lang/String;" } : Jvm.MethodName) prog_16_method_2_code (3 : Nat) (Option.some (Jvm.ClassFile.FieldType.object "java/lang/String")), Jvm.Cond.code ({ cls := "java/lang/String", name := "isEmpty", desc := "()Z" } : Jvm.MethodName) jdk_42_method_55_code (1 : Nat) (Option.some Jvm.ClassFile.FieldType.boolean), Jvm.Cond.code ({ cls := "java/lang/String", name := "length", desc := "()I" } : Jvm.MethodName) jdk_42_method_54_code (1 : Nat) (Option.some Jvm.ClassFile.FieldType.int), Jvm.Cond.code ({ cls := "java/lang/String", name := "coder", desc := "()B" } : Jvm.MethodName) jdk_42_method_152_code (1 : Nat) (Option.some Jvm.ClassFile.FieldType.byte), Jvm.Cond.code ({ cls := "java/lang/String", name := "charAt", desc := "(I)C" } : Jvm.MethodName) jdk_42_method_56_code (2 : Nat) (Option.some Jvm.ClassFile.FieldType.char), Jvm.Cond.code ({ cls := "java/lang/String", name := "isLatin1", desc := "()Z" } : Jvm.MethodName) jdk_42_method_154_code (1 : Nat) (Option.some Jvm.ClassFile.FieldType.boolean), Jvm.Cond.code ({ cls := "java/lang/StringLatin1", name := "charAt", desc := "([BI)C" } : Jvm.MethodName) jdk_43_method_2_code (2 : Nat) (Option.some Jvm.ClassFile.FieldType.char), Jvm.Cond.code ({ cls := "java/lang/String", name := "checkIndex", desc := "(II)V" } : Jvm.MethodName) jdk_42_method_155_code (2 : Nat) (Option.none : Option Jvm.ClassFile.FieldType), Jvm.Cond.code ({ cls := "jdk/internal/util/Preconditions", name := "checkIndex", desc := "(IILjava/util/function/BiFunction;)I" } : Jvm.MethodName) jdk_41_method_11_code (3 : Nat) (Option.some Jvm.ClassFile.FieldType.int), Jvm.Cond.code ({ cls := "java/util/Objects", name := "requireNonNull", desc := "(Ljava/lang/Object;Ljava/lang/String;)Ljava/lang/Object;" } : Jvm.MethodName) jdk_31_method_11_code (2 : Nat) (Option.some (Jvm.ClassFile.FieldType.object "java/lang/Object")), Jvm.Cond.code ({ cls := "com/example/aloq/aloq/engine/NewTask", name := "maxAttempts", desc := "(I)Lcom/example/aloq/aloq/engine/NewTask;" } : Jvm.MethodName) prog_13_method_5_code (2 : Nat) (Option.some (Jvm.ClassFile.FieldType.object "com/example/aloq/aloq/engine/NewTask")), Jvm.Cond.code ({ cls := "com/example/aloq/aloq/engine/Setting", name := "inRange", desc := "(Ljava/lang/String;III)I" } : Jvm.MethodName) prog_22_method_2_code (4 : Nat) (Option.some Jvm.ClassFile.FieldType.int), Jvm.Cond.code ({ cls := "com/example/aloq/aloq/engine/NewTask", name := "delaySeconds", desc := "()I" } : Jvm.MethodName) prog_13_method_11_code (1 : Nat) (Option.some Jvm.ClassFile.FieldType.int), Jvm.Cond.code ({ cls := "com/example/aloq/aloq/engine/NewTask", name := "delaySeconds", desc := "(I)Lcom/example/aloq/aloq/engine/NewTask;" } : Jvm.MethodName) prog_13_method_3_code (3 : Nat) (Option.some (Jvm.ClassFile.FieldType.object "com/example/aloq/aloq/engine/NewTask")), Jvm.Cond.code ({ cls := "java/lang/Integer", name := "valueOf", desc := "(I)Ljava/lang/Integer;" } : Jvm.MethodName) jdk_33_method_22_code (1 : Nat) (Option.some (Jvm.ClassFile.FieldType.object "java/lang/Integer")), Jvm.Cond.code ({ cls := "java/lang/Integer", name := "intValue", desc := "()I" } : Jvm.MethodName) jdk_33_method_27_code (1 : Nat) (Option.some Jvm.ClassFile.FieldType.int), Jvm.Cond.code ({ cls := "java/lang/Integer", name := "<init>", desc := "(I)V" } : Jvm.MethodName) jdk_33_method_23_code (2 : Nat) (Option.none : Option Jvm.ClassFile.FieldType), Jvm.Cond.code ({ cls := "java/lang/Number", name := "<init>", desc := "()V" } : Jvm.MethodName) jdk_18_method_1_code (1 : Nat) (Option.none : Option Jvm.ClassFile.FieldType)]
set_option maxRecDepth 65536 in
theorem codes_eq : words1.filter isCode = codes1 := rfl
theorem w_codes : ∀ c ∈ words1.filter isCode, c.before args0 about1 = true := by
  rw [codes_eq]
  intro c hc
  simp only [codes1, List.mem_cons, List.not_mem_nil, or_false] at hc
  rcases hc with rfl | rfl | rfl | rfl | rfl | rfl | rfl | rfl | rfl | rfl | rfl | rfl | rfl | rfl | rfl | rfl | rfl | rfl | rfl | rfl | rfl
  · exact w_c0
  · exact w_c1
  · exact w_c2
  · exact w_c3
  · exact w_c4
  · exact w_c5
  · exact w_c6
  · exact w_c7
  · exact w_c8
  · exact w_c9
  · exact w_c10
  · exact w_c11
  · exact w_c12
  · exact w_c13
  · exact w_c14
  · exact w_c15
  · exact w_c16
  · exact w_c17
  · exact w_c18
  · exact w_c19
  · exact w_c20
set_option maxRecDepth 65536 in
theorem w_t1 : (words1.take 24).all (fun c => isCode c || c.before args0 about1) = true := by decide +kernel
set_option maxRecDepth 65536 in
theorem w_t2 : ((words1.drop 24).take 24).all (fun c => isCode c || c.before args0 about1) = true := by decide +kernel
set_option maxRecDepth 65536 in
theorem w_t3 : (((words1.drop 24).drop 24).take 24).all (fun c => isCode c || c.before args0 about1) = true := by decide +kernel
set_option maxRecDepth 65536 in
theorem w_t4 : ((((words1.drop 24).drop 24).drop 24).take 24).all (fun c => isCode c || c.before args0 about1) = true := by decide +kernel
set_option maxRecDepth 65536 in
theorem w_t5 : (((((words1.drop 24).drop 24).drop 24).drop 24).take 24).all (fun c => isCode c || c.before args0 about1) = true := by decide +kernel
set_option maxRecDepth 65536 in
theorem w_t6 : (((((words1.drop 24).drop 24).drop 24).drop 24).drop 24).all (fun c => isCode c || c.before args0 about1) = true := by decide +kernel
theorem w_tables : (allAtoms (Jvm.Cond.code x code maxLocals ret :: tables_1)).before args0 about1 = true := by
  rw [allAtoms_all]
  show words1.all (fun c => c.before args0 about1) = true
  refine all_split ?_ w_codes
  rw [← List.take_append_drop 24 words1, List.all_append, w_t1, ← List.take_append_drop 24 (words1.drop 24), List.all_append, w_t2, ← List.take_append_drop 24 ((words1.drop 24).drop 24), List.all_append, w_t3, ← List.take_append_drop 24 (((words1.drop 24).drop 24).drop 24), List.all_append, w_t4, ← List.take_append_drop 24 ((((words1.drop 24).drop 24).drop 24).drop 24), List.all_append, w_t5, w_t6]
  rfl
set_option maxRecDepth 65536 in
theorem w_rest : rest_1_c.before args0 about1 = true := by decide +kernel
set_option maxRecDepth 65536 in
theorem w_case : (Jvm.Cond.and given_1 narrow_1).before args0 about1 = true := by decide +kernel
set_option maxRecDepth 65536 in
theorem w_consts : constsHeld consts_1 about1 := Jvm.Lit.constsHeldB_iff.mp (by decide +kernel)
theorem w_applies : (headSpec (Jvm.Cond.code x code maxLocals ret :: tables_1) room_1).applies x e0.platform about1 = true :=
  (Spec.applies_iff w_frames).mpr ⟨w_running, w_runnable, w_alone, w_named, w_hears, w_ripe, w_room, w_tables⟩
theorem atStart : AtStart classFile x code maxLocals ret World_1 tables_1 room_1 Calls_1 rest_1 Pre_1 launch0 p0 e0 about1 theMethod args0 below0 :=
  ⟨lists_1, trivial, launch0.admits_env _ _ _, launch0.least_env, fairChoices_fair.cas, fairChoices_fair.clock, w_frames, w_args, w_heap, w_applies, ⟨w_consts, trivial⟩, w_rest, w_case⟩
end start1
theorem witness_1 : WitnessClaimed_1 := ⟨start1.p0, start1.e0, start1.about1, start1.theMethod, start1.args0, start1.below0, start1.atStart⟩
end Jvm.Pilot.@@N@@

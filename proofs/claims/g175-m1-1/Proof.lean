import JvmDerived
import JvmDerived.Pilot.@@N@@Statement
import JvmDerived.Pilot.@@N@@Code
set_option linter.unusedVariables false
set_option linter.unusedSimpArgs false
@@BLOCK:NumsL.lean.txt@@
namespace Jvm.Pilot.@@N@@
open Jvm Jvm.ClassFile Sem Op Lib Jvm.Free Jvm.Stand Jvm.LawKit Jvm.RoadKit Bundle Jvm.Pilot.@@N@@.Jvm.D
/-- from the state A the body's walk comes to an end of which Q tells -/
def OwnGo (p : Program) (e : Env) (below : List Frame) (Q : Outcome → State → Prop) (A : State) : Prop :=
  ∃ s₂ o, Steps p.tables e below A s₂ ∧ s₂.status = .running ∧ Ended s₂ below o ∧ Q o s₂
theorem own_go {p : Program} {e : Env} {below : List Frame} {Q : Outcome → State → Prop} {A B : State} (st : ∀ t, Steps p.tables e below B t → Steps p.tables e below A t) (h : OwnGo p e below Q B) : OwnGo p e below Q A := by
  obtain ⟨s₂, o, h1, h2⟩ := h
  exact ⟨s₂, o, st _ h1, h2⟩
theorem own_fldI {args : Array Value} {s : State} {t : Term} {C n d : String} {k : Int32} {a : Addr} (ev : t.eval args s none [] s = some (.ref a)) (h : (Jvm.Cond.eq (Term.field t C n d) (Term.int k)).value args s none s [] = some true) : Fld s s.heap a C n d (.int k) := by
  apply Fld.start
  have q := fld_at (C := C) (n := n) (dd := d) ev
  cases hf : s.fieldOf? a C n d with
  | none => rw [hf] at q; simp [Cond.value, q] at h
  | some v => rw [hf] at q; cases v <;> simp [Cond.value, q, Term.int_eval] at h; rw [h]
theorem own_fldL {args : Array Value} {s : State} {t : Term} {C n d : String} {k : Int64} {a : Addr} (ev : t.eval args s none [] s = some (.ref a)) (h : (Jvm.Cond.eq (Term.field t C n d) (Term.long k)).value args s none s [] = some true) : Fld s s.heap a C n d (.long k) := by
  apply Fld.start
  have q := fld_at (C := C) (n := n) (dd := d) ev
  cases hf : s.fieldOf? a C n d with
  | none => rw [hf] at q; simp [Cond.value, q] at h
  | some v => rw [hf] at q; cases v <;> simp [Cond.value, q, long_at] at h; rw [h]
theorem own_refne {a b : Addr} (h : a ≠ b) : decide (Value.ref a = Value.ref b) = false := decide_eq_false fun q => h (Value.ref.inj q)
theorem own_refeq (a : Addr) : decide (Value.ref a = Value.ref a) = true := decide_eq_true rfl
theorem own_rn (a : Addr) : decide (Value.ref a = Value.null) = false := decide_eq_false fun q => by cases q
theorem own_nr (a : Addr) : decide (Value.null = Value.ref a) = false := decide_eq_false fun q => by cases q
theorem own_narb (x : Int32) : nar .byte (x.toInt8.toInt32) = x.toInt8.toInt32 := by simp [nar]
theorem own_selp {Z s : State} {a0 args : Array Value} {y : MethodName} {n : Nat} (hZ : Z.Warmed39 s.vm) (wi : (Jvm.Cond.instantiable y.cls n).before a0 Z = true) (wp : (Jvm.Cond.privateMethod y).before a0 Z = true) (wm : (Jvm.Cond.instanceMethod y).before a0 Z = true)
    (hy : y.cls ≠ "java/lang/invoke/MethodHandle" ∧ y.cls ≠ "java/lang/invoke/VarHandle") : (Jvm.Cond.selects y.cls y y).before args s = true := by
  obtain ⟨c, k, h1, h2, -, h4, -⟩ := Cond.instantiable_spec (mv hZ wi : (Jvm.Cond.instantiable y.cls n).before args s = true)
  exact selects_self_of_private h1 h2 (by revert h4; cases k.isInterface <;> simp) (Cond.privateMethod_at (mvP hZ wp (args := args))) (mv hZ wm) hy
theorem own_len {s : State} {args : Array Value} {t : Term} {a : Addr} {c : Cell} {ty : FieldType} {n : Int32} (ev : t.eval args s none [] s = some (.ref a)) (A : Arr s s.heap a c ty) (h : (Jvm.Cond.eq (Term.length t) (Term.int n)).value args s none s [] = some true) : c.slots.size < 2 ^ 31 ∧ c.slots.size.toInt32 = n := by
  have e1 := eqv_i (Term.int_eval n) h
  have hA := A.fin (Vm.Alike.refl _)
  have hs : c.slots.size < 2 ^ 31 := by
    refine Nat.lt_of_not_le fun q => ?_
    simp [Term.eval, ev, hA, Nat.not_lt.mpr q] at e1
  exact ⟨hs, by have := (len_f ev hA hs).symm.trans e1; simpa using this⟩
theorem own_monoW {s : State} {o : Outcome} {t : State} {L : List Loc} {k n k' n' : Nat} (h : ReturnedEndW s o t L k n) (hk : k ≤ k') (hn : n ≤ n') : ReturnedEndW s o t L k' n' := ⟨h.1, h.2.1, h.2.2.1, h.2.2.2.mono hk hn⟩
theorem own_newlt {a b k : Nat} (q : a < k) (g : k ≤ b) : a ≠ b := Nat.ne_of_lt (Nat.lt_of_lt_of_le q g)
theorem own_sz {Z : State} {n0 : Nat} {h : Heap} (O : Old Z n0 h) : n0 ≤ h.size := O.1 ▸ O.2.1
theorem own_newne {a b : Addr} {h : Heap} (g : b = h.size) (q : a < h.size) : a ≠ b := fun z => by rw [z, g] at q; exact Nat.lt_irrefl _ q
def own_val (j : Int32) : Value := .long (j - 128).toInt64
def OwnFacts (Z : State) (aC : Addr) (cC : Cell) : Prop := (Sta Z Z.heap "java/lang/Long$LongCache" "cache" "[Ljava/lang/Long;" (.ref aC)) ∧ (Bxs Z aC cC "java/lang/Long" "J" (256 : Int32) own_val)
theorem own_bx {s : State} {args : Array Value} {a : Addr} {c : Cell} (ev : (Term.static "java/lang/Long$LongCache" "cache" "[Ljava/lang/Long;").eval args s none [] s = some (.ref a)) (A : Arr s s.heap a c (.object "java/lang/Long"))
    (hl : (Jvm.Cond.eq (Term.length (Term.static "java/lang/Long$LongCache" "cache" "[Ljava/lang/Long;")) (Term.int 256)).value args s none s [] = some true)
    (h : (Jvm.Cond.all (Term.static "java/lang/Long$LongCache" "cache" "[Ljava/lang/Long;") (.and (.exactly (.elem (Term.static "java/lang/Long$LongCache" "cache" "[Ljava/lang/Long;") (.index 0)) "java/lang/Long") (.eq (.field (.elem (Term.static "java/lang/Long$LongCache" "cache" "[Ljava/lang/Long;") (.index 0)) "java/lang/Long" "value" "J") (.op1 .i2l (.sub (.index 0) (.int 128)))))).value args s none s [] = some true) :
    Bxs s a c "java/lang/Long" "J" (256 : Int32) own_val := by
  have e1 := own_len ev A hl
  refine Bxs.start (fun _ => ev) A e1.1 e1.2 (by decide) h (fun X j hj hq => ?_)
  exact eqv_l (i2l_at (Term.sub_int (idx_at hj) (Term.int_eval 128))) hq
theorem own_idx {q : Int64} {c : Cell} (h1 : ¬ q < (-128 : Int64)) (h2 : ¬ (127 : Int64) < q) (S : c.slots.size = (256 : Int32).toNatClampNeg) : ¬ ((q.toInt32 + (128 : Int32)) < 0 ∨ c.slots.size ≤ (q.toInt32 + (128 : Int32)).toNatClampNeg) := by
  refine inb_of S ?_
  rw [Int64.lt_iff_toInt_lt] at h1 h2
  have c1 : (-128 : Int64).toInt = -128 := by decide
  have c2 : (127 : Int64).toInt = 127 := by decide
  have c3 : (128 : Int32).toInt = 128 := by decide
  have c4 : (256 : Int32).toInt = 256 := by decide
  have c5 : (0 : Int32).toInt = 0 := by decide
  have e1 : q.toInt32.toInt = q.toInt := Jvm.Kit.i32_of_i64 (by omega) (by omega)
  have e2 : (q.toInt32 + (128 : Int32)).toInt = q.toInt + 128 := by rw [Jvm.Kit.i32_add, e1, c3] <;> omega
  rw [Int32.lt_iff_toInt_lt, Int32.lt_iff_toInt_lt, e2, c4, c5]
  omega
theorem own_long {Z : State} {a0 : Array Value} {n : Nat} (w : (Jvm.Cond.superclass "java/lang/Long" "java/lang/Number").before a0 Z = true) (w2 : (Jvm.Cond.superclass "java/lang/Number" "java/lang/Object").before a0 Z = true) (w3 : (Jvm.Cond.noSuperclass "java/lang/Object").before a0 Z = true) (wi : (Jvm.Cond.instantiable "com/example/exdel/exdel/MessageId" n).before a0 Z = true) :
    ∃ c t, Z.vm.findClass "java/lang/Long" = some c ∧ Z.vm.findClass "com/example/exdel/exdel/MessageId" = some t ∧ Z.vm.assignable c t = false := by
  obtain ⟨t, kt, t1, t2, t3, t4, -⟩ := Cond.instantiable_spec wi
  obtain ⟨c, c1⟩ := found_sup w
  obtain ⟨b, b1⟩ := found_sup w2
  obtain ⟨p, k, kp, h1, h2, h3, h4, h5, -, h7⟩ := Cond.superclass_spec c1 w
  obtain ⟨p', k', kp', g1, g2, g3, g4, g5, -, g7⟩ := Cond.superclass_spec b1 w2
  obtain ⟨o, ko, o1, o2, o3, -, -⟩ := Cond.noSuperclass_spec w3
  cases b1.symm.trans h1
  cases o1.symm.trans g1
  have n1 := ids_ne c1 t1 (by decide)
  have n2 := ids_ne b1 t1 (by decide)
  have n3 := ids_ne o1 t1 (by decide)
  have t5 : kt.isInterface = false := by revert t4; cases kt.isInterface <;> simp
  have sub : ∀ fuel, Z.vm.isSubclassAux fuel c t = false := by
    intro fuel
    rcases fuel with _ | _ | _ | fuel <;> simp [Vm.isSubclassAux, n1, n2, n3, h2, h4, g2, g4, o2, o3]
  refine ⟨c, t, c1, t1, ?_⟩
  show Z.vm.assignableAux (255 + 1) c t = false
  simp [Vm.assignableAux, n1, h2, t2, h5, t3, t5, Vm.isSubclass, sub]
theorem d_jdk_18_method_1_0 : decode jdk_18_method_1_code 0 = .ok (.aload_n 0, 1) := by decide +kernel
theorem d_jdk_18_method_1_1 : decode jdk_18_method_1_code 1 = .ok (.invokespecial 1, 3) := by decide +kernel
theorem d_jdk_18_method_1_4 : decode jdk_18_method_1_code 4 = .ok (.return_, 1) := by decide +kernel
theorem pn_java_lang_Number : plainName "java/lang/Number" = true := by first | (simp [plainName, overriddenIn]; done) | decide +kernel
def Q_number (Z : State) (aC : Addr) (cC : Cell) (a1 : Addr) (h0 : Heap) (n0 : Nat) (v : Option Value) (h : Heap) (L : List Loc) : Prop := v = none ∧ Fr n0 L ∧ h = h0
theorem ef_number (m : MethodId) (x0 : Addr) : entryFrame m #[(.ref x0)] 1 = mkF m 0 #[.val (.ref x0)] [] := by first | (simp [entryFrame, mkF, argsToLocals, Value.category]; done) | rfl
set_option maxRecDepth 65536 in
set_option maxHeartbeats 40000000 in
theorem rm_number (l : Launch) (Z : State) (a0 : Array Value) (hw : ∀ d ∈ tables_1, d.before a0 Z = true) (ws : List Jvm.Cond) (aC : Addr) (cC : Cell) (F0 : OwnFacts Z aC cC) (a1 : Addr) (h0 : Heap) (n0 : Nat) (O0 : Old Z n0 h0) :
    MetFree l (⟨"java/lang/Number", "<init>", "()V"⟩ : MethodName) (head1 (Jvm.Cond.code (⟨"java/lang/Number", "<init>", "()V"⟩ : MethodName) jdk_18_method_1_code 1 none :: ws) ({ frames := 1, cells := 0, slots := 0, locals := 12 } : Room)) (fun a U => a = #[(.ref a1)] ∧ Z.Warmed39 U.vm ∧ U.heap = h0) (fun _ _ _ _ _ => True) (fun _ U o U' => ∃ v L, o = .returned v ∧ Q_number Z aC cC a1 h0 n0 v U'.heap L ∧ FrameEnd U o U' L ({ frames := 1, cells := 0, slots := 0, locals := 12 } : Room).cells ({ frames := 1, cells := 0, slots := 0, locals := 12 } : Room).slots) := by
  refine MetFree.of_bodySF (plainFor_of_name pn_java_lang_Number) hisR ?_
  intro p e s m args below meth c s₁ Bd hml0 hP hK
  obtain ⟨rfl, hZ, hh⟩ := hP
  have hx := Bd.exec
  have hby := Bd.bytes
  have hml : c.maxLocals = 1 := hml0
  have hown : s.vm.findClass "java/lang/Number" = some m.cls := findClass_of_methodNamed Bd.named
  have hnm := (name_of_methodNamed Bd.named Bd.method).1
  have X0 : Stand p l e ({ frames := 1, cells := 0, slots := 0, locals := 12 } : Room) s m #[(.ref a1)] below meth c s₁ [] 0 0 := Stand.of_body Bd
  have e0 : s₁.heap = h0 := by rw [← hh, Bd.state]; rfl
  have N0 := Fr.nil n0
  refine own_go (Q := fun o U' => ∃ v L, o = .returned v ∧ Q_number Z aC cC a1 h0 n0 v U'.heap L ∧ FrameEnd s o U' L ({ frames := 1, cells := 0, slots := 0, locals := 12 } : Room).cells ({ frames := 1, cells := 0, slots := 0, locals := 12 } : Room).slots) (fun t k => castTop (ef_number m a1) k) ?_
  show OwnGo p e below _ (s₁.setTop (mkF m 0 #[.val (.ref a1)] []))
  refine own_go (fun _ k => XS.aloadN X0.here hx rfl (hb hby d_jdk_18_method_1_0) rfl rfl k) ?_
  show OwnGo p e below _ (s₁.setTop (mkF m 1 #[.val (.ref a1)] [(.ref a1)]))
  obtain ⟨T1, X1, e1, st1⟩ := initO X0 hx hZ hown (hw _ (List.mem_of_getElem? (i := 36) rfl)) (hw _ (List.mem_of_getElem? (i := 7) rfl)) (hw _ (List.mem_of_getElem? (i := 8) rfl)) e0 (g := (mkF m 1 #[.val (.ref a1)] [(.ref a1)])) rfl (by rw [hml]; rfl) rfl (hb hby d_jdk_18_method_1_1) (by decide) (W := 0) (by show 2 * 0 + _ ≤ _; exact Nat.le_of_eq rfl) (by decide)
  refine own_go st1 ?_
  show OwnGo p e below _ (T1.setTop (mkF m 4 #[.val (.ref a1)] []))
  obtain ⟨fs, hr, hrun, hended, hW, hsame⟩ := X1.leave (v := none) (fun h => rfl)
  refine ⟨_, _, X1.returnOut hx Bd.returns (hb hby d_jdk_18_method_1_4) hr, hrun, hended, _, _, rfl, ?_, ⟨_, rfl⟩, hW, hsame.mono (by decide) (by decide)⟩
  show Q_number Z aC cC a1 h0 n0 _ T1.heap _
  rw [e1]
  exact ⟨rfl, N0, rfl⟩
theorem d_prog_8_method_1_0 : decode prog_8_method_1_code 0 = .ok (.aload_n 0, 1) := by decide +kernel
theorem d_prog_8_method_1_1 : decode prog_8_method_1_code 1 = .ok (.invokespecial 1, 3) := by decide +kernel
theorem d_prog_8_method_1_4 : decode prog_8_method_1_code 4 = .ok (.aload_n 0, 1) := by decide +kernel
theorem d_prog_8_method_1_5 : decode prog_8_method_1_code 5 = .ok (.lload_n 1, 1) := by decide +kernel
theorem d_prog_8_method_1_6 : decode prog_8_method_1_code 6 = .ok (.putfield 7, 3) := by decide +kernel
theorem d_prog_8_method_1_9 : decode prog_8_method_1_code 9 = .ok (.return_, 1) := by decide +kernel
theorem pn_com_example_exdel_exdel_MessageId : plainName "com/example/exdel/exdel/MessageId" = true := by first | (simp [plainName, overriddenIn]; done) | decide +kernel
def Q_mi (Z : State) (aC : Addr) (cC : Cell) (a1 : Addr) (q2 : Int64) (h0 : Heap) (n0 : Nat) (v : Option Value) (h : Heap) (L : List Loc) : Prop := v = none ∧ Fr n0 L ∧ Keep h0 h [a1] ∧ Fld Z h a1 "com/example/exdel/exdel/MessageId" "value" "J" (.long q2)
theorem ef_mi (m : MethodId) (x0 : Addr) (x1 : Int64) : entryFrame m #[(.ref x0), (.long x1)] 3 = mkF m 0 #[.val (.ref x0), .val (.long x1), .second] [] := by first | (simp [entryFrame, mkF, argsToLocals, Value.category]; done) | rfl
set_option maxRecDepth 65536 in
set_option maxHeartbeats 40000000 in
theorem rm_mi (l : Launch) (Z : State) (a0 : Array Value) (hw : ∀ d ∈ tables_1, d.before a0 Z = true) (ws : List Jvm.Cond) (aC : Addr) (cC : Cell) (F0 : OwnFacts Z aC cC) (a1 : Addr) (q2 : Int64) (h0 : Heap) (n0 : Nat) (O0 : Old Z n0 h0) (PF1 : Fld Z h0 a1 "com/example/exdel/exdel/MessageId" "value" "J" (.long (0 : Int64))) (PE1 : Exa Z h0 a1 "com/example/exdel/exdel/MessageId") (pg1 : n0 ≤ a1) :
    MetFree l (⟨"com/example/exdel/exdel/MessageId", "<init>", "(J)V"⟩ : MethodName) (head1 (Jvm.Cond.code (⟨"com/example/exdel/exdel/MessageId", "<init>", "(J)V"⟩ : MethodName) prog_8_method_1_code 3 none :: ws) ({ frames := 1, cells := 0, slots := 0, locals := 12 } : Room)) (fun a U => a = #[(.ref a1), (.long q2)] ∧ Z.Warmed39 U.vm ∧ U.heap = h0) (fun _ _ _ _ _ => True) (fun _ U o U' => ∃ v L, o = .returned v ∧ Q_mi Z aC cC a1 q2 h0 n0 v U'.heap L ∧ FrameEnd U o U' L ({ frames := 1, cells := 0, slots := 0, locals := 12 } : Room).cells ({ frames := 1, cells := 0, slots := 0, locals := 12 } : Room).slots) := by
  refine MetFree.of_bodySF (plainFor_of_name pn_com_example_exdel_exdel_MessageId) hisR ?_
  intro p e s m args below meth c s₁ Bd hml0 hP hK
  obtain ⟨rfl, hZ, hh⟩ := hP
  have hx := Bd.exec
  have hby := Bd.bytes
  have hml : c.maxLocals = 3 := hml0
  have hown : s.vm.findClass "com/example/exdel/exdel/MessageId" = some m.cls := findClass_of_methodNamed Bd.named
  have hnm := (name_of_methodNamed Bd.named Bd.method).1
  have X0 : Stand p l e ({ frames := 1, cells := 0, slots := 0, locals := 12 } : Room) s m #[(.ref a1), (.long q2)] below meth c s₁ [] 0 0 := Stand.of_body Bd
  have e0 : s₁.heap = h0 := by rw [← hh, Bd.state]; rfl
  have N0 := Fr.nil n0
  refine own_go (Q := fun o U' => ∃ v L, o = .returned v ∧ Q_mi Z aC cC a1 q2 h0 n0 v U'.heap L ∧ FrameEnd s o U' L ({ frames := 1, cells := 0, slots := 0, locals := 12 } : Room).cells ({ frames := 1, cells := 0, slots := 0, locals := 12 } : Room).slots) (fun t k => castTop (ef_mi m a1 q2) k) ?_
  show OwnGo p e below _ (s₁.setTop (mkF m 0 #[.val (.ref a1), .val (.long q2), .second] []))
  refine own_go (fun _ k => XS.aloadN X0.here hx rfl (hb hby d_prog_8_method_1_0) rfl rfl k) ?_
  show OwnGo p e below _ (s₁.setTop (mkF m 1 #[.val (.ref a1), .val (.long q2), .second] [(.ref a1)]))
  obtain ⟨T2, X2, e2, st2⟩ := initO X0 hx hZ hown (hw _ (List.mem_of_getElem? (i := 6) rfl)) (hw _ (List.mem_of_getElem? (i := 7) rfl)) (hw _ (List.mem_of_getElem? (i := 8) rfl)) e0 (g := (mkF m 1 #[.val (.ref a1), .val (.long q2), .second] [(.ref a1)])) rfl (by rw [hml]; rfl) rfl (hb hby d_prog_8_method_1_1) (by decide) (W := 0) (by show 2 * 0 + _ ≤ _; exact Nat.le_of_eq rfl) (by decide)
  refine own_go st2 ?_
  show OwnGo p e below _ (T2.setTop (mkF m 4 #[.val (.ref a1), .val (.long q2), .second] []))
  refine own_go (fun _ k => XS.aloadN X2.here hx rfl (hb hby d_prog_8_method_1_4) rfl rfl k) ?_
  show OwnGo p e below _ (T2.setTop (mkF m 5 #[.val (.ref a1), .val (.long q2), .second] [(.ref a1)]))
  refine own_go (fun _ k => XS.lloadN X2.here hx rfl (hb hby d_prog_8_method_1_5) rfl k) ?_
  show OwnGo p e below _ (T2.setTop (mkF m 6 #[.val (.ref a1), .val (.long q2), .second] [(.long q2), (.ref a1)]))
  obtain ⟨T3, h3, X3, e3, W3, st3⟩ := putF X2 hx hZ hown (host := "") (Or.inl (hw _ (List.mem_of_getElem? (i := 9) rfl))) Via.refl e2 PF1 PE1 (Or.inr ⟨(hw _ (List.mem_of_getElem? (i := 10) rfl)), rfl, hnm⟩) (hw _ (List.mem_of_getElem? (i := 1) rfl)) (ty := .long) (by decide) rfl rfl (g := (mkF m 6 #[.val (.ref a1), .val (.long q2), .second] [(.long q2), (.ref a1)])) rfl rfl (hb hby d_prog_8_method_1_6)
  have N3 := Fr.snoc X3 N0 pg1
  have O3 := O0.wr W3 pg1
  have z4 : h0.size ≤ h3.size := Nat.le_trans (Nat.le_refl _) (Nat.le_of_eq W3.size.symm)
  have F3 : Fld Z h3 a1 "com/example/exdel/exdel/MessageId" "value" "J" (.long q2) := PF1.same W3
  refine own_go st3 ?_
  show OwnGo p e below _ (T3.setTop (mkF m 9 #[.val (.ref a1), .val (.long q2), .second] []))
  obtain ⟨fs, hr, hrun, hended, hW, hsame⟩ := X3.leave (v := none) (fun h => rfl)
  refine ⟨_, _, X3.returnOut hx Bd.returns (hb hby d_prog_8_method_1_9) hr, hrun, hended, _, _, rfl, ?_, ⟨_, rfl⟩, hW, hsame.mono (by decide) (by decide)⟩
  show Q_mi Z aC cC a1 q2 h0 n0 _ T3.heap _
  rw [e3]
  exact ⟨rfl, N3, ((Keep.refl _ [a1]).wr W3 (Or.inl (List.mem_of_getElem? (i := 0) rfl))), F3⟩
theorem d_jdk_35_method_26_0 : decode jdk_35_method_26_code 0 = .ok (.aload_n 0, 1) := by decide +kernel
theorem d_jdk_35_method_26_1 : decode jdk_35_method_26_code 1 = .ok (.invokespecial 270, 3) := by decide +kernel
theorem pd___V : parseMethodDescriptor "()V" = some ⟨[], none⟩ := by decide +kernel
theorem d_jdk_35_method_26_4 : decode jdk_35_method_26_code 4 = .ok (.aload_n 0, 1) := by decide +kernel
theorem d_jdk_35_method_26_5 : decode jdk_35_method_26_code 5 = .ok (.lload_n 1, 1) := by decide +kernel
theorem d_jdk_35_method_26_6 : decode jdk_35_method_26_code 6 = .ok (.putfield 273, 3) := by decide +kernel
theorem d_jdk_35_method_26_9 : decode jdk_35_method_26_code 9 = .ok (.return_, 1) := by decide +kernel
theorem pn_java_lang_Long : plainName "java/lang/Long" = true := by first | (simp [plainName, overriddenIn]; done) | decide +kernel
def Q_li (Z : State) (aC : Addr) (cC : Cell) (a1 : Addr) (q2 : Int64) (h0 : Heap) (n0 : Nat) (v : Option Value) (h : Heap) (L : List Loc) : Prop := v = none ∧ Fr n0 L ∧ Keep h0 h [a1] ∧ Fld Z h a1 "java/lang/Long" "value" "J" (.long q2)
theorem ef_li (m : MethodId) (x0 : Addr) (x1 : Int64) : entryFrame m #[(.ref x0), (.long x1)] 3 = mkF m 0 #[.val (.ref x0), .val (.long x1), .second] [] := by first | (simp [entryFrame, mkF, argsToLocals, Value.category]; done) | rfl
set_option maxRecDepth 65536 in
set_option maxHeartbeats 40000000 in
theorem rm_li (l : Launch) (Z : State) (a0 : Array Value) (hw : ∀ d ∈ tables_1, d.before a0 Z = true) (ws : List Jvm.Cond) (aC : Addr) (cC : Cell) (F0 : OwnFacts Z aC cC) (a1 : Addr) (q2 : Int64) (h0 : Heap) (n0 : Nat) (O0 : Old Z n0 h0) (PF1 : Fld Z h0 a1 "java/lang/Long" "value" "J" (.long (0 : Int64))) (PE1 : Exa Z h0 a1 "java/lang/Long") (pg1 : n0 ≤ a1) :
    MetFree l (⟨"java/lang/Long", "<init>", "(J)V"⟩ : MethodName) (head1 (Jvm.Cond.code (⟨"java/lang/Long", "<init>", "(J)V"⟩ : MethodName) jdk_35_method_26_code 3 none :: ws) ({ frames := 2, cells := 0, slots := 0, locals := 24 } : Room)) (fun a U => a = #[(.ref a1), (.long q2)] ∧ Z.Warmed39 U.vm ∧ U.heap = h0) (fun _ _ _ _ _ => True) (fun _ U o U' => ∃ v L, o = .returned v ∧ Q_li Z aC cC a1 q2 h0 n0 v U'.heap L ∧ FrameEnd U o U' L ({ frames := 2, cells := 0, slots := 0, locals := 24 } : Room).cells ({ frames := 2, cells := 0, slots := 0, locals := 24 } : Room).slots) := by
  refine MetFree.of_bodySF (plainFor_of_name pn_java_lang_Long) hisR ?_
  intro p e s m args below meth c s₁ Bd hml0 hP hK
  obtain ⟨rfl, hZ, hh⟩ := hP
  have hx := Bd.exec
  have hby := Bd.bytes
  have hml : c.maxLocals = 3 := hml0
  have hown : s.vm.findClass "java/lang/Long" = some m.cls := findClass_of_methodNamed Bd.named
  have hnm := (name_of_methodNamed Bd.named Bd.method).1
  have X0 : Stand p l e ({ frames := 2, cells := 0, slots := 0, locals := 24 } : Room) s m #[(.ref a1), (.long q2)] below meth c s₁ [] 0 0 := Stand.of_body Bd
  have e0 : s₁.heap = h0 := by rw [← hh, Bd.state]; rfl
  have N0 := Fr.nil n0
  refine own_go (Q := fun o U' => ∃ v L, o = .returned v ∧ Q_li Z aC cC a1 q2 h0 n0 v U'.heap L ∧ FrameEnd s o U' L ({ frames := 2, cells := 0, slots := 0, locals := 24 } : Room).cells ({ frames := 2, cells := 0, slots := 0, locals := 24 } : Room).slots) (fun t k => castTop (ef_li m a1 q2) k) ?_
  show OwnGo p e below _ (s₁.setTop (mkF m 0 #[.val (.ref a1), .val (.long q2), .second] []))
  refine own_go (fun _ k => XS.aloadN X0.here hx rfl (hb hby d_jdk_35_method_26_0) rfl rfl k) ?_
  show OwnGo p e below _ (s₁.setTop (mkF m 1 #[.val (.ref a1), .val (.long q2), .second] [(.ref a1)]))
  obtain ⟨_, _, ⟨T5, L5, k5, n5⟩, -, X5, ⟨Lc5, hQ5, l5, y5, z5⟩, st5⟩ := X0.specialBack hx (y := (⟨"java/lang/Number", "<init>", "()V"⟩ : MethodName)) rfl hown (mvT hZ (hw _ (List.mem_of_getElem? (i := 30) rfl))) (mvT hZ (hw _ (List.mem_of_getElem? (i := 31) rfl))) (mvT hZ (hw _ (List.mem_of_getElem? (i := 35) rfl))) (by decide) (backOf (W := 0) (rm_number l Z a0 hw [] aC cC F0 a1 h0 n0 O0) hZ (hw _ (List.mem_of_getElem? (i := 35) rfl)) (hw _ (List.mem_of_getElem? (i := 34) rfl)) (by decide) (by decide)) (g := (mkF m 1 #[.val (.ref a1), .val (.long q2), .second] [(.ref a1)])) rfl (by rw [hml]; rfl) (Steps.refl _) (a := a1) (argsL := []) (rest := []) (lenOf pd___V rfl) rfl (by show 2 * 0 + _ ≤ _; exact Nat.le_of_eq rfl) (hb hby d_jdk_35_method_26_1) (fun _ _ => ⟨rfl, e0, (by decide : 0 + 0 ≤ _), (by decide : 0 + 0 ≤ _)⟩)
  dsimp only [Pt.U, Pt.locs, Pt.cells, Pt.slots] at X5 l5 y5 z5 st5 hQ5
  subst l5 y5 z5
  obtain ⟨rfl, Nq5, K5⟩ := hQ5
  have N5 := Fr.app N0 Nq5
  refine own_go (fun _ k => st5.trans k) ?_
  show OwnGo p e below _ (T5.setTop (mkF m 4 #[.val (.ref a1), .val (.long q2), .second] []))
  refine own_go (fun _ k => XS.aloadN X5.here hx rfl (hb hby d_jdk_35_method_26_4) rfl rfl k) ?_
  show OwnGo p e below _ (T5.setTop (mkF m 5 #[.val (.ref a1), .val (.long q2), .second] [(.ref a1)]))
  refine own_go (fun _ k => XS.lloadN X5.here hx rfl (hb hby d_jdk_35_method_26_5) rfl k) ?_
  show OwnGo p e below _ (T5.setTop (mkF m 6 #[.val (.ref a1), .val (.long q2), .second] [(.long q2), (.ref a1)]))
  obtain ⟨T6, h6, X6, e6, W6, st6⟩ := putF X5 hx hZ hown (host := "") (Or.inl (hw _ (List.mem_of_getElem? (i := 37) rfl))) Via.refl K5 PF1 PE1 (Or.inr ⟨(hw _ (List.mem_of_getElem? (i := 38) rfl)), rfl, hnm⟩) (hw _ (List.mem_of_getElem? (i := 25) rfl)) (ty := .long) (by decide) rfl rfl (g := (mkF m 6 #[.val (.ref a1), .val (.long q2), .second] [(.long q2), (.ref a1)])) rfl rfl (hb hby d_jdk_35_method_26_6)
  have N6 := Fr.snoc X6 N5 pg1
  have O6 := O0.wr W6 pg1
  have z7 : h0.size ≤ h6.size := Nat.le_trans (Nat.le_refl _) (Nat.le_of_eq W6.size.symm)
  have F6 : Fld Z h6 a1 "java/lang/Long" "value" "J" (.long q2) := PF1.same W6
  refine own_go st6 ?_
  show OwnGo p e below _ (T6.setTop (mkF m 9 #[.val (.ref a1), .val (.long q2), .second] []))
  obtain ⟨fs, hr, hrun, hended, hW, hsame⟩ := X6.leave (v := none) (fun h => rfl)
  refine ⟨_, _, X6.returnOut hx Bd.returns (hb hby d_jdk_35_method_26_9) hr, hrun, hended, _, _, rfl, ?_, ⟨_, rfl⟩, hW, hsame.mono (by decide) (by decide)⟩
  show Q_li Z aC cC a1 q2 h0 n0 _ T6.heap _
  rw [e6]
  exact ⟨rfl, N6, ((Keep.refl _ [a1]).wr W6 (Or.inl (List.mem_of_getElem? (i := 0) rfl))), F6⟩
theorem d_jdk_35_method_24_0 : decode jdk_35_method_24_code 0 = .ok (.sipush 128, 3) := by decide +kernel
theorem d_jdk_35_method_24_3 : decode jdk_35_method_24_code 3 = .ok (.istore_n 2, 1) := by decide +kernel
theorem d_jdk_35_method_24_4 : decode jdk_35_method_24_code 4 = .ok (.lload_n 0, 1) := by decide +kernel
theorem d_jdk_35_method_24_5 : decode jdk_35_method_24_code 5 = .ok (.ldc2_w 230, 3) := by decide +kernel
theorem d_jdk_35_method_24_8 : decode jdk_35_method_24_code 8 = .ok (.lcmp, 1) := by decide +kernel
theorem d_jdk_35_method_24_9 : decode jdk_35_method_24_code 9 = .ok (.ifCond .lt 22, 3) := by decide +kernel
theorem d_jdk_35_method_24_31 : decode jdk_35_method_24_code 31 = .ok (.new 1, 3) := by decide +kernel
theorem d_jdk_35_method_24_34 : decode jdk_35_method_24_code 34 = .ok (.dup, 1) := by decide +kernel
theorem d_jdk_35_method_24_35 : decode jdk_35_method_24_code 35 = .ok (.lload_n 0, 1) := by decide +kernel
theorem d_jdk_35_method_24_36 : decode jdk_35_method_24_code 36 = .ok (.invokespecial 240, 3) := by decide +kernel
theorem pd_J__V : parseMethodDescriptor "(J)V" = some ⟨[.long], none⟩ := by decide +kernel
theorem d_jdk_35_method_24_39 : decode jdk_35_method_24_code 39 = .ok (.areturn, 1) := by decide +kernel
theorem d_jdk_35_method_24_12 : decode jdk_35_method_24_code 12 = .ok (.lload_n 0, 1) := by decide +kernel
theorem d_jdk_35_method_24_13 : decode jdk_35_method_24_code 13 = .ok (.ldc2_w 232, 3) := by decide +kernel
theorem d_jdk_35_method_24_16 : decode jdk_35_method_24_code 16 = .ok (.lcmp, 1) := by decide +kernel
theorem d_jdk_35_method_24_17 : decode jdk_35_method_24_code 17 = .ok (.ifCond .gt 14, 3) := by decide +kernel
theorem d_jdk_35_method_24_20 : decode jdk_35_method_24_code 20 = .ok (.getstatic 234, 3) := by decide +kernel
theorem d_jdk_35_method_24_23 : decode jdk_35_method_24_code 23 = .ok (.lload_n 0, 1) := by decide +kernel
theorem d_jdk_35_method_24_24 : decode jdk_35_method_24_code 24 = .ok (.l2i, 1) := by decide +kernel
theorem d_jdk_35_method_24_25 : decode jdk_35_method_24_code 25 = .ok (.sipush 128, 3) := by decide +kernel
theorem d_jdk_35_method_24_28 : decode jdk_35_method_24_code 28 = .ok (.iadd, 1) := by decide +kernel
theorem d_jdk_35_method_24_29 : decode jdk_35_method_24_code 29 = .ok (.aaload, 1) := by decide +kernel
theorem d_jdk_35_method_24_30 : decode jdk_35_method_24_code 30 = .ok (.areturn, 1) := by decide +kernel
def Q_vo (Z : State) (aC : Addr) (cC : Cell) (q1 : Int64) (h0 : Heap) (n0 : Nat) (v : Option Value) (h : Heap) (L : List Loc) : Prop := ∃ (r9 : Addr), v = some (.ref r9) ∧ Fr n0 L ∧ Keep h0 h [] ∧ Exa Z h r9 "java/lang/Long"
theorem ef_vo (m : MethodId) (x0 : Int64) : entryFrame m #[(.long x0)] 3 = mkF m 0 #[.val (.long x0), .second, .unset] [] := by first | (simp [entryFrame, mkF, argsToLocals, Value.category]; done) | rfl
set_option maxRecDepth 65536 in
set_option maxHeartbeats 40000000 in
theorem rm_vo (l : Launch) (Z : State) (a0 : Array Value) (hw : ∀ d ∈ tables_1, d.before a0 Z = true) (ws : List Jvm.Cond) (aC : Addr) (cC : Cell) (F0 : OwnFacts Z aC cC) (q1 : Int64) (h0 : Heap) (n0 : Nat) (O0 : Old Z n0 h0) :
    MetFree l (⟨"java/lang/Long", "valueOf", "(J)Ljava/lang/Long;"⟩ : MethodName) (head1 (Jvm.Cond.code (⟨"java/lang/Long", "valueOf", "(J)Ljava/lang/Long;"⟩ : MethodName) jdk_35_method_24_code 3 (some (.object "java/lang/Long")) :: ws) ({ frames := 3, cells := 1, slots := 1, locals := 39 } : Room)) (fun a U => a = #[(.long q1)] ∧ Z.Warmed39 U.vm ∧ U.heap = h0) (fun _ _ _ _ _ => True) (fun _ U o U' => ∃ v L, o = .returned v ∧ Q_vo Z aC cC q1 h0 n0 v U'.heap L ∧ FrameEnd U o U' L ({ frames := 3, cells := 1, slots := 1, locals := 39 } : Room).cells ({ frames := 3, cells := 1, slots := 1, locals := 39 } : Room).slots) := by
  refine MetFree.of_bodySF (plainFor_of_name pn_java_lang_Long) hisR ?_
  intro p e s m args below meth c s₁ Bd hml0 hP hK
  obtain ⟨rfl, hZ, hh⟩ := hP
  have hx := Bd.exec
  have hby := Bd.bytes
  have hml : c.maxLocals = 3 := hml0
  have hown : s.vm.findClass "java/lang/Long" = some m.cls := findClass_of_methodNamed Bd.named
  have hnm := (name_of_methodNamed Bd.named Bd.method).1
  have X0 : Stand p l e ({ frames := 3, cells := 1, slots := 1, locals := 39 } : Room) s m #[(.long q1)] below meth c s₁ [] 0 0 := Stand.of_body Bd
  have e0 : s₁.heap = h0 := by rw [← hh, Bd.state]; rfl
  have N0 := Fr.nil n0
  refine own_go (Q := fun o U' => ∃ v L, o = .returned v ∧ Q_vo Z aC cC q1 h0 n0 v U'.heap L ∧ FrameEnd s o U' L ({ frames := 3, cells := 1, slots := 1, locals := 39 } : Room).cells ({ frames := 3, cells := 1, slots := 1, locals := 39 } : Room).slots) (fun t k => castTop (ef_vo m q1) k) ?_
  show OwnGo p e below _ (s₁.setTop (mkF m 0 #[.val (.long q1), .second, .unset] []))
  refine own_go (fun _ k => XS.sipush X0.here hx rfl (hb hby d_jdk_35_method_24_0) k) ?_
  show OwnGo p e below _ (s₁.setTop (mkF m 3 #[.val (.long q1), .second, .unset] [(.int (128 : Int32))]))
  refine own_go (fun _ k => XS.istoreN X0.here hx rfl (hb hby d_jdk_35_method_24_3) rfl (l' := #[.val (.long q1), .second, .val (.int (128 : Int32))]) rfl k) ?_
  show OwnGo p e below _ (s₁.setTop (mkF m 4 #[.val (.long q1), .second, .val (.int (128 : Int32))] []))
  refine own_go (fun _ k => XS.lloadN X0.here hx rfl (hb hby d_jdk_35_method_24_4) rfl k) ?_
  show OwnGo p e below _ (s₁.setTop (mkF m 5 #[.val (.long q1), .second, .val (.int (128 : Int32))] [(.long q1)]))
  refine own_go (fun _ k => Jvm.Stand.ldc2J X0 hx hown (mvT hZ (hw _ (List.mem_of_getElem? (i := 22) rfl))) rfl (hb hby d_jdk_35_method_24_5) k) ?_
  show OwnGo p e below _ (s₁.setTop (mkF m 8 #[.val (.long q1), .second, .val (.int (128 : Int32))] [(.long (-128 : Int64)), (.long q1)]))
  refine own_go (fun _ k => XS.lcmp X0.here hx rfl (hb hby d_jdk_35_method_24_8) rfl k) ?_
  show OwnGo p e below _ (s₁.setTop (mkF m 9 #[.val (.long q1), .second, .val (.int (128 : Int32))] [(.int (lcmpW q1 (-128 : Int64)))]))
  by_cases hc8 : q1 < (-128 : Int64)
  · refine own_go (fun _ k => XS.ifYes X0.here hx rfl (pc0 := 9) (pc' := 31) rfl (hb hby d_jdk_35_method_24_9) rfl ((if0 _ _).trans (tlt ((lw_lt _ _).mpr hc8)).1) (by decide) (by decide) k) ?_
    show OwnGo p e below _ (s₁.setTop (mkF m 31 #[.val (.long q1), .second, .val (.int (128 : Int32))] []))
    obtain ⟨T9, h9, X9, e9, E9, A9, D9, -, st9⟩ := newO X0 hx hZ hown (hw _ (List.mem_of_getElem? (i := 24) rfl)) (hw _ (List.mem_of_getElem? (i := 25) rfl)) (hw _ (List.mem_of_getElem? (i := 20) rfl)) e0 (g := (mkF m 31 #[.val (.long q1), .second, .val (.int (128 : Int32))] [])) rfl (hb hby d_jdk_35_method_24_31) (by decide) (by decide)
    obtain ⟨a9, g9⟩ : ∃ z, z = h0.size := ⟨_, rfl⟩
    rw [← g9] at A9 D9 st9
    have ge9 : n0 ≤ a9 := Nat.le_trans (own_sz O0) (Nat.le_of_eq g9.symm)
    have gh9 : h0.size ≤ a9 := Nat.le_trans (Nat.le_refl _) (Nat.le_of_eq g9.symm)
    have O9 := O0.ext E9
    have z10 : h0.size ≤ h9.size := Nat.le_trans (Nat.le_refl _) E9.1
    have F11 : Fld Z h9 a9 "java/lang/Long" "value" "J" (.long (0 : Int64)) := D9 (Or.inr (hw _ (List.mem_of_getElem? (i := 38) rfl))) (ty := .long) (by decide)
    refine own_go st9 ?_
    show OwnGo p e below _ (T9.setTop (mkF m 34 #[.val (.long q1), .second, .val (.int (128 : Int32))] [(.ref a9)]))
    refine own_go (fun _ k => XS.dup X9.here hx rfl (hb hby d_jdk_35_method_24_34) rfl rfl k) ?_
    show OwnGo p e below _ (T9.setTop (mkF m 35 #[.val (.long q1), .second, .val (.int (128 : Int32))] [(.ref a9), (.ref a9)]))
    refine own_go (fun _ k => XS.lloadN X9.here hx rfl (hb hby d_jdk_35_method_24_35) rfl k) ?_
    show OwnGo p e below _ (T9.setTop (mkF m 36 #[.val (.long q1), .second, .val (.int (128 : Int32))] [(.long q1), (.ref a9), (.ref a9)]))
    obtain ⟨_, _, ⟨T12, L12, k12, n12⟩, -, X12, ⟨Lc12, hQ12, l12, y12, z12⟩, st12⟩ := X9.specialBack hx (y := (⟨"java/lang/Long", "<init>", "(J)V"⟩ : MethodName)) rfl hown (mvT hZ (hw _ (List.mem_of_getElem? (i := 26) rfl))) (mvT hZ (hw _ (List.mem_of_getElem? (i := 27) rfl))) (mvT hZ (hw _ (List.mem_of_getElem? (i := 29) rfl))) (by decide) (backOf (W := 1) (rm_li l Z a0 hw [] aC cC F0 a9 q1 h9 n0 O9 F11 A9 ge9) hZ (hw _ (List.mem_of_getElem? (i := 29) rfl)) (hw _ (List.mem_of_getElem? (i := 20) rfl)) (by decide) (by decide)) (g := (mkF m 36 #[.val (.long q1), .second, .val (.int (128 : Int32))] [(.long q1), (.ref a9), (.ref a9)])) rfl (by rw [hml]; rfl) (Steps.refl _) (a := a9) (argsL := [(.long q1)]) (rest := [(.ref a9)]) (lenOf pd_J__V rfl) rfl (by show 2 * 0 + _ ≤ _; exact Nat.le_of_eq rfl) (hb hby d_jdk_35_method_24_36) (fun _ _ => ⟨rfl, e9, (by decide : 1 + 0 ≤ _), (by decide : 1 + 0 ≤ _)⟩)
    dsimp only [Pt.U, Pt.locs, Pt.cells, Pt.slots] at X12 l12 y12 z12 st12 hQ12
    subst l12 y12 z12
    obtain ⟨rfl, Nq12, K12, x12_0⟩ := hQ12
    have N12 := Fr.app N0 Nq12
    have O12 := O9.keep K12 (allS ge9 all0)
    have e12 : T12.heap = T12.heap := rfl
    have z13 : h0.size ≤ T12.heap.size := Nat.le_trans z10 K12.1
    refine own_go (fun _ k => st12.trans k) ?_
    show OwnGo p e below _ (T12.setTop (mkF m 39 #[.val (.long q1), .second, .val (.int (128 : Int32))] [(.ref a9)]))
    obtain ⟨fs, hr, hrun, hended, hW, hsame⟩ := X12.leave (v := some (.ref a9)) (fun h => by rw [Bd.returns] at h; cases h)
    refine ⟨_, _, retOut X12 hx Bd.returns rfl (Or.inr (Or.inr (Or.inr (Or.inr ⟨rfl, rfl, rfl⟩)))) (hb hby d_jdk_35_method_24_39) hr, hrun, hended, _, _, rfl, ?_, ⟨_, rfl⟩, hW, hsame.mono (by decide) (by decide)⟩
    show Q_vo Z aC cC q1 h0 n0 _ T12.heap _
    rw [e12]
    have F14 := (A9.keep K12)
    exact ⟨a9, rfl, N12, (((Keep.refl _ []).ext E9).trans K12 (allS (P := fun x => x ∈ _ ∨ _ ≤ x) (Or.inr gh9) all0)), F14⟩
  · refine own_go (fun _ k => XS.ifNo X0.here hx rfl (hb hby d_jdk_35_method_24_9) rfl ((if0 _ _).trans (flt (mt (lw_lt _ _).mp hc8)).1) k) ?_
    show OwnGo p e below _ (s₁.setTop (mkF m 12 #[.val (.long q1), .second, .val (.int (128 : Int32))] []))
    refine own_go (fun _ k => XS.lloadN X0.here hx rfl (hb hby d_jdk_35_method_24_12) rfl k) ?_
    show OwnGo p e below _ (s₁.setTop (mkF m 13 #[.val (.long q1), .second, .val (.int (128 : Int32))] [(.long q1)]))
    refine own_go (fun _ k => Jvm.Stand.ldc2J X0 hx hown (mvT hZ (hw _ (List.mem_of_getElem? (i := 23) rfl))) rfl (hb hby d_jdk_35_method_24_13) k) ?_
    show OwnGo p e below _ (s₁.setTop (mkF m 16 #[.val (.long q1), .second, .val (.int (128 : Int32))] [(.long (127 : Int64)), (.long q1)]))
    refine own_go (fun _ k => XS.lcmp X0.here hx rfl (hb hby d_jdk_35_method_24_16) rfl k) ?_
    show OwnGo p e below _ (s₁.setTop (mkF m 17 #[.val (.long q1), .second, .val (.int (128 : Int32))] [(.int (lcmpW q1 (127 : Int64)))]))
    by_cases hc15 : (127 : Int64) < q1
    · refine own_go (fun _ k => XS.ifYes X0.here hx rfl (pc0 := 17) (pc' := 31) rfl (hb hby d_jdk_35_method_24_17) rfl ((if0 _ _).trans (tlt ((lw_gt _ _).mpr hc15)).2.2.1) (by decide) (by decide) k) ?_
      show OwnGo p e below _ (s₁.setTop (mkF m 31 #[.val (.long q1), .second, .val (.int (128 : Int32))] []))
      obtain ⟨T16, h16, X16, e16, E16, A16, D16, -, st16⟩ := newO X0 hx hZ hown (hw _ (List.mem_of_getElem? (i := 24) rfl)) (hw _ (List.mem_of_getElem? (i := 25) rfl)) (hw _ (List.mem_of_getElem? (i := 20) rfl)) e0 (g := (mkF m 31 #[.val (.long q1), .second, .val (.int (128 : Int32))] [])) rfl (hb hby d_jdk_35_method_24_31) (by decide) (by decide)
      obtain ⟨a16, g16⟩ : ∃ z, z = h0.size := ⟨_, rfl⟩
      rw [← g16] at A16 D16 st16
      have ge16 : n0 ≤ a16 := Nat.le_trans (own_sz O0) (Nat.le_of_eq g16.symm)
      have gh16 : h0.size ≤ a16 := Nat.le_trans (Nat.le_refl _) (Nat.le_of_eq g16.symm)
      have O16 := O0.ext E16
      have z17 : h0.size ≤ h16.size := Nat.le_trans (Nat.le_refl _) E16.1
      have F18 : Fld Z h16 a16 "java/lang/Long" "value" "J" (.long (0 : Int64)) := D16 (Or.inr (hw _ (List.mem_of_getElem? (i := 38) rfl))) (ty := .long) (by decide)
      refine own_go st16 ?_
      show OwnGo p e below _ (T16.setTop (mkF m 34 #[.val (.long q1), .second, .val (.int (128 : Int32))] [(.ref a16)]))
      refine own_go (fun _ k => XS.dup X16.here hx rfl (hb hby d_jdk_35_method_24_34) rfl rfl k) ?_
      show OwnGo p e below _ (T16.setTop (mkF m 35 #[.val (.long q1), .second, .val (.int (128 : Int32))] [(.ref a16), (.ref a16)]))
      refine own_go (fun _ k => XS.lloadN X16.here hx rfl (hb hby d_jdk_35_method_24_35) rfl k) ?_
      show OwnGo p e below _ (T16.setTop (mkF m 36 #[.val (.long q1), .second, .val (.int (128 : Int32))] [(.long q1), (.ref a16), (.ref a16)]))
      obtain ⟨_, _, ⟨T19, L19, k19, n19⟩, -, X19, ⟨Lc19, hQ19, l19, y19, z19⟩, st19⟩ := X16.specialBack hx (y := (⟨"java/lang/Long", "<init>", "(J)V"⟩ : MethodName)) rfl hown (mvT hZ (hw _ (List.mem_of_getElem? (i := 26) rfl))) (mvT hZ (hw _ (List.mem_of_getElem? (i := 27) rfl))) (mvT hZ (hw _ (List.mem_of_getElem? (i := 29) rfl))) (by decide) (backOf (W := 1) (rm_li l Z a0 hw [] aC cC F0 a16 q1 h16 n0 O16 F18 A16 ge16) hZ (hw _ (List.mem_of_getElem? (i := 29) rfl)) (hw _ (List.mem_of_getElem? (i := 20) rfl)) (by decide) (by decide)) (g := (mkF m 36 #[.val (.long q1), .second, .val (.int (128 : Int32))] [(.long q1), (.ref a16), (.ref a16)])) rfl (by rw [hml]; rfl) (Steps.refl _) (a := a16) (argsL := [(.long q1)]) (rest := [(.ref a16)]) (lenOf pd_J__V rfl) rfl (by show 2 * 0 + _ ≤ _; exact Nat.le_of_eq rfl) (hb hby d_jdk_35_method_24_36) (fun _ _ => ⟨rfl, e16, (by decide : 1 + 0 ≤ _), (by decide : 1 + 0 ≤ _)⟩)
      dsimp only [Pt.U, Pt.locs, Pt.cells, Pt.slots] at X19 l19 y19 z19 st19 hQ19
      subst l19 y19 z19
      obtain ⟨rfl, Nq19, K19, x19_0⟩ := hQ19
      have N19 := Fr.app N0 Nq19
      have O19 := O16.keep K19 (allS ge16 all0)
      have e19 : T19.heap = T19.heap := rfl
      have z20 : h0.size ≤ T19.heap.size := Nat.le_trans z17 K19.1
      refine own_go (fun _ k => st19.trans k) ?_
      show OwnGo p e below _ (T19.setTop (mkF m 39 #[.val (.long q1), .second, .val (.int (128 : Int32))] [(.ref a16)]))
      obtain ⟨fs, hr, hrun, hended, hW, hsame⟩ := X19.leave (v := some (.ref a16)) (fun h => by rw [Bd.returns] at h; cases h)
      refine ⟨_, _, retOut X19 hx Bd.returns rfl (Or.inr (Or.inr (Or.inr (Or.inr ⟨rfl, rfl, rfl⟩)))) (hb hby d_jdk_35_method_24_39) hr, hrun, hended, _, _, rfl, ?_, ⟨_, rfl⟩, hW, hsame.mono (by decide) (by decide)⟩
      show Q_vo Z aC cC q1 h0 n0 _ T19.heap _
      rw [e19]
      have F21 := (A16.keep K19)
      exact ⟨a16, rfl, N19, (((Keep.refl _ []).ext E16).trans K19 (allS (P := fun x => x ∈ _ ∨ _ ≤ x) (Or.inr gh16) all0)), F21⟩
    · refine own_go (fun _ k => XS.ifNo X0.here hx rfl (hb hby d_jdk_35_method_24_17) rfl ((if0 _ _).trans (flt (mt (lw_gt _ _).mp hc15)).2.2.1) k) ?_
      show OwnGo p e below _ (s₁.setTop (mkF m 20 #[.val (.long q1), .second, .val (.int (128 : Int32))] []))
      obtain ⟨T22, X22, e22, st22⟩ := getS X0 hx hZ hown (host := "") (hw _ (List.mem_of_getElem? (i := 42) rfl)) Via.refl e0 (F0.1.ext O0.2) (g := (mkF m 20 #[.val (.long q1), .second, .val (.int (128 : Int32))] [])) rfl (hb hby d_jdk_35_method_24_20)
      refine own_go st22 ?_
      show OwnGo p e below _ (T22.setTop (mkF m 23 #[.val (.long q1), .second, .val (.int (128 : Int32))] [(.ref aC)]))
      refine own_go (fun _ k => XS.lloadN X22.here hx rfl (hb hby d_jdk_35_method_24_23) rfl k) ?_
      show OwnGo p e below _ (T22.setTop (mkF m 24 #[.val (.long q1), .second, .val (.int (128 : Int32))] [(.long q1), (.ref aC)]))
      refine own_go (fun _ k => XS.l2i X22.here hx rfl (hb hby d_jdk_35_method_24_24) rfl k) ?_
      show OwnGo p e below _ (T22.setTop (mkF m 25 #[.val (.long q1), .second, .val (.int (128 : Int32))] [(.int ((q1).toInt32)), (.ref aC)]))
      refine own_go (fun _ k => XS.sipush X22.here hx rfl (hb hby d_jdk_35_method_24_25) k) ?_
      show OwnGo p e below _ (T22.setTop (mkF m 28 #[.val (.long q1), .second, .val (.int (128 : Int32))] [(.int (128 : Int32)), (.int ((q1).toInt32)), (.ref aC)]))
      refine own_go (fun _ k => XS.iadd X22.here hx rfl (hb hby d_jdk_35_method_24_28) rfl k) ?_
      show OwnGo p e below _ (T22.setTop (mkF m 29 #[.val (.long q1), .second, .val (.int (128 : Int32))] [(.int (((q1).toInt32) + (128 : Int32))), (.ref aC)]))
      have hin23 := own_idx hc8 hc15 F0.2.2.1
      obtain ⟨box, hb1, hb2, -⟩ := F0.2.2.2.2 _ hin23
      have Ar23 := F0.2.1.ext O0.2
      refine own_go (fun _ k => X22.aaload hx (j := (((q1).toInt32) + (128 : Int32))) (v := .ref box) (by rw [e22]; exact Ar23.1) (State.isArrayOf_alike hZ.alike Ar23.2.1) rfl Ar23.2.2 hin23 hb1 (g := (mkF m 29 #[.val (.long q1), .second, .val (.int (128 : Int32))] [(.int (((q1).toInt32) + (128 : Int32))), (.ref aC)])) rfl rfl (hb hby d_jdk_35_method_24_29) _ k) ?_
      show OwnGo p e below _ (T22.setTop (mkF m 30 #[.val (.long q1), .second, .val (.int (128 : Int32))] [(.ref box)]))
      obtain ⟨fs, hr, hrun, hended, hW, hsame⟩ := X22.leave (v := some (.ref box)) (fun h => by rw [Bd.returns] at h; cases h)
      refine ⟨_, _, retOut X22 hx Bd.returns rfl (Or.inr (Or.inr (Or.inr (Or.inr ⟨rfl, rfl, rfl⟩)))) (hb hby d_jdk_35_method_24_30) hr, hrun, hended, _, _, rfl, ?_, ⟨_, rfl⟩, hW, hsame.mono (by decide) (by decide)⟩
      show Q_vo Z aC cC q1 h0 n0 _ T22.heap _
      rw [e22]
      exact ⟨box, rfl, N0, (Keep.refl _ []), (hb2.ext O0.2)⟩
theorem d_prog_8_method_3_0 : decode prog_8_method_3_code 0 = .ok (.aload_n 1, 1) := by decide +kernel
theorem d_prog_8_method_3_1 : decode prog_8_method_3_code 1 = .ok (.instanceof 8, 3) := by decide +kernel
theorem d_prog_8_method_3_4 : decode prog_8_method_3_code 4 = .ok (.ifCond .eq 22, 3) := by decide +kernel
theorem d_prog_8_method_3_7 : decode prog_8_method_3_code 7 = .ok (.aload_n 1, 1) := by decide +kernel
theorem d_prog_8_method_3_8 : decode prog_8_method_3_code 8 = .ok (.checkcast 8, 3) := by decide +kernel
theorem d_prog_8_method_3_11 : decode prog_8_method_3_code 11 = .ok (.getfield 7, 3) := by decide +kernel
theorem d_prog_8_method_3_14 : decode prog_8_method_3_code 14 = .ok (.aload_n 0, 1) := by decide +kernel
theorem d_prog_8_method_3_15 : decode prog_8_method_3_code 15 = .ok (.getfield 7, 3) := by decide +kernel
theorem d_prog_8_method_3_18 : decode prog_8_method_3_code 18 = .ok (.lcmp, 1) := by decide +kernel
theorem d_prog_8_method_3_19 : decode prog_8_method_3_code 19 = .ok (.ifCond .ne 7, 3) := by decide +kernel
theorem d_prog_8_method_3_22 : decode prog_8_method_3_code 22 = .ok (.iconst 1, 1) := by decide +kernel
theorem d_prog_8_method_3_23 : decode prog_8_method_3_code 23 = .ok (.goto 4, 3) := by decide +kernel
theorem d_prog_8_method_3_27 : decode prog_8_method_3_code 27 = .ok (.ireturn, 1) := by decide +kernel
theorem d_prog_8_method_3_26 : decode prog_8_method_3_code 26 = .ok (.iconst 0, 1) := by decide +kernel
def Q_eqM (Z : State) (aC : Addr) (cC : Cell) (a1 : Addr) (a2 : Addr) (q1 : Int64) (q2 : Int64) (r0 : Int32) (h0 : Heap) (n0 : Nat) (v : Option Value) (h : Heap) (L : List Loc) : Prop := v = some (.int r0) ∧ Fr n0 L ∧ h = h0
theorem ef_eqM (m : MethodId) (x0 : Addr) (x1 : Addr) : entryFrame m #[(.ref x0), (.ref x1)] 2 = mkF m 0 #[.val (.ref x0), .val (.ref x1)] [] := by first | (simp [entryFrame, mkF, argsToLocals, Value.category]; done) | rfl
set_option maxRecDepth 65536 in
set_option maxHeartbeats 40000000 in
theorem rm_eqM (l : Launch) (Z : State) (a0 : Array Value) (hw : ∀ d ∈ tables_1, d.before a0 Z = true) (ws : List Jvm.Cond) (aC : Addr) (cC : Cell) (F0 : OwnFacts Z aC cC) (a1 : Addr) (a2 : Addr) (q1 : Int64) (q2 : Int64) (r0 : Int32) (h0 : Heap) (n0 : Nat) (O0 : Old Z n0 h0) (PF1 : Fld Z h0 a1 "com/example/exdel/exdel/MessageId" "value" "J" (.long q1)) (PF2 : Fld Z h0 a2 "com/example/exdel/exdel/MessageId" "value" "J" (.long q2)) (PE2 : Exa Z h0 a2 "com/example/exdel/exdel/MessageId") (hr0 : (if q2 = q1 then (1 : Int32) else (0 : Int32)) = r0) :
    MetFree l (⟨"com/example/exdel/exdel/MessageId", "equals", "(Ljava/lang/Object;)Z"⟩ : MethodName) (head1 (Jvm.Cond.code (⟨"com/example/exdel/exdel/MessageId", "equals", "(Ljava/lang/Object;)Z"⟩ : MethodName) prog_8_method_3_code 2 (some .boolean) :: ws) ({ frames := 0, cells := 0, slots := 0, locals := 0 } : Room)) (fun a U => a = #[(.ref a1), (.ref a2)] ∧ Z.Warmed39 U.vm ∧ U.heap = h0) (fun _ _ _ _ _ => True) (fun _ U o U' => ∃ v L, o = .returned v ∧ Q_eqM Z aC cC a1 a2 q1 q2 r0 h0 n0 v U'.heap L ∧ FrameEnd U o U' L ({ frames := 0, cells := 0, slots := 0, locals := 0 } : Room).cells ({ frames := 0, cells := 0, slots := 0, locals := 0 } : Room).slots) := by
  refine MetFree.of_bodySF (plainFor_of_name pn_com_example_exdel_exdel_MessageId) hisR ?_
  intro p e s m args below meth c s₁ Bd hml0 hP hK
  obtain ⟨rfl, hZ, hh⟩ := hP
  have hx := Bd.exec
  have hby := Bd.bytes
  have hml : c.maxLocals = 2 := hml0
  have hown : s.vm.findClass "com/example/exdel/exdel/MessageId" = some m.cls := findClass_of_methodNamed Bd.named
  have hnm := (name_of_methodNamed Bd.named Bd.method).1
  have X0 : Stand p l e ({ frames := 0, cells := 0, slots := 0, locals := 0 } : Room) s m #[(.ref a1), (.ref a2)] below meth c s₁ [] 0 0 := Stand.of_body Bd
  have e0 : s₁.heap = h0 := by rw [← hh, Bd.state]; rfl
  have N0 := Fr.nil n0
  refine own_go (Q := fun o U' => ∃ v L, o = .returned v ∧ Q_eqM Z aC cC a1 a2 q1 q2 r0 h0 n0 v U'.heap L ∧ FrameEnd s o U' L ({ frames := 0, cells := 0, slots := 0, locals := 0 } : Room).cells ({ frames := 0, cells := 0, slots := 0, locals := 0 } : Room).slots) (fun t k => castTop (ef_eqM m a1 a2) k) ?_
  show OwnGo p e below _ (s₁.setTop (mkF m 0 #[.val (.ref a1), .val (.ref a2)] []))
  refine own_go (fun _ k => XS.aloadN X0.here hx rfl (hb hby d_prog_8_method_3_0) rfl rfl k) ?_
  show OwnGo p e below _ (s₁.setTop (mkF m 1 #[.val (.ref a1), .val (.ref a2)] [(.ref a2)]))
  obtain ⟨T24, X24, e24, st24⟩ := instY X0 hx hZ hown (hw _ (List.mem_of_getElem? (i := 16) rfl)) e0 (Ins.self PE2) (g := (mkF m 1 #[.val (.ref a1), .val (.ref a2)] [(.ref a2)])) rfl rfl (hb hby d_prog_8_method_3_1)
  refine own_go st24 ?_
  show OwnGo p e below _ (T24.setTop (mkF m 4 #[.val (.ref a1), .val (.ref a2)] [(.int (1 : Int32))]))
  refine own_go (fun _ k => XS.ifNo X24.here hx rfl (hb hby d_prog_8_method_3_4) rfl (by decide) k) ?_
  show OwnGo p e below _ (T24.setTop (mkF m 7 #[.val (.ref a1), .val (.ref a2)] []))
  refine own_go (fun _ k => XS.aloadN X24.here hx rfl (hb hby d_prog_8_method_3_7) rfl rfl k) ?_
  show OwnGo p e below _ (T24.setTop (mkF m 8 #[.val (.ref a1), .val (.ref a2)] [(.ref a2)]))
  obtain ⟨T25, X25, e25, st25⟩ := castY X24 hx hZ hown (hw _ (List.mem_of_getElem? (i := 16) rfl)) e24 (Ins.self PE2) (g := (mkF m 8 #[.val (.ref a1), .val (.ref a2)] [(.ref a2)])) rfl rfl (hb hby d_prog_8_method_3_8)
  refine own_go st25 ?_
  show OwnGo p e below _ (T25.setTop (mkF m 11 #[.val (.ref a1), .val (.ref a2)] [(.ref a2)]))
  obtain ⟨T26, X26, e26, st26⟩ := getF X25 hx hZ hown (host := "") (Or.inl (hw _ (List.mem_of_getElem? (i := 9) rfl))) Via.refl e25 PF2 (g := (mkF m 11 #[.val (.ref a1), .val (.ref a2)] [(.ref a2)])) rfl rfl (hb hby d_prog_8_method_3_11)
  refine own_go st26 ?_
  show OwnGo p e below _ (T26.setTop (mkF m 14 #[.val (.ref a1), .val (.ref a2)] [(.long q2)]))
  refine own_go (fun _ k => XS.aloadN X26.here hx rfl (hb hby d_prog_8_method_3_14) rfl rfl k) ?_
  show OwnGo p e below _ (T26.setTop (mkF m 15 #[.val (.ref a1), .val (.ref a2)] [(.ref a1), (.long q2)]))
  obtain ⟨T27, X27, e27, st27⟩ := getF X26 hx hZ hown (host := "") (Or.inl (hw _ (List.mem_of_getElem? (i := 9) rfl))) Via.refl e26 PF1 (g := (mkF m 15 #[.val (.ref a1), .val (.ref a2)] [(.ref a1), (.long q2)])) rfl rfl (hb hby d_prog_8_method_3_15)
  refine own_go st27 ?_
  show OwnGo p e below _ (T27.setTop (mkF m 18 #[.val (.ref a1), .val (.ref a2)] [(.long q1), (.long q2)]))
  refine own_go (fun _ k => XS.lcmp X27.here hx rfl (hb hby d_prog_8_method_3_18) rfl k) ?_
  show OwnGo p e below _ (T27.setTop (mkF m 19 #[.val (.ref a1), .val (.ref a2)] [(.int (lcmpW q2 q1))]))
  by_cases hc28 : q2 = q1
  · refine own_go (fun _ k => XS.ifNo X27.here hx rfl (hb hby d_prog_8_method_3_19) rfl ((if0 _ _).trans (teq ((lw_eq _ _).mpr hc28)).2) k) ?_
    show OwnGo p e below _ (T27.setTop (mkF m 22 #[.val (.ref a1), .val (.ref a2)] []))
    refine own_go (fun _ k => XS.iconst X27.here hx rfl (hb hby d_prog_8_method_3_22) k) ?_
    show OwnGo p e below _ (T27.setTop (mkF m 23 #[.val (.ref a1), .val (.ref a2)] [(.int (1 : Int32))]))
    refine own_go (fun _ k => XS.goto X27.here hx rfl (pc0 := 23) (pc' := 27) rfl (hb hby d_prog_8_method_3_23) (by decide) (by decide) k) ?_
    show OwnGo p e below _ (T27.setTop (mkF m 27 #[.val (.ref a1), .val (.ref a2)] [(.int (1 : Int32))]))
    obtain ⟨fs, hr, hrun, hended, hW, hsame⟩ := X27.leave (v := some (.int (1 : Int32))) (fun h => by rw [Bd.returns] at h; cases h)
    refine ⟨_, _, retOut X27 hx Bd.returns rfl (Or.inl ⟨rfl, Or.inr (Or.inl rfl), _, rfl⟩) (hb hby d_prog_8_method_3_27) hr, hrun, hended, _, _, rfl, ?_, ⟨_, rfl⟩, hW, hsame.mono (by decide) (by decide)⟩
    show Q_eqM Z aC cC a1 a2 q1 q2 r0 h0 n0 _ T27.heap _
    rw [e27]
    exact ⟨(by rw [← hr0]; simp [hc28]), N0, rfl⟩
  · refine own_go (fun _ k => XS.ifYes X27.here hx rfl (pc0 := 19) (pc' := 26) rfl (hb hby d_prog_8_method_3_19) rfl ((if0 _ _).trans (feq (mt (lw_eq _ _).mp hc28)).2) (by decide) (by decide) k) ?_
    show OwnGo p e below _ (T27.setTop (mkF m 26 #[.val (.ref a1), .val (.ref a2)] []))
    refine own_go (fun _ k => XS.iconst X27.here hx rfl (hb hby d_prog_8_method_3_26) k) ?_
    show OwnGo p e below _ (T27.setTop (mkF m 27 #[.val (.ref a1), .val (.ref a2)] [(.int (0 : Int32))]))
    obtain ⟨fs, hr, hrun, hended, hW, hsame⟩ := X27.leave (v := some (.int (0 : Int32))) (fun h => by rw [Bd.returns] at h; cases h)
    refine ⟨_, _, retOut X27 hx Bd.returns rfl (Or.inl ⟨rfl, Or.inr (Or.inl rfl), _, rfl⟩) (hb hby d_prog_8_method_3_27) hr, hrun, hended, _, _, rfl, ?_, ⟨_, rfl⟩, hW, hsame.mono (by decide) (by decide)⟩
    show Q_eqM Z aC cC a1 a2 q1 q2 r0 h0 n0 _ T27.heap _
    rw [e27]
    exact ⟨(by rw [← hr0]; simp [hc28]), N0, rfl⟩
def Q_eqN (Z : State) (aC : Addr) (cC : Cell) (a1 : Addr) (h0 : Heap) (n0 : Nat) (v : Option Value) (h : Heap) (L : List Loc) : Prop := v = some (.int (0 : Int32)) ∧ Fr n0 L ∧ h = h0
theorem ef_eqN (m : MethodId) (x0 : Addr) : entryFrame m #[(.ref x0), .null] 2 = mkF m 0 #[.val (.ref x0), .val .null] [] := by first | (simp [entryFrame, mkF, argsToLocals, Value.category]; done) | rfl
set_option maxRecDepth 65536 in
set_option maxHeartbeats 40000000 in
theorem rm_eqN (l : Launch) (Z : State) (a0 : Array Value) (hw : ∀ d ∈ tables_1, d.before a0 Z = true) (ws : List Jvm.Cond) (aC : Addr) (cC : Cell) (F0 : OwnFacts Z aC cC) (a1 : Addr) (h0 : Heap) (n0 : Nat) (O0 : Old Z n0 h0) :
    MetFree l (⟨"com/example/exdel/exdel/MessageId", "equals", "(Ljava/lang/Object;)Z"⟩ : MethodName) (head1 (Jvm.Cond.code (⟨"com/example/exdel/exdel/MessageId", "equals", "(Ljava/lang/Object;)Z"⟩ : MethodName) prog_8_method_3_code 2 (some .boolean) :: ws) ({ frames := 0, cells := 0, slots := 0, locals := 0 } : Room)) (fun a U => a = #[(.ref a1), .null] ∧ Z.Warmed39 U.vm ∧ U.heap = h0) (fun _ _ _ _ _ => True) (fun _ U o U' => ∃ v L, o = .returned v ∧ Q_eqN Z aC cC a1 h0 n0 v U'.heap L ∧ FrameEnd U o U' L ({ frames := 0, cells := 0, slots := 0, locals := 0 } : Room).cells ({ frames := 0, cells := 0, slots := 0, locals := 0 } : Room).slots) := by
  refine MetFree.of_bodySF (plainFor_of_name pn_com_example_exdel_exdel_MessageId) hisR ?_
  intro p e s m args below meth c s₁ Bd hml0 hP hK
  obtain ⟨rfl, hZ, hh⟩ := hP
  have hx := Bd.exec
  have hby := Bd.bytes
  have hml : c.maxLocals = 2 := hml0
  have hown : s.vm.findClass "com/example/exdel/exdel/MessageId" = some m.cls := findClass_of_methodNamed Bd.named
  have hnm := (name_of_methodNamed Bd.named Bd.method).1
  have X0 : Stand p l e ({ frames := 0, cells := 0, slots := 0, locals := 0 } : Room) s m #[(.ref a1), .null] below meth c s₁ [] 0 0 := Stand.of_body Bd
  have e0 : s₁.heap = h0 := by rw [← hh, Bd.state]; rfl
  have N0 := Fr.nil n0
  refine own_go (Q := fun o U' => ∃ v L, o = .returned v ∧ Q_eqN Z aC cC a1 h0 n0 v U'.heap L ∧ FrameEnd s o U' L ({ frames := 0, cells := 0, slots := 0, locals := 0 } : Room).cells ({ frames := 0, cells := 0, slots := 0, locals := 0 } : Room).slots) (fun t k => castTop (ef_eqN m a1) k) ?_
  show OwnGo p e below _ (s₁.setTop (mkF m 0 #[.val (.ref a1), .val .null] []))
  refine own_go (fun _ k => XS.aloadN X0.here hx rfl (hb hby d_prog_8_method_3_0) rfl rfl k) ?_
  show OwnGo p e below _ (s₁.setTop (mkF m 1 #[.val (.ref a1), .val .null] [.null]))
  refine own_go (fun _ k => Jvm.Stand.instanceofNull X0 hx (g := (mkF m 1 #[.val (.ref a1), .val .null] [.null])) rfl rfl (hb hby d_prog_8_method_3_1) _ k) ?_
  show OwnGo p e below _ (s₁.setTop (mkF m 4 #[.val (.ref a1), .val .null] [(.int (0 : Int32))]))
  refine own_go (fun _ k => XS.ifYes X0.here hx rfl (pc0 := 4) (pc' := 26) rfl (hb hby d_prog_8_method_3_4) rfl (by decide) (by decide) (by decide) k) ?_
  show OwnGo p e below _ (s₁.setTop (mkF m 26 #[.val (.ref a1), .val .null] []))
  refine own_go (fun _ k => XS.iconst X0.here hx rfl (hb hby d_prog_8_method_3_26) k) ?_
  show OwnGo p e below _ (s₁.setTop (mkF m 27 #[.val (.ref a1), .val .null] [(.int (0 : Int32))]))
  obtain ⟨fs, hr, hrun, hended, hW, hsame⟩ := X0.leave (v := some (.int (0 : Int32))) (fun h => by rw [Bd.returns] at h; cases h)
  refine ⟨_, _, retOut X0 hx Bd.returns rfl (Or.inl ⟨rfl, Or.inr (Or.inl rfl), _, rfl⟩) (hb hby d_prog_8_method_3_27) hr, hrun, hended, _, _, rfl, ?_, ⟨_, rfl⟩, hW, hsame.mono (by decide) (by decide)⟩
  show Q_eqN Z aC cC a1 h0 n0 _ s₁.heap _
  rw [e0]
  exact ⟨rfl, N0, rfl⟩
def Q_eqL (Z : State) (aC : Addr) (cC : Cell) (a1 : Addr) (a2 : Addr) (h0 : Heap) (n0 : Nat) (v : Option Value) (h : Heap) (L : List Loc) : Prop := v = some (.int (0 : Int32)) ∧ Fr n0 L ∧ h = h0
theorem ef_eqL (m : MethodId) (x0 : Addr) (x1 : Addr) : entryFrame m #[(.ref x0), (.ref x1)] 2 = mkF m 0 #[.val (.ref x0), .val (.ref x1)] [] := by first | (simp [entryFrame, mkF, argsToLocals, Value.category]; done) | rfl
set_option maxRecDepth 65536 in
set_option maxHeartbeats 40000000 in
theorem rm_eqL (l : Launch) (Z : State) (a0 : Array Value) (hw : ∀ d ∈ tables_1, d.before a0 Z = true) (ws : List Jvm.Cond) (aC : Addr) (cC : Cell) (F0 : OwnFacts Z aC cC) (a1 : Addr) (a2 : Addr) (h0 : Heap) (n0 : Nat) (O0 : Old Z n0 h0) (PE2 : Exa Z h0 a2 "java/lang/Long") :
    MetFree l (⟨"com/example/exdel/exdel/MessageId", "equals", "(Ljava/lang/Object;)Z"⟩ : MethodName) (head1 (Jvm.Cond.code (⟨"com/example/exdel/exdel/MessageId", "equals", "(Ljava/lang/Object;)Z"⟩ : MethodName) prog_8_method_3_code 2 (some .boolean) :: ws) ({ frames := 0, cells := 0, slots := 0, locals := 0 } : Room)) (fun a U => a = #[(.ref a1), (.ref a2)] ∧ Z.Warmed39 U.vm ∧ U.heap = h0) (fun _ _ _ _ _ => True) (fun _ U o U' => ∃ v L, o = .returned v ∧ Q_eqL Z aC cC a1 a2 h0 n0 v U'.heap L ∧ FrameEnd U o U' L ({ frames := 0, cells := 0, slots := 0, locals := 0 } : Room).cells ({ frames := 0, cells := 0, slots := 0, locals := 0 } : Room).slots) := by
  refine MetFree.of_bodySF (plainFor_of_name pn_com_example_exdel_exdel_MessageId) hisR ?_
  intro p e s m args below meth c s₁ Bd hml0 hP hK
  obtain ⟨rfl, hZ, hh⟩ := hP
  have hx := Bd.exec
  have hby := Bd.bytes
  have hml : c.maxLocals = 2 := hml0
  have hown : s.vm.findClass "com/example/exdel/exdel/MessageId" = some m.cls := findClass_of_methodNamed Bd.named
  have hnm := (name_of_methodNamed Bd.named Bd.method).1
  have X0 : Stand p l e ({ frames := 0, cells := 0, slots := 0, locals := 0 } : Room) s m #[(.ref a1), (.ref a2)] below meth c s₁ [] 0 0 := Stand.of_body Bd
  have e0 : s₁.heap = h0 := by rw [← hh, Bd.state]; rfl
  have N0 := Fr.nil n0
  refine own_go (Q := fun o U' => ∃ v L, o = .returned v ∧ Q_eqL Z aC cC a1 a2 h0 n0 v U'.heap L ∧ FrameEnd s o U' L ({ frames := 0, cells := 0, slots := 0, locals := 0 } : Room).cells ({ frames := 0, cells := 0, slots := 0, locals := 0 } : Room).slots) (fun t k => castTop (ef_eqL m a1 a2) k) ?_
  show OwnGo p e below _ (s₁.setTop (mkF m 0 #[.val (.ref a1), .val (.ref a2)] []))
  refine own_go (fun _ k => XS.aloadN X0.here hx rfl (hb hby d_prog_8_method_3_0) rfl rfl k) ?_
  show OwnGo p e below _ (s₁.setTop (mkF m 1 #[.val (.ref a1), .val (.ref a2)] [(.ref a2)]))
  obtain ⟨T30, X30, e30, st30⟩ := instNo X0 hx hZ hown (hw _ (List.mem_of_getElem? (i := 16) rfl)) e0 PE2 (own_long (hw _ (List.mem_of_getElem? (i := 39) rfl)) (hw _ (List.mem_of_getElem? (i := 40) rfl)) (hw _ (List.mem_of_getElem? (i := 41) rfl)) (hw _ (List.mem_of_getElem? (i := 1) rfl))) (g := (mkF m 1 #[.val (.ref a1), .val (.ref a2)] [(.ref a2)])) rfl rfl (hb hby d_prog_8_method_3_1)
  refine own_go st30 ?_
  show OwnGo p e below _ (T30.setTop (mkF m 4 #[.val (.ref a1), .val (.ref a2)] [(.int (0 : Int32))]))
  refine own_go (fun _ k => XS.ifYes X30.here hx rfl (pc0 := 4) (pc' := 26) rfl (hb hby d_prog_8_method_3_4) rfl (by decide) (by decide) (by decide) k) ?_
  show OwnGo p e below _ (T30.setTop (mkF m 26 #[.val (.ref a1), .val (.ref a2)] []))
  refine own_go (fun _ k => XS.iconst X30.here hx rfl (hb hby d_prog_8_method_3_26) k) ?_
  show OwnGo p e below _ (T30.setTop (mkF m 27 #[.val (.ref a1), .val (.ref a2)] [(.int (0 : Int32))]))
  obtain ⟨fs, hr, hrun, hended, hW, hsame⟩ := X30.leave (v := some (.int (0 : Int32))) (fun h => by rw [Bd.returns] at h; cases h)
  refine ⟨_, _, retOut X30 hx Bd.returns rfl (Or.inl ⟨rfl, Or.inr (Or.inl rfl), _, rfl⟩) (hb hby d_prog_8_method_3_27) hr, hrun, hended, _, _, rfl, ?_, ⟨_, rfl⟩, hW, hsame.mono (by decide) (by decide)⟩
  show Q_eqL Z aC cC a1 a2 h0 n0 _ T30.heap _
  rw [e30]
  exact ⟨rfl, N0, rfl⟩
theorem pd_Ljava_lang_Object___Z : parseMethodDescriptor "(Ljava/lang/Object;)Z" = some ⟨[(.object "java/lang/Object")], some .boolean⟩ := by decide +kernel
theorem pd_J__Ljava_lang_Long_ : parseMethodDescriptor "(J)Ljava/lang/Long;" = some ⟨[.long], some (.object "java/lang/Long")⟩ := by decide +kernel
theorem pn_com_example_exdel_exdel_MessageIdEqualsPinLaw : plainName "com/example/exdel/exdel/MessageIdEqualsPinLaw" = true := by first | (simp [plainName, overriddenIn]; done) | decide +kernel
def Q_law (Z : State) (aC : Addr) (cC : Cell) (q1 : Int64) (q2 : Int64) (p3 : Int32) (h0 : Heap) (n0 : Nat) (v : Option Value) (h : Heap) (L : List Loc) : Prop := v = some (.int (1 : Int32)) ∧ Fr n0 L
theorem ef_law (m : MethodId) (x0 : Int64) (x1 : Int64) (x2 : Int32) : entryFrame m #[(.long x0), (.long x1), (.int x2)] maxLocals = mkF m 0 #[.val (.long x0), .second, .val (.long x1), .second, .val (.int x2), .unset, .unset, .unset, .unset, .unset, .unset, .unset, .unset] [] := by first | (simp [entryFrame, mkF, argsToLocals, Value.category, maxLocals]; done) | rfl
set_option maxRecDepth 65536 in
set_option maxHeartbeats 40000000 in
theorem rm_law (l : Launch) (Z : State) (a0 : Array Value) (hw : ∀ d ∈ tables_1, d.before a0 Z = true) (ws : List Jvm.Cond) (aC : Addr) (cC : Cell) (F0 : OwnFacts Z aC cC) (q1 : Int64) (q2 : Int64) (p3 : Int32) (h0 : Heap) (n0 : Nat) (O0 : Old Z n0 h0) :
    MetFree l x (head1 (Jvm.Cond.code x code maxLocals ret :: ws) room_1) (fun a U => a = #[(.long q1), (.long q2), (.int p3)] ∧ Z.Warmed39 U.vm ∧ U.heap = h0) (fun _ _ _ _ _ => True) (fun _ U o U' => ∃ v L, o = .returned v ∧ Q_law Z aC cC q1 q2 p3 h0 n0 v U'.heap L ∧ FrameEnd U o U' L 2 2) := by
  refine MetFree.of_bodySF (plainFor_of_name pn_com_example_exdel_exdel_MessageIdEqualsPinLaw) hisR ?_
  intro p e s m args below meth c s₁ Bd hml0 hP hK
  obtain ⟨rfl, hZ, hh⟩ := hP
  have hx := Bd.exec
  have hby := Bd.bytes
  have hml : c.maxLocals = 13 := hml0
  have hown : s.vm.findClass "com/example/exdel/exdel/MessageIdEqualsPinLaw" = some m.cls := findClass_of_methodNamed Bd.named
  have hnm := (name_of_methodNamed Bd.named Bd.method).1
  have X0 : Stand p l e room_1 s m #[(.long q1), (.long q2), (.int p3)] below meth c s₁ [] 0 0 := Stand.of_body Bd
  have e0 : s₁.heap = h0 := by rw [← hh, Bd.state]; rfl
  have N0 := Fr.nil n0
  refine own_go (Q := fun o U' => ∃ v L, o = .returned v ∧ Q_law Z aC cC q1 q2 p3 h0 n0 v U'.heap L ∧ FrameEnd s o U' L 2 2) (fun t k => castTop (ef_law m q1 q2 p3) k) ?_
  show OwnGo p e below _ (s₁.setTop (mkF m 0 #[.val (.long q1), .second, .val (.long q2), .second, .val (.int p3), .unset, .unset, .unset, .unset, .unset, .unset, .unset, .unset] []))
  obtain ⟨T31, h31, X31, e31, E31, A31, D31, -, st31⟩ := newO X0 hx hZ hown (hw _ (List.mem_of_getElem? (i := 0) rfl)) (hw _ (List.mem_of_getElem? (i := 1) rfl)) (hw _ (List.mem_of_getElem? (i := 2) rfl)) e0 (g := (mkF m 0 #[.val (.long q1), .second, .val (.long q2), .second, .val (.int p3), .unset, .unset, .unset, .unset, .unset, .unset, .unset, .unset] [])) rfl (hb hby at_0) (by decide) (by decide)
  obtain ⟨a31, g31⟩ : ∃ z, z = h0.size := ⟨_, rfl⟩
  rw [← g31] at A31 D31 st31
  have ge31 : n0 ≤ a31 := Nat.le_trans (own_sz O0) (Nat.le_of_eq g31.symm)
  have gh31 : h0.size ≤ a31 := Nat.le_trans (Nat.le_refl _) (Nat.le_of_eq g31.symm)
  have O31 := O0.ext E31
  have z32 : h0.size ≤ h31.size := Nat.le_trans (Nat.le_refl _) E31.1
  have F33 : Fld Z h31 a31 "com/example/exdel/exdel/MessageId" "value" "J" (.long (0 : Int64)) := D31 (Or.inr (hw _ (List.mem_of_getElem? (i := 10) rfl))) (ty := .long) (by decide)
  refine own_go st31 ?_
  show OwnGo p e below _ (T31.setTop (mkF m 3 #[.val (.long q1), .second, .val (.long q2), .second, .val (.int p3), .unset, .unset, .unset, .unset, .unset, .unset, .unset, .unset] [(.ref a31)]))
  refine own_go (fun _ k => XS.dup X31.here hx rfl (hb hby at_3) rfl rfl k) ?_
  show OwnGo p e below _ (T31.setTop (mkF m 4 #[.val (.long q1), .second, .val (.long q2), .second, .val (.int p3), .unset, .unset, .unset, .unset, .unset, .unset, .unset, .unset] [(.ref a31), (.ref a31)]))
  refine own_go (fun _ k => XS.lloadN X31.here hx rfl (hb hby at_4) rfl k) ?_
  show OwnGo p e below _ (T31.setTop (mkF m 5 #[.val (.long q1), .second, .val (.long q2), .second, .val (.int p3), .unset, .unset, .unset, .unset, .unset, .unset, .unset, .unset] [(.long q1), (.ref a31), (.ref a31)]))
  obtain ⟨_, _, ⟨T34, L34, k34, n34⟩, -, X34, ⟨Lc34, hQ34, l34, y34, z34⟩, st34⟩ := X31.specialBack hx (y := (⟨"com/example/exdel/exdel/MessageId", "<init>", "(J)V"⟩ : MethodName)) rfl hown (mvT hZ (hw _ (List.mem_of_getElem? (i := 3) rfl))) (mvT hZ (hw _ (List.mem_of_getElem? (i := 4) rfl))) (mvT hZ (hw _ (List.mem_of_getElem? (i := 5) rfl))) (by decide) (backOf (W := 1) (rm_mi l Z a0 hw [] aC cC F0 a31 q1 h31 n0 O31 F33 A31 ge31) hZ (hw _ (List.mem_of_getElem? (i := 5) rfl)) (hw _ (List.mem_of_getElem? (i := 2) rfl)) (by decide) (by decide)) (g := (mkF m 5 #[.val (.long q1), .second, .val (.long q2), .second, .val (.int p3), .unset, .unset, .unset, .unset, .unset, .unset, .unset, .unset] [(.long q1), (.ref a31), (.ref a31)])) rfl (by rw [hml]; rfl) (Steps.refl _) (a := a31) (argsL := [(.long q1)]) (rest := [(.ref a31)]) (lenOf pd_J__V rfl) rfl (by show 2 * 0 + _ ≤ _; exact Nat.le_of_eq rfl) (hb hby at_5) (fun _ _ => ⟨rfl, e31, (by decide : 1 + 0 ≤ _), (by decide : 1 + 0 ≤ _)⟩)
  dsimp only [Pt.U, Pt.locs, Pt.cells, Pt.slots] at X34 l34 y34 z34 st34 hQ34
  subst l34 y34 z34
  obtain ⟨rfl, Nq34, K34, x34_0⟩ := hQ34
  have N34 := Fr.app N0 Nq34
  have O34 := O31.keep K34 (allS ge31 all0)
  have e34 : T34.heap = T34.heap := rfl
  have z35 : h0.size ≤ T34.heap.size := Nat.le_trans z32 K34.1
  refine own_go (fun _ k => st34.trans k) ?_
  show OwnGo p e below _ (T34.setTop (mkF m 8 #[.val (.long q1), .second, .val (.long q2), .second, .val (.int p3), .unset, .unset, .unset, .unset, .unset, .unset, .unset, .unset] [(.ref a31)]))
  refine own_go (fun _ k => XS.astore X34.here hx rfl (hb hby at_8) rfl rfl (l' := #[.val (.long q1), .second, .val (.long q2), .second, .val (.int p3), .val (.ref a31), .unset, .unset, .unset, .unset, .unset, .unset, .unset]) rfl k) ?_
  show OwnGo p e below _ (T34.setTop (mkF m 10 #[.val (.long q1), .second, .val (.long q2), .second, .val (.int p3), .val (.ref a31), .unset, .unset, .unset, .unset, .unset, .unset, .unset] []))
  refine own_go (fun _ k => XS.aload X34.here hx rfl (hb hby at_10) rfl rfl k) ?_
  show OwnGo p e below _ (T34.setTop (mkF m 12 #[.val (.long q1), .second, .val (.long q2), .second, .val (.int p3), .val (.ref a31), .unset, .unset, .unset, .unset, .unset, .unset, .unset] [(.ref a31)]))
  refine own_go (fun _ k => XS.aload X34.here hx rfl (hb hby at_12) rfl rfl k) ?_
  show OwnGo p e below _ (T34.setTop (mkF m 14 #[.val (.long q1), .second, .val (.long q2), .second, .val (.int p3), .val (.ref a31), .unset, .unset, .unset, .unset, .unset, .unset, .unset] [(.ref a31), (.ref a31)]))
  have F36 := (A31.keep K34)
  obtain ⟨cq37, kq37, qa37, qb37, qc37⟩ := isOf hZ e34 F36
  obtain ⟨_, _, ⟨T37, L37, k37, n37⟩, -, X37, ⟨Lc37, hQ37, l37, y37, z37⟩, st37⟩ := X34.virtualBack hx (y := (⟨"com/example/exdel/exdel/MessageId", "equals", "(Ljava/lang/Object;)Z"⟩ : MethodName)) (z := (⟨"com/example/exdel/exdel/MessageId", "equals", "(Ljava/lang/Object;)Z"⟩ : MethodName)) hown (mvT hZ (hw _ (List.mem_of_getElem? (i := 11) rfl))) (mvT hZ (hw _ (List.mem_of_getElem? (i := 12) rfl))) (notFace_of_selects (args := #[]) (mvT hZ (hw _ (List.mem_of_getElem? (i := 14) rfl)))) (mvT hZ (hw _ (List.mem_of_getElem? (i := 14) rfl))) (mvT hZ (hw _ (List.mem_of_getElem? (i := 13) rfl))) (by decide) (backOf (W := 0) (rm_eqM l Z a0 hw [] aC cC F0 a31 a31 q1 q1 (1 : Int32) T34.heap n0 O34 x34_0 x34_0 F36 (if_pos rfl)) hZ (hw _ (List.mem_of_getElem? (i := 15) rfl)) (hw _ (List.mem_of_getElem? (i := 2) rfl)) (by decide) (by decide)) qa37 qc37 (g := (mkF m 14 #[.val (.long q1), .second, .val (.long q2), .second, .val (.int p3), .val (.ref a31), .unset, .unset, .unset, .unset, .unset, .unset, .unset] [(.ref a31), (.ref a31)])) rfl (by rw [hml]; rfl) (Steps.refl _) (argsL := [(.ref a31)]) (rest := []) (lenOf pd_Ljava_lang_Object___Z rfl) rfl (by show 2 * 0 + _ ≤ _; exact Nat.le_of_eq rfl) (hb hby at_14) (fun _ _ => ⟨rfl, e34, (by decide : 1 + 0 ≤ _), (by decide : 1 + 0 ≤ _)⟩)
  dsimp only [Pt.U, Pt.locs, Pt.cells, Pt.slots] at X37 l37 y37 z37 st37 hQ37
  subst l37 y37 z37
  obtain ⟨rfl, Nq37, K37⟩ := hQ37
  have N37 := Fr.app N34 Nq37
  refine own_go (fun _ k => st37.trans k) ?_
  show OwnGo p e below _ (T37.setTop (mkF m 17 #[.val (.long q1), .second, .val (.long q2), .second, .val (.int p3), .val (.ref a31), .unset, .unset, .unset, .unset, .unset, .unset, .unset] [(.int (1 : Int32))]))
  refine own_go (fun _ k => XS.ifYes X37.here hx rfl (pc0 := 17) (pc' := 22) rfl (hb hby at_17) rfl (by decide) (by decide) (by decide) k) ?_
  show OwnGo p e below _ (T37.setTop (mkF m 22 #[.val (.long q1), .second, .val (.long q2), .second, .val (.int p3), .val (.ref a31), .unset, .unset, .unset, .unset, .unset, .unset, .unset] []))
  refine own_go (fun _ k => XS.iload X37.here hx rfl (hb hby at_22) rfl k) ?_
  show OwnGo p e below _ (T37.setTop (mkF m 24 #[.val (.long q1), .second, .val (.long q2), .second, .val (.int p3), .val (.ref a31), .unset, .unset, .unset, .unset, .unset, .unset, .unset] [(.int p3)]))
  refine own_go (fun _ k => XS.iconst X37.here hx rfl (hb hby at_24) k) ?_
  show OwnGo p e below _ (T37.setTop (mkF m 25 #[.val (.long q1), .second, .val (.long q2), .second, .val (.int p3), .val (.ref a31), .unset, .unset, .unset, .unset, .unset, .unset, .unset] [(.int (3 : Int32)), (.int p3)]))
  refine own_go (fun _ k => XS.iand X37.here hx rfl (hb hby at_25) rfl k) ?_
  show OwnGo p e below _ (T37.setTop (mkF m 26 #[.val (.long q1), .second, .val (.long q2), .second, .val (.int p3), .val (.ref a31), .unset, .unset, .unset, .unset, .unset, .unset, .unset] [(.int (p3 &&& (3 : Int32)))]))
  refine own_go (fun _ k => XS.istore X37.here hx rfl (hb hby at_26) rfl (l' := #[.val (.long q1), .second, .val (.long q2), .second, .val (.int p3), .val (.ref a31), .val (.int (p3 &&& (3 : Int32))), .unset, .unset, .unset, .unset, .unset, .unset]) rfl k) ?_
  show OwnGo p e below _ (T37.setTop (mkF m 28 #[.val (.long q1), .second, .val (.long q2), .second, .val (.int p3), .val (.ref a31), .val (.int (p3 &&& (3 : Int32))), .unset, .unset, .unset, .unset, .unset, .unset] []))
  refine own_go (fun _ k => XS.iload X37.here hx rfl (hb hby at_28) rfl k) ?_
  show OwnGo p e below _ (T37.setTop (mkF m 30 #[.val (.long q1), .second, .val (.long q2), .second, .val (.int p3), .val (.ref a31), .val (.int (p3 &&& (3 : Int32))), .unset, .unset, .unset, .unset, .unset, .unset] [(.int (p3 &&& (3 : Int32)))]))
  by_cases hc38 : (p3 &&& (3 : Int32)) = (0 : Int32)
  · refine own_go (fun _ k => XS.ifNo X37.here hx rfl (hb hby at_30) rfl ((if0 _ _).trans (teq hc38).2) k) ?_
    show OwnGo p e below _ (T37.setTop (mkF m 33 #[.val (.long q1), .second, .val (.long q2), .second, .val (.int p3), .val (.ref a31), .val (.int (p3 &&& (3 : Int32))), .unset, .unset, .unset, .unset, .unset, .unset] []))
    refine own_go (fun _ k => XS.aconstNull X37.here hx rfl (hb hby at_33) k) ?_
    show OwnGo p e below _ (T37.setTop (mkF m 34 #[.val (.long q1), .second, .val (.long q2), .second, .val (.int p3), .val (.ref a31), .val (.int (p3 &&& (3 : Int32))), .unset, .unset, .unset, .unset, .unset, .unset] [.null]))
    refine own_go (fun _ k => XS.astore X37.here hx rfl (hb hby at_34) rfl rfl (l' := #[.val (.long q1), .second, .val (.long q2), .second, .val (.int p3), .val (.ref a31), .val (.int (p3 &&& (3 : Int32))), .val .null, .unset, .unset, .unset, .unset, .unset]) rfl k) ?_
    show OwnGo p e below _ (T37.setTop (mkF m 36 #[.val (.long q1), .second, .val (.long q2), .second, .val (.int p3), .val (.ref a31), .val (.int (p3 &&& (3 : Int32))), .val .null, .unset, .unset, .unset, .unset, .unset] []))
    refine own_go (fun _ k => XS.aload X37.here hx rfl (hb hby at_36) rfl rfl k) ?_
    show OwnGo p e below _ (T37.setTop (mkF m 38 #[.val (.long q1), .second, .val (.long q2), .second, .val (.int p3), .val (.ref a31), .val (.int (p3 &&& (3 : Int32))), .val .null, .unset, .unset, .unset, .unset, .unset] [(.ref a31)]))
    refine own_go (fun _ k => XS.aload X37.here hx rfl (hb hby at_38) rfl rfl k) ?_
    show OwnGo p e below _ (T37.setTop (mkF m 40 #[.val (.long q1), .second, .val (.long q2), .second, .val (.int p3), .val (.ref a31), .val (.int (p3 &&& (3 : Int32))), .val .null, .unset, .unset, .unset, .unset, .unset] [.null, (.ref a31)]))
    obtain ⟨cq39, kq39, qa39, qb39, qc39⟩ := isOf hZ K37 F36
    obtain ⟨_, _, ⟨T39, L39, k39, n39⟩, -, X39, ⟨Lc39, hQ39, l39, y39, z39⟩, st39⟩ := X37.virtualBack hx (y := (⟨"com/example/exdel/exdel/MessageId", "equals", "(Ljava/lang/Object;)Z"⟩ : MethodName)) (z := (⟨"com/example/exdel/exdel/MessageId", "equals", "(Ljava/lang/Object;)Z"⟩ : MethodName)) hown (mvT hZ (hw _ (List.mem_of_getElem? (i := 11) rfl))) (mvT hZ (hw _ (List.mem_of_getElem? (i := 12) rfl))) (notFace_of_selects (args := #[]) (mvT hZ (hw _ (List.mem_of_getElem? (i := 14) rfl)))) (mvT hZ (hw _ (List.mem_of_getElem? (i := 14) rfl))) (mvT hZ (hw _ (List.mem_of_getElem? (i := 13) rfl))) (by decide) (backOf (W := 0) (rm_eqN l Z a0 hw [] aC cC F0 a31 T34.heap n0 O34) hZ (hw _ (List.mem_of_getElem? (i := 15) rfl)) (hw _ (List.mem_of_getElem? (i := 2) rfl)) (by decide) (by decide)) qa39 qc39 (g := (mkF m 40 #[.val (.long q1), .second, .val (.long q2), .second, .val (.int p3), .val (.ref a31), .val (.int (p3 &&& (3 : Int32))), .val .null, .unset, .unset, .unset, .unset, .unset] [.null, (.ref a31)])) rfl (by rw [hml]; rfl) (Steps.refl _) (argsL := [.null]) (rest := []) (lenOf pd_Ljava_lang_Object___Z rfl) rfl (by show 2 * 0 + _ ≤ _; exact Nat.le_of_eq rfl) (hb hby at_40) (fun _ _ => ⟨rfl, K37, (by decide : 1 + 0 ≤ _), (by decide : 1 + 0 ≤ _)⟩)
    dsimp only [Pt.U, Pt.locs, Pt.cells, Pt.slots] at X39 l39 y39 z39 st39 hQ39
    subst l39 y39 z39
    obtain ⟨rfl, Nq39, K39⟩ := hQ39
    have N39 := Fr.app N37 Nq39
    refine own_go (fun _ k => st39.trans k) ?_
    show OwnGo p e below _ (T39.setTop (mkF m 43 #[.val (.long q1), .second, .val (.long q2), .second, .val (.int p3), .val (.ref a31), .val (.int (p3 &&& (3 : Int32))), .val .null, .unset, .unset, .unset, .unset, .unset] [(.int (0 : Int32))]))
    refine own_go (fun _ k => XS.ifNo X39.here hx rfl (hb hby at_43) rfl (by decide) k) ?_
    show OwnGo p e below _ (T39.setTop (mkF m 46 #[.val (.long q1), .second, .val (.long q2), .second, .val (.int p3), .val (.ref a31), .val (.int (p3 &&& (3 : Int32))), .val .null, .unset, .unset, .unset, .unset, .unset] []))
    refine own_go (fun _ k => XS.iconst X39.here hx rfl (hb hby at_46) k) ?_
    show OwnGo p e below _ (T39.setTop (mkF m 47 #[.val (.long q1), .second, .val (.long q2), .second, .val (.int p3), .val (.ref a31), .val (.int (p3 &&& (3 : Int32))), .val .null, .unset, .unset, .unset, .unset, .unset] [(.int (1 : Int32))]))
    refine own_go (fun _ k => XS.goto X39.here hx rfl (pc0 := 47) (pc' := 51) rfl (hb hby at_47) (by decide) (by decide) k) ?_
    show OwnGo p e below _ (T39.setTop (mkF m 51 #[.val (.long q1), .second, .val (.long q2), .second, .val (.int p3), .val (.ref a31), .val (.int (p3 &&& (3 : Int32))), .val .null, .unset, .unset, .unset, .unset, .unset] [(.int (1 : Int32))]))
    obtain ⟨fs, hr, hrun, hended, hW, hsame⟩ := X39.leave (v := some (.int (1 : Int32))) (fun h => by rw [Bd.returns] at h; cases h)
    refine ⟨_, _, retOut X39 hx Bd.returns rfl (Or.inl ⟨rfl, Or.inr (Or.inl rfl), _, rfl⟩) (hb hby at_51) hr, hrun, hended, _, _, rfl, ?_, ⟨_, rfl⟩, hW, hsame.mono (by decide) (by decide)⟩
    show Q_law Z aC cC q1 q2 p3 h0 n0 _ T39.heap _
    rw [K39]
    exact ⟨rfl, N39⟩
  · refine own_go (fun _ k => XS.ifYes X37.here hx rfl (pc0 := 30) (pc' := 52) rfl (hb hby at_30) rfl ((if0 _ _).trans (feq hc38).2) (by decide) (by decide) k) ?_
    show OwnGo p e below _ (T37.setTop (mkF m 52 #[.val (.long q1), .second, .val (.long q2), .second, .val (.int p3), .val (.ref a31), .val (.int (p3 &&& (3 : Int32))), .unset, .unset, .unset, .unset, .unset, .unset] []))
    refine own_go (fun _ k => XS.iload X37.here hx rfl (hb hby at_52) rfl k) ?_
    show OwnGo p e below _ (T37.setTop (mkF m 54 #[.val (.long q1), .second, .val (.long q2), .second, .val (.int p3), .val (.ref a31), .val (.int (p3 &&& (3 : Int32))), .unset, .unset, .unset, .unset, .unset, .unset] [(.int (p3 &&& (3 : Int32)))]))
    refine own_go (fun _ k => XS.iconst X37.here hx rfl (hb hby at_54) k) ?_
    show OwnGo p e below _ (T37.setTop (mkF m 55 #[.val (.long q1), .second, .val (.long q2), .second, .val (.int p3), .val (.ref a31), .val (.int (p3 &&& (3 : Int32))), .unset, .unset, .unset, .unset, .unset, .unset] [(.int (1 : Int32)), (.int (p3 &&& (3 : Int32)))]))
    by_cases hc40 : (p3 &&& (3 : Int32)) = (1 : Int32)
    · refine own_go (fun _ k => XS.icmpNo X37.here hx rfl (hb hby at_55) rfl (teq hc40).2 k) ?_
      show OwnGo p e below _ (T37.setTop (mkF m 58 #[.val (.long q1), .second, .val (.long q2), .second, .val (.int p3), .val (.ref a31), .val (.int (p3 &&& (3 : Int32))), .unset, .unset, .unset, .unset, .unset, .unset] []))
      refine own_go (fun _ k => XS.lloadN X37.here hx rfl (hb hby at_58) rfl k) ?_
      show OwnGo p e below _ (T37.setTop (mkF m 59 #[.val (.long q1), .second, .val (.long q2), .second, .val (.int p3), .val (.ref a31), .val (.int (p3 &&& (3 : Int32))), .unset, .unset, .unset, .unset, .unset, .unset] [(.long q1)]))
      obtain ⟨_, _, ⟨T41, L41, k41, n41⟩, -, X41, ⟨Lc41, hQ41, l41, y41, z41⟩, st41⟩ := Jvm.LawKit.callS X37 hx (y := (⟨"java/lang/Long", "valueOf", "(J)Ljava/lang/Long;"⟩ : MethodName)) hown (mvT hZ (hw _ (List.mem_of_getElem? (i := 18) rfl))) (mvT hZ (hw _ (List.mem_of_getElem? (i := 19) rfl))) (mvT hZ (hw _ (List.mem_of_getElem? (i := 20) rfl))) (mvT hZ (hw _ (List.mem_of_getElem? (i := 21) rfl))) (by decide) (backOf (W := 0) (rm_vo l Z a0 hw [] aC cC F0 q1 T34.heap n0 O34) hZ (hw _ (List.mem_of_getElem? (i := 21) rfl)) (hw _ (List.mem_of_getElem? (i := 20) rfl)) (by decide) (by decide)) (g := (mkF m 59 #[.val (.long q1), .second, .val (.long q2), .second, .val (.int p3), .val (.ref a31), .val (.int (p3 &&& (3 : Int32))), .unset, .unset, .unset, .unset, .unset, .unset] [(.long q1)])) rfl (by rw [hml]; rfl) (argsL := [(.long q1)]) (rest := []) (lenOf pd_J__Ljava_lang_Long_ rfl) rfl (by show 2 * 0 + _ ≤ _; exact Nat.le_of_eq rfl) (hb hby at_59) (fun _ _ => ⟨rfl, K37, (by decide : 1 + 1 ≤ _), (by decide : 1 + 1 ≤ _)⟩)
      dsimp only [Pt.U, Pt.locs, Pt.cells, Pt.slots] at X41 l41 y41 z41 st41 hQ41
      subst l41 y41 z41
      obtain ⟨r9_41, rfl, Nq41, K41, x41_0⟩ := hQ41
      have N41 := Fr.app N37 Nq41
      have O41 := O34.keep K41 all0
      have e41 : T41.heap = T41.heap := rfl
      have z42 : h0.size ≤ T41.heap.size := Nat.le_trans z35 K41.1
      refine own_go st41 ?_
      show OwnGo p e below _ (T41.setTop (mkF m 62 #[.val (.long q1), .second, .val (.long q2), .second, .val (.int p3), .val (.ref a31), .val (.int (p3 &&& (3 : Int32))), .unset, .unset, .unset, .unset, .unset, .unset] [(.ref r9_41)]))
      refine own_go (fun _ k => XS.astore X41.here hx rfl (hb hby at_62) rfl rfl (l' := #[.val (.long q1), .second, .val (.long q2), .second, .val (.int p3), .val (.ref a31), .val (.int (p3 &&& (3 : Int32))), .val (.ref r9_41), .unset, .unset, .unset, .unset, .unset]) rfl k) ?_
      show OwnGo p e below _ (T41.setTop (mkF m 64 #[.val (.long q1), .second, .val (.long q2), .second, .val (.int p3), .val (.ref a31), .val (.int (p3 &&& (3 : Int32))), .val (.ref r9_41), .unset, .unset, .unset, .unset, .unset] []))
      refine own_go (fun _ k => XS.aload X41.here hx rfl (hb hby at_64) rfl rfl k) ?_
      show OwnGo p e below _ (T41.setTop (mkF m 66 #[.val (.long q1), .second, .val (.long q2), .second, .val (.int p3), .val (.ref a31), .val (.int (p3 &&& (3 : Int32))), .val (.ref r9_41), .unset, .unset, .unset, .unset, .unset] [(.ref a31)]))
      refine own_go (fun _ k => XS.aload X41.here hx rfl (hb hby at_66) rfl rfl k) ?_
      show OwnGo p e below _ (T41.setTop (mkF m 68 #[.val (.long q1), .second, .val (.long q2), .second, .val (.int p3), .val (.ref a31), .val (.int (p3 &&& (3 : Int32))), .val (.ref r9_41), .unset, .unset, .unset, .unset, .unset] [(.ref r9_41), (.ref a31)]))
      have F43 := (F36.keep K41)
      obtain ⟨cq44, kq44, qa44, qb44, qc44⟩ := isOf hZ e41 F43
      obtain ⟨_, _, ⟨T44, L44, k44, n44⟩, -, X44, ⟨Lc44, hQ44, l44, y44, z44⟩, st44⟩ := X41.virtualBack hx (y := (⟨"com/example/exdel/exdel/MessageId", "equals", "(Ljava/lang/Object;)Z"⟩ : MethodName)) (z := (⟨"com/example/exdel/exdel/MessageId", "equals", "(Ljava/lang/Object;)Z"⟩ : MethodName)) hown (mvT hZ (hw _ (List.mem_of_getElem? (i := 11) rfl))) (mvT hZ (hw _ (List.mem_of_getElem? (i := 12) rfl))) (notFace_of_selects (args := #[]) (mvT hZ (hw _ (List.mem_of_getElem? (i := 14) rfl)))) (mvT hZ (hw _ (List.mem_of_getElem? (i := 14) rfl))) (mvT hZ (hw _ (List.mem_of_getElem? (i := 13) rfl))) (by decide) (backOf (W := 0) (rm_eqL l Z a0 hw [] aC cC F0 a31 r9_41 T41.heap n0 O41 x41_0) hZ (hw _ (List.mem_of_getElem? (i := 15) rfl)) (hw _ (List.mem_of_getElem? (i := 2) rfl)) (by decide) (by decide)) qa44 qc44 (g := (mkF m 68 #[.val (.long q1), .second, .val (.long q2), .second, .val (.int p3), .val (.ref a31), .val (.int (p3 &&& (3 : Int32))), .val (.ref r9_41), .unset, .unset, .unset, .unset, .unset] [(.ref r9_41), (.ref a31)])) rfl (by rw [hml]; rfl) (Steps.refl _) (argsL := [(.ref r9_41)]) (rest := []) (lenOf pd_Ljava_lang_Object___Z rfl) rfl (by show 2 * 0 + _ ≤ _; exact Nat.le_of_eq rfl) (hb hby at_68) (fun _ _ => ⟨rfl, e41, (by decide : 2 + 0 ≤ _), (by decide : 2 + 0 ≤ _)⟩)
      dsimp only [Pt.U, Pt.locs, Pt.cells, Pt.slots] at X44 l44 y44 z44 st44 hQ44
      subst l44 y44 z44
      obtain ⟨rfl, Nq44, K44⟩ := hQ44
      have N44 := Fr.app N41 Nq44
      refine own_go (fun _ k => st44.trans k) ?_
      show OwnGo p e below _ (T44.setTop (mkF m 71 #[.val (.long q1), .second, .val (.long q2), .second, .val (.int p3), .val (.ref a31), .val (.int (p3 &&& (3 : Int32))), .val (.ref r9_41), .unset, .unset, .unset, .unset, .unset] [(.int (0 : Int32))]))
      refine own_go (fun _ k => XS.ifNo X44.here hx rfl (hb hby at_71) rfl (by decide) k) ?_
      show OwnGo p e below _ (T44.setTop (mkF m 74 #[.val (.long q1), .second, .val (.long q2), .second, .val (.int p3), .val (.ref a31), .val (.int (p3 &&& (3 : Int32))), .val (.ref r9_41), .unset, .unset, .unset, .unset, .unset] []))
      refine own_go (fun _ k => XS.iconst X44.here hx rfl (hb hby at_74) k) ?_
      show OwnGo p e below _ (T44.setTop (mkF m 75 #[.val (.long q1), .second, .val (.long q2), .second, .val (.int p3), .val (.ref a31), .val (.int (p3 &&& (3 : Int32))), .val (.ref r9_41), .unset, .unset, .unset, .unset, .unset] [(.int (1 : Int32))]))
      refine own_go (fun _ k => XS.goto X44.here hx rfl (pc0 := 75) (pc' := 79) rfl (hb hby at_75) (by decide) (by decide) k) ?_
      show OwnGo p e below _ (T44.setTop (mkF m 79 #[.val (.long q1), .second, .val (.long q2), .second, .val (.int p3), .val (.ref a31), .val (.int (p3 &&& (3 : Int32))), .val (.ref r9_41), .unset, .unset, .unset, .unset, .unset] [(.int (1 : Int32))]))
      obtain ⟨fs, hr, hrun, hended, hW, hsame⟩ := X44.leave (v := some (.int (1 : Int32))) (fun h => by rw [Bd.returns] at h; cases h)
      refine ⟨_, _, retOut X44 hx Bd.returns rfl (Or.inl ⟨rfl, Or.inr (Or.inl rfl), _, rfl⟩) (hb hby at_79) hr, hrun, hended, _, _, rfl, ?_, ⟨_, rfl⟩, hW, hsame.mono (by decide) (by decide)⟩
      show Q_law Z aC cC q1 q2 p3 h0 n0 _ T44.heap _
      rw [K44]
      exact ⟨rfl, N44⟩
    · refine own_go (fun _ k => XS.icmpYes X37.here hx rfl (pc0 := 55) (pc' := 80) rfl (hb hby at_55) rfl (feq hc40).2 (by decide) (by decide) k) ?_
      show OwnGo p e below _ (T37.setTop (mkF m 80 #[.val (.long q1), .second, .val (.long q2), .second, .val (.int p3), .val (.ref a31), .val (.int (p3 &&& (3 : Int32))), .unset, .unset, .unset, .unset, .unset, .unset] []))
      refine own_go (fun _ k => XS.iload X37.here hx rfl (hb hby at_80) rfl k) ?_
      show OwnGo p e below _ (T37.setTop (mkF m 82 #[.val (.long q1), .second, .val (.long q2), .second, .val (.int p3), .val (.ref a31), .val (.int (p3 &&& (3 : Int32))), .unset, .unset, .unset, .unset, .unset, .unset] [(.int (p3 &&& (3 : Int32)))]))
      refine own_go (fun _ k => XS.iconst X37.here hx rfl (hb hby at_82) k) ?_
      show OwnGo p e below _ (T37.setTop (mkF m 83 #[.val (.long q1), .second, .val (.long q2), .second, .val (.int p3), .val (.ref a31), .val (.int (p3 &&& (3 : Int32))), .unset, .unset, .unset, .unset, .unset, .unset] [(.int (3 : Int32)), (.int (p3 &&& (3 : Int32)))]))
      by_cases hc45 : (p3 &&& (3 : Int32)) = (3 : Int32)
      · refine own_go (fun _ k => XS.icmpNo X37.here hx rfl (hb hby at_83) rfl (teq hc45).2 k) ?_
        show OwnGo p e below _ (T37.setTop (mkF m 86 #[.val (.long q1), .second, .val (.long q2), .second, .val (.int p3), .val (.ref a31), .val (.int (p3 &&& (3 : Int32))), .unset, .unset, .unset, .unset, .unset, .unset] []))
        refine own_go (fun _ k => XS.lloadN X37.here hx rfl (hb hby at_86) rfl k) ?_
        show OwnGo p e below _ (T37.setTop (mkF m 87 #[.val (.long q1), .second, .val (.long q2), .second, .val (.int p3), .val (.ref a31), .val (.int (p3 &&& (3 : Int32))), .unset, .unset, .unset, .unset, .unset, .unset] [(.long q1)]))
        refine own_go (fun _ k => XS.goto X37.here hx rfl (pc0 := 87) (pc' := 91) rfl (hb hby at_87) (by decide) (by decide) k) ?_
        show OwnGo p e below _ (T37.setTop (mkF m 91 #[.val (.long q1), .second, .val (.long q2), .second, .val (.int p3), .val (.ref a31), .val (.int (p3 &&& (3 : Int32))), .unset, .unset, .unset, .unset, .unset, .unset] [(.long q1)]))
        refine own_go (fun _ k => XS.lstore X37.here hx rfl (hb hby at_91) rfl (l' := #[.val (.long q1), .second, .val (.long q2), .second, .val (.int p3), .val (.ref a31), .val (.int (p3 &&& (3 : Int32))), .val (.long q1), .second, .unset, .unset, .unset, .unset]) rfl k) ?_
        show OwnGo p e below _ (T37.setTop (mkF m 93 #[.val (.long q1), .second, .val (.long q2), .second, .val (.int p3), .val (.ref a31), .val (.int (p3 &&& (3 : Int32))), .val (.long q1), .second, .unset, .unset, .unset, .unset] []))
        obtain ⟨T46, h46, X46, e46, E46, A46, D46, -, st46⟩ := newO X37 hx hZ hown (hw _ (List.mem_of_getElem? (i := 0) rfl)) (hw _ (List.mem_of_getElem? (i := 1) rfl)) (hw _ (List.mem_of_getElem? (i := 2) rfl)) K37 (g := (mkF m 93 #[.val (.long q1), .second, .val (.long q2), .second, .val (.int p3), .val (.ref a31), .val (.int (p3 &&& (3 : Int32))), .val (.long q1), .second, .unset, .unset, .unset, .unset] [])) rfl (hb hby at_93) (by decide) (by decide)
        obtain ⟨a46, g46⟩ : ∃ z, z = T34.heap.size := ⟨_, rfl⟩
        rw [← g46] at A46 D46 st46
        have ge46 : n0 ≤ a46 := Nat.le_trans (own_sz O34) (Nat.le_of_eq g46.symm)
        have gh46 : h0.size ≤ a46 := Nat.le_trans z35 (Nat.le_of_eq g46.symm)
        have ne47 : a31 ≠ a46 := own_newne g46 F36.lt
        have O46 := O34.ext E46
        have z48 : h0.size ≤ h46.size := Nat.le_trans z35 E46.1
        have F49 : Fld Z h46 a46 "com/example/exdel/exdel/MessageId" "value" "J" (.long (0 : Int64)) := D46 (Or.inr (hw _ (List.mem_of_getElem? (i := 10) rfl))) (ty := .long) (by decide)
        refine own_go st46 ?_
        show OwnGo p e below _ (T46.setTop (mkF m 96 #[.val (.long q1), .second, .val (.long q2), .second, .val (.int p3), .val (.ref a31), .val (.int (p3 &&& (3 : Int32))), .val (.long q1), .second, .unset, .unset, .unset, .unset] [(.ref a46)]))
        refine own_go (fun _ k => XS.dup X46.here hx rfl (hb hby at_96) rfl rfl k) ?_
        show OwnGo p e below _ (T46.setTop (mkF m 97 #[.val (.long q1), .second, .val (.long q2), .second, .val (.int p3), .val (.ref a31), .val (.int (p3 &&& (3 : Int32))), .val (.long q1), .second, .unset, .unset, .unset, .unset] [(.ref a46), (.ref a46)]))
        refine own_go (fun _ k => XS.lload X46.here hx rfl (hb hby at_97) rfl k) ?_
        show OwnGo p e below _ (T46.setTop (mkF m 99 #[.val (.long q1), .second, .val (.long q2), .second, .val (.int p3), .val (.ref a31), .val (.int (p3 &&& (3 : Int32))), .val (.long q1), .second, .unset, .unset, .unset, .unset] [(.long q1), (.ref a46), (.ref a46)]))
        obtain ⟨_, _, ⟨T50, L50, k50, n50⟩, -, X50, ⟨Lc50, hQ50, l50, y50, z50⟩, st50⟩ := X46.specialBack hx (y := (⟨"com/example/exdel/exdel/MessageId", "<init>", "(J)V"⟩ : MethodName)) rfl hown (mvT hZ (hw _ (List.mem_of_getElem? (i := 3) rfl))) (mvT hZ (hw _ (List.mem_of_getElem? (i := 4) rfl))) (mvT hZ (hw _ (List.mem_of_getElem? (i := 5) rfl))) (by decide) (backOf (W := 1) (rm_mi l Z a0 hw [] aC cC F0 a46 q1 h46 n0 O46 F49 A46 ge46) hZ (hw _ (List.mem_of_getElem? (i := 5) rfl)) (hw _ (List.mem_of_getElem? (i := 2) rfl)) (by decide) (by decide)) (g := (mkF m 99 #[.val (.long q1), .second, .val (.long q2), .second, .val (.int p3), .val (.ref a31), .val (.int (p3 &&& (3 : Int32))), .val (.long q1), .second, .unset, .unset, .unset, .unset] [(.long q1), (.ref a46), (.ref a46)])) rfl (by rw [hml]; rfl) (Steps.refl _) (a := a46) (argsL := [(.long q1)]) (rest := [(.ref a46)]) (lenOf pd_J__V rfl) rfl (by show 2 * 0 + _ ≤ _; exact Nat.le_of_eq rfl) (hb hby at_99) (fun _ _ => ⟨rfl, e46, (by decide : 2 + 0 ≤ _), (by decide : 2 + 0 ≤ _)⟩)
        dsimp only [Pt.U, Pt.locs, Pt.cells, Pt.slots] at X50 l50 y50 z50 st50 hQ50
        subst l50 y50 z50
        obtain ⟨rfl, Nq50, K50, x50_0⟩ := hQ50
        have N50 := Fr.app N37 Nq50
        have O50 := O46.keep K50 (allS ge46 all0)
        have e50 : T50.heap = T50.heap := rfl
        have z51 : h0.size ≤ T50.heap.size := Nat.le_trans z48 K50.1
        refine own_go (fun _ k => st50.trans k) ?_
        show OwnGo p e below _ (T50.setTop (mkF m 102 #[.val (.long q1), .second, .val (.long q2), .second, .val (.int p3), .val (.ref a31), .val (.int (p3 &&& (3 : Int32))), .val (.long q1), .second, .unset, .unset, .unset, .unset] [(.ref a46)]))
        refine own_go (fun _ k => XS.astore X50.here hx rfl (hb hby at_102) rfl rfl (l' := #[.val (.long q1), .second, .val (.long q2), .second, .val (.int p3), .val (.ref a31), .val (.int (p3 &&& (3 : Int32))), .val (.long q1), .second, .val (.ref a46), .unset, .unset, .unset]) rfl k) ?_
        show OwnGo p e below _ (T50.setTop (mkF m 104 #[.val (.long q1), .second, .val (.long q2), .second, .val (.int p3), .val (.ref a31), .val (.int (p3 &&& (3 : Int32))), .val (.long q1), .second, .val (.ref a46), .unset, .unset, .unset] []))
        refine own_go (fun _ k => XS.lloadN X50.here hx rfl (hb hby at_104) rfl k) ?_
        show OwnGo p e below _ (T50.setTop (mkF m 105 #[.val (.long q1), .second, .val (.long q2), .second, .val (.int p3), .val (.ref a31), .val (.int (p3 &&& (3 : Int32))), .val (.long q1), .second, .val (.ref a46), .unset, .unset, .unset] [(.long q1)]))
        refine own_go (fun _ k => XS.lload X50.here hx rfl (hb hby at_105) rfl k) ?_
        show OwnGo p e below _ (T50.setTop (mkF m 107 #[.val (.long q1), .second, .val (.long q2), .second, .val (.int p3), .val (.ref a31), .val (.int (p3 &&& (3 : Int32))), .val (.long q1), .second, .val (.ref a46), .unset, .unset, .unset] [(.long q1), (.long q1)]))
        refine own_go (fun _ k => XS.lcmp X50.here hx rfl (hb hby at_107) rfl k) ?_
        show OwnGo p e below _ (T50.setTop (mkF m 108 #[.val (.long q1), .second, .val (.long q2), .second, .val (.int p3), .val (.ref a31), .val (.int (p3 &&& (3 : Int32))), .val (.long q1), .second, .val (.ref a46), .unset, .unset, .unset] [(.int (lcmpW q1 q1))]))
        refine own_go (fun _ k => XS.ifNo X50.here hx rfl (hb hby at_108) rfl ((if0 _ _).trans (teq ((lw_eq _ _).mpr rfl)).2) k) ?_
        show OwnGo p e below _ (T50.setTop (mkF m 111 #[.val (.long q1), .second, .val (.long q2), .second, .val (.int p3), .val (.ref a31), .val (.int (p3 &&& (3 : Int32))), .val (.long q1), .second, .val (.ref a46), .unset, .unset, .unset] []))
        refine own_go (fun _ k => XS.iconst X50.here hx rfl (hb hby at_111) k) ?_
        show OwnGo p e below _ (T50.setTop (mkF m 112 #[.val (.long q1), .second, .val (.long q2), .second, .val (.int p3), .val (.ref a31), .val (.int (p3 &&& (3 : Int32))), .val (.long q1), .second, .val (.ref a46), .unset, .unset, .unset] [(.int (1 : Int32))]))
        refine own_go (fun _ k => XS.goto X50.here hx rfl (pc0 := 112) (pc' := 116) rfl (hb hby at_112) (by decide) (by decide) k) ?_
        show OwnGo p e below _ (T50.setTop (mkF m 116 #[.val (.long q1), .second, .val (.long q2), .second, .val (.int p3), .val (.ref a31), .val (.int (p3 &&& (3 : Int32))), .val (.long q1), .second, .val (.ref a46), .unset, .unset, .unset] [(.int (1 : Int32))]))
        refine own_go (fun _ k => XS.istore X50.here hx rfl (hb hby at_116) rfl (l' := #[.val (.long q1), .second, .val (.long q2), .second, .val (.int p3), .val (.ref a31), .val (.int (p3 &&& (3 : Int32))), .val (.long q1), .second, .val (.ref a46), .val (.int (1 : Int32)), .unset, .unset]) rfl k) ?_
        show OwnGo p e below _ (T50.setTop (mkF m 118 #[.val (.long q1), .second, .val (.long q2), .second, .val (.int p3), .val (.ref a31), .val (.int (p3 &&& (3 : Int32))), .val (.long q1), .second, .val (.ref a46), .val (.int (1 : Int32)), .unset, .unset] []))
        refine own_go (fun _ k => XS.aload X50.here hx rfl (hb hby at_118) rfl rfl k) ?_
        show OwnGo p e below _ (T50.setTop (mkF m 120 #[.val (.long q1), .second, .val (.long q2), .second, .val (.int p3), .val (.ref a31), .val (.int (p3 &&& (3 : Int32))), .val (.long q1), .second, .val (.ref a46), .val (.int (1 : Int32)), .unset, .unset] [(.ref a46)]))
        refine own_go (fun _ k => XS.astore X50.here hx rfl (hb hby at_120) rfl rfl (l' := #[.val (.long q1), .second, .val (.long q2), .second, .val (.int p3), .val (.ref a31), .val (.int (p3 &&& (3 : Int32))), .val (.long q1), .second, .val (.ref a46), .val (.int (1 : Int32)), .val (.ref a46), .unset]) rfl k) ?_
        show OwnGo p e below _ (T50.setTop (mkF m 122 #[.val (.long q1), .second, .val (.long q2), .second, .val (.int p3), .val (.ref a31), .val (.int (p3 &&& (3 : Int32))), .val (.long q1), .second, .val (.ref a46), .val (.int (1 : Int32)), .val (.ref a46), .unset] []))
        refine own_go (fun _ k => XS.aload X50.here hx rfl (hb hby at_122) rfl rfl k) ?_
        show OwnGo p e below _ (T50.setTop (mkF m 124 #[.val (.long q1), .second, .val (.long q2), .second, .val (.int p3), .val (.ref a31), .val (.int (p3 &&& (3 : Int32))), .val (.long q1), .second, .val (.ref a46), .val (.int (1 : Int32)), .val (.ref a46), .unset] [(.ref a31)]))
        refine own_go (fun _ k => XS.astore X50.here hx rfl (hb hby at_124) rfl rfl (l' := #[.val (.long q1), .second, .val (.long q2), .second, .val (.int p3), .val (.ref a31), .val (.int (p3 &&& (3 : Int32))), .val (.long q1), .second, .val (.ref a46), .val (.int (1 : Int32)), .val (.ref a46), .val (.ref a31)]) rfl k) ?_
        show OwnGo p e below _ (T50.setTop (mkF m 126 #[.val (.long q1), .second, .val (.long q2), .second, .val (.int p3), .val (.ref a31), .val (.int (p3 &&& (3 : Int32))), .val (.long q1), .second, .val (.ref a46), .val (.int (1 : Int32)), .val (.ref a46), .val (.ref a31)] []))
        refine own_go (fun _ k => XS.aload X50.here hx rfl (hb hby at_126) rfl rfl k) ?_
        show OwnGo p e below _ (T50.setTop (mkF m 128 #[.val (.long q1), .second, .val (.long q2), .second, .val (.int p3), .val (.ref a31), .val (.int (p3 &&& (3 : Int32))), .val (.long q1), .second, .val (.ref a46), .val (.int (1 : Int32)), .val (.ref a46), .val (.ref a31)] [(.ref a31)]))
        refine own_go (fun _ k => XS.aload X50.here hx rfl (hb hby at_128) rfl rfl k) ?_
        show OwnGo p e below _ (T50.setTop (mkF m 130 #[.val (.long q1), .second, .val (.long q2), .second, .val (.int p3), .val (.ref a31), .val (.int (p3 &&& (3 : Int32))), .val (.long q1), .second, .val (.ref a46), .val (.int (1 : Int32)), .val (.ref a46), .val (.ref a31)] [(.ref a46), (.ref a31)]))
        have F52 := ((F36.ext E46).keep K50)
        have F53 := (A46.keep K50)
        have F54 := ((x34_0.ext E46).keep K50 (ninS ne47 nin0))
        obtain ⟨cq55, kq55, qa55, qb55, qc55⟩ := isOf hZ e50 F52
        obtain ⟨_, _, ⟨T55, L55, k55, n55⟩, -, X55, ⟨Lc55, hQ55, l55, y55, z55⟩, st55⟩ := X50.virtualBack hx (y := (⟨"com/example/exdel/exdel/MessageId", "equals", "(Ljava/lang/Object;)Z"⟩ : MethodName)) (z := (⟨"com/example/exdel/exdel/MessageId", "equals", "(Ljava/lang/Object;)Z"⟩ : MethodName)) hown (mvT hZ (hw _ (List.mem_of_getElem? (i := 11) rfl))) (mvT hZ (hw _ (List.mem_of_getElem? (i := 12) rfl))) (notFace_of_selects (args := #[]) (mvT hZ (hw _ (List.mem_of_getElem? (i := 14) rfl)))) (mvT hZ (hw _ (List.mem_of_getElem? (i := 14) rfl))) (mvT hZ (hw _ (List.mem_of_getElem? (i := 13) rfl))) (by decide) (backOf (W := 0) (rm_eqM l Z a0 hw [] aC cC F0 a31 a46 q1 q1 (1 : Int32) T50.heap n0 O50 F54 x50_0 F53 (if_pos rfl)) hZ (hw _ (List.mem_of_getElem? (i := 15) rfl)) (hw _ (List.mem_of_getElem? (i := 2) rfl)) (by decide) (by decide)) qa55 qc55 (g := (mkF m 130 #[.val (.long q1), .second, .val (.long q2), .second, .val (.int p3), .val (.ref a31), .val (.int (p3 &&& (3 : Int32))), .val (.long q1), .second, .val (.ref a46), .val (.int (1 : Int32)), .val (.ref a46), .val (.ref a31)] [(.ref a46), (.ref a31)])) rfl (by rw [hml]; rfl) (Steps.refl _) (argsL := [(.ref a46)]) (rest := []) (lenOf pd_Ljava_lang_Object___Z rfl) rfl (by show 2 * 0 + _ ≤ _; exact Nat.le_of_eq rfl) (hb hby at_130) (fun _ _ => ⟨rfl, e50, (by decide : 2 + 0 ≤ _), (by decide : 2 + 0 ≤ _)⟩)
        dsimp only [Pt.U, Pt.locs, Pt.cells, Pt.slots] at X55 l55 y55 z55 st55 hQ55
        subst l55 y55 z55
        obtain ⟨rfl, Nq55, K55⟩ := hQ55
        have N55 := Fr.app N50 Nq55
        refine own_go (fun _ k => st55.trans k) ?_
        show OwnGo p e below _ (T55.setTop (mkF m 133 #[.val (.long q1), .second, .val (.long q2), .second, .val (.int p3), .val (.ref a31), .val (.int (p3 &&& (3 : Int32))), .val (.long q1), .second, .val (.ref a46), .val (.int (1 : Int32)), .val (.ref a46), .val (.ref a31)] [(.int (1 : Int32))]))
        refine own_go (fun _ k => XS.iload X55.here hx rfl (hb hby at_133) rfl k) ?_
        show OwnGo p e below _ (T55.setTop (mkF m 135 #[.val (.long q1), .second, .val (.long q2), .second, .val (.int p3), .val (.ref a31), .val (.int (p3 &&& (3 : Int32))), .val (.long q1), .second, .val (.ref a46), .val (.int (1 : Int32)), .val (.ref a46), .val (.ref a31)] [(.int (1 : Int32)), (.int (1 : Int32))]))
        refine own_go (fun _ k => XS.icmpNo X55.here hx rfl (hb hby at_135) rfl (by decide) k) ?_
        show OwnGo p e below _ (T55.setTop (mkF m 138 #[.val (.long q1), .second, .val (.long q2), .second, .val (.int p3), .val (.ref a31), .val (.int (p3 &&& (3 : Int32))), .val (.long q1), .second, .val (.ref a46), .val (.int (1 : Int32)), .val (.ref a46), .val (.ref a31)] []))
        refine own_go (fun _ k => XS.aload X55.here hx rfl (hb hby at_138) rfl rfl k) ?_
        show OwnGo p e below _ (T55.setTop (mkF m 140 #[.val (.long q1), .second, .val (.long q2), .second, .val (.int p3), .val (.ref a31), .val (.int (p3 &&& (3 : Int32))), .val (.long q1), .second, .val (.ref a46), .val (.int (1 : Int32)), .val (.ref a46), .val (.ref a31)] [(.ref a46)]))
        refine own_go (fun _ k => XS.aload X55.here hx rfl (hb hby at_140) rfl rfl k) ?_
        show OwnGo p e below _ (T55.setTop (mkF m 142 #[.val (.long q1), .second, .val (.long q2), .second, .val (.int p3), .val (.ref a31), .val (.int (p3 &&& (3 : Int32))), .val (.long q1), .second, .val (.ref a46), .val (.int (1 : Int32)), .val (.ref a46), .val (.ref a31)] [(.ref a31), (.ref a46)]))
        obtain ⟨cq56, kq56, qa56, qb56, qc56⟩ := isOf hZ K55 F53
        obtain ⟨_, _, ⟨T56, L56, k56, n56⟩, -, X56, ⟨Lc56, hQ56, l56, y56, z56⟩, st56⟩ := X55.virtualBack hx (y := (⟨"com/example/exdel/exdel/MessageId", "equals", "(Ljava/lang/Object;)Z"⟩ : MethodName)) (z := (⟨"com/example/exdel/exdel/MessageId", "equals", "(Ljava/lang/Object;)Z"⟩ : MethodName)) hown (mvT hZ (hw _ (List.mem_of_getElem? (i := 11) rfl))) (mvT hZ (hw _ (List.mem_of_getElem? (i := 12) rfl))) (notFace_of_selects (args := #[]) (mvT hZ (hw _ (List.mem_of_getElem? (i := 14) rfl)))) (mvT hZ (hw _ (List.mem_of_getElem? (i := 14) rfl))) (mvT hZ (hw _ (List.mem_of_getElem? (i := 13) rfl))) (by decide) (backOf (W := 0) (rm_eqM l Z a0 hw [] aC cC F0 a46 a31 q1 q1 (1 : Int32) T50.heap n0 O50 x50_0 F54 F52 (if_pos rfl)) hZ (hw _ (List.mem_of_getElem? (i := 15) rfl)) (hw _ (List.mem_of_getElem? (i := 2) rfl)) (by decide) (by decide)) qa56 qc56 (g := (mkF m 142 #[.val (.long q1), .second, .val (.long q2), .second, .val (.int p3), .val (.ref a31), .val (.int (p3 &&& (3 : Int32))), .val (.long q1), .second, .val (.ref a46), .val (.int (1 : Int32)), .val (.ref a46), .val (.ref a31)] [(.ref a31), (.ref a46)])) rfl (by rw [hml]; rfl) (Steps.refl _) (argsL := [(.ref a31)]) (rest := []) (lenOf pd_Ljava_lang_Object___Z rfl) rfl (by show 2 * 0 + _ ≤ _; exact Nat.le_of_eq rfl) (hb hby at_142) (fun _ _ => ⟨rfl, K55, (by decide : 2 + 0 ≤ _), (by decide : 2 + 0 ≤ _)⟩)
        dsimp only [Pt.U, Pt.locs, Pt.cells, Pt.slots] at X56 l56 y56 z56 st56 hQ56
        subst l56 y56 z56
        obtain ⟨rfl, Nq56, K56⟩ := hQ56
        have N56 := Fr.app N55 Nq56
        refine own_go (fun _ k => st56.trans k) ?_
        show OwnGo p e below _ (T56.setTop (mkF m 145 #[.val (.long q1), .second, .val (.long q2), .second, .val (.int p3), .val (.ref a31), .val (.int (p3 &&& (3 : Int32))), .val (.long q1), .second, .val (.ref a46), .val (.int (1 : Int32)), .val (.ref a46), .val (.ref a31)] [(.int (1 : Int32))]))
        refine own_go (fun _ k => XS.iload X56.here hx rfl (hb hby at_145) rfl k) ?_
        show OwnGo p e below _ (T56.setTop (mkF m 147 #[.val (.long q1), .second, .val (.long q2), .second, .val (.int p3), .val (.ref a31), .val (.int (p3 &&& (3 : Int32))), .val (.long q1), .second, .val (.ref a46), .val (.int (1 : Int32)), .val (.ref a46), .val (.ref a31)] [(.int (1 : Int32)), (.int (1 : Int32))]))
        refine own_go (fun _ k => XS.icmpNo X56.here hx rfl (hb hby at_147) rfl (by decide) k) ?_
        show OwnGo p e below _ (T56.setTop (mkF m 150 #[.val (.long q1), .second, .val (.long q2), .second, .val (.int p3), .val (.ref a31), .val (.int (p3 &&& (3 : Int32))), .val (.long q1), .second, .val (.ref a46), .val (.int (1 : Int32)), .val (.ref a46), .val (.ref a31)] []))
        refine own_go (fun _ k => XS.iconst X56.here hx rfl (hb hby at_150) k) ?_
        show OwnGo p e below _ (T56.setTop (mkF m 151 #[.val (.long q1), .second, .val (.long q2), .second, .val (.int p3), .val (.ref a31), .val (.int (p3 &&& (3 : Int32))), .val (.long q1), .second, .val (.ref a46), .val (.int (1 : Int32)), .val (.ref a46), .val (.ref a31)] [(.int (1 : Int32))]))
        refine own_go (fun _ k => XS.goto X56.here hx rfl (pc0 := 151) (pc' := 155) rfl (hb hby at_151) (by decide) (by decide) k) ?_
        show OwnGo p e below _ (T56.setTop (mkF m 155 #[.val (.long q1), .second, .val (.long q2), .second, .val (.int p3), .val (.ref a31), .val (.int (p3 &&& (3 : Int32))), .val (.long q1), .second, .val (.ref a46), .val (.int (1 : Int32)), .val (.ref a46), .val (.ref a31)] [(.int (1 : Int32))]))
        obtain ⟨fs, hr, hrun, hended, hW, hsame⟩ := X56.leave (v := some (.int (1 : Int32))) (fun h => by rw [Bd.returns] at h; cases h)
        refine ⟨_, _, retOut X56 hx Bd.returns rfl (Or.inl ⟨rfl, Or.inr (Or.inl rfl), _, rfl⟩) (hb hby at_155) hr, hrun, hended, _, _, rfl, ?_, ⟨_, rfl⟩, hW, hsame.mono (by decide) (by decide)⟩
        show Q_law Z aC cC q1 q2 p3 h0 n0 _ T56.heap _
        rw [K56]
        exact ⟨rfl, N56⟩
      · refine own_go (fun _ k => XS.icmpYes X37.here hx rfl (pc0 := 83) (pc' := 90) rfl (hb hby at_83) rfl (feq hc45).2 (by decide) (by decide) k) ?_
        show OwnGo p e below _ (T37.setTop (mkF m 90 #[.val (.long q1), .second, .val (.long q2), .second, .val (.int p3), .val (.ref a31), .val (.int (p3 &&& (3 : Int32))), .unset, .unset, .unset, .unset, .unset, .unset] []))
        refine own_go (fun _ k => XS.lloadN X37.here hx rfl (hb hby at_90) rfl k) ?_
        show OwnGo p e below _ (T37.setTop (mkF m 91 #[.val (.long q1), .second, .val (.long q2), .second, .val (.int p3), .val (.ref a31), .val (.int (p3 &&& (3 : Int32))), .unset, .unset, .unset, .unset, .unset, .unset] [(.long q2)]))
        refine own_go (fun _ k => XS.lstore X37.here hx rfl (hb hby at_91) rfl (l' := #[.val (.long q1), .second, .val (.long q2), .second, .val (.int p3), .val (.ref a31), .val (.int (p3 &&& (3 : Int32))), .val (.long q2), .second, .unset, .unset, .unset, .unset]) rfl k) ?_
        show OwnGo p e below _ (T37.setTop (mkF m 93 #[.val (.long q1), .second, .val (.long q2), .second, .val (.int p3), .val (.ref a31), .val (.int (p3 &&& (3 : Int32))), .val (.long q2), .second, .unset, .unset, .unset, .unset] []))
        obtain ⟨T57, h57, X57, e57, E57, A57, D57, -, st57⟩ := newO X37 hx hZ hown (hw _ (List.mem_of_getElem? (i := 0) rfl)) (hw _ (List.mem_of_getElem? (i := 1) rfl)) (hw _ (List.mem_of_getElem? (i := 2) rfl)) K37 (g := (mkF m 93 #[.val (.long q1), .second, .val (.long q2), .second, .val (.int p3), .val (.ref a31), .val (.int (p3 &&& (3 : Int32))), .val (.long q2), .second, .unset, .unset, .unset, .unset] [])) rfl (hb hby at_93) (by decide) (by decide)
        obtain ⟨a57, g57⟩ : ∃ z, z = T34.heap.size := ⟨_, rfl⟩
        rw [← g57] at A57 D57 st57
        have ge57 : n0 ≤ a57 := Nat.le_trans (own_sz O34) (Nat.le_of_eq g57.symm)
        have gh57 : h0.size ≤ a57 := Nat.le_trans z35 (Nat.le_of_eq g57.symm)
        have ne58 : a31 ≠ a57 := own_newne g57 F36.lt
        have O57 := O34.ext E57
        have z59 : h0.size ≤ h57.size := Nat.le_trans z35 E57.1
        have F60 : Fld Z h57 a57 "com/example/exdel/exdel/MessageId" "value" "J" (.long (0 : Int64)) := D57 (Or.inr (hw _ (List.mem_of_getElem? (i := 10) rfl))) (ty := .long) (by decide)
        refine own_go st57 ?_
        show OwnGo p e below _ (T57.setTop (mkF m 96 #[.val (.long q1), .second, .val (.long q2), .second, .val (.int p3), .val (.ref a31), .val (.int (p3 &&& (3 : Int32))), .val (.long q2), .second, .unset, .unset, .unset, .unset] [(.ref a57)]))
        refine own_go (fun _ k => XS.dup X57.here hx rfl (hb hby at_96) rfl rfl k) ?_
        show OwnGo p e below _ (T57.setTop (mkF m 97 #[.val (.long q1), .second, .val (.long q2), .second, .val (.int p3), .val (.ref a31), .val (.int (p3 &&& (3 : Int32))), .val (.long q2), .second, .unset, .unset, .unset, .unset] [(.ref a57), (.ref a57)]))
        refine own_go (fun _ k => XS.lload X57.here hx rfl (hb hby at_97) rfl k) ?_
        show OwnGo p e below _ (T57.setTop (mkF m 99 #[.val (.long q1), .second, .val (.long q2), .second, .val (.int p3), .val (.ref a31), .val (.int (p3 &&& (3 : Int32))), .val (.long q2), .second, .unset, .unset, .unset, .unset] [(.long q2), (.ref a57), (.ref a57)]))
        obtain ⟨_, _, ⟨T61, L61, k61, n61⟩, -, X61, ⟨Lc61, hQ61, l61, y61, z61⟩, st61⟩ := X57.specialBack hx (y := (⟨"com/example/exdel/exdel/MessageId", "<init>", "(J)V"⟩ : MethodName)) rfl hown (mvT hZ (hw _ (List.mem_of_getElem? (i := 3) rfl))) (mvT hZ (hw _ (List.mem_of_getElem? (i := 4) rfl))) (mvT hZ (hw _ (List.mem_of_getElem? (i := 5) rfl))) (by decide) (backOf (W := 1) (rm_mi l Z a0 hw [] aC cC F0 a57 q2 h57 n0 O57 F60 A57 ge57) hZ (hw _ (List.mem_of_getElem? (i := 5) rfl)) (hw _ (List.mem_of_getElem? (i := 2) rfl)) (by decide) (by decide)) (g := (mkF m 99 #[.val (.long q1), .second, .val (.long q2), .second, .val (.int p3), .val (.ref a31), .val (.int (p3 &&& (3 : Int32))), .val (.long q2), .second, .unset, .unset, .unset, .unset] [(.long q2), (.ref a57), (.ref a57)])) rfl (by rw [hml]; rfl) (Steps.refl _) (a := a57) (argsL := [(.long q2)]) (rest := [(.ref a57)]) (lenOf pd_J__V rfl) rfl (by show 2 * 0 + _ ≤ _; exact Nat.le_of_eq rfl) (hb hby at_99) (fun _ _ => ⟨rfl, e57, (by decide : 2 + 0 ≤ _), (by decide : 2 + 0 ≤ _)⟩)
        dsimp only [Pt.U, Pt.locs, Pt.cells, Pt.slots] at X61 l61 y61 z61 st61 hQ61
        subst l61 y61 z61
        obtain ⟨rfl, Nq61, K61, x61_0⟩ := hQ61
        have N61 := Fr.app N37 Nq61
        have O61 := O57.keep K61 (allS ge57 all0)
        have e61 : T61.heap = T61.heap := rfl
        have z62 : h0.size ≤ T61.heap.size := Nat.le_trans z59 K61.1
        refine own_go (fun _ k => st61.trans k) ?_
        show OwnGo p e below _ (T61.setTop (mkF m 102 #[.val (.long q1), .second, .val (.long q2), .second, .val (.int p3), .val (.ref a31), .val (.int (p3 &&& (3 : Int32))), .val (.long q2), .second, .unset, .unset, .unset, .unset] [(.ref a57)]))
        refine own_go (fun _ k => XS.astore X61.here hx rfl (hb hby at_102) rfl rfl (l' := #[.val (.long q1), .second, .val (.long q2), .second, .val (.int p3), .val (.ref a31), .val (.int (p3 &&& (3 : Int32))), .val (.long q2), .second, .val (.ref a57), .unset, .unset, .unset]) rfl k) ?_
        show OwnGo p e below _ (T61.setTop (mkF m 104 #[.val (.long q1), .second, .val (.long q2), .second, .val (.int p3), .val (.ref a31), .val (.int (p3 &&& (3 : Int32))), .val (.long q2), .second, .val (.ref a57), .unset, .unset, .unset] []))
        refine own_go (fun _ k => XS.lloadN X61.here hx rfl (hb hby at_104) rfl k) ?_
        show OwnGo p e below _ (T61.setTop (mkF m 105 #[.val (.long q1), .second, .val (.long q2), .second, .val (.int p3), .val (.ref a31), .val (.int (p3 &&& (3 : Int32))), .val (.long q2), .second, .val (.ref a57), .unset, .unset, .unset] [(.long q1)]))
        refine own_go (fun _ k => XS.lload X61.here hx rfl (hb hby at_105) rfl k) ?_
        show OwnGo p e below _ (T61.setTop (mkF m 107 #[.val (.long q1), .second, .val (.long q2), .second, .val (.int p3), .val (.ref a31), .val (.int (p3 &&& (3 : Int32))), .val (.long q2), .second, .val (.ref a57), .unset, .unset, .unset] [(.long q2), (.long q1)]))
        refine own_go (fun _ k => XS.lcmp X61.here hx rfl (hb hby at_107) rfl k) ?_
        show OwnGo p e below _ (T61.setTop (mkF m 108 #[.val (.long q1), .second, .val (.long q2), .second, .val (.int p3), .val (.ref a31), .val (.int (p3 &&& (3 : Int32))), .val (.long q2), .second, .val (.ref a57), .unset, .unset, .unset] [(.int (lcmpW q1 q2))]))
        by_cases hc63 : q1 = q2
        · refine own_go (fun _ k => XS.ifNo X61.here hx rfl (hb hby at_108) rfl ((if0 _ _).trans (teq ((lw_eq _ _).mpr hc63)).2) k) ?_
          show OwnGo p e below _ (T61.setTop (mkF m 111 #[.val (.long q1), .second, .val (.long q2), .second, .val (.int p3), .val (.ref a31), .val (.int (p3 &&& (3 : Int32))), .val (.long q2), .second, .val (.ref a57), .unset, .unset, .unset] []))
          refine own_go (fun _ k => XS.iconst X61.here hx rfl (hb hby at_111) k) ?_
          show OwnGo p e below _ (T61.setTop (mkF m 112 #[.val (.long q1), .second, .val (.long q2), .second, .val (.int p3), .val (.ref a31), .val (.int (p3 &&& (3 : Int32))), .val (.long q2), .second, .val (.ref a57), .unset, .unset, .unset] [(.int (1 : Int32))]))
          refine own_go (fun _ k => XS.goto X61.here hx rfl (pc0 := 112) (pc' := 116) rfl (hb hby at_112) (by decide) (by decide) k) ?_
          show OwnGo p e below _ (T61.setTop (mkF m 116 #[.val (.long q1), .second, .val (.long q2), .second, .val (.int p3), .val (.ref a31), .val (.int (p3 &&& (3 : Int32))), .val (.long q2), .second, .val (.ref a57), .unset, .unset, .unset] [(.int (1 : Int32))]))
          refine own_go (fun _ k => XS.istore X61.here hx rfl (hb hby at_116) rfl (l' := #[.val (.long q1), .second, .val (.long q2), .second, .val (.int p3), .val (.ref a31), .val (.int (p3 &&& (3 : Int32))), .val (.long q2), .second, .val (.ref a57), .val (.int (1 : Int32)), .unset, .unset]) rfl k) ?_
          show OwnGo p e below _ (T61.setTop (mkF m 118 #[.val (.long q1), .second, .val (.long q2), .second, .val (.int p3), .val (.ref a31), .val (.int (p3 &&& (3 : Int32))), .val (.long q2), .second, .val (.ref a57), .val (.int (1 : Int32)), .unset, .unset] []))
          refine own_go (fun _ k => XS.aload X61.here hx rfl (hb hby at_118) rfl rfl k) ?_
          show OwnGo p e below _ (T61.setTop (mkF m 120 #[.val (.long q1), .second, .val (.long q2), .second, .val (.int p3), .val (.ref a31), .val (.int (p3 &&& (3 : Int32))), .val (.long q2), .second, .val (.ref a57), .val (.int (1 : Int32)), .unset, .unset] [(.ref a57)]))
          refine own_go (fun _ k => XS.astore X61.here hx rfl (hb hby at_120) rfl rfl (l' := #[.val (.long q1), .second, .val (.long q2), .second, .val (.int p3), .val (.ref a31), .val (.int (p3 &&& (3 : Int32))), .val (.long q2), .second, .val (.ref a57), .val (.int (1 : Int32)), .val (.ref a57), .unset]) rfl k) ?_
          show OwnGo p e below _ (T61.setTop (mkF m 122 #[.val (.long q1), .second, .val (.long q2), .second, .val (.int p3), .val (.ref a31), .val (.int (p3 &&& (3 : Int32))), .val (.long q2), .second, .val (.ref a57), .val (.int (1 : Int32)), .val (.ref a57), .unset] []))
          refine own_go (fun _ k => XS.aload X61.here hx rfl (hb hby at_122) rfl rfl k) ?_
          show OwnGo p e below _ (T61.setTop (mkF m 124 #[.val (.long q1), .second, .val (.long q2), .second, .val (.int p3), .val (.ref a31), .val (.int (p3 &&& (3 : Int32))), .val (.long q2), .second, .val (.ref a57), .val (.int (1 : Int32)), .val (.ref a57), .unset] [(.ref a31)]))
          refine own_go (fun _ k => XS.astore X61.here hx rfl (hb hby at_124) rfl rfl (l' := #[.val (.long q1), .second, .val (.long q2), .second, .val (.int p3), .val (.ref a31), .val (.int (p3 &&& (3 : Int32))), .val (.long q2), .second, .val (.ref a57), .val (.int (1 : Int32)), .val (.ref a57), .val (.ref a31)]) rfl k) ?_
          show OwnGo p e below _ (T61.setTop (mkF m 126 #[.val (.long q1), .second, .val (.long q2), .second, .val (.int p3), .val (.ref a31), .val (.int (p3 &&& (3 : Int32))), .val (.long q2), .second, .val (.ref a57), .val (.int (1 : Int32)), .val (.ref a57), .val (.ref a31)] []))
          refine own_go (fun _ k => XS.aload X61.here hx rfl (hb hby at_126) rfl rfl k) ?_
          show OwnGo p e below _ (T61.setTop (mkF m 128 #[.val (.long q1), .second, .val (.long q2), .second, .val (.int p3), .val (.ref a31), .val (.int (p3 &&& (3 : Int32))), .val (.long q2), .second, .val (.ref a57), .val (.int (1 : Int32)), .val (.ref a57), .val (.ref a31)] [(.ref a31)]))
          refine own_go (fun _ k => XS.aload X61.here hx rfl (hb hby at_128) rfl rfl k) ?_
          show OwnGo p e below _ (T61.setTop (mkF m 130 #[.val (.long q1), .second, .val (.long q2), .second, .val (.int p3), .val (.ref a31), .val (.int (p3 &&& (3 : Int32))), .val (.long q2), .second, .val (.ref a57), .val (.int (1 : Int32)), .val (.ref a57), .val (.ref a31)] [(.ref a57), (.ref a31)]))
          have F64 := ((F36.ext E57).keep K61)
          have F65 := (A57.keep K61)
          have F66 := ((x34_0.ext E57).keep K61 (ninS ne58 nin0))
          obtain ⟨cq67, kq67, qa67, qb67, qc67⟩ := isOf hZ e61 F64
          obtain ⟨_, _, ⟨T67, L67, k67, n67⟩, -, X67, ⟨Lc67, hQ67, l67, y67, z67⟩, st67⟩ := X61.virtualBack hx (y := (⟨"com/example/exdel/exdel/MessageId", "equals", "(Ljava/lang/Object;)Z"⟩ : MethodName)) (z := (⟨"com/example/exdel/exdel/MessageId", "equals", "(Ljava/lang/Object;)Z"⟩ : MethodName)) hown (mvT hZ (hw _ (List.mem_of_getElem? (i := 11) rfl))) (mvT hZ (hw _ (List.mem_of_getElem? (i := 12) rfl))) (notFace_of_selects (args := #[]) (mvT hZ (hw _ (List.mem_of_getElem? (i := 14) rfl)))) (mvT hZ (hw _ (List.mem_of_getElem? (i := 14) rfl))) (mvT hZ (hw _ (List.mem_of_getElem? (i := 13) rfl))) (by decide) (backOf (W := 0) (rm_eqM l Z a0 hw [] aC cC F0 a31 a57 q1 q2 (1 : Int32) T61.heap n0 O61 F66 x61_0 F65 (if_pos hc63.symm)) hZ (hw _ (List.mem_of_getElem? (i := 15) rfl)) (hw _ (List.mem_of_getElem? (i := 2) rfl)) (by decide) (by decide)) qa67 qc67 (g := (mkF m 130 #[.val (.long q1), .second, .val (.long q2), .second, .val (.int p3), .val (.ref a31), .val (.int (p3 &&& (3 : Int32))), .val (.long q2), .second, .val (.ref a57), .val (.int (1 : Int32)), .val (.ref a57), .val (.ref a31)] [(.ref a57), (.ref a31)])) rfl (by rw [hml]; rfl) (Steps.refl _) (argsL := [(.ref a57)]) (rest := []) (lenOf pd_Ljava_lang_Object___Z rfl) rfl (by show 2 * 0 + _ ≤ _; exact Nat.le_of_eq rfl) (hb hby at_130) (fun _ _ => ⟨rfl, e61, (by decide : 2 + 0 ≤ _), (by decide : 2 + 0 ≤ _)⟩)
          dsimp only [Pt.U, Pt.locs, Pt.cells, Pt.slots] at X67 l67 y67 z67 st67 hQ67
          subst l67 y67 z67
          obtain ⟨rfl, Nq67, K67⟩ := hQ67
          have N67 := Fr.app N61 Nq67
          refine own_go (fun _ k => st67.trans k) ?_
          show OwnGo p e below _ (T67.setTop (mkF m 133 #[.val (.long q1), .second, .val (.long q2), .second, .val (.int p3), .val (.ref a31), .val (.int (p3 &&& (3 : Int32))), .val (.long q2), .second, .val (.ref a57), .val (.int (1 : Int32)), .val (.ref a57), .val (.ref a31)] [(.int (1 : Int32))]))
          refine own_go (fun _ k => XS.iload X67.here hx rfl (hb hby at_133) rfl k) ?_
          show OwnGo p e below _ (T67.setTop (mkF m 135 #[.val (.long q1), .second, .val (.long q2), .second, .val (.int p3), .val (.ref a31), .val (.int (p3 &&& (3 : Int32))), .val (.long q2), .second, .val (.ref a57), .val (.int (1 : Int32)), .val (.ref a57), .val (.ref a31)] [(.int (1 : Int32)), (.int (1 : Int32))]))
          refine own_go (fun _ k => XS.icmpNo X67.here hx rfl (hb hby at_135) rfl (by decide) k) ?_
          show OwnGo p e below _ (T67.setTop (mkF m 138 #[.val (.long q1), .second, .val (.long q2), .second, .val (.int p3), .val (.ref a31), .val (.int (p3 &&& (3 : Int32))), .val (.long q2), .second, .val (.ref a57), .val (.int (1 : Int32)), .val (.ref a57), .val (.ref a31)] []))
          refine own_go (fun _ k => XS.aload X67.here hx rfl (hb hby at_138) rfl rfl k) ?_
          show OwnGo p e below _ (T67.setTop (mkF m 140 #[.val (.long q1), .second, .val (.long q2), .second, .val (.int p3), .val (.ref a31), .val (.int (p3 &&& (3 : Int32))), .val (.long q2), .second, .val (.ref a57), .val (.int (1 : Int32)), .val (.ref a57), .val (.ref a31)] [(.ref a57)]))
          refine own_go (fun _ k => XS.aload X67.here hx rfl (hb hby at_140) rfl rfl k) ?_
          show OwnGo p e below _ (T67.setTop (mkF m 142 #[.val (.long q1), .second, .val (.long q2), .second, .val (.int p3), .val (.ref a31), .val (.int (p3 &&& (3 : Int32))), .val (.long q2), .second, .val (.ref a57), .val (.int (1 : Int32)), .val (.ref a57), .val (.ref a31)] [(.ref a31), (.ref a57)]))
          obtain ⟨cq68, kq68, qa68, qb68, qc68⟩ := isOf hZ K67 F65
          obtain ⟨_, _, ⟨T68, L68, k68, n68⟩, -, X68, ⟨Lc68, hQ68, l68, y68, z68⟩, st68⟩ := X67.virtualBack hx (y := (⟨"com/example/exdel/exdel/MessageId", "equals", "(Ljava/lang/Object;)Z"⟩ : MethodName)) (z := (⟨"com/example/exdel/exdel/MessageId", "equals", "(Ljava/lang/Object;)Z"⟩ : MethodName)) hown (mvT hZ (hw _ (List.mem_of_getElem? (i := 11) rfl))) (mvT hZ (hw _ (List.mem_of_getElem? (i := 12) rfl))) (notFace_of_selects (args := #[]) (mvT hZ (hw _ (List.mem_of_getElem? (i := 14) rfl)))) (mvT hZ (hw _ (List.mem_of_getElem? (i := 14) rfl))) (mvT hZ (hw _ (List.mem_of_getElem? (i := 13) rfl))) (by decide) (backOf (W := 0) (rm_eqM l Z a0 hw [] aC cC F0 a57 a31 q2 q1 (1 : Int32) T61.heap n0 O61 x61_0 F66 F64 (if_pos hc63)) hZ (hw _ (List.mem_of_getElem? (i := 15) rfl)) (hw _ (List.mem_of_getElem? (i := 2) rfl)) (by decide) (by decide)) qa68 qc68 (g := (mkF m 142 #[.val (.long q1), .second, .val (.long q2), .second, .val (.int p3), .val (.ref a31), .val (.int (p3 &&& (3 : Int32))), .val (.long q2), .second, .val (.ref a57), .val (.int (1 : Int32)), .val (.ref a57), .val (.ref a31)] [(.ref a31), (.ref a57)])) rfl (by rw [hml]; rfl) (Steps.refl _) (argsL := [(.ref a31)]) (rest := []) (lenOf pd_Ljava_lang_Object___Z rfl) rfl (by show 2 * 0 + _ ≤ _; exact Nat.le_of_eq rfl) (hb hby at_142) (fun _ _ => ⟨rfl, K67, (by decide : 2 + 0 ≤ _), (by decide : 2 + 0 ≤ _)⟩)
          dsimp only [Pt.U, Pt.locs, Pt.cells, Pt.slots] at X68 l68 y68 z68 st68 hQ68
          subst l68 y68 z68
          obtain ⟨rfl, Nq68, K68⟩ := hQ68
          have N68 := Fr.app N67 Nq68
          refine own_go (fun _ k => st68.trans k) ?_
          show OwnGo p e below _ (T68.setTop (mkF m 145 #[.val (.long q1), .second, .val (.long q2), .second, .val (.int p3), .val (.ref a31), .val (.int (p3 &&& (3 : Int32))), .val (.long q2), .second, .val (.ref a57), .val (.int (1 : Int32)), .val (.ref a57), .val (.ref a31)] [(.int (1 : Int32))]))
          refine own_go (fun _ k => XS.iload X68.here hx rfl (hb hby at_145) rfl k) ?_
          show OwnGo p e below _ (T68.setTop (mkF m 147 #[.val (.long q1), .second, .val (.long q2), .second, .val (.int p3), .val (.ref a31), .val (.int (p3 &&& (3 : Int32))), .val (.long q2), .second, .val (.ref a57), .val (.int (1 : Int32)), .val (.ref a57), .val (.ref a31)] [(.int (1 : Int32)), (.int (1 : Int32))]))
          refine own_go (fun _ k => XS.icmpNo X68.here hx rfl (hb hby at_147) rfl (by decide) k) ?_
          show OwnGo p e below _ (T68.setTop (mkF m 150 #[.val (.long q1), .second, .val (.long q2), .second, .val (.int p3), .val (.ref a31), .val (.int (p3 &&& (3 : Int32))), .val (.long q2), .second, .val (.ref a57), .val (.int (1 : Int32)), .val (.ref a57), .val (.ref a31)] []))
          refine own_go (fun _ k => XS.iconst X68.here hx rfl (hb hby at_150) k) ?_
          show OwnGo p e below _ (T68.setTop (mkF m 151 #[.val (.long q1), .second, .val (.long q2), .second, .val (.int p3), .val (.ref a31), .val (.int (p3 &&& (3 : Int32))), .val (.long q2), .second, .val (.ref a57), .val (.int (1 : Int32)), .val (.ref a57), .val (.ref a31)] [(.int (1 : Int32))]))
          refine own_go (fun _ k => XS.goto X68.here hx rfl (pc0 := 151) (pc' := 155) rfl (hb hby at_151) (by decide) (by decide) k) ?_
          show OwnGo p e below _ (T68.setTop (mkF m 155 #[.val (.long q1), .second, .val (.long q2), .second, .val (.int p3), .val (.ref a31), .val (.int (p3 &&& (3 : Int32))), .val (.long q2), .second, .val (.ref a57), .val (.int (1 : Int32)), .val (.ref a57), .val (.ref a31)] [(.int (1 : Int32))]))
          obtain ⟨fs, hr, hrun, hended, hW, hsame⟩ := X68.leave (v := some (.int (1 : Int32))) (fun h => by rw [Bd.returns] at h; cases h)
          refine ⟨_, _, retOut X68 hx Bd.returns rfl (Or.inl ⟨rfl, Or.inr (Or.inl rfl), _, rfl⟩) (hb hby at_155) hr, hrun, hended, _, _, rfl, ?_, ⟨_, rfl⟩, hW, hsame.mono (by decide) (by decide)⟩
          show Q_law Z aC cC q1 q2 p3 h0 n0 _ T68.heap _
          rw [K68]
          exact ⟨rfl, N68⟩
        · refine own_go (fun _ k => XS.ifYes X61.here hx rfl (pc0 := 108) (pc' := 115) rfl (hb hby at_108) rfl ((if0 _ _).trans (feq (mt (lw_eq _ _).mp hc63)).2) (by decide) (by decide) k) ?_
          show OwnGo p e below _ (T61.setTop (mkF m 115 #[.val (.long q1), .second, .val (.long q2), .second, .val (.int p3), .val (.ref a31), .val (.int (p3 &&& (3 : Int32))), .val (.long q2), .second, .val (.ref a57), .unset, .unset, .unset] []))
          refine own_go (fun _ k => XS.iconst X61.here hx rfl (hb hby at_115) k) ?_
          show OwnGo p e below _ (T61.setTop (mkF m 116 #[.val (.long q1), .second, .val (.long q2), .second, .val (.int p3), .val (.ref a31), .val (.int (p3 &&& (3 : Int32))), .val (.long q2), .second, .val (.ref a57), .unset, .unset, .unset] [(.int (0 : Int32))]))
          refine own_go (fun _ k => XS.istore X61.here hx rfl (hb hby at_116) rfl (l' := #[.val (.long q1), .second, .val (.long q2), .second, .val (.int p3), .val (.ref a31), .val (.int (p3 &&& (3 : Int32))), .val (.long q2), .second, .val (.ref a57), .val (.int (0 : Int32)), .unset, .unset]) rfl k) ?_
          show OwnGo p e below _ (T61.setTop (mkF m 118 #[.val (.long q1), .second, .val (.long q2), .second, .val (.int p3), .val (.ref a31), .val (.int (p3 &&& (3 : Int32))), .val (.long q2), .second, .val (.ref a57), .val (.int (0 : Int32)), .unset, .unset] []))
          refine own_go (fun _ k => XS.aload X61.here hx rfl (hb hby at_118) rfl rfl k) ?_
          show OwnGo p e below _ (T61.setTop (mkF m 120 #[.val (.long q1), .second, .val (.long q2), .second, .val (.int p3), .val (.ref a31), .val (.int (p3 &&& (3 : Int32))), .val (.long q2), .second, .val (.ref a57), .val (.int (0 : Int32)), .unset, .unset] [(.ref a57)]))
          refine own_go (fun _ k => XS.astore X61.here hx rfl (hb hby at_120) rfl rfl (l' := #[.val (.long q1), .second, .val (.long q2), .second, .val (.int p3), .val (.ref a31), .val (.int (p3 &&& (3 : Int32))), .val (.long q2), .second, .val (.ref a57), .val (.int (0 : Int32)), .val (.ref a57), .unset]) rfl k) ?_
          show OwnGo p e below _ (T61.setTop (mkF m 122 #[.val (.long q1), .second, .val (.long q2), .second, .val (.int p3), .val (.ref a31), .val (.int (p3 &&& (3 : Int32))), .val (.long q2), .second, .val (.ref a57), .val (.int (0 : Int32)), .val (.ref a57), .unset] []))
          refine own_go (fun _ k => XS.aload X61.here hx rfl (hb hby at_122) rfl rfl k) ?_
          show OwnGo p e below _ (T61.setTop (mkF m 124 #[.val (.long q1), .second, .val (.long q2), .second, .val (.int p3), .val (.ref a31), .val (.int (p3 &&& (3 : Int32))), .val (.long q2), .second, .val (.ref a57), .val (.int (0 : Int32)), .val (.ref a57), .unset] [(.ref a31)]))
          refine own_go (fun _ k => XS.astore X61.here hx rfl (hb hby at_124) rfl rfl (l' := #[.val (.long q1), .second, .val (.long q2), .second, .val (.int p3), .val (.ref a31), .val (.int (p3 &&& (3 : Int32))), .val (.long q2), .second, .val (.ref a57), .val (.int (0 : Int32)), .val (.ref a57), .val (.ref a31)]) rfl k) ?_
          show OwnGo p e below _ (T61.setTop (mkF m 126 #[.val (.long q1), .second, .val (.long q2), .second, .val (.int p3), .val (.ref a31), .val (.int (p3 &&& (3 : Int32))), .val (.long q2), .second, .val (.ref a57), .val (.int (0 : Int32)), .val (.ref a57), .val (.ref a31)] []))
          refine own_go (fun _ k => XS.aload X61.here hx rfl (hb hby at_126) rfl rfl k) ?_
          show OwnGo p e below _ (T61.setTop (mkF m 128 #[.val (.long q1), .second, .val (.long q2), .second, .val (.int p3), .val (.ref a31), .val (.int (p3 &&& (3 : Int32))), .val (.long q2), .second, .val (.ref a57), .val (.int (0 : Int32)), .val (.ref a57), .val (.ref a31)] [(.ref a31)]))
          refine own_go (fun _ k => XS.aload X61.here hx rfl (hb hby at_128) rfl rfl k) ?_
          show OwnGo p e below _ (T61.setTop (mkF m 130 #[.val (.long q1), .second, .val (.long q2), .second, .val (.int p3), .val (.ref a31), .val (.int (p3 &&& (3 : Int32))), .val (.long q2), .second, .val (.ref a57), .val (.int (0 : Int32)), .val (.ref a57), .val (.ref a31)] [(.ref a57), (.ref a31)]))
          have F69 := ((F36.ext E57).keep K61)
          have F70 := (A57.keep K61)
          have F71 := ((x34_0.ext E57).keep K61 (ninS ne58 nin0))
          obtain ⟨cq72, kq72, qa72, qb72, qc72⟩ := isOf hZ e61 F69
          obtain ⟨_, _, ⟨T72, L72, k72, n72⟩, -, X72, ⟨Lc72, hQ72, l72, y72, z72⟩, st72⟩ := X61.virtualBack hx (y := (⟨"com/example/exdel/exdel/MessageId", "equals", "(Ljava/lang/Object;)Z"⟩ : MethodName)) (z := (⟨"com/example/exdel/exdel/MessageId", "equals", "(Ljava/lang/Object;)Z"⟩ : MethodName)) hown (mvT hZ (hw _ (List.mem_of_getElem? (i := 11) rfl))) (mvT hZ (hw _ (List.mem_of_getElem? (i := 12) rfl))) (notFace_of_selects (args := #[]) (mvT hZ (hw _ (List.mem_of_getElem? (i := 14) rfl)))) (mvT hZ (hw _ (List.mem_of_getElem? (i := 14) rfl))) (mvT hZ (hw _ (List.mem_of_getElem? (i := 13) rfl))) (by decide) (backOf (W := 0) (rm_eqM l Z a0 hw [] aC cC F0 a31 a57 q1 q2 (0 : Int32) T61.heap n0 O61 F71 x61_0 F70 (if_neg (fun z => hc63 z.symm))) hZ (hw _ (List.mem_of_getElem? (i := 15) rfl)) (hw _ (List.mem_of_getElem? (i := 2) rfl)) (by decide) (by decide)) qa72 qc72 (g := (mkF m 130 #[.val (.long q1), .second, .val (.long q2), .second, .val (.int p3), .val (.ref a31), .val (.int (p3 &&& (3 : Int32))), .val (.long q2), .second, .val (.ref a57), .val (.int (0 : Int32)), .val (.ref a57), .val (.ref a31)] [(.ref a57), (.ref a31)])) rfl (by rw [hml]; rfl) (Steps.refl _) (argsL := [(.ref a57)]) (rest := []) (lenOf pd_Ljava_lang_Object___Z rfl) rfl (by show 2 * 0 + _ ≤ _; exact Nat.le_of_eq rfl) (hb hby at_130) (fun _ _ => ⟨rfl, e61, (by decide : 2 + 0 ≤ _), (by decide : 2 + 0 ≤ _)⟩)
          dsimp only [Pt.U, Pt.locs, Pt.cells, Pt.slots] at X72 l72 y72 z72 st72 hQ72
          subst l72 y72 z72
          obtain ⟨rfl, Nq72, K72⟩ := hQ72
          have N72 := Fr.app N61 Nq72
          refine own_go (fun _ k => st72.trans k) ?_
          show OwnGo p e below _ (T72.setTop (mkF m 133 #[.val (.long q1), .second, .val (.long q2), .second, .val (.int p3), .val (.ref a31), .val (.int (p3 &&& (3 : Int32))), .val (.long q2), .second, .val (.ref a57), .val (.int (0 : Int32)), .val (.ref a57), .val (.ref a31)] [(.int (0 : Int32))]))
          refine own_go (fun _ k => XS.iload X72.here hx rfl (hb hby at_133) rfl k) ?_
          show OwnGo p e below _ (T72.setTop (mkF m 135 #[.val (.long q1), .second, .val (.long q2), .second, .val (.int p3), .val (.ref a31), .val (.int (p3 &&& (3 : Int32))), .val (.long q2), .second, .val (.ref a57), .val (.int (0 : Int32)), .val (.ref a57), .val (.ref a31)] [(.int (0 : Int32)), (.int (0 : Int32))]))
          refine own_go (fun _ k => XS.icmpNo X72.here hx rfl (hb hby at_135) rfl (by decide) k) ?_
          show OwnGo p e below _ (T72.setTop (mkF m 138 #[.val (.long q1), .second, .val (.long q2), .second, .val (.int p3), .val (.ref a31), .val (.int (p3 &&& (3 : Int32))), .val (.long q2), .second, .val (.ref a57), .val (.int (0 : Int32)), .val (.ref a57), .val (.ref a31)] []))
          refine own_go (fun _ k => XS.aload X72.here hx rfl (hb hby at_138) rfl rfl k) ?_
          show OwnGo p e below _ (T72.setTop (mkF m 140 #[.val (.long q1), .second, .val (.long q2), .second, .val (.int p3), .val (.ref a31), .val (.int (p3 &&& (3 : Int32))), .val (.long q2), .second, .val (.ref a57), .val (.int (0 : Int32)), .val (.ref a57), .val (.ref a31)] [(.ref a57)]))
          refine own_go (fun _ k => XS.aload X72.here hx rfl (hb hby at_140) rfl rfl k) ?_
          show OwnGo p e below _ (T72.setTop (mkF m 142 #[.val (.long q1), .second, .val (.long q2), .second, .val (.int p3), .val (.ref a31), .val (.int (p3 &&& (3 : Int32))), .val (.long q2), .second, .val (.ref a57), .val (.int (0 : Int32)), .val (.ref a57), .val (.ref a31)] [(.ref a31), (.ref a57)]))
          obtain ⟨cq73, kq73, qa73, qb73, qc73⟩ := isOf hZ K72 F70
          obtain ⟨_, _, ⟨T73, L73, k73, n73⟩, -, X73, ⟨Lc73, hQ73, l73, y73, z73⟩, st73⟩ := X72.virtualBack hx (y := (⟨"com/example/exdel/exdel/MessageId", "equals", "(Ljava/lang/Object;)Z"⟩ : MethodName)) (z := (⟨"com/example/exdel/exdel/MessageId", "equals", "(Ljava/lang/Object;)Z"⟩ : MethodName)) hown (mvT hZ (hw _ (List.mem_of_getElem? (i := 11) rfl))) (mvT hZ (hw _ (List.mem_of_getElem? (i := 12) rfl))) (notFace_of_selects (args := #[]) (mvT hZ (hw _ (List.mem_of_getElem? (i := 14) rfl)))) (mvT hZ (hw _ (List.mem_of_getElem? (i := 14) rfl))) (mvT hZ (hw _ (List.mem_of_getElem? (i := 13) rfl))) (by decide) (backOf (W := 0) (rm_eqM l Z a0 hw [] aC cC F0 a57 a31 q2 q1 (0 : Int32) T61.heap n0 O61 x61_0 F71 F69 (if_neg hc63)) hZ (hw _ (List.mem_of_getElem? (i := 15) rfl)) (hw _ (List.mem_of_getElem? (i := 2) rfl)) (by decide) (by decide)) qa73 qc73 (g := (mkF m 142 #[.val (.long q1), .second, .val (.long q2), .second, .val (.int p3), .val (.ref a31), .val (.int (p3 &&& (3 : Int32))), .val (.long q2), .second, .val (.ref a57), .val (.int (0 : Int32)), .val (.ref a57), .val (.ref a31)] [(.ref a31), (.ref a57)])) rfl (by rw [hml]; rfl) (Steps.refl _) (argsL := [(.ref a31)]) (rest := []) (lenOf pd_Ljava_lang_Object___Z rfl) rfl (by show 2 * 0 + _ ≤ _; exact Nat.le_of_eq rfl) (hb hby at_142) (fun _ _ => ⟨rfl, K72, (by decide : 2 + 0 ≤ _), (by decide : 2 + 0 ≤ _)⟩)
          dsimp only [Pt.U, Pt.locs, Pt.cells, Pt.slots] at X73 l73 y73 z73 st73 hQ73
          subst l73 y73 z73
          obtain ⟨rfl, Nq73, K73⟩ := hQ73
          have N73 := Fr.app N72 Nq73
          refine own_go (fun _ k => st73.trans k) ?_
          show OwnGo p e below _ (T73.setTop (mkF m 145 #[.val (.long q1), .second, .val (.long q2), .second, .val (.int p3), .val (.ref a31), .val (.int (p3 &&& (3 : Int32))), .val (.long q2), .second, .val (.ref a57), .val (.int (0 : Int32)), .val (.ref a57), .val (.ref a31)] [(.int (0 : Int32))]))
          refine own_go (fun _ k => XS.iload X73.here hx rfl (hb hby at_145) rfl k) ?_
          show OwnGo p e below _ (T73.setTop (mkF m 147 #[.val (.long q1), .second, .val (.long q2), .second, .val (.int p3), .val (.ref a31), .val (.int (p3 &&& (3 : Int32))), .val (.long q2), .second, .val (.ref a57), .val (.int (0 : Int32)), .val (.ref a57), .val (.ref a31)] [(.int (0 : Int32)), (.int (0 : Int32))]))
          refine own_go (fun _ k => XS.icmpNo X73.here hx rfl (hb hby at_147) rfl (by decide) k) ?_
          show OwnGo p e below _ (T73.setTop (mkF m 150 #[.val (.long q1), .second, .val (.long q2), .second, .val (.int p3), .val (.ref a31), .val (.int (p3 &&& (3 : Int32))), .val (.long q2), .second, .val (.ref a57), .val (.int (0 : Int32)), .val (.ref a57), .val (.ref a31)] []))
          refine own_go (fun _ k => XS.iconst X73.here hx rfl (hb hby at_150) k) ?_
          show OwnGo p e below _ (T73.setTop (mkF m 151 #[.val (.long q1), .second, .val (.long q2), .second, .val (.int p3), .val (.ref a31), .val (.int (p3 &&& (3 : Int32))), .val (.long q2), .second, .val (.ref a57), .val (.int (0 : Int32)), .val (.ref a57), .val (.ref a31)] [(.int (1 : Int32))]))
          refine own_go (fun _ k => XS.goto X73.here hx rfl (pc0 := 151) (pc' := 155) rfl (hb hby at_151) (by decide) (by decide) k) ?_
          show OwnGo p e below _ (T73.setTop (mkF m 155 #[.val (.long q1), .second, .val (.long q2), .second, .val (.int p3), .val (.ref a31), .val (.int (p3 &&& (3 : Int32))), .val (.long q2), .second, .val (.ref a57), .val (.int (0 : Int32)), .val (.ref a57), .val (.ref a31)] [(.int (1 : Int32))]))
          obtain ⟨fs, hr, hrun, hended, hW, hsame⟩ := X73.leave (v := some (.int (1 : Int32))) (fun h => by rw [Bd.returns] at h; cases h)
          refine ⟨_, _, retOut X73 hx Bd.returns rfl (Or.inl ⟨rfl, Or.inr (Or.inl rfl), _, rfl⟩) (hb hby at_155) hr, hrun, hended, _, _, rfl, ?_, ⟨_, rfl⟩, hW, hsame.mono (by decide) (by decide)⟩
          show Q_law Z aC cC q1 q2 p3 h0 n0 _ T73.heap _
          rw [K73]
          exact ⟨rfl, N73⟩
set_option maxRecDepth 65536 in
set_option maxHeartbeats 40000000 in
theorem comes_1 {Post : Tables → Env → Array Value → State → Outcome → State → Prop} (hpost : ∀ tb e args s v u, (limb_1_1.after args s (.returned v) u = true ∧ limb_1_2.after args s (.returned v) u = true ∧ True) → FrameEnd s (.returned v) u (Jvm.fieldLocs frame_1_writes args s ++ Jvm.arrayLocs frame_1_arrays args s ++ Jvm.staticLocs frame_1_statics s) 16 128 → Post tb e args s (.returned v) u) :
    ArmFor flags0 classFile x code maxLocals ret World_1 tables_1 room_1 Calls_1 rest_1 Pre_1 Post := by
  intro l hfl _ _ p e ha hc hk s m args below hf hA hF happ hP
  obtain ⟨hcalls, hrest, hpre⟩ := hP
  obtain ⟨-, -, -, hnamed, -, -, -, hat⟩ := (Spec.applies_iff hf).mp happ
  obtain ⟨hg, hn0⟩ := and_e (Cond.before_iff.mp (show (Jvm.Cond.and given_1 narrow_1).before args s = true from hpre))
  obtain ⟨h1, g0⟩ := and_e hg
  obtain ⟨t0, g1⟩ := and_e g0
  obtain ⟨t1, g2⟩ := and_e g1
  obtain ⟨w0, w1, w2, rfl⟩ : ∃ w0 w1 w2 : Value, args = #[w0, w1, w2] := by
    have hs : args.size = 3 := by simpa [Cond.value, given_1] using h1
    obtain ⟨L⟩ := args
    match L, hs with
    | [w0, w1, w2], _ => exact ⟨w0, w1, w2, rfl⟩
  have hw := fun d (hd : d ∈ tables_1) => atoms_spec (ws := Jvm.Cond.code x code maxLocals ret :: tables_1) hat d (List.mem_cons_of_mem _ hd)
  obtain ⟨hsets, hown0⟩ := atoms_of _ (rest_1_c_eq ▸ (show rest_1_c.before _ s = true from hrest))
  have hfit : Fit s := fun {y c} hc i hi => by
    obtain ⟨ha, rfl⟩ := Array.getElem?_eq_some_iff.mp hc
    have q := List.all_eq_true.mp ((Array.all_eq_true_iff_forall_mem.mp hF) _ (Array.getElem_mem ha)) i (List.mem_range.mpr hi)
    simpa [Array.getElem?_eq_getElem hi] using q
  obtain ⟨i0, ev0⟩ := isL_v t0
  obtain rfl : w0 = (.long i0) := Option.some.inj ev0
  obtain ⟨i1, ev1⟩ := isL_v t1
  obtain rfl : w1 = (.long i1) := Option.some.inj ev1
  obtain ⟨i2, ev2⟩ := is_v g2
  obtain rfl : w2 = (.int i2) := Option.some.inj ev2
  obtain ⟨aC, evC⟩ := arr_v (Cond.before_iff.mp (hsets _ (List.mem_of_getElem? (i := 2) rfl)))
  obtain ⟨cC, AC⟩ := Arr.start evC (Cond.before_iff.mp (hsets _ (List.mem_of_getElem? (i := 2) rfl)))
  have BX := own_bx evC AC (Cond.before_iff.mp (hsets _ (List.mem_of_getElem? (i := 4) rfl))) (Cond.before_iff.mp (hsets _ (List.mem_of_getElem? (i := 5) rfl)))
  have F0 : OwnFacts s aC cC := ⟨(Sta.start evC (Or.inl (hsets _ (List.mem_of_getElem? (i := 1) rfl)))), BX⟩
  obtain ⟨n, o, h1, h2, h3, _, L, rfl, ⟨rfl, N⟩, hq⟩ := rm_law l s _ hw tables_1 aC cC F0 i0 i1 i2 s.heap s.heap.size (Old.start s) p e ha hc hk s m _ below hf ((Spec.applies_iff_loose hf).mp happ).1 ⟨rfl, State.Warmed39.refl s, rfl⟩ trivial
  refine ⟨n, _, h1, h2, h3, hpost _ _ _ _ _ _ ⟨Cond.after_iff.mpr rfl, Cond.after_iff.mpr (eq_i res_at (Term.int_eval (1)) rfl), trivial⟩ ⟨hq.1, hq.2.1, (hq.2.2.sift fun y hy => Or.inr (N y hy)).mono (by decide) (by decide)⟩⟩
theorem main_1_1 : Claimed_1_1 := comes_1 fun _ _ _ _ _ _ h hF => ⟨h.1, hF⟩
theorem main_1_2 : Claimed_1_2 := comes_1 fun _ _ _ _ _ _ h hF => ⟨h.2.1, hF⟩
end Jvm.Pilot.@@N@@
namespace Jvm.Pilot.@@N@@
open Jvm Jvm.ClassFile Sem Op Lib Jvm.Free Jvm.Stand Jvm.Pilot.@@N@@.Jvm.D
/-! MADE BY PROGRAM (witnessworld.py) out of the Statement's table words and the real class files: 16 classes; the members and pool entries that the words name. The judged class is class 1, her method 1. -/
namespace start1
open Jvm.ClassFile
def u (s : String) : CpInfo := .utf8 (stringToUtf16 s)
/-- a pool by its gaps: so many unusable entries, then the entry; so many at the end -/
def gap : Nat → List CpInfo → List CpInfo
  | 0, r => r
  | n + 1, r => .unusable :: gap n r
def poolList (es : List (Nat × CpInfo)) (last : Nat) : List CpInfo := es.foldr (fun e r => gap e.1 (e.2 :: r)) (gap last [])
def pool (es : List (Nat × CpInfo)) (last : Nat) : Array CpInfo := ⟨poolList es last⟩
def fileOf (pool : Array CpInfo) (this : Nat) (attrs : Array Attribute := #[]) (ms : Array MethodInfo := #[]) (fl : Nat := 33) (sup : Nat := 0) (ifs : Array Nat := #[]) (fds : Array FieldInfo := #[]) : ClassFile where
  minorVersion := 0
  majorVersion := 65
  constantPool := pool
  accessFlags := fl
  thisClass := this
  superClass := sup
  interfaces := ifs
  fields := fds
  methods := ms
  attributes := attrs
def plain (name : String) (sup : Option ClassId) : Class where
  name := name
  kind := .ordinary
  loader := none
  accessFlags := 33
  super := sup
  interfaces := #[]
  cf := none
  fields := #[]
  methods := #[]
  instanceTypes := #[]
  staticTypes := #[]
  resolved := #[]
  callSites := []
  init := .initialized
  statics := none
  mirror := none

def pool0 : Array CpInfo := pool [(5, u "<init>"), (0, u "()V"), (1, .class_ 10), (1, u "java/lang/Object")] 113

def k0c0 : Code := { maxStack := 0, maxLocals := 1, code := object_method_1_code, exceptionTable := #[], attributes := #[] }
def k0m0 : Method := { name := "<init>", desc := "()V", sig := { parameters := [], returnType := none }, accessFlags := 1, code := some k0c0 }
/-- java/lang/Object -/
def k0 : Class := { plain "java/lang/Object" none with
  accessFlags := 33
  interfaces := #[]
  cf := some (fileOf pool0 8 #[] #[{ accessFlags := 1, nameIndex := 5, descriptorIndex := 6, attributes := #[] }] 33 0 #[] #[])
  fields := #[]
  methods := #[k0m0]
  instanceTypes := #[]
  staticTypes := #[]
  resolved := Array.replicate 124 none
  statics := none }

def pool1 : Array CpInfo := pool [(2, .class_ 4), (1, u "java/lang/Object"), (0, u "<init>"), (0, u "()V"), (0, .class_ 8), (0, u "com/example/exdel/exdel/MessageId"), (0, .methodref 7 10), (0, .nameAndType 5 11), (0, u "(J)V"), (0, .methodref 7 13), (0, .nameAndType 14 15), (0, u "equals"), (0, u "(Ljava/lang/Object;)Z"), (0, .methodref 17 18), (0, .class_ 19), (0, .nameAndType 20 21), (0, u "java/lang/Long"), (0, u "valueOf"), (0, u "(J)Ljava/lang/Long;"), (0, .class_ 23), (0, u "com/example/exdel/exdel/MessageIdEqualsPinLaw"), (2, u "law"), (0, u "(JJI)Z")] 3

def k1m0 : Method := { name := "<init>", desc := "()V", sig := { parameters := [], returnType := none }, accessFlags := 1, code := none }
def k1c1 : Code := { maxStack := 4, maxLocals := 13, code := code, exceptionTable := #[], attributes := #[] }
def k1m1 : Method := { name := "law", desc := "(JJI)Z", sig := { parameters := [.long, .long, .int], returnType := some .boolean }, accessFlags := 9, code := some k1c1 }
/-- com/example/exdel/exdel/MessageIdEqualsPinLaw -/
def k1 : Class := { plain "com/example/exdel/exdel/MessageIdEqualsPinLaw" (some 0) with
  accessFlags := 49
  interfaces := #[]
  cf := some (fileOf pool1 22 #[] #[{ accessFlags := 1, nameIndex := 5, descriptorIndex := 6, attributes := #[] }, { accessFlags := 9, nameIndex := 26, descriptorIndex := 27, attributes := #[] }] 49 2 #[] #[])
  fields := #[]
  methods := #[k1m0, k1m1]
  instanceTypes := #[]
  staticTypes := #[]
  resolved := Array.replicate 31 none
  statics := none }

def pool2 : Array CpInfo := pool [(1, .methodref 2 3), (0, .class_ 4), (0, .nameAndType 5 6), (0, u "java/lang/Object"), (0, u "<init>"), (0, u "()V"), (0, .fieldref 8 9), (0, .class_ 10), (0, .nameAndType 11 12), (0, u "com/example/exdel/exdel/MessageId"), (0, u "value"), (0, u "J"), (10, u "(J)V"), (3, u "equals"), (0, u "(Ljava/lang/Object;)Z")] 5

def k2c0 : Code := { maxStack := 3, maxLocals := 3, code := prog_8_method_1_code, exceptionTable := #[], attributes := #[] }
def k2m0 : Method := { name := "<init>", desc := "(J)V", sig := { parameters := [.long], returnType := none }, accessFlags := 0, code := some k2c0 }
def k2c1 : Code := { maxStack := 4, maxLocals := 2, code := prog_8_method_3_code, exceptionTable := #[], attributes := #[] }
def k2m1 : Method := { name := "equals", desc := "(Ljava/lang/Object;)Z", sig := { parameters := [(.object "java/lang/Object")], returnType := some .boolean }, accessFlags := 1, code := some k2c1 }
/-- com/example/exdel/exdel/MessageId -/
def k2 : Class := { plain "com/example/exdel/exdel/MessageId" (some 0) with
  accessFlags := 33
  interfaces := #[]
  cf := some (fileOf pool2 8 #[] #[{ accessFlags := 0, nameIndex := 5, descriptorIndex := 23, attributes := #[] }, { accessFlags := 1, nameIndex := 27, descriptorIndex := 28, attributes := #[] }] 33 2 #[] #[{ accessFlags := 18, nameIndex := 11, descriptorIndex := 12, attributes := #[] }])
  fields := #[{ name := "value", type := .long, accessFlags := 18, slot := 0, constantValue := 0 }]
  methods := #[k2m0, k2m1]
  instanceTypes := #[.long]
  staticTypes := #[]
  resolved := Array.replicate 34 none
  statics := none }

def pool3 : Array CpInfo := pool [(1, .class_ 2), (0, u "java/io/Serializable"), (0, .class_ 4), (0, u "java/lang/Object")] 2

/-- java/io/Serializable -/
def k3 : Class := { plain "java/io/Serializable" (some 0) with
  accessFlags := 1537
  interfaces := #[]
  cf := some (fileOf pool3 1 #[] #[] 1537 3 #[] #[])
  fields := #[]
  methods := #[]
  instanceTypes := #[]
  staticTypes := #[]
  resolved := Array.replicate 7 none
  statics := none }

def pool4 : Array CpInfo := pool [(1, .methodref 2 3), (0, .class_ 4), (0, .nameAndType 5 6), (0, u "java/lang/Object"), (0, u "<init>"), (0, u "()V"), (1, .class_ 10), (1, u "java/lang/Number"), (2, .class_ 14), (0, u "java/io/Serializable"), (0, u "serialVersionUID"), (0, u "J")] 20

def k4c0 : Code := { maxStack := 1, maxLocals := 1, code := jdk_18_method_1_code, exceptionTable := #[], attributes := #[] }
def k4m0 : Method := { name := "<init>", desc := "()V", sig := { parameters := [], returnType := none }, accessFlags := 1, code := some k4c0 }
/-- java/lang/Number -/
def k4 : Class := { plain "java/lang/Number" (some 0) with
  accessFlags := 1057
  interfaces := #[3]
  cf := some (fileOf pool4 8 #[] #[{ accessFlags := 1, nameIndex := 5, descriptorIndex := 6, attributes := #[] }] 1057 2 #[13] #[{ accessFlags := 26, nameIndex := 15, descriptorIndex := 16, attributes := #[] }])
  fields := #[{ name := "serialVersionUID", type := .long, accessFlags := 26, slot := 0, constantValue := 0 }]
  methods := #[k4m0]
  instanceTypes := #[]
  staticTypes := #[.long]
  resolved := Array.replicate 37 none
  statics := none }

def pool5 : Array CpInfo := pool [(1, .class_ 2), (0, u "java/lang/Comparable"), (0, .class_ 4), (0, u "java/lang/Object")] 7

/-- java/lang/Comparable -/
def k5 : Class := { plain "java/lang/Comparable" (some 0) with
  accessFlags := 1537
  interfaces := #[]
  cf := some (fileOf pool5 1 #[] #[] 1537 3 #[] #[])
  fields := #[]
  methods := #[]
  instanceTypes := #[]
  staticTypes := #[]
  resolved := Array.replicate 12 none
  statics := none }

def pool6 : Array CpInfo := pool [(1, .class_ 2), (0, u "java/lang/constant/Constable"), (0, .class_ 4), (0, u "java/lang/Object")] 6

/-- java/lang/constant/Constable -/
def k6 : Class := { plain "java/lang/constant/Constable" (some 0) with
  accessFlags := 1537
  interfaces := #[]
  cf := some (fileOf pool6 1 #[] #[] 1537 3 #[] #[])
  fields := #[]
  methods := #[]
  instanceTypes := #[]
  staticTypes := #[]
  resolved := Array.replicate 11 none
  statics := none }

def pool7 : Array CpInfo := pool [(1, .class_ 2), (0, u "java/lang/constant/ConstantDesc"), (0, .class_ 4), (0, u "java/lang/Object")] 32

/-- java/lang/constant/ConstantDesc -/
def k7 : Class := { plain "java/lang/constant/ConstantDesc" (some 0) with
  accessFlags := 1537
  interfaces := #[]
  cf := some (fileOf pool7 1 #[] #[] 1537 3 #[] #[])
  fields := #[]
  methods := #[]
  instanceTypes := #[]
  staticTypes := #[]
  resolved := Array.replicate 37 none
  statics := none }

def pool8 : Array CpInfo := pool [(1, .class_ 2), (0, u "java/lang/Long"), (55, .nameAndType 59 60), (0, u "<init>"), (0, u "()V"), (24, u "valueOf"), (143, u "(J)Ljava/lang/Long;"), (0, .long 18446744073709551488), (1, .long 127), (1, .fieldref 235 236), (0, .class_ 237), (0, .nameAndType 238 239), (0, u "java/lang/Long$LongCache"), (0, u "cache"), (0, u "[Ljava/lang/Long;"), (0, .methodref 1 241), (0, .nameAndType 59 242), (0, u "(J)V"), (27, .methodref 271 58), (0, .class_ 272), (0, u "java/lang/Number"), (0, .fieldref 1 274), (0, .nameAndType 275 276), (0, u "value"), (0, u "J"), (84, u "TYPE"), (0, u "Ljava/lang/Class;"), (0, .class_ 364), (0, u "java/lang/Comparable"), (0, .class_ 366), (0, u "java/lang/constant/Constable"), (0, .class_ 368), (0, u "java/lang/constant/ConstantDesc"), (0, u "MIN_VALUE"), (1, u "MAX_VALUE"), (4, u "SIZE"), (0, u "I"), (1, u "BYTES"), (1, u "serialVersionUID")] 142

def k8c0 : Code := { maxStack := 4, maxLocals := 3, code := jdk_35_method_24_code, exceptionTable := #[], attributes := #[] }
def k8m0 : Method := { name := "valueOf", desc := "(J)Ljava/lang/Long;", sig := { parameters := [.long], returnType := some (.object "java/lang/Long") }, accessFlags := 9, code := some k8c0 }
def k8c1 : Code := { maxStack := 3, maxLocals := 3, code := jdk_35_method_26_code, exceptionTable := #[], attributes := #[] }
def k8m1 : Method := { name := "<init>", desc := "(J)V", sig := { parameters := [.long], returnType := none }, accessFlags := 1, code := some k8c1 }
/-- java/lang/Long -/
def k8 : Class := { plain "java/lang/Long" (some 4) with
  accessFlags := 49
  interfaces := #[5, 6, 7]
  cf := some (fileOf pool8 1 #[.nestMembers #[235]] #[{ accessFlags := 9, nameIndex := 85, descriptorIndex := 229, attributes := #[] }, { accessFlags := 1, nameIndex := 59, descriptorIndex := 242, attributes := #[] }] 49 271 #[363, 365, 367] #[{ accessFlags := 25, nameIndex := 369, descriptorIndex := 276, attributes := #[] }, { accessFlags := 25, nameIndex := 371, descriptorIndex := 276, attributes := #[] }, { accessFlags := 25, nameIndex := 361, descriptorIndex := 362, attributes := #[] }, { accessFlags := 18, nameIndex := 275, descriptorIndex := 276, attributes := #[] }, { accessFlags := 25, nameIndex := 376, descriptorIndex := 377, attributes := #[] }, { accessFlags := 25, nameIndex := 379, descriptorIndex := 377, attributes := #[] }, { accessFlags := 26, nameIndex := 381, descriptorIndex := 276, attributes := #[] }])
  fields := #[{ name := "MIN_VALUE", type := .long, accessFlags := 25, slot := 0, constantValue := 0 }, { name := "MAX_VALUE", type := .long, accessFlags := 25, slot := 1, constantValue := 0 }, { name := "TYPE", type := (.object "java/lang/Class"), accessFlags := 25, slot := 2, constantValue := 0 }, { name := "value", type := .long, accessFlags := 18, slot := 0, constantValue := 0 }, { name := "SIZE", type := .int, accessFlags := 25, slot := 3, constantValue := 0 }, { name := "BYTES", type := .int, accessFlags := 25, slot := 4, constantValue := 0 }, { name := "serialVersionUID", type := .long, accessFlags := 26, slot := 5, constantValue := 0 }]
  methods := #[k8m0, k8m1]
  instanceTypes := #[.long]
  staticTypes := #[.long, .long, (.object "java/lang/Class"), .int, .int, .long]
  resolved := Array.replicate 524 none
  statics := none }

def pool9 : Array CpInfo := pool [(2, .class_ 4), (1, u "java/lang/Object"), (0, u "<init>"), (0, u "()V"), (0, .class_ 8), (0, u "java/lang/Long"), (7, .class_ 18), (1, u "java/lang/Long$LongCache"), (0, u "$assertionsDisabled"), (0, u "Z"), (8, u "archivedCache"), (0, u "[Ljava/lang/Long;"), (7, u "cache")] 24

def k9m0 : Method := { name := "<init>", desc := "()V", sig := { parameters := [], returnType := none }, accessFlags := 2, code := none }
/-- java/lang/Long$LongCache -/
def k9 : Class := { plain "java/lang/Long$LongCache" (some 0) with
  accessFlags := 48
  interfaces := #[]
  cf := some (fileOf pool9 16 #[.nestHost 7] #[{ accessFlags := 2, nameIndex := 5, descriptorIndex := 6, attributes := #[] }] 48 2 #[] #[{ accessFlags := 24, nameIndex := 38, descriptorIndex := 30, attributes := #[] }, { accessFlags := 8, nameIndex := 29, descriptorIndex := 30, attributes := #[] }, { accessFlags := 4120, nameIndex := 19, descriptorIndex := 20, attributes := #[] }])
  fields := #[{ name := "cache", type := (.array (.object "java/lang/Long")), accessFlags := 24, slot := 0, constantValue := 0 }, { name := "archivedCache", type := (.array (.object "java/lang/Long")), accessFlags := 8, slot := 1, constantValue := 0 }, { name := "$assertionsDisabled", type := .boolean, accessFlags := 4120, slot := 2, constantValue := 0 }]
  methods := #[k9m0]
  instanceTypes := #[]
  staticTypes := #[(.array (.object "java/lang/Long")), (.array (.object "java/lang/Long")), .boolean]
  resolved := Array.replicate 63 none
  statics := some 0 }

def pool10 : Array CpInfo := pool [(1, u "java/lang/Cloneable"), (0, .class_ 1), (0, u "java/lang/Object"), (0, .class_ 3)] 3

/-- java/lang/Cloneable -/
def k10 : Class := { plain "java/lang/Cloneable" (some 0) with
  accessFlags := 1537
  interfaces := #[]
  cf := some (fileOf pool10 2 #[] #[] 1537 4 #[] #[])
  fields := #[]
  methods := #[]
  instanceTypes := #[]
  staticTypes := #[]
  resolved := Array.replicate 8 none
  statics := none }

/-- the primitive byte -/
def k11 : Class := { plain "byte" none with kind := .primitive 'B', accessFlags := 0x411 }
/-- [B -/
def k12 : Class := { plain "[B" (some 0) with kind := .array 11 .byte, interfaces := #[10, 3], accessFlags := 1041 }

/-- the primitive int -/
def k13 : Class := { plain "int" none with kind := .primitive 'I', accessFlags := 0x411 }
/-- [I -/
def k14 : Class := { plain "[I" (some 0) with kind := .array 13 .int, interfaces := #[10, 3], accessFlags := 1041 }

/-- [Ljava/lang/Long; -/
def k15 : Class := { plain "[Ljava/lang/Long;" (some 0) with kind := .array 8 (.object "java/lang/Long"), interfaces := #[10, 3], accessFlags := 1041 }

def heap : Heap := #[{ cls := 9, slots := #[.ref 1, .null, .int 0], vm := .statics 9 },
  { cls := 15, slots := #[.ref 2, .ref 3, .ref 4, .ref 5, .ref 6, .ref 7, .ref 8, .ref 9, .ref 10, .ref 11, .ref 12, .ref 13, .ref 14, .ref 15, .ref 16, .ref 17, .ref 18, .ref 19, .ref 20, .ref 21, .ref 22, .ref 23, .ref 24, .ref 25, .ref 26, .ref 27, .ref 28, .ref 29, .ref 30, .ref 31, .ref 32, .ref 33, .ref 34, .ref 35, .ref 36, .ref 37, .ref 38, .ref 39, .ref 40, .ref 41, .ref 42, .ref 43, .ref 44, .ref 45, .ref 46, .ref 47, .ref 48, .ref 49, .ref 50, .ref 51, .ref 52, .ref 53, .ref 54, .ref 55, .ref 56, .ref 57, .ref 58, .ref 59, .ref 60, .ref 61, .ref 62, .ref 63, .ref 64, .ref 65, .ref 66, .ref 67, .ref 68, .ref 69, .ref 70, .ref 71, .ref 72, .ref 73, .ref 74, .ref 75, .ref 76, .ref 77, .ref 78, .ref 79, .ref 80, .ref 81, .ref 82, .ref 83, .ref 84, .ref 85, .ref 86, .ref 87, .ref 88, .ref 89, .ref 90, .ref 91, .ref 92, .ref 93, .ref 94, .ref 95, .ref 96, .ref 97, .ref 98, .ref 99, .ref 100, .ref 101, .ref 102, .ref 103, .ref 104, .ref 105, .ref 106, .ref 107, .ref 108, .ref 109, .ref 110, .ref 111, .ref 112, .ref 113, .ref 114, .ref 115, .ref 116, .ref 117, .ref 118, .ref 119, .ref 120, .ref 121, .ref 122, .ref 123, .ref 124, .ref 125, .ref 126, .ref 127, .ref 128, .ref 129, .ref 130, .ref 131, .ref 132, .ref 133, .ref 134, .ref 135, .ref 136, .ref 137, .ref 138, .ref 139, .ref 140, .ref 141, .ref 142, .ref 143, .ref 144, .ref 145, .ref 146, .ref 147, .ref 148, .ref 149, .ref 150, .ref 151, .ref 152, .ref 153, .ref 154, .ref 155, .ref 156, .ref 157, .ref 158, .ref 159, .ref 160, .ref 161, .ref 162, .ref 163, .ref 164, .ref 165, .ref 166, .ref 167, .ref 168, .ref 169, .ref 170, .ref 171, .ref 172, .ref 173, .ref 174, .ref 175, .ref 176, .ref 177, .ref 178, .ref 179, .ref 180, .ref 181, .ref 182, .ref 183, .ref 184, .ref 185, .ref 186, .ref 187, .ref 188, .ref 189, .ref 190, .ref 191, .ref 192, .ref 193, .ref 194, .ref 195, .ref 196, .ref 197, .ref 198, .ref 199, .ref 200, .ref 201, .ref 202, .ref 203, .ref 204, .ref 205, .ref 206, .ref 207, .ref 208, .ref 209, .ref 210, .ref 211, .ref 212, .ref 213, .ref 214, .ref 215, .ref 216, .ref 217, .ref 218, .ref 219, .ref 220, .ref 221, .ref 222, .ref 223, .ref 224, .ref 225, .ref 226, .ref 227, .ref 228, .ref 229, .ref 230, .ref 231, .ref 232, .ref 233, .ref 234, .ref 235, .ref 236, .ref 237, .ref 238, .ref 239, .ref 240, .ref 241, .ref 242, .ref 243, .ref 244, .ref 245, .ref 246, .ref 247, .ref 248, .ref 249, .ref 250, .ref 251, .ref 252, .ref 253, .ref 254, .ref 255, .ref 256, .ref 257], vm := .none },
  { cls := 8, slots := #[.long (-128)], vm := .none },
  { cls := 8, slots := #[.long (-127)], vm := .none },
  { cls := 8, slots := #[.long (-126)], vm := .none },
  { cls := 8, slots := #[.long (-125)], vm := .none },
  { cls := 8, slots := #[.long (-124)], vm := .none },
  { cls := 8, slots := #[.long (-123)], vm := .none },
  { cls := 8, slots := #[.long (-122)], vm := .none },
  { cls := 8, slots := #[.long (-121)], vm := .none },
  { cls := 8, slots := #[.long (-120)], vm := .none },
  { cls := 8, slots := #[.long (-119)], vm := .none },
  { cls := 8, slots := #[.long (-118)], vm := .none },
  { cls := 8, slots := #[.long (-117)], vm := .none },
  { cls := 8, slots := #[.long (-116)], vm := .none },
  { cls := 8, slots := #[.long (-115)], vm := .none },
  { cls := 8, slots := #[.long (-114)], vm := .none },
  { cls := 8, slots := #[.long (-113)], vm := .none },
  { cls := 8, slots := #[.long (-112)], vm := .none },
  { cls := 8, slots := #[.long (-111)], vm := .none },
  { cls := 8, slots := #[.long (-110)], vm := .none },
  { cls := 8, slots := #[.long (-109)], vm := .none },
  { cls := 8, slots := #[.long (-108)], vm := .none },
  { cls := 8, slots := #[.long (-107)], vm := .none },
  { cls := 8, slots := #[.long (-106)], vm := .none },
  { cls := 8, slots := #[.long (-105)], vm := .none },
  { cls := 8, slots := #[.long (-104)], vm := .none },
  { cls := 8, slots := #[.long (-103)], vm := .none },
  { cls := 8, slots := #[.long (-102)], vm := .none },
  { cls := 8, slots := #[.long (-101)], vm := .none },
  { cls := 8, slots := #[.long (-100)], vm := .none },
  { cls := 8, slots := #[.long (-99)], vm := .none },
  { cls := 8, slots := #[.long (-98)], vm := .none },
  { cls := 8, slots := #[.long (-97)], vm := .none },
  { cls := 8, slots := #[.long (-96)], vm := .none },
  { cls := 8, slots := #[.long (-95)], vm := .none },
  { cls := 8, slots := #[.long (-94)], vm := .none },
  { cls := 8, slots := #[.long (-93)], vm := .none },
  { cls := 8, slots := #[.long (-92)], vm := .none },
  { cls := 8, slots := #[.long (-91)], vm := .none },
  { cls := 8, slots := #[.long (-90)], vm := .none },
  { cls := 8, slots := #[.long (-89)], vm := .none },
  { cls := 8, slots := #[.long (-88)], vm := .none },
  { cls := 8, slots := #[.long (-87)], vm := .none },
  { cls := 8, slots := #[.long (-86)], vm := .none },
  { cls := 8, slots := #[.long (-85)], vm := .none },
  { cls := 8, slots := #[.long (-84)], vm := .none },
  { cls := 8, slots := #[.long (-83)], vm := .none },
  { cls := 8, slots := #[.long (-82)], vm := .none },
  { cls := 8, slots := #[.long (-81)], vm := .none },
  { cls := 8, slots := #[.long (-80)], vm := .none },
  { cls := 8, slots := #[.long (-79)], vm := .none },
  { cls := 8, slots := #[.long (-78)], vm := .none },
  { cls := 8, slots := #[.long (-77)], vm := .none },
  { cls := 8, slots := #[.long (-76)], vm := .none },
  { cls := 8, slots := #[.long (-75)], vm := .none },
  { cls := 8, slots := #[.long (-74)], vm := .none },
  { cls := 8, slots := #[.long (-73)], vm := .none },
  { cls := 8, slots := #[.long (-72)], vm := .none },
  { cls := 8, slots := #[.long (-71)], vm := .none },
  { cls := 8, slots := #[.long (-70)], vm := .none },
  { cls := 8, slots := #[.long (-69)], vm := .none },
  { cls := 8, slots := #[.long (-68)], vm := .none },
  { cls := 8, slots := #[.long (-67)], vm := .none },
  { cls := 8, slots := #[.long (-66)], vm := .none },
  { cls := 8, slots := #[.long (-65)], vm := .none },
  { cls := 8, slots := #[.long (-64)], vm := .none },
  { cls := 8, slots := #[.long (-63)], vm := .none },
  { cls := 8, slots := #[.long (-62)], vm := .none },
  { cls := 8, slots := #[.long (-61)], vm := .none },
  { cls := 8, slots := #[.long (-60)], vm := .none },
  { cls := 8, slots := #[.long (-59)], vm := .none },
  { cls := 8, slots := #[.long (-58)], vm := .none },
  { cls := 8, slots := #[.long (-57)], vm := .none },
  { cls := 8, slots := #[.long (-56)], vm := .none },
  { cls := 8, slots := #[.long (-55)], vm := .none },
  { cls := 8, slots := #[.long (-54)], vm := .none },
  { cls := 8, slots := #[.long (-53)], vm := .none },
  { cls := 8, slots := #[.long (-52)], vm := .none },
  { cls := 8, slots := #[.long (-51)], vm := .none },
  { cls := 8, slots := #[.long (-50)], vm := .none },
  { cls := 8, slots := #[.long (-49)], vm := .none },
  { cls := 8, slots := #[.long (-48)], vm := .none },
  { cls := 8, slots := #[.long (-47)], vm := .none },
  { cls := 8, slots := #[.long (-46)], vm := .none },
  { cls := 8, slots := #[.long (-45)], vm := .none },
  { cls := 8, slots := #[.long (-44)], vm := .none },
  { cls := 8, slots := #[.long (-43)], vm := .none },
  { cls := 8, slots := #[.long (-42)], vm := .none },
  { cls := 8, slots := #[.long (-41)], vm := .none },
  { cls := 8, slots := #[.long (-40)], vm := .none },
  { cls := 8, slots := #[.long (-39)], vm := .none },
  { cls := 8, slots := #[.long (-38)], vm := .none },
  { cls := 8, slots := #[.long (-37)], vm := .none },
  { cls := 8, slots := #[.long (-36)], vm := .none },
  { cls := 8, slots := #[.long (-35)], vm := .none },
  { cls := 8, slots := #[.long (-34)], vm := .none },
  { cls := 8, slots := #[.long (-33)], vm := .none },
  { cls := 8, slots := #[.long (-32)], vm := .none },
  { cls := 8, slots := #[.long (-31)], vm := .none },
  { cls := 8, slots := #[.long (-30)], vm := .none },
  { cls := 8, slots := #[.long (-29)], vm := .none },
  { cls := 8, slots := #[.long (-28)], vm := .none },
  { cls := 8, slots := #[.long (-27)], vm := .none },
  { cls := 8, slots := #[.long (-26)], vm := .none },
  { cls := 8, slots := #[.long (-25)], vm := .none },
  { cls := 8, slots := #[.long (-24)], vm := .none },
  { cls := 8, slots := #[.long (-23)], vm := .none },
  { cls := 8, slots := #[.long (-22)], vm := .none },
  { cls := 8, slots := #[.long (-21)], vm := .none },
  { cls := 8, slots := #[.long (-20)], vm := .none },
  { cls := 8, slots := #[.long (-19)], vm := .none },
  { cls := 8, slots := #[.long (-18)], vm := .none },
  { cls := 8, slots := #[.long (-17)], vm := .none },
  { cls := 8, slots := #[.long (-16)], vm := .none },
  { cls := 8, slots := #[.long (-15)], vm := .none },
  { cls := 8, slots := #[.long (-14)], vm := .none },
  { cls := 8, slots := #[.long (-13)], vm := .none },
  { cls := 8, slots := #[.long (-12)], vm := .none },
  { cls := 8, slots := #[.long (-11)], vm := .none },
  { cls := 8, slots := #[.long (-10)], vm := .none },
  { cls := 8, slots := #[.long (-9)], vm := .none },
  { cls := 8, slots := #[.long (-8)], vm := .none },
  { cls := 8, slots := #[.long (-7)], vm := .none },
  { cls := 8, slots := #[.long (-6)], vm := .none },
  { cls := 8, slots := #[.long (-5)], vm := .none },
  { cls := 8, slots := #[.long (-4)], vm := .none },
  { cls := 8, slots := #[.long (-3)], vm := .none },
  { cls := 8, slots := #[.long (-2)], vm := .none },
  { cls := 8, slots := #[.long (-1)], vm := .none },
  { cls := 8, slots := #[.long 0], vm := .none },
  { cls := 8, slots := #[.long 1], vm := .none },
  { cls := 8, slots := #[.long 2], vm := .none },
  { cls := 8, slots := #[.long 3], vm := .none },
  { cls := 8, slots := #[.long 4], vm := .none },
  { cls := 8, slots := #[.long 5], vm := .none },
  { cls := 8, slots := #[.long 6], vm := .none },
  { cls := 8, slots := #[.long 7], vm := .none },
  { cls := 8, slots := #[.long 8], vm := .none },
  { cls := 8, slots := #[.long 9], vm := .none },
  { cls := 8, slots := #[.long 10], vm := .none },
  { cls := 8, slots := #[.long 11], vm := .none },
  { cls := 8, slots := #[.long 12], vm := .none },
  { cls := 8, slots := #[.long 13], vm := .none },
  { cls := 8, slots := #[.long 14], vm := .none },
  { cls := 8, slots := #[.long 15], vm := .none },
  { cls := 8, slots := #[.long 16], vm := .none },
  { cls := 8, slots := #[.long 17], vm := .none },
  { cls := 8, slots := #[.long 18], vm := .none },
  { cls := 8, slots := #[.long 19], vm := .none },
  { cls := 8, slots := #[.long 20], vm := .none },
  { cls := 8, slots := #[.long 21], vm := .none },
  { cls := 8, slots := #[.long 22], vm := .none },
  { cls := 8, slots := #[.long 23], vm := .none },
  { cls := 8, slots := #[.long 24], vm := .none },
  { cls := 8, slots := #[.long 25], vm := .none },
  { cls := 8, slots := #[.long 26], vm := .none },
  { cls := 8, slots := #[.long 27], vm := .none },
  { cls := 8, slots := #[.long 28], vm := .none },
  { cls := 8, slots := #[.long 29], vm := .none },
  { cls := 8, slots := #[.long 30], vm := .none },
  { cls := 8, slots := #[.long 31], vm := .none },
  { cls := 8, slots := #[.long 32], vm := .none },
  { cls := 8, slots := #[.long 33], vm := .none },
  { cls := 8, slots := #[.long 34], vm := .none },
  { cls := 8, slots := #[.long 35], vm := .none },
  { cls := 8, slots := #[.long 36], vm := .none },
  { cls := 8, slots := #[.long 37], vm := .none },
  { cls := 8, slots := #[.long 38], vm := .none },
  { cls := 8, slots := #[.long 39], vm := .none },
  { cls := 8, slots := #[.long 40], vm := .none },
  { cls := 8, slots := #[.long 41], vm := .none },
  { cls := 8, slots := #[.long 42], vm := .none },
  { cls := 8, slots := #[.long 43], vm := .none },
  { cls := 8, slots := #[.long 44], vm := .none },
  { cls := 8, slots := #[.long 45], vm := .none },
  { cls := 8, slots := #[.long 46], vm := .none },
  { cls := 8, slots := #[.long 47], vm := .none },
  { cls := 8, slots := #[.long 48], vm := .none },
  { cls := 8, slots := #[.long 49], vm := .none },
  { cls := 8, slots := #[.long 50], vm := .none },
  { cls := 8, slots := #[.long 51], vm := .none },
  { cls := 8, slots := #[.long 52], vm := .none },
  { cls := 8, slots := #[.long 53], vm := .none },
  { cls := 8, slots := #[.long 54], vm := .none },
  { cls := 8, slots := #[.long 55], vm := .none },
  { cls := 8, slots := #[.long 56], vm := .none },
  { cls := 8, slots := #[.long 57], vm := .none },
  { cls := 8, slots := #[.long 58], vm := .none },
  { cls := 8, slots := #[.long 59], vm := .none },
  { cls := 8, slots := #[.long 60], vm := .none },
  { cls := 8, slots := #[.long 61], vm := .none },
  { cls := 8, slots := #[.long 62], vm := .none },
  { cls := 8, slots := #[.long 63], vm := .none },
  { cls := 8, slots := #[.long 64], vm := .none },
  { cls := 8, slots := #[.long 65], vm := .none },
  { cls := 8, slots := #[.long 66], vm := .none },
  { cls := 8, slots := #[.long 67], vm := .none },
  { cls := 8, slots := #[.long 68], vm := .none },
  { cls := 8, slots := #[.long 69], vm := .none },
  { cls := 8, slots := #[.long 70], vm := .none },
  { cls := 8, slots := #[.long 71], vm := .none },
  { cls := 8, slots := #[.long 72], vm := .none },
  { cls := 8, slots := #[.long 73], vm := .none },
  { cls := 8, slots := #[.long 74], vm := .none },
  { cls := 8, slots := #[.long 75], vm := .none },
  { cls := 8, slots := #[.long 76], vm := .none },
  { cls := 8, slots := #[.long 77], vm := .none },
  { cls := 8, slots := #[.long 78], vm := .none },
  { cls := 8, slots := #[.long 79], vm := .none },
  { cls := 8, slots := #[.long 80], vm := .none },
  { cls := 8, slots := #[.long 81], vm := .none },
  { cls := 8, slots := #[.long 82], vm := .none },
  { cls := 8, slots := #[.long 83], vm := .none },
  { cls := 8, slots := #[.long 84], vm := .none },
  { cls := 8, slots := #[.long 85], vm := .none },
  { cls := 8, slots := #[.long 86], vm := .none },
  { cls := 8, slots := #[.long 87], vm := .none },
  { cls := 8, slots := #[.long 88], vm := .none },
  { cls := 8, slots := #[.long 89], vm := .none },
  { cls := 8, slots := #[.long 90], vm := .none },
  { cls := 8, slots := #[.long 91], vm := .none },
  { cls := 8, slots := #[.long 92], vm := .none },
  { cls := 8, slots := #[.long 93], vm := .none },
  { cls := 8, slots := #[.long 94], vm := .none },
  { cls := 8, slots := #[.long 95], vm := .none },
  { cls := 8, slots := #[.long 96], vm := .none },
  { cls := 8, slots := #[.long 97], vm := .none },
  { cls := 8, slots := #[.long 98], vm := .none },
  { cls := 8, slots := #[.long 99], vm := .none },
  { cls := 8, slots := #[.long 100], vm := .none },
  { cls := 8, slots := #[.long 101], vm := .none },
  { cls := 8, slots := #[.long 102], vm := .none },
  { cls := 8, slots := #[.long 103], vm := .none },
  { cls := 8, slots := #[.long 104], vm := .none },
  { cls := 8, slots := #[.long 105], vm := .none },
  { cls := 8, slots := #[.long 106], vm := .none },
  { cls := 8, slots := #[.long 107], vm := .none },
  { cls := 8, slots := #[.long 108], vm := .none },
  { cls := 8, slots := #[.long 109], vm := .none },
  { cls := 8, slots := #[.long 110], vm := .none },
  { cls := 8, slots := #[.long 111], vm := .none },
  { cls := 8, slots := #[.long 112], vm := .none },
  { cls := 8, slots := #[.long 113], vm := .none },
  { cls := 8, slots := #[.long 114], vm := .none },
  { cls := 8, slots := #[.long 115], vm := .none },
  { cls := 8, slots := #[.long 116], vm := .none },
  { cls := 8, slots := #[.long 117], vm := .none },
  { cls := 8, slots := #[.long 118], vm := .none },
  { cls := 8, slots := #[.long 119], vm := .none },
  { cls := 8, slots := #[.long 120], vm := .none },
  { cls := 8, slots := #[.long 121], vm := .none },
  { cls := 8, slots := #[.long 122], vm := .none },
  { cls := 8, slots := #[.long 123], vm := .none },
  { cls := 8, slots := #[.long 124], vm := .none },
  { cls := 8, slots := #[.long 125], vm := .none },
  { cls := 8, slots := #[.long 126], vm := .none },
  { cls := 8, slots := #[.long 127], vm := .none }]
def classes : Array Class := #[k0, k1, k2, k3, k4, k5, k6, k7, k8, k9, k10, k11, k12, k13, k14, k15]
def interned : List (Array UInt16 × Addr) := []
def slotsUsed : Nat := 515
def theMethod : MethodId := ⟨1, 1⟩
def args0 : Array Value := #[.long 5, .long 7, .int 2]
def aboutOver (below : List Frame) : State where
  vm := { classes := classes, interned := interned.toArray }
  heap := heap
  slotsUsed := slotsUsed
  threads := #[{ frames := .invoking theMethod args0 :: below }]
def below0 : List Frame := [.native { method := ⟨0, 0⟩, args := #[] }]
def about1 : State := aboutOver below0
def p0 : Program := .bare "" "" ""
def e0 : Env := launch0.env 0 0 0
theorem w_frames : about1.frames = Frame.invoking theMethod args0 :: below0 := rfl
set_option maxRecDepth 65536 in
theorem w_args : argsFit about1.vm theMethod args0 = true := by decide +kernel
set_option maxRecDepth 65536 in
theorem w_heap : heapFits about1 = true := by decide +kernel
set_option maxRecDepth 65536 in
theorem w_runnable : about1.curStatus? = some .runnable := by decide +kernel
set_option maxRecDepth 65536 in
theorem w_alone : about1.alone = true := by decide +kernel
set_option maxRecDepth 65536 in
theorem w_named : about1.methodNamed? x = some theMethod := by decide +kernel
set_option maxRecDepth 65536 in
theorem w_hears : about1.hears theMethod below0 = true := by decide +kernel
set_option maxRecDepth 65536 in
theorem w_ripe : about1.ripe theMethod args0 below0 = true := by decide +kernel
theorem w_running : about1.status = .running := rfl
set_option maxRecDepth 65536 in
theorem w_room : about1.hasRoom e0.platform room_1 = true :=
  launch0.hasRoom_least _ room_1 (by decide +kernel) (by decide +kernel) (by decide +kernel) (by decide +kernel) (by decide +kernel) (by decide +kernel)
theorem allAtoms_all (ts : List Jvm.Cond) (a : Array Jvm.Value) (st : Jvm.State) : (allAtoms ts).before a st = ts.all (fun c => c.before a st) := by
  induction ts with
  | nil => rfl
  | cons c t ih =>
    show (Jvm.Cond.and c (allAtoms t)).before a st = _
    rw [Jvm.Cond.before_and, ih, List.all_cons]
def words1 : List Jvm.Cond := Jvm.Cond.code x code maxLocals ret :: tables_1
/-- a 'code' word, met by the world's own term for the bytes: nothing is compared byte by byte -/
theorem code_word {y : MethodName} {bytes : ByteArray} {mx : Nat} {rt : Option FieldType} {a : Array Value} {s : State} {m : MethodId} {meth : Method} {c : Code} (h1 : s.methodNamed? y = some m) (h2 : s.vm.method? m = some meth) (h3 : meth.code = some c) (h4 : c.code = bytes)
    (h5 : (c.maxLocals == mx && c.exceptionTable.isEmpty && decide (c.maxStack ≤ mostOperands) && decide (meth.sig.returnType = rt) && !meth.locks && decide (parseMethodDescriptor y.desc = some meth.sig)) = true) : (Jvm.Cond.code y bytes mx rt).before a s = true := by
  simp only [Bool.and_eq_true, beq_iff_eq, Bool.not_eq_true', decide_eq_true_eq] at h5
  obtain ⟨⟨⟨⟨⟨g1, g2⟩, g3⟩, g4⟩, g5⟩, g6⟩ := h5
  simp [Cond.before, Cond.holds, Cond.value, h1, h2, h3, h4, g1, g2, g3, g4, g5, g6]
def isCode : Jvm.Cond → Bool
  | .code _ _ _ _ => true
  | _ => false
theorem all_split {L : List Jvm.Cond} {P : Jvm.Cond → Bool} (h1 : L.all (fun c => isCode c || P c) = true) (h2 : ∀ c ∈ L.filter isCode, P c = true) : L.all P = true := by
  refine List.all_eq_true.mpr fun c hc => ?_
  have h := List.all_eq_true.mp h1 c hc
  rcases Bool.eq_false_or_eq_true (isCode c) with hi | hi
  · exact h2 c (List.mem_filter.mpr ⟨hc, hi⟩)
  · simpa [hi] using h
set_option maxRecDepth 65536 in
theorem w_c0 : (Jvm.Cond.code x code maxLocals ret).before args0 about1 = true := code_word (m := ⟨1, 1⟩) (meth := k1m1) (c := k1c1) (by decide +kernel) rfl rfl rfl (by decide +kernel)
set_option maxRecDepth 65536 in
theorem w_c1 : (Jvm.Cond.code ({ cls := "com/example/exdel/exdel/MessageId", name := "<init>", desc := "(J)V" } : Jvm.MethodName) prog_8_method_1_code (3 : Nat) (Option.none : Option Jvm.ClassFile.FieldType)).before args0 about1 = true := code_word (m := ⟨2, 0⟩) (meth := k2m0) (c := k2c0) (by decide +kernel) rfl rfl rfl (by decide +kernel)
set_option maxRecDepth 65536 in
theorem w_c2 : (Jvm.Cond.code ({ cls := "java/lang/Object", name := "<init>", desc := "()V" } : Jvm.MethodName) object_method_1_code (1 : Nat) (Option.none : Option Jvm.ClassFile.FieldType)).before args0 about1 = true := code_word (m := ⟨0, 0⟩) (meth := k0m0) (c := k0c0) (by decide +kernel) rfl rfl rfl (by decide +kernel)
set_option maxRecDepth 65536 in
theorem w_c3 : (Jvm.Cond.code ({ cls := "com/example/exdel/exdel/MessageId", name := "equals", desc := "(Ljava/lang/Object;)Z" } : Jvm.MethodName) prog_8_method_3_code (2 : Nat) (Option.some Jvm.ClassFile.FieldType.boolean)).before args0 about1 = true := code_word (m := ⟨2, 1⟩) (meth := k2m1) (c := k2c1) (by decide +kernel) rfl rfl rfl (by decide +kernel)
set_option maxRecDepth 65536 in
theorem w_c4 : (Jvm.Cond.code ({ cls := "java/lang/Long", name := "valueOf", desc := "(J)Ljava/lang/Long;" } : Jvm.MethodName) jdk_35_method_24_code (3 : Nat) (Option.some (Jvm.ClassFile.FieldType.object "java/lang/Long"))).before args0 about1 = true := code_word (m := ⟨8, 0⟩) (meth := k8m0) (c := k8c0) (by decide +kernel) rfl rfl rfl (by decide +kernel)
set_option maxRecDepth 65536 in
theorem w_c5 : (Jvm.Cond.code ({ cls := "java/lang/Long", name := "<init>", desc := "(J)V" } : Jvm.MethodName) jdk_35_method_26_code (3 : Nat) (Option.none : Option Jvm.ClassFile.FieldType)).before args0 about1 = true := code_word (m := ⟨8, 1⟩) (meth := k8m1) (c := k8c1) (by decide +kernel) rfl rfl rfl (by decide +kernel)
set_option maxRecDepth 65536 in
theorem w_c6 : (Jvm.Cond.code ({ cls := "java/lang/Number", name := "<init>", desc := "()V" } : Jvm.MethodName) jdk_18_method_1_code (1 : Nat) (Option.none : Option Jvm.ClassFile.FieldType)).before args0 about1 = true := code_word (m := ⟨4, 0⟩) (meth := k4m0) (c := k4c0) (by decide +kernel) rfl rfl rfl (by decide +kernel)
def codes1 : List Jvm.Cond := [Jvm.Cond.code x code maxLocals ret, Jvm.Cond.code ({ cls := "com/example/exdel/exdel/MessageId", name := "<init>", desc := "(J)V" } : Jvm.MethodName) prog_8_method_1_code (3 : Nat) (Option.none : Option Jvm.ClassFile.FieldType), Jvm.Cond.code ({ cls := "java/lang/Object", name := "<init>", desc := "()V" } : Jvm.MethodName) object_method_1_code (1 : Nat) (Option.none : Option Jvm.ClassFile.FieldType), Jvm.Cond.code ({ cls := "com/example/exdel/exdel/MessageId", name := "equals", desc := "(Ljava/lang/Object;)Z" } : Jvm.MethodName) prog_8_method_3_code (2 : Nat) (Option.some Jvm.ClassFile.FieldType.boolean), Jvm.Cond.code ({ cls := "java/lang/Long", name := "valueOf", desc := "(J)Ljava/lang/Long;" } : Jvm.MethodName) jdk_35_method_24_code (3 : Nat) (Option.some (Jvm.ClassFile.FieldType.object "java/lang/Long")), Jvm.Cond.code ({ cls := "java/lang/Long", name := "<init>", desc := "(J)V" } : Jvm.MethodName) jdk_35_method_26_code (3 : Nat) (Option.none : Option Jvm.ClassFile.FieldType), Jvm.Cond.code ({ cls := "java/lang/Number", name := "<init>", desc := "()V" } : Jvm.MethodName) jdk_18_method_1_code (1 : Nat) (Option.none : Option Jvm.ClassFile.FieldType)]
set_option maxRecDepth 65536 in
theorem codes_eq : words1.filter isCode = codes1 := rfl
theorem w_codes : ∀ c ∈ words1.filter isCode, c.before args0 about1 = true := by
  rw [codes_eq]
  intro c hc
  simp only [codes1, List.mem_cons, List.not_mem_nil, or_false] at hc
  rcases hc with rfl | rfl | rfl | rfl | rfl | rfl | rfl
  · exact w_c0
  · exact w_c1
  · exact w_c2
  · exact w_c3
  · exact w_c4
  · exact w_c5
  · exact w_c6
set_option maxRecDepth 65536 in
theorem w_t1 : (words1.take 24).all (fun c => isCode c || c.before args0 about1) = true := by decide +kernel
set_option maxRecDepth 65536 in
theorem w_t2 : (words1.drop 24).all (fun c => isCode c || c.before args0 about1) = true := by decide +kernel
theorem w_tables : (allAtoms (Jvm.Cond.code x code maxLocals ret :: tables_1)).before args0 about1 = true := by
  rw [allAtoms_all]
  show words1.all (fun c => c.before args0 about1) = true
  refine all_split ?_ w_codes
  rw [← List.take_append_drop 24 words1, List.all_append, w_t1, w_t2]
  rfl
set_option maxRecDepth 65536 in
theorem w_rest : rest_1_c.before args0 about1 = true := by decide +kernel
set_option maxRecDepth 65536 in
theorem w_case : (Jvm.Cond.and given_1 narrow_1).before args0 about1 = true := by decide +kernel
theorem w_applies : (headSpec (Jvm.Cond.code x code maxLocals ret :: tables_1) room_1).applies x e0.platform about1 = true :=
  (Spec.applies_iff w_frames).mpr ⟨w_running, w_runnable, w_alone, w_named, w_hears, w_ripe, w_room, w_tables⟩
theorem atStart : AtStart classFile x code maxLocals ret World_1 tables_1 room_1 Calls_1 rest_1 Pre_1 launch0 p0 e0 about1 theMethod args0 below0 :=
  ⟨lists_1, trivial, launch0.admits_env _ _ _, launch0.least_env, fairChoices_fair.cas, fairChoices_fair.clock, w_frames, w_args, w_heap, w_applies, trivial, w_rest, w_case⟩
end start1
theorem witness_1 : WitnessClaimed_1 := ⟨start1.p0, start1.e0, start1.about1, start1.theMethod, start1.args0, start1.below0, start1.atStart⟩
end Jvm.Pilot.@@N@@

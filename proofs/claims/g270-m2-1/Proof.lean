import JvmDerived
import JvmDerived.Pilot.@@N@@Statement
import JvmDerived.Pilot.@@N@@Code
set_option linter.unusedVariables false
set_option linter.unusedSimpArgs false
@@BLOCK:NumsL.lean.txt@@
namespace Jvm.Pilot.@@N@@
open Jvm Jvm.ClassFile Sem Op Lib Jvm.Free Jvm.Stand Jvm.LawKit Jvm.RoadKit Bundle Jvm.Pilot.@@N@@.Jvm.D
/-- from the state A the body's walk comes to an end of which Q tells -/
def OwnGo (p : Program) (e : Env) (below : List Frame) (Q : Outcome → State → Prop) (A : State) : Prop :=
  ∃ s₂ o, Steps p.tables e below A s₂ ∧ s₂.status = .running ∧ Ended s₂ below o ∧ Q o s₂
theorem own_go {p : Program} {e : Env} {below : List Frame} {Q : Outcome → State → Prop} {A B : State} (st : ∀ t, Steps p.tables e below B t → Steps p.tables e below A t) (h : OwnGo p e below Q B) : OwnGo p e below Q A := by
  obtain ⟨s₂, o, h1, h2⟩ := h
  exact ⟨s₂, o, st _ h1, h2⟩
theorem own_fldI {args : Array Value} {s : State} {t : Term} {C n d : String} {k : Int32} {a : Addr} (ev : t.eval args s none [] s = some (.ref a)) (h : (Jvm.Cond.eq (Term.field t C n d) (Term.int k)).value args s none s [] = some true) : Fld s s.heap a C n d (.int k) := by
  apply Fld.start
  have q := fld_at (C := C) (n := n) (dd := d) ev
  cases hf : s.fieldOf? a C n d with
  | none => rw [hf] at q; simp [Cond.value, q] at h
  | some v => rw [hf] at q; cases v <;> simp [Cond.value, q, Term.int_eval] at h; rw [h]
theorem own_fldL {args : Array Value} {s : State} {t : Term} {C n d : String} {k : Int64} {a : Addr} (ev : t.eval args s none [] s = some (.ref a)) (h : (Jvm.Cond.eq (Term.field t C n d) (Term.long k)).value args s none s [] = some true) : Fld s s.heap a C n d (.long k) := by
  apply Fld.start
  have q := fld_at (C := C) (n := n) (dd := d) ev
  cases hf : s.fieldOf? a C n d with
  | none => rw [hf] at q; simp [Cond.value, q] at h
  | some v => rw [hf] at q; cases v <;> simp [Cond.value, q, long_at] at h; rw [h]
theorem own_refne {a b : Addr} (h : a ≠ b) : decide (Value.ref a = Value.ref b) = false := decide_eq_false fun q => h (Value.ref.inj q)
theorem own_refeq (a : Addr) : decide (Value.ref a = Value.ref a) = true := decide_eq_true rfl
theorem own_rn (a : Addr) : decide (Value.ref a = Value.null) = false := decide_eq_false fun q => by cases q
theorem own_nr (a : Addr) : decide (Value.null = Value.ref a) = false := decide_eq_false fun q => by cases q
theorem own_narb (x : Int32) : nar .byte (x.toInt8.toInt32) = x.toInt8.toInt32 := by simp [nar]
theorem own_selp {Z s : State} {a0 args : Array Value} {y : MethodName} {n : Nat} (hZ : Z.Warmed39 s.vm) (wi : (Jvm.Cond.instantiable y.cls n).before a0 Z = true) (wp : (Jvm.Cond.privateMethod y).before a0 Z = true) (wm : (Jvm.Cond.instanceMethod y).before a0 Z = true)
    (hy : y.cls ≠ "java/lang/invoke/MethodHandle" ∧ y.cls ≠ "java/lang/invoke/VarHandle") : (Jvm.Cond.selects y.cls y y).before args s = true := by
  obtain ⟨c, k, h1, h2, -, h4, -⟩ := Cond.instantiable_spec (mv hZ wi : (Jvm.Cond.instantiable y.cls n).before args s = true)
  exact selects_self_of_private h1 h2 (by revert h4; cases k.isInterface <;> simp) (Cond.privateMethod_at (mvP hZ wp (args := args))) (mv hZ wm) hy
theorem own_monoW {s : State} {o : Outcome} {t : State} {L : List Loc} {k n k' n' : Nat} (h : ReturnedEndW s o t L k n) (hk : k ≤ k') (hn : n ≤ n') : ReturnedEndW s o t L k' n' := ⟨h.1, h.2.1, h.2.2.1, h.2.2.2.mono hk hn⟩
theorem own_newlt {a b k : Nat} (q : a < k) (g : k ≤ b) : a ≠ b := Nat.ne_of_lt (Nat.lt_of_lt_of_le q g)
theorem own_sz {Z : State} {n0 : Nat} {h : Heap} (O : Old Z n0 h) : n0 ≤ h.size := O.1 ▸ O.2.1
theorem own_newne {a b : Addr} {h : Heap} (g : b = h.size) (q : a < h.size) : a ≠ b := fun z => by rw [z, g] at q; exact Nat.lt_irrefl _ q
def OwnFacts (Z : State) (aMONTH aYEAR aQUARTER : Addr) : Prop := (Sta Z Z.heap "com/example/periodmark/periodmark/Grain" "MONTH" "Lcom/example/periodmark/periodmark/Grain;" (.ref aMONTH)) ∧ (Exa Z Z.heap aMONTH "com/example/periodmark/periodmark/Grain$1") ∧ (Fld Z Z.heap aMONTH "com/example/periodmark/periodmark/Grain" "months" "I" (.int (1 : Int32))) ∧ (Sta Z Z.heap "com/example/periodmark/periodmark/Grain" "YEAR" "Lcom/example/periodmark/periodmark/Grain;" (.ref aYEAR)) ∧ (Exa Z Z.heap aYEAR "com/example/periodmark/periodmark/Grain$3") ∧ (Sta Z Z.heap "com/example/periodmark/periodmark/Grain" "QUARTER" "Lcom/example/periodmark/periodmark/Grain;" (.ref aQUARTER)) ∧ (Exa Z Z.heap aQUARTER "com/example/periodmark/periodmark/Grain$2") ∧ (Fld Z Z.heap aYEAR "com/example/periodmark/periodmark/Grain" "months" "I" (.int (12 : Int32))) ∧ (Fld Z Z.heap aQUARTER "com/example/periodmark/periodmark/Grain" "months" "I" (.int (3 : Int32)))
theorem own_mod3 (x : Int32) : (x &&& (2147483647 : Int32)) % (3 : Int32) = (0 : Int32) ∨ (x &&& (2147483647 : Int32)) % (3 : Int32) = (1 : Int32) ∨ (x &&& (2147483647 : Int32)) % (3 : Int32) = (2 : Int32) := by
  have e1 : (x &&& (2147483647 : Int32)).toInt = x.toInt % 2 ^ 31 := Jvm.Kit.i32_mask x _ (k := 31) (by decide) (by decide)
  have e2 : ((x &&& (2147483647 : Int32)) % (3 : Int32)).toInt = (x &&& (2147483647 : Int32)).toInt % (3 : Int32).toInt := Jvm.Kit.i32_rem_nonneg (by omega)
  have e3 : (3 : Int32).toInt = 3 := by decide
  rw [e3] at e2
  have c : ((x &&& (2147483647 : Int32)) % (3 : Int32)).toInt = 0 ∨ ((x &&& (2147483647 : Int32)) % (3 : Int32)).toInt = 1 ∨ ((x &&& (2147483647 : Int32)) % (3 : Int32)).toInt = 2 := by omega
  rcases c with c | c | c
  · exact (Or.inl (Int32.toInt_inj.mp (c.trans (by decide))))
  · exact Or.inr ((Or.inl (Int32.toInt_inj.mp (c.trans (by decide)))))
  · exact Or.inr (Or.inr (((Int32.toInt_inj.mp (c.trans (by decide))))))
theorem d_method_2_0 : decode method_2_code 0 = .ok (.iload_n 0, 1) := by decide +kernel
theorem d_method_2_1 : decode method_2_code 1 = .ok (.ifCond .ne 7, 3) := by decide +kernel
theorem d_method_2_4 : decode method_2_code 4 = .ok (.getstatic 7, 3) := by decide +kernel
theorem d_method_2_7 : decode method_2_code 7 = .ok (.areturn, 1) := by decide +kernel
theorem pn_com_example_periodmark_periodmark_GrainEnclosesPinLaw : plainName "com/example/periodmark/periodmark/GrainEnclosesPinLaw" = true := by first | (simp [plainName, overriddenIn]; done) | decide +kernel
def Q_pick0 (Z : State) (aMONTH aYEAR aQUARTER : Addr) (h0 : Heap) (n0 : Nat) (v : Option Value) (h : Heap) (L : List Loc) : Prop := v = some (.ref aMONTH) ∧ Fr n0 L ∧ h = h0
theorem ef_pick0 (m : MethodId) (x0 : Int32) : entryFrame m #[(.int x0)] 1 = mkF m 0 #[.val (.int x0)] [] := by first | (simp [entryFrame, mkF, argsToLocals, Value.category]; done) | rfl
set_option maxRecDepth 65536 in
set_option maxHeartbeats 40000000 in
theorem rm_pick0 (l : Launch) (Z : State) (a0 : Array Value) (hw : ∀ d ∈ tables_1, d.before a0 Z = true) (ws : List Jvm.Cond) (aMONTH aYEAR aQUARTER : Addr) (F0 : OwnFacts Z aMONTH aYEAR aQUARTER) (h0 : Heap) (n0 : Nat) (O0 : Old Z n0 h0) :
    MetFree l (⟨"com/example/periodmark/periodmark/GrainEnclosesPinLaw", "pick", "(I)Lcom/example/periodmark/periodmark/Grain;"⟩ : MethodName) (head1 (Jvm.Cond.code (⟨"com/example/periodmark/periodmark/GrainEnclosesPinLaw", "pick", "(I)Lcom/example/periodmark/periodmark/Grain;"⟩ : MethodName) method_2_code 1 (some (.object "com/example/periodmark/periodmark/Grain")) :: ws) ({ frames := 0, cells := 0, slots := 0, locals := 0 } : Room)) (fun a U => a = #[(.int (0 : Int32))] ∧ Z.Warmed39 U.vm ∧ U.heap = h0) (fun _ _ _ _ _ => True) (fun _ U o U' => ∃ v L, o = .returned v ∧ Q_pick0 Z aMONTH aYEAR aQUARTER h0 n0 v U'.heap L ∧ FrameEnd U o U' L ({ frames := 0, cells := 0, slots := 0, locals := 0 } : Room).cells ({ frames := 0, cells := 0, slots := 0, locals := 0 } : Room).slots) := by
  refine MetFree.of_bodySF (plainFor_of_name pn_com_example_periodmark_periodmark_GrainEnclosesPinLaw) hisR ?_
  intro p e s m args below meth c s₁ Bd hml0 hP hK
  obtain ⟨rfl, hZ, hh⟩ := hP
  have hx := Bd.exec
  have hby := Bd.bytes
  have hml : c.maxLocals = 1 := hml0
  have hown : s.vm.findClass "com/example/periodmark/periodmark/GrainEnclosesPinLaw" = some m.cls := findClass_of_methodNamed Bd.named
  have hnm := (name_of_methodNamed Bd.named Bd.method).1
  have X0 : Stand p l e ({ frames := 0, cells := 0, slots := 0, locals := 0 } : Room) s m #[(.int (0 : Int32))] below meth c s₁ [] 0 0 := Stand.of_body Bd
  have e0 : s₁.heap = h0 := by rw [← hh, Bd.state]; rfl
  have N0 := Fr.nil n0
  refine own_go (Q := fun o U' => ∃ v L, o = .returned v ∧ Q_pick0 Z aMONTH aYEAR aQUARTER h0 n0 v U'.heap L ∧ FrameEnd s o U' L ({ frames := 0, cells := 0, slots := 0, locals := 0 } : Room).cells ({ frames := 0, cells := 0, slots := 0, locals := 0 } : Room).slots) (fun t k => castTop (ef_pick0 m (0 : Int32)) k) ?_
  show OwnGo p e below _ (s₁.setTop (mkF m 0 #[.val (.int (0 : Int32))] []))
  refine own_go (fun _ k => XS.iloadN X0.here hx rfl (hb hby d_method_2_0) rfl k) ?_
  show OwnGo p e below _ (s₁.setTop (mkF m 1 #[.val (.int (0 : Int32))] [(.int (0 : Int32))]))
  refine own_go (fun _ k => XS.ifNo X0.here hx rfl (hb hby d_method_2_1) rfl (by decide) k) ?_
  show OwnGo p e below _ (s₁.setTop (mkF m 4 #[.val (.int (0 : Int32))] []))
  obtain ⟨T1, X1, e1, st1⟩ := getS X0 hx hZ hown (host := "") (hw _ (List.mem_of_getElem? (i := 5) rfl)) Via.refl e0 (F0.1.ext O0.2) (g := (mkF m 4 #[.val (.int (0 : Int32))] [])) rfl (hb hby d_method_2_4)
  refine own_go st1 ?_
  show OwnGo p e below _ (T1.setTop (mkF m 7 #[.val (.int (0 : Int32))] [(.ref aMONTH)]))
  obtain ⟨fs, hr, hrun, hended, hW, hsame⟩ := X1.leave (v := some (.ref aMONTH)) (fun h => by rw [Bd.returns] at h; cases h)
  refine ⟨_, _, retOut X1 hx Bd.returns rfl (Or.inr (Or.inr (Or.inr (Or.inr ⟨rfl, rfl, rfl⟩)))) (hb hby d_method_2_7) hr, hrun, hended, _, _, rfl, ?_, ⟨_, rfl⟩, hW, hsame.mono (by decide) (by decide)⟩
  show Q_pick0 Z aMONTH aYEAR aQUARTER h0 n0 _ T1.heap _
  rw [e1]
  exact ⟨rfl, N0, rfl⟩
theorem d_method_2_8 : decode method_2_code 8 = .ok (.iload_n 0, 1) := by decide +kernel
theorem d_method_2_9 : decode method_2_code 9 = .ok (.iconst 1, 1) := by decide +kernel
theorem d_method_2_10 : decode method_2_code 10 = .ok (.if_icmp .ne 7, 3) := by decide +kernel
theorem d_method_2_13 : decode method_2_code 13 = .ok (.getstatic 13, 3) := by decide +kernel
theorem d_method_2_16 : decode method_2_code 16 = .ok (.areturn, 1) := by decide +kernel
def Q_pick1 (Z : State) (aMONTH aYEAR aQUARTER : Addr) (h0 : Heap) (n0 : Nat) (v : Option Value) (h : Heap) (L : List Loc) : Prop := v = some (.ref aQUARTER) ∧ Fr n0 L ∧ h = h0
theorem ef_pick1 (m : MethodId) (x0 : Int32) : entryFrame m #[(.int x0)] 1 = mkF m 0 #[.val (.int x0)] [] := by first | (simp [entryFrame, mkF, argsToLocals, Value.category]; done) | rfl
set_option maxRecDepth 65536 in
set_option maxHeartbeats 40000000 in
theorem rm_pick1 (l : Launch) (Z : State) (a0 : Array Value) (hw : ∀ d ∈ tables_1, d.before a0 Z = true) (ws : List Jvm.Cond) (aMONTH aYEAR aQUARTER : Addr) (F0 : OwnFacts Z aMONTH aYEAR aQUARTER) (h0 : Heap) (n0 : Nat) (O0 : Old Z n0 h0) :
    MetFree l (⟨"com/example/periodmark/periodmark/GrainEnclosesPinLaw", "pick", "(I)Lcom/example/periodmark/periodmark/Grain;"⟩ : MethodName) (head1 (Jvm.Cond.code (⟨"com/example/periodmark/periodmark/GrainEnclosesPinLaw", "pick", "(I)Lcom/example/periodmark/periodmark/Grain;"⟩ : MethodName) method_2_code 1 (some (.object "com/example/periodmark/periodmark/Grain")) :: ws) ({ frames := 0, cells := 0, slots := 0, locals := 0 } : Room)) (fun a U => a = #[(.int (1 : Int32))] ∧ Z.Warmed39 U.vm ∧ U.heap = h0) (fun _ _ _ _ _ => True) (fun _ U o U' => ∃ v L, o = .returned v ∧ Q_pick1 Z aMONTH aYEAR aQUARTER h0 n0 v U'.heap L ∧ FrameEnd U o U' L ({ frames := 0, cells := 0, slots := 0, locals := 0 } : Room).cells ({ frames := 0, cells := 0, slots := 0, locals := 0 } : Room).slots) := by
  refine MetFree.of_bodySF (plainFor_of_name pn_com_example_periodmark_periodmark_GrainEnclosesPinLaw) hisR ?_
  intro p e s m args below meth c s₁ Bd hml0 hP hK
  obtain ⟨rfl, hZ, hh⟩ := hP
  have hx := Bd.exec
  have hby := Bd.bytes
  have hml : c.maxLocals = 1 := hml0
  have hown : s.vm.findClass "com/example/periodmark/periodmark/GrainEnclosesPinLaw" = some m.cls := findClass_of_methodNamed Bd.named
  have hnm := (name_of_methodNamed Bd.named Bd.method).1
  have X0 : Stand p l e ({ frames := 0, cells := 0, slots := 0, locals := 0 } : Room) s m #[(.int (1 : Int32))] below meth c s₁ [] 0 0 := Stand.of_body Bd
  have e0 : s₁.heap = h0 := by rw [← hh, Bd.state]; rfl
  have N0 := Fr.nil n0
  refine own_go (Q := fun o U' => ∃ v L, o = .returned v ∧ Q_pick1 Z aMONTH aYEAR aQUARTER h0 n0 v U'.heap L ∧ FrameEnd s o U' L ({ frames := 0, cells := 0, slots := 0, locals := 0 } : Room).cells ({ frames := 0, cells := 0, slots := 0, locals := 0 } : Room).slots) (fun t k => castTop (ef_pick1 m (1 : Int32)) k) ?_
  show OwnGo p e below _ (s₁.setTop (mkF m 0 #[.val (.int (1 : Int32))] []))
  refine own_go (fun _ k => XS.iloadN X0.here hx rfl (hb hby d_method_2_0) rfl k) ?_
  show OwnGo p e below _ (s₁.setTop (mkF m 1 #[.val (.int (1 : Int32))] [(.int (1 : Int32))]))
  refine own_go (fun _ k => XS.ifYes X0.here hx rfl (pc0 := 1) (pc' := 8) rfl (hb hby d_method_2_1) rfl (by decide) (by decide) (by decide) k) ?_
  show OwnGo p e below _ (s₁.setTop (mkF m 8 #[.val (.int (1 : Int32))] []))
  refine own_go (fun _ k => XS.iloadN X0.here hx rfl (hb hby d_method_2_8) rfl k) ?_
  show OwnGo p e below _ (s₁.setTop (mkF m 9 #[.val (.int (1 : Int32))] [(.int (1 : Int32))]))
  refine own_go (fun _ k => XS.iconst X0.here hx rfl (hb hby d_method_2_9) k) ?_
  show OwnGo p e below _ (s₁.setTop (mkF m 10 #[.val (.int (1 : Int32))] [(.int (1 : Int32)), (.int (1 : Int32))]))
  refine own_go (fun _ k => XS.icmpNo X0.here hx rfl (hb hby d_method_2_10) rfl (by decide) k) ?_
  show OwnGo p e below _ (s₁.setTop (mkF m 13 #[.val (.int (1 : Int32))] []))
  obtain ⟨T2, X2, e2, st2⟩ := getS X0 hx hZ hown (host := "") (hw _ (List.mem_of_getElem? (i := 17) rfl)) Via.refl e0 (F0.2.2.2.2.2.1.ext O0.2) (g := (mkF m 13 #[.val (.int (1 : Int32))] [])) rfl (hb hby d_method_2_13)
  refine own_go st2 ?_
  show OwnGo p e below _ (T2.setTop (mkF m 16 #[.val (.int (1 : Int32))] [(.ref aQUARTER)]))
  obtain ⟨fs, hr, hrun, hended, hW, hsame⟩ := X2.leave (v := some (.ref aQUARTER)) (fun h => by rw [Bd.returns] at h; cases h)
  refine ⟨_, _, retOut X2 hx Bd.returns rfl (Or.inr (Or.inr (Or.inr (Or.inr ⟨rfl, rfl, rfl⟩)))) (hb hby d_method_2_16) hr, hrun, hended, _, _, rfl, ?_, ⟨_, rfl⟩, hW, hsame.mono (by decide) (by decide)⟩
  show Q_pick1 Z aMONTH aYEAR aQUARTER h0 n0 _ T2.heap _
  rw [e2]
  exact ⟨rfl, N0, rfl⟩
theorem d_method_2_17 : decode method_2_code 17 = .ok (.getstatic 16, 3) := by decide +kernel
theorem d_method_2_20 : decode method_2_code 20 = .ok (.areturn, 1) := by decide +kernel
def Q_pick2 (Z : State) (aMONTH aYEAR aQUARTER : Addr) (h0 : Heap) (n0 : Nat) (v : Option Value) (h : Heap) (L : List Loc) : Prop := v = some (.ref aYEAR) ∧ Fr n0 L ∧ h = h0
theorem ef_pick2 (m : MethodId) (x0 : Int32) : entryFrame m #[(.int x0)] 1 = mkF m 0 #[.val (.int x0)] [] := by first | (simp [entryFrame, mkF, argsToLocals, Value.category]; done) | rfl
set_option maxRecDepth 65536 in
set_option maxHeartbeats 40000000 in
theorem rm_pick2 (l : Launch) (Z : State) (a0 : Array Value) (hw : ∀ d ∈ tables_1, d.before a0 Z = true) (ws : List Jvm.Cond) (aMONTH aYEAR aQUARTER : Addr) (F0 : OwnFacts Z aMONTH aYEAR aQUARTER) (h0 : Heap) (n0 : Nat) (O0 : Old Z n0 h0) :
    MetFree l (⟨"com/example/periodmark/periodmark/GrainEnclosesPinLaw", "pick", "(I)Lcom/example/periodmark/periodmark/Grain;"⟩ : MethodName) (head1 (Jvm.Cond.code (⟨"com/example/periodmark/periodmark/GrainEnclosesPinLaw", "pick", "(I)Lcom/example/periodmark/periodmark/Grain;"⟩ : MethodName) method_2_code 1 (some (.object "com/example/periodmark/periodmark/Grain")) :: ws) ({ frames := 0, cells := 0, slots := 0, locals := 0 } : Room)) (fun a U => a = #[(.int (2 : Int32))] ∧ Z.Warmed39 U.vm ∧ U.heap = h0) (fun _ _ _ _ _ => True) (fun _ U o U' => ∃ v L, o = .returned v ∧ Q_pick2 Z aMONTH aYEAR aQUARTER h0 n0 v U'.heap L ∧ FrameEnd U o U' L ({ frames := 0, cells := 0, slots := 0, locals := 0 } : Room).cells ({ frames := 0, cells := 0, slots := 0, locals := 0 } : Room).slots) := by
  refine MetFree.of_bodySF (plainFor_of_name pn_com_example_periodmark_periodmark_GrainEnclosesPinLaw) hisR ?_
  intro p e s m args below meth c s₁ Bd hml0 hP hK
  obtain ⟨rfl, hZ, hh⟩ := hP
  have hx := Bd.exec
  have hby := Bd.bytes
  have hml : c.maxLocals = 1 := hml0
  have hown : s.vm.findClass "com/example/periodmark/periodmark/GrainEnclosesPinLaw" = some m.cls := findClass_of_methodNamed Bd.named
  have hnm := (name_of_methodNamed Bd.named Bd.method).1
  have X0 : Stand p l e ({ frames := 0, cells := 0, slots := 0, locals := 0 } : Room) s m #[(.int (2 : Int32))] below meth c s₁ [] 0 0 := Stand.of_body Bd
  have e0 : s₁.heap = h0 := by rw [← hh, Bd.state]; rfl
  have N0 := Fr.nil n0
  refine own_go (Q := fun o U' => ∃ v L, o = .returned v ∧ Q_pick2 Z aMONTH aYEAR aQUARTER h0 n0 v U'.heap L ∧ FrameEnd s o U' L ({ frames := 0, cells := 0, slots := 0, locals := 0 } : Room).cells ({ frames := 0, cells := 0, slots := 0, locals := 0 } : Room).slots) (fun t k => castTop (ef_pick2 m (2 : Int32)) k) ?_
  show OwnGo p e below _ (s₁.setTop (mkF m 0 #[.val (.int (2 : Int32))] []))
  refine own_go (fun _ k => XS.iloadN X0.here hx rfl (hb hby d_method_2_0) rfl k) ?_
  show OwnGo p e below _ (s₁.setTop (mkF m 1 #[.val (.int (2 : Int32))] [(.int (2 : Int32))]))
  refine own_go (fun _ k => XS.ifYes X0.here hx rfl (pc0 := 1) (pc' := 8) rfl (hb hby d_method_2_1) rfl (by decide) (by decide) (by decide) k) ?_
  show OwnGo p e below _ (s₁.setTop (mkF m 8 #[.val (.int (2 : Int32))] []))
  refine own_go (fun _ k => XS.iloadN X0.here hx rfl (hb hby d_method_2_8) rfl k) ?_
  show OwnGo p e below _ (s₁.setTop (mkF m 9 #[.val (.int (2 : Int32))] [(.int (2 : Int32))]))
  refine own_go (fun _ k => XS.iconst X0.here hx rfl (hb hby d_method_2_9) k) ?_
  show OwnGo p e below _ (s₁.setTop (mkF m 10 #[.val (.int (2 : Int32))] [(.int (1 : Int32)), (.int (2 : Int32))]))
  refine own_go (fun _ k => XS.icmpYes X0.here hx rfl (pc0 := 10) (pc' := 17) rfl (hb hby d_method_2_10) rfl (by decide) (by decide) (by decide) k) ?_
  show OwnGo p e below _ (s₁.setTop (mkF m 17 #[.val (.int (2 : Int32))] []))
  obtain ⟨T3, X3, e3, st3⟩ := getS X0 hx hZ hown (host := "") (hw _ (List.mem_of_getElem? (i := 15) rfl)) Via.refl e0 (F0.2.2.2.1.ext O0.2) (g := (mkF m 17 #[.val (.int (2 : Int32))] [])) rfl (hb hby d_method_2_17)
  refine own_go st3 ?_
  show OwnGo p e below _ (T3.setTop (mkF m 20 #[.val (.int (2 : Int32))] [(.ref aYEAR)]))
  obtain ⟨fs, hr, hrun, hended, hW, hsame⟩ := X3.leave (v := some (.ref aYEAR)) (fun h => by rw [Bd.returns] at h; cases h)
  refine ⟨_, _, retOut X3 hx Bd.returns rfl (Or.inr (Or.inr (Or.inr (Or.inr ⟨rfl, rfl, rfl⟩)))) (hb hby d_method_2_20) hr, hrun, hended, _, _, rfl, ?_, ⟨_, rfl⟩, hW, hsame.mono (by decide) (by decide)⟩
  show Q_pick2 Z aMONTH aYEAR aQUARTER h0 n0 _ T3.heap _
  rw [e3]
  exact ⟨rfl, N0, rfl⟩
theorem d_prog_9_method_10_0 : decode prog_9_method_10_code 0 = .ok (.aload_n 0, 1) := by decide +kernel
theorem d_prog_9_method_10_1 : decode prog_9_method_10_code 1 = .ok (.getfield 36, 3) := by decide +kernel
theorem d_prog_9_method_10_4 : decode prog_9_method_10_code 4 = .ok (.aload_n 1, 1) := by decide +kernel
theorem d_prog_9_method_10_5 : decode prog_9_method_10_code 5 = .ok (.getfield 36, 3) := by decide +kernel
theorem d_prog_9_method_10_8 : decode prog_9_method_10_code 8 = .ok (.if_icmp .le 19, 3) := by decide +kernel
theorem d_prog_9_method_10_27 : decode prog_9_method_10_code 27 = .ok (.iconst 0, 1) := by decide +kernel
theorem d_prog_9_method_10_28 : decode prog_9_method_10_code 28 = .ok (.ireturn, 1) := by decide +kernel
theorem pn_com_example_periodmark_periodmark_Grain : plainName "com/example/periodmark/periodmark/Grain" = true := by first | (simp [plainName, overriddenIn]; done) | decide +kernel
def Q_enc00 (Z : State) (aMONTH aYEAR aQUARTER : Addr) (h0 : Heap) (n0 : Nat) (v : Option Value) (h : Heap) (L : List Loc) : Prop := v = some (.int (0 : Int32)) ∧ Fr n0 L ∧ h = h0
theorem ef_enc00 (m : MethodId) (x0 : Addr) (x1 : Addr) : entryFrame m #[(.ref x0), (.ref x1)] 2 = mkF m 0 #[.val (.ref x0), .val (.ref x1)] [] := by first | (simp [entryFrame, mkF, argsToLocals, Value.category]; done) | rfl
set_option maxRecDepth 65536 in
set_option maxHeartbeats 40000000 in
theorem rm_enc00 (l : Launch) (Z : State) (a0 : Array Value) (hw : ∀ d ∈ tables_1, d.before a0 Z = true) (ws : List Jvm.Cond) (aMONTH aYEAR aQUARTER : Addr) (F0 : OwnFacts Z aMONTH aYEAR aQUARTER) (h0 : Heap) (n0 : Nat) (O0 : Old Z n0 h0) :
    MetFree l (⟨"com/example/periodmark/periodmark/Grain", "encloses", "(Lcom/example/periodmark/periodmark/Grain;)Z"⟩ : MethodName) (head1 (Jvm.Cond.code (⟨"com/example/periodmark/periodmark/Grain", "encloses", "(Lcom/example/periodmark/periodmark/Grain;)Z"⟩ : MethodName) prog_9_method_10_code 2 (some .boolean) :: ws) ({ frames := 0, cells := 0, slots := 0, locals := 0 } : Room)) (fun a U => a = #[(.ref aMONTH), (.ref aMONTH)] ∧ Z.Warmed39 U.vm ∧ U.heap = h0) (fun _ _ _ _ _ => True) (fun _ U o U' => ∃ v L, o = .returned v ∧ Q_enc00 Z aMONTH aYEAR aQUARTER h0 n0 v U'.heap L ∧ FrameEnd U o U' L ({ frames := 0, cells := 0, slots := 0, locals := 0 } : Room).cells ({ frames := 0, cells := 0, slots := 0, locals := 0 } : Room).slots) := by
  refine MetFree.of_bodySF (plainFor_of_name pn_com_example_periodmark_periodmark_Grain) hisR ?_
  intro p e s m args below meth c s₁ Bd hml0 hP hK
  obtain ⟨rfl, hZ, hh⟩ := hP
  have hx := Bd.exec
  have hby := Bd.bytes
  have hml : c.maxLocals = 2 := hml0
  have hown : s.vm.findClass "com/example/periodmark/periodmark/Grain" = some m.cls := findClass_of_methodNamed Bd.named
  have hnm := (name_of_methodNamed Bd.named Bd.method).1
  have X0 : Stand p l e ({ frames := 0, cells := 0, slots := 0, locals := 0 } : Room) s m #[(.ref aMONTH), (.ref aMONTH)] below meth c s₁ [] 0 0 := Stand.of_body Bd
  have e0 : s₁.heap = h0 := by rw [← hh, Bd.state]; rfl
  have N0 := Fr.nil n0
  refine own_go (Q := fun o U' => ∃ v L, o = .returned v ∧ Q_enc00 Z aMONTH aYEAR aQUARTER h0 n0 v U'.heap L ∧ FrameEnd s o U' L ({ frames := 0, cells := 0, slots := 0, locals := 0 } : Room).cells ({ frames := 0, cells := 0, slots := 0, locals := 0 } : Room).slots) (fun t k => castTop (ef_enc00 m aMONTH aMONTH) k) ?_
  show OwnGo p e below _ (s₁.setTop (mkF m 0 #[.val (.ref aMONTH), .val (.ref aMONTH)] []))
  refine own_go (fun _ k => XS.aloadN X0.here hx rfl (hb hby d_prog_9_method_10_0) rfl rfl k) ?_
  show OwnGo p e below _ (s₁.setTop (mkF m 1 #[.val (.ref aMONTH), .val (.ref aMONTH)] [(.ref aMONTH)]))
  obtain ⟨T4, X4, e4, st4⟩ := getF X0 hx hZ hown (host := "") (Or.inl (hw _ (List.mem_of_getElem? (i := 13) rfl))) Via.refl e0 (F0.2.2.1.ext O0.2) (g := (mkF m 1 #[.val (.ref aMONTH), .val (.ref aMONTH)] [(.ref aMONTH)])) rfl rfl (hb hby d_prog_9_method_10_1)
  refine own_go st4 ?_
  show OwnGo p e below _ (T4.setTop (mkF m 4 #[.val (.ref aMONTH), .val (.ref aMONTH)] [(.int (1 : Int32))]))
  refine own_go (fun _ k => XS.aloadN X4.here hx rfl (hb hby d_prog_9_method_10_4) rfl rfl k) ?_
  show OwnGo p e below _ (T4.setTop (mkF m 5 #[.val (.ref aMONTH), .val (.ref aMONTH)] [(.ref aMONTH), (.int (1 : Int32))]))
  obtain ⟨T5, X5, e5, st5⟩ := getF X4 hx hZ hown (host := "") (Or.inl (hw _ (List.mem_of_getElem? (i := 13) rfl))) Via.refl e4 (F0.2.2.1.ext O0.2) (g := (mkF m 5 #[.val (.ref aMONTH), .val (.ref aMONTH)] [(.ref aMONTH), (.int (1 : Int32))])) rfl rfl (hb hby d_prog_9_method_10_5)
  refine own_go st5 ?_
  show OwnGo p e below _ (T5.setTop (mkF m 8 #[.val (.ref aMONTH), .val (.ref aMONTH)] [(.int (1 : Int32)), (.int (1 : Int32))]))
  refine own_go (fun _ k => XS.icmpYes X5.here hx rfl (pc0 := 8) (pc' := 27) rfl (hb hby d_prog_9_method_10_8) rfl (by decide) (by decide) (by decide) k) ?_
  show OwnGo p e below _ (T5.setTop (mkF m 27 #[.val (.ref aMONTH), .val (.ref aMONTH)] []))
  refine own_go (fun _ k => XS.iconst X5.here hx rfl (hb hby d_prog_9_method_10_27) k) ?_
  show OwnGo p e below _ (T5.setTop (mkF m 28 #[.val (.ref aMONTH), .val (.ref aMONTH)] [(.int (0 : Int32))]))
  obtain ⟨fs, hr, hrun, hended, hW, hsame⟩ := X5.leave (v := some (.int (0 : Int32))) (fun h => by rw [Bd.returns] at h; cases h)
  refine ⟨_, _, retOut X5 hx Bd.returns rfl (Or.inl ⟨rfl, Or.inr (Or.inl rfl), _, rfl⟩) (hb hby d_prog_9_method_10_28) hr, hrun, hended, _, _, rfl, ?_, ⟨_, rfl⟩, hW, hsame.mono (by decide) (by decide)⟩
  show Q_enc00 Z aMONTH aYEAR aQUARTER h0 n0 _ T5.heap _
  rw [e5]
  exact ⟨rfl, N0, rfl⟩
def Q_enc01 (Z : State) (aMONTH aYEAR aQUARTER : Addr) (h0 : Heap) (n0 : Nat) (v : Option Value) (h : Heap) (L : List Loc) : Prop := v = some (.int (0 : Int32)) ∧ Fr n0 L ∧ h = h0
theorem ef_enc01 (m : MethodId) (x0 : Addr) (x1 : Addr) : entryFrame m #[(.ref x0), (.ref x1)] 2 = mkF m 0 #[.val (.ref x0), .val (.ref x1)] [] := by first | (simp [entryFrame, mkF, argsToLocals, Value.category]; done) | rfl
set_option maxRecDepth 65536 in
set_option maxHeartbeats 40000000 in
theorem rm_enc01 (l : Launch) (Z : State) (a0 : Array Value) (hw : ∀ d ∈ tables_1, d.before a0 Z = true) (ws : List Jvm.Cond) (aMONTH aYEAR aQUARTER : Addr) (F0 : OwnFacts Z aMONTH aYEAR aQUARTER) (h0 : Heap) (n0 : Nat) (O0 : Old Z n0 h0) :
    MetFree l (⟨"com/example/periodmark/periodmark/Grain", "encloses", "(Lcom/example/periodmark/periodmark/Grain;)Z"⟩ : MethodName) (head1 (Jvm.Cond.code (⟨"com/example/periodmark/periodmark/Grain", "encloses", "(Lcom/example/periodmark/periodmark/Grain;)Z"⟩ : MethodName) prog_9_method_10_code 2 (some .boolean) :: ws) ({ frames := 0, cells := 0, slots := 0, locals := 0 } : Room)) (fun a U => a = #[(.ref aMONTH), (.ref aQUARTER)] ∧ Z.Warmed39 U.vm ∧ U.heap = h0) (fun _ _ _ _ _ => True) (fun _ U o U' => ∃ v L, o = .returned v ∧ Q_enc01 Z aMONTH aYEAR aQUARTER h0 n0 v U'.heap L ∧ FrameEnd U o U' L ({ frames := 0, cells := 0, slots := 0, locals := 0 } : Room).cells ({ frames := 0, cells := 0, slots := 0, locals := 0 } : Room).slots) := by
  refine MetFree.of_bodySF (plainFor_of_name pn_com_example_periodmark_periodmark_Grain) hisR ?_
  intro p e s m args below meth c s₁ Bd hml0 hP hK
  obtain ⟨rfl, hZ, hh⟩ := hP
  have hx := Bd.exec
  have hby := Bd.bytes
  have hml : c.maxLocals = 2 := hml0
  have hown : s.vm.findClass "com/example/periodmark/periodmark/Grain" = some m.cls := findClass_of_methodNamed Bd.named
  have hnm := (name_of_methodNamed Bd.named Bd.method).1
  have X0 : Stand p l e ({ frames := 0, cells := 0, slots := 0, locals := 0 } : Room) s m #[(.ref aMONTH), (.ref aQUARTER)] below meth c s₁ [] 0 0 := Stand.of_body Bd
  have e0 : s₁.heap = h0 := by rw [← hh, Bd.state]; rfl
  have N0 := Fr.nil n0
  refine own_go (Q := fun o U' => ∃ v L, o = .returned v ∧ Q_enc01 Z aMONTH aYEAR aQUARTER h0 n0 v U'.heap L ∧ FrameEnd s o U' L ({ frames := 0, cells := 0, slots := 0, locals := 0 } : Room).cells ({ frames := 0, cells := 0, slots := 0, locals := 0 } : Room).slots) (fun t k => castTop (ef_enc01 m aMONTH aQUARTER) k) ?_
  show OwnGo p e below _ (s₁.setTop (mkF m 0 #[.val (.ref aMONTH), .val (.ref aQUARTER)] []))
  refine own_go (fun _ k => XS.aloadN X0.here hx rfl (hb hby d_prog_9_method_10_0) rfl rfl k) ?_
  show OwnGo p e below _ (s₁.setTop (mkF m 1 #[.val (.ref aMONTH), .val (.ref aQUARTER)] [(.ref aMONTH)]))
  obtain ⟨T6, X6, e6, st6⟩ := getF X0 hx hZ hown (host := "") (Or.inl (hw _ (List.mem_of_getElem? (i := 13) rfl))) Via.refl e0 (F0.2.2.1.ext O0.2) (g := (mkF m 1 #[.val (.ref aMONTH), .val (.ref aQUARTER)] [(.ref aMONTH)])) rfl rfl (hb hby d_prog_9_method_10_1)
  refine own_go st6 ?_
  show OwnGo p e below _ (T6.setTop (mkF m 4 #[.val (.ref aMONTH), .val (.ref aQUARTER)] [(.int (1 : Int32))]))
  refine own_go (fun _ k => XS.aloadN X6.here hx rfl (hb hby d_prog_9_method_10_4) rfl rfl k) ?_
  show OwnGo p e below _ (T6.setTop (mkF m 5 #[.val (.ref aMONTH), .val (.ref aQUARTER)] [(.ref aQUARTER), (.int (1 : Int32))]))
  obtain ⟨T7, X7, e7, st7⟩ := getF X6 hx hZ hown (host := "") (Or.inl (hw _ (List.mem_of_getElem? (i := 13) rfl))) Via.refl e6 (F0.2.2.2.2.2.2.2.2.ext O0.2) (g := (mkF m 5 #[.val (.ref aMONTH), .val (.ref aQUARTER)] [(.ref aQUARTER), (.int (1 : Int32))])) rfl rfl (hb hby d_prog_9_method_10_5)
  refine own_go st7 ?_
  show OwnGo p e below _ (T7.setTop (mkF m 8 #[.val (.ref aMONTH), .val (.ref aQUARTER)] [(.int (3 : Int32)), (.int (1 : Int32))]))
  refine own_go (fun _ k => XS.icmpYes X7.here hx rfl (pc0 := 8) (pc' := 27) rfl (hb hby d_prog_9_method_10_8) rfl (by decide) (by decide) (by decide) k) ?_
  show OwnGo p e below _ (T7.setTop (mkF m 27 #[.val (.ref aMONTH), .val (.ref aQUARTER)] []))
  refine own_go (fun _ k => XS.iconst X7.here hx rfl (hb hby d_prog_9_method_10_27) k) ?_
  show OwnGo p e below _ (T7.setTop (mkF m 28 #[.val (.ref aMONTH), .val (.ref aQUARTER)] [(.int (0 : Int32))]))
  obtain ⟨fs, hr, hrun, hended, hW, hsame⟩ := X7.leave (v := some (.int (0 : Int32))) (fun h => by rw [Bd.returns] at h; cases h)
  refine ⟨_, _, retOut X7 hx Bd.returns rfl (Or.inl ⟨rfl, Or.inr (Or.inl rfl), _, rfl⟩) (hb hby d_prog_9_method_10_28) hr, hrun, hended, _, _, rfl, ?_, ⟨_, rfl⟩, hW, hsame.mono (by decide) (by decide)⟩
  show Q_enc01 Z aMONTH aYEAR aQUARTER h0 n0 _ T7.heap _
  rw [e7]
  exact ⟨rfl, N0, rfl⟩
def Q_enc02 (Z : State) (aMONTH aYEAR aQUARTER : Addr) (h0 : Heap) (n0 : Nat) (v : Option Value) (h : Heap) (L : List Loc) : Prop := v = some (.int (0 : Int32)) ∧ Fr n0 L ∧ h = h0
theorem ef_enc02 (m : MethodId) (x0 : Addr) (x1 : Addr) : entryFrame m #[(.ref x0), (.ref x1)] 2 = mkF m 0 #[.val (.ref x0), .val (.ref x1)] [] := by first | (simp [entryFrame, mkF, argsToLocals, Value.category]; done) | rfl
set_option maxRecDepth 65536 in
set_option maxHeartbeats 40000000 in
theorem rm_enc02 (l : Launch) (Z : State) (a0 : Array Value) (hw : ∀ d ∈ tables_1, d.before a0 Z = true) (ws : List Jvm.Cond) (aMONTH aYEAR aQUARTER : Addr) (F0 : OwnFacts Z aMONTH aYEAR aQUARTER) (h0 : Heap) (n0 : Nat) (O0 : Old Z n0 h0) :
    MetFree l (⟨"com/example/periodmark/periodmark/Grain", "encloses", "(Lcom/example/periodmark/periodmark/Grain;)Z"⟩ : MethodName) (head1 (Jvm.Cond.code (⟨"com/example/periodmark/periodmark/Grain", "encloses", "(Lcom/example/periodmark/periodmark/Grain;)Z"⟩ : MethodName) prog_9_method_10_code 2 (some .boolean) :: ws) ({ frames := 0, cells := 0, slots := 0, locals := 0 } : Room)) (fun a U => a = #[(.ref aMONTH), (.ref aYEAR)] ∧ Z.Warmed39 U.vm ∧ U.heap = h0) (fun _ _ _ _ _ => True) (fun _ U o U' => ∃ v L, o = .returned v ∧ Q_enc02 Z aMONTH aYEAR aQUARTER h0 n0 v U'.heap L ∧ FrameEnd U o U' L ({ frames := 0, cells := 0, slots := 0, locals := 0 } : Room).cells ({ frames := 0, cells := 0, slots := 0, locals := 0 } : Room).slots) := by
  refine MetFree.of_bodySF (plainFor_of_name pn_com_example_periodmark_periodmark_Grain) hisR ?_
  intro p e s m args below meth c s₁ Bd hml0 hP hK
  obtain ⟨rfl, hZ, hh⟩ := hP
  have hx := Bd.exec
  have hby := Bd.bytes
  have hml : c.maxLocals = 2 := hml0
  have hown : s.vm.findClass "com/example/periodmark/periodmark/Grain" = some m.cls := findClass_of_methodNamed Bd.named
  have hnm := (name_of_methodNamed Bd.named Bd.method).1
  have X0 : Stand p l e ({ frames := 0, cells := 0, slots := 0, locals := 0 } : Room) s m #[(.ref aMONTH), (.ref aYEAR)] below meth c s₁ [] 0 0 := Stand.of_body Bd
  have e0 : s₁.heap = h0 := by rw [← hh, Bd.state]; rfl
  have N0 := Fr.nil n0
  refine own_go (Q := fun o U' => ∃ v L, o = .returned v ∧ Q_enc02 Z aMONTH aYEAR aQUARTER h0 n0 v U'.heap L ∧ FrameEnd s o U' L ({ frames := 0, cells := 0, slots := 0, locals := 0 } : Room).cells ({ frames := 0, cells := 0, slots := 0, locals := 0 } : Room).slots) (fun t k => castTop (ef_enc02 m aMONTH aYEAR) k) ?_
  show OwnGo p e below _ (s₁.setTop (mkF m 0 #[.val (.ref aMONTH), .val (.ref aYEAR)] []))
  refine own_go (fun _ k => XS.aloadN X0.here hx rfl (hb hby d_prog_9_method_10_0) rfl rfl k) ?_
  show OwnGo p e below _ (s₁.setTop (mkF m 1 #[.val (.ref aMONTH), .val (.ref aYEAR)] [(.ref aMONTH)]))
  obtain ⟨T8, X8, e8, st8⟩ := getF X0 hx hZ hown (host := "") (Or.inl (hw _ (List.mem_of_getElem? (i := 13) rfl))) Via.refl e0 (F0.2.2.1.ext O0.2) (g := (mkF m 1 #[.val (.ref aMONTH), .val (.ref aYEAR)] [(.ref aMONTH)])) rfl rfl (hb hby d_prog_9_method_10_1)
  refine own_go st8 ?_
  show OwnGo p e below _ (T8.setTop (mkF m 4 #[.val (.ref aMONTH), .val (.ref aYEAR)] [(.int (1 : Int32))]))
  refine own_go (fun _ k => XS.aloadN X8.here hx rfl (hb hby d_prog_9_method_10_4) rfl rfl k) ?_
  show OwnGo p e below _ (T8.setTop (mkF m 5 #[.val (.ref aMONTH), .val (.ref aYEAR)] [(.ref aYEAR), (.int (1 : Int32))]))
  obtain ⟨T9, X9, e9, st9⟩ := getF X8 hx hZ hown (host := "") (Or.inl (hw _ (List.mem_of_getElem? (i := 13) rfl))) Via.refl e8 (F0.2.2.2.2.2.2.2.1.ext O0.2) (g := (mkF m 5 #[.val (.ref aMONTH), .val (.ref aYEAR)] [(.ref aYEAR), (.int (1 : Int32))])) rfl rfl (hb hby d_prog_9_method_10_5)
  refine own_go st9 ?_
  show OwnGo p e below _ (T9.setTop (mkF m 8 #[.val (.ref aMONTH), .val (.ref aYEAR)] [(.int (12 : Int32)), (.int (1 : Int32))]))
  refine own_go (fun _ k => XS.icmpYes X9.here hx rfl (pc0 := 8) (pc' := 27) rfl (hb hby d_prog_9_method_10_8) rfl (by decide) (by decide) (by decide) k) ?_
  show OwnGo p e below _ (T9.setTop (mkF m 27 #[.val (.ref aMONTH), .val (.ref aYEAR)] []))
  refine own_go (fun _ k => XS.iconst X9.here hx rfl (hb hby d_prog_9_method_10_27) k) ?_
  show OwnGo p e below _ (T9.setTop (mkF m 28 #[.val (.ref aMONTH), .val (.ref aYEAR)] [(.int (0 : Int32))]))
  obtain ⟨fs, hr, hrun, hended, hW, hsame⟩ := X9.leave (v := some (.int (0 : Int32))) (fun h => by rw [Bd.returns] at h; cases h)
  refine ⟨_, _, retOut X9 hx Bd.returns rfl (Or.inl ⟨rfl, Or.inr (Or.inl rfl), _, rfl⟩) (hb hby d_prog_9_method_10_28) hr, hrun, hended, _, _, rfl, ?_, ⟨_, rfl⟩, hW, hsame.mono (by decide) (by decide)⟩
  show Q_enc02 Z aMONTH aYEAR aQUARTER h0 n0 _ T9.heap _
  rw [e9]
  exact ⟨rfl, N0, rfl⟩
theorem d_prog_9_method_10_11 : decode prog_9_method_10_code 11 = .ok (.aload_n 0, 1) := by decide +kernel
theorem d_prog_9_method_10_12 : decode prog_9_method_10_code 12 = .ok (.getfield 36, 3) := by decide +kernel
theorem d_prog_9_method_10_15 : decode prog_9_method_10_code 15 = .ok (.aload_n 1, 1) := by decide +kernel
theorem d_prog_9_method_10_16 : decode prog_9_method_10_code 16 = .ok (.getfield 36, 3) := by decide +kernel
theorem d_prog_9_method_10_19 : decode prog_9_method_10_code 19 = .ok (.irem, 1) := by decide +kernel
theorem d_prog_9_method_10_20 : decode prog_9_method_10_code 20 = .ok (.ifCond .ne 7, 3) := by decide +kernel
theorem d_prog_9_method_10_23 : decode prog_9_method_10_code 23 = .ok (.iconst 1, 1) := by decide +kernel
theorem d_prog_9_method_10_24 : decode prog_9_method_10_code 24 = .ok (.goto 4, 3) := by decide +kernel
def Q_enc10 (Z : State) (aMONTH aYEAR aQUARTER : Addr) (h0 : Heap) (n0 : Nat) (v : Option Value) (h : Heap) (L : List Loc) : Prop := v = some (.int (1 : Int32)) ∧ Fr n0 L ∧ h = h0
theorem ef_enc10 (m : MethodId) (x0 : Addr) (x1 : Addr) : entryFrame m #[(.ref x0), (.ref x1)] 2 = mkF m 0 #[.val (.ref x0), .val (.ref x1)] [] := by first | (simp [entryFrame, mkF, argsToLocals, Value.category]; done) | rfl
set_option maxRecDepth 65536 in
set_option maxHeartbeats 40000000 in
theorem rm_enc10 (l : Launch) (Z : State) (a0 : Array Value) (hw : ∀ d ∈ tables_1, d.before a0 Z = true) (ws : List Jvm.Cond) (aMONTH aYEAR aQUARTER : Addr) (F0 : OwnFacts Z aMONTH aYEAR aQUARTER) (h0 : Heap) (n0 : Nat) (O0 : Old Z n0 h0) :
    MetFree l (⟨"com/example/periodmark/periodmark/Grain", "encloses", "(Lcom/example/periodmark/periodmark/Grain;)Z"⟩ : MethodName) (head1 (Jvm.Cond.code (⟨"com/example/periodmark/periodmark/Grain", "encloses", "(Lcom/example/periodmark/periodmark/Grain;)Z"⟩ : MethodName) prog_9_method_10_code 2 (some .boolean) :: ws) ({ frames := 0, cells := 0, slots := 0, locals := 0 } : Room)) (fun a U => a = #[(.ref aQUARTER), (.ref aMONTH)] ∧ Z.Warmed39 U.vm ∧ U.heap = h0) (fun _ _ _ _ _ => True) (fun _ U o U' => ∃ v L, o = .returned v ∧ Q_enc10 Z aMONTH aYEAR aQUARTER h0 n0 v U'.heap L ∧ FrameEnd U o U' L ({ frames := 0, cells := 0, slots := 0, locals := 0 } : Room).cells ({ frames := 0, cells := 0, slots := 0, locals := 0 } : Room).slots) := by
  refine MetFree.of_bodySF (plainFor_of_name pn_com_example_periodmark_periodmark_Grain) hisR ?_
  intro p e s m args below meth c s₁ Bd hml0 hP hK
  obtain ⟨rfl, hZ, hh⟩ := hP
  have hx := Bd.exec
  have hby := Bd.bytes
  have hml : c.maxLocals = 2 := hml0
  have hown : s.vm.findClass "com/example/periodmark/periodmark/Grain" = some m.cls := findClass_of_methodNamed Bd.named
  have hnm := (name_of_methodNamed Bd.named Bd.method).1
  have X0 : Stand p l e ({ frames := 0, cells := 0, slots := 0, locals := 0 } : Room) s m #[(.ref aQUARTER), (.ref aMONTH)] below meth c s₁ [] 0 0 := Stand.of_body Bd
  have e0 : s₁.heap = h0 := by rw [← hh, Bd.state]; rfl
  have N0 := Fr.nil n0
  refine own_go (Q := fun o U' => ∃ v L, o = .returned v ∧ Q_enc10 Z aMONTH aYEAR aQUARTER h0 n0 v U'.heap L ∧ FrameEnd s o U' L ({ frames := 0, cells := 0, slots := 0, locals := 0 } : Room).cells ({ frames := 0, cells := 0, slots := 0, locals := 0 } : Room).slots) (fun t k => castTop (ef_enc10 m aQUARTER aMONTH) k) ?_
  show OwnGo p e below _ (s₁.setTop (mkF m 0 #[.val (.ref aQUARTER), .val (.ref aMONTH)] []))
  refine own_go (fun _ k => XS.aloadN X0.here hx rfl (hb hby d_prog_9_method_10_0) rfl rfl k) ?_
  show OwnGo p e below _ (s₁.setTop (mkF m 1 #[.val (.ref aQUARTER), .val (.ref aMONTH)] [(.ref aQUARTER)]))
  obtain ⟨T10, X10, e10, st10⟩ := getF X0 hx hZ hown (host := "") (Or.inl (hw _ (List.mem_of_getElem? (i := 13) rfl))) Via.refl e0 (F0.2.2.2.2.2.2.2.2.ext O0.2) (g := (mkF m 1 #[.val (.ref aQUARTER), .val (.ref aMONTH)] [(.ref aQUARTER)])) rfl rfl (hb hby d_prog_9_method_10_1)
  refine own_go st10 ?_
  show OwnGo p e below _ (T10.setTop (mkF m 4 #[.val (.ref aQUARTER), .val (.ref aMONTH)] [(.int (3 : Int32))]))
  refine own_go (fun _ k => XS.aloadN X10.here hx rfl (hb hby d_prog_9_method_10_4) rfl rfl k) ?_
  show OwnGo p e below _ (T10.setTop (mkF m 5 #[.val (.ref aQUARTER), .val (.ref aMONTH)] [(.ref aMONTH), (.int (3 : Int32))]))
  obtain ⟨T11, X11, e11, st11⟩ := getF X10 hx hZ hown (host := "") (Or.inl (hw _ (List.mem_of_getElem? (i := 13) rfl))) Via.refl e10 (F0.2.2.1.ext O0.2) (g := (mkF m 5 #[.val (.ref aQUARTER), .val (.ref aMONTH)] [(.ref aMONTH), (.int (3 : Int32))])) rfl rfl (hb hby d_prog_9_method_10_5)
  refine own_go st11 ?_
  show OwnGo p e below _ (T11.setTop (mkF m 8 #[.val (.ref aQUARTER), .val (.ref aMONTH)] [(.int (1 : Int32)), (.int (3 : Int32))]))
  refine own_go (fun _ k => XS.icmpNo X11.here hx rfl (hb hby d_prog_9_method_10_8) rfl (by decide) k) ?_
  show OwnGo p e below _ (T11.setTop (mkF m 11 #[.val (.ref aQUARTER), .val (.ref aMONTH)] []))
  refine own_go (fun _ k => XS.aloadN X11.here hx rfl (hb hby d_prog_9_method_10_11) rfl rfl k) ?_
  show OwnGo p e below _ (T11.setTop (mkF m 12 #[.val (.ref aQUARTER), .val (.ref aMONTH)] [(.ref aQUARTER)]))
  obtain ⟨T12, X12, e12, st12⟩ := getF X11 hx hZ hown (host := "") (Or.inl (hw _ (List.mem_of_getElem? (i := 13) rfl))) Via.refl e11 (F0.2.2.2.2.2.2.2.2.ext O0.2) (g := (mkF m 12 #[.val (.ref aQUARTER), .val (.ref aMONTH)] [(.ref aQUARTER)])) rfl rfl (hb hby d_prog_9_method_10_12)
  refine own_go st12 ?_
  show OwnGo p e below _ (T12.setTop (mkF m 15 #[.val (.ref aQUARTER), .val (.ref aMONTH)] [(.int (3 : Int32))]))
  refine own_go (fun _ k => XS.aloadN X12.here hx rfl (hb hby d_prog_9_method_10_15) rfl rfl k) ?_
  show OwnGo p e below _ (T12.setTop (mkF m 16 #[.val (.ref aQUARTER), .val (.ref aMONTH)] [(.ref aMONTH), (.int (3 : Int32))]))
  obtain ⟨T13, X13, e13, st13⟩ := getF X12 hx hZ hown (host := "") (Or.inl (hw _ (List.mem_of_getElem? (i := 13) rfl))) Via.refl e12 (F0.2.2.1.ext O0.2) (g := (mkF m 16 #[.val (.ref aQUARTER), .val (.ref aMONTH)] [(.ref aMONTH), (.int (3 : Int32))])) rfl rfl (hb hby d_prog_9_method_10_16)
  refine own_go st13 ?_
  show OwnGo p e below _ (T13.setTop (mkF m 19 #[.val (.ref aQUARTER), .val (.ref aMONTH)] [(.int (1 : Int32)), (.int (3 : Int32))]))
  refine own_go (fun _ k => iremM X13 hx rfl (hb hby d_prog_9_method_10_19) rfl (by decide) k) ?_
  show OwnGo p e below _ (T13.setTop (mkF m 20 #[.val (.ref aQUARTER), .val (.ref aMONTH)] [(.int ((3 : Int32) % (1 : Int32)))]))
  rw [show ((3 : Int32) % (1 : Int32)) = (0 : Int32) from by decide]
  show OwnGo p e below _ (T13.setTop (mkF m 20 #[.val (.ref aQUARTER), .val (.ref aMONTH)] [(.int (0 : Int32))]))
  refine own_go (fun _ k => XS.ifNo X13.here hx rfl (hb hby d_prog_9_method_10_20) rfl (by decide) k) ?_
  show OwnGo p e below _ (T13.setTop (mkF m 23 #[.val (.ref aQUARTER), .val (.ref aMONTH)] []))
  refine own_go (fun _ k => XS.iconst X13.here hx rfl (hb hby d_prog_9_method_10_23) k) ?_
  show OwnGo p e below _ (T13.setTop (mkF m 24 #[.val (.ref aQUARTER), .val (.ref aMONTH)] [(.int (1 : Int32))]))
  refine own_go (fun _ k => XS.goto X13.here hx rfl (pc0 := 24) (pc' := 28) rfl (hb hby d_prog_9_method_10_24) (by decide) (by decide) k) ?_
  show OwnGo p e below _ (T13.setTop (mkF m 28 #[.val (.ref aQUARTER), .val (.ref aMONTH)] [(.int (1 : Int32))]))
  obtain ⟨fs, hr, hrun, hended, hW, hsame⟩ := X13.leave (v := some (.int (1 : Int32))) (fun h => by rw [Bd.returns] at h; cases h)
  refine ⟨_, _, retOut X13 hx Bd.returns rfl (Or.inl ⟨rfl, Or.inr (Or.inl rfl), _, rfl⟩) (hb hby d_prog_9_method_10_28) hr, hrun, hended, _, _, rfl, ?_, ⟨_, rfl⟩, hW, hsame.mono (by decide) (by decide)⟩
  show Q_enc10 Z aMONTH aYEAR aQUARTER h0 n0 _ T13.heap _
  rw [e13]
  exact ⟨rfl, N0, rfl⟩
def Q_enc11 (Z : State) (aMONTH aYEAR aQUARTER : Addr) (h0 : Heap) (n0 : Nat) (v : Option Value) (h : Heap) (L : List Loc) : Prop := v = some (.int (0 : Int32)) ∧ Fr n0 L ∧ h = h0
theorem ef_enc11 (m : MethodId) (x0 : Addr) (x1 : Addr) : entryFrame m #[(.ref x0), (.ref x1)] 2 = mkF m 0 #[.val (.ref x0), .val (.ref x1)] [] := by first | (simp [entryFrame, mkF, argsToLocals, Value.category]; done) | rfl
set_option maxRecDepth 65536 in
set_option maxHeartbeats 40000000 in
theorem rm_enc11 (l : Launch) (Z : State) (a0 : Array Value) (hw : ∀ d ∈ tables_1, d.before a0 Z = true) (ws : List Jvm.Cond) (aMONTH aYEAR aQUARTER : Addr) (F0 : OwnFacts Z aMONTH aYEAR aQUARTER) (h0 : Heap) (n0 : Nat) (O0 : Old Z n0 h0) :
    MetFree l (⟨"com/example/periodmark/periodmark/Grain", "encloses", "(Lcom/example/periodmark/periodmark/Grain;)Z"⟩ : MethodName) (head1 (Jvm.Cond.code (⟨"com/example/periodmark/periodmark/Grain", "encloses", "(Lcom/example/periodmark/periodmark/Grain;)Z"⟩ : MethodName) prog_9_method_10_code 2 (some .boolean) :: ws) ({ frames := 0, cells := 0, slots := 0, locals := 0 } : Room)) (fun a U => a = #[(.ref aQUARTER), (.ref aQUARTER)] ∧ Z.Warmed39 U.vm ∧ U.heap = h0) (fun _ _ _ _ _ => True) (fun _ U o U' => ∃ v L, o = .returned v ∧ Q_enc11 Z aMONTH aYEAR aQUARTER h0 n0 v U'.heap L ∧ FrameEnd U o U' L ({ frames := 0, cells := 0, slots := 0, locals := 0 } : Room).cells ({ frames := 0, cells := 0, slots := 0, locals := 0 } : Room).slots) := by
  refine MetFree.of_bodySF (plainFor_of_name pn_com_example_periodmark_periodmark_Grain) hisR ?_
  intro p e s m args below meth c s₁ Bd hml0 hP hK
  obtain ⟨rfl, hZ, hh⟩ := hP
  have hx := Bd.exec
  have hby := Bd.bytes
  have hml : c.maxLocals = 2 := hml0
  have hown : s.vm.findClass "com/example/periodmark/periodmark/Grain" = some m.cls := findClass_of_methodNamed Bd.named
  have hnm := (name_of_methodNamed Bd.named Bd.method).1
  have X0 : Stand p l e ({ frames := 0, cells := 0, slots := 0, locals := 0 } : Room) s m #[(.ref aQUARTER), (.ref aQUARTER)] below meth c s₁ [] 0 0 := Stand.of_body Bd
  have e0 : s₁.heap = h0 := by rw [← hh, Bd.state]; rfl
  have N0 := Fr.nil n0
  refine own_go (Q := fun o U' => ∃ v L, o = .returned v ∧ Q_enc11 Z aMONTH aYEAR aQUARTER h0 n0 v U'.heap L ∧ FrameEnd s o U' L ({ frames := 0, cells := 0, slots := 0, locals := 0 } : Room).cells ({ frames := 0, cells := 0, slots := 0, locals := 0 } : Room).slots) (fun t k => castTop (ef_enc11 m aQUARTER aQUARTER) k) ?_
  show OwnGo p e below _ (s₁.setTop (mkF m 0 #[.val (.ref aQUARTER), .val (.ref aQUARTER)] []))
  refine own_go (fun _ k => XS.aloadN X0.here hx rfl (hb hby d_prog_9_method_10_0) rfl rfl k) ?_
  show OwnGo p e below _ (s₁.setTop (mkF m 1 #[.val (.ref aQUARTER), .val (.ref aQUARTER)] [(.ref aQUARTER)]))
  obtain ⟨T14, X14, e14, st14⟩ := getF X0 hx hZ hown (host := "") (Or.inl (hw _ (List.mem_of_getElem? (i := 13) rfl))) Via.refl e0 (F0.2.2.2.2.2.2.2.2.ext O0.2) (g := (mkF m 1 #[.val (.ref aQUARTER), .val (.ref aQUARTER)] [(.ref aQUARTER)])) rfl rfl (hb hby d_prog_9_method_10_1)
  refine own_go st14 ?_
  show OwnGo p e below _ (T14.setTop (mkF m 4 #[.val (.ref aQUARTER), .val (.ref aQUARTER)] [(.int (3 : Int32))]))
  refine own_go (fun _ k => XS.aloadN X14.here hx rfl (hb hby d_prog_9_method_10_4) rfl rfl k) ?_
  show OwnGo p e below _ (T14.setTop (mkF m 5 #[.val (.ref aQUARTER), .val (.ref aQUARTER)] [(.ref aQUARTER), (.int (3 : Int32))]))
  obtain ⟨T15, X15, e15, st15⟩ := getF X14 hx hZ hown (host := "") (Or.inl (hw _ (List.mem_of_getElem? (i := 13) rfl))) Via.refl e14 (F0.2.2.2.2.2.2.2.2.ext O0.2) (g := (mkF m 5 #[.val (.ref aQUARTER), .val (.ref aQUARTER)] [(.ref aQUARTER), (.int (3 : Int32))])) rfl rfl (hb hby d_prog_9_method_10_5)
  refine own_go st15 ?_
  show OwnGo p e below _ (T15.setTop (mkF m 8 #[.val (.ref aQUARTER), .val (.ref aQUARTER)] [(.int (3 : Int32)), (.int (3 : Int32))]))
  refine own_go (fun _ k => XS.icmpYes X15.here hx rfl (pc0 := 8) (pc' := 27) rfl (hb hby d_prog_9_method_10_8) rfl (by decide) (by decide) (by decide) k) ?_
  show OwnGo p e below _ (T15.setTop (mkF m 27 #[.val (.ref aQUARTER), .val (.ref aQUARTER)] []))
  refine own_go (fun _ k => XS.iconst X15.here hx rfl (hb hby d_prog_9_method_10_27) k) ?_
  show OwnGo p e below _ (T15.setTop (mkF m 28 #[.val (.ref aQUARTER), .val (.ref aQUARTER)] [(.int (0 : Int32))]))
  obtain ⟨fs, hr, hrun, hended, hW, hsame⟩ := X15.leave (v := some (.int (0 : Int32))) (fun h => by rw [Bd.returns] at h; cases h)
  refine ⟨_, _, retOut X15 hx Bd.returns rfl (Or.inl ⟨rfl, Or.inr (Or.inl rfl), _, rfl⟩) (hb hby d_prog_9_method_10_28) hr, hrun, hended, _, _, rfl, ?_, ⟨_, rfl⟩, hW, hsame.mono (by decide) (by decide)⟩
  show Q_enc11 Z aMONTH aYEAR aQUARTER h0 n0 _ T15.heap _
  rw [e15]
  exact ⟨rfl, N0, rfl⟩
def Q_enc12 (Z : State) (aMONTH aYEAR aQUARTER : Addr) (h0 : Heap) (n0 : Nat) (v : Option Value) (h : Heap) (L : List Loc) : Prop := v = some (.int (0 : Int32)) ∧ Fr n0 L ∧ h = h0
theorem ef_enc12 (m : MethodId) (x0 : Addr) (x1 : Addr) : entryFrame m #[(.ref x0), (.ref x1)] 2 = mkF m 0 #[.val (.ref x0), .val (.ref x1)] [] := by first | (simp [entryFrame, mkF, argsToLocals, Value.category]; done) | rfl
set_option maxRecDepth 65536 in
set_option maxHeartbeats 40000000 in
theorem rm_enc12 (l : Launch) (Z : State) (a0 : Array Value) (hw : ∀ d ∈ tables_1, d.before a0 Z = true) (ws : List Jvm.Cond) (aMONTH aYEAR aQUARTER : Addr) (F0 : OwnFacts Z aMONTH aYEAR aQUARTER) (h0 : Heap) (n0 : Nat) (O0 : Old Z n0 h0) :
    MetFree l (⟨"com/example/periodmark/periodmark/Grain", "encloses", "(Lcom/example/periodmark/periodmark/Grain;)Z"⟩ : MethodName) (head1 (Jvm.Cond.code (⟨"com/example/periodmark/periodmark/Grain", "encloses", "(Lcom/example/periodmark/periodmark/Grain;)Z"⟩ : MethodName) prog_9_method_10_code 2 (some .boolean) :: ws) ({ frames := 0, cells := 0, slots := 0, locals := 0 } : Room)) (fun a U => a = #[(.ref aQUARTER), (.ref aYEAR)] ∧ Z.Warmed39 U.vm ∧ U.heap = h0) (fun _ _ _ _ _ => True) (fun _ U o U' => ∃ v L, o = .returned v ∧ Q_enc12 Z aMONTH aYEAR aQUARTER h0 n0 v U'.heap L ∧ FrameEnd U o U' L ({ frames := 0, cells := 0, slots := 0, locals := 0 } : Room).cells ({ frames := 0, cells := 0, slots := 0, locals := 0 } : Room).slots) := by
  refine MetFree.of_bodySF (plainFor_of_name pn_com_example_periodmark_periodmark_Grain) hisR ?_
  intro p e s m args below meth c s₁ Bd hml0 hP hK
  obtain ⟨rfl, hZ, hh⟩ := hP
  have hx := Bd.exec
  have hby := Bd.bytes
  have hml : c.maxLocals = 2 := hml0
  have hown : s.vm.findClass "com/example/periodmark/periodmark/Grain" = some m.cls := findClass_of_methodNamed Bd.named
  have hnm := (name_of_methodNamed Bd.named Bd.method).1
  have X0 : Stand p l e ({ frames := 0, cells := 0, slots := 0, locals := 0 } : Room) s m #[(.ref aQUARTER), (.ref aYEAR)] below meth c s₁ [] 0 0 := Stand.of_body Bd
  have e0 : s₁.heap = h0 := by rw [← hh, Bd.state]; rfl
  have N0 := Fr.nil n0
  refine own_go (Q := fun o U' => ∃ v L, o = .returned v ∧ Q_enc12 Z aMONTH aYEAR aQUARTER h0 n0 v U'.heap L ∧ FrameEnd s o U' L ({ frames := 0, cells := 0, slots := 0, locals := 0 } : Room).cells ({ frames := 0, cells := 0, slots := 0, locals := 0 } : Room).slots) (fun t k => castTop (ef_enc12 m aQUARTER aYEAR) k) ?_
  show OwnGo p e below _ (s₁.setTop (mkF m 0 #[.val (.ref aQUARTER), .val (.ref aYEAR)] []))
  refine own_go (fun _ k => XS.aloadN X0.here hx rfl (hb hby d_prog_9_method_10_0) rfl rfl k) ?_
  show OwnGo p e below _ (s₁.setTop (mkF m 1 #[.val (.ref aQUARTER), .val (.ref aYEAR)] [(.ref aQUARTER)]))
  obtain ⟨T16, X16, e16, st16⟩ := getF X0 hx hZ hown (host := "") (Or.inl (hw _ (List.mem_of_getElem? (i := 13) rfl))) Via.refl e0 (F0.2.2.2.2.2.2.2.2.ext O0.2) (g := (mkF m 1 #[.val (.ref aQUARTER), .val (.ref aYEAR)] [(.ref aQUARTER)])) rfl rfl (hb hby d_prog_9_method_10_1)
  refine own_go st16 ?_
  show OwnGo p e below _ (T16.setTop (mkF m 4 #[.val (.ref aQUARTER), .val (.ref aYEAR)] [(.int (3 : Int32))]))
  refine own_go (fun _ k => XS.aloadN X16.here hx rfl (hb hby d_prog_9_method_10_4) rfl rfl k) ?_
  show OwnGo p e below _ (T16.setTop (mkF m 5 #[.val (.ref aQUARTER), .val (.ref aYEAR)] [(.ref aYEAR), (.int (3 : Int32))]))
  obtain ⟨T17, X17, e17, st17⟩ := getF X16 hx hZ hown (host := "") (Or.inl (hw _ (List.mem_of_getElem? (i := 13) rfl))) Via.refl e16 (F0.2.2.2.2.2.2.2.1.ext O0.2) (g := (mkF m 5 #[.val (.ref aQUARTER), .val (.ref aYEAR)] [(.ref aYEAR), (.int (3 : Int32))])) rfl rfl (hb hby d_prog_9_method_10_5)
  refine own_go st17 ?_
  show OwnGo p e below _ (T17.setTop (mkF m 8 #[.val (.ref aQUARTER), .val (.ref aYEAR)] [(.int (12 : Int32)), (.int (3 : Int32))]))
  refine own_go (fun _ k => XS.icmpYes X17.here hx rfl (pc0 := 8) (pc' := 27) rfl (hb hby d_prog_9_method_10_8) rfl (by decide) (by decide) (by decide) k) ?_
  show OwnGo p e below _ (T17.setTop (mkF m 27 #[.val (.ref aQUARTER), .val (.ref aYEAR)] []))
  refine own_go (fun _ k => XS.iconst X17.here hx rfl (hb hby d_prog_9_method_10_27) k) ?_
  show OwnGo p e below _ (T17.setTop (mkF m 28 #[.val (.ref aQUARTER), .val (.ref aYEAR)] [(.int (0 : Int32))]))
  obtain ⟨fs, hr, hrun, hended, hW, hsame⟩ := X17.leave (v := some (.int (0 : Int32))) (fun h => by rw [Bd.returns] at h; cases h)
  refine ⟨_, _, retOut X17 hx Bd.returns rfl (Or.inl ⟨rfl, Or.inr (Or.inl rfl), _, rfl⟩) (hb hby d_prog_9_method_10_28) hr, hrun, hended, _, _, rfl, ?_, ⟨_, rfl⟩, hW, hsame.mono (by decide) (by decide)⟩
  show Q_enc12 Z aMONTH aYEAR aQUARTER h0 n0 _ T17.heap _
  rw [e17]
  exact ⟨rfl, N0, rfl⟩
def Q_enc20 (Z : State) (aMONTH aYEAR aQUARTER : Addr) (h0 : Heap) (n0 : Nat) (v : Option Value) (h : Heap) (L : List Loc) : Prop := v = some (.int (1 : Int32)) ∧ Fr n0 L ∧ h = h0
theorem ef_enc20 (m : MethodId) (x0 : Addr) (x1 : Addr) : entryFrame m #[(.ref x0), (.ref x1)] 2 = mkF m 0 #[.val (.ref x0), .val (.ref x1)] [] := by first | (simp [entryFrame, mkF, argsToLocals, Value.category]; done) | rfl
set_option maxRecDepth 65536 in
set_option maxHeartbeats 40000000 in
theorem rm_enc20 (l : Launch) (Z : State) (a0 : Array Value) (hw : ∀ d ∈ tables_1, d.before a0 Z = true) (ws : List Jvm.Cond) (aMONTH aYEAR aQUARTER : Addr) (F0 : OwnFacts Z aMONTH aYEAR aQUARTER) (h0 : Heap) (n0 : Nat) (O0 : Old Z n0 h0) :
    MetFree l (⟨"com/example/periodmark/periodmark/Grain", "encloses", "(Lcom/example/periodmark/periodmark/Grain;)Z"⟩ : MethodName) (head1 (Jvm.Cond.code (⟨"com/example/periodmark/periodmark/Grain", "encloses", "(Lcom/example/periodmark/periodmark/Grain;)Z"⟩ : MethodName) prog_9_method_10_code 2 (some .boolean) :: ws) ({ frames := 0, cells := 0, slots := 0, locals := 0 } : Room)) (fun a U => a = #[(.ref aYEAR), (.ref aMONTH)] ∧ Z.Warmed39 U.vm ∧ U.heap = h0) (fun _ _ _ _ _ => True) (fun _ U o U' => ∃ v L, o = .returned v ∧ Q_enc20 Z aMONTH aYEAR aQUARTER h0 n0 v U'.heap L ∧ FrameEnd U o U' L ({ frames := 0, cells := 0, slots := 0, locals := 0 } : Room).cells ({ frames := 0, cells := 0, slots := 0, locals := 0 } : Room).slots) := by
  refine MetFree.of_bodySF (plainFor_of_name pn_com_example_periodmark_periodmark_Grain) hisR ?_
  intro p e s m args below meth c s₁ Bd hml0 hP hK
  obtain ⟨rfl, hZ, hh⟩ := hP
  have hx := Bd.exec
  have hby := Bd.bytes
  have hml : c.maxLocals = 2 := hml0
  have hown : s.vm.findClass "com/example/periodmark/periodmark/Grain" = some m.cls := findClass_of_methodNamed Bd.named
  have hnm := (name_of_methodNamed Bd.named Bd.method).1
  have X0 : Stand p l e ({ frames := 0, cells := 0, slots := 0, locals := 0 } : Room) s m #[(.ref aYEAR), (.ref aMONTH)] below meth c s₁ [] 0 0 := Stand.of_body Bd
  have e0 : s₁.heap = h0 := by rw [← hh, Bd.state]; rfl
  have N0 := Fr.nil n0
  refine own_go (Q := fun o U' => ∃ v L, o = .returned v ∧ Q_enc20 Z aMONTH aYEAR aQUARTER h0 n0 v U'.heap L ∧ FrameEnd s o U' L ({ frames := 0, cells := 0, slots := 0, locals := 0 } : Room).cells ({ frames := 0, cells := 0, slots := 0, locals := 0 } : Room).slots) (fun t k => castTop (ef_enc20 m aYEAR aMONTH) k) ?_
  show OwnGo p e below _ (s₁.setTop (mkF m 0 #[.val (.ref aYEAR), .val (.ref aMONTH)] []))
  refine own_go (fun _ k => XS.aloadN X0.here hx rfl (hb hby d_prog_9_method_10_0) rfl rfl k) ?_
  show OwnGo p e below _ (s₁.setTop (mkF m 1 #[.val (.ref aYEAR), .val (.ref aMONTH)] [(.ref aYEAR)]))
  obtain ⟨T18, X18, e18, st18⟩ := getF X0 hx hZ hown (host := "") (Or.inl (hw _ (List.mem_of_getElem? (i := 13) rfl))) Via.refl e0 (F0.2.2.2.2.2.2.2.1.ext O0.2) (g := (mkF m 1 #[.val (.ref aYEAR), .val (.ref aMONTH)] [(.ref aYEAR)])) rfl rfl (hb hby d_prog_9_method_10_1)
  refine own_go st18 ?_
  show OwnGo p e below _ (T18.setTop (mkF m 4 #[.val (.ref aYEAR), .val (.ref aMONTH)] [(.int (12 : Int32))]))
  refine own_go (fun _ k => XS.aloadN X18.here hx rfl (hb hby d_prog_9_method_10_4) rfl rfl k) ?_
  show OwnGo p e below _ (T18.setTop (mkF m 5 #[.val (.ref aYEAR), .val (.ref aMONTH)] [(.ref aMONTH), (.int (12 : Int32))]))
  obtain ⟨T19, X19, e19, st19⟩ := getF X18 hx hZ hown (host := "") (Or.inl (hw _ (List.mem_of_getElem? (i := 13) rfl))) Via.refl e18 (F0.2.2.1.ext O0.2) (g := (mkF m 5 #[.val (.ref aYEAR), .val (.ref aMONTH)] [(.ref aMONTH), (.int (12 : Int32))])) rfl rfl (hb hby d_prog_9_method_10_5)
  refine own_go st19 ?_
  show OwnGo p e below _ (T19.setTop (mkF m 8 #[.val (.ref aYEAR), .val (.ref aMONTH)] [(.int (1 : Int32)), (.int (12 : Int32))]))
  refine own_go (fun _ k => XS.icmpNo X19.here hx rfl (hb hby d_prog_9_method_10_8) rfl (by decide) k) ?_
  show OwnGo p e below _ (T19.setTop (mkF m 11 #[.val (.ref aYEAR), .val (.ref aMONTH)] []))
  refine own_go (fun _ k => XS.aloadN X19.here hx rfl (hb hby d_prog_9_method_10_11) rfl rfl k) ?_
  show OwnGo p e below _ (T19.setTop (mkF m 12 #[.val (.ref aYEAR), .val (.ref aMONTH)] [(.ref aYEAR)]))
  obtain ⟨T20, X20, e20, st20⟩ := getF X19 hx hZ hown (host := "") (Or.inl (hw _ (List.mem_of_getElem? (i := 13) rfl))) Via.refl e19 (F0.2.2.2.2.2.2.2.1.ext O0.2) (g := (mkF m 12 #[.val (.ref aYEAR), .val (.ref aMONTH)] [(.ref aYEAR)])) rfl rfl (hb hby d_prog_9_method_10_12)
  refine own_go st20 ?_
  show OwnGo p e below _ (T20.setTop (mkF m 15 #[.val (.ref aYEAR), .val (.ref aMONTH)] [(.int (12 : Int32))]))
  refine own_go (fun _ k => XS.aloadN X20.here hx rfl (hb hby d_prog_9_method_10_15) rfl rfl k) ?_
  show OwnGo p e below _ (T20.setTop (mkF m 16 #[.val (.ref aYEAR), .val (.ref aMONTH)] [(.ref aMONTH), (.int (12 : Int32))]))
  obtain ⟨T21, X21, e21, st21⟩ := getF X20 hx hZ hown (host := "") (Or.inl (hw _ (List.mem_of_getElem? (i := 13) rfl))) Via.refl e20 (F0.2.2.1.ext O0.2) (g := (mkF m 16 #[.val (.ref aYEAR), .val (.ref aMONTH)] [(.ref aMONTH), (.int (12 : Int32))])) rfl rfl (hb hby d_prog_9_method_10_16)
  refine own_go st21 ?_
  show OwnGo p e below _ (T21.setTop (mkF m 19 #[.val (.ref aYEAR), .val (.ref aMONTH)] [(.int (1 : Int32)), (.int (12 : Int32))]))
  refine own_go (fun _ k => iremM X21 hx rfl (hb hby d_prog_9_method_10_19) rfl (by decide) k) ?_
  show OwnGo p e below _ (T21.setTop (mkF m 20 #[.val (.ref aYEAR), .val (.ref aMONTH)] [(.int ((12 : Int32) % (1 : Int32)))]))
  rw [show ((12 : Int32) % (1 : Int32)) = (0 : Int32) from by decide]
  show OwnGo p e below _ (T21.setTop (mkF m 20 #[.val (.ref aYEAR), .val (.ref aMONTH)] [(.int (0 : Int32))]))
  refine own_go (fun _ k => XS.ifNo X21.here hx rfl (hb hby d_prog_9_method_10_20) rfl (by decide) k) ?_
  show OwnGo p e below _ (T21.setTop (mkF m 23 #[.val (.ref aYEAR), .val (.ref aMONTH)] []))
  refine own_go (fun _ k => XS.iconst X21.here hx rfl (hb hby d_prog_9_method_10_23) k) ?_
  show OwnGo p e below _ (T21.setTop (mkF m 24 #[.val (.ref aYEAR), .val (.ref aMONTH)] [(.int (1 : Int32))]))
  refine own_go (fun _ k => XS.goto X21.here hx rfl (pc0 := 24) (pc' := 28) rfl (hb hby d_prog_9_method_10_24) (by decide) (by decide) k) ?_
  show OwnGo p e below _ (T21.setTop (mkF m 28 #[.val (.ref aYEAR), .val (.ref aMONTH)] [(.int (1 : Int32))]))
  obtain ⟨fs, hr, hrun, hended, hW, hsame⟩ := X21.leave (v := some (.int (1 : Int32))) (fun h => by rw [Bd.returns] at h; cases h)
  refine ⟨_, _, retOut X21 hx Bd.returns rfl (Or.inl ⟨rfl, Or.inr (Or.inl rfl), _, rfl⟩) (hb hby d_prog_9_method_10_28) hr, hrun, hended, _, _, rfl, ?_, ⟨_, rfl⟩, hW, hsame.mono (by decide) (by decide)⟩
  show Q_enc20 Z aMONTH aYEAR aQUARTER h0 n0 _ T21.heap _
  rw [e21]
  exact ⟨rfl, N0, rfl⟩
def Q_enc21 (Z : State) (aMONTH aYEAR aQUARTER : Addr) (h0 : Heap) (n0 : Nat) (v : Option Value) (h : Heap) (L : List Loc) : Prop := v = some (.int (1 : Int32)) ∧ Fr n0 L ∧ h = h0
theorem ef_enc21 (m : MethodId) (x0 : Addr) (x1 : Addr) : entryFrame m #[(.ref x0), (.ref x1)] 2 = mkF m 0 #[.val (.ref x0), .val (.ref x1)] [] := by first | (simp [entryFrame, mkF, argsToLocals, Value.category]; done) | rfl
set_option maxRecDepth 65536 in
set_option maxHeartbeats 40000000 in
theorem rm_enc21 (l : Launch) (Z : State) (a0 : Array Value) (hw : ∀ d ∈ tables_1, d.before a0 Z = true) (ws : List Jvm.Cond) (aMONTH aYEAR aQUARTER : Addr) (F0 : OwnFacts Z aMONTH aYEAR aQUARTER) (h0 : Heap) (n0 : Nat) (O0 : Old Z n0 h0) :
    MetFree l (⟨"com/example/periodmark/periodmark/Grain", "encloses", "(Lcom/example/periodmark/periodmark/Grain;)Z"⟩ : MethodName) (head1 (Jvm.Cond.code (⟨"com/example/periodmark/periodmark/Grain", "encloses", "(Lcom/example/periodmark/periodmark/Grain;)Z"⟩ : MethodName) prog_9_method_10_code 2 (some .boolean) :: ws) ({ frames := 0, cells := 0, slots := 0, locals := 0 } : Room)) (fun a U => a = #[(.ref aYEAR), (.ref aQUARTER)] ∧ Z.Warmed39 U.vm ∧ U.heap = h0) (fun _ _ _ _ _ => True) (fun _ U o U' => ∃ v L, o = .returned v ∧ Q_enc21 Z aMONTH aYEAR aQUARTER h0 n0 v U'.heap L ∧ FrameEnd U o U' L ({ frames := 0, cells := 0, slots := 0, locals := 0 } : Room).cells ({ frames := 0, cells := 0, slots := 0, locals := 0 } : Room).slots) := by
  refine MetFree.of_bodySF (plainFor_of_name pn_com_example_periodmark_periodmark_Grain) hisR ?_
  intro p e s m args below meth c s₁ Bd hml0 hP hK
  obtain ⟨rfl, hZ, hh⟩ := hP
  have hx := Bd.exec
  have hby := Bd.bytes
  have hml : c.maxLocals = 2 := hml0
  have hown : s.vm.findClass "com/example/periodmark/periodmark/Grain" = some m.cls := findClass_of_methodNamed Bd.named
  have hnm := (name_of_methodNamed Bd.named Bd.method).1
  have X0 : Stand p l e ({ frames := 0, cells := 0, slots := 0, locals := 0 } : Room) s m #[(.ref aYEAR), (.ref aQUARTER)] below meth c s₁ [] 0 0 := Stand.of_body Bd
  have e0 : s₁.heap = h0 := by rw [← hh, Bd.state]; rfl
  have N0 := Fr.nil n0
  refine own_go (Q := fun o U' => ∃ v L, o = .returned v ∧ Q_enc21 Z aMONTH aYEAR aQUARTER h0 n0 v U'.heap L ∧ FrameEnd s o U' L ({ frames := 0, cells := 0, slots := 0, locals := 0 } : Room).cells ({ frames := 0, cells := 0, slots := 0, locals := 0 } : Room).slots) (fun t k => castTop (ef_enc21 m aYEAR aQUARTER) k) ?_
  show OwnGo p e below _ (s₁.setTop (mkF m 0 #[.val (.ref aYEAR), .val (.ref aQUARTER)] []))
  refine own_go (fun _ k => XS.aloadN X0.here hx rfl (hb hby d_prog_9_method_10_0) rfl rfl k) ?_
  show OwnGo p e below _ (s₁.setTop (mkF m 1 #[.val (.ref aYEAR), .val (.ref aQUARTER)] [(.ref aYEAR)]))
  obtain ⟨T22, X22, e22, st22⟩ := getF X0 hx hZ hown (host := "") (Or.inl (hw _ (List.mem_of_getElem? (i := 13) rfl))) Via.refl e0 (F0.2.2.2.2.2.2.2.1.ext O0.2) (g := (mkF m 1 #[.val (.ref aYEAR), .val (.ref aQUARTER)] [(.ref aYEAR)])) rfl rfl (hb hby d_prog_9_method_10_1)
  refine own_go st22 ?_
  show OwnGo p e below _ (T22.setTop (mkF m 4 #[.val (.ref aYEAR), .val (.ref aQUARTER)] [(.int (12 : Int32))]))
  refine own_go (fun _ k => XS.aloadN X22.here hx rfl (hb hby d_prog_9_method_10_4) rfl rfl k) ?_
  show OwnGo p e below _ (T22.setTop (mkF m 5 #[.val (.ref aYEAR), .val (.ref aQUARTER)] [(.ref aQUARTER), (.int (12 : Int32))]))
  obtain ⟨T23, X23, e23, st23⟩ := getF X22 hx hZ hown (host := "") (Or.inl (hw _ (List.mem_of_getElem? (i := 13) rfl))) Via.refl e22 (F0.2.2.2.2.2.2.2.2.ext O0.2) (g := (mkF m 5 #[.val (.ref aYEAR), .val (.ref aQUARTER)] [(.ref aQUARTER), (.int (12 : Int32))])) rfl rfl (hb hby d_prog_9_method_10_5)
  refine own_go st23 ?_
  show OwnGo p e below _ (T23.setTop (mkF m 8 #[.val (.ref aYEAR), .val (.ref aQUARTER)] [(.int (3 : Int32)), (.int (12 : Int32))]))
  refine own_go (fun _ k => XS.icmpNo X23.here hx rfl (hb hby d_prog_9_method_10_8) rfl (by decide) k) ?_
  show OwnGo p e below _ (T23.setTop (mkF m 11 #[.val (.ref aYEAR), .val (.ref aQUARTER)] []))
  refine own_go (fun _ k => XS.aloadN X23.here hx rfl (hb hby d_prog_9_method_10_11) rfl rfl k) ?_
  show OwnGo p e below _ (T23.setTop (mkF m 12 #[.val (.ref aYEAR), .val (.ref aQUARTER)] [(.ref aYEAR)]))
  obtain ⟨T24, X24, e24, st24⟩ := getF X23 hx hZ hown (host := "") (Or.inl (hw _ (List.mem_of_getElem? (i := 13) rfl))) Via.refl e23 (F0.2.2.2.2.2.2.2.1.ext O0.2) (g := (mkF m 12 #[.val (.ref aYEAR), .val (.ref aQUARTER)] [(.ref aYEAR)])) rfl rfl (hb hby d_prog_9_method_10_12)
  refine own_go st24 ?_
  show OwnGo p e below _ (T24.setTop (mkF m 15 #[.val (.ref aYEAR), .val (.ref aQUARTER)] [(.int (12 : Int32))]))
  refine own_go (fun _ k => XS.aloadN X24.here hx rfl (hb hby d_prog_9_method_10_15) rfl rfl k) ?_
  show OwnGo p e below _ (T24.setTop (mkF m 16 #[.val (.ref aYEAR), .val (.ref aQUARTER)] [(.ref aQUARTER), (.int (12 : Int32))]))
  obtain ⟨T25, X25, e25, st25⟩ := getF X24 hx hZ hown (host := "") (Or.inl (hw _ (List.mem_of_getElem? (i := 13) rfl))) Via.refl e24 (F0.2.2.2.2.2.2.2.2.ext O0.2) (g := (mkF m 16 #[.val (.ref aYEAR), .val (.ref aQUARTER)] [(.ref aQUARTER), (.int (12 : Int32))])) rfl rfl (hb hby d_prog_9_method_10_16)
  refine own_go st25 ?_
  show OwnGo p e below _ (T25.setTop (mkF m 19 #[.val (.ref aYEAR), .val (.ref aQUARTER)] [(.int (3 : Int32)), (.int (12 : Int32))]))
  refine own_go (fun _ k => iremM X25 hx rfl (hb hby d_prog_9_method_10_19) rfl (by decide) k) ?_
  show OwnGo p e below _ (T25.setTop (mkF m 20 #[.val (.ref aYEAR), .val (.ref aQUARTER)] [(.int ((12 : Int32) % (3 : Int32)))]))
  rw [show ((12 : Int32) % (3 : Int32)) = (0 : Int32) from by decide]
  show OwnGo p e below _ (T25.setTop (mkF m 20 #[.val (.ref aYEAR), .val (.ref aQUARTER)] [(.int (0 : Int32))]))
  refine own_go (fun _ k => XS.ifNo X25.here hx rfl (hb hby d_prog_9_method_10_20) rfl (by decide) k) ?_
  show OwnGo p e below _ (T25.setTop (mkF m 23 #[.val (.ref aYEAR), .val (.ref aQUARTER)] []))
  refine own_go (fun _ k => XS.iconst X25.here hx rfl (hb hby d_prog_9_method_10_23) k) ?_
  show OwnGo p e below _ (T25.setTop (mkF m 24 #[.val (.ref aYEAR), .val (.ref aQUARTER)] [(.int (1 : Int32))]))
  refine own_go (fun _ k => XS.goto X25.here hx rfl (pc0 := 24) (pc' := 28) rfl (hb hby d_prog_9_method_10_24) (by decide) (by decide) k) ?_
  show OwnGo p e below _ (T25.setTop (mkF m 28 #[.val (.ref aYEAR), .val (.ref aQUARTER)] [(.int (1 : Int32))]))
  obtain ⟨fs, hr, hrun, hended, hW, hsame⟩ := X25.leave (v := some (.int (1 : Int32))) (fun h => by rw [Bd.returns] at h; cases h)
  refine ⟨_, _, retOut X25 hx Bd.returns rfl (Or.inl ⟨rfl, Or.inr (Or.inl rfl), _, rfl⟩) (hb hby d_prog_9_method_10_28) hr, hrun, hended, _, _, rfl, ?_, ⟨_, rfl⟩, hW, hsame.mono (by decide) (by decide)⟩
  show Q_enc21 Z aMONTH aYEAR aQUARTER h0 n0 _ T25.heap _
  rw [e25]
  exact ⟨rfl, N0, rfl⟩
def Q_enc22 (Z : State) (aMONTH aYEAR aQUARTER : Addr) (h0 : Heap) (n0 : Nat) (v : Option Value) (h : Heap) (L : List Loc) : Prop := v = some (.int (0 : Int32)) ∧ Fr n0 L ∧ h = h0
theorem ef_enc22 (m : MethodId) (x0 : Addr) (x1 : Addr) : entryFrame m #[(.ref x0), (.ref x1)] 2 = mkF m 0 #[.val (.ref x0), .val (.ref x1)] [] := by first | (simp [entryFrame, mkF, argsToLocals, Value.category]; done) | rfl
set_option maxRecDepth 65536 in
set_option maxHeartbeats 40000000 in
theorem rm_enc22 (l : Launch) (Z : State) (a0 : Array Value) (hw : ∀ d ∈ tables_1, d.before a0 Z = true) (ws : List Jvm.Cond) (aMONTH aYEAR aQUARTER : Addr) (F0 : OwnFacts Z aMONTH aYEAR aQUARTER) (h0 : Heap) (n0 : Nat) (O0 : Old Z n0 h0) :
    MetFree l (⟨"com/example/periodmark/periodmark/Grain", "encloses", "(Lcom/example/periodmark/periodmark/Grain;)Z"⟩ : MethodName) (head1 (Jvm.Cond.code (⟨"com/example/periodmark/periodmark/Grain", "encloses", "(Lcom/example/periodmark/periodmark/Grain;)Z"⟩ : MethodName) prog_9_method_10_code 2 (some .boolean) :: ws) ({ frames := 0, cells := 0, slots := 0, locals := 0 } : Room)) (fun a U => a = #[(.ref aYEAR), (.ref aYEAR)] ∧ Z.Warmed39 U.vm ∧ U.heap = h0) (fun _ _ _ _ _ => True) (fun _ U o U' => ∃ v L, o = .returned v ∧ Q_enc22 Z aMONTH aYEAR aQUARTER h0 n0 v U'.heap L ∧ FrameEnd U o U' L ({ frames := 0, cells := 0, slots := 0, locals := 0 } : Room).cells ({ frames := 0, cells := 0, slots := 0, locals := 0 } : Room).slots) := by
  refine MetFree.of_bodySF (plainFor_of_name pn_com_example_periodmark_periodmark_Grain) hisR ?_
  intro p e s m args below meth c s₁ Bd hml0 hP hK
  obtain ⟨rfl, hZ, hh⟩ := hP
  have hx := Bd.exec
  have hby := Bd.bytes
  have hml : c.maxLocals = 2 := hml0
  have hown : s.vm.findClass "com/example/periodmark/periodmark/Grain" = some m.cls := findClass_of_methodNamed Bd.named
  have hnm := (name_of_methodNamed Bd.named Bd.method).1
  have X0 : Stand p l e ({ frames := 0, cells := 0, slots := 0, locals := 0 } : Room) s m #[(.ref aYEAR), (.ref aYEAR)] below meth c s₁ [] 0 0 := Stand.of_body Bd
  have e0 : s₁.heap = h0 := by rw [← hh, Bd.state]; rfl
  have N0 := Fr.nil n0
  refine own_go (Q := fun o U' => ∃ v L, o = .returned v ∧ Q_enc22 Z aMONTH aYEAR aQUARTER h0 n0 v U'.heap L ∧ FrameEnd s o U' L ({ frames := 0, cells := 0, slots := 0, locals := 0 } : Room).cells ({ frames := 0, cells := 0, slots := 0, locals := 0 } : Room).slots) (fun t k => castTop (ef_enc22 m aYEAR aYEAR) k) ?_
  show OwnGo p e below _ (s₁.setTop (mkF m 0 #[.val (.ref aYEAR), .val (.ref aYEAR)] []))
  refine own_go (fun _ k => XS.aloadN X0.here hx rfl (hb hby d_prog_9_method_10_0) rfl rfl k) ?_
  show OwnGo p e below _ (s₁.setTop (mkF m 1 #[.val (.ref aYEAR), .val (.ref aYEAR)] [(.ref aYEAR)]))
  obtain ⟨T26, X26, e26, st26⟩ := getF X0 hx hZ hown (host := "") (Or.inl (hw _ (List.mem_of_getElem? (i := 13) rfl))) Via.refl e0 (F0.2.2.2.2.2.2.2.1.ext O0.2) (g := (mkF m 1 #[.val (.ref aYEAR), .val (.ref aYEAR)] [(.ref aYEAR)])) rfl rfl (hb hby d_prog_9_method_10_1)
  refine own_go st26 ?_
  show OwnGo p e below _ (T26.setTop (mkF m 4 #[.val (.ref aYEAR), .val (.ref aYEAR)] [(.int (12 : Int32))]))
  refine own_go (fun _ k => XS.aloadN X26.here hx rfl (hb hby d_prog_9_method_10_4) rfl rfl k) ?_
  show OwnGo p e below _ (T26.setTop (mkF m 5 #[.val (.ref aYEAR), .val (.ref aYEAR)] [(.ref aYEAR), (.int (12 : Int32))]))
  obtain ⟨T27, X27, e27, st27⟩ := getF X26 hx hZ hown (host := "") (Or.inl (hw _ (List.mem_of_getElem? (i := 13) rfl))) Via.refl e26 (F0.2.2.2.2.2.2.2.1.ext O0.2) (g := (mkF m 5 #[.val (.ref aYEAR), .val (.ref aYEAR)] [(.ref aYEAR), (.int (12 : Int32))])) rfl rfl (hb hby d_prog_9_method_10_5)
  refine own_go st27 ?_
  show OwnGo p e below _ (T27.setTop (mkF m 8 #[.val (.ref aYEAR), .val (.ref aYEAR)] [(.int (12 : Int32)), (.int (12 : Int32))]))
  refine own_go (fun _ k => XS.icmpYes X27.here hx rfl (pc0 := 8) (pc' := 27) rfl (hb hby d_prog_9_method_10_8) rfl (by decide) (by decide) (by decide) k) ?_
  show OwnGo p e below _ (T27.setTop (mkF m 27 #[.val (.ref aYEAR), .val (.ref aYEAR)] []))
  refine own_go (fun _ k => XS.iconst X27.here hx rfl (hb hby d_prog_9_method_10_27) k) ?_
  show OwnGo p e below _ (T27.setTop (mkF m 28 #[.val (.ref aYEAR), .val (.ref aYEAR)] [(.int (0 : Int32))]))
  obtain ⟨fs, hr, hrun, hended, hW, hsame⟩ := X27.leave (v := some (.int (0 : Int32))) (fun h => by rw [Bd.returns] at h; cases h)
  refine ⟨_, _, retOut X27 hx Bd.returns rfl (Or.inl ⟨rfl, Or.inr (Or.inl rfl), _, rfl⟩) (hb hby d_prog_9_method_10_28) hr, hrun, hended, _, _, rfl, ?_, ⟨_, rfl⟩, hW, hsame.mono (by decide) (by decide)⟩
  show Q_enc22 Z aMONTH aYEAR aQUARTER h0 n0 _ T27.heap _
  rw [e27]
  exact ⟨rfl, N0, rfl⟩
theorem pd_I__Lcom_example_periodmark_periodmark_Grain_ : parseMethodDescriptor "(I)Lcom/example/periodmark/periodmark/Grain;" = some ⟨[.int], some (.object "com/example/periodmark/periodmark/Grain")⟩ := by decide +kernel
theorem pd_Lcom_example_periodmark_periodmark_Grain___Z : parseMethodDescriptor "(Lcom/example/periodmark/periodmark/Grain;)Z" = some ⟨[(.object "com/example/periodmark/periodmark/Grain")], some .boolean⟩ := by decide +kernel
def Q_law (Z : State) (aMONTH aYEAR aQUARTER : Addr) (p1 : Int32) (p2 : Int32) (h0 : Heap) (n0 : Nat) (v : Option Value) (h : Heap) (L : List Loc) : Prop := v = some (.int (1 : Int32)) ∧ Fr n0 L
theorem ef_law (m : MethodId) (x0 : Int32) (x1 : Int32) : entryFrame m #[(.int x0), (.int x1)] maxLocals = mkF m 0 #[.val (.int x0), .val (.int x1), .unset, .unset, .unset, .unset, .unset] [] := by first | (simp [entryFrame, mkF, argsToLocals, Value.category, maxLocals]; done) | rfl
set_option maxRecDepth 65536 in
set_option maxHeartbeats 40000000 in
theorem rm_law (l : Launch) (Z : State) (a0 : Array Value) (hw : ∀ d ∈ tables_1, d.before a0 Z = true) (ws : List Jvm.Cond) (aMONTH aYEAR aQUARTER : Addr) (F0 : OwnFacts Z aMONTH aYEAR aQUARTER) (p1 : Int32) (p2 : Int32) (h0 : Heap) (n0 : Nat) (O0 : Old Z n0 h0) :
    MetFree l x (head1 (Jvm.Cond.code x code maxLocals ret :: ws) room_1) (fun a U => a = #[(.int p1), (.int p2)] ∧ Z.Warmed39 U.vm ∧ U.heap = h0) (fun _ _ _ _ _ => True) (fun _ U o U' => ∃ v L, o = .returned v ∧ Q_law Z aMONTH aYEAR aQUARTER p1 p2 h0 n0 v U'.heap L ∧ FrameEnd U o U' L 0 0) := by
  refine MetFree.of_bodySF (plainFor_of_name pn_com_example_periodmark_periodmark_GrainEnclosesPinLaw) hisR ?_
  intro p e s m args below meth c s₁ Bd hml0 hP hK
  obtain ⟨rfl, hZ, hh⟩ := hP
  have hx := Bd.exec
  have hby := Bd.bytes
  have hml : c.maxLocals = 7 := hml0
  have hown : s.vm.findClass "com/example/periodmark/periodmark/GrainEnclosesPinLaw" = some m.cls := findClass_of_methodNamed Bd.named
  have hnm := (name_of_methodNamed Bd.named Bd.method).1
  have X0 : Stand p l e room_1 s m #[(.int p1), (.int p2)] below meth c s₁ [] 0 0 := Stand.of_body Bd
  have e0 : s₁.heap = h0 := by rw [← hh, Bd.state]; rfl
  have N0 := Fr.nil n0
  refine own_go (Q := fun o U' => ∃ v L, o = .returned v ∧ Q_law Z aMONTH aYEAR aQUARTER p1 p2 h0 n0 v U'.heap L ∧ FrameEnd s o U' L 0 0) (fun t k => castTop (ef_law m p1 p2) k) ?_
  show OwnGo p e below _ (s₁.setTop (mkF m 0 #[.val (.int p1), .val (.int p2), .unset, .unset, .unset, .unset, .unset] []))
  refine own_go (fun _ k => XS.iloadN X0.here hx rfl (hb hby at_0) rfl k) ?_
  show OwnGo p e below _ (s₁.setTop (mkF m 1 #[.val (.int p1), .val (.int p2), .unset, .unset, .unset, .unset, .unset] [(.int p1)]))
  refine own_go (fun _ k => Jvm.Stand.ldcI X0 hx hown (mvT hZ (hw _ (List.mem_of_getElem? (i := 0) rfl))) rfl (hb hby at_1) k) ?_
  show OwnGo p e below _ (s₁.setTop (mkF m 3 #[.val (.int p1), .val (.int p2), .unset, .unset, .unset, .unset, .unset] [(.int (2147483647 : Int32)), (.int p1)]))
  refine own_go (fun _ k => XS.iand X0.here hx rfl (hb hby at_3) rfl k) ?_
  show OwnGo p e below _ (s₁.setTop (mkF m 4 #[.val (.int p1), .val (.int p2), .unset, .unset, .unset, .unset, .unset] [(.int (p1 &&& (2147483647 : Int32)))]))
  refine own_go (fun _ k => XS.iconst X0.here hx rfl (hb hby at_4) k) ?_
  show OwnGo p e below _ (s₁.setTop (mkF m 5 #[.val (.int p1), .val (.int p2), .unset, .unset, .unset, .unset, .unset] [(.int (3 : Int32)), (.int (p1 &&& (2147483647 : Int32)))]))
  refine own_go (fun _ k => iremM X0 hx rfl (hb hby at_5) rfl (by decide) k) ?_
  show OwnGo p e below _ (s₁.setTop (mkF m 6 #[.val (.int p1), .val (.int p2), .unset, .unset, .unset, .unset, .unset] [(.int ((p1 &&& (2147483647 : Int32)) % (3 : Int32)))]))
  rcases own_mod3 p1 with hv28 | hv28 | hv28
  · rw [hv28]
    show OwnGo p e below _ (s₁.setTop (mkF m 6 #[.val (.int p1), .val (.int p2), .unset, .unset, .unset, .unset, .unset] [(.int (0 : Int32))]))
    refine own_go (fun _ k => XS.istoreN X0.here hx rfl (hb hby at_6) rfl (l' := #[.val (.int p1), .val (.int p2), .val (.int (0 : Int32)), .unset, .unset, .unset, .unset]) rfl k) ?_
    show OwnGo p e below _ (s₁.setTop (mkF m 7 #[.val (.int p1), .val (.int p2), .val (.int (0 : Int32)), .unset, .unset, .unset, .unset] []))
    refine own_go (fun _ k => XS.iloadN X0.here hx rfl (hb hby at_7) rfl k) ?_
    show OwnGo p e below _ (s₁.setTop (mkF m 8 #[.val (.int p1), .val (.int p2), .val (.int (0 : Int32)), .unset, .unset, .unset, .unset] [(.int p2)]))
    refine own_go (fun _ k => Jvm.Stand.ldcI X0 hx hown (mvT hZ (hw _ (List.mem_of_getElem? (i := 0) rfl))) rfl (hb hby at_8) k) ?_
    show OwnGo p e below _ (s₁.setTop (mkF m 10 #[.val (.int p1), .val (.int p2), .val (.int (0 : Int32)), .unset, .unset, .unset, .unset] [(.int (2147483647 : Int32)), (.int p2)]))
    refine own_go (fun _ k => XS.iand X0.here hx rfl (hb hby at_10) rfl k) ?_
    show OwnGo p e below _ (s₁.setTop (mkF m 11 #[.val (.int p1), .val (.int p2), .val (.int (0 : Int32)), .unset, .unset, .unset, .unset] [(.int (p2 &&& (2147483647 : Int32)))]))
    refine own_go (fun _ k => XS.iconst X0.here hx rfl (hb hby at_11) k) ?_
    show OwnGo p e below _ (s₁.setTop (mkF m 12 #[.val (.int p1), .val (.int p2), .val (.int (0 : Int32)), .unset, .unset, .unset, .unset] [(.int (3 : Int32)), (.int (p2 &&& (2147483647 : Int32)))]))
    refine own_go (fun _ k => iremM X0 hx rfl (hb hby at_12) rfl (by decide) k) ?_
    show OwnGo p e below _ (s₁.setTop (mkF m 13 #[.val (.int p1), .val (.int p2), .val (.int (0 : Int32)), .unset, .unset, .unset, .unset] [(.int ((p2 &&& (2147483647 : Int32)) % (3 : Int32)))]))
    rcases own_mod3 p2 with hv29 | hv29 | hv29
    · rw [hv29]
      show OwnGo p e below _ (s₁.setTop (mkF m 13 #[.val (.int p1), .val (.int p2), .val (.int (0 : Int32)), .unset, .unset, .unset, .unset] [(.int (0 : Int32))]))
      refine own_go (fun _ k => XS.istoreN X0.here hx rfl (hb hby at_13) rfl (l' := #[.val (.int p1), .val (.int p2), .val (.int (0 : Int32)), .val (.int (0 : Int32)), .unset, .unset, .unset]) rfl k) ?_
      show OwnGo p e below _ (s₁.setTop (mkF m 14 #[.val (.int p1), .val (.int p2), .val (.int (0 : Int32)), .val (.int (0 : Int32)), .unset, .unset, .unset] []))
      refine own_go (fun _ k => XS.iloadN X0.here hx rfl (hb hby at_14) rfl k) ?_
      show OwnGo p e below _ (s₁.setTop (mkF m 15 #[.val (.int p1), .val (.int p2), .val (.int (0 : Int32)), .val (.int (0 : Int32)), .unset, .unset, .unset] [(.int (0 : Int32))]))
      obtain ⟨_, _, ⟨T30, L30, k30, n30⟩, -, X30, ⟨Lc30, hQ30, l30, y30, z30⟩, st30⟩ := Jvm.LawKit.callS X0 hx (y := (⟨"com/example/periodmark/periodmark/GrainEnclosesPinLaw", "pick", "(I)Lcom/example/periodmark/periodmark/Grain;"⟩ : MethodName)) hown (mvT hZ (hw _ (List.mem_of_getElem? (i := 1) rfl))) (mvT hZ (hw _ (List.mem_of_getElem? (i := 2) rfl))) (mvT hZ (hw _ (List.mem_of_getElem? (i := 3) rfl))) (mvT hZ (hw _ (List.mem_of_getElem? (i := 4) rfl))) (by decide) (backOf (W := 0) (rm_pick0 l Z a0 hw [] aMONTH aYEAR aQUARTER F0 h0 n0 O0) hZ (hw _ (List.mem_of_getElem? (i := 4) rfl)) (hw _ (List.mem_of_getElem? (i := 3) rfl)) (by decide) (by decide)) (g := (mkF m 15 #[.val (.int p1), .val (.int p2), .val (.int (0 : Int32)), .val (.int (0 : Int32)), .unset, .unset, .unset] [(.int (0 : Int32))])) rfl (by rw [hml]; rfl) (argsL := [(.int (0 : Int32))]) (rest := []) (lenOf pd_I__Lcom_example_periodmark_periodmark_Grain_ rfl) rfl (by show 2 * 0 + _ ≤ _; exact Nat.le_of_eq rfl) (hb hby at_15) (fun _ _ => ⟨rfl, e0, (by decide : 0 + 0 ≤ _), (by decide : 0 + 0 ≤ _)⟩)
      dsimp only [Pt.U, Pt.locs, Pt.cells, Pt.slots] at X30 l30 y30 z30 st30 hQ30
      subst l30 y30 z30
      obtain ⟨rfl, Nq30, K30⟩ := hQ30
      have N30 := Fr.app N0 Nq30
      refine own_go st30 ?_
      show OwnGo p e below _ (T30.setTop (mkF m 18 #[.val (.int p1), .val (.int p2), .val (.int (0 : Int32)), .val (.int (0 : Int32)), .unset, .unset, .unset] [(.ref aMONTH)]))
      refine own_go (fun _ k => XS.astore X30.here hx rfl (hb hby at_18) rfl rfl (l' := #[.val (.int p1), .val (.int p2), .val (.int (0 : Int32)), .val (.int (0 : Int32)), .val (.ref aMONTH), .unset, .unset]) rfl k) ?_
      show OwnGo p e below _ (T30.setTop (mkF m 20 #[.val (.int p1), .val (.int p2), .val (.int (0 : Int32)), .val (.int (0 : Int32)), .val (.ref aMONTH), .unset, .unset] []))
      refine own_go (fun _ k => XS.iloadN X30.here hx rfl (hb hby at_20) rfl k) ?_
      show OwnGo p e below _ (T30.setTop (mkF m 21 #[.val (.int p1), .val (.int p2), .val (.int (0 : Int32)), .val (.int (0 : Int32)), .val (.ref aMONTH), .unset, .unset] [(.int (0 : Int32))]))
      obtain ⟨_, _, ⟨T31, L31, k31, n31⟩, -, X31, ⟨Lc31, hQ31, l31, y31, z31⟩, st31⟩ := Jvm.LawKit.callS X30 hx (y := (⟨"com/example/periodmark/periodmark/GrainEnclosesPinLaw", "pick", "(I)Lcom/example/periodmark/periodmark/Grain;"⟩ : MethodName)) hown (mvT hZ (hw _ (List.mem_of_getElem? (i := 1) rfl))) (mvT hZ (hw _ (List.mem_of_getElem? (i := 2) rfl))) (mvT hZ (hw _ (List.mem_of_getElem? (i := 3) rfl))) (mvT hZ (hw _ (List.mem_of_getElem? (i := 4) rfl))) (by decide) (backOf (W := 0) (rm_pick0 l Z a0 hw [] aMONTH aYEAR aQUARTER F0 h0 n0 O0) hZ (hw _ (List.mem_of_getElem? (i := 4) rfl)) (hw _ (List.mem_of_getElem? (i := 3) rfl)) (by decide) (by decide)) (g := (mkF m 21 #[.val (.int p1), .val (.int p2), .val (.int (0 : Int32)), .val (.int (0 : Int32)), .val (.ref aMONTH), .unset, .unset] [(.int (0 : Int32))])) rfl (by rw [hml]; rfl) (argsL := [(.int (0 : Int32))]) (rest := []) (lenOf pd_I__Lcom_example_periodmark_periodmark_Grain_ rfl) rfl (by show 2 * 0 + _ ≤ _; exact Nat.le_of_eq rfl) (hb hby at_21) (fun _ _ => ⟨rfl, K30, (by decide : 0 + 0 ≤ _), (by decide : 0 + 0 ≤ _)⟩)
      dsimp only [Pt.U, Pt.locs, Pt.cells, Pt.slots] at X31 l31 y31 z31 st31 hQ31
      subst l31 y31 z31
      obtain ⟨rfl, Nq31, K31⟩ := hQ31
      have N31 := Fr.app N30 Nq31
      refine own_go st31 ?_
      show OwnGo p e below _ (T31.setTop (mkF m 24 #[.val (.int p1), .val (.int p2), .val (.int (0 : Int32)), .val (.int (0 : Int32)), .val (.ref aMONTH), .unset, .unset] [(.ref aMONTH)]))
      refine own_go (fun _ k => XS.astore X31.here hx rfl (hb hby at_24) rfl rfl (l' := #[.val (.int p1), .val (.int p2), .val (.int (0 : Int32)), .val (.int (0 : Int32)), .val (.ref aMONTH), .val (.ref aMONTH), .unset]) rfl k) ?_
      show OwnGo p e below _ (T31.setTop (mkF m 26 #[.val (.int p1), .val (.int p2), .val (.int (0 : Int32)), .val (.int (0 : Int32)), .val (.ref aMONTH), .val (.ref aMONTH), .unset] []))
      refine own_go (fun _ k => XS.iloadN X31.here hx rfl (hb hby at_26) rfl k) ?_
      show OwnGo p e below _ (T31.setTop (mkF m 27 #[.val (.int p1), .val (.int p2), .val (.int (0 : Int32)), .val (.int (0 : Int32)), .val (.ref aMONTH), .val (.ref aMONTH), .unset] [(.int (0 : Int32))]))
      refine own_go (fun _ k => XS.iloadN X31.here hx rfl (hb hby at_27) rfl k) ?_
      show OwnGo p e below _ (T31.setTop (mkF m 28 #[.val (.int p1), .val (.int p2), .val (.int (0 : Int32)), .val (.int (0 : Int32)), .val (.ref aMONTH), .val (.ref aMONTH), .unset] [(.int (0 : Int32)), (.int (0 : Int32))]))
      refine own_go (fun _ k => XS.icmpYes X31.here hx rfl (pc0 := 28) (pc' := 35) rfl (hb hby at_28) rfl (by decide) (by decide) (by decide) k) ?_
      show OwnGo p e below _ (T31.setTop (mkF m 35 #[.val (.int p1), .val (.int p2), .val (.int (0 : Int32)), .val (.int (0 : Int32)), .val (.ref aMONTH), .val (.ref aMONTH), .unset] []))
      refine own_go (fun _ k => XS.iconst X31.here hx rfl (hb hby at_35) k) ?_
      show OwnGo p e below _ (T31.setTop (mkF m 36 #[.val (.int p1), .val (.int p2), .val (.int (0 : Int32)), .val (.int (0 : Int32)), .val (.ref aMONTH), .val (.ref aMONTH), .unset] [(.int (0 : Int32))]))
      refine own_go (fun _ k => XS.istore X31.here hx rfl (hb hby at_36) rfl (l' := #[.val (.int p1), .val (.int p2), .val (.int (0 : Int32)), .val (.int (0 : Int32)), .val (.ref aMONTH), .val (.ref aMONTH), .val (.int (0 : Int32))]) rfl k) ?_
      show OwnGo p e below _ (T31.setTop (mkF m 38 #[.val (.int p1), .val (.int p2), .val (.int (0 : Int32)), .val (.int (0 : Int32)), .val (.ref aMONTH), .val (.ref aMONTH), .val (.int (0 : Int32))] []))
      refine own_go (fun _ k => XS.aload X31.here hx rfl (hb hby at_38) rfl rfl k) ?_
      show OwnGo p e below _ (T31.setTop (mkF m 40 #[.val (.int p1), .val (.int p2), .val (.int (0 : Int32)), .val (.int (0 : Int32)), .val (.ref aMONTH), .val (.ref aMONTH), .val (.int (0 : Int32))] [(.ref aMONTH)]))
      refine own_go (fun _ k => XS.aload X31.here hx rfl (hb hby at_40) rfl rfl k) ?_
      show OwnGo p e below _ (T31.setTop (mkF m 42 #[.val (.int p1), .val (.int p2), .val (.int (0 : Int32)), .val (.int (0 : Int32)), .val (.ref aMONTH), .val (.ref aMONTH), .val (.int (0 : Int32))] [(.ref aMONTH), (.ref aMONTH)]))
      obtain ⟨cq32, kq32, qa32, qb32, qc32⟩ := isOf hZ K31 (F0.2.1.ext O0.2)
      obtain ⟨_, _, ⟨T32, L32, k32, n32⟩, -, X32, ⟨Lc32, hQ32, l32, y32, z32⟩, st32⟩ := X31.virtualBack hx (y := (⟨"com/example/periodmark/periodmark/Grain", "encloses", "(Lcom/example/periodmark/periodmark/Grain;)Z"⟩ : MethodName)) (z := (⟨"com/example/periodmark/periodmark/Grain", "encloses", "(Lcom/example/periodmark/periodmark/Grain;)Z"⟩ : MethodName)) hown (mvT hZ (hw _ (List.mem_of_getElem? (i := 8) rfl))) (mvT hZ (hw _ (List.mem_of_getElem? (i := 9) rfl))) (notFace_of_selects (args := #[]) (mvT hZ (hw _ (List.mem_of_getElem? (i := 11) rfl)))) (mvT hZ (hw _ (List.mem_of_getElem? (i := 11) rfl))) (mvT hZ (hw _ (List.mem_of_getElem? (i := 10) rfl))) (by decide) (backOf (W := 0) (rm_enc00 l Z a0 hw [] aMONTH aYEAR aQUARTER F0 h0 n0 O0) hZ (hw _ (List.mem_of_getElem? (i := 12) rfl)) (hw _ (List.mem_of_getElem? (i := 6) rfl)) (by decide) (by decide)) qa32 qc32 (g := (mkF m 42 #[.val (.int p1), .val (.int p2), .val (.int (0 : Int32)), .val (.int (0 : Int32)), .val (.ref aMONTH), .val (.ref aMONTH), .val (.int (0 : Int32))] [(.ref aMONTH), (.ref aMONTH)])) rfl (by rw [hml]; rfl) (Steps.refl _) (argsL := [(.ref aMONTH)]) (rest := []) (lenOf pd_Lcom_example_periodmark_periodmark_Grain___Z rfl) rfl (by show 2 * 0 + _ ≤ _; exact Nat.le_of_eq rfl) (hb hby at_42) (fun _ _ => ⟨rfl, K31, (by decide : 0 + 0 ≤ _), (by decide : 0 + 0 ≤ _)⟩)
      dsimp only [Pt.U, Pt.locs, Pt.cells, Pt.slots] at X32 l32 y32 z32 st32 hQ32
      subst l32 y32 z32
      obtain ⟨rfl, Nq32, K32⟩ := hQ32
      have N32 := Fr.app N31 Nq32
      refine own_go (fun _ k => st32.trans k) ?_
      show OwnGo p e below _ (T32.setTop (mkF m 45 #[.val (.int p1), .val (.int p2), .val (.int (0 : Int32)), .val (.int (0 : Int32)), .val (.ref aMONTH), .val (.ref aMONTH), .val (.int (0 : Int32))] [(.int (0 : Int32))]))
      refine own_go (fun _ k => XS.iload X32.here hx rfl (hb hby at_45) rfl k) ?_
      show OwnGo p e below _ (T32.setTop (mkF m 47 #[.val (.int p1), .val (.int p2), .val (.int (0 : Int32)), .val (.int (0 : Int32)), .val (.ref aMONTH), .val (.ref aMONTH), .val (.int (0 : Int32))] [(.int (0 : Int32)), (.int (0 : Int32))]))
      refine own_go (fun _ k => XS.icmpNo X32.here hx rfl (hb hby at_47) rfl (by decide) k) ?_
      show OwnGo p e below _ (T32.setTop (mkF m 50 #[.val (.int p1), .val (.int p2), .val (.int (0 : Int32)), .val (.int (0 : Int32)), .val (.ref aMONTH), .val (.ref aMONTH), .val (.int (0 : Int32))] []))
      refine own_go (fun _ k => XS.iconst X32.here hx rfl (hb hby at_50) k) ?_
      show OwnGo p e below _ (T32.setTop (mkF m 51 #[.val (.int p1), .val (.int p2), .val (.int (0 : Int32)), .val (.int (0 : Int32)), .val (.ref aMONTH), .val (.ref aMONTH), .val (.int (0 : Int32))] [(.int (1 : Int32))]))
      refine own_go (fun _ k => XS.goto X32.here hx rfl (pc0 := 51) (pc' := 55) rfl (hb hby at_51) (by decide) (by decide) k) ?_
      show OwnGo p e below _ (T32.setTop (mkF m 55 #[.val (.int p1), .val (.int p2), .val (.int (0 : Int32)), .val (.int (0 : Int32)), .val (.ref aMONTH), .val (.ref aMONTH), .val (.int (0 : Int32))] [(.int (1 : Int32))]))
      obtain ⟨fs, hr, hrun, hended, hW, hsame⟩ := X32.leave (v := some (.int (1 : Int32))) (fun h => by rw [Bd.returns] at h; cases h)
      refine ⟨_, _, retOut X32 hx Bd.returns rfl (Or.inl ⟨rfl, Or.inr (Or.inl rfl), _, rfl⟩) (hb hby at_55) hr, hrun, hended, _, _, rfl, ?_, ⟨_, rfl⟩, hW, hsame.mono (by decide) (by decide)⟩
      show Q_law Z aMONTH aYEAR aQUARTER p1 p2 h0 n0 _ T32.heap _
      rw [K32]
      exact ⟨rfl, N32⟩
    · rw [hv29]
      show OwnGo p e below _ (s₁.setTop (mkF m 13 #[.val (.int p1), .val (.int p2), .val (.int (0 : Int32)), .unset, .unset, .unset, .unset] [(.int (1 : Int32))]))
      refine own_go (fun _ k => XS.istoreN X0.here hx rfl (hb hby at_13) rfl (l' := #[.val (.int p1), .val (.int p2), .val (.int (0 : Int32)), .val (.int (1 : Int32)), .unset, .unset, .unset]) rfl k) ?_
      show OwnGo p e below _ (s₁.setTop (mkF m 14 #[.val (.int p1), .val (.int p2), .val (.int (0 : Int32)), .val (.int (1 : Int32)), .unset, .unset, .unset] []))
      refine own_go (fun _ k => XS.iloadN X0.here hx rfl (hb hby at_14) rfl k) ?_
      show OwnGo p e below _ (s₁.setTop (mkF m 15 #[.val (.int p1), .val (.int p2), .val (.int (0 : Int32)), .val (.int (1 : Int32)), .unset, .unset, .unset] [(.int (0 : Int32))]))
      obtain ⟨_, _, ⟨T33, L33, k33, n33⟩, -, X33, ⟨Lc33, hQ33, l33, y33, z33⟩, st33⟩ := Jvm.LawKit.callS X0 hx (y := (⟨"com/example/periodmark/periodmark/GrainEnclosesPinLaw", "pick", "(I)Lcom/example/periodmark/periodmark/Grain;"⟩ : MethodName)) hown (mvT hZ (hw _ (List.mem_of_getElem? (i := 1) rfl))) (mvT hZ (hw _ (List.mem_of_getElem? (i := 2) rfl))) (mvT hZ (hw _ (List.mem_of_getElem? (i := 3) rfl))) (mvT hZ (hw _ (List.mem_of_getElem? (i := 4) rfl))) (by decide) (backOf (W := 0) (rm_pick0 l Z a0 hw [] aMONTH aYEAR aQUARTER F0 h0 n0 O0) hZ (hw _ (List.mem_of_getElem? (i := 4) rfl)) (hw _ (List.mem_of_getElem? (i := 3) rfl)) (by decide) (by decide)) (g := (mkF m 15 #[.val (.int p1), .val (.int p2), .val (.int (0 : Int32)), .val (.int (1 : Int32)), .unset, .unset, .unset] [(.int (0 : Int32))])) rfl (by rw [hml]; rfl) (argsL := [(.int (0 : Int32))]) (rest := []) (lenOf pd_I__Lcom_example_periodmark_periodmark_Grain_ rfl) rfl (by show 2 * 0 + _ ≤ _; exact Nat.le_of_eq rfl) (hb hby at_15) (fun _ _ => ⟨rfl, e0, (by decide : 0 + 0 ≤ _), (by decide : 0 + 0 ≤ _)⟩)
      dsimp only [Pt.U, Pt.locs, Pt.cells, Pt.slots] at X33 l33 y33 z33 st33 hQ33
      subst l33 y33 z33
      obtain ⟨rfl, Nq33, K33⟩ := hQ33
      have N33 := Fr.app N0 Nq33
      refine own_go st33 ?_
      show OwnGo p e below _ (T33.setTop (mkF m 18 #[.val (.int p1), .val (.int p2), .val (.int (0 : Int32)), .val (.int (1 : Int32)), .unset, .unset, .unset] [(.ref aMONTH)]))
      refine own_go (fun _ k => XS.astore X33.here hx rfl (hb hby at_18) rfl rfl (l' := #[.val (.int p1), .val (.int p2), .val (.int (0 : Int32)), .val (.int (1 : Int32)), .val (.ref aMONTH), .unset, .unset]) rfl k) ?_
      show OwnGo p e below _ (T33.setTop (mkF m 20 #[.val (.int p1), .val (.int p2), .val (.int (0 : Int32)), .val (.int (1 : Int32)), .val (.ref aMONTH), .unset, .unset] []))
      refine own_go (fun _ k => XS.iloadN X33.here hx rfl (hb hby at_20) rfl k) ?_
      show OwnGo p e below _ (T33.setTop (mkF m 21 #[.val (.int p1), .val (.int p2), .val (.int (0 : Int32)), .val (.int (1 : Int32)), .val (.ref aMONTH), .unset, .unset] [(.int (1 : Int32))]))
      obtain ⟨_, _, ⟨T34, L34, k34, n34⟩, -, X34, ⟨Lc34, hQ34, l34, y34, z34⟩, st34⟩ := Jvm.LawKit.callS X33 hx (y := (⟨"com/example/periodmark/periodmark/GrainEnclosesPinLaw", "pick", "(I)Lcom/example/periodmark/periodmark/Grain;"⟩ : MethodName)) hown (mvT hZ (hw _ (List.mem_of_getElem? (i := 1) rfl))) (mvT hZ (hw _ (List.mem_of_getElem? (i := 2) rfl))) (mvT hZ (hw _ (List.mem_of_getElem? (i := 3) rfl))) (mvT hZ (hw _ (List.mem_of_getElem? (i := 4) rfl))) (by decide) (backOf (W := 0) (rm_pick1 l Z a0 hw [] aMONTH aYEAR aQUARTER F0 h0 n0 O0) hZ (hw _ (List.mem_of_getElem? (i := 4) rfl)) (hw _ (List.mem_of_getElem? (i := 3) rfl)) (by decide) (by decide)) (g := (mkF m 21 #[.val (.int p1), .val (.int p2), .val (.int (0 : Int32)), .val (.int (1 : Int32)), .val (.ref aMONTH), .unset, .unset] [(.int (1 : Int32))])) rfl (by rw [hml]; rfl) (argsL := [(.int (1 : Int32))]) (rest := []) (lenOf pd_I__Lcom_example_periodmark_periodmark_Grain_ rfl) rfl (by show 2 * 0 + _ ≤ _; exact Nat.le_of_eq rfl) (hb hby at_21) (fun _ _ => ⟨rfl, K33, (by decide : 0 + 0 ≤ _), (by decide : 0 + 0 ≤ _)⟩)
      dsimp only [Pt.U, Pt.locs, Pt.cells, Pt.slots] at X34 l34 y34 z34 st34 hQ34
      subst l34 y34 z34
      obtain ⟨rfl, Nq34, K34⟩ := hQ34
      have N34 := Fr.app N33 Nq34
      refine own_go st34 ?_
      show OwnGo p e below _ (T34.setTop (mkF m 24 #[.val (.int p1), .val (.int p2), .val (.int (0 : Int32)), .val (.int (1 : Int32)), .val (.ref aMONTH), .unset, .unset] [(.ref aQUARTER)]))
      refine own_go (fun _ k => XS.astore X34.here hx rfl (hb hby at_24) rfl rfl (l' := #[.val (.int p1), .val (.int p2), .val (.int (0 : Int32)), .val (.int (1 : Int32)), .val (.ref aMONTH), .val (.ref aQUARTER), .unset]) rfl k) ?_
      show OwnGo p e below _ (T34.setTop (mkF m 26 #[.val (.int p1), .val (.int p2), .val (.int (0 : Int32)), .val (.int (1 : Int32)), .val (.ref aMONTH), .val (.ref aQUARTER), .unset] []))
      refine own_go (fun _ k => XS.iloadN X34.here hx rfl (hb hby at_26) rfl k) ?_
      show OwnGo p e below _ (T34.setTop (mkF m 27 #[.val (.int p1), .val (.int p2), .val (.int (0 : Int32)), .val (.int (1 : Int32)), .val (.ref aMONTH), .val (.ref aQUARTER), .unset] [(.int (0 : Int32))]))
      refine own_go (fun _ k => XS.iloadN X34.here hx rfl (hb hby at_27) rfl k) ?_
      show OwnGo p e below _ (T34.setTop (mkF m 28 #[.val (.int p1), .val (.int p2), .val (.int (0 : Int32)), .val (.int (1 : Int32)), .val (.ref aMONTH), .val (.ref aQUARTER), .unset] [(.int (1 : Int32)), (.int (0 : Int32))]))
      refine own_go (fun _ k => XS.icmpYes X34.here hx rfl (pc0 := 28) (pc' := 35) rfl (hb hby at_28) rfl (by decide) (by decide) (by decide) k) ?_
      show OwnGo p e below _ (T34.setTop (mkF m 35 #[.val (.int p1), .val (.int p2), .val (.int (0 : Int32)), .val (.int (1 : Int32)), .val (.ref aMONTH), .val (.ref aQUARTER), .unset] []))
      refine own_go (fun _ k => XS.iconst X34.here hx rfl (hb hby at_35) k) ?_
      show OwnGo p e below _ (T34.setTop (mkF m 36 #[.val (.int p1), .val (.int p2), .val (.int (0 : Int32)), .val (.int (1 : Int32)), .val (.ref aMONTH), .val (.ref aQUARTER), .unset] [(.int (0 : Int32))]))
      refine own_go (fun _ k => XS.istore X34.here hx rfl (hb hby at_36) rfl (l' := #[.val (.int p1), .val (.int p2), .val (.int (0 : Int32)), .val (.int (1 : Int32)), .val (.ref aMONTH), .val (.ref aQUARTER), .val (.int (0 : Int32))]) rfl k) ?_
      show OwnGo p e below _ (T34.setTop (mkF m 38 #[.val (.int p1), .val (.int p2), .val (.int (0 : Int32)), .val (.int (1 : Int32)), .val (.ref aMONTH), .val (.ref aQUARTER), .val (.int (0 : Int32))] []))
      refine own_go (fun _ k => XS.aload X34.here hx rfl (hb hby at_38) rfl rfl k) ?_
      show OwnGo p e below _ (T34.setTop (mkF m 40 #[.val (.int p1), .val (.int p2), .val (.int (0 : Int32)), .val (.int (1 : Int32)), .val (.ref aMONTH), .val (.ref aQUARTER), .val (.int (0 : Int32))] [(.ref aMONTH)]))
      refine own_go (fun _ k => XS.aload X34.here hx rfl (hb hby at_40) rfl rfl k) ?_
      show OwnGo p e below _ (T34.setTop (mkF m 42 #[.val (.int p1), .val (.int p2), .val (.int (0 : Int32)), .val (.int (1 : Int32)), .val (.ref aMONTH), .val (.ref aQUARTER), .val (.int (0 : Int32))] [(.ref aQUARTER), (.ref aMONTH)]))
      obtain ⟨cq35, kq35, qa35, qb35, qc35⟩ := isOf hZ K34 (F0.2.1.ext O0.2)
      obtain ⟨_, _, ⟨T35, L35, k35, n35⟩, -, X35, ⟨Lc35, hQ35, l35, y35, z35⟩, st35⟩ := X34.virtualBack hx (y := (⟨"com/example/periodmark/periodmark/Grain", "encloses", "(Lcom/example/periodmark/periodmark/Grain;)Z"⟩ : MethodName)) (z := (⟨"com/example/periodmark/periodmark/Grain", "encloses", "(Lcom/example/periodmark/periodmark/Grain;)Z"⟩ : MethodName)) hown (mvT hZ (hw _ (List.mem_of_getElem? (i := 8) rfl))) (mvT hZ (hw _ (List.mem_of_getElem? (i := 9) rfl))) (notFace_of_selects (args := #[]) (mvT hZ (hw _ (List.mem_of_getElem? (i := 11) rfl)))) (mvT hZ (hw _ (List.mem_of_getElem? (i := 11) rfl))) (mvT hZ (hw _ (List.mem_of_getElem? (i := 10) rfl))) (by decide) (backOf (W := 0) (rm_enc01 l Z a0 hw [] aMONTH aYEAR aQUARTER F0 h0 n0 O0) hZ (hw _ (List.mem_of_getElem? (i := 12) rfl)) (hw _ (List.mem_of_getElem? (i := 6) rfl)) (by decide) (by decide)) qa35 qc35 (g := (mkF m 42 #[.val (.int p1), .val (.int p2), .val (.int (0 : Int32)), .val (.int (1 : Int32)), .val (.ref aMONTH), .val (.ref aQUARTER), .val (.int (0 : Int32))] [(.ref aQUARTER), (.ref aMONTH)])) rfl (by rw [hml]; rfl) (Steps.refl _) (argsL := [(.ref aQUARTER)]) (rest := []) (lenOf pd_Lcom_example_periodmark_periodmark_Grain___Z rfl) rfl (by show 2 * 0 + _ ≤ _; exact Nat.le_of_eq rfl) (hb hby at_42) (fun _ _ => ⟨rfl, K34, (by decide : 0 + 0 ≤ _), (by decide : 0 + 0 ≤ _)⟩)
      dsimp only [Pt.U, Pt.locs, Pt.cells, Pt.slots] at X35 l35 y35 z35 st35 hQ35
      subst l35 y35 z35
      obtain ⟨rfl, Nq35, K35⟩ := hQ35
      have N35 := Fr.app N34 Nq35
      refine own_go (fun _ k => st35.trans k) ?_
      show OwnGo p e below _ (T35.setTop (mkF m 45 #[.val (.int p1), .val (.int p2), .val (.int (0 : Int32)), .val (.int (1 : Int32)), .val (.ref aMONTH), .val (.ref aQUARTER), .val (.int (0 : Int32))] [(.int (0 : Int32))]))
      refine own_go (fun _ k => XS.iload X35.here hx rfl (hb hby at_45) rfl k) ?_
      show OwnGo p e below _ (T35.setTop (mkF m 47 #[.val (.int p1), .val (.int p2), .val (.int (0 : Int32)), .val (.int (1 : Int32)), .val (.ref aMONTH), .val (.ref aQUARTER), .val (.int (0 : Int32))] [(.int (0 : Int32)), (.int (0 : Int32))]))
      refine own_go (fun _ k => XS.icmpNo X35.here hx rfl (hb hby at_47) rfl (by decide) k) ?_
      show OwnGo p e below _ (T35.setTop (mkF m 50 #[.val (.int p1), .val (.int p2), .val (.int (0 : Int32)), .val (.int (1 : Int32)), .val (.ref aMONTH), .val (.ref aQUARTER), .val (.int (0 : Int32))] []))
      refine own_go (fun _ k => XS.iconst X35.here hx rfl (hb hby at_50) k) ?_
      show OwnGo p e below _ (T35.setTop (mkF m 51 #[.val (.int p1), .val (.int p2), .val (.int (0 : Int32)), .val (.int (1 : Int32)), .val (.ref aMONTH), .val (.ref aQUARTER), .val (.int (0 : Int32))] [(.int (1 : Int32))]))
      refine own_go (fun _ k => XS.goto X35.here hx rfl (pc0 := 51) (pc' := 55) rfl (hb hby at_51) (by decide) (by decide) k) ?_
      show OwnGo p e below _ (T35.setTop (mkF m 55 #[.val (.int p1), .val (.int p2), .val (.int (0 : Int32)), .val (.int (1 : Int32)), .val (.ref aMONTH), .val (.ref aQUARTER), .val (.int (0 : Int32))] [(.int (1 : Int32))]))
      obtain ⟨fs, hr, hrun, hended, hW, hsame⟩ := X35.leave (v := some (.int (1 : Int32))) (fun h => by rw [Bd.returns] at h; cases h)
      refine ⟨_, _, retOut X35 hx Bd.returns rfl (Or.inl ⟨rfl, Or.inr (Or.inl rfl), _, rfl⟩) (hb hby at_55) hr, hrun, hended, _, _, rfl, ?_, ⟨_, rfl⟩, hW, hsame.mono (by decide) (by decide)⟩
      show Q_law Z aMONTH aYEAR aQUARTER p1 p2 h0 n0 _ T35.heap _
      rw [K35]
      exact ⟨rfl, N35⟩
    · rw [hv29]
      show OwnGo p e below _ (s₁.setTop (mkF m 13 #[.val (.int p1), .val (.int p2), .val (.int (0 : Int32)), .unset, .unset, .unset, .unset] [(.int (2 : Int32))]))
      refine own_go (fun _ k => XS.istoreN X0.here hx rfl (hb hby at_13) rfl (l' := #[.val (.int p1), .val (.int p2), .val (.int (0 : Int32)), .val (.int (2 : Int32)), .unset, .unset, .unset]) rfl k) ?_
      show OwnGo p e below _ (s₁.setTop (mkF m 14 #[.val (.int p1), .val (.int p2), .val (.int (0 : Int32)), .val (.int (2 : Int32)), .unset, .unset, .unset] []))
      refine own_go (fun _ k => XS.iloadN X0.here hx rfl (hb hby at_14) rfl k) ?_
      show OwnGo p e below _ (s₁.setTop (mkF m 15 #[.val (.int p1), .val (.int p2), .val (.int (0 : Int32)), .val (.int (2 : Int32)), .unset, .unset, .unset] [(.int (0 : Int32))]))
      obtain ⟨_, _, ⟨T36, L36, k36, n36⟩, -, X36, ⟨Lc36, hQ36, l36, y36, z36⟩, st36⟩ := Jvm.LawKit.callS X0 hx (y := (⟨"com/example/periodmark/periodmark/GrainEnclosesPinLaw", "pick", "(I)Lcom/example/periodmark/periodmark/Grain;"⟩ : MethodName)) hown (mvT hZ (hw _ (List.mem_of_getElem? (i := 1) rfl))) (mvT hZ (hw _ (List.mem_of_getElem? (i := 2) rfl))) (mvT hZ (hw _ (List.mem_of_getElem? (i := 3) rfl))) (mvT hZ (hw _ (List.mem_of_getElem? (i := 4) rfl))) (by decide) (backOf (W := 0) (rm_pick0 l Z a0 hw [] aMONTH aYEAR aQUARTER F0 h0 n0 O0) hZ (hw _ (List.mem_of_getElem? (i := 4) rfl)) (hw _ (List.mem_of_getElem? (i := 3) rfl)) (by decide) (by decide)) (g := (mkF m 15 #[.val (.int p1), .val (.int p2), .val (.int (0 : Int32)), .val (.int (2 : Int32)), .unset, .unset, .unset] [(.int (0 : Int32))])) rfl (by rw [hml]; rfl) (argsL := [(.int (0 : Int32))]) (rest := []) (lenOf pd_I__Lcom_example_periodmark_periodmark_Grain_ rfl) rfl (by show 2 * 0 + _ ≤ _; exact Nat.le_of_eq rfl) (hb hby at_15) (fun _ _ => ⟨rfl, e0, (by decide : 0 + 0 ≤ _), (by decide : 0 + 0 ≤ _)⟩)
      dsimp only [Pt.U, Pt.locs, Pt.cells, Pt.slots] at X36 l36 y36 z36 st36 hQ36
      subst l36 y36 z36
      obtain ⟨rfl, Nq36, K36⟩ := hQ36
      have N36 := Fr.app N0 Nq36
      refine own_go st36 ?_
      show OwnGo p e below _ (T36.setTop (mkF m 18 #[.val (.int p1), .val (.int p2), .val (.int (0 : Int32)), .val (.int (2 : Int32)), .unset, .unset, .unset] [(.ref aMONTH)]))
      refine own_go (fun _ k => XS.astore X36.here hx rfl (hb hby at_18) rfl rfl (l' := #[.val (.int p1), .val (.int p2), .val (.int (0 : Int32)), .val (.int (2 : Int32)), .val (.ref aMONTH), .unset, .unset]) rfl k) ?_
      show OwnGo p e below _ (T36.setTop (mkF m 20 #[.val (.int p1), .val (.int p2), .val (.int (0 : Int32)), .val (.int (2 : Int32)), .val (.ref aMONTH), .unset, .unset] []))
      refine own_go (fun _ k => XS.iloadN X36.here hx rfl (hb hby at_20) rfl k) ?_
      show OwnGo p e below _ (T36.setTop (mkF m 21 #[.val (.int p1), .val (.int p2), .val (.int (0 : Int32)), .val (.int (2 : Int32)), .val (.ref aMONTH), .unset, .unset] [(.int (2 : Int32))]))
      obtain ⟨_, _, ⟨T37, L37, k37, n37⟩, -, X37, ⟨Lc37, hQ37, l37, y37, z37⟩, st37⟩ := Jvm.LawKit.callS X36 hx (y := (⟨"com/example/periodmark/periodmark/GrainEnclosesPinLaw", "pick", "(I)Lcom/example/periodmark/periodmark/Grain;"⟩ : MethodName)) hown (mvT hZ (hw _ (List.mem_of_getElem? (i := 1) rfl))) (mvT hZ (hw _ (List.mem_of_getElem? (i := 2) rfl))) (mvT hZ (hw _ (List.mem_of_getElem? (i := 3) rfl))) (mvT hZ (hw _ (List.mem_of_getElem? (i := 4) rfl))) (by decide) (backOf (W := 0) (rm_pick2 l Z a0 hw [] aMONTH aYEAR aQUARTER F0 h0 n0 O0) hZ (hw _ (List.mem_of_getElem? (i := 4) rfl)) (hw _ (List.mem_of_getElem? (i := 3) rfl)) (by decide) (by decide)) (g := (mkF m 21 #[.val (.int p1), .val (.int p2), .val (.int (0 : Int32)), .val (.int (2 : Int32)), .val (.ref aMONTH), .unset, .unset] [(.int (2 : Int32))])) rfl (by rw [hml]; rfl) (argsL := [(.int (2 : Int32))]) (rest := []) (lenOf pd_I__Lcom_example_periodmark_periodmark_Grain_ rfl) rfl (by show 2 * 0 + _ ≤ _; exact Nat.le_of_eq rfl) (hb hby at_21) (fun _ _ => ⟨rfl, K36, (by decide : 0 + 0 ≤ _), (by decide : 0 + 0 ≤ _)⟩)
      dsimp only [Pt.U, Pt.locs, Pt.cells, Pt.slots] at X37 l37 y37 z37 st37 hQ37
      subst l37 y37 z37
      obtain ⟨rfl, Nq37, K37⟩ := hQ37
      have N37 := Fr.app N36 Nq37
      refine own_go st37 ?_
      show OwnGo p e below _ (T37.setTop (mkF m 24 #[.val (.int p1), .val (.int p2), .val (.int (0 : Int32)), .val (.int (2 : Int32)), .val (.ref aMONTH), .unset, .unset] [(.ref aYEAR)]))
      refine own_go (fun _ k => XS.astore X37.here hx rfl (hb hby at_24) rfl rfl (l' := #[.val (.int p1), .val (.int p2), .val (.int (0 : Int32)), .val (.int (2 : Int32)), .val (.ref aMONTH), .val (.ref aYEAR), .unset]) rfl k) ?_
      show OwnGo p e below _ (T37.setTop (mkF m 26 #[.val (.int p1), .val (.int p2), .val (.int (0 : Int32)), .val (.int (2 : Int32)), .val (.ref aMONTH), .val (.ref aYEAR), .unset] []))
      refine own_go (fun _ k => XS.iloadN X37.here hx rfl (hb hby at_26) rfl k) ?_
      show OwnGo p e below _ (T37.setTop (mkF m 27 #[.val (.int p1), .val (.int p2), .val (.int (0 : Int32)), .val (.int (2 : Int32)), .val (.ref aMONTH), .val (.ref aYEAR), .unset] [(.int (0 : Int32))]))
      refine own_go (fun _ k => XS.iloadN X37.here hx rfl (hb hby at_27) rfl k) ?_
      show OwnGo p e below _ (T37.setTop (mkF m 28 #[.val (.int p1), .val (.int p2), .val (.int (0 : Int32)), .val (.int (2 : Int32)), .val (.ref aMONTH), .val (.ref aYEAR), .unset] [(.int (2 : Int32)), (.int (0 : Int32))]))
      refine own_go (fun _ k => XS.icmpYes X37.here hx rfl (pc0 := 28) (pc' := 35) rfl (hb hby at_28) rfl (by decide) (by decide) (by decide) k) ?_
      show OwnGo p e below _ (T37.setTop (mkF m 35 #[.val (.int p1), .val (.int p2), .val (.int (0 : Int32)), .val (.int (2 : Int32)), .val (.ref aMONTH), .val (.ref aYEAR), .unset] []))
      refine own_go (fun _ k => XS.iconst X37.here hx rfl (hb hby at_35) k) ?_
      show OwnGo p e below _ (T37.setTop (mkF m 36 #[.val (.int p1), .val (.int p2), .val (.int (0 : Int32)), .val (.int (2 : Int32)), .val (.ref aMONTH), .val (.ref aYEAR), .unset] [(.int (0 : Int32))]))
      refine own_go (fun _ k => XS.istore X37.here hx rfl (hb hby at_36) rfl (l' := #[.val (.int p1), .val (.int p2), .val (.int (0 : Int32)), .val (.int (2 : Int32)), .val (.ref aMONTH), .val (.ref aYEAR), .val (.int (0 : Int32))]) rfl k) ?_
      show OwnGo p e below _ (T37.setTop (mkF m 38 #[.val (.int p1), .val (.int p2), .val (.int (0 : Int32)), .val (.int (2 : Int32)), .val (.ref aMONTH), .val (.ref aYEAR), .val (.int (0 : Int32))] []))
      refine own_go (fun _ k => XS.aload X37.here hx rfl (hb hby at_38) rfl rfl k) ?_
      show OwnGo p e below _ (T37.setTop (mkF m 40 #[.val (.int p1), .val (.int p2), .val (.int (0 : Int32)), .val (.int (2 : Int32)), .val (.ref aMONTH), .val (.ref aYEAR), .val (.int (0 : Int32))] [(.ref aMONTH)]))
      refine own_go (fun _ k => XS.aload X37.here hx rfl (hb hby at_40) rfl rfl k) ?_
      show OwnGo p e below _ (T37.setTop (mkF m 42 #[.val (.int p1), .val (.int p2), .val (.int (0 : Int32)), .val (.int (2 : Int32)), .val (.ref aMONTH), .val (.ref aYEAR), .val (.int (0 : Int32))] [(.ref aYEAR), (.ref aMONTH)]))
      obtain ⟨cq38, kq38, qa38, qb38, qc38⟩ := isOf hZ K37 (F0.2.1.ext O0.2)
      obtain ⟨_, _, ⟨T38, L38, k38, n38⟩, -, X38, ⟨Lc38, hQ38, l38, y38, z38⟩, st38⟩ := X37.virtualBack hx (y := (⟨"com/example/periodmark/periodmark/Grain", "encloses", "(Lcom/example/periodmark/periodmark/Grain;)Z"⟩ : MethodName)) (z := (⟨"com/example/periodmark/periodmark/Grain", "encloses", "(Lcom/example/periodmark/periodmark/Grain;)Z"⟩ : MethodName)) hown (mvT hZ (hw _ (List.mem_of_getElem? (i := 8) rfl))) (mvT hZ (hw _ (List.mem_of_getElem? (i := 9) rfl))) (notFace_of_selects (args := #[]) (mvT hZ (hw _ (List.mem_of_getElem? (i := 11) rfl)))) (mvT hZ (hw _ (List.mem_of_getElem? (i := 11) rfl))) (mvT hZ (hw _ (List.mem_of_getElem? (i := 10) rfl))) (by decide) (backOf (W := 0) (rm_enc02 l Z a0 hw [] aMONTH aYEAR aQUARTER F0 h0 n0 O0) hZ (hw _ (List.mem_of_getElem? (i := 12) rfl)) (hw _ (List.mem_of_getElem? (i := 6) rfl)) (by decide) (by decide)) qa38 qc38 (g := (mkF m 42 #[.val (.int p1), .val (.int p2), .val (.int (0 : Int32)), .val (.int (2 : Int32)), .val (.ref aMONTH), .val (.ref aYEAR), .val (.int (0 : Int32))] [(.ref aYEAR), (.ref aMONTH)])) rfl (by rw [hml]; rfl) (Steps.refl _) (argsL := [(.ref aYEAR)]) (rest := []) (lenOf pd_Lcom_example_periodmark_periodmark_Grain___Z rfl) rfl (by show 2 * 0 + _ ≤ _; exact Nat.le_of_eq rfl) (hb hby at_42) (fun _ _ => ⟨rfl, K37, (by decide : 0 + 0 ≤ _), (by decide : 0 + 0 ≤ _)⟩)
      dsimp only [Pt.U, Pt.locs, Pt.cells, Pt.slots] at X38 l38 y38 z38 st38 hQ38
      subst l38 y38 z38
      obtain ⟨rfl, Nq38, K38⟩ := hQ38
      have N38 := Fr.app N37 Nq38
      refine own_go (fun _ k => st38.trans k) ?_
      show OwnGo p e below _ (T38.setTop (mkF m 45 #[.val (.int p1), .val (.int p2), .val (.int (0 : Int32)), .val (.int (2 : Int32)), .val (.ref aMONTH), .val (.ref aYEAR), .val (.int (0 : Int32))] [(.int (0 : Int32))]))
      refine own_go (fun _ k => XS.iload X38.here hx rfl (hb hby at_45) rfl k) ?_
      show OwnGo p e below _ (T38.setTop (mkF m 47 #[.val (.int p1), .val (.int p2), .val (.int (0 : Int32)), .val (.int (2 : Int32)), .val (.ref aMONTH), .val (.ref aYEAR), .val (.int (0 : Int32))] [(.int (0 : Int32)), (.int (0 : Int32))]))
      refine own_go (fun _ k => XS.icmpNo X38.here hx rfl (hb hby at_47) rfl (by decide) k) ?_
      show OwnGo p e below _ (T38.setTop (mkF m 50 #[.val (.int p1), .val (.int p2), .val (.int (0 : Int32)), .val (.int (2 : Int32)), .val (.ref aMONTH), .val (.ref aYEAR), .val (.int (0 : Int32))] []))
      refine own_go (fun _ k => XS.iconst X38.here hx rfl (hb hby at_50) k) ?_
      show OwnGo p e below _ (T38.setTop (mkF m 51 #[.val (.int p1), .val (.int p2), .val (.int (0 : Int32)), .val (.int (2 : Int32)), .val (.ref aMONTH), .val (.ref aYEAR), .val (.int (0 : Int32))] [(.int (1 : Int32))]))
      refine own_go (fun _ k => XS.goto X38.here hx rfl (pc0 := 51) (pc' := 55) rfl (hb hby at_51) (by decide) (by decide) k) ?_
      show OwnGo p e below _ (T38.setTop (mkF m 55 #[.val (.int p1), .val (.int p2), .val (.int (0 : Int32)), .val (.int (2 : Int32)), .val (.ref aMONTH), .val (.ref aYEAR), .val (.int (0 : Int32))] [(.int (1 : Int32))]))
      obtain ⟨fs, hr, hrun, hended, hW, hsame⟩ := X38.leave (v := some (.int (1 : Int32))) (fun h => by rw [Bd.returns] at h; cases h)
      refine ⟨_, _, retOut X38 hx Bd.returns rfl (Or.inl ⟨rfl, Or.inr (Or.inl rfl), _, rfl⟩) (hb hby at_55) hr, hrun, hended, _, _, rfl, ?_, ⟨_, rfl⟩, hW, hsame.mono (by decide) (by decide)⟩
      show Q_law Z aMONTH aYEAR aQUARTER p1 p2 h0 n0 _ T38.heap _
      rw [K38]
      exact ⟨rfl, N38⟩
  · rw [hv28]
    show OwnGo p e below _ (s₁.setTop (mkF m 6 #[.val (.int p1), .val (.int p2), .unset, .unset, .unset, .unset, .unset] [(.int (1 : Int32))]))
    refine own_go (fun _ k => XS.istoreN X0.here hx rfl (hb hby at_6) rfl (l' := #[.val (.int p1), .val (.int p2), .val (.int (1 : Int32)), .unset, .unset, .unset, .unset]) rfl k) ?_
    show OwnGo p e below _ (s₁.setTop (mkF m 7 #[.val (.int p1), .val (.int p2), .val (.int (1 : Int32)), .unset, .unset, .unset, .unset] []))
    refine own_go (fun _ k => XS.iloadN X0.here hx rfl (hb hby at_7) rfl k) ?_
    show OwnGo p e below _ (s₁.setTop (mkF m 8 #[.val (.int p1), .val (.int p2), .val (.int (1 : Int32)), .unset, .unset, .unset, .unset] [(.int p2)]))
    refine own_go (fun _ k => Jvm.Stand.ldcI X0 hx hown (mvT hZ (hw _ (List.mem_of_getElem? (i := 0) rfl))) rfl (hb hby at_8) k) ?_
    show OwnGo p e below _ (s₁.setTop (mkF m 10 #[.val (.int p1), .val (.int p2), .val (.int (1 : Int32)), .unset, .unset, .unset, .unset] [(.int (2147483647 : Int32)), (.int p2)]))
    refine own_go (fun _ k => XS.iand X0.here hx rfl (hb hby at_10) rfl k) ?_
    show OwnGo p e below _ (s₁.setTop (mkF m 11 #[.val (.int p1), .val (.int p2), .val (.int (1 : Int32)), .unset, .unset, .unset, .unset] [(.int (p2 &&& (2147483647 : Int32)))]))
    refine own_go (fun _ k => XS.iconst X0.here hx rfl (hb hby at_11) k) ?_
    show OwnGo p e below _ (s₁.setTop (mkF m 12 #[.val (.int p1), .val (.int p2), .val (.int (1 : Int32)), .unset, .unset, .unset, .unset] [(.int (3 : Int32)), (.int (p2 &&& (2147483647 : Int32)))]))
    refine own_go (fun _ k => iremM X0 hx rfl (hb hby at_12) rfl (by decide) k) ?_
    show OwnGo p e below _ (s₁.setTop (mkF m 13 #[.val (.int p1), .val (.int p2), .val (.int (1 : Int32)), .unset, .unset, .unset, .unset] [(.int ((p2 &&& (2147483647 : Int32)) % (3 : Int32)))]))
    rcases own_mod3 p2 with hv39 | hv39 | hv39
    · rw [hv39]
      show OwnGo p e below _ (s₁.setTop (mkF m 13 #[.val (.int p1), .val (.int p2), .val (.int (1 : Int32)), .unset, .unset, .unset, .unset] [(.int (0 : Int32))]))
      refine own_go (fun _ k => XS.istoreN X0.here hx rfl (hb hby at_13) rfl (l' := #[.val (.int p1), .val (.int p2), .val (.int (1 : Int32)), .val (.int (0 : Int32)), .unset, .unset, .unset]) rfl k) ?_
      show OwnGo p e below _ (s₁.setTop (mkF m 14 #[.val (.int p1), .val (.int p2), .val (.int (1 : Int32)), .val (.int (0 : Int32)), .unset, .unset, .unset] []))
      refine own_go (fun _ k => XS.iloadN X0.here hx rfl (hb hby at_14) rfl k) ?_
      show OwnGo p e below _ (s₁.setTop (mkF m 15 #[.val (.int p1), .val (.int p2), .val (.int (1 : Int32)), .val (.int (0 : Int32)), .unset, .unset, .unset] [(.int (1 : Int32))]))
      obtain ⟨_, _, ⟨T40, L40, k40, n40⟩, -, X40, ⟨Lc40, hQ40, l40, y40, z40⟩, st40⟩ := Jvm.LawKit.callS X0 hx (y := (⟨"com/example/periodmark/periodmark/GrainEnclosesPinLaw", "pick", "(I)Lcom/example/periodmark/periodmark/Grain;"⟩ : MethodName)) hown (mvT hZ (hw _ (List.mem_of_getElem? (i := 1) rfl))) (mvT hZ (hw _ (List.mem_of_getElem? (i := 2) rfl))) (mvT hZ (hw _ (List.mem_of_getElem? (i := 3) rfl))) (mvT hZ (hw _ (List.mem_of_getElem? (i := 4) rfl))) (by decide) (backOf (W := 0) (rm_pick1 l Z a0 hw [] aMONTH aYEAR aQUARTER F0 h0 n0 O0) hZ (hw _ (List.mem_of_getElem? (i := 4) rfl)) (hw _ (List.mem_of_getElem? (i := 3) rfl)) (by decide) (by decide)) (g := (mkF m 15 #[.val (.int p1), .val (.int p2), .val (.int (1 : Int32)), .val (.int (0 : Int32)), .unset, .unset, .unset] [(.int (1 : Int32))])) rfl (by rw [hml]; rfl) (argsL := [(.int (1 : Int32))]) (rest := []) (lenOf pd_I__Lcom_example_periodmark_periodmark_Grain_ rfl) rfl (by show 2 * 0 + _ ≤ _; exact Nat.le_of_eq rfl) (hb hby at_15) (fun _ _ => ⟨rfl, e0, (by decide : 0 + 0 ≤ _), (by decide : 0 + 0 ≤ _)⟩)
      dsimp only [Pt.U, Pt.locs, Pt.cells, Pt.slots] at X40 l40 y40 z40 st40 hQ40
      subst l40 y40 z40
      obtain ⟨rfl, Nq40, K40⟩ := hQ40
      have N40 := Fr.app N0 Nq40
      refine own_go st40 ?_
      show OwnGo p e below _ (T40.setTop (mkF m 18 #[.val (.int p1), .val (.int p2), .val (.int (1 : Int32)), .val (.int (0 : Int32)), .unset, .unset, .unset] [(.ref aQUARTER)]))
      refine own_go (fun _ k => XS.astore X40.here hx rfl (hb hby at_18) rfl rfl (l' := #[.val (.int p1), .val (.int p2), .val (.int (1 : Int32)), .val (.int (0 : Int32)), .val (.ref aQUARTER), .unset, .unset]) rfl k) ?_
      show OwnGo p e below _ (T40.setTop (mkF m 20 #[.val (.int p1), .val (.int p2), .val (.int (1 : Int32)), .val (.int (0 : Int32)), .val (.ref aQUARTER), .unset, .unset] []))
      refine own_go (fun _ k => XS.iloadN X40.here hx rfl (hb hby at_20) rfl k) ?_
      show OwnGo p e below _ (T40.setTop (mkF m 21 #[.val (.int p1), .val (.int p2), .val (.int (1 : Int32)), .val (.int (0 : Int32)), .val (.ref aQUARTER), .unset, .unset] [(.int (0 : Int32))]))
      obtain ⟨_, _, ⟨T41, L41, k41, n41⟩, -, X41, ⟨Lc41, hQ41, l41, y41, z41⟩, st41⟩ := Jvm.LawKit.callS X40 hx (y := (⟨"com/example/periodmark/periodmark/GrainEnclosesPinLaw", "pick", "(I)Lcom/example/periodmark/periodmark/Grain;"⟩ : MethodName)) hown (mvT hZ (hw _ (List.mem_of_getElem? (i := 1) rfl))) (mvT hZ (hw _ (List.mem_of_getElem? (i := 2) rfl))) (mvT hZ (hw _ (List.mem_of_getElem? (i := 3) rfl))) (mvT hZ (hw _ (List.mem_of_getElem? (i := 4) rfl))) (by decide) (backOf (W := 0) (rm_pick0 l Z a0 hw [] aMONTH aYEAR aQUARTER F0 h0 n0 O0) hZ (hw _ (List.mem_of_getElem? (i := 4) rfl)) (hw _ (List.mem_of_getElem? (i := 3) rfl)) (by decide) (by decide)) (g := (mkF m 21 #[.val (.int p1), .val (.int p2), .val (.int (1 : Int32)), .val (.int (0 : Int32)), .val (.ref aQUARTER), .unset, .unset] [(.int (0 : Int32))])) rfl (by rw [hml]; rfl) (argsL := [(.int (0 : Int32))]) (rest := []) (lenOf pd_I__Lcom_example_periodmark_periodmark_Grain_ rfl) rfl (by show 2 * 0 + _ ≤ _; exact Nat.le_of_eq rfl) (hb hby at_21) (fun _ _ => ⟨rfl, K40, (by decide : 0 + 0 ≤ _), (by decide : 0 + 0 ≤ _)⟩)
      dsimp only [Pt.U, Pt.locs, Pt.cells, Pt.slots] at X41 l41 y41 z41 st41 hQ41
      subst l41 y41 z41
      obtain ⟨rfl, Nq41, K41⟩ := hQ41
      have N41 := Fr.app N40 Nq41
      refine own_go st41 ?_
      show OwnGo p e below _ (T41.setTop (mkF m 24 #[.val (.int p1), .val (.int p2), .val (.int (1 : Int32)), .val (.int (0 : Int32)), .val (.ref aQUARTER), .unset, .unset] [(.ref aMONTH)]))
      refine own_go (fun _ k => XS.astore X41.here hx rfl (hb hby at_24) rfl rfl (l' := #[.val (.int p1), .val (.int p2), .val (.int (1 : Int32)), .val (.int (0 : Int32)), .val (.ref aQUARTER), .val (.ref aMONTH), .unset]) rfl k) ?_
      show OwnGo p e below _ (T41.setTop (mkF m 26 #[.val (.int p1), .val (.int p2), .val (.int (1 : Int32)), .val (.int (0 : Int32)), .val (.ref aQUARTER), .val (.ref aMONTH), .unset] []))
      refine own_go (fun _ k => XS.iloadN X41.here hx rfl (hb hby at_26) rfl k) ?_
      show OwnGo p e below _ (T41.setTop (mkF m 27 #[.val (.int p1), .val (.int p2), .val (.int (1 : Int32)), .val (.int (0 : Int32)), .val (.ref aQUARTER), .val (.ref aMONTH), .unset] [(.int (1 : Int32))]))
      refine own_go (fun _ k => XS.iloadN X41.here hx rfl (hb hby at_27) rfl k) ?_
      show OwnGo p e below _ (T41.setTop (mkF m 28 #[.val (.int p1), .val (.int p2), .val (.int (1 : Int32)), .val (.int (0 : Int32)), .val (.ref aQUARTER), .val (.ref aMONTH), .unset] [(.int (0 : Int32)), (.int (1 : Int32))]))
      refine own_go (fun _ k => XS.icmpNo X41.here hx rfl (hb hby at_28) rfl (by decide) k) ?_
      show OwnGo p e below _ (T41.setTop (mkF m 31 #[.val (.int p1), .val (.int p2), .val (.int (1 : Int32)), .val (.int (0 : Int32)), .val (.ref aQUARTER), .val (.ref aMONTH), .unset] []))
      refine own_go (fun _ k => XS.iconst X41.here hx rfl (hb hby at_31) k) ?_
      show OwnGo p e below _ (T41.setTop (mkF m 32 #[.val (.int p1), .val (.int p2), .val (.int (1 : Int32)), .val (.int (0 : Int32)), .val (.ref aQUARTER), .val (.ref aMONTH), .unset] [(.int (1 : Int32))]))
      refine own_go (fun _ k => XS.goto X41.here hx rfl (pc0 := 32) (pc' := 36) rfl (hb hby at_32) (by decide) (by decide) k) ?_
      show OwnGo p e below _ (T41.setTop (mkF m 36 #[.val (.int p1), .val (.int p2), .val (.int (1 : Int32)), .val (.int (0 : Int32)), .val (.ref aQUARTER), .val (.ref aMONTH), .unset] [(.int (1 : Int32))]))
      refine own_go (fun _ k => XS.istore X41.here hx rfl (hb hby at_36) rfl (l' := #[.val (.int p1), .val (.int p2), .val (.int (1 : Int32)), .val (.int (0 : Int32)), .val (.ref aQUARTER), .val (.ref aMONTH), .val (.int (1 : Int32))]) rfl k) ?_
      show OwnGo p e below _ (T41.setTop (mkF m 38 #[.val (.int p1), .val (.int p2), .val (.int (1 : Int32)), .val (.int (0 : Int32)), .val (.ref aQUARTER), .val (.ref aMONTH), .val (.int (1 : Int32))] []))
      refine own_go (fun _ k => XS.aload X41.here hx rfl (hb hby at_38) rfl rfl k) ?_
      show OwnGo p e below _ (T41.setTop (mkF m 40 #[.val (.int p1), .val (.int p2), .val (.int (1 : Int32)), .val (.int (0 : Int32)), .val (.ref aQUARTER), .val (.ref aMONTH), .val (.int (1 : Int32))] [(.ref aQUARTER)]))
      refine own_go (fun _ k => XS.aload X41.here hx rfl (hb hby at_40) rfl rfl k) ?_
      show OwnGo p e below _ (T41.setTop (mkF m 42 #[.val (.int p1), .val (.int p2), .val (.int (1 : Int32)), .val (.int (0 : Int32)), .val (.ref aQUARTER), .val (.ref aMONTH), .val (.int (1 : Int32))] [(.ref aMONTH), (.ref aQUARTER)]))
      obtain ⟨cq42, kq42, qa42, qb42, qc42⟩ := isOf hZ K41 (F0.2.2.2.2.2.2.1.ext O0.2)
      obtain ⟨_, _, ⟨T42, L42, k42, n42⟩, -, X42, ⟨Lc42, hQ42, l42, y42, z42⟩, st42⟩ := X41.virtualBack hx (y := (⟨"com/example/periodmark/periodmark/Grain", "encloses", "(Lcom/example/periodmark/periodmark/Grain;)Z"⟩ : MethodName)) (z := (⟨"com/example/periodmark/periodmark/Grain", "encloses", "(Lcom/example/periodmark/periodmark/Grain;)Z"⟩ : MethodName)) hown (mvT hZ (hw _ (List.mem_of_getElem? (i := 8) rfl))) (mvT hZ (hw _ (List.mem_of_getElem? (i := 9) rfl))) (notFace_of_selects (args := #[]) (mvT hZ (hw _ (List.mem_of_getElem? (i := 22) rfl)))) (mvT hZ (hw _ (List.mem_of_getElem? (i := 22) rfl))) (mvT hZ (hw _ (List.mem_of_getElem? (i := 10) rfl))) (by decide) (backOf (W := 0) (rm_enc10 l Z a0 hw [] aMONTH aYEAR aQUARTER F0 h0 n0 O0) hZ (hw _ (List.mem_of_getElem? (i := 12) rfl)) (hw _ (List.mem_of_getElem? (i := 6) rfl)) (by decide) (by decide)) qa42 qc42 (g := (mkF m 42 #[.val (.int p1), .val (.int p2), .val (.int (1 : Int32)), .val (.int (0 : Int32)), .val (.ref aQUARTER), .val (.ref aMONTH), .val (.int (1 : Int32))] [(.ref aMONTH), (.ref aQUARTER)])) rfl (by rw [hml]; rfl) (Steps.refl _) (argsL := [(.ref aMONTH)]) (rest := []) (lenOf pd_Lcom_example_periodmark_periodmark_Grain___Z rfl) rfl (by show 2 * 0 + _ ≤ _; exact Nat.le_of_eq rfl) (hb hby at_42) (fun _ _ => ⟨rfl, K41, (by decide : 0 + 0 ≤ _), (by decide : 0 + 0 ≤ _)⟩)
      dsimp only [Pt.U, Pt.locs, Pt.cells, Pt.slots] at X42 l42 y42 z42 st42 hQ42
      subst l42 y42 z42
      obtain ⟨rfl, Nq42, K42⟩ := hQ42
      have N42 := Fr.app N41 Nq42
      refine own_go (fun _ k => st42.trans k) ?_
      show OwnGo p e below _ (T42.setTop (mkF m 45 #[.val (.int p1), .val (.int p2), .val (.int (1 : Int32)), .val (.int (0 : Int32)), .val (.ref aQUARTER), .val (.ref aMONTH), .val (.int (1 : Int32))] [(.int (1 : Int32))]))
      refine own_go (fun _ k => XS.iload X42.here hx rfl (hb hby at_45) rfl k) ?_
      show OwnGo p e below _ (T42.setTop (mkF m 47 #[.val (.int p1), .val (.int p2), .val (.int (1 : Int32)), .val (.int (0 : Int32)), .val (.ref aQUARTER), .val (.ref aMONTH), .val (.int (1 : Int32))] [(.int (1 : Int32)), (.int (1 : Int32))]))
      refine own_go (fun _ k => XS.icmpNo X42.here hx rfl (hb hby at_47) rfl (by decide) k) ?_
      show OwnGo p e below _ (T42.setTop (mkF m 50 #[.val (.int p1), .val (.int p2), .val (.int (1 : Int32)), .val (.int (0 : Int32)), .val (.ref aQUARTER), .val (.ref aMONTH), .val (.int (1 : Int32))] []))
      refine own_go (fun _ k => XS.iconst X42.here hx rfl (hb hby at_50) k) ?_
      show OwnGo p e below _ (T42.setTop (mkF m 51 #[.val (.int p1), .val (.int p2), .val (.int (1 : Int32)), .val (.int (0 : Int32)), .val (.ref aQUARTER), .val (.ref aMONTH), .val (.int (1 : Int32))] [(.int (1 : Int32))]))
      refine own_go (fun _ k => XS.goto X42.here hx rfl (pc0 := 51) (pc' := 55) rfl (hb hby at_51) (by decide) (by decide) k) ?_
      show OwnGo p e below _ (T42.setTop (mkF m 55 #[.val (.int p1), .val (.int p2), .val (.int (1 : Int32)), .val (.int (0 : Int32)), .val (.ref aQUARTER), .val (.ref aMONTH), .val (.int (1 : Int32))] [(.int (1 : Int32))]))
      obtain ⟨fs, hr, hrun, hended, hW, hsame⟩ := X42.leave (v := some (.int (1 : Int32))) (fun h => by rw [Bd.returns] at h; cases h)
      refine ⟨_, _, retOut X42 hx Bd.returns rfl (Or.inl ⟨rfl, Or.inr (Or.inl rfl), _, rfl⟩) (hb hby at_55) hr, hrun, hended, _, _, rfl, ?_, ⟨_, rfl⟩, hW, hsame.mono (by decide) (by decide)⟩
      show Q_law Z aMONTH aYEAR aQUARTER p1 p2 h0 n0 _ T42.heap _
      rw [K42]
      exact ⟨rfl, N42⟩
    · rw [hv39]
      show OwnGo p e below _ (s₁.setTop (mkF m 13 #[.val (.int p1), .val (.int p2), .val (.int (1 : Int32)), .unset, .unset, .unset, .unset] [(.int (1 : Int32))]))
      refine own_go (fun _ k => XS.istoreN X0.here hx rfl (hb hby at_13) rfl (l' := #[.val (.int p1), .val (.int p2), .val (.int (1 : Int32)), .val (.int (1 : Int32)), .unset, .unset, .unset]) rfl k) ?_
      show OwnGo p e below _ (s₁.setTop (mkF m 14 #[.val (.int p1), .val (.int p2), .val (.int (1 : Int32)), .val (.int (1 : Int32)), .unset, .unset, .unset] []))
      refine own_go (fun _ k => XS.iloadN X0.here hx rfl (hb hby at_14) rfl k) ?_
      show OwnGo p e below _ (s₁.setTop (mkF m 15 #[.val (.int p1), .val (.int p2), .val (.int (1 : Int32)), .val (.int (1 : Int32)), .unset, .unset, .unset] [(.int (1 : Int32))]))
      obtain ⟨_, _, ⟨T43, L43, k43, n43⟩, -, X43, ⟨Lc43, hQ43, l43, y43, z43⟩, st43⟩ := Jvm.LawKit.callS X0 hx (y := (⟨"com/example/periodmark/periodmark/GrainEnclosesPinLaw", "pick", "(I)Lcom/example/periodmark/periodmark/Grain;"⟩ : MethodName)) hown (mvT hZ (hw _ (List.mem_of_getElem? (i := 1) rfl))) (mvT hZ (hw _ (List.mem_of_getElem? (i := 2) rfl))) (mvT hZ (hw _ (List.mem_of_getElem? (i := 3) rfl))) (mvT hZ (hw _ (List.mem_of_getElem? (i := 4) rfl))) (by decide) (backOf (W := 0) (rm_pick1 l Z a0 hw [] aMONTH aYEAR aQUARTER F0 h0 n0 O0) hZ (hw _ (List.mem_of_getElem? (i := 4) rfl)) (hw _ (List.mem_of_getElem? (i := 3) rfl)) (by decide) (by decide)) (g := (mkF m 15 #[.val (.int p1), .val (.int p2), .val (.int (1 : Int32)), .val (.int (1 : Int32)), .unset, .unset, .unset] [(.int (1 : Int32))])) rfl (by rw [hml]; rfl) (argsL := [(.int (1 : Int32))]) (rest := []) (lenOf pd_I__Lcom_example_periodmark_periodmark_Grain_ rfl) rfl (by show 2 * 0 + _ ≤ _; exact Nat.le_of_eq rfl) (hb hby at_15) (fun _ _ => ⟨rfl, e0, (by decide : 0 + 0 ≤ _), (by decide : 0 + 0 ≤ _)⟩)
      dsimp only [Pt.U, Pt.locs, Pt.cells, Pt.slots] at X43 l43 y43 z43 st43 hQ43
      subst l43 y43 z43
      obtain ⟨rfl, Nq43, K43⟩ := hQ43
      have N43 := Fr.app N0 Nq43
      refine own_go st43 ?_
      show OwnGo p e below _ (T43.setTop (mkF m 18 #[.val (.int p1), .val (.int p2), .val (.int (1 : Int32)), .val (.int (1 : Int32)), .unset, .unset, .unset] [(.ref aQUARTER)]))
      refine own_go (fun _ k => XS.astore X43.here hx rfl (hb hby at_18) rfl rfl (l' := #[.val (.int p1), .val (.int p2), .val (.int (1 : Int32)), .val (.int (1 : Int32)), .val (.ref aQUARTER), .unset, .unset]) rfl k) ?_
      show OwnGo p e below _ (T43.setTop (mkF m 20 #[.val (.int p1), .val (.int p2), .val (.int (1 : Int32)), .val (.int (1 : Int32)), .val (.ref aQUARTER), .unset, .unset] []))
      refine own_go (fun _ k => XS.iloadN X43.here hx rfl (hb hby at_20) rfl k) ?_
      show OwnGo p e below _ (T43.setTop (mkF m 21 #[.val (.int p1), .val (.int p2), .val (.int (1 : Int32)), .val (.int (1 : Int32)), .val (.ref aQUARTER), .unset, .unset] [(.int (1 : Int32))]))
      obtain ⟨_, _, ⟨T44, L44, k44, n44⟩, -, X44, ⟨Lc44, hQ44, l44, y44, z44⟩, st44⟩ := Jvm.LawKit.callS X43 hx (y := (⟨"com/example/periodmark/periodmark/GrainEnclosesPinLaw", "pick", "(I)Lcom/example/periodmark/periodmark/Grain;"⟩ : MethodName)) hown (mvT hZ (hw _ (List.mem_of_getElem? (i := 1) rfl))) (mvT hZ (hw _ (List.mem_of_getElem? (i := 2) rfl))) (mvT hZ (hw _ (List.mem_of_getElem? (i := 3) rfl))) (mvT hZ (hw _ (List.mem_of_getElem? (i := 4) rfl))) (by decide) (backOf (W := 0) (rm_pick1 l Z a0 hw [] aMONTH aYEAR aQUARTER F0 h0 n0 O0) hZ (hw _ (List.mem_of_getElem? (i := 4) rfl)) (hw _ (List.mem_of_getElem? (i := 3) rfl)) (by decide) (by decide)) (g := (mkF m 21 #[.val (.int p1), .val (.int p2), .val (.int (1 : Int32)), .val (.int (1 : Int32)), .val (.ref aQUARTER), .unset, .unset] [(.int (1 : Int32))])) rfl (by rw [hml]; rfl) (argsL := [(.int (1 : Int32))]) (rest := []) (lenOf pd_I__Lcom_example_periodmark_periodmark_Grain_ rfl) rfl (by show 2 * 0 + _ ≤ _; exact Nat.le_of_eq rfl) (hb hby at_21) (fun _ _ => ⟨rfl, K43, (by decide : 0 + 0 ≤ _), (by decide : 0 + 0 ≤ _)⟩)
      dsimp only [Pt.U, Pt.locs, Pt.cells, Pt.slots] at X44 l44 y44 z44 st44 hQ44
      subst l44 y44 z44
      obtain ⟨rfl, Nq44, K44⟩ := hQ44
      have N44 := Fr.app N43 Nq44
      refine own_go st44 ?_
      show OwnGo p e below _ (T44.setTop (mkF m 24 #[.val (.int p1), .val (.int p2), .val (.int (1 : Int32)), .val (.int (1 : Int32)), .val (.ref aQUARTER), .unset, .unset] [(.ref aQUARTER)]))
      refine own_go (fun _ k => XS.astore X44.here hx rfl (hb hby at_24) rfl rfl (l' := #[.val (.int p1), .val (.int p2), .val (.int (1 : Int32)), .val (.int (1 : Int32)), .val (.ref aQUARTER), .val (.ref aQUARTER), .unset]) rfl k) ?_
      show OwnGo p e below _ (T44.setTop (mkF m 26 #[.val (.int p1), .val (.int p2), .val (.int (1 : Int32)), .val (.int (1 : Int32)), .val (.ref aQUARTER), .val (.ref aQUARTER), .unset] []))
      refine own_go (fun _ k => XS.iloadN X44.here hx rfl (hb hby at_26) rfl k) ?_
      show OwnGo p e below _ (T44.setTop (mkF m 27 #[.val (.int p1), .val (.int p2), .val (.int (1 : Int32)), .val (.int (1 : Int32)), .val (.ref aQUARTER), .val (.ref aQUARTER), .unset] [(.int (1 : Int32))]))
      refine own_go (fun _ k => XS.iloadN X44.here hx rfl (hb hby at_27) rfl k) ?_
      show OwnGo p e below _ (T44.setTop (mkF m 28 #[.val (.int p1), .val (.int p2), .val (.int (1 : Int32)), .val (.int (1 : Int32)), .val (.ref aQUARTER), .val (.ref aQUARTER), .unset] [(.int (1 : Int32)), (.int (1 : Int32))]))
      refine own_go (fun _ k => XS.icmpYes X44.here hx rfl (pc0 := 28) (pc' := 35) rfl (hb hby at_28) rfl (by decide) (by decide) (by decide) k) ?_
      show OwnGo p e below _ (T44.setTop (mkF m 35 #[.val (.int p1), .val (.int p2), .val (.int (1 : Int32)), .val (.int (1 : Int32)), .val (.ref aQUARTER), .val (.ref aQUARTER), .unset] []))
      refine own_go (fun _ k => XS.iconst X44.here hx rfl (hb hby at_35) k) ?_
      show OwnGo p e below _ (T44.setTop (mkF m 36 #[.val (.int p1), .val (.int p2), .val (.int (1 : Int32)), .val (.int (1 : Int32)), .val (.ref aQUARTER), .val (.ref aQUARTER), .unset] [(.int (0 : Int32))]))
      refine own_go (fun _ k => XS.istore X44.here hx rfl (hb hby at_36) rfl (l' := #[.val (.int p1), .val (.int p2), .val (.int (1 : Int32)), .val (.int (1 : Int32)), .val (.ref aQUARTER), .val (.ref aQUARTER), .val (.int (0 : Int32))]) rfl k) ?_
      show OwnGo p e below _ (T44.setTop (mkF m 38 #[.val (.int p1), .val (.int p2), .val (.int (1 : Int32)), .val (.int (1 : Int32)), .val (.ref aQUARTER), .val (.ref aQUARTER), .val (.int (0 : Int32))] []))
      refine own_go (fun _ k => XS.aload X44.here hx rfl (hb hby at_38) rfl rfl k) ?_
      show OwnGo p e below _ (T44.setTop (mkF m 40 #[.val (.int p1), .val (.int p2), .val (.int (1 : Int32)), .val (.int (1 : Int32)), .val (.ref aQUARTER), .val (.ref aQUARTER), .val (.int (0 : Int32))] [(.ref aQUARTER)]))
      refine own_go (fun _ k => XS.aload X44.here hx rfl (hb hby at_40) rfl rfl k) ?_
      show OwnGo p e below _ (T44.setTop (mkF m 42 #[.val (.int p1), .val (.int p2), .val (.int (1 : Int32)), .val (.int (1 : Int32)), .val (.ref aQUARTER), .val (.ref aQUARTER), .val (.int (0 : Int32))] [(.ref aQUARTER), (.ref aQUARTER)]))
      obtain ⟨cq45, kq45, qa45, qb45, qc45⟩ := isOf hZ K44 (F0.2.2.2.2.2.2.1.ext O0.2)
      obtain ⟨_, _, ⟨T45, L45, k45, n45⟩, -, X45, ⟨Lc45, hQ45, l45, y45, z45⟩, st45⟩ := X44.virtualBack hx (y := (⟨"com/example/periodmark/periodmark/Grain", "encloses", "(Lcom/example/periodmark/periodmark/Grain;)Z"⟩ : MethodName)) (z := (⟨"com/example/periodmark/periodmark/Grain", "encloses", "(Lcom/example/periodmark/periodmark/Grain;)Z"⟩ : MethodName)) hown (mvT hZ (hw _ (List.mem_of_getElem? (i := 8) rfl))) (mvT hZ (hw _ (List.mem_of_getElem? (i := 9) rfl))) (notFace_of_selects (args := #[]) (mvT hZ (hw _ (List.mem_of_getElem? (i := 22) rfl)))) (mvT hZ (hw _ (List.mem_of_getElem? (i := 22) rfl))) (mvT hZ (hw _ (List.mem_of_getElem? (i := 10) rfl))) (by decide) (backOf (W := 0) (rm_enc11 l Z a0 hw [] aMONTH aYEAR aQUARTER F0 h0 n0 O0) hZ (hw _ (List.mem_of_getElem? (i := 12) rfl)) (hw _ (List.mem_of_getElem? (i := 6) rfl)) (by decide) (by decide)) qa45 qc45 (g := (mkF m 42 #[.val (.int p1), .val (.int p2), .val (.int (1 : Int32)), .val (.int (1 : Int32)), .val (.ref aQUARTER), .val (.ref aQUARTER), .val (.int (0 : Int32))] [(.ref aQUARTER), (.ref aQUARTER)])) rfl (by rw [hml]; rfl) (Steps.refl _) (argsL := [(.ref aQUARTER)]) (rest := []) (lenOf pd_Lcom_example_periodmark_periodmark_Grain___Z rfl) rfl (by show 2 * 0 + _ ≤ _; exact Nat.le_of_eq rfl) (hb hby at_42) (fun _ _ => ⟨rfl, K44, (by decide : 0 + 0 ≤ _), (by decide : 0 + 0 ≤ _)⟩)
      dsimp only [Pt.U, Pt.locs, Pt.cells, Pt.slots] at X45 l45 y45 z45 st45 hQ45
      subst l45 y45 z45
      obtain ⟨rfl, Nq45, K45⟩ := hQ45
      have N45 := Fr.app N44 Nq45
      refine own_go (fun _ k => st45.trans k) ?_
      show OwnGo p e below _ (T45.setTop (mkF m 45 #[.val (.int p1), .val (.int p2), .val (.int (1 : Int32)), .val (.int (1 : Int32)), .val (.ref aQUARTER), .val (.ref aQUARTER), .val (.int (0 : Int32))] [(.int (0 : Int32))]))
      refine own_go (fun _ k => XS.iload X45.here hx rfl (hb hby at_45) rfl k) ?_
      show OwnGo p e below _ (T45.setTop (mkF m 47 #[.val (.int p1), .val (.int p2), .val (.int (1 : Int32)), .val (.int (1 : Int32)), .val (.ref aQUARTER), .val (.ref aQUARTER), .val (.int (0 : Int32))] [(.int (0 : Int32)), (.int (0 : Int32))]))
      refine own_go (fun _ k => XS.icmpNo X45.here hx rfl (hb hby at_47) rfl (by decide) k) ?_
      show OwnGo p e below _ (T45.setTop (mkF m 50 #[.val (.int p1), .val (.int p2), .val (.int (1 : Int32)), .val (.int (1 : Int32)), .val (.ref aQUARTER), .val (.ref aQUARTER), .val (.int (0 : Int32))] []))
      refine own_go (fun _ k => XS.iconst X45.here hx rfl (hb hby at_50) k) ?_
      show OwnGo p e below _ (T45.setTop (mkF m 51 #[.val (.int p1), .val (.int p2), .val (.int (1 : Int32)), .val (.int (1 : Int32)), .val (.ref aQUARTER), .val (.ref aQUARTER), .val (.int (0 : Int32))] [(.int (1 : Int32))]))
      refine own_go (fun _ k => XS.goto X45.here hx rfl (pc0 := 51) (pc' := 55) rfl (hb hby at_51) (by decide) (by decide) k) ?_
      show OwnGo p e below _ (T45.setTop (mkF m 55 #[.val (.int p1), .val (.int p2), .val (.int (1 : Int32)), .val (.int (1 : Int32)), .val (.ref aQUARTER), .val (.ref aQUARTER), .val (.int (0 : Int32))] [(.int (1 : Int32))]))
      obtain ⟨fs, hr, hrun, hended, hW, hsame⟩ := X45.leave (v := some (.int (1 : Int32))) (fun h => by rw [Bd.returns] at h; cases h)
      refine ⟨_, _, retOut X45 hx Bd.returns rfl (Or.inl ⟨rfl, Or.inr (Or.inl rfl), _, rfl⟩) (hb hby at_55) hr, hrun, hended, _, _, rfl, ?_, ⟨_, rfl⟩, hW, hsame.mono (by decide) (by decide)⟩
      show Q_law Z aMONTH aYEAR aQUARTER p1 p2 h0 n0 _ T45.heap _
      rw [K45]
      exact ⟨rfl, N45⟩
    · rw [hv39]
      show OwnGo p e below _ (s₁.setTop (mkF m 13 #[.val (.int p1), .val (.int p2), .val (.int (1 : Int32)), .unset, .unset, .unset, .unset] [(.int (2 : Int32))]))
      refine own_go (fun _ k => XS.istoreN X0.here hx rfl (hb hby at_13) rfl (l' := #[.val (.int p1), .val (.int p2), .val (.int (1 : Int32)), .val (.int (2 : Int32)), .unset, .unset, .unset]) rfl k) ?_
      show OwnGo p e below _ (s₁.setTop (mkF m 14 #[.val (.int p1), .val (.int p2), .val (.int (1 : Int32)), .val (.int (2 : Int32)), .unset, .unset, .unset] []))
      refine own_go (fun _ k => XS.iloadN X0.here hx rfl (hb hby at_14) rfl k) ?_
      show OwnGo p e below _ (s₁.setTop (mkF m 15 #[.val (.int p1), .val (.int p2), .val (.int (1 : Int32)), .val (.int (2 : Int32)), .unset, .unset, .unset] [(.int (1 : Int32))]))
      obtain ⟨_, _, ⟨T46, L46, k46, n46⟩, -, X46, ⟨Lc46, hQ46, l46, y46, z46⟩, st46⟩ := Jvm.LawKit.callS X0 hx (y := (⟨"com/example/periodmark/periodmark/GrainEnclosesPinLaw", "pick", "(I)Lcom/example/periodmark/periodmark/Grain;"⟩ : MethodName)) hown (mvT hZ (hw _ (List.mem_of_getElem? (i := 1) rfl))) (mvT hZ (hw _ (List.mem_of_getElem? (i := 2) rfl))) (mvT hZ (hw _ (List.mem_of_getElem? (i := 3) rfl))) (mvT hZ (hw _ (List.mem_of_getElem? (i := 4) rfl))) (by decide) (backOf (W := 0) (rm_pick1 l Z a0 hw [] aMONTH aYEAR aQUARTER F0 h0 n0 O0) hZ (hw _ (List.mem_of_getElem? (i := 4) rfl)) (hw _ (List.mem_of_getElem? (i := 3) rfl)) (by decide) (by decide)) (g := (mkF m 15 #[.val (.int p1), .val (.int p2), .val (.int (1 : Int32)), .val (.int (2 : Int32)), .unset, .unset, .unset] [(.int (1 : Int32))])) rfl (by rw [hml]; rfl) (argsL := [(.int (1 : Int32))]) (rest := []) (lenOf pd_I__Lcom_example_periodmark_periodmark_Grain_ rfl) rfl (by show 2 * 0 + _ ≤ _; exact Nat.le_of_eq rfl) (hb hby at_15) (fun _ _ => ⟨rfl, e0, (by decide : 0 + 0 ≤ _), (by decide : 0 + 0 ≤ _)⟩)
      dsimp only [Pt.U, Pt.locs, Pt.cells, Pt.slots] at X46 l46 y46 z46 st46 hQ46
      subst l46 y46 z46
      obtain ⟨rfl, Nq46, K46⟩ := hQ46
      have N46 := Fr.app N0 Nq46
      refine own_go st46 ?_
      show OwnGo p e below _ (T46.setTop (mkF m 18 #[.val (.int p1), .val (.int p2), .val (.int (1 : Int32)), .val (.int (2 : Int32)), .unset, .unset, .unset] [(.ref aQUARTER)]))
      refine own_go (fun _ k => XS.astore X46.here hx rfl (hb hby at_18) rfl rfl (l' := #[.val (.int p1), .val (.int p2), .val (.int (1 : Int32)), .val (.int (2 : Int32)), .val (.ref aQUARTER), .unset, .unset]) rfl k) ?_
      show OwnGo p e below _ (T46.setTop (mkF m 20 #[.val (.int p1), .val (.int p2), .val (.int (1 : Int32)), .val (.int (2 : Int32)), .val (.ref aQUARTER), .unset, .unset] []))
      refine own_go (fun _ k => XS.iloadN X46.here hx rfl (hb hby at_20) rfl k) ?_
      show OwnGo p e below _ (T46.setTop (mkF m 21 #[.val (.int p1), .val (.int p2), .val (.int (1 : Int32)), .val (.int (2 : Int32)), .val (.ref aQUARTER), .unset, .unset] [(.int (2 : Int32))]))
      obtain ⟨_, _, ⟨T47, L47, k47, n47⟩, -, X47, ⟨Lc47, hQ47, l47, y47, z47⟩, st47⟩ := Jvm.LawKit.callS X46 hx (y := (⟨"com/example/periodmark/periodmark/GrainEnclosesPinLaw", "pick", "(I)Lcom/example/periodmark/periodmark/Grain;"⟩ : MethodName)) hown (mvT hZ (hw _ (List.mem_of_getElem? (i := 1) rfl))) (mvT hZ (hw _ (List.mem_of_getElem? (i := 2) rfl))) (mvT hZ (hw _ (List.mem_of_getElem? (i := 3) rfl))) (mvT hZ (hw _ (List.mem_of_getElem? (i := 4) rfl))) (by decide) (backOf (W := 0) (rm_pick2 l Z a0 hw [] aMONTH aYEAR aQUARTER F0 h0 n0 O0) hZ (hw _ (List.mem_of_getElem? (i := 4) rfl)) (hw _ (List.mem_of_getElem? (i := 3) rfl)) (by decide) (by decide)) (g := (mkF m 21 #[.val (.int p1), .val (.int p2), .val (.int (1 : Int32)), .val (.int (2 : Int32)), .val (.ref aQUARTER), .unset, .unset] [(.int (2 : Int32))])) rfl (by rw [hml]; rfl) (argsL := [(.int (2 : Int32))]) (rest := []) (lenOf pd_I__Lcom_example_periodmark_periodmark_Grain_ rfl) rfl (by show 2 * 0 + _ ≤ _; exact Nat.le_of_eq rfl) (hb hby at_21) (fun _ _ => ⟨rfl, K46, (by decide : 0 + 0 ≤ _), (by decide : 0 + 0 ≤ _)⟩)
      dsimp only [Pt.U, Pt.locs, Pt.cells, Pt.slots] at X47 l47 y47 z47 st47 hQ47
      subst l47 y47 z47
      obtain ⟨rfl, Nq47, K47⟩ := hQ47
      have N47 := Fr.app N46 Nq47
      refine own_go st47 ?_
      show OwnGo p e below _ (T47.setTop (mkF m 24 #[.val (.int p1), .val (.int p2), .val (.int (1 : Int32)), .val (.int (2 : Int32)), .val (.ref aQUARTER), .unset, .unset] [(.ref aYEAR)]))
      refine own_go (fun _ k => XS.astore X47.here hx rfl (hb hby at_24) rfl rfl (l' := #[.val (.int p1), .val (.int p2), .val (.int (1 : Int32)), .val (.int (2 : Int32)), .val (.ref aQUARTER), .val (.ref aYEAR), .unset]) rfl k) ?_
      show OwnGo p e below _ (T47.setTop (mkF m 26 #[.val (.int p1), .val (.int p2), .val (.int (1 : Int32)), .val (.int (2 : Int32)), .val (.ref aQUARTER), .val (.ref aYEAR), .unset] []))
      refine own_go (fun _ k => XS.iloadN X47.here hx rfl (hb hby at_26) rfl k) ?_
      show OwnGo p e below _ (T47.setTop (mkF m 27 #[.val (.int p1), .val (.int p2), .val (.int (1 : Int32)), .val (.int (2 : Int32)), .val (.ref aQUARTER), .val (.ref aYEAR), .unset] [(.int (1 : Int32))]))
      refine own_go (fun _ k => XS.iloadN X47.here hx rfl (hb hby at_27) rfl k) ?_
      show OwnGo p e below _ (T47.setTop (mkF m 28 #[.val (.int p1), .val (.int p2), .val (.int (1 : Int32)), .val (.int (2 : Int32)), .val (.ref aQUARTER), .val (.ref aYEAR), .unset] [(.int (2 : Int32)), (.int (1 : Int32))]))
      refine own_go (fun _ k => XS.icmpYes X47.here hx rfl (pc0 := 28) (pc' := 35) rfl (hb hby at_28) rfl (by decide) (by decide) (by decide) k) ?_
      show OwnGo p e below _ (T47.setTop (mkF m 35 #[.val (.int p1), .val (.int p2), .val (.int (1 : Int32)), .val (.int (2 : Int32)), .val (.ref aQUARTER), .val (.ref aYEAR), .unset] []))
      refine own_go (fun _ k => XS.iconst X47.here hx rfl (hb hby at_35) k) ?_
      show OwnGo p e below _ (T47.setTop (mkF m 36 #[.val (.int p1), .val (.int p2), .val (.int (1 : Int32)), .val (.int (2 : Int32)), .val (.ref aQUARTER), .val (.ref aYEAR), .unset] [(.int (0 : Int32))]))
      refine own_go (fun _ k => XS.istore X47.here hx rfl (hb hby at_36) rfl (l' := #[.val (.int p1), .val (.int p2), .val (.int (1 : Int32)), .val (.int (2 : Int32)), .val (.ref aQUARTER), .val (.ref aYEAR), .val (.int (0 : Int32))]) rfl k) ?_
      show OwnGo p e below _ (T47.setTop (mkF m 38 #[.val (.int p1), .val (.int p2), .val (.int (1 : Int32)), .val (.int (2 : Int32)), .val (.ref aQUARTER), .val (.ref aYEAR), .val (.int (0 : Int32))] []))
      refine own_go (fun _ k => XS.aload X47.here hx rfl (hb hby at_38) rfl rfl k) ?_
      show OwnGo p e below _ (T47.setTop (mkF m 40 #[.val (.int p1), .val (.int p2), .val (.int (1 : Int32)), .val (.int (2 : Int32)), .val (.ref aQUARTER), .val (.ref aYEAR), .val (.int (0 : Int32))] [(.ref aQUARTER)]))
      refine own_go (fun _ k => XS.aload X47.here hx rfl (hb hby at_40) rfl rfl k) ?_
      show OwnGo p e below _ (T47.setTop (mkF m 42 #[.val (.int p1), .val (.int p2), .val (.int (1 : Int32)), .val (.int (2 : Int32)), .val (.ref aQUARTER), .val (.ref aYEAR), .val (.int (0 : Int32))] [(.ref aYEAR), (.ref aQUARTER)]))
      obtain ⟨cq48, kq48, qa48, qb48, qc48⟩ := isOf hZ K47 (F0.2.2.2.2.2.2.1.ext O0.2)
      obtain ⟨_, _, ⟨T48, L48, k48, n48⟩, -, X48, ⟨Lc48, hQ48, l48, y48, z48⟩, st48⟩ := X47.virtualBack hx (y := (⟨"com/example/periodmark/periodmark/Grain", "encloses", "(Lcom/example/periodmark/periodmark/Grain;)Z"⟩ : MethodName)) (z := (⟨"com/example/periodmark/periodmark/Grain", "encloses", "(Lcom/example/periodmark/periodmark/Grain;)Z"⟩ : MethodName)) hown (mvT hZ (hw _ (List.mem_of_getElem? (i := 8) rfl))) (mvT hZ (hw _ (List.mem_of_getElem? (i := 9) rfl))) (notFace_of_selects (args := #[]) (mvT hZ (hw _ (List.mem_of_getElem? (i := 22) rfl)))) (mvT hZ (hw _ (List.mem_of_getElem? (i := 22) rfl))) (mvT hZ (hw _ (List.mem_of_getElem? (i := 10) rfl))) (by decide) (backOf (W := 0) (rm_enc12 l Z a0 hw [] aMONTH aYEAR aQUARTER F0 h0 n0 O0) hZ (hw _ (List.mem_of_getElem? (i := 12) rfl)) (hw _ (List.mem_of_getElem? (i := 6) rfl)) (by decide) (by decide)) qa48 qc48 (g := (mkF m 42 #[.val (.int p1), .val (.int p2), .val (.int (1 : Int32)), .val (.int (2 : Int32)), .val (.ref aQUARTER), .val (.ref aYEAR), .val (.int (0 : Int32))] [(.ref aYEAR), (.ref aQUARTER)])) rfl (by rw [hml]; rfl) (Steps.refl _) (argsL := [(.ref aYEAR)]) (rest := []) (lenOf pd_Lcom_example_periodmark_periodmark_Grain___Z rfl) rfl (by show 2 * 0 + _ ≤ _; exact Nat.le_of_eq rfl) (hb hby at_42) (fun _ _ => ⟨rfl, K47, (by decide : 0 + 0 ≤ _), (by decide : 0 + 0 ≤ _)⟩)
      dsimp only [Pt.U, Pt.locs, Pt.cells, Pt.slots] at X48 l48 y48 z48 st48 hQ48
      subst l48 y48 z48
      obtain ⟨rfl, Nq48, K48⟩ := hQ48
      have N48 := Fr.app N47 Nq48
      refine own_go (fun _ k => st48.trans k) ?_
      show OwnGo p e below _ (T48.setTop (mkF m 45 #[.val (.int p1), .val (.int p2), .val (.int (1 : Int32)), .val (.int (2 : Int32)), .val (.ref aQUARTER), .val (.ref aYEAR), .val (.int (0 : Int32))] [(.int (0 : Int32))]))
      refine own_go (fun _ k => XS.iload X48.here hx rfl (hb hby at_45) rfl k) ?_
      show OwnGo p e below _ (T48.setTop (mkF m 47 #[.val (.int p1), .val (.int p2), .val (.int (1 : Int32)), .val (.int (2 : Int32)), .val (.ref aQUARTER), .val (.ref aYEAR), .val (.int (0 : Int32))] [(.int (0 : Int32)), (.int (0 : Int32))]))
      refine own_go (fun _ k => XS.icmpNo X48.here hx rfl (hb hby at_47) rfl (by decide) k) ?_
      show OwnGo p e below _ (T48.setTop (mkF m 50 #[.val (.int p1), .val (.int p2), .val (.int (1 : Int32)), .val (.int (2 : Int32)), .val (.ref aQUARTER), .val (.ref aYEAR), .val (.int (0 : Int32))] []))
      refine own_go (fun _ k => XS.iconst X48.here hx rfl (hb hby at_50) k) ?_
      show OwnGo p e below _ (T48.setTop (mkF m 51 #[.val (.int p1), .val (.int p2), .val (.int (1 : Int32)), .val (.int (2 : Int32)), .val (.ref aQUARTER), .val (.ref aYEAR), .val (.int (0 : Int32))] [(.int (1 : Int32))]))
      refine own_go (fun _ k => XS.goto X48.here hx rfl (pc0 := 51) (pc' := 55) rfl (hb hby at_51) (by decide) (by decide) k) ?_
      show OwnGo p e below _ (T48.setTop (mkF m 55 #[.val (.int p1), .val (.int p2), .val (.int (1 : Int32)), .val (.int (2 : Int32)), .val (.ref aQUARTER), .val (.ref aYEAR), .val (.int (0 : Int32))] [(.int (1 : Int32))]))
      obtain ⟨fs, hr, hrun, hended, hW, hsame⟩ := X48.leave (v := some (.int (1 : Int32))) (fun h => by rw [Bd.returns] at h; cases h)
      refine ⟨_, _, retOut X48 hx Bd.returns rfl (Or.inl ⟨rfl, Or.inr (Or.inl rfl), _, rfl⟩) (hb hby at_55) hr, hrun, hended, _, _, rfl, ?_, ⟨_, rfl⟩, hW, hsame.mono (by decide) (by decide)⟩
      show Q_law Z aMONTH aYEAR aQUARTER p1 p2 h0 n0 _ T48.heap _
      rw [K48]
      exact ⟨rfl, N48⟩
  · rw [hv28]
    show OwnGo p e below _ (s₁.setTop (mkF m 6 #[.val (.int p1), .val (.int p2), .unset, .unset, .unset, .unset, .unset] [(.int (2 : Int32))]))
    refine own_go (fun _ k => XS.istoreN X0.here hx rfl (hb hby at_6) rfl (l' := #[.val (.int p1), .val (.int p2), .val (.int (2 : Int32)), .unset, .unset, .unset, .unset]) rfl k) ?_
    show OwnGo p e below _ (s₁.setTop (mkF m 7 #[.val (.int p1), .val (.int p2), .val (.int (2 : Int32)), .unset, .unset, .unset, .unset] []))
    refine own_go (fun _ k => XS.iloadN X0.here hx rfl (hb hby at_7) rfl k) ?_
    show OwnGo p e below _ (s₁.setTop (mkF m 8 #[.val (.int p1), .val (.int p2), .val (.int (2 : Int32)), .unset, .unset, .unset, .unset] [(.int p2)]))
    refine own_go (fun _ k => Jvm.Stand.ldcI X0 hx hown (mvT hZ (hw _ (List.mem_of_getElem? (i := 0) rfl))) rfl (hb hby at_8) k) ?_
    show OwnGo p e below _ (s₁.setTop (mkF m 10 #[.val (.int p1), .val (.int p2), .val (.int (2 : Int32)), .unset, .unset, .unset, .unset] [(.int (2147483647 : Int32)), (.int p2)]))
    refine own_go (fun _ k => XS.iand X0.here hx rfl (hb hby at_10) rfl k) ?_
    show OwnGo p e below _ (s₁.setTop (mkF m 11 #[.val (.int p1), .val (.int p2), .val (.int (2 : Int32)), .unset, .unset, .unset, .unset] [(.int (p2 &&& (2147483647 : Int32)))]))
    refine own_go (fun _ k => XS.iconst X0.here hx rfl (hb hby at_11) k) ?_
    show OwnGo p e below _ (s₁.setTop (mkF m 12 #[.val (.int p1), .val (.int p2), .val (.int (2 : Int32)), .unset, .unset, .unset, .unset] [(.int (3 : Int32)), (.int (p2 &&& (2147483647 : Int32)))]))
    refine own_go (fun _ k => iremM X0 hx rfl (hb hby at_12) rfl (by decide) k) ?_
    show OwnGo p e below _ (s₁.setTop (mkF m 13 #[.val (.int p1), .val (.int p2), .val (.int (2 : Int32)), .unset, .unset, .unset, .unset] [(.int ((p2 &&& (2147483647 : Int32)) % (3 : Int32)))]))
    rcases own_mod3 p2 with hv49 | hv49 | hv49
    · rw [hv49]
      show OwnGo p e below _ (s₁.setTop (mkF m 13 #[.val (.int p1), .val (.int p2), .val (.int (2 : Int32)), .unset, .unset, .unset, .unset] [(.int (0 : Int32))]))
      refine own_go (fun _ k => XS.istoreN X0.here hx rfl (hb hby at_13) rfl (l' := #[.val (.int p1), .val (.int p2), .val (.int (2 : Int32)), .val (.int (0 : Int32)), .unset, .unset, .unset]) rfl k) ?_
      show OwnGo p e below _ (s₁.setTop (mkF m 14 #[.val (.int p1), .val (.int p2), .val (.int (2 : Int32)), .val (.int (0 : Int32)), .unset, .unset, .unset] []))
      refine own_go (fun _ k => XS.iloadN X0.here hx rfl (hb hby at_14) rfl k) ?_
      show OwnGo p e below _ (s₁.setTop (mkF m 15 #[.val (.int p1), .val (.int p2), .val (.int (2 : Int32)), .val (.int (0 : Int32)), .unset, .unset, .unset] [(.int (2 : Int32))]))
      obtain ⟨_, _, ⟨T50, L50, k50, n50⟩, -, X50, ⟨Lc50, hQ50, l50, y50, z50⟩, st50⟩ := Jvm.LawKit.callS X0 hx (y := (⟨"com/example/periodmark/periodmark/GrainEnclosesPinLaw", "pick", "(I)Lcom/example/periodmark/periodmark/Grain;"⟩ : MethodName)) hown (mvT hZ (hw _ (List.mem_of_getElem? (i := 1) rfl))) (mvT hZ (hw _ (List.mem_of_getElem? (i := 2) rfl))) (mvT hZ (hw _ (List.mem_of_getElem? (i := 3) rfl))) (mvT hZ (hw _ (List.mem_of_getElem? (i := 4) rfl))) (by decide) (backOf (W := 0) (rm_pick2 l Z a0 hw [] aMONTH aYEAR aQUARTER F0 h0 n0 O0) hZ (hw _ (List.mem_of_getElem? (i := 4) rfl)) (hw _ (List.mem_of_getElem? (i := 3) rfl)) (by decide) (by decide)) (g := (mkF m 15 #[.val (.int p1), .val (.int p2), .val (.int (2 : Int32)), .val (.int (0 : Int32)), .unset, .unset, .unset] [(.int (2 : Int32))])) rfl (by rw [hml]; rfl) (argsL := [(.int (2 : Int32))]) (rest := []) (lenOf pd_I__Lcom_example_periodmark_periodmark_Grain_ rfl) rfl (by show 2 * 0 + _ ≤ _; exact Nat.le_of_eq rfl) (hb hby at_15) (fun _ _ => ⟨rfl, e0, (by decide : 0 + 0 ≤ _), (by decide : 0 + 0 ≤ _)⟩)
      dsimp only [Pt.U, Pt.locs, Pt.cells, Pt.slots] at X50 l50 y50 z50 st50 hQ50
      subst l50 y50 z50
      obtain ⟨rfl, Nq50, K50⟩ := hQ50
      have N50 := Fr.app N0 Nq50
      refine own_go st50 ?_
      show OwnGo p e below _ (T50.setTop (mkF m 18 #[.val (.int p1), .val (.int p2), .val (.int (2 : Int32)), .val (.int (0 : Int32)), .unset, .unset, .unset] [(.ref aYEAR)]))
      refine own_go (fun _ k => XS.astore X50.here hx rfl (hb hby at_18) rfl rfl (l' := #[.val (.int p1), .val (.int p2), .val (.int (2 : Int32)), .val (.int (0 : Int32)), .val (.ref aYEAR), .unset, .unset]) rfl k) ?_
      show OwnGo p e below _ (T50.setTop (mkF m 20 #[.val (.int p1), .val (.int p2), .val (.int (2 : Int32)), .val (.int (0 : Int32)), .val (.ref aYEAR), .unset, .unset] []))
      refine own_go (fun _ k => XS.iloadN X50.here hx rfl (hb hby at_20) rfl k) ?_
      show OwnGo p e below _ (T50.setTop (mkF m 21 #[.val (.int p1), .val (.int p2), .val (.int (2 : Int32)), .val (.int (0 : Int32)), .val (.ref aYEAR), .unset, .unset] [(.int (0 : Int32))]))
      obtain ⟨_, _, ⟨T51, L51, k51, n51⟩, -, X51, ⟨Lc51, hQ51, l51, y51, z51⟩, st51⟩ := Jvm.LawKit.callS X50 hx (y := (⟨"com/example/periodmark/periodmark/GrainEnclosesPinLaw", "pick", "(I)Lcom/example/periodmark/periodmark/Grain;"⟩ : MethodName)) hown (mvT hZ (hw _ (List.mem_of_getElem? (i := 1) rfl))) (mvT hZ (hw _ (List.mem_of_getElem? (i := 2) rfl))) (mvT hZ (hw _ (List.mem_of_getElem? (i := 3) rfl))) (mvT hZ (hw _ (List.mem_of_getElem? (i := 4) rfl))) (by decide) (backOf (W := 0) (rm_pick0 l Z a0 hw [] aMONTH aYEAR aQUARTER F0 h0 n0 O0) hZ (hw _ (List.mem_of_getElem? (i := 4) rfl)) (hw _ (List.mem_of_getElem? (i := 3) rfl)) (by decide) (by decide)) (g := (mkF m 21 #[.val (.int p1), .val (.int p2), .val (.int (2 : Int32)), .val (.int (0 : Int32)), .val (.ref aYEAR), .unset, .unset] [(.int (0 : Int32))])) rfl (by rw [hml]; rfl) (argsL := [(.int (0 : Int32))]) (rest := []) (lenOf pd_I__Lcom_example_periodmark_periodmark_Grain_ rfl) rfl (by show 2 * 0 + _ ≤ _; exact Nat.le_of_eq rfl) (hb hby at_21) (fun _ _ => ⟨rfl, K50, (by decide : 0 + 0 ≤ _), (by decide : 0 + 0 ≤ _)⟩)
      dsimp only [Pt.U, Pt.locs, Pt.cells, Pt.slots] at X51 l51 y51 z51 st51 hQ51
      subst l51 y51 z51
      obtain ⟨rfl, Nq51, K51⟩ := hQ51
      have N51 := Fr.app N50 Nq51
      refine own_go st51 ?_
      show OwnGo p e below _ (T51.setTop (mkF m 24 #[.val (.int p1), .val (.int p2), .val (.int (2 : Int32)), .val (.int (0 : Int32)), .val (.ref aYEAR), .unset, .unset] [(.ref aMONTH)]))
      refine own_go (fun _ k => XS.astore X51.here hx rfl (hb hby at_24) rfl rfl (l' := #[.val (.int p1), .val (.int p2), .val (.int (2 : Int32)), .val (.int (0 : Int32)), .val (.ref aYEAR), .val (.ref aMONTH), .unset]) rfl k) ?_
      show OwnGo p e below _ (T51.setTop (mkF m 26 #[.val (.int p1), .val (.int p2), .val (.int (2 : Int32)), .val (.int (0 : Int32)), .val (.ref aYEAR), .val (.ref aMONTH), .unset] []))
      refine own_go (fun _ k => XS.iloadN X51.here hx rfl (hb hby at_26) rfl k) ?_
      show OwnGo p e below _ (T51.setTop (mkF m 27 #[.val (.int p1), .val (.int p2), .val (.int (2 : Int32)), .val (.int (0 : Int32)), .val (.ref aYEAR), .val (.ref aMONTH), .unset] [(.int (2 : Int32))]))
      refine own_go (fun _ k => XS.iloadN X51.here hx rfl (hb hby at_27) rfl k) ?_
      show OwnGo p e below _ (T51.setTop (mkF m 28 #[.val (.int p1), .val (.int p2), .val (.int (2 : Int32)), .val (.int (0 : Int32)), .val (.ref aYEAR), .val (.ref aMONTH), .unset] [(.int (0 : Int32)), (.int (2 : Int32))]))
      refine own_go (fun _ k => XS.icmpNo X51.here hx rfl (hb hby at_28) rfl (by decide) k) ?_
      show OwnGo p e below _ (T51.setTop (mkF m 31 #[.val (.int p1), .val (.int p2), .val (.int (2 : Int32)), .val (.int (0 : Int32)), .val (.ref aYEAR), .val (.ref aMONTH), .unset] []))
      refine own_go (fun _ k => XS.iconst X51.here hx rfl (hb hby at_31) k) ?_
      show OwnGo p e below _ (T51.setTop (mkF m 32 #[.val (.int p1), .val (.int p2), .val (.int (2 : Int32)), .val (.int (0 : Int32)), .val (.ref aYEAR), .val (.ref aMONTH), .unset] [(.int (1 : Int32))]))
      refine own_go (fun _ k => XS.goto X51.here hx rfl (pc0 := 32) (pc' := 36) rfl (hb hby at_32) (by decide) (by decide) k) ?_
      show OwnGo p e below _ (T51.setTop (mkF m 36 #[.val (.int p1), .val (.int p2), .val (.int (2 : Int32)), .val (.int (0 : Int32)), .val (.ref aYEAR), .val (.ref aMONTH), .unset] [(.int (1 : Int32))]))
      refine own_go (fun _ k => XS.istore X51.here hx rfl (hb hby at_36) rfl (l' := #[.val (.int p1), .val (.int p2), .val (.int (2 : Int32)), .val (.int (0 : Int32)), .val (.ref aYEAR), .val (.ref aMONTH), .val (.int (1 : Int32))]) rfl k) ?_
      show OwnGo p e below _ (T51.setTop (mkF m 38 #[.val (.int p1), .val (.int p2), .val (.int (2 : Int32)), .val (.int (0 : Int32)), .val (.ref aYEAR), .val (.ref aMONTH), .val (.int (1 : Int32))] []))
      refine own_go (fun _ k => XS.aload X51.here hx rfl (hb hby at_38) rfl rfl k) ?_
      show OwnGo p e below _ (T51.setTop (mkF m 40 #[.val (.int p1), .val (.int p2), .val (.int (2 : Int32)), .val (.int (0 : Int32)), .val (.ref aYEAR), .val (.ref aMONTH), .val (.int (1 : Int32))] [(.ref aYEAR)]))
      refine own_go (fun _ k => XS.aload X51.here hx rfl (hb hby at_40) rfl rfl k) ?_
      show OwnGo p e below _ (T51.setTop (mkF m 42 #[.val (.int p1), .val (.int p2), .val (.int (2 : Int32)), .val (.int (0 : Int32)), .val (.ref aYEAR), .val (.ref aMONTH), .val (.int (1 : Int32))] [(.ref aMONTH), (.ref aYEAR)]))
      obtain ⟨cq52, kq52, qa52, qb52, qc52⟩ := isOf hZ K51 (F0.2.2.2.2.1.ext O0.2)
      obtain ⟨_, _, ⟨T52, L52, k52, n52⟩, -, X52, ⟨Lc52, hQ52, l52, y52, z52⟩, st52⟩ := X51.virtualBack hx (y := (⟨"com/example/periodmark/periodmark/Grain", "encloses", "(Lcom/example/periodmark/periodmark/Grain;)Z"⟩ : MethodName)) (z := (⟨"com/example/periodmark/periodmark/Grain", "encloses", "(Lcom/example/periodmark/periodmark/Grain;)Z"⟩ : MethodName)) hown (mvT hZ (hw _ (List.mem_of_getElem? (i := 8) rfl))) (mvT hZ (hw _ (List.mem_of_getElem? (i := 9) rfl))) (notFace_of_selects (args := #[]) (mvT hZ (hw _ (List.mem_of_getElem? (i := 19) rfl)))) (mvT hZ (hw _ (List.mem_of_getElem? (i := 19) rfl))) (mvT hZ (hw _ (List.mem_of_getElem? (i := 10) rfl))) (by decide) (backOf (W := 0) (rm_enc20 l Z a0 hw [] aMONTH aYEAR aQUARTER F0 h0 n0 O0) hZ (hw _ (List.mem_of_getElem? (i := 12) rfl)) (hw _ (List.mem_of_getElem? (i := 6) rfl)) (by decide) (by decide)) qa52 qc52 (g := (mkF m 42 #[.val (.int p1), .val (.int p2), .val (.int (2 : Int32)), .val (.int (0 : Int32)), .val (.ref aYEAR), .val (.ref aMONTH), .val (.int (1 : Int32))] [(.ref aMONTH), (.ref aYEAR)])) rfl (by rw [hml]; rfl) (Steps.refl _) (argsL := [(.ref aMONTH)]) (rest := []) (lenOf pd_Lcom_example_periodmark_periodmark_Grain___Z rfl) rfl (by show 2 * 0 + _ ≤ _; exact Nat.le_of_eq rfl) (hb hby at_42) (fun _ _ => ⟨rfl, K51, (by decide : 0 + 0 ≤ _), (by decide : 0 + 0 ≤ _)⟩)
      dsimp only [Pt.U, Pt.locs, Pt.cells, Pt.slots] at X52 l52 y52 z52 st52 hQ52
      subst l52 y52 z52
      obtain ⟨rfl, Nq52, K52⟩ := hQ52
      have N52 := Fr.app N51 Nq52
      refine own_go (fun _ k => st52.trans k) ?_
      show OwnGo p e below _ (T52.setTop (mkF m 45 #[.val (.int p1), .val (.int p2), .val (.int (2 : Int32)), .val (.int (0 : Int32)), .val (.ref aYEAR), .val (.ref aMONTH), .val (.int (1 : Int32))] [(.int (1 : Int32))]))
      refine own_go (fun _ k => XS.iload X52.here hx rfl (hb hby at_45) rfl k) ?_
      show OwnGo p e below _ (T52.setTop (mkF m 47 #[.val (.int p1), .val (.int p2), .val (.int (2 : Int32)), .val (.int (0 : Int32)), .val (.ref aYEAR), .val (.ref aMONTH), .val (.int (1 : Int32))] [(.int (1 : Int32)), (.int (1 : Int32))]))
      refine own_go (fun _ k => XS.icmpNo X52.here hx rfl (hb hby at_47) rfl (by decide) k) ?_
      show OwnGo p e below _ (T52.setTop (mkF m 50 #[.val (.int p1), .val (.int p2), .val (.int (2 : Int32)), .val (.int (0 : Int32)), .val (.ref aYEAR), .val (.ref aMONTH), .val (.int (1 : Int32))] []))
      refine own_go (fun _ k => XS.iconst X52.here hx rfl (hb hby at_50) k) ?_
      show OwnGo p e below _ (T52.setTop (mkF m 51 #[.val (.int p1), .val (.int p2), .val (.int (2 : Int32)), .val (.int (0 : Int32)), .val (.ref aYEAR), .val (.ref aMONTH), .val (.int (1 : Int32))] [(.int (1 : Int32))]))
      refine own_go (fun _ k => XS.goto X52.here hx rfl (pc0 := 51) (pc' := 55) rfl (hb hby at_51) (by decide) (by decide) k) ?_
      show OwnGo p e below _ (T52.setTop (mkF m 55 #[.val (.int p1), .val (.int p2), .val (.int (2 : Int32)), .val (.int (0 : Int32)), .val (.ref aYEAR), .val (.ref aMONTH), .val (.int (1 : Int32))] [(.int (1 : Int32))]))
      obtain ⟨fs, hr, hrun, hended, hW, hsame⟩ := X52.leave (v := some (.int (1 : Int32))) (fun h => by rw [Bd.returns] at h; cases h)
      refine ⟨_, _, retOut X52 hx Bd.returns rfl (Or.inl ⟨rfl, Or.inr (Or.inl rfl), _, rfl⟩) (hb hby at_55) hr, hrun, hended, _, _, rfl, ?_, ⟨_, rfl⟩, hW, hsame.mono (by decide) (by decide)⟩
      show Q_law Z aMONTH aYEAR aQUARTER p1 p2 h0 n0 _ T52.heap _
      rw [K52]
      exact ⟨rfl, N52⟩
    · rw [hv49]
      show OwnGo p e below _ (s₁.setTop (mkF m 13 #[.val (.int p1), .val (.int p2), .val (.int (2 : Int32)), .unset, .unset, .unset, .unset] [(.int (1 : Int32))]))
      refine own_go (fun _ k => XS.istoreN X0.here hx rfl (hb hby at_13) rfl (l' := #[.val (.int p1), .val (.int p2), .val (.int (2 : Int32)), .val (.int (1 : Int32)), .unset, .unset, .unset]) rfl k) ?_
      show OwnGo p e below _ (s₁.setTop (mkF m 14 #[.val (.int p1), .val (.int p2), .val (.int (2 : Int32)), .val (.int (1 : Int32)), .unset, .unset, .unset] []))
      refine own_go (fun _ k => XS.iloadN X0.here hx rfl (hb hby at_14) rfl k) ?_
      show OwnGo p e below _ (s₁.setTop (mkF m 15 #[.val (.int p1), .val (.int p2), .val (.int (2 : Int32)), .val (.int (1 : Int32)), .unset, .unset, .unset] [(.int (2 : Int32))]))
      obtain ⟨_, _, ⟨T53, L53, k53, n53⟩, -, X53, ⟨Lc53, hQ53, l53, y53, z53⟩, st53⟩ := Jvm.LawKit.callS X0 hx (y := (⟨"com/example/periodmark/periodmark/GrainEnclosesPinLaw", "pick", "(I)Lcom/example/periodmark/periodmark/Grain;"⟩ : MethodName)) hown (mvT hZ (hw _ (List.mem_of_getElem? (i := 1) rfl))) (mvT hZ (hw _ (List.mem_of_getElem? (i := 2) rfl))) (mvT hZ (hw _ (List.mem_of_getElem? (i := 3) rfl))) (mvT hZ (hw _ (List.mem_of_getElem? (i := 4) rfl))) (by decide) (backOf (W := 0) (rm_pick2 l Z a0 hw [] aMONTH aYEAR aQUARTER F0 h0 n0 O0) hZ (hw _ (List.mem_of_getElem? (i := 4) rfl)) (hw _ (List.mem_of_getElem? (i := 3) rfl)) (by decide) (by decide)) (g := (mkF m 15 #[.val (.int p1), .val (.int p2), .val (.int (2 : Int32)), .val (.int (1 : Int32)), .unset, .unset, .unset] [(.int (2 : Int32))])) rfl (by rw [hml]; rfl) (argsL := [(.int (2 : Int32))]) (rest := []) (lenOf pd_I__Lcom_example_periodmark_periodmark_Grain_ rfl) rfl (by show 2 * 0 + _ ≤ _; exact Nat.le_of_eq rfl) (hb hby at_15) (fun _ _ => ⟨rfl, e0, (by decide : 0 + 0 ≤ _), (by decide : 0 + 0 ≤ _)⟩)
      dsimp only [Pt.U, Pt.locs, Pt.cells, Pt.slots] at X53 l53 y53 z53 st53 hQ53
      subst l53 y53 z53
      obtain ⟨rfl, Nq53, K53⟩ := hQ53
      have N53 := Fr.app N0 Nq53
      refine own_go st53 ?_
      show OwnGo p e below _ (T53.setTop (mkF m 18 #[.val (.int p1), .val (.int p2), .val (.int (2 : Int32)), .val (.int (1 : Int32)), .unset, .unset, .unset] [(.ref aYEAR)]))
      refine own_go (fun _ k => XS.astore X53.here hx rfl (hb hby at_18) rfl rfl (l' := #[.val (.int p1), .val (.int p2), .val (.int (2 : Int32)), .val (.int (1 : Int32)), .val (.ref aYEAR), .unset, .unset]) rfl k) ?_
      show OwnGo p e below _ (T53.setTop (mkF m 20 #[.val (.int p1), .val (.int p2), .val (.int (2 : Int32)), .val (.int (1 : Int32)), .val (.ref aYEAR), .unset, .unset] []))
      refine own_go (fun _ k => XS.iloadN X53.here hx rfl (hb hby at_20) rfl k) ?_
      show OwnGo p e below _ (T53.setTop (mkF m 21 #[.val (.int p1), .val (.int p2), .val (.int (2 : Int32)), .val (.int (1 : Int32)), .val (.ref aYEAR), .unset, .unset] [(.int (1 : Int32))]))
      obtain ⟨_, _, ⟨T54, L54, k54, n54⟩, -, X54, ⟨Lc54, hQ54, l54, y54, z54⟩, st54⟩ := Jvm.LawKit.callS X53 hx (y := (⟨"com/example/periodmark/periodmark/GrainEnclosesPinLaw", "pick", "(I)Lcom/example/periodmark/periodmark/Grain;"⟩ : MethodName)) hown (mvT hZ (hw _ (List.mem_of_getElem? (i := 1) rfl))) (mvT hZ (hw _ (List.mem_of_getElem? (i := 2) rfl))) (mvT hZ (hw _ (List.mem_of_getElem? (i := 3) rfl))) (mvT hZ (hw _ (List.mem_of_getElem? (i := 4) rfl))) (by decide) (backOf (W := 0) (rm_pick1 l Z a0 hw [] aMONTH aYEAR aQUARTER F0 h0 n0 O0) hZ (hw _ (List.mem_of_getElem? (i := 4) rfl)) (hw _ (List.mem_of_getElem? (i := 3) rfl)) (by decide) (by decide)) (g := (mkF m 21 #[.val (.int p1), .val (.int p2), .val (.int (2 : Int32)), .val (.int (1 : Int32)), .val (.ref aYEAR), .unset, .unset] [(.int (1 : Int32))])) rfl (by rw [hml]; rfl) (argsL := [(.int (1 : Int32))]) (rest := []) (lenOf pd_I__Lcom_example_periodmark_periodmark_Grain_ rfl) rfl (by show 2 * 0 + _ ≤ _; exact Nat.le_of_eq rfl) (hb hby at_21) (fun _ _ => ⟨rfl, K53, (by decide : 0 + 0 ≤ _), (by decide : 0 + 0 ≤ _)⟩)
      dsimp only [Pt.U, Pt.locs, Pt.cells, Pt.slots] at X54 l54 y54 z54 st54 hQ54
      subst l54 y54 z54
      obtain ⟨rfl, Nq54, K54⟩ := hQ54
      have N54 := Fr.app N53 Nq54
      refine own_go st54 ?_
      show OwnGo p e below _ (T54.setTop (mkF m 24 #[.val (.int p1), .val (.int p2), .val (.int (2 : Int32)), .val (.int (1 : Int32)), .val (.ref aYEAR), .unset, .unset] [(.ref aQUARTER)]))
      refine own_go (fun _ k => XS.astore X54.here hx rfl (hb hby at_24) rfl rfl (l' := #[.val (.int p1), .val (.int p2), .val (.int (2 : Int32)), .val (.int (1 : Int32)), .val (.ref aYEAR), .val (.ref aQUARTER), .unset]) rfl k) ?_
      show OwnGo p e below _ (T54.setTop (mkF m 26 #[.val (.int p1), .val (.int p2), .val (.int (2 : Int32)), .val (.int (1 : Int32)), .val (.ref aYEAR), .val (.ref aQUARTER), .unset] []))
      refine own_go (fun _ k => XS.iloadN X54.here hx rfl (hb hby at_26) rfl k) ?_
      show OwnGo p e below _ (T54.setTop (mkF m 27 #[.val (.int p1), .val (.int p2), .val (.int (2 : Int32)), .val (.int (1 : Int32)), .val (.ref aYEAR), .val (.ref aQUARTER), .unset] [(.int (2 : Int32))]))
      refine own_go (fun _ k => XS.iloadN X54.here hx rfl (hb hby at_27) rfl k) ?_
      show OwnGo p e below _ (T54.setTop (mkF m 28 #[.val (.int p1), .val (.int p2), .val (.int (2 : Int32)), .val (.int (1 : Int32)), .val (.ref aYEAR), .val (.ref aQUARTER), .unset] [(.int (1 : Int32)), (.int (2 : Int32))]))
      refine own_go (fun _ k => XS.icmpNo X54.here hx rfl (hb hby at_28) rfl (by decide) k) ?_
      show OwnGo p e below _ (T54.setTop (mkF m 31 #[.val (.int p1), .val (.int p2), .val (.int (2 : Int32)), .val (.int (1 : Int32)), .val (.ref aYEAR), .val (.ref aQUARTER), .unset] []))
      refine own_go (fun _ k => XS.iconst X54.here hx rfl (hb hby at_31) k) ?_
      show OwnGo p e below _ (T54.setTop (mkF m 32 #[.val (.int p1), .val (.int p2), .val (.int (2 : Int32)), .val (.int (1 : Int32)), .val (.ref aYEAR), .val (.ref aQUARTER), .unset] [(.int (1 : Int32))]))
      refine own_go (fun _ k => XS.goto X54.here hx rfl (pc0 := 32) (pc' := 36) rfl (hb hby at_32) (by decide) (by decide) k) ?_
      show OwnGo p e below _ (T54.setTop (mkF m 36 #[.val (.int p1), .val (.int p2), .val (.int (2 : Int32)), .val (.int (1 : Int32)), .val (.ref aYEAR), .val (.ref aQUARTER), .unset] [(.int (1 : Int32))]))
      refine own_go (fun _ k => XS.istore X54.here hx rfl (hb hby at_36) rfl (l' := #[.val (.int p1), .val (.int p2), .val (.int (2 : Int32)), .val (.int (1 : Int32)), .val (.ref aYEAR), .val (.ref aQUARTER), .val (.int (1 : Int32))]) rfl k) ?_
      show OwnGo p e below _ (T54.setTop (mkF m 38 #[.val (.int p1), .val (.int p2), .val (.int (2 : Int32)), .val (.int (1 : Int32)), .val (.ref aYEAR), .val (.ref aQUARTER), .val (.int (1 : Int32))] []))
      refine own_go (fun _ k => XS.aload X54.here hx rfl (hb hby at_38) rfl rfl k) ?_
      show OwnGo p e below _ (T54.setTop (mkF m 40 #[.val (.int p1), .val (.int p2), .val (.int (2 : Int32)), .val (.int (1 : Int32)), .val (.ref aYEAR), .val (.ref aQUARTER), .val (.int (1 : Int32))] [(.ref aYEAR)]))
      refine own_go (fun _ k => XS.aload X54.here hx rfl (hb hby at_40) rfl rfl k) ?_
      show OwnGo p e below _ (T54.setTop (mkF m 42 #[.val (.int p1), .val (.int p2), .val (.int (2 : Int32)), .val (.int (1 : Int32)), .val (.ref aYEAR), .val (.ref aQUARTER), .val (.int (1 : Int32))] [(.ref aQUARTER), (.ref aYEAR)]))
      obtain ⟨cq55, kq55, qa55, qb55, qc55⟩ := isOf hZ K54 (F0.2.2.2.2.1.ext O0.2)
      obtain ⟨_, _, ⟨T55, L55, k55, n55⟩, -, X55, ⟨Lc55, hQ55, l55, y55, z55⟩, st55⟩ := X54.virtualBack hx (y := (⟨"com/example/periodmark/periodmark/Grain", "encloses", "(Lcom/example/periodmark/periodmark/Grain;)Z"⟩ : MethodName)) (z := (⟨"com/example/periodmark/periodmark/Grain", "encloses", "(Lcom/example/periodmark/periodmark/Grain;)Z"⟩ : MethodName)) hown (mvT hZ (hw _ (List.mem_of_getElem? (i := 8) rfl))) (mvT hZ (hw _ (List.mem_of_getElem? (i := 9) rfl))) (notFace_of_selects (args := #[]) (mvT hZ (hw _ (List.mem_of_getElem? (i := 19) rfl)))) (mvT hZ (hw _ (List.mem_of_getElem? (i := 19) rfl))) (mvT hZ (hw _ (List.mem_of_getElem? (i := 10) rfl))) (by decide) (backOf (W := 0) (rm_enc21 l Z a0 hw [] aMONTH aYEAR aQUARTER F0 h0 n0 O0) hZ (hw _ (List.mem_of_getElem? (i := 12) rfl)) (hw _ (List.mem_of_getElem? (i := 6) rfl)) (by decide) (by decide)) qa55 qc55 (g := (mkF m 42 #[.val (.int p1), .val (.int p2), .val (.int (2 : Int32)), .val (.int (1 : Int32)), .val (.ref aYEAR), .val (.ref aQUARTER), .val (.int (1 : Int32))] [(.ref aQUARTER), (.ref aYEAR)])) rfl (by rw [hml]; rfl) (Steps.refl _) (argsL := [(.ref aQUARTER)]) (rest := []) (lenOf pd_Lcom_example_periodmark_periodmark_Grain___Z rfl) rfl (by show 2 * 0 + _ ≤ _; exact Nat.le_of_eq rfl) (hb hby at_42) (fun _ _ => ⟨rfl, K54, (by decide : 0 + 0 ≤ _), (by decide : 0 + 0 ≤ _)⟩)
      dsimp only [Pt.U, Pt.locs, Pt.cells, Pt.slots] at X55 l55 y55 z55 st55 hQ55
      subst l55 y55 z55
      obtain ⟨rfl, Nq55, K55⟩ := hQ55
      have N55 := Fr.app N54 Nq55
      refine own_go (fun _ k => st55.trans k) ?_
      show OwnGo p e below _ (T55.setTop (mkF m 45 #[.val (.int p1), .val (.int p2), .val (.int (2 : Int32)), .val (.int (1 : Int32)), .val (.ref aYEAR), .val (.ref aQUARTER), .val (.int (1 : Int32))] [(.int (1 : Int32))]))
      refine own_go (fun _ k => XS.iload X55.here hx rfl (hb hby at_45) rfl k) ?_
      show OwnGo p e below _ (T55.setTop (mkF m 47 #[.val (.int p1), .val (.int p2), .val (.int (2 : Int32)), .val (.int (1 : Int32)), .val (.ref aYEAR), .val (.ref aQUARTER), .val (.int (1 : Int32))] [(.int (1 : Int32)), (.int (1 : Int32))]))
      refine own_go (fun _ k => XS.icmpNo X55.here hx rfl (hb hby at_47) rfl (by decide) k) ?_
      show OwnGo p e below _ (T55.setTop (mkF m 50 #[.val (.int p1), .val (.int p2), .val (.int (2 : Int32)), .val (.int (1 : Int32)), .val (.ref aYEAR), .val (.ref aQUARTER), .val (.int (1 : Int32))] []))
      refine own_go (fun _ k => XS.iconst X55.here hx rfl (hb hby at_50) k) ?_
      show OwnGo p e below _ (T55.setTop (mkF m 51 #[.val (.int p1), .val (.int p2), .val (.int (2 : Int32)), .val (.int (1 : Int32)), .val (.ref aYEAR), .val (.ref aQUARTER), .val (.int (1 : Int32))] [(.int (1 : Int32))]))
      refine own_go (fun _ k => XS.goto X55.here hx rfl (pc0 := 51) (pc' := 55) rfl (hb hby at_51) (by decide) (by decide) k) ?_
      show OwnGo p e below _ (T55.setTop (mkF m 55 #[.val (.int p1), .val (.int p2), .val (.int (2 : Int32)), .val (.int (1 : Int32)), .val (.ref aYEAR), .val (.ref aQUARTER), .val (.int (1 : Int32))] [(.int (1 : Int32))]))
      obtain ⟨fs, hr, hrun, hended, hW, hsame⟩ := X55.leave (v := some (.int (1 : Int32))) (fun h => by rw [Bd.returns] at h; cases h)
      refine ⟨_, _, retOut X55 hx Bd.returns rfl (Or.inl ⟨rfl, Or.inr (Or.inl rfl), _, rfl⟩) (hb hby at_55) hr, hrun, hended, _, _, rfl, ?_, ⟨_, rfl⟩, hW, hsame.mono (by decide) (by decide)⟩
      show Q_law Z aMONTH aYEAR aQUARTER p1 p2 h0 n0 _ T55.heap _
      rw [K55]
      exact ⟨rfl, N55⟩
    · rw [hv49]
      show OwnGo p e below _ (s₁.setTop (mkF m 13 #[.val (.int p1), .val (.int p2), .val (.int (2 : Int32)), .unset, .unset, .unset, .unset] [(.int (2 : Int32))]))
      refine own_go (fun _ k => XS.istoreN X0.here hx rfl (hb hby at_13) rfl (l' := #[.val (.int p1), .val (.int p2), .val (.int (2 : Int32)), .val (.int (2 : Int32)), .unset, .unset, .unset]) rfl k) ?_
      show OwnGo p e below _ (s₁.setTop (mkF m 14 #[.val (.int p1), .val (.int p2), .val (.int (2 : Int32)), .val (.int (2 : Int32)), .unset, .unset, .unset] []))
      refine own_go (fun _ k => XS.iloadN X0.here hx rfl (hb hby at_14) rfl k) ?_
      show OwnGo p e below _ (s₁.setTop (mkF m 15 #[.val (.int p1), .val (.int p2), .val (.int (2 : Int32)), .val (.int (2 : Int32)), .unset, .unset, .unset] [(.int (2 : Int32))]))
      obtain ⟨_, _, ⟨T56, L56, k56, n56⟩, -, X56, ⟨Lc56, hQ56, l56, y56, z56⟩, st56⟩ := Jvm.LawKit.callS X0 hx (y := (⟨"com/example/periodmark/periodmark/GrainEnclosesPinLaw", "pick", "(I)Lcom/example/periodmark/periodmark/Grain;"⟩ : MethodName)) hown (mvT hZ (hw _ (List.mem_of_getElem? (i := 1) rfl))) (mvT hZ (hw _ (List.mem_of_getElem? (i := 2) rfl))) (mvT hZ (hw _ (List.mem_of_getElem? (i := 3) rfl))) (mvT hZ (hw _ (List.mem_of_getElem? (i := 4) rfl))) (by decide) (backOf (W := 0) (rm_pick2 l Z a0 hw [] aMONTH aYEAR aQUARTER F0 h0 n0 O0) hZ (hw _ (List.mem_of_getElem? (i := 4) rfl)) (hw _ (List.mem_of_getElem? (i := 3) rfl)) (by decide) (by decide)) (g := (mkF m 15 #[.val (.int p1), .val (.int p2), .val (.int (2 : Int32)), .val (.int (2 : Int32)), .unset, .unset, .unset] [(.int (2 : Int32))])) rfl (by rw [hml]; rfl) (argsL := [(.int (2 : Int32))]) (rest := []) (lenOf pd_I__Lcom_example_periodmark_periodmark_Grain_ rfl) rfl (by show 2 * 0 + _ ≤ _; exact Nat.le_of_eq rfl) (hb hby at_15) (fun _ _ => ⟨rfl, e0, (by decide : 0 + 0 ≤ _), (by decide : 0 + 0 ≤ _)⟩)
      dsimp only [Pt.U, Pt.locs, Pt.cells, Pt.slots] at X56 l56 y56 z56 st56 hQ56
      subst l56 y56 z56
      obtain ⟨rfl, Nq56, K56⟩ := hQ56
      have N56 := Fr.app N0 Nq56
      refine own_go st56 ?_
      show OwnGo p e below _ (T56.setTop (mkF m 18 #[.val (.int p1), .val (.int p2), .val (.int (2 : Int32)), .val (.int (2 : Int32)), .unset, .unset, .unset] [(.ref aYEAR)]))
      refine own_go (fun _ k => XS.astore X56.here hx rfl (hb hby at_18) rfl rfl (l' := #[.val (.int p1), .val (.int p2), .val (.int (2 : Int32)), .val (.int (2 : Int32)), .val (.ref aYEAR), .unset, .unset]) rfl k) ?_
      show OwnGo p e below _ (T56.setTop (mkF m 20 #[.val (.int p1), .val (.int p2), .val (.int (2 : Int32)), .val (.int (2 : Int32)), .val (.ref aYEAR), .unset, .unset] []))
      refine own_go (fun _ k => XS.iloadN X56.here hx rfl (hb hby at_20) rfl k) ?_
      show OwnGo p e below _ (T56.setTop (mkF m 21 #[.val (.int p1), .val (.int p2), .val (.int (2 : Int32)), .val (.int (2 : Int32)), .val (.ref aYEAR), .unset, .unset] [(.int (2 : Int32))]))
      obtain ⟨_, _, ⟨T57, L57, k57, n57⟩, -, X57, ⟨Lc57, hQ57, l57, y57, z57⟩, st57⟩ := Jvm.LawKit.callS X56 hx (y := (⟨"com/example/periodmark/periodmark/GrainEnclosesPinLaw", "pick", "(I)Lcom/example/periodmark/periodmark/Grain;"⟩ : MethodName)) hown (mvT hZ (hw _ (List.mem_of_getElem? (i := 1) rfl))) (mvT hZ (hw _ (List.mem_of_getElem? (i := 2) rfl))) (mvT hZ (hw _ (List.mem_of_getElem? (i := 3) rfl))) (mvT hZ (hw _ (List.mem_of_getElem? (i := 4) rfl))) (by decide) (backOf (W := 0) (rm_pick2 l Z a0 hw [] aMONTH aYEAR aQUARTER F0 h0 n0 O0) hZ (hw _ (List.mem_of_getElem? (i := 4) rfl)) (hw _ (List.mem_of_getElem? (i := 3) rfl)) (by decide) (by decide)) (g := (mkF m 21 #[.val (.int p1), .val (.int p2), .val (.int (2 : Int32)), .val (.int (2 : Int32)), .val (.ref aYEAR), .unset, .unset] [(.int (2 : Int32))])) rfl (by rw [hml]; rfl) (argsL := [(.int (2 : Int32))]) (rest := []) (lenOf pd_I__Lcom_example_periodmark_periodmark_Grain_ rfl) rfl (by show 2 * 0 + _ ≤ _; exact Nat.le_of_eq rfl) (hb hby at_21) (fun _ _ => ⟨rfl, K56, (by decide : 0 + 0 ≤ _), (by decide : 0 + 0 ≤ _)⟩)
      dsimp only [Pt.U, Pt.locs, Pt.cells, Pt.slots] at X57 l57 y57 z57 st57 hQ57
      subst l57 y57 z57
      obtain ⟨rfl, Nq57, K57⟩ := hQ57
      have N57 := Fr.app N56 Nq57
      refine own_go st57 ?_
      show OwnGo p e below _ (T57.setTop (mkF m 24 #[.val (.int p1), .val (.int p2), .val (.int (2 : Int32)), .val (.int (2 : Int32)), .val (.ref aYEAR), .unset, .unset] [(.ref aYEAR)]))
      refine own_go (fun _ k => XS.astore X57.here hx rfl (hb hby at_24) rfl rfl (l' := #[.val (.int p1), .val (.int p2), .val (.int (2 : Int32)), .val (.int (2 : Int32)), .val (.ref aYEAR), .val (.ref aYEAR), .unset]) rfl k) ?_
      show OwnGo p e below _ (T57.setTop (mkF m 26 #[.val (.int p1), .val (.int p2), .val (.int (2 : Int32)), .val (.int (2 : Int32)), .val (.ref aYEAR), .val (.ref aYEAR), .unset] []))
      refine own_go (fun _ k => XS.iloadN X57.here hx rfl (hb hby at_26) rfl k) ?_
      show OwnGo p e below _ (T57.setTop (mkF m 27 #[.val (.int p1), .val (.int p2), .val (.int (2 : Int32)), .val (.int (2 : Int32)), .val (.ref aYEAR), .val (.ref aYEAR), .unset] [(.int (2 : Int32))]))
      refine own_go (fun _ k => XS.iloadN X57.here hx rfl (hb hby at_27) rfl k) ?_
      show OwnGo p e below _ (T57.setTop (mkF m 28 #[.val (.int p1), .val (.int p2), .val (.int (2 : Int32)), .val (.int (2 : Int32)), .val (.ref aYEAR), .val (.ref aYEAR), .unset] [(.int (2 : Int32)), (.int (2 : Int32))]))
      refine own_go (fun _ k => XS.icmpYes X57.here hx rfl (pc0 := 28) (pc' := 35) rfl (hb hby at_28) rfl (by decide) (by decide) (by decide) k) ?_
      show OwnGo p e below _ (T57.setTop (mkF m 35 #[.val (.int p1), .val (.int p2), .val (.int (2 : Int32)), .val (.int (2 : Int32)), .val (.ref aYEAR), .val (.ref aYEAR), .unset] []))
      refine own_go (fun _ k => XS.iconst X57.here hx rfl (hb hby at_35) k) ?_
      show OwnGo p e below _ (T57.setTop (mkF m 36 #[.val (.int p1), .val (.int p2), .val (.int (2 : Int32)), .val (.int (2 : Int32)), .val (.ref aYEAR), .val (.ref aYEAR), .unset] [(.int (0 : Int32))]))
      refine own_go (fun _ k => XS.istore X57.here hx rfl (hb hby at_36) rfl (l' := #[.val (.int p1), .val (.int p2), .val (.int (2 : Int32)), .val (.int (2 : Int32)), .val (.ref aYEAR), .val (.ref aYEAR), .val (.int (0 : Int32))]) rfl k) ?_
      show OwnGo p e below _ (T57.setTop (mkF m 38 #[.val (.int p1), .val (.int p2), .val (.int (2 : Int32)), .val (.int (2 : Int32)), .val (.ref aYEAR), .val (.ref aYEAR), .val (.int (0 : Int32))] []))
      refine own_go (fun _ k => XS.aload X57.here hx rfl (hb hby at_38) rfl rfl k) ?_
      show OwnGo p e below _ (T57.setTop (mkF m 40 #[.val (.int p1), .val (.int p2), .val (.int (2 : Int32)), .val (.int (2 : Int32)), .val (.ref aYEAR), .val (.ref aYEAR), .val (.int (0 : Int32))] [(.ref aYEAR)]))
      refine own_go (fun _ k => XS.aload X57.here hx rfl (hb hby at_40) rfl rfl k) ?_
      show OwnGo p e below _ (T57.setTop (mkF m 42 #[.val (.int p1), .val (.int p2), .val (.int (2 : Int32)), .val (.int (2 : Int32)), .val (.ref aYEAR), .val (.ref aYEAR), .val (.int (0 : Int32))] [(.ref aYEAR), (.ref aYEAR)]))
      obtain ⟨cq58, kq58, qa58, qb58, qc58⟩ := isOf hZ K57 (F0.2.2.2.2.1.ext O0.2)
      obtain ⟨_, _, ⟨T58, L58, k58, n58⟩, -, X58, ⟨Lc58, hQ58, l58, y58, z58⟩, st58⟩ := X57.virtualBack hx (y := (⟨"com/example/periodmark/periodmark/Grain", "encloses", "(Lcom/example/periodmark/periodmark/Grain;)Z"⟩ : MethodName)) (z := (⟨"com/example/periodmark/periodmark/Grain", "encloses", "(Lcom/example/periodmark/periodmark/Grain;)Z"⟩ : MethodName)) hown (mvT hZ (hw _ (List.mem_of_getElem? (i := 8) rfl))) (mvT hZ (hw _ (List.mem_of_getElem? (i := 9) rfl))) (notFace_of_selects (args := #[]) (mvT hZ (hw _ (List.mem_of_getElem? (i := 19) rfl)))) (mvT hZ (hw _ (List.mem_of_getElem? (i := 19) rfl))) (mvT hZ (hw _ (List.mem_of_getElem? (i := 10) rfl))) (by decide) (backOf (W := 0) (rm_enc22 l Z a0 hw [] aMONTH aYEAR aQUARTER F0 h0 n0 O0) hZ (hw _ (List.mem_of_getElem? (i := 12) rfl)) (hw _ (List.mem_of_getElem? (i := 6) rfl)) (by decide) (by decide)) qa58 qc58 (g := (mkF m 42 #[.val (.int p1), .val (.int p2), .val (.int (2 : Int32)), .val (.int (2 : Int32)), .val (.ref aYEAR), .val (.ref aYEAR), .val (.int (0 : Int32))] [(.ref aYEAR), (.ref aYEAR)])) rfl (by rw [hml]; rfl) (Steps.refl _) (argsL := [(.ref aYEAR)]) (rest := []) (lenOf pd_Lcom_example_periodmark_periodmark_Grain___Z rfl) rfl (by show 2 * 0 + _ ≤ _; exact Nat.le_of_eq rfl) (hb hby at_42) (fun _ _ => ⟨rfl, K57, (by decide : 0 + 0 ≤ _), (by decide : 0 + 0 ≤ _)⟩)
      dsimp only [Pt.U, Pt.locs, Pt.cells, Pt.slots] at X58 l58 y58 z58 st58 hQ58
      subst l58 y58 z58
      obtain ⟨rfl, Nq58, K58⟩ := hQ58
      have N58 := Fr.app N57 Nq58
      refine own_go (fun _ k => st58.trans k) ?_
      show OwnGo p e below _ (T58.setTop (mkF m 45 #[.val (.int p1), .val (.int p2), .val (.int (2 : Int32)), .val (.int (2 : Int32)), .val (.ref aYEAR), .val (.ref aYEAR), .val (.int (0 : Int32))] [(.int (0 : Int32))]))
      refine own_go (fun _ k => XS.iload X58.here hx rfl (hb hby at_45) rfl k) ?_
      show OwnGo p e below _ (T58.setTop (mkF m 47 #[.val (.int p1), .val (.int p2), .val (.int (2 : Int32)), .val (.int (2 : Int32)), .val (.ref aYEAR), .val (.ref aYEAR), .val (.int (0 : Int32))] [(.int (0 : Int32)), (.int (0 : Int32))]))
      refine own_go (fun _ k => XS.icmpNo X58.here hx rfl (hb hby at_47) rfl (by decide) k) ?_
      show OwnGo p e below _ (T58.setTop (mkF m 50 #[.val (.int p1), .val (.int p2), .val (.int (2 : Int32)), .val (.int (2 : Int32)), .val (.ref aYEAR), .val (.ref aYEAR), .val (.int (0 : Int32))] []))
      refine own_go (fun _ k => XS.iconst X58.here hx rfl (hb hby at_50) k) ?_
      show OwnGo p e below _ (T58.setTop (mkF m 51 #[.val (.int p1), .val (.int p2), .val (.int (2 : Int32)), .val (.int (2 : Int32)), .val (.ref aYEAR), .val (.ref aYEAR), .val (.int (0 : Int32))] [(.int (1 : Int32))]))
      refine own_go (fun _ k => XS.goto X58.here hx rfl (pc0 := 51) (pc' := 55) rfl (hb hby at_51) (by decide) (by decide) k) ?_
      show OwnGo p e below _ (T58.setTop (mkF m 55 #[.val (.int p1), .val (.int p2), .val (.int (2 : Int32)), .val (.int (2 : Int32)), .val (.ref aYEAR), .val (.ref aYEAR), .val (.int (0 : Int32))] [(.int (1 : Int32))]))
      obtain ⟨fs, hr, hrun, hended, hW, hsame⟩ := X58.leave (v := some (.int (1 : Int32))) (fun h => by rw [Bd.returns] at h; cases h)
      refine ⟨_, _, retOut X58 hx Bd.returns rfl (Or.inl ⟨rfl, Or.inr (Or.inl rfl), _, rfl⟩) (hb hby at_55) hr, hrun, hended, _, _, rfl, ?_, ⟨_, rfl⟩, hW, hsame.mono (by decide) (by decide)⟩
      show Q_law Z aMONTH aYEAR aQUARTER p1 p2 h0 n0 _ T58.heap _
      rw [K58]
      exact ⟨rfl, N58⟩
set_option maxRecDepth 65536 in
set_option maxHeartbeats 40000000 in
theorem comes_1 {Post : Tables → Env → Array Value → State → Outcome → State → Prop} (hpost : ∀ tb e args s v u, (limb_1_1.after args s (.returned v) u = true ∧ limb_1_2.after args s (.returned v) u = true ∧ True) → FrameEnd s (.returned v) u (Jvm.fieldLocs frame_1_writes args s ++ Jvm.arrayLocs frame_1_arrays args s ++ Jvm.staticLocs frame_1_statics s) 0 0 → Post tb e args s (.returned v) u) :
    ArmFor flags0 classFile x code maxLocals ret World_1 tables_1 room_1 Calls_1 rest_1 Pre_1 Post := by
  intro l hfl _ _ p e ha hc hk s m args below hf hA hF happ hP
  obtain ⟨hcalls, hrest, hpre⟩ := hP
  obtain ⟨-, -, -, hnamed, -, -, -, hat⟩ := (Spec.applies_iff hf).mp happ
  obtain ⟨hg, hn0⟩ := and_e (Cond.before_iff.mp (show (Jvm.Cond.and given_1 narrow_1).before args s = true from hpre))
  obtain ⟨h1, g0⟩ := and_e hg
  obtain ⟨t0, g1⟩ := and_e g0
  obtain ⟨w0, w1, rfl⟩ : ∃ w0 w1 : Value, args = #[w0, w1] := by
    have hs : args.size = 2 := by simpa [Cond.value, given_1] using h1
    obtain ⟨L⟩ := args
    match L, hs with
    | [w0, w1], _ => exact ⟨w0, w1, rfl⟩
  have hw := fun d (hd : d ∈ tables_1) => atoms_spec (ws := Jvm.Cond.code x code maxLocals ret :: tables_1) hat d (List.mem_cons_of_mem _ hd)
  have hfit : Fit s := fun {y c} hc i hi => by
    obtain ⟨ha, rfl⟩ := Array.getElem?_eq_some_iff.mp hc
    have q := List.all_eq_true.mp ((Array.all_eq_true_iff_forall_mem.mp hF) _ (Array.getElem_mem ha)) i (List.mem_range.mpr hi)
    simpa [Array.getElem?_eq_getElem hi] using q
  obtain ⟨i0, ev0⟩ := is_v t0
  obtain rfl : w0 = (.int i0) := Option.some.inj ev0
  obtain ⟨i1, ev1⟩ := is_v g1
  obtain rfl : w1 = (.int i1) := Option.some.inj ev1
  obtain ⟨c0, hn1⟩ := and_e hn0
  obtain ⟨aMONTH, ev_aMONTH⟩ := exa_v c0
  obtain ⟨c1, hn2⟩ := and_e hn1
  obtain ⟨c2, hn3⟩ := and_e hn2
  obtain ⟨aYEAR, ev_aYEAR⟩ := exa_v c2
  obtain ⟨c3, hn4⟩ := and_e hn3
  obtain ⟨aQUARTER, ev_aQUARTER⟩ := exa_v c3
  obtain ⟨c4, hn5⟩ := and_e hn4
  have F0 : OwnFacts s aMONTH aYEAR aQUARTER := ⟨(Sta.start ev_aMONTH (Or.inr ⟨(hw _ (List.mem_of_getElem? (i := 6) rfl)), (hw _ (List.mem_of_getElem? (i := 7) rfl))⟩)), (Exa.start ev_aMONTH c0), (own_fldI ev_aMONTH c1), (Sta.start ev_aYEAR (Or.inr ⟨(hw _ (List.mem_of_getElem? (i := 6) rfl)), (hw _ (List.mem_of_getElem? (i := 16) rfl))⟩)), (Exa.start ev_aYEAR c2), (Sta.start ev_aQUARTER (Or.inr ⟨(hw _ (List.mem_of_getElem? (i := 6) rfl)), (hw _ (List.mem_of_getElem? (i := 18) rfl))⟩)), (Exa.start ev_aQUARTER c3), (own_fldI ev_aYEAR c4), (own_fldI ev_aQUARTER hn5)⟩
  obtain ⟨n, o, h1, h2, h3, _, L, rfl, ⟨rfl, N⟩, hq⟩ := rm_law l s _ hw tables_1 aMONTH aYEAR aQUARTER F0 i0 i1 s.heap s.heap.size (Old.start s) p e ha hc hk s m _ below hf ((Spec.applies_iff_loose hf).mp happ).1 ⟨rfl, State.Warmed39.refl s, rfl⟩ trivial
  refine ⟨n, _, h1, h2, h3, hpost _ _ _ _ _ _ ⟨Cond.after_iff.mpr rfl, Cond.after_iff.mpr (eq_i res_at (Term.int_eval (1)) rfl), trivial⟩ ⟨hq.1, hq.2.1, (hq.2.2.sift fun y hy => Or.inr (N y hy)).mono (by decide) (by decide)⟩⟩
theorem main_1_1 : Claimed_1_1 := comes_1 fun _ _ _ _ _ _ h hF => ⟨h.1, hF⟩
theorem main_1_2 : Claimed_1_2 := comes_1 fun _ _ _ _ _ _ h hF => ⟨h.2.1, hF⟩
end Jvm.Pilot.@@N@@
namespace Jvm.Pilot.@@N@@
open Jvm Jvm.ClassFile Sem Op Lib Jvm.Free Jvm.Stand Jvm.Pilot.@@N@@.Jvm.D
/-! MADE BY PROGRAM (witnessworld.py) out of the Statement's table words and the real class files: 16 classes; the members and pool entries that the words name. The judged class is class 1, her method 2. -/
namespace start1
open Jvm.ClassFile
def u (s : String) : CpInfo := .utf8 (stringToUtf16 s)
/-- a pool by its gaps: so many unusable entries, then the entry; so many at the end -/
def gap : Nat → List CpInfo → List CpInfo
  | 0, r => r
  | n + 1, r => .unusable :: gap n r
def poolList (es : List (Nat × CpInfo)) (last : Nat) : List CpInfo := es.foldr (fun e r => gap e.1 (e.2 :: r)) (gap last [])
def pool (es : List (Nat × CpInfo)) (last : Nat) : Array CpInfo := ⟨poolList es last⟩
def fileOf (pool : Array CpInfo) (this : Nat) (attrs : Array Attribute := #[]) (ms : Array MethodInfo := #[]) (fl : Nat := 33) (sup : Nat := 0) (ifs : Array Nat := #[]) (fds : Array FieldInfo := #[]) : ClassFile where
  minorVersion := 0
  majorVersion := 65
  constantPool := pool
  accessFlags := fl
  thisClass := this
  superClass := sup
  interfaces := ifs
  fields := fds
  methods := ms
  attributes := attrs
def plain (name : String) (sup : Option ClassId) : Class where
  name := name
  kind := .ordinary
  loader := none
  accessFlags := 33
  super := sup
  interfaces := #[]
  cf := none
  fields := #[]
  methods := #[]
  instanceTypes := #[]
  staticTypes := #[]
  resolved := #[]
  callSites := []
  init := .initialized
  statics := none
  mirror := none

def pool0 : Array CpInfo := pool [(5, u "<init>"), (0, u "()V"), (1, .class_ 10), (1, u "java/lang/Object")] 113

def k0m0 : Method := { name := "<init>", desc := "()V", sig := { parameters := [], returnType := none }, accessFlags := 1, code := none }
/-- java/lang/Object -/
def k0 : Class := { plain "java/lang/Object" none with
  accessFlags := 33
  interfaces := #[]
  cf := some (fileOf pool0 8 #[] #[{ accessFlags := 1, nameIndex := 5, descriptorIndex := 6, attributes := #[] }] 33 0 #[] #[])
  fields := #[]
  methods := #[k0m0]
  instanceTypes := #[]
  staticTypes := #[]
  resolved := Array.replicate 124 none
  statics := none }

def pool1 : Array CpInfo := pool [(2, .class_ 4), (1, u "java/lang/Object"), (0, u "<init>"), (0, u "()V"), (0, .fieldref 8 9), (0, .class_ 10), (0, .nameAndType 11 12), (0, u "com/example/periodmark/periodmark/Grain"), (0, u "MONTH"), (0, u "Lcom/example/periodmark/periodmark/Grain;"), (0, .fieldref 8 14), (0, .nameAndType 15 12), (0, u "QUARTER"), (0, .fieldref 8 17), (0, .nameAndType 18 12), (0, u "YEAR"), (0, .integer 2147483647), (0, .methodref 21 22), (0, .class_ 23), (0, .nameAndType 24 25), (0, u "com/example/periodmark/periodmark/GrainEnclosesPinLaw"), (0, u "pick"), (0, u "(I)Lcom/example/periodmark/periodmark/Grain;"), (0, .methodref 8 27), (0, .nameAndType 28 29), (0, u "encloses"), (0, u "(Lcom/example/periodmark/periodmark/Grain;)Z"), (3, u "law"), (0, u "(II)Z")] 2

def k1m0 : Method := { name := "<init>", desc := "()V", sig := { parameters := [], returnType := none }, accessFlags := 1, code := none }
def k1c1 : Code := { maxStack := 2, maxLocals := 1, code := method_2_code, exceptionTable := #[], attributes := #[] }
def k1m1 : Method := { name := "pick", desc := "(I)Lcom/example/periodmark/periodmark/Grain;", sig := { parameters := [.int], returnType := some (.object "com/example/periodmark/periodmark/Grain") }, accessFlags := 10, code := some k1c1 }
def k1c2 : Code := { maxStack := 2, maxLocals := 7, code := code, exceptionTable := #[], attributes := #[] }
def k1m2 : Method := { name := "law", desc := "(II)Z", sig := { parameters := [.int, .int], returnType := some .boolean }, accessFlags := 9, code := some k1c2 }
/-- com/example/periodmark/periodmark/GrainEnclosesPinLaw -/
def k1 : Class := { plain "com/example/periodmark/periodmark/GrainEnclosesPinLaw" (some 0) with
  accessFlags := 49
  interfaces := #[]
  cf := some (fileOf pool1 21 #[] #[{ accessFlags := 1, nameIndex := 5, descriptorIndex := 6, attributes := #[] }, { accessFlags := 10, nameIndex := 24, descriptorIndex := 25, attributes := #[] }, { accessFlags := 9, nameIndex := 33, descriptorIndex := 34, attributes := #[] }] 49 2 #[] #[])
  fields := #[]
  methods := #[k1m0, k1m1, k1m2]
  instanceTypes := #[]
  staticTypes := #[]
  resolved := Array.replicate 37 none
  statics := none }

def pool2 : Array CpInfo := pool [(1, .class_ 2), (0, u "java/lang/constant/Constable"), (0, .class_ 4), (0, u "java/lang/Object")] 6

/-- java/lang/constant/Constable -/
def k2 : Class := { plain "java/lang/constant/Constable" (some 0) with
  accessFlags := 1537
  interfaces := #[]
  cf := some (fileOf pool2 1 #[] #[] 1537 3 #[] #[])
  fields := #[]
  methods := #[]
  instanceTypes := #[]
  staticTypes := #[]
  resolved := Array.replicate 11 none
  statics := none }

def pool3 : Array CpInfo := pool [(1, .class_ 2), (0, u "java/lang/Comparable"), (0, .class_ 4), (0, u "java/lang/Object")] 7

/-- java/lang/Comparable -/
def k3 : Class := { plain "java/lang/Comparable" (some 0) with
  accessFlags := 1537
  interfaces := #[]
  cf := some (fileOf pool3 1 #[] #[] 1537 3 #[] #[])
  fields := #[]
  methods := #[]
  instanceTypes := #[]
  staticTypes := #[]
  resolved := Array.replicate 12 none
  statics := none }

def pool4 : Array CpInfo := pool [(1, .class_ 2), (0, u "java/io/Serializable"), (0, .class_ 4), (0, u "java/lang/Object")] 2

/-- java/io/Serializable -/
def k4 : Class := { plain "java/io/Serializable" (some 0) with
  accessFlags := 1537
  interfaces := #[]
  cf := some (fileOf pool4 1 #[] #[] 1537 3 #[] #[])
  fields := #[]
  methods := #[]
  instanceTypes := #[]
  staticTypes := #[]
  resolved := Array.replicate 7 none
  statics := none }

def pool5 : Array CpInfo := pool [(2, .class_ 4), (1, u "java/lang/Enum"), (0, u "name"), (0, u "Ljava/lang/String;"), (2, u "ordinal"), (0, u "I"), (1, .class_ 14), (1, u "java/lang/Object"), (4, u "hash"), (86, .class_ 108), (1, u "java/lang/Enum$EnumDesc"), (2, .class_ 112), (0, u "java/lang/constant/Constable"), (0, .class_ 114), (0, u "java/lang/Comparable"), (0, .class_ 116), (0, u "java/io/Serializable")] 87

/-- java/lang/Enum -/
def k5 : Class := { plain "java/lang/Enum" (some 0) with
  accessFlags := 1057
  interfaces := #[2, 3, 4]
  cf := some (fileOf pool5 2 #[.nestMembers #[106]] #[] 1057 12 #[111, 113, 115] #[{ accessFlags := 18, nameIndex := 5, descriptorIndex := 6, attributes := #[] }, { accessFlags := 18, nameIndex := 9, descriptorIndex := 10, attributes := #[] }, { accessFlags := 2, nameIndex := 19, descriptorIndex := 10, attributes := #[] }])
  fields := #[{ name := "name", type := (.object "java/lang/String"), accessFlags := 18, slot := 0, constantValue := 0 }, { name := "ordinal", type := .int, accessFlags := 18, slot := 1, constantValue := 0 }, { name := "hash", type := .int, accessFlags := 2, slot := 2, constantValue := 0 }]
  methods := #[]
  instanceTypes := #[(.object "java/lang/String"), .int, .int]
  staticTypes := #[]
  resolved := Array.replicate 204 none
  statics := none }

def pool6 : Array CpInfo := pool [(12, .class_ 14), (1, u "com/example/periodmark/periodmark/Labelled"), (35, .class_ 51), (0, u "java/lang/Object")] 13

/-- com/example/periodmark/periodmark/Labelled -/
def k6 : Class := { plain "com/example/periodmark/periodmark/Labelled" (some 0) with
  accessFlags := 1536
  interfaces := #[]
  cf := some (fileOf pool6 12 #[] #[] 1536 50 #[] #[])
  fields := #[]
  methods := #[]
  instanceTypes := #[]
  staticTypes := #[]
  resolved := Array.replicate 65 none
  statics := none }

def pool7 : Array CpInfo := pool [(1, .class_ 2), (0, u "com/example/periodmark/periodmark/Grain"), (2, u "MONTH"), (0, u "Lcom/example/periodmark/periodmark/Grain;"), (2, u "QUARTER"), (2, u "YEAR"), (2, u "$VALUES"), (0, u "[Lcom/example/periodmark/periodmark/Grain;"), (6, .class_ 25), (1, u "java/lang/Enum"), (8, u "label"), (0, u "Ljava/lang/String;"), (0, .fieldref 1 37), (0, .nameAndType 38 39), (0, u "months"), (0, u "I"), (13, .class_ 55), (1, u "com/example/periodmark/periodmark/Labelled"), (46, .class_ 103), (0, u "com/example/periodmark/periodmark/Grain$1"), (5, .class_ 110), (0, u "com/example/periodmark/periodmark/Grain$2"), (4, .class_ 116), (0, u "com/example/periodmark/periodmark/Grain$3"), (20, u "encloses"), (0, u "(Lcom/example/periodmark/periodmark/Grain;)Z")] 11

def k7c0 : Code := { maxStack := 2, maxLocals := 2, code := prog_9_method_10_code, exceptionTable := #[], attributes := #[] }
def k7m0 : Method := { name := "encloses", desc := "(Lcom/example/periodmark/periodmark/Grain;)Z", sig := { parameters := [(.object "com/example/periodmark/periodmark/Grain")], returnType := some .boolean }, accessFlags := 0, code := some k7c0 }
/-- com/example/periodmark/periodmark/Grain -/
def k7 : Class := { plain "com/example/periodmark/periodmark/Grain" (some 5) with
  accessFlags := 17441
  interfaces := #[6]
  cf := some (fileOf pool7 1 #[.nestMembers #[115, 109, 102]] #[{ accessFlags := 0, nameIndex := 137, descriptorIndex := 138, attributes := #[] }] 17441 23 #[53] #[{ accessFlags := 16409, nameIndex := 5, descriptorIndex := 6, attributes := #[] }, { accessFlags := 16409, nameIndex := 9, descriptorIndex := 6, attributes := #[] }, { accessFlags := 16409, nameIndex := 12, descriptorIndex := 6, attributes := #[] }, { accessFlags := 18, nameIndex := 34, descriptorIndex := 35, attributes := #[] }, { accessFlags := 18, nameIndex := 38, descriptorIndex := 39, attributes := #[] }, { accessFlags := 4122, nameIndex := 15, descriptorIndex := 16, attributes := #[] }])
  fields := #[{ name := "MONTH", type := (.object "com/example/periodmark/periodmark/Grain"), accessFlags := 16409, slot := 0, constantValue := 0 }, { name := "QUARTER", type := (.object "com/example/periodmark/periodmark/Grain"), accessFlags := 16409, slot := 1, constantValue := 0 }, { name := "YEAR", type := (.object "com/example/periodmark/periodmark/Grain"), accessFlags := 16409, slot := 2, constantValue := 0 }, { name := "label", type := (.object "java/lang/String"), accessFlags := 18, slot := 3, constantValue := 0 }, { name := "months", type := .int, accessFlags := 18, slot := 4, constantValue := 0 }, { name := "$VALUES", type := (.array (.object "com/example/periodmark/periodmark/Grain")), accessFlags := 4122, slot := 3, constantValue := 0 }]
  methods := #[k7m0]
  instanceTypes := #[(.object "java/lang/String"), .int, .int, (.object "java/lang/String"), .int]
  staticTypes := #[(.object "com/example/periodmark/periodmark/Grain"), (.object "com/example/periodmark/periodmark/Grain"), (.object "com/example/periodmark/periodmark/Grain"), (.array (.object "com/example/periodmark/periodmark/Grain"))]
  resolved := Array.replicate 150 none
  statics := some 0 }

def pool8 : Array CpInfo := pool [(2, .class_ 4), (1, u "com/example/periodmark/periodmark/Grain"), (27, .class_ 33), (0, u "com/example/periodmark/periodmark/Grain$1")] 10

/-- com/example/periodmark/periodmark/Grain$1 -/
def k8 : Class := { plain "com/example/periodmark/periodmark/Grain$1" (some 7) with
  accessFlags := 16432
  interfaces := #[]
  cf := some (fileOf pool8 32 #[.nestHost 2] #[] 16432 2 #[] #[])
  fields := #[]
  methods := #[]
  instanceTypes := #[(.object "java/lang/String"), .int, .int, (.object "java/lang/String"), .int]
  staticTypes := #[]
  resolved := Array.replicate 44 none
  statics := none }

def pool9 : Array CpInfo := pool [(2, .class_ 4), (1, u "com/example/periodmark/periodmark/Grain"), (8, .class_ 14), (0, u "com/example/periodmark/periodmark/Grain$3")] 10

/-- com/example/periodmark/periodmark/Grain$3 -/
def k9 : Class := { plain "com/example/periodmark/periodmark/Grain$3" (some 7) with
  accessFlags := 16432
  interfaces := #[]
  cf := some (fileOf pool9 13 #[.nestHost 2] #[] 16432 2 #[] #[])
  fields := #[]
  methods := #[]
  instanceTypes := #[(.object "java/lang/String"), .int, .int, (.object "java/lang/String"), .int]
  staticTypes := #[]
  resolved := Array.replicate 25 none
  statics := none }

def pool10 : Array CpInfo := pool [(2, .class_ 4), (1, u "com/example/periodmark/periodmark/Grain"), (16, .class_ 22), (0, u "com/example/periodmark/periodmark/Grain$2")] 24

/-- com/example/periodmark/periodmark/Grain$2 -/
def k10 : Class := { plain "com/example/periodmark/periodmark/Grain$2" (some 7) with
  accessFlags := 16432
  interfaces := #[]
  cf := some (fileOf pool10 21 #[.nestHost 2] #[] 16432 2 #[] #[])
  fields := #[]
  methods := #[]
  instanceTypes := #[(.object "java/lang/String"), .int, .int, (.object "java/lang/String"), .int]
  staticTypes := #[]
  resolved := Array.replicate 47 none
  statics := none }

def pool11 : Array CpInfo := pool [(1, u "java/lang/Cloneable"), (0, .class_ 1), (0, u "java/lang/Object"), (0, .class_ 3)] 3

/-- java/lang/Cloneable -/
def k11 : Class := { plain "java/lang/Cloneable" (some 0) with
  accessFlags := 1537
  interfaces := #[]
  cf := some (fileOf pool11 2 #[] #[] 1537 4 #[] #[])
  fields := #[]
  methods := #[]
  instanceTypes := #[]
  staticTypes := #[]
  resolved := Array.replicate 8 none
  statics := none }

/-- the primitive byte -/
def k12 : Class := { plain "byte" none with kind := .primitive 'B', accessFlags := 0x411 }
/-- [B -/
def k13 : Class := { plain "[B" (some 0) with kind := .array 12 .byte, interfaces := #[11, 4], accessFlags := 1041 }

/-- the primitive int -/
def k14 : Class := { plain "int" none with kind := .primitive 'I', accessFlags := 0x411 }
/-- [I -/
def k15 : Class := { plain "[I" (some 0) with kind := .array 14 .int, interfaces := #[11, 4], accessFlags := 1041 }

def heap : Heap := #[{ cls := 7, slots := #[.ref 1, .ref 3, .ref 2, .null], vm := .statics 7 },
  { cls := 8, slots := #[.null, .int 0, .int 0, .null, .int 1], vm := .none },
  { cls := 9, slots := #[.null, .int 0, .int 0, .null, .int 12], vm := .none },
  { cls := 10, slots := #[.null, .int 0, .int 0, .null, .int 3], vm := .none }]
def classes : Array Class := #[k0, k1, k2, k3, k4, k5, k6, k7, k8, k9, k10, k11, k12, k13, k14, k15]
def interned : List (Array UInt16 × Addr) := []
def slotsUsed : Nat := 19
def theMethod : MethodId := ⟨1, 2⟩
def args0 : Array Value := #[.int 5, .int 7]
def aboutOver (below : List Frame) : State where
  vm := { classes := classes, interned := interned.toArray }
  heap := heap
  slotsUsed := slotsUsed
  threads := #[{ frames := .invoking theMethod args0 :: below }]
def below0 : List Frame := [.native { method := ⟨0, 0⟩, args := #[] }]
def about1 : State := aboutOver below0
def p0 : Program := .bare "" "" ""
def e0 : Env := launch0.env 0 0 0
theorem w_frames : about1.frames = Frame.invoking theMethod args0 :: below0 := rfl
set_option maxRecDepth 65536 in
theorem w_args : argsFit about1.vm theMethod args0 = true := by decide +kernel
set_option maxRecDepth 65536 in
theorem w_heap : heapFits about1 = true := by decide +kernel
set_option maxRecDepth 65536 in
theorem w_runnable : about1.curStatus? = some .runnable := by decide +kernel
set_option maxRecDepth 65536 in
theorem w_alone : about1.alone = true := by decide +kernel
set_option maxRecDepth 65536 in
theorem w_named : about1.methodNamed? x = some theMethod := by decide +kernel
set_option maxRecDepth 65536 in
theorem w_hears : about1.hears theMethod below0 = true := by decide +kernel
set_option maxRecDepth 65536 in
theorem w_ripe : about1.ripe theMethod args0 below0 = true := by decide +kernel
theorem w_running : about1.status = .running := rfl
set_option maxRecDepth 65536 in
theorem w_room : about1.hasRoom e0.platform room_1 = true :=
  launch0.hasRoom_least _ room_1 (by decide +kernel) (by decide +kernel) (by decide +kernel) (by decide +kernel) (by decide +kernel) (by decide +kernel)
theorem allAtoms_all (ts : List Jvm.Cond) (a : Array Jvm.Value) (st : Jvm.State) : (allAtoms ts).before a st = ts.all (fun c => c.before a st) := by
  induction ts with
  | nil => rfl
  | cons c t ih =>
    show (Jvm.Cond.and c (allAtoms t)).before a st = _
    rw [Jvm.Cond.before_and, ih, List.all_cons]
def words1 : List Jvm.Cond := Jvm.Cond.code x code maxLocals ret :: tables_1
/-- a 'code' word, met by the world's own term for the bytes: nothing is compared byte by byte -/
theorem code_word {y : MethodName} {bytes : ByteArray} {mx : Nat} {rt : Option FieldType} {a : Array Value} {s : State} {m : MethodId} {meth : Method} {c : Code} (h1 : s.methodNamed? y = some m) (h2 : s.vm.method? m = some meth) (h3 : meth.code = some c) (h4 : c.code = bytes)
    (h5 : (c.maxLocals == mx && c.exceptionTable.isEmpty && decide (c.maxStack ≤ mostOperands) && decide (meth.sig.returnType = rt) && !meth.locks && decide (parseMethodDescriptor y.desc = some meth.sig)) = true) : (Jvm.Cond.code y bytes mx rt).before a s = true := by
  simp only [Bool.and_eq_true, beq_iff_eq, Bool.not_eq_true', decide_eq_true_eq] at h5
  obtain ⟨⟨⟨⟨⟨g1, g2⟩, g3⟩, g4⟩, g5⟩, g6⟩ := h5
  simp [Cond.before, Cond.holds, Cond.value, h1, h2, h3, h4, g1, g2, g3, g4, g5, g6]
def isCode : Jvm.Cond → Bool
  | .code _ _ _ _ => true
  | _ => false
theorem all_split {L : List Jvm.Cond} {P : Jvm.Cond → Bool} (h1 : L.all (fun c => isCode c || P c) = true) (h2 : ∀ c ∈ L.filter isCode, P c = true) : L.all P = true := by
  refine List.all_eq_true.mpr fun c hc => ?_
  have h := List.all_eq_true.mp h1 c hc
  rcases Bool.eq_false_or_eq_true (isCode c) with hi | hi
  · exact h2 c (List.mem_filter.mpr ⟨hc, hi⟩)
  · simpa [hi] using h
set_option maxRecDepth 65536 in
theorem w_c0 : (Jvm.Cond.code x code maxLocals ret).before args0 about1 = true := code_word (m := ⟨1, 2⟩) (meth := k1m2) (c := k1c2) (by decide +kernel) rfl rfl rfl (by decide +kernel)
set_option maxRecDepth 65536 in
theorem w_c1 : (Jvm.Cond.code ({ cls := "com/example/periodmark/periodmark/GrainEnclosesPinLaw", name := "pick", desc := "(I)Lcom/example/periodmark/periodmark/Grain;" } : Jvm.MethodName) method_2_code (1 : Nat) (Option.some (Jvm.ClassFile.FieldType.object "com/example/periodmark/periodmark/Grain"))).before args0 about1 = true := code_word (m := ⟨1, 1⟩) (meth := k1m1) (c := k1c1) (by decide +kernel) rfl rfl rfl (by decide +kernel)
set_option maxRecDepth 65536 in
theorem w_c2 : (Jvm.Cond.code ({ cls := "com/example/periodmark/periodmark/Grain", name := "encloses", desc := "(Lcom/example/periodmark/periodmark/Grain;)Z" } : Jvm.MethodName) prog_9_method_10_code (2 : Nat) (Option.some Jvm.ClassFile.FieldType.boolean)).before args0 about1 = true := code_word (m := ⟨7, 0⟩) (meth := k7m0) (c := k7c0) (by decide +kernel) rfl rfl rfl (by decide +kernel)
def codes1 : List Jvm.Cond := [Jvm.Cond.code x code maxLocals ret, Jvm.Cond.code ({ cls := "com/example/periodmark/periodmark/GrainEnclosesPinLaw", name := "pick", desc := "(I)Lcom/example/periodmark/periodmark/Grain;" } : Jvm.MethodName) method_2_code (1 : Nat) (Option.some (Jvm.ClassFile.FieldType.object "com/example/periodmark/periodmark/Grain")), Jvm.Cond.code ({ cls := "com/example/periodmark/periodmark/Grain", name := "encloses", desc := "(Lcom/example/periodmark/periodmark/Grain;)Z" } : Jvm.MethodName) prog_9_method_10_code (2 : Nat) (Option.some Jvm.ClassFile.FieldType.boolean)]
set_option maxRecDepth 65536 in
theorem codes_eq : words1.filter isCode = codes1 := rfl
theorem w_codes : ∀ c ∈ words1.filter isCode, c.before args0 about1 = true := by
  rw [codes_eq]
  intro c hc
  simp only [codes1, List.mem_cons, List.not_mem_nil, or_false] at hc
  rcases hc with rfl | rfl | rfl
  · exact w_c0
  · exact w_c1
  · exact w_c2
set_option maxRecDepth 65536 in
theorem w_t1 : words1.all (fun c => isCode c || c.before args0 about1) = true := by decide +kernel
theorem w_tables : (allAtoms (Jvm.Cond.code x code maxLocals ret :: tables_1)).before args0 about1 = true := by
  rw [allAtoms_all]
  show words1.all (fun c => c.before args0 about1) = true
  refine all_split ?_ w_codes
  rw [w_t1]
set_option maxRecDepth 65536 in
theorem w_case : (Jvm.Cond.and given_1 narrow_1).before args0 about1 = true := by decide +kernel
theorem w_applies : (headSpec (Jvm.Cond.code x code maxLocals ret :: tables_1) room_1).applies x e0.platform about1 = true :=
  (Spec.applies_iff w_frames).mpr ⟨w_running, w_runnable, w_alone, w_named, w_hears, w_ripe, w_room, w_tables⟩
theorem atStart : AtStart classFile x code maxLocals ret World_1 tables_1 room_1 Calls_1 rest_1 Pre_1 launch0 p0 e0 about1 theMethod args0 below0 :=
  ⟨lists_1, trivial, launch0.admits_env _ _ _, launch0.least_env, fairChoices_fair.cas, fairChoices_fair.clock, w_frames, w_args, w_heap, w_applies, trivial, trivial, w_case⟩
end start1
theorem witness_1 : WitnessClaimed_1 := ⟨start1.p0, start1.e0, start1.about1, start1.theMethod, start1.args0, start1.below0, start1.atStart⟩
end Jvm.Pilot.@@N@@

import JvmDerived
import JvmDerived.Pilot.@@N@@Statement
import JvmDerived.Pilot.@@N@@Code
set_option linter.unusedVariables false
set_option linter.unusedSimpArgs false
@@BLOCK:NumsL.lean.txt@@
namespace Jvm.Pilot.@@N@@
open Jvm Jvm.ClassFile Sem Op Lib Jvm.Free Jvm.Stand Jvm.LawKit Jvm.RoadKit Bundle Jvm.Pilot.@@N@@.Jvm.D
/-- from the state A the body's walk comes to an end of which Q tells -/
def OwnGo (p : Program) (e : Env) (below : List Frame) (Q : Outcome → State → Prop) (A : State) : Prop :=
  ∃ s₂ o, Steps p.tables e below A s₂ ∧ s₂.status = .running ∧ Ended s₂ below o ∧ Q o s₂
theorem own_go {p : Program} {e : Env} {below : List Frame} {Q : Outcome → State → Prop} {A B : State} (st : ∀ t, Steps p.tables e below B t → Steps p.tables e below A t) (h : OwnGo p e below Q B) : OwnGo p e below Q A := by
  obtain ⟨s₂, o, h1, h2⟩ := h
  exact ⟨s₂, o, st _ h1, h2⟩
theorem own_fldI {args : Array Value} {s : State} {t : Term} {C n d : String} {k : Int32} {a : Addr} (ev : t.eval args s none [] s = some (.ref a)) (h : (Jvm.Cond.eq (Term.field t C n d) (Term.int k)).value args s none s [] = some true) : Fld s s.heap a C n d (.int k) := by
  apply Fld.start
  have q := fld_at (C := C) (n := n) (dd := d) ev
  cases hf : s.fieldOf? a C n d with
  | none => rw [hf] at q; simp [Cond.value, q] at h
  | some v => rw [hf] at q; cases v <;> simp [Cond.value, q, Term.int_eval] at h; rw [h]
theorem own_fldL {args : Array Value} {s : State} {t : Term} {C n d : String} {k : Int64} {a : Addr} (ev : t.eval args s none [] s = some (.ref a)) (h : (Jvm.Cond.eq (Term.field t C n d) (Term.long k)).value args s none s [] = some true) : Fld s s.heap a C n d (.long k) := by
  apply Fld.start
  have q := fld_at (C := C) (n := n) (dd := d) ev
  cases hf : s.fieldOf? a C n d with
  | none => rw [hf] at q; simp [Cond.value, q] at h
  | some v => rw [hf] at q; cases v <;> simp [Cond.value, q, long_at] at h; rw [h]
theorem own_refne {a b : Addr} (h : a ≠ b) : decide (Value.ref a = Value.ref b) = false := decide_eq_false fun q => h (Value.ref.inj q)
theorem own_refeq (a : Addr) : decide (Value.ref a = Value.ref a) = true := decide_eq_true rfl
theorem own_rn (a : Addr) : decide (Value.ref a = Value.null) = false := decide_eq_false fun q => by cases q
theorem own_nr (a : Addr) : decide (Value.null = Value.ref a) = false := decide_eq_false fun q => by cases q
theorem own_narb (x : Int32) : nar .byte (x.toInt8.toInt32) = x.toInt8.toInt32 := by simp [nar]
theorem own_selp {Z s : State} {a0 args : Array Value} {y : MethodName} {n : Nat} (hZ : Z.Warmed39 s.vm) (wi : (Jvm.Cond.instantiable y.cls n).before a0 Z = true) (wp : (Jvm.Cond.privateMethod y).before a0 Z = true) (wm : (Jvm.Cond.instanceMethod y).before a0 Z = true)
    (hy : y.cls ≠ "java/lang/invoke/MethodHandle" ∧ y.cls ≠ "java/lang/invoke/VarHandle") : (Jvm.Cond.selects y.cls y y).before args s = true := by
  obtain ⟨c, k, h1, h2, -, h4, -⟩ := Cond.instantiable_spec (mv hZ wi : (Jvm.Cond.instantiable y.cls n).before args s = true)
  exact selects_self_of_private h1 h2 (by revert h4; cases k.isInterface <;> simp) (Cond.privateMethod_at (mvP hZ wp (args := args))) (mv hZ wm) hy
theorem own_monoW {s : State} {o : Outcome} {t : State} {L : List Loc} {k n k' n' : Nat} (h : ReturnedEndW s o t L k n) (hk : k ≤ k') (hn : n ≤ n') : ReturnedEndW s o t L k' n' := ⟨h.1, h.2.1, h.2.2.1, h.2.2.2.mono hk hn⟩
theorem own_newlt {a b k : Nat} (q : a < k) (g : k ≤ b) : a ≠ b := Nat.ne_of_lt (Nat.lt_of_lt_of_le q g)
theorem own_sz {Z : State} {n0 : Nat} {h : Heap} (O : Old Z n0 h) : n0 ≤ h.size := O.1 ▸ O.2.1
theorem own_newne {a b : Addr} {h : Heap} (g : b = h.size) (q : a < h.size) : a ≠ b := fun z => by rw [z, g] at q; exact Nat.lt_irrefl _ q
def OwnFacts (Z : State) (aFUTURE aACTIVE aCLOSED : Addr) : Prop := (Sta Z Z.heap "com/example/cadenza/cadenza/core/SprintState" "FUTURE" "Lcom/example/cadenza/cadenza/core/SprintState;" (.ref aFUTURE)) ∧ (Exa Z Z.heap aFUTURE "com/example/cadenza/cadenza/core/SprintState") ∧ (Fld Z Z.heap aFUTURE "java/lang/Enum" "ordinal" "I" (.int (0 : Int32))) ∧ (Sta Z Z.heap "com/example/cadenza/cadenza/core/SprintState" "ACTIVE" "Lcom/example/cadenza/cadenza/core/SprintState;" (.ref aACTIVE)) ∧ (Exa Z Z.heap aACTIVE "com/example/cadenza/cadenza/core/SprintState") ∧ (Sta Z Z.heap "com/example/cadenza/cadenza/core/SprintState" "CLOSED" "Lcom/example/cadenza/cadenza/core/SprintState;" (.ref aCLOSED)) ∧ (Exa Z Z.heap aCLOSED "com/example/cadenza/cadenza/core/SprintState") ∧ (Fld Z Z.heap aCLOSED "java/lang/Enum" "ordinal" "I" (.int (2 : Int32))) ∧ (Fld Z Z.heap aACTIVE "java/lang/Enum" "ordinal" "I" (.int (1 : Int32)))
theorem own_mod3 (x : Int32) : (x &&& (2147483647 : Int32)) % (3 : Int32) = (0 : Int32) ∨ (x &&& (2147483647 : Int32)) % (3 : Int32) = (1 : Int32) ∨ (x &&& (2147483647 : Int32)) % (3 : Int32) = (2 : Int32) := by
  have e1 : (x &&& (2147483647 : Int32)).toInt = x.toInt % 2 ^ 31 := Jvm.Kit.i32_mask x _ (k := 31) (by decide) (by decide)
  have e2 : ((x &&& (2147483647 : Int32)) % (3 : Int32)).toInt = (x &&& (2147483647 : Int32)).toInt % (3 : Int32).toInt := Jvm.Kit.i32_rem_nonneg (by omega)
  have e3 : (3 : Int32).toInt = 3 := by decide
  rw [e3] at e2
  have c : ((x &&& (2147483647 : Int32)) % (3 : Int32)).toInt = 0 ∨ ((x &&& (2147483647 : Int32)) % (3 : Int32)).toInt = 1 ∨ ((x &&& (2147483647 : Int32)) % (3 : Int32)).toInt = 2 := by omega
  rcases c with c | c | c
  · exact (Or.inl (Int32.toInt_inj.mp (c.trans (by decide))))
  · exact Or.inr ((Or.inl (Int32.toInt_inj.mp (c.trans (by decide)))))
  · exact Or.inr (Or.inr (((Int32.toInt_inj.mp (c.trans (by decide))))))
theorem own_mod4 (x : Int32) : (x &&& (2147483647 : Int32)) % (4 : Int32) = (0 : Int32) ∨ (x &&& (2147483647 : Int32)) % (4 : Int32) = (1 : Int32) ∨ (x &&& (2147483647 : Int32)) % (4 : Int32) = (2 : Int32) ∨ (x &&& (2147483647 : Int32)) % (4 : Int32) = (3 : Int32) := by
  have e1 : (x &&& (2147483647 : Int32)).toInt = x.toInt % 2 ^ 31 := Jvm.Kit.i32_mask x _ (k := 31) (by decide) (by decide)
  have e2 : ((x &&& (2147483647 : Int32)) % (4 : Int32)).toInt = (x &&& (2147483647 : Int32)).toInt % (4 : Int32).toInt := Jvm.Kit.i32_rem_nonneg (by omega)
  have e3 : (4 : Int32).toInt = 4 := by decide
  rw [e3] at e2
  have c : ((x &&& (2147483647 : Int32)) % (4 : Int32)).toInt = 0 ∨ ((x &&& (2147483647 : Int32)) % (4 : Int32)).toInt = 1 ∨ ((x &&& (2147483647 : Int32)) % (4 : Int32)).toInt = 2 ∨ ((x &&& (2147483647 : Int32)) % (4 : Int32)).toInt = 3 := by omega
  rcases c with c | c | c | c
  · exact (Or.inl (Int32.toInt_inj.mp (c.trans (by decide))))
  · exact Or.inr ((Or.inl (Int32.toInt_inj.mp (c.trans (by decide)))))
  · exact Or.inr (Or.inr ((Or.inl (Int32.toInt_inj.mp (c.trans (by decide))))))
  · exact Or.inr (Or.inr (Or.inr (((Int32.toInt_inj.mp (c.trans (by decide)))))))
theorem d_method_2_0 : decode method_2_code 0 = .ok (.iload_n 0, 1) := by decide +kernel
theorem d_method_2_1 : decode method_2_code 1 = .ok (.ifCond .ne 7, 3) := by decide +kernel
theorem d_method_2_4 : decode method_2_code 4 = .ok (.getstatic 7, 3) := by decide +kernel
theorem d_method_2_7 : decode method_2_code 7 = .ok (.areturn, 1) := by decide +kernel
theorem pn_com_example_cadenza_cadenza_core_SprintStateLeadsToPinLaw : plainName "com/example/cadenza/cadenza/core/SprintStateLeadsToPinLaw" = true := by first | (simp [plainName, overriddenIn]; done) | decide +kernel
def Q_state0 (Z : State) (aFUTURE aACTIVE aCLOSED : Addr) (h0 : Heap) (n0 : Nat) (v : Option Value) (h : Heap) (L : List Loc) : Prop := v = some ((.ref aFUTURE)) ∧ Fr n0 L ∧ h = h0
theorem ef_state0 (m : MethodId) (x0 : Int32) : entryFrame m #[(.int x0)] 1 = mkF m 0 #[.val (.int x0)] [] := by first | (simp [entryFrame, mkF, argsToLocals, Value.category]; done) | rfl
set_option maxRecDepth 65536 in
set_option maxHeartbeats 40000000 in
theorem rm_state0 (l : Launch) (Z : State) (a0 : Array Value) (hw : ∀ d ∈ tables_1, d.before a0 Z = true) (ws : List Jvm.Cond) (aFUTURE aACTIVE aCLOSED : Addr) (F0 : OwnFacts Z aFUTURE aACTIVE aCLOSED) (h0 : Heap) (n0 : Nat) (O0 : Old Z n0 h0) :
    MetFree l (⟨"com/example/cadenza/cadenza/core/SprintStateLeadsToPinLaw", "state", "(I)Lcom/example/cadenza/cadenza/core/SprintState;"⟩ : MethodName) (head1 (Jvm.Cond.code (⟨"com/example/cadenza/cadenza/core/SprintStateLeadsToPinLaw", "state", "(I)Lcom/example/cadenza/cadenza/core/SprintState;"⟩ : MethodName) method_2_code 1 (some (.object "com/example/cadenza/cadenza/core/SprintState")) :: ws) ({ frames := 0, cells := 0, slots := 0, locals := 0 } : Room)) (fun a U => a = #[(.int (0 : Int32))] ∧ Z.Warmed39 U.vm ∧ U.heap = h0) (fun _ _ _ _ _ => True) (fun _ U o U' => ∃ v L, o = .returned v ∧ Q_state0 Z aFUTURE aACTIVE aCLOSED h0 n0 v U'.heap L ∧ FrameEnd U o U' L ({ frames := 0, cells := 0, slots := 0, locals := 0 } : Room).cells ({ frames := 0, cells := 0, slots := 0, locals := 0 } : Room).slots) := by
  refine MetFree.of_bodySF (plainFor_of_name pn_com_example_cadenza_cadenza_core_SprintStateLeadsToPinLaw) hisR ?_
  intro p e s m args below meth c s₁ Bd hml0 hP hK
  obtain ⟨rfl, hZ, hh⟩ := hP
  have hx := Bd.exec
  have hby := Bd.bytes
  have hml : c.maxLocals = 1 := hml0
  have hown : s.vm.findClass "com/example/cadenza/cadenza/core/SprintStateLeadsToPinLaw" = some m.cls := findClass_of_methodNamed Bd.named
  have hnm := (name_of_methodNamed Bd.named Bd.method).1
  have X0 : Stand p l e ({ frames := 0, cells := 0, slots := 0, locals := 0 } : Room) s m #[(.int (0 : Int32))] below meth c s₁ [] 0 0 := Stand.of_body Bd
  have e0 : s₁.heap = h0 := by rw [← hh, Bd.state]; rfl
  have N0 := Fr.nil n0
  refine own_go (Q := fun o U' => ∃ v L, o = .returned v ∧ Q_state0 Z aFUTURE aACTIVE aCLOSED h0 n0 v U'.heap L ∧ FrameEnd s o U' L ({ frames := 0, cells := 0, slots := 0, locals := 0 } : Room).cells ({ frames := 0, cells := 0, slots := 0, locals := 0 } : Room).slots) (fun t k => castTop (ef_state0 m (0 : Int32)) k) ?_
  show OwnGo p e below _ (s₁.setTop (mkF m 0 #[.val (.int (0 : Int32))] []))
  refine own_go (fun _ k => XS.iloadN X0.here hx rfl (hb hby d_method_2_0) rfl k) ?_
  show OwnGo p e below _ (s₁.setTop (mkF m 1 #[.val (.int (0 : Int32))] [(.int (0 : Int32))]))
  refine own_go (fun _ k => XS.ifNo X0.here hx rfl (hb hby d_method_2_1) rfl (by decide) k) ?_
  show OwnGo p e below _ (s₁.setTop (mkF m 4 #[.val (.int (0 : Int32))] []))
  obtain ⟨T1, X1, e1, st1⟩ := getS X0 hx hZ hown (host := "") (hw _ (List.mem_of_getElem? (i := 5) rfl)) Via.refl e0 (F0.1.ext O0.2) (g := (mkF m 4 #[.val (.int (0 : Int32))] [])) rfl (hb hby d_method_2_4)
  refine own_go st1 ?_
  show OwnGo p e below _ (T1.setTop (mkF m 7 #[.val (.int (0 : Int32))] [(.ref aFUTURE)]))
  obtain ⟨fs, hr, hrun, hended, hW, hsame⟩ := X1.leave (v := some (.ref aFUTURE)) (fun h => by rw [Bd.returns] at h; cases h)
  refine ⟨_, _, retOut X1 hx Bd.returns rfl (Or.inr (Or.inr (Or.inr (Or.inr ⟨rfl, rfl, rfl⟩)))) (hb hby d_method_2_7) hr, hrun, hended, _, _, rfl, ?_, ⟨_, rfl⟩, hW, hsame.mono (by decide) (by decide)⟩
  show Q_state0 Z aFUTURE aACTIVE aCLOSED h0 n0 _ T1.heap _
  rw [e1]
  exact ⟨rfl, N0, rfl⟩
theorem d_method_2_8 : decode method_2_code 8 = .ok (.iload_n 0, 1) := by decide +kernel
theorem d_method_2_9 : decode method_2_code 9 = .ok (.iconst 1, 1) := by decide +kernel
theorem d_method_2_10 : decode method_2_code 10 = .ok (.if_icmp .ne 7, 3) := by decide +kernel
theorem d_method_2_13 : decode method_2_code 13 = .ok (.getstatic 13, 3) := by decide +kernel
theorem d_method_2_16 : decode method_2_code 16 = .ok (.areturn, 1) := by decide +kernel
def Q_state1 (Z : State) (aFUTURE aACTIVE aCLOSED : Addr) (h0 : Heap) (n0 : Nat) (v : Option Value) (h : Heap) (L : List Loc) : Prop := v = some ((.ref aACTIVE)) ∧ Fr n0 L ∧ h = h0
theorem ef_state1 (m : MethodId) (x0 : Int32) : entryFrame m #[(.int x0)] 1 = mkF m 0 #[.val (.int x0)] [] := by first | (simp [entryFrame, mkF, argsToLocals, Value.category]; done) | rfl
set_option maxRecDepth 65536 in
set_option maxHeartbeats 40000000 in
theorem rm_state1 (l : Launch) (Z : State) (a0 : Array Value) (hw : ∀ d ∈ tables_1, d.before a0 Z = true) (ws : List Jvm.Cond) (aFUTURE aACTIVE aCLOSED : Addr) (F0 : OwnFacts Z aFUTURE aACTIVE aCLOSED) (h0 : Heap) (n0 : Nat) (O0 : Old Z n0 h0) :
    MetFree l (⟨"com/example/cadenza/cadenza/core/SprintStateLeadsToPinLaw", "state", "(I)Lcom/example/cadenza/cadenza/core/SprintState;"⟩ : MethodName) (head1 (Jvm.Cond.code (⟨"com/example/cadenza/cadenza/core/SprintStateLeadsToPinLaw", "state", "(I)Lcom/example/cadenza/cadenza/core/SprintState;"⟩ : MethodName) method_2_code 1 (some (.object "com/example/cadenza/cadenza/core/SprintState")) :: ws) ({ frames := 0, cells := 0, slots := 0, locals := 0 } : Room)) (fun a U => a = #[(.int (1 : Int32))] ∧ Z.Warmed39 U.vm ∧ U.heap = h0) (fun _ _ _ _ _ => True) (fun _ U o U' => ∃ v L, o = .returned v ∧ Q_state1 Z aFUTURE aACTIVE aCLOSED h0 n0 v U'.heap L ∧ FrameEnd U o U' L ({ frames := 0, cells := 0, slots := 0, locals := 0 } : Room).cells ({ frames := 0, cells := 0, slots := 0, locals := 0 } : Room).slots) := by
  refine MetFree.of_bodySF (plainFor_of_name pn_com_example_cadenza_cadenza_core_SprintStateLeadsToPinLaw) hisR ?_
  intro p e s m args below meth c s₁ Bd hml0 hP hK
  obtain ⟨rfl, hZ, hh⟩ := hP
  have hx := Bd.exec
  have hby := Bd.bytes
  have hml : c.maxLocals = 1 := hml0
  have hown : s.vm.findClass "com/example/cadenza/cadenza/core/SprintStateLeadsToPinLaw" = some m.cls := findClass_of_methodNamed Bd.named
  have hnm := (name_of_methodNamed Bd.named Bd.method).1
  have X0 : Stand p l e ({ frames := 0, cells := 0, slots := 0, locals := 0 } : Room) s m #[(.int (1 : Int32))] below meth c s₁ [] 0 0 := Stand.of_body Bd
  have e0 : s₁.heap = h0 := by rw [← hh, Bd.state]; rfl
  have N0 := Fr.nil n0
  refine own_go (Q := fun o U' => ∃ v L, o = .returned v ∧ Q_state1 Z aFUTURE aACTIVE aCLOSED h0 n0 v U'.heap L ∧ FrameEnd s o U' L ({ frames := 0, cells := 0, slots := 0, locals := 0 } : Room).cells ({ frames := 0, cells := 0, slots := 0, locals := 0 } : Room).slots) (fun t k => castTop (ef_state1 m (1 : Int32)) k) ?_
  show OwnGo p e below _ (s₁.setTop (mkF m 0 #[.val (.int (1 : Int32))] []))
  refine own_go (fun _ k => XS.iloadN X0.here hx rfl (hb hby d_method_2_0) rfl k) ?_
  show OwnGo p e below _ (s₁.setTop (mkF m 1 #[.val (.int (1 : Int32))] [(.int (1 : Int32))]))
  refine own_go (fun _ k => XS.ifYes X0.here hx rfl (pc0 := 1) (pc' := 8) rfl (hb hby d_method_2_1) rfl (by decide) (by decide) (by decide) k) ?_
  show OwnGo p e below _ (s₁.setTop (mkF m 8 #[.val (.int (1 : Int32))] []))
  refine own_go (fun _ k => XS.iloadN X0.here hx rfl (hb hby d_method_2_8) rfl k) ?_
  show OwnGo p e below _ (s₁.setTop (mkF m 9 #[.val (.int (1 : Int32))] [(.int (1 : Int32))]))
  refine own_go (fun _ k => XS.iconst X0.here hx rfl (hb hby d_method_2_9) k) ?_
  show OwnGo p e below _ (s₁.setTop (mkF m 10 #[.val (.int (1 : Int32))] [(.int (1 : Int32)), (.int (1 : Int32))]))
  refine own_go (fun _ k => XS.icmpNo X0.here hx rfl (hb hby d_method_2_10) rfl (by decide) k) ?_
  show OwnGo p e below _ (s₁.setTop (mkF m 13 #[.val (.int (1 : Int32))] []))
  obtain ⟨T2, X2, e2, st2⟩ := getS X0 hx hZ hown (host := "") (hw _ (List.mem_of_getElem? (i := 26) rfl)) Via.refl e0 (F0.2.2.2.1.ext O0.2) (g := (mkF m 13 #[.val (.int (1 : Int32))] [])) rfl (hb hby d_method_2_13)
  refine own_go st2 ?_
  show OwnGo p e below _ (T2.setTop (mkF m 16 #[.val (.int (1 : Int32))] [(.ref aACTIVE)]))
  obtain ⟨fs, hr, hrun, hended, hW, hsame⟩ := X2.leave (v := some (.ref aACTIVE)) (fun h => by rw [Bd.returns] at h; cases h)
  refine ⟨_, _, retOut X2 hx Bd.returns rfl (Or.inr (Or.inr (Or.inr (Or.inr ⟨rfl, rfl, rfl⟩)))) (hb hby d_method_2_16) hr, hrun, hended, _, _, rfl, ?_, ⟨_, rfl⟩, hW, hsame.mono (by decide) (by decide)⟩
  show Q_state1 Z aFUTURE aACTIVE aCLOSED h0 n0 _ T2.heap _
  rw [e2]
  exact ⟨rfl, N0, rfl⟩
theorem d_method_2_17 : decode method_2_code 17 = .ok (.iload_n 0, 1) := by decide +kernel
theorem d_method_2_18 : decode method_2_code 18 = .ok (.iconst 2, 1) := by decide +kernel
theorem d_method_2_19 : decode method_2_code 19 = .ok (.if_icmp .ne 7, 3) := by decide +kernel
theorem d_method_2_22 : decode method_2_code 22 = .ok (.getstatic 16, 3) := by decide +kernel
theorem d_method_2_25 : decode method_2_code 25 = .ok (.areturn, 1) := by decide +kernel
def Q_state2 (Z : State) (aFUTURE aACTIVE aCLOSED : Addr) (h0 : Heap) (n0 : Nat) (v : Option Value) (h : Heap) (L : List Loc) : Prop := v = some ((.ref aCLOSED)) ∧ Fr n0 L ∧ h = h0
theorem ef_state2 (m : MethodId) (x0 : Int32) : entryFrame m #[(.int x0)] 1 = mkF m 0 #[.val (.int x0)] [] := by first | (simp [entryFrame, mkF, argsToLocals, Value.category]; done) | rfl
set_option maxRecDepth 65536 in
set_option maxHeartbeats 40000000 in
theorem rm_state2 (l : Launch) (Z : State) (a0 : Array Value) (hw : ∀ d ∈ tables_1, d.before a0 Z = true) (ws : List Jvm.Cond) (aFUTURE aACTIVE aCLOSED : Addr) (F0 : OwnFacts Z aFUTURE aACTIVE aCLOSED) (h0 : Heap) (n0 : Nat) (O0 : Old Z n0 h0) :
    MetFree l (⟨"com/example/cadenza/cadenza/core/SprintStateLeadsToPinLaw", "state", "(I)Lcom/example/cadenza/cadenza/core/SprintState;"⟩ : MethodName) (head1 (Jvm.Cond.code (⟨"com/example/cadenza/cadenza/core/SprintStateLeadsToPinLaw", "state", "(I)Lcom/example/cadenza/cadenza/core/SprintState;"⟩ : MethodName) method_2_code 1 (some (.object "com/example/cadenza/cadenza/core/SprintState")) :: ws) ({ frames := 0, cells := 0, slots := 0, locals := 0 } : Room)) (fun a U => a = #[(.int (2 : Int32))] ∧ Z.Warmed39 U.vm ∧ U.heap = h0) (fun _ _ _ _ _ => True) (fun _ U o U' => ∃ v L, o = .returned v ∧ Q_state2 Z aFUTURE aACTIVE aCLOSED h0 n0 v U'.heap L ∧ FrameEnd U o U' L ({ frames := 0, cells := 0, slots := 0, locals := 0 } : Room).cells ({ frames := 0, cells := 0, slots := 0, locals := 0 } : Room).slots) := by
  refine MetFree.of_bodySF (plainFor_of_name pn_com_example_cadenza_cadenza_core_SprintStateLeadsToPinLaw) hisR ?_
  intro p e s m args below meth c s₁ Bd hml0 hP hK
  obtain ⟨rfl, hZ, hh⟩ := hP
  have hx := Bd.exec
  have hby := Bd.bytes
  have hml : c.maxLocals = 1 := hml0
  have hown : s.vm.findClass "com/example/cadenza/cadenza/core/SprintStateLeadsToPinLaw" = some m.cls := findClass_of_methodNamed Bd.named
  have hnm := (name_of_methodNamed Bd.named Bd.method).1
  have X0 : Stand p l e ({ frames := 0, cells := 0, slots := 0, locals := 0 } : Room) s m #[(.int (2 : Int32))] below meth c s₁ [] 0 0 := Stand.of_body Bd
  have e0 : s₁.heap = h0 := by rw [← hh, Bd.state]; rfl
  have N0 := Fr.nil n0
  refine own_go (Q := fun o U' => ∃ v L, o = .returned v ∧ Q_state2 Z aFUTURE aACTIVE aCLOSED h0 n0 v U'.heap L ∧ FrameEnd s o U' L ({ frames := 0, cells := 0, slots := 0, locals := 0 } : Room).cells ({ frames := 0, cells := 0, slots := 0, locals := 0 } : Room).slots) (fun t k => castTop (ef_state2 m (2 : Int32)) k) ?_
  show OwnGo p e below _ (s₁.setTop (mkF m 0 #[.val (.int (2 : Int32))] []))
  refine own_go (fun _ k => XS.iloadN X0.here hx rfl (hb hby d_method_2_0) rfl k) ?_
  show OwnGo p e below _ (s₁.setTop (mkF m 1 #[.val (.int (2 : Int32))] [(.int (2 : Int32))]))
  refine own_go (fun _ k => XS.ifYes X0.here hx rfl (pc0 := 1) (pc' := 8) rfl (hb hby d_method_2_1) rfl (by decide) (by decide) (by decide) k) ?_
  show OwnGo p e below _ (s₁.setTop (mkF m 8 #[.val (.int (2 : Int32))] []))
  refine own_go (fun _ k => XS.iloadN X0.here hx rfl (hb hby d_method_2_8) rfl k) ?_
  show OwnGo p e below _ (s₁.setTop (mkF m 9 #[.val (.int (2 : Int32))] [(.int (2 : Int32))]))
  refine own_go (fun _ k => XS.iconst X0.here hx rfl (hb hby d_method_2_9) k) ?_
  show OwnGo p e below _ (s₁.setTop (mkF m 10 #[.val (.int (2 : Int32))] [(.int (1 : Int32)), (.int (2 : Int32))]))
  refine own_go (fun _ k => XS.icmpYes X0.here hx rfl (pc0 := 10) (pc' := 17) rfl (hb hby d_method_2_10) rfl (by decide) (by decide) (by decide) k) ?_
  show OwnGo p e below _ (s₁.setTop (mkF m 17 #[.val (.int (2 : Int32))] []))
  refine own_go (fun _ k => XS.iloadN X0.here hx rfl (hb hby d_method_2_17) rfl k) ?_
  show OwnGo p e below _ (s₁.setTop (mkF m 18 #[.val (.int (2 : Int32))] [(.int (2 : Int32))]))
  refine own_go (fun _ k => XS.iconst X0.here hx rfl (hb hby d_method_2_18) k) ?_
  show OwnGo p e below _ (s₁.setTop (mkF m 19 #[.val (.int (2 : Int32))] [(.int (2 : Int32)), (.int (2 : Int32))]))
  refine own_go (fun _ k => XS.icmpNo X0.here hx rfl (hb hby d_method_2_19) rfl (by decide) k) ?_
  show OwnGo p e below _ (s₁.setTop (mkF m 22 #[.val (.int (2 : Int32))] []))
  obtain ⟨T3, X3, e3, st3⟩ := getS X0 hx hZ hown (host := "") (hw _ (List.mem_of_getElem? (i := 24) rfl)) Via.refl e0 (F0.2.2.2.2.2.1.ext O0.2) (g := (mkF m 22 #[.val (.int (2 : Int32))] [])) rfl (hb hby d_method_2_22)
  refine own_go st3 ?_
  show OwnGo p e below _ (T3.setTop (mkF m 25 #[.val (.int (2 : Int32))] [(.ref aCLOSED)]))
  obtain ⟨fs, hr, hrun, hended, hW, hsame⟩ := X3.leave (v := some (.ref aCLOSED)) (fun h => by rw [Bd.returns] at h; cases h)
  refine ⟨_, _, retOut X3 hx Bd.returns rfl (Or.inr (Or.inr (Or.inr (Or.inr ⟨rfl, rfl, rfl⟩)))) (hb hby d_method_2_25) hr, hrun, hended, _, _, rfl, ?_, ⟨_, rfl⟩, hW, hsame.mono (by decide) (by decide)⟩
  show Q_state2 Z aFUTURE aACTIVE aCLOSED h0 n0 _ T3.heap _
  rw [e3]
  exact ⟨rfl, N0, rfl⟩
theorem d_method_2_26 : decode method_2_code 26 = .ok (.aconst_null, 1) := by decide +kernel
theorem d_method_2_27 : decode method_2_code 27 = .ok (.areturn, 1) := by decide +kernel
def Q_state3 (Z : State) (aFUTURE aACTIVE aCLOSED : Addr) (h0 : Heap) (n0 : Nat) (v : Option Value) (h : Heap) (L : List Loc) : Prop := v = some (.null) ∧ Fr n0 L ∧ h = h0
theorem ef_state3 (m : MethodId) (x0 : Int32) : entryFrame m #[(.int x0)] 1 = mkF m 0 #[.val (.int x0)] [] := by first | (simp [entryFrame, mkF, argsToLocals, Value.category]; done) | rfl
set_option maxRecDepth 65536 in
set_option maxHeartbeats 40000000 in
theorem rm_state3 (l : Launch) (Z : State) (a0 : Array Value) (hw : ∀ d ∈ tables_1, d.before a0 Z = true) (ws : List Jvm.Cond) (aFUTURE aACTIVE aCLOSED : Addr) (F0 : OwnFacts Z aFUTURE aACTIVE aCLOSED) (h0 : Heap) (n0 : Nat) (O0 : Old Z n0 h0) :
    MetFree l (⟨"com/example/cadenza/cadenza/core/SprintStateLeadsToPinLaw", "state", "(I)Lcom/example/cadenza/cadenza/core/SprintState;"⟩ : MethodName) (head1 (Jvm.Cond.code (⟨"com/example/cadenza/cadenza/core/SprintStateLeadsToPinLaw", "state", "(I)Lcom/example/cadenza/cadenza/core/SprintState;"⟩ : MethodName) method_2_code 1 (some (.object "com/example/cadenza/cadenza/core/SprintState")) :: ws) ({ frames := 0, cells := 0, slots := 0, locals := 0 } : Room)) (fun a U => a = #[(.int (3 : Int32))] ∧ Z.Warmed39 U.vm ∧ U.heap = h0) (fun _ _ _ _ _ => True) (fun _ U o U' => ∃ v L, o = .returned v ∧ Q_state3 Z aFUTURE aACTIVE aCLOSED h0 n0 v U'.heap L ∧ FrameEnd U o U' L ({ frames := 0, cells := 0, slots := 0, locals := 0 } : Room).cells ({ frames := 0, cells := 0, slots := 0, locals := 0 } : Room).slots) := by
  refine MetFree.of_bodySF (plainFor_of_name pn_com_example_cadenza_cadenza_core_SprintStateLeadsToPinLaw) hisR ?_
  intro p e s m args below meth c s₁ Bd hml0 hP hK
  obtain ⟨rfl, hZ, hh⟩ := hP
  have hx := Bd.exec
  have hby := Bd.bytes
  have hml : c.maxLocals = 1 := hml0
  have hown : s.vm.findClass "com/example/cadenza/cadenza/core/SprintStateLeadsToPinLaw" = some m.cls := findClass_of_methodNamed Bd.named
  have hnm := (name_of_methodNamed Bd.named Bd.method).1
  have X0 : Stand p l e ({ frames := 0, cells := 0, slots := 0, locals := 0 } : Room) s m #[(.int (3 : Int32))] below meth c s₁ [] 0 0 := Stand.of_body Bd
  have e0 : s₁.heap = h0 := by rw [← hh, Bd.state]; rfl
  have N0 := Fr.nil n0
  refine own_go (Q := fun o U' => ∃ v L, o = .returned v ∧ Q_state3 Z aFUTURE aACTIVE aCLOSED h0 n0 v U'.heap L ∧ FrameEnd s o U' L ({ frames := 0, cells := 0, slots := 0, locals := 0 } : Room).cells ({ frames := 0, cells := 0, slots := 0, locals := 0 } : Room).slots) (fun t k => castTop (ef_state3 m (3 : Int32)) k) ?_
  show OwnGo p e below _ (s₁.setTop (mkF m 0 #[.val (.int (3 : Int32))] []))
  refine own_go (fun _ k => XS.iloadN X0.here hx rfl (hb hby d_method_2_0) rfl k) ?_
  show OwnGo p e below _ (s₁.setTop (mkF m 1 #[.val (.int (3 : Int32))] [(.int (3 : Int32))]))
  refine own_go (fun _ k => XS.ifYes X0.here hx rfl (pc0 := 1) (pc' := 8) rfl (hb hby d_method_2_1) rfl (by decide) (by decide) (by decide) k) ?_
  show OwnGo p e below _ (s₁.setTop (mkF m 8 #[.val (.int (3 : Int32))] []))
  refine own_go (fun _ k => XS.iloadN X0.here hx rfl (hb hby d_method_2_8) rfl k) ?_
  show OwnGo p e below _ (s₁.setTop (mkF m 9 #[.val (.int (3 : Int32))] [(.int (3 : Int32))]))
  refine own_go (fun _ k => XS.iconst X0.here hx rfl (hb hby d_method_2_9) k) ?_
  show OwnGo p e below _ (s₁.setTop (mkF m 10 #[.val (.int (3 : Int32))] [(.int (1 : Int32)), (.int (3 : Int32))]))
  refine own_go (fun _ k => XS.icmpYes X0.here hx rfl (pc0 := 10) (pc' := 17) rfl (hb hby d_method_2_10) rfl (by decide) (by decide) (by decide) k) ?_
  show OwnGo p e below _ (s₁.setTop (mkF m 17 #[.val (.int (3 : Int32))] []))
  refine own_go (fun _ k => XS.iloadN X0.here hx rfl (hb hby d_method_2_17) rfl k) ?_
  show OwnGo p e below _ (s₁.setTop (mkF m 18 #[.val (.int (3 : Int32))] [(.int (3 : Int32))]))
  refine own_go (fun _ k => XS.iconst X0.here hx rfl (hb hby d_method_2_18) k) ?_
  show OwnGo p e below _ (s₁.setTop (mkF m 19 #[.val (.int (3 : Int32))] [(.int (2 : Int32)), (.int (3 : Int32))]))
  refine own_go (fun _ k => XS.icmpYes X0.here hx rfl (pc0 := 19) (pc' := 26) rfl (hb hby d_method_2_19) rfl (by decide) (by decide) (by decide) k) ?_
  show OwnGo p e below _ (s₁.setTop (mkF m 26 #[.val (.int (3 : Int32))] []))
  refine own_go (fun _ k => XS.aconstNull X0.here hx rfl (hb hby d_method_2_26) k) ?_
  show OwnGo p e below _ (s₁.setTop (mkF m 27 #[.val (.int (3 : Int32))] [.null]))
  obtain ⟨fs, hr, hrun, hended, hW, hsame⟩ := X0.leave (v := some .null) (fun h => by rw [Bd.returns] at h; cases h)
  refine ⟨_, _, retOut X0 hx Bd.returns rfl (Or.inr (Or.inr (Or.inr (Or.inr ⟨rfl, rfl, rfl⟩)))) (hb hby d_method_2_27) hr, hrun, hended, _, _, rfl, ?_, ⟨_, rfl⟩, hW, hsame.mono (by decide) (by decide)⟩
  show Q_state3 Z aFUTURE aACTIVE aCLOSED h0 n0 _ s₁.heap _
  rw [e0]
  exact ⟨rfl, N0, rfl⟩
theorem d_jdk_37_method_2_0 : decode jdk_37_method_2_code 0 = .ok (.aload_n 0, 1) := by decide +kernel
theorem d_jdk_37_method_2_1 : decode jdk_37_method_2_code 1 = .ok (.getfield 7, 3) := by decide +kernel
theorem d_jdk_37_method_2_4 : decode jdk_37_method_2_code 4 = .ok (.ireturn, 1) := by decide +kernel
theorem pn_java_lang_Enum : plainName "java/lang/Enum" = true := by first | (simp [plainName, overriddenIn]; done) | decide +kernel
def Q_ord0 (Z : State) (aFUTURE aACTIVE aCLOSED : Addr) (h0 : Heap) (n0 : Nat) (v : Option Value) (h : Heap) (L : List Loc) : Prop := v = some (.int (0 : Int32)) ∧ Fr n0 L ∧ h = h0
theorem ef_ord0 (m : MethodId) (x0 : Addr) : entryFrame m #[(.ref x0)] 1 = mkF m 0 #[.val (.ref x0)] [] := by first | (simp [entryFrame, mkF, argsToLocals, Value.category]; done) | rfl
set_option maxRecDepth 65536 in
set_option maxHeartbeats 40000000 in
theorem rm_ord0 (l : Launch) (Z : State) (a0 : Array Value) (hw : ∀ d ∈ tables_1, d.before a0 Z = true) (ws : List Jvm.Cond) (aFUTURE aACTIVE aCLOSED : Addr) (F0 : OwnFacts Z aFUTURE aACTIVE aCLOSED) (h0 : Heap) (n0 : Nat) (O0 : Old Z n0 h0) :
    MetFree l (⟨"java/lang/Enum", "ordinal", "()I"⟩ : MethodName) (head1 (Jvm.Cond.code (⟨"java/lang/Enum", "ordinal", "()I"⟩ : MethodName) jdk_37_method_2_code 1 (some .int) :: ws) ({ frames := 0, cells := 0, slots := 0, locals := 0 } : Room)) (fun a U => a = #[(.ref aFUTURE)] ∧ Z.Warmed39 U.vm ∧ U.heap = h0) (fun _ _ _ _ _ => True) (fun _ U o U' => ∃ v L, o = .returned v ∧ Q_ord0 Z aFUTURE aACTIVE aCLOSED h0 n0 v U'.heap L ∧ FrameEnd U o U' L ({ frames := 0, cells := 0, slots := 0, locals := 0 } : Room).cells ({ frames := 0, cells := 0, slots := 0, locals := 0 } : Room).slots) := by
  refine MetFree.of_bodySF (plainFor_of_name pn_java_lang_Enum) hisR ?_
  intro p e s m args below meth c s₁ Bd hml0 hP hK
  obtain ⟨rfl, hZ, hh⟩ := hP
  have hx := Bd.exec
  have hby := Bd.bytes
  have hml : c.maxLocals = 1 := hml0
  have hown : s.vm.findClass "java/lang/Enum" = some m.cls := findClass_of_methodNamed Bd.named
  have hnm := (name_of_methodNamed Bd.named Bd.method).1
  have X0 : Stand p l e ({ frames := 0, cells := 0, slots := 0, locals := 0 } : Room) s m #[(.ref aFUTURE)] below meth c s₁ [] 0 0 := Stand.of_body Bd
  have e0 : s₁.heap = h0 := by rw [← hh, Bd.state]; rfl
  have N0 := Fr.nil n0
  refine own_go (Q := fun o U' => ∃ v L, o = .returned v ∧ Q_ord0 Z aFUTURE aACTIVE aCLOSED h0 n0 v U'.heap L ∧ FrameEnd s o U' L ({ frames := 0, cells := 0, slots := 0, locals := 0 } : Room).cells ({ frames := 0, cells := 0, slots := 0, locals := 0 } : Room).slots) (fun t k => castTop (ef_ord0 m aFUTURE) k) ?_
  show OwnGo p e below _ (s₁.setTop (mkF m 0 #[.val (.ref aFUTURE)] []))
  refine own_go (fun _ k => XS.aloadN X0.here hx rfl (hb hby d_jdk_37_method_2_0) rfl rfl k) ?_
  show OwnGo p e below _ (s₁.setTop (mkF m 1 #[.val (.ref aFUTURE)] [(.ref aFUTURE)]))
  obtain ⟨T4, X4, e4, st4⟩ := getF X0 hx hZ hown (host := "") (Or.inl (hw _ (List.mem_of_getElem? (i := 20) rfl))) Via.refl e0 (F0.2.2.1.ext O0.2) (g := (mkF m 1 #[.val (.ref aFUTURE)] [(.ref aFUTURE)])) rfl rfl (hb hby d_jdk_37_method_2_1)
  refine own_go st4 ?_
  show OwnGo p e below _ (T4.setTop (mkF m 4 #[.val (.ref aFUTURE)] [(.int (0 : Int32))]))
  obtain ⟨fs, hr, hrun, hended, hW, hsame⟩ := X4.leave (v := some (.int (0 : Int32))) (fun h => by rw [Bd.returns] at h; cases h)
  refine ⟨_, _, retOut X4 hx Bd.returns rfl (Or.inl ⟨rfl, Or.inl rfl, _, rfl⟩) (hb hby d_jdk_37_method_2_4) hr, hrun, hended, _, _, rfl, ?_, ⟨_, rfl⟩, hW, hsame.mono (by decide) (by decide)⟩
  show Q_ord0 Z aFUTURE aACTIVE aCLOSED h0 n0 _ T4.heap _
  rw [e4]
  exact ⟨rfl, N0, rfl⟩
def Q_ord1 (Z : State) (aFUTURE aACTIVE aCLOSED : Addr) (h0 : Heap) (n0 : Nat) (v : Option Value) (h : Heap) (L : List Loc) : Prop := v = some (.int (1 : Int32)) ∧ Fr n0 L ∧ h = h0
theorem ef_ord1 (m : MethodId) (x0 : Addr) : entryFrame m #[(.ref x0)] 1 = mkF m 0 #[.val (.ref x0)] [] := by first | (simp [entryFrame, mkF, argsToLocals, Value.category]; done) | rfl
set_option maxRecDepth 65536 in
set_option maxHeartbeats 40000000 in
theorem rm_ord1 (l : Launch) (Z : State) (a0 : Array Value) (hw : ∀ d ∈ tables_1, d.before a0 Z = true) (ws : List Jvm.Cond) (aFUTURE aACTIVE aCLOSED : Addr) (F0 : OwnFacts Z aFUTURE aACTIVE aCLOSED) (h0 : Heap) (n0 : Nat) (O0 : Old Z n0 h0) :
    MetFree l (⟨"java/lang/Enum", "ordinal", "()I"⟩ : MethodName) (head1 (Jvm.Cond.code (⟨"java/lang/Enum", "ordinal", "()I"⟩ : MethodName) jdk_37_method_2_code 1 (some .int) :: ws) ({ frames := 0, cells := 0, slots := 0, locals := 0 } : Room)) (fun a U => a = #[(.ref aACTIVE)] ∧ Z.Warmed39 U.vm ∧ U.heap = h0) (fun _ _ _ _ _ => True) (fun _ U o U' => ∃ v L, o = .returned v ∧ Q_ord1 Z aFUTURE aACTIVE aCLOSED h0 n0 v U'.heap L ∧ FrameEnd U o U' L ({ frames := 0, cells := 0, slots := 0, locals := 0 } : Room).cells ({ frames := 0, cells := 0, slots := 0, locals := 0 } : Room).slots) := by
  refine MetFree.of_bodySF (plainFor_of_name pn_java_lang_Enum) hisR ?_
  intro p e s m args below meth c s₁ Bd hml0 hP hK
  obtain ⟨rfl, hZ, hh⟩ := hP
  have hx := Bd.exec
  have hby := Bd.bytes
  have hml : c.maxLocals = 1 := hml0
  have hown : s.vm.findClass "java/lang/Enum" = some m.cls := findClass_of_methodNamed Bd.named
  have hnm := (name_of_methodNamed Bd.named Bd.method).1
  have X0 : Stand p l e ({ frames := 0, cells := 0, slots := 0, locals := 0 } : Room) s m #[(.ref aACTIVE)] below meth c s₁ [] 0 0 := Stand.of_body Bd
  have e0 : s₁.heap = h0 := by rw [← hh, Bd.state]; rfl
  have N0 := Fr.nil n0
  refine own_go (Q := fun o U' => ∃ v L, o = .returned v ∧ Q_ord1 Z aFUTURE aACTIVE aCLOSED h0 n0 v U'.heap L ∧ FrameEnd s o U' L ({ frames := 0, cells := 0, slots := 0, locals := 0 } : Room).cells ({ frames := 0, cells := 0, slots := 0, locals := 0 } : Room).slots) (fun t k => castTop (ef_ord1 m aACTIVE) k) ?_
  show OwnGo p e below _ (s₁.setTop (mkF m 0 #[.val (.ref aACTIVE)] []))
  refine own_go (fun _ k => XS.aloadN X0.here hx rfl (hb hby d_jdk_37_method_2_0) rfl rfl k) ?_
  show OwnGo p e below _ (s₁.setTop (mkF m 1 #[.val (.ref aACTIVE)] [(.ref aACTIVE)]))
  obtain ⟨T5, X5, e5, st5⟩ := getF X0 hx hZ hown (host := "") (Or.inl (hw _ (List.mem_of_getElem? (i := 20) rfl))) Via.refl e0 (F0.2.2.2.2.2.2.2.2.ext O0.2) (g := (mkF m 1 #[.val (.ref aACTIVE)] [(.ref aACTIVE)])) rfl rfl (hb hby d_jdk_37_method_2_1)
  refine own_go st5 ?_
  show OwnGo p e below _ (T5.setTop (mkF m 4 #[.val (.ref aACTIVE)] [(.int (1 : Int32))]))
  obtain ⟨fs, hr, hrun, hended, hW, hsame⟩ := X5.leave (v := some (.int (1 : Int32))) (fun h => by rw [Bd.returns] at h; cases h)
  refine ⟨_, _, retOut X5 hx Bd.returns rfl (Or.inl ⟨rfl, Or.inl rfl, _, rfl⟩) (hb hby d_jdk_37_method_2_4) hr, hrun, hended, _, _, rfl, ?_, ⟨_, rfl⟩, hW, hsame.mono (by decide) (by decide)⟩
  show Q_ord1 Z aFUTURE aACTIVE aCLOSED h0 n0 _ T5.heap _
  rw [e5]
  exact ⟨rfl, N0, rfl⟩
def Q_ord2 (Z : State) (aFUTURE aACTIVE aCLOSED : Addr) (h0 : Heap) (n0 : Nat) (v : Option Value) (h : Heap) (L : List Loc) : Prop := v = some (.int (2 : Int32)) ∧ Fr n0 L ∧ h = h0
theorem ef_ord2 (m : MethodId) (x0 : Addr) : entryFrame m #[(.ref x0)] 1 = mkF m 0 #[.val (.ref x0)] [] := by first | (simp [entryFrame, mkF, argsToLocals, Value.category]; done) | rfl
set_option maxRecDepth 65536 in
set_option maxHeartbeats 40000000 in
theorem rm_ord2 (l : Launch) (Z : State) (a0 : Array Value) (hw : ∀ d ∈ tables_1, d.before a0 Z = true) (ws : List Jvm.Cond) (aFUTURE aACTIVE aCLOSED : Addr) (F0 : OwnFacts Z aFUTURE aACTIVE aCLOSED) (h0 : Heap) (n0 : Nat) (O0 : Old Z n0 h0) :
    MetFree l (⟨"java/lang/Enum", "ordinal", "()I"⟩ : MethodName) (head1 (Jvm.Cond.code (⟨"java/lang/Enum", "ordinal", "()I"⟩ : MethodName) jdk_37_method_2_code 1 (some .int) :: ws) ({ frames := 0, cells := 0, slots := 0, locals := 0 } : Room)) (fun a U => a = #[(.ref aCLOSED)] ∧ Z.Warmed39 U.vm ∧ U.heap = h0) (fun _ _ _ _ _ => True) (fun _ U o U' => ∃ v L, o = .returned v ∧ Q_ord2 Z aFUTURE aACTIVE aCLOSED h0 n0 v U'.heap L ∧ FrameEnd U o U' L ({ frames := 0, cells := 0, slots := 0, locals := 0 } : Room).cells ({ frames := 0, cells := 0, slots := 0, locals := 0 } : Room).slots) := by
  refine MetFree.of_bodySF (plainFor_of_name pn_java_lang_Enum) hisR ?_
  intro p e s m args below meth c s₁ Bd hml0 hP hK
  obtain ⟨rfl, hZ, hh⟩ := hP
  have hx := Bd.exec
  have hby := Bd.bytes
  have hml : c.maxLocals = 1 := hml0
  have hown : s.vm.findClass "java/lang/Enum" = some m.cls := findClass_of_methodNamed Bd.named
  have hnm := (name_of_methodNamed Bd.named Bd.method).1
  have X0 : Stand p l e ({ frames := 0, cells := 0, slots := 0, locals := 0 } : Room) s m #[(.ref aCLOSED)] below meth c s₁ [] 0 0 := Stand.of_body Bd
  have e0 : s₁.heap = h0 := by rw [← hh, Bd.state]; rfl
  have N0 := Fr.nil n0
  refine own_go (Q := fun o U' => ∃ v L, o = .returned v ∧ Q_ord2 Z aFUTURE aACTIVE aCLOSED h0 n0 v U'.heap L ∧ FrameEnd s o U' L ({ frames := 0, cells := 0, slots := 0, locals := 0 } : Room).cells ({ frames := 0, cells := 0, slots := 0, locals := 0 } : Room).slots) (fun t k => castTop (ef_ord2 m aCLOSED) k) ?_
  show OwnGo p e below _ (s₁.setTop (mkF m 0 #[.val (.ref aCLOSED)] []))
  refine own_go (fun _ k => XS.aloadN X0.here hx rfl (hb hby d_jdk_37_method_2_0) rfl rfl k) ?_
  show OwnGo p e below _ (s₁.setTop (mkF m 1 #[.val (.ref aCLOSED)] [(.ref aCLOSED)]))
  obtain ⟨T6, X6, e6, st6⟩ := getF X0 hx hZ hown (host := "") (Or.inl (hw _ (List.mem_of_getElem? (i := 20) rfl))) Via.refl e0 (F0.2.2.2.2.2.2.2.1.ext O0.2) (g := (mkF m 1 #[.val (.ref aCLOSED)] [(.ref aCLOSED)])) rfl rfl (hb hby d_jdk_37_method_2_1)
  refine own_go st6 ?_
  show OwnGo p e below _ (T6.setTop (mkF m 4 #[.val (.ref aCLOSED)] [(.int (2 : Int32))]))
  obtain ⟨fs, hr, hrun, hended, hW, hsame⟩ := X6.leave (v := some (.int (2 : Int32))) (fun h => by rw [Bd.returns] at h; cases h)
  refine ⟨_, _, retOut X6 hx Bd.returns rfl (Or.inl ⟨rfl, Or.inl rfl, _, rfl⟩) (hb hby d_jdk_37_method_2_4) hr, hrun, hended, _, _, rfl, ?_, ⟨_, rfl⟩, hW, hsame.mono (by decide) (by decide)⟩
  show Q_ord2 Z aFUTURE aACTIVE aCLOSED h0 n0 _ T6.heap _
  rw [e6]
  exact ⟨rfl, N0, rfl⟩
theorem d_prog_40_method_5_0 : decode prog_40_method_5_code 0 = .ok (.aload_n 0, 1) := by decide +kernel
theorem d_prog_40_method_5_1 : decode prog_40_method_5_code 1 = .ok (.invokevirtual 40, 3) := by decide +kernel
theorem pd___I : parseMethodDescriptor "()I" = some ⟨[], some .int⟩ := by decide +kernel
theorem d_prog_40_method_5_4 : decode prog_40_method_5_code 4 = .ok (.tableswitch 28 0 2 #[38, 53, 68], 28) := by decide +kernel
theorem d_prog_40_method_5_42 : decode prog_40_method_5_code 42 = .ok (.aload_n 1, 1) := by decide +kernel
theorem d_prog_40_method_5_43 : decode prog_40_method_5_code 43 = .ok (.getstatic 7, 3) := by decide +kernel
theorem d_prog_40_method_5_46 : decode prog_40_method_5_code 46 = .ok (.if_acmp .ne 7, 3) := by decide +kernel
theorem d_prog_40_method_5_53 : decode prog_40_method_5_code 53 = .ok (.iconst 0, 1) := by decide +kernel
theorem d_prog_40_method_5_54 : decode prog_40_method_5_code 54 = .ok (.goto 19, 3) := by decide +kernel
theorem d_prog_40_method_5_73 : decode prog_40_method_5_code 73 = .ok (.ireturn, 1) := by decide +kernel
theorem pn_com_example_cadenza_cadenza_core_SprintState : plainName "com/example/cadenza/cadenza/core/SprintState" = true := by first | (simp [plainName, overriddenIn]; done) | decide +kernel
def Q_leads00 (Z : State) (aFUTURE aACTIVE aCLOSED : Addr) (h0 : Heap) (n0 : Nat) (v : Option Value) (h : Heap) (L : List Loc) : Prop := v = some (.int (0 : Int32)) ∧ Fr n0 L ∧ h = h0
theorem ef_leads00 (m : MethodId) (x0 : Addr) (x1 : Addr) : entryFrame m #[(.ref x0), (.ref x1)] 2 = mkF m 0 #[.val (.ref x0), .val (.ref x1)] [] := by first | (simp [entryFrame, mkF, argsToLocals, Value.category]; done) | rfl
set_option maxRecDepth 65536 in
set_option maxHeartbeats 40000000 in
theorem rm_leads00 (l : Launch) (Z : State) (a0 : Array Value) (hw : ∀ d ∈ tables_1, d.before a0 Z = true) (ws : List Jvm.Cond) (aFUTURE aACTIVE aCLOSED : Addr) (F0 : OwnFacts Z aFUTURE aACTIVE aCLOSED) (h0 : Heap) (n0 : Nat) (O0 : Old Z n0 h0) :
    MetFree l (⟨"com/example/cadenza/cadenza/core/SprintState", "leadsTo", "(Lcom/example/cadenza/cadenza/core/SprintState;)Z"⟩ : MethodName) (head1 (Jvm.Cond.code (⟨"com/example/cadenza/cadenza/core/SprintState", "leadsTo", "(Lcom/example/cadenza/cadenza/core/SprintState;)Z"⟩ : MethodName) prog_40_method_5_code 2 (some .boolean) :: ws) ({ frames := 1, cells := 0, slots := 0, locals := 12 } : Room)) (fun a U => a = #[(.ref aFUTURE), (.ref aFUTURE)] ∧ Z.Warmed39 U.vm ∧ U.heap = h0) (fun _ _ _ _ _ => True) (fun _ U o U' => ∃ v L, o = .returned v ∧ Q_leads00 Z aFUTURE aACTIVE aCLOSED h0 n0 v U'.heap L ∧ FrameEnd U o U' L ({ frames := 1, cells := 0, slots := 0, locals := 12 } : Room).cells ({ frames := 1, cells := 0, slots := 0, locals := 12 } : Room).slots) := by
  refine MetFree.of_bodySF (plainFor_of_name pn_com_example_cadenza_cadenza_core_SprintState) hisR ?_
  intro p e s m args below meth c s₁ Bd hml0 hP hK
  obtain ⟨rfl, hZ, hh⟩ := hP
  have hx := Bd.exec
  have hby := Bd.bytes
  have hml : c.maxLocals = 2 := hml0
  have hown : s.vm.findClass "com/example/cadenza/cadenza/core/SprintState" = some m.cls := findClass_of_methodNamed Bd.named
  have hnm := (name_of_methodNamed Bd.named Bd.method).1
  have X0 : Stand p l e ({ frames := 1, cells := 0, slots := 0, locals := 12 } : Room) s m #[(.ref aFUTURE), (.ref aFUTURE)] below meth c s₁ [] 0 0 := Stand.of_body Bd
  have e0 : s₁.heap = h0 := by rw [← hh, Bd.state]; rfl
  have N0 := Fr.nil n0
  refine own_go (Q := fun o U' => ∃ v L, o = .returned v ∧ Q_leads00 Z aFUTURE aACTIVE aCLOSED h0 n0 v U'.heap L ∧ FrameEnd s o U' L ({ frames := 1, cells := 0, slots := 0, locals := 12 } : Room).cells ({ frames := 1, cells := 0, slots := 0, locals := 12 } : Room).slots) (fun t k => castTop (ef_leads00 m aFUTURE aFUTURE) k) ?_
  show OwnGo p e below _ (s₁.setTop (mkF m 0 #[.val (.ref aFUTURE), .val (.ref aFUTURE)] []))
  refine own_go (fun _ k => XS.aloadN X0.here hx rfl (hb hby d_prog_40_method_5_0) rfl rfl k) ?_
  show OwnGo p e below _ (s₁.setTop (mkF m 1 #[.val (.ref aFUTURE), .val (.ref aFUTURE)] [(.ref aFUTURE)]))
  obtain ⟨cq7, kq7, qa7, qb7, qc7⟩ := isOf hZ e0 (F0.2.1.ext O0.2)
  obtain ⟨_, _, ⟨T7, L7, k7, n7⟩, -, X7, ⟨Lc7, hQ7, l7, y7, z7⟩, st7⟩ := X0.virtualBackUp hx (x := (⟨"com/example/cadenza/cadenza/core/SprintState", "ordinal", "()I"⟩ : MethodName)) (y := (⟨"java/lang/Enum", "ordinal", "()I"⟩ : MethodName)) (owner := "java/lang/Enum") hown (mvT hZ (hw _ (List.mem_of_getElem? (i := 13) rfl))) (mvT hZ (hw _ (List.mem_of_getElem? (i := 14) rfl))) (mvT hZ (hw _ (List.mem_of_getElem? (i := 15) rfl))) (by decide) (mvT hZ (hw _ (List.mem_of_getElem? (i := 17) rfl))) (mvT hZ (hw _ (List.mem_of_getElem? (i := 16) rfl))) (backOf (W := 0) (rm_ord0 l Z a0 hw [] aFUTURE aACTIVE aCLOSED F0 h0 n0 O0) hZ (hw _ (List.mem_of_getElem? (i := 19) rfl)) (hw _ (List.mem_of_getElem? (i := 18) rfl)) (by decide) (by decide)) qa7 qc7 (g := (mkF m 1 #[.val (.ref aFUTURE), .val (.ref aFUTURE)] [(.ref aFUTURE)])) rfl (by rw [hml]; rfl) (Steps.refl _) (argsL := []) (rest := []) (lenOf pd___I rfl) rfl (by show 2 * 0 + _ ≤ _; exact Nat.le_of_eq rfl) (hb hby d_prog_40_method_5_1) (fun _ _ => ⟨rfl, e0, (by decide : 0 + 0 ≤ _), (by decide : 0 + 0 ≤ _)⟩)
  dsimp only [Pt.U, Pt.locs, Pt.cells, Pt.slots] at X7 l7 y7 z7 st7 hQ7
  subst l7 y7 z7
  obtain ⟨rfl, Nq7, K7⟩ := hQ7
  have N7 := Fr.app N0 Nq7
  refine own_go (fun _ k => st7.trans k) ?_
  show OwnGo p e below _ (T7.setTop (mkF m 4 #[.val (.ref aFUTURE), .val (.ref aFUTURE)] [(.int (0 : Int32))]))
  refine own_go (fun _ k => XS.tswIn X7.here hx rfl (pc0 := 4) (pc' := 42) (o := 38) rfl (hb hby d_prog_40_method_5_4) rfl (by decide) (by decide) (by decide) (by decide) k) ?_
  show OwnGo p e below _ (T7.setTop (mkF m 42 #[.val (.ref aFUTURE), .val (.ref aFUTURE)] []))
  refine own_go (fun _ k => XS.aloadN X7.here hx rfl (hb hby d_prog_40_method_5_42) rfl rfl k) ?_
  show OwnGo p e below _ (T7.setTop (mkF m 43 #[.val (.ref aFUTURE), .val (.ref aFUTURE)] [(.ref aFUTURE)]))
  obtain ⟨T8, X8, e8, st8⟩ := getS X7 hx hZ hown (host := "") (hw _ (List.mem_of_getElem? (i := 22) rfl)) Via.refl K7 (F0.2.2.2.1.ext O0.2) (g := (mkF m 43 #[.val (.ref aFUTURE), .val (.ref aFUTURE)] [(.ref aFUTURE)])) rfl (hb hby d_prog_40_method_5_43)
  refine own_go st8 ?_
  show OwnGo p e below _ (T8.setTop (mkF m 46 #[.val (.ref aFUTURE), .val (.ref aFUTURE)] [(.ref aACTIVE), (.ref aFUTURE)]))
  refine own_go (fun _ k => acmp X8 hx rfl (cd := .ne) (o := 7) (x := (.ref aFUTURE)) (y := (.ref aACTIVE)) (pc0 := 46) (pc' := 53) rfl rfl rfl (hb hby d_prog_40_method_5_46) rfl (own_refne (Fld.ne F0.2.2.1 F0.2.2.2.2.2.2.2.2 (by simp))) (by decide) (by decide) k) ?_
  show OwnGo p e below _ (T8.setTop (mkF m 53 #[.val (.ref aFUTURE), .val (.ref aFUTURE)] []))
  refine own_go (fun _ k => XS.iconst X8.here hx rfl (hb hby d_prog_40_method_5_53) k) ?_
  show OwnGo p e below _ (T8.setTop (mkF m 54 #[.val (.ref aFUTURE), .val (.ref aFUTURE)] [(.int (0 : Int32))]))
  refine own_go (fun _ k => XS.goto X8.here hx rfl (pc0 := 54) (pc' := 73) rfl (hb hby d_prog_40_method_5_54) (by decide) (by decide) k) ?_
  show OwnGo p e below _ (T8.setTop (mkF m 73 #[.val (.ref aFUTURE), .val (.ref aFUTURE)] [(.int (0 : Int32))]))
  obtain ⟨fs, hr, hrun, hended, hW, hsame⟩ := X8.leave (v := some (.int (0 : Int32))) (fun h => by rw [Bd.returns] at h; cases h)
  refine ⟨_, _, retOut X8 hx Bd.returns rfl (Or.inl ⟨rfl, Or.inr (Or.inl rfl), _, rfl⟩) (hb hby d_prog_40_method_5_73) hr, hrun, hended, _, _, rfl, ?_, ⟨_, rfl⟩, hW, hsame.mono (by decide) (by decide)⟩
  show Q_leads00 Z aFUTURE aACTIVE aCLOSED h0 n0 _ T8.heap _
  rw [e8]
  exact ⟨rfl, N7, rfl⟩
theorem d_prog_40_method_5_49 : decode prog_40_method_5_code 49 = .ok (.iconst 1, 1) := by decide +kernel
theorem d_prog_40_method_5_50 : decode prog_40_method_5_code 50 = .ok (.goto 23, 3) := by decide +kernel
def Q_leads01 (Z : State) (aFUTURE aACTIVE aCLOSED : Addr) (h0 : Heap) (n0 : Nat) (v : Option Value) (h : Heap) (L : List Loc) : Prop := v = some (.int (1 : Int32)) ∧ Fr n0 L ∧ h = h0
theorem ef_leads01 (m : MethodId) (x0 : Addr) (x1 : Addr) : entryFrame m #[(.ref x0), (.ref x1)] 2 = mkF m 0 #[.val (.ref x0), .val (.ref x1)] [] := by first | (simp [entryFrame, mkF, argsToLocals, Value.category]; done) | rfl
set_option maxRecDepth 65536 in
set_option maxHeartbeats 40000000 in
theorem rm_leads01 (l : Launch) (Z : State) (a0 : Array Value) (hw : ∀ d ∈ tables_1, d.before a0 Z = true) (ws : List Jvm.Cond) (aFUTURE aACTIVE aCLOSED : Addr) (F0 : OwnFacts Z aFUTURE aACTIVE aCLOSED) (h0 : Heap) (n0 : Nat) (O0 : Old Z n0 h0) :
    MetFree l (⟨"com/example/cadenza/cadenza/core/SprintState", "leadsTo", "(Lcom/example/cadenza/cadenza/core/SprintState;)Z"⟩ : MethodName) (head1 (Jvm.Cond.code (⟨"com/example/cadenza/cadenza/core/SprintState", "leadsTo", "(Lcom/example/cadenza/cadenza/core/SprintState;)Z"⟩ : MethodName) prog_40_method_5_code 2 (some .boolean) :: ws) ({ frames := 1, cells := 0, slots := 0, locals := 12 } : Room)) (fun a U => a = #[(.ref aFUTURE), (.ref aACTIVE)] ∧ Z.Warmed39 U.vm ∧ U.heap = h0) (fun _ _ _ _ _ => True) (fun _ U o U' => ∃ v L, o = .returned v ∧ Q_leads01 Z aFUTURE aACTIVE aCLOSED h0 n0 v U'.heap L ∧ FrameEnd U o U' L ({ frames := 1, cells := 0, slots := 0, locals := 12 } : Room).cells ({ frames := 1, cells := 0, slots := 0, locals := 12 } : Room).slots) := by
  refine MetFree.of_bodySF (plainFor_of_name pn_com_example_cadenza_cadenza_core_SprintState) hisR ?_
  intro p e s m args below meth c s₁ Bd hml0 hP hK
  obtain ⟨rfl, hZ, hh⟩ := hP
  have hx := Bd.exec
  have hby := Bd.bytes
  have hml : c.maxLocals = 2 := hml0
  have hown : s.vm.findClass "com/example/cadenza/cadenza/core/SprintState" = some m.cls := findClass_of_methodNamed Bd.named
  have hnm := (name_of_methodNamed Bd.named Bd.method).1
  have X0 : Stand p l e ({ frames := 1, cells := 0, slots := 0, locals := 12 } : Room) s m #[(.ref aFUTURE), (.ref aACTIVE)] below meth c s₁ [] 0 0 := Stand.of_body Bd
  have e0 : s₁.heap = h0 := by rw [← hh, Bd.state]; rfl
  have N0 := Fr.nil n0
  refine own_go (Q := fun o U' => ∃ v L, o = .returned v ∧ Q_leads01 Z aFUTURE aACTIVE aCLOSED h0 n0 v U'.heap L ∧ FrameEnd s o U' L ({ frames := 1, cells := 0, slots := 0, locals := 12 } : Room).cells ({ frames := 1, cells := 0, slots := 0, locals := 12 } : Room).slots) (fun t k => castTop (ef_leads01 m aFUTURE aACTIVE) k) ?_
  show OwnGo p e below _ (s₁.setTop (mkF m 0 #[.val (.ref aFUTURE), .val (.ref aACTIVE)] []))
  refine own_go (fun _ k => XS.aloadN X0.here hx rfl (hb hby d_prog_40_method_5_0) rfl rfl k) ?_
  show OwnGo p e below _ (s₁.setTop (mkF m 1 #[.val (.ref aFUTURE), .val (.ref aACTIVE)] [(.ref aFUTURE)]))
  obtain ⟨cq9, kq9, qa9, qb9, qc9⟩ := isOf hZ e0 (F0.2.1.ext O0.2)
  obtain ⟨_, _, ⟨T9, L9, k9, n9⟩, -, X9, ⟨Lc9, hQ9, l9, y9, z9⟩, st9⟩ := X0.virtualBackUp hx (x := (⟨"com/example/cadenza/cadenza/core/SprintState", "ordinal", "()I"⟩ : MethodName)) (y := (⟨"java/lang/Enum", "ordinal", "()I"⟩ : MethodName)) (owner := "java/lang/Enum") hown (mvT hZ (hw _ (List.mem_of_getElem? (i := 13) rfl))) (mvT hZ (hw _ (List.mem_of_getElem? (i := 14) rfl))) (mvT hZ (hw _ (List.mem_of_getElem? (i := 15) rfl))) (by decide) (mvT hZ (hw _ (List.mem_of_getElem? (i := 17) rfl))) (mvT hZ (hw _ (List.mem_of_getElem? (i := 16) rfl))) (backOf (W := 0) (rm_ord0 l Z a0 hw [] aFUTURE aACTIVE aCLOSED F0 h0 n0 O0) hZ (hw _ (List.mem_of_getElem? (i := 19) rfl)) (hw _ (List.mem_of_getElem? (i := 18) rfl)) (by decide) (by decide)) qa9 qc9 (g := (mkF m 1 #[.val (.ref aFUTURE), .val (.ref aACTIVE)] [(.ref aFUTURE)])) rfl (by rw [hml]; rfl) (Steps.refl _) (argsL := []) (rest := []) (lenOf pd___I rfl) rfl (by show 2 * 0 + _ ≤ _; exact Nat.le_of_eq rfl) (hb hby d_prog_40_method_5_1) (fun _ _ => ⟨rfl, e0, (by decide : 0 + 0 ≤ _), (by decide : 0 + 0 ≤ _)⟩)
  dsimp only [Pt.U, Pt.locs, Pt.cells, Pt.slots] at X9 l9 y9 z9 st9 hQ9
  subst l9 y9 z9
  obtain ⟨rfl, Nq9, K9⟩ := hQ9
  have N9 := Fr.app N0 Nq9
  refine own_go (fun _ k => st9.trans k) ?_
  show OwnGo p e below _ (T9.setTop (mkF m 4 #[.val (.ref aFUTURE), .val (.ref aACTIVE)] [(.int (0 : Int32))]))
  refine own_go (fun _ k => XS.tswIn X9.here hx rfl (pc0 := 4) (pc' := 42) (o := 38) rfl (hb hby d_prog_40_method_5_4) rfl (by decide) (by decide) (by decide) (by decide) k) ?_
  show OwnGo p e below _ (T9.setTop (mkF m 42 #[.val (.ref aFUTURE), .val (.ref aACTIVE)] []))
  refine own_go (fun _ k => XS.aloadN X9.here hx rfl (hb hby d_prog_40_method_5_42) rfl rfl k) ?_
  show OwnGo p e below _ (T9.setTop (mkF m 43 #[.val (.ref aFUTURE), .val (.ref aACTIVE)] [(.ref aACTIVE)]))
  obtain ⟨T10, X10, e10, st10⟩ := getS X9 hx hZ hown (host := "") (hw _ (List.mem_of_getElem? (i := 22) rfl)) Via.refl K9 (F0.2.2.2.1.ext O0.2) (g := (mkF m 43 #[.val (.ref aFUTURE), .val (.ref aACTIVE)] [(.ref aACTIVE)])) rfl (hb hby d_prog_40_method_5_43)
  refine own_go st10 ?_
  show OwnGo p e below _ (T10.setTop (mkF m 46 #[.val (.ref aFUTURE), .val (.ref aACTIVE)] [(.ref aACTIVE), (.ref aACTIVE)]))
  refine own_go (fun _ k => acmp X10 hx rfl (cd := .ne) (o := 7) (x := (.ref aACTIVE)) (y := (.ref aACTIVE)) (pc0 := 46) (pc' := 49) rfl rfl rfl (hb hby d_prog_40_method_5_46) rfl (own_refeq _) (by decide) (by decide) k) ?_
  show OwnGo p e below _ (T10.setTop (mkF m 49 #[.val (.ref aFUTURE), .val (.ref aACTIVE)] []))
  refine own_go (fun _ k => XS.iconst X10.here hx rfl (hb hby d_prog_40_method_5_49) k) ?_
  show OwnGo p e below _ (T10.setTop (mkF m 50 #[.val (.ref aFUTURE), .val (.ref aACTIVE)] [(.int (1 : Int32))]))
  refine own_go (fun _ k => XS.goto X10.here hx rfl (pc0 := 50) (pc' := 73) rfl (hb hby d_prog_40_method_5_50) (by decide) (by decide) k) ?_
  show OwnGo p e below _ (T10.setTop (mkF m 73 #[.val (.ref aFUTURE), .val (.ref aACTIVE)] [(.int (1 : Int32))]))
  obtain ⟨fs, hr, hrun, hended, hW, hsame⟩ := X10.leave (v := some (.int (1 : Int32))) (fun h => by rw [Bd.returns] at h; cases h)
  refine ⟨_, _, retOut X10 hx Bd.returns rfl (Or.inl ⟨rfl, Or.inr (Or.inl rfl), _, rfl⟩) (hb hby d_prog_40_method_5_73) hr, hrun, hended, _, _, rfl, ?_, ⟨_, rfl⟩, hW, hsame.mono (by decide) (by decide)⟩
  show Q_leads01 Z aFUTURE aACTIVE aCLOSED h0 n0 _ T10.heap _
  rw [e10]
  exact ⟨rfl, N9, rfl⟩
def Q_leads02 (Z : State) (aFUTURE aACTIVE aCLOSED : Addr) (h0 : Heap) (n0 : Nat) (v : Option Value) (h : Heap) (L : List Loc) : Prop := v = some (.int (0 : Int32)) ∧ Fr n0 L ∧ h = h0
theorem ef_leads02 (m : MethodId) (x0 : Addr) (x1 : Addr) : entryFrame m #[(.ref x0), (.ref x1)] 2 = mkF m 0 #[.val (.ref x0), .val (.ref x1)] [] := by first | (simp [entryFrame, mkF, argsToLocals, Value.category]; done) | rfl
set_option maxRecDepth 65536 in
set_option maxHeartbeats 40000000 in
theorem rm_leads02 (l : Launch) (Z : State) (a0 : Array Value) (hw : ∀ d ∈ tables_1, d.before a0 Z = true) (ws : List Jvm.Cond) (aFUTURE aACTIVE aCLOSED : Addr) (F0 : OwnFacts Z aFUTURE aACTIVE aCLOSED) (h0 : Heap) (n0 : Nat) (O0 : Old Z n0 h0) :
    MetFree l (⟨"com/example/cadenza/cadenza/core/SprintState", "leadsTo", "(Lcom/example/cadenza/cadenza/core/SprintState;)Z"⟩ : MethodName) (head1 (Jvm.Cond.code (⟨"com/example/cadenza/cadenza/core/SprintState", "leadsTo", "(Lcom/example/cadenza/cadenza/core/SprintState;)Z"⟩ : MethodName) prog_40_method_5_code 2 (some .boolean) :: ws) ({ frames := 1, cells := 0, slots := 0, locals := 12 } : Room)) (fun a U => a = #[(.ref aFUTURE), (.ref aCLOSED)] ∧ Z.Warmed39 U.vm ∧ U.heap = h0) (fun _ _ _ _ _ => True) (fun _ U o U' => ∃ v L, o = .returned v ∧ Q_leads02 Z aFUTURE aACTIVE aCLOSED h0 n0 v U'.heap L ∧ FrameEnd U o U' L ({ frames := 1, cells := 0, slots := 0, locals := 12 } : Room).cells ({ frames := 1, cells := 0, slots := 0, locals := 12 } : Room).slots) := by
  refine MetFree.of_bodySF (plainFor_of_name pn_com_example_cadenza_cadenza_core_SprintState) hisR ?_
  intro p e s m args below meth c s₁ Bd hml0 hP hK
  obtain ⟨rfl, hZ, hh⟩ := hP
  have hx := Bd.exec
  have hby := Bd.bytes
  have hml : c.maxLocals = 2 := hml0
  have hown : s.vm.findClass "com/example/cadenza/cadenza/core/SprintState" = some m.cls := findClass_of_methodNamed Bd.named
  have hnm := (name_of_methodNamed Bd.named Bd.method).1
  have X0 : Stand p l e ({ frames := 1, cells := 0, slots := 0, locals := 12 } : Room) s m #[(.ref aFUTURE), (.ref aCLOSED)] below meth c s₁ [] 0 0 := Stand.of_body Bd
  have e0 : s₁.heap = h0 := by rw [← hh, Bd.state]; rfl
  have N0 := Fr.nil n0
  refine own_go (Q := fun o U' => ∃ v L, o = .returned v ∧ Q_leads02 Z aFUTURE aACTIVE aCLOSED h0 n0 v U'.heap L ∧ FrameEnd s o U' L ({ frames := 1, cells := 0, slots := 0, locals := 12 } : Room).cells ({ frames := 1, cells := 0, slots := 0, locals := 12 } : Room).slots) (fun t k => castTop (ef_leads02 m aFUTURE aCLOSED) k) ?_
  show OwnGo p e below _ (s₁.setTop (mkF m 0 #[.val (.ref aFUTURE), .val (.ref aCLOSED)] []))
  refine own_go (fun _ k => XS.aloadN X0.here hx rfl (hb hby d_prog_40_method_5_0) rfl rfl k) ?_
  show OwnGo p e below _ (s₁.setTop (mkF m 1 #[.val (.ref aFUTURE), .val (.ref aCLOSED)] [(.ref aFUTURE)]))
  obtain ⟨cq11, kq11, qa11, qb11, qc11⟩ := isOf hZ e0 (F0.2.1.ext O0.2)
  obtain ⟨_, _, ⟨T11, L11, k11, n11⟩, -, X11, ⟨Lc11, hQ11, l11, y11, z11⟩, st11⟩ := X0.virtualBackUp hx (x := (⟨"com/example/cadenza/cadenza/core/SprintState", "ordinal", "()I"⟩ : MethodName)) (y := (⟨"java/lang/Enum", "ordinal", "()I"⟩ : MethodName)) (owner := "java/lang/Enum") hown (mvT hZ (hw _ (List.mem_of_getElem? (i := 13) rfl))) (mvT hZ (hw _ (List.mem_of_getElem? (i := 14) rfl))) (mvT hZ (hw _ (List.mem_of_getElem? (i := 15) rfl))) (by decide) (mvT hZ (hw _ (List.mem_of_getElem? (i := 17) rfl))) (mvT hZ (hw _ (List.mem_of_getElem? (i := 16) rfl))) (backOf (W := 0) (rm_ord0 l Z a0 hw [] aFUTURE aACTIVE aCLOSED F0 h0 n0 O0) hZ (hw _ (List.mem_of_getElem? (i := 19) rfl)) (hw _ (List.mem_of_getElem? (i := 18) rfl)) (by decide) (by decide)) qa11 qc11 (g := (mkF m 1 #[.val (.ref aFUTURE), .val (.ref aCLOSED)] [(.ref aFUTURE)])) rfl (by rw [hml]; rfl) (Steps.refl _) (argsL := []) (rest := []) (lenOf pd___I rfl) rfl (by show 2 * 0 + _ ≤ _; exact Nat.le_of_eq rfl) (hb hby d_prog_40_method_5_1) (fun _ _ => ⟨rfl, e0, (by decide : 0 + 0 ≤ _), (by decide : 0 + 0 ≤ _)⟩)
  dsimp only [Pt.U, Pt.locs, Pt.cells, Pt.slots] at X11 l11 y11 z11 st11 hQ11
  subst l11 y11 z11
  obtain ⟨rfl, Nq11, K11⟩ := hQ11
  have N11 := Fr.app N0 Nq11
  refine own_go (fun _ k => st11.trans k) ?_
  show OwnGo p e below _ (T11.setTop (mkF m 4 #[.val (.ref aFUTURE), .val (.ref aCLOSED)] [(.int (0 : Int32))]))
  refine own_go (fun _ k => XS.tswIn X11.here hx rfl (pc0 := 4) (pc' := 42) (o := 38) rfl (hb hby d_prog_40_method_5_4) rfl (by decide) (by decide) (by decide) (by decide) k) ?_
  show OwnGo p e below _ (T11.setTop (mkF m 42 #[.val (.ref aFUTURE), .val (.ref aCLOSED)] []))
  refine own_go (fun _ k => XS.aloadN X11.here hx rfl (hb hby d_prog_40_method_5_42) rfl rfl k) ?_
  show OwnGo p e below _ (T11.setTop (mkF m 43 #[.val (.ref aFUTURE), .val (.ref aCLOSED)] [(.ref aCLOSED)]))
  obtain ⟨T12, X12, e12, st12⟩ := getS X11 hx hZ hown (host := "") (hw _ (List.mem_of_getElem? (i := 22) rfl)) Via.refl K11 (F0.2.2.2.1.ext O0.2) (g := (mkF m 43 #[.val (.ref aFUTURE), .val (.ref aCLOSED)] [(.ref aCLOSED)])) rfl (hb hby d_prog_40_method_5_43)
  refine own_go st12 ?_
  show OwnGo p e below _ (T12.setTop (mkF m 46 #[.val (.ref aFUTURE), .val (.ref aCLOSED)] [(.ref aACTIVE), (.ref aCLOSED)]))
  refine own_go (fun _ k => acmp X12 hx rfl (cd := .ne) (o := 7) (x := (.ref aCLOSED)) (y := (.ref aACTIVE)) (pc0 := 46) (pc' := 53) rfl rfl rfl (hb hby d_prog_40_method_5_46) rfl (own_refne (Fld.ne F0.2.2.2.2.2.2.2.1 F0.2.2.2.2.2.2.2.2 (by simp))) (by decide) (by decide) k) ?_
  show OwnGo p e below _ (T12.setTop (mkF m 53 #[.val (.ref aFUTURE), .val (.ref aCLOSED)] []))
  refine own_go (fun _ k => XS.iconst X12.here hx rfl (hb hby d_prog_40_method_5_53) k) ?_
  show OwnGo p e below _ (T12.setTop (mkF m 54 #[.val (.ref aFUTURE), .val (.ref aCLOSED)] [(.int (0 : Int32))]))
  refine own_go (fun _ k => XS.goto X12.here hx rfl (pc0 := 54) (pc' := 73) rfl (hb hby d_prog_40_method_5_54) (by decide) (by decide) k) ?_
  show OwnGo p e below _ (T12.setTop (mkF m 73 #[.val (.ref aFUTURE), .val (.ref aCLOSED)] [(.int (0 : Int32))]))
  obtain ⟨fs, hr, hrun, hended, hW, hsame⟩ := X12.leave (v := some (.int (0 : Int32))) (fun h => by rw [Bd.returns] at h; cases h)
  refine ⟨_, _, retOut X12 hx Bd.returns rfl (Or.inl ⟨rfl, Or.inr (Or.inl rfl), _, rfl⟩) (hb hby d_prog_40_method_5_73) hr, hrun, hended, _, _, rfl, ?_, ⟨_, rfl⟩, hW, hsame.mono (by decide) (by decide)⟩
  show Q_leads02 Z aFUTURE aACTIVE aCLOSED h0 n0 _ T12.heap _
  rw [e12]
  exact ⟨rfl, N11, rfl⟩
def Q_leads03 (Z : State) (aFUTURE aACTIVE aCLOSED : Addr) (h0 : Heap) (n0 : Nat) (v : Option Value) (h : Heap) (L : List Loc) : Prop := v = some (.int (0 : Int32)) ∧ Fr n0 L ∧ h = h0
theorem ef_leads03 (m : MethodId) (x0 : Addr) : entryFrame m #[(.ref x0), .null] 2 = mkF m 0 #[.val (.ref x0), .val .null] [] := by first | (simp [entryFrame, mkF, argsToLocals, Value.category]; done) | rfl
set_option maxRecDepth 65536 in
set_option maxHeartbeats 40000000 in
theorem rm_leads03 (l : Launch) (Z : State) (a0 : Array Value) (hw : ∀ d ∈ tables_1, d.before a0 Z = true) (ws : List Jvm.Cond) (aFUTURE aACTIVE aCLOSED : Addr) (F0 : OwnFacts Z aFUTURE aACTIVE aCLOSED) (h0 : Heap) (n0 : Nat) (O0 : Old Z n0 h0) :
    MetFree l (⟨"com/example/cadenza/cadenza/core/SprintState", "leadsTo", "(Lcom/example/cadenza/cadenza/core/SprintState;)Z"⟩ : MethodName) (head1 (Jvm.Cond.code (⟨"com/example/cadenza/cadenza/core/SprintState", "leadsTo", "(Lcom/example/cadenza/cadenza/core/SprintState;)Z"⟩ : MethodName) prog_40_method_5_code 2 (some .boolean) :: ws) ({ frames := 1, cells := 0, slots := 0, locals := 12 } : Room)) (fun a U => a = #[(.ref aFUTURE), .null] ∧ Z.Warmed39 U.vm ∧ U.heap = h0) (fun _ _ _ _ _ => True) (fun _ U o U' => ∃ v L, o = .returned v ∧ Q_leads03 Z aFUTURE aACTIVE aCLOSED h0 n0 v U'.heap L ∧ FrameEnd U o U' L ({ frames := 1, cells := 0, slots := 0, locals := 12 } : Room).cells ({ frames := 1, cells := 0, slots := 0, locals := 12 } : Room).slots) := by
  refine MetFree.of_bodySF (plainFor_of_name pn_com_example_cadenza_cadenza_core_SprintState) hisR ?_
  intro p e s m args below meth c s₁ Bd hml0 hP hK
  obtain ⟨rfl, hZ, hh⟩ := hP
  have hx := Bd.exec
  have hby := Bd.bytes
  have hml : c.maxLocals = 2 := hml0
  have hown : s.vm.findClass "com/example/cadenza/cadenza/core/SprintState" = some m.cls := findClass_of_methodNamed Bd.named
  have hnm := (name_of_methodNamed Bd.named Bd.method).1
  have X0 : Stand p l e ({ frames := 1, cells := 0, slots := 0, locals := 12 } : Room) s m #[(.ref aFUTURE), .null] below meth c s₁ [] 0 0 := Stand.of_body Bd
  have e0 : s₁.heap = h0 := by rw [← hh, Bd.state]; rfl
  have N0 := Fr.nil n0
  refine own_go (Q := fun o U' => ∃ v L, o = .returned v ∧ Q_leads03 Z aFUTURE aACTIVE aCLOSED h0 n0 v U'.heap L ∧ FrameEnd s o U' L ({ frames := 1, cells := 0, slots := 0, locals := 12 } : Room).cells ({ frames := 1, cells := 0, slots := 0, locals := 12 } : Room).slots) (fun t k => castTop (ef_leads03 m aFUTURE) k) ?_
  show OwnGo p e below _ (s₁.setTop (mkF m 0 #[.val (.ref aFUTURE), .val .null] []))
  refine own_go (fun _ k => XS.aloadN X0.here hx rfl (hb hby d_prog_40_method_5_0) rfl rfl k) ?_
  show OwnGo p e below _ (s₁.setTop (mkF m 1 #[.val (.ref aFUTURE), .val .null] [(.ref aFUTURE)]))
  obtain ⟨cq13, kq13, qa13, qb13, qc13⟩ := isOf hZ e0 (F0.2.1.ext O0.2)
  obtain ⟨_, _, ⟨T13, L13, k13, n13⟩, -, X13, ⟨Lc13, hQ13, l13, y13, z13⟩, st13⟩ := X0.virtualBackUp hx (x := (⟨"com/example/cadenza/cadenza/core/SprintState", "ordinal", "()I"⟩ : MethodName)) (y := (⟨"java/lang/Enum", "ordinal", "()I"⟩ : MethodName)) (owner := "java/lang/Enum") hown (mvT hZ (hw _ (List.mem_of_getElem? (i := 13) rfl))) (mvT hZ (hw _ (List.mem_of_getElem? (i := 14) rfl))) (mvT hZ (hw _ (List.mem_of_getElem? (i := 15) rfl))) (by decide) (mvT hZ (hw _ (List.mem_of_getElem? (i := 17) rfl))) (mvT hZ (hw _ (List.mem_of_getElem? (i := 16) rfl))) (backOf (W := 0) (rm_ord0 l Z a0 hw [] aFUTURE aACTIVE aCLOSED F0 h0 n0 O0) hZ (hw _ (List.mem_of_getElem? (i := 19) rfl)) (hw _ (List.mem_of_getElem? (i := 18) rfl)) (by decide) (by decide)) qa13 qc13 (g := (mkF m 1 #[.val (.ref aFUTURE), .val .null] [(.ref aFUTURE)])) rfl (by rw [hml]; rfl) (Steps.refl _) (argsL := []) (rest := []) (lenOf pd___I rfl) rfl (by show 2 * 0 + _ ≤ _; exact Nat.le_of_eq rfl) (hb hby d_prog_40_method_5_1) (fun _ _ => ⟨rfl, e0, (by decide : 0 + 0 ≤ _), (by decide : 0 + 0 ≤ _)⟩)
  dsimp only [Pt.U, Pt.locs, Pt.cells, Pt.slots] at X13 l13 y13 z13 st13 hQ13
  subst l13 y13 z13
  obtain ⟨rfl, Nq13, K13⟩ := hQ13
  have N13 := Fr.app N0 Nq13
  refine own_go (fun _ k => st13.trans k) ?_
  show OwnGo p e below _ (T13.setTop (mkF m 4 #[.val (.ref aFUTURE), .val .null] [(.int (0 : Int32))]))
  refine own_go (fun _ k => XS.tswIn X13.here hx rfl (pc0 := 4) (pc' := 42) (o := 38) rfl (hb hby d_prog_40_method_5_4) rfl (by decide) (by decide) (by decide) (by decide) k) ?_
  show OwnGo p e below _ (T13.setTop (mkF m 42 #[.val (.ref aFUTURE), .val .null] []))
  refine own_go (fun _ k => XS.aloadN X13.here hx rfl (hb hby d_prog_40_method_5_42) rfl rfl k) ?_
  show OwnGo p e below _ (T13.setTop (mkF m 43 #[.val (.ref aFUTURE), .val .null] [.null]))
  obtain ⟨T14, X14, e14, st14⟩ := getS X13 hx hZ hown (host := "") (hw _ (List.mem_of_getElem? (i := 22) rfl)) Via.refl K13 (F0.2.2.2.1.ext O0.2) (g := (mkF m 43 #[.val (.ref aFUTURE), .val .null] [.null])) rfl (hb hby d_prog_40_method_5_43)
  refine own_go st14 ?_
  show OwnGo p e below _ (T14.setTop (mkF m 46 #[.val (.ref aFUTURE), .val .null] [(.ref aACTIVE), .null]))
  refine own_go (fun _ k => acmp X14 hx rfl (cd := .ne) (o := 7) (x := .null) (y := (.ref aACTIVE)) (pc0 := 46) (pc' := 53) rfl rfl rfl (hb hby d_prog_40_method_5_46) rfl (own_nr _) (by decide) (by decide) k) ?_
  show OwnGo p e below _ (T14.setTop (mkF m 53 #[.val (.ref aFUTURE), .val .null] []))
  refine own_go (fun _ k => XS.iconst X14.here hx rfl (hb hby d_prog_40_method_5_53) k) ?_
  show OwnGo p e below _ (T14.setTop (mkF m 54 #[.val (.ref aFUTURE), .val .null] [(.int (0 : Int32))]))
  refine own_go (fun _ k => XS.goto X14.here hx rfl (pc0 := 54) (pc' := 73) rfl (hb hby d_prog_40_method_5_54) (by decide) (by decide) k) ?_
  show OwnGo p e below _ (T14.setTop (mkF m 73 #[.val (.ref aFUTURE), .val .null] [(.int (0 : Int32))]))
  obtain ⟨fs, hr, hrun, hended, hW, hsame⟩ := X14.leave (v := some (.int (0 : Int32))) (fun h => by rw [Bd.returns] at h; cases h)
  refine ⟨_, _, retOut X14 hx Bd.returns rfl (Or.inl ⟨rfl, Or.inr (Or.inl rfl), _, rfl⟩) (hb hby d_prog_40_method_5_73) hr, hrun, hended, _, _, rfl, ?_, ⟨_, rfl⟩, hW, hsame.mono (by decide) (by decide)⟩
  show Q_leads03 Z aFUTURE aACTIVE aCLOSED h0 n0 _ T14.heap _
  rw [e14]
  exact ⟨rfl, N13, rfl⟩
theorem d_prog_40_method_5_57 : decode prog_40_method_5_code 57 = .ok (.aload_n 1, 1) := by decide +kernel
theorem d_prog_40_method_5_58 : decode prog_40_method_5_code 58 = .ok (.getstatic 10, 3) := by decide +kernel
theorem d_prog_40_method_5_61 : decode prog_40_method_5_code 61 = .ok (.if_acmp .ne 7, 3) := by decide +kernel
theorem d_prog_40_method_5_68 : decode prog_40_method_5_code 68 = .ok (.iconst 0, 1) := by decide +kernel
theorem d_prog_40_method_5_69 : decode prog_40_method_5_code 69 = .ok (.goto 4, 3) := by decide +kernel
def Q_leads10 (Z : State) (aFUTURE aACTIVE aCLOSED : Addr) (h0 : Heap) (n0 : Nat) (v : Option Value) (h : Heap) (L : List Loc) : Prop := v = some (.int (0 : Int32)) ∧ Fr n0 L ∧ h = h0
theorem ef_leads10 (m : MethodId) (x0 : Addr) (x1 : Addr) : entryFrame m #[(.ref x0), (.ref x1)] 2 = mkF m 0 #[.val (.ref x0), .val (.ref x1)] [] := by first | (simp [entryFrame, mkF, argsToLocals, Value.category]; done) | rfl
set_option maxRecDepth 65536 in
set_option maxHeartbeats 40000000 in
theorem rm_leads10 (l : Launch) (Z : State) (a0 : Array Value) (hw : ∀ d ∈ tables_1, d.before a0 Z = true) (ws : List Jvm.Cond) (aFUTURE aACTIVE aCLOSED : Addr) (F0 : OwnFacts Z aFUTURE aACTIVE aCLOSED) (h0 : Heap) (n0 : Nat) (O0 : Old Z n0 h0) :
    MetFree l (⟨"com/example/cadenza/cadenza/core/SprintState", "leadsTo", "(Lcom/example/cadenza/cadenza/core/SprintState;)Z"⟩ : MethodName) (head1 (Jvm.Cond.code (⟨"com/example/cadenza/cadenza/core/SprintState", "leadsTo", "(Lcom/example/cadenza/cadenza/core/SprintState;)Z"⟩ : MethodName) prog_40_method_5_code 2 (some .boolean) :: ws) ({ frames := 1, cells := 0, slots := 0, locals := 12 } : Room)) (fun a U => a = #[(.ref aACTIVE), (.ref aFUTURE)] ∧ Z.Warmed39 U.vm ∧ U.heap = h0) (fun _ _ _ _ _ => True) (fun _ U o U' => ∃ v L, o = .returned v ∧ Q_leads10 Z aFUTURE aACTIVE aCLOSED h0 n0 v U'.heap L ∧ FrameEnd U o U' L ({ frames := 1, cells := 0, slots := 0, locals := 12 } : Room).cells ({ frames := 1, cells := 0, slots := 0, locals := 12 } : Room).slots) := by
  refine MetFree.of_bodySF (plainFor_of_name pn_com_example_cadenza_cadenza_core_SprintState) hisR ?_
  intro p e s m args below meth c s₁ Bd hml0 hP hK
  obtain ⟨rfl, hZ, hh⟩ := hP
  have hx := Bd.exec
  have hby := Bd.bytes
  have hml : c.maxLocals = 2 := hml0
  have hown : s.vm.findClass "com/example/cadenza/cadenza/core/SprintState" = some m.cls := findClass_of_methodNamed Bd.named
  have hnm := (name_of_methodNamed Bd.named Bd.method).1
  have X0 : Stand p l e ({ frames := 1, cells := 0, slots := 0, locals := 12 } : Room) s m #[(.ref aACTIVE), (.ref aFUTURE)] below meth c s₁ [] 0 0 := Stand.of_body Bd
  have e0 : s₁.heap = h0 := by rw [← hh, Bd.state]; rfl
  have N0 := Fr.nil n0
  refine own_go (Q := fun o U' => ∃ v L, o = .returned v ∧ Q_leads10 Z aFUTURE aACTIVE aCLOSED h0 n0 v U'.heap L ∧ FrameEnd s o U' L ({ frames := 1, cells := 0, slots := 0, locals := 12 } : Room).cells ({ frames := 1, cells := 0, slots := 0, locals := 12 } : Room).slots) (fun t k => castTop (ef_leads10 m aACTIVE aFUTURE) k) ?_
  show OwnGo p e below _ (s₁.setTop (mkF m 0 #[.val (.ref aACTIVE), .val (.ref aFUTURE)] []))
  refine own_go (fun _ k => XS.aloadN X0.here hx rfl (hb hby d_prog_40_method_5_0) rfl rfl k) ?_
  show OwnGo p e below _ (s₁.setTop (mkF m 1 #[.val (.ref aACTIVE), .val (.ref aFUTURE)] [(.ref aACTIVE)]))
  obtain ⟨cq15, kq15, qa15, qb15, qc15⟩ := isOf hZ e0 (F0.2.2.2.2.1.ext O0.2)
  obtain ⟨_, _, ⟨T15, L15, k15, n15⟩, -, X15, ⟨Lc15, hQ15, l15, y15, z15⟩, st15⟩ := X0.virtualBackUp hx (x := (⟨"com/example/cadenza/cadenza/core/SprintState", "ordinal", "()I"⟩ : MethodName)) (y := (⟨"java/lang/Enum", "ordinal", "()I"⟩ : MethodName)) (owner := "java/lang/Enum") hown (mvT hZ (hw _ (List.mem_of_getElem? (i := 13) rfl))) (mvT hZ (hw _ (List.mem_of_getElem? (i := 14) rfl))) (mvT hZ (hw _ (List.mem_of_getElem? (i := 15) rfl))) (by decide) (mvT hZ (hw _ (List.mem_of_getElem? (i := 17) rfl))) (mvT hZ (hw _ (List.mem_of_getElem? (i := 16) rfl))) (backOf (W := 0) (rm_ord1 l Z a0 hw [] aFUTURE aACTIVE aCLOSED F0 h0 n0 O0) hZ (hw _ (List.mem_of_getElem? (i := 19) rfl)) (hw _ (List.mem_of_getElem? (i := 18) rfl)) (by decide) (by decide)) qa15 qc15 (g := (mkF m 1 #[.val (.ref aACTIVE), .val (.ref aFUTURE)] [(.ref aACTIVE)])) rfl (by rw [hml]; rfl) (Steps.refl _) (argsL := []) (rest := []) (lenOf pd___I rfl) rfl (by show 2 * 0 + _ ≤ _; exact Nat.le_of_eq rfl) (hb hby d_prog_40_method_5_1) (fun _ _ => ⟨rfl, e0, (by decide : 0 + 0 ≤ _), (by decide : 0 + 0 ≤ _)⟩)
  dsimp only [Pt.U, Pt.locs, Pt.cells, Pt.slots] at X15 l15 y15 z15 st15 hQ15
  subst l15 y15 z15
  obtain ⟨rfl, Nq15, K15⟩ := hQ15
  have N15 := Fr.app N0 Nq15
  refine own_go (fun _ k => st15.trans k) ?_
  show OwnGo p e below _ (T15.setTop (mkF m 4 #[.val (.ref aACTIVE), .val (.ref aFUTURE)] [(.int (1 : Int32))]))
  refine own_go (fun _ k => XS.tswIn X15.here hx rfl (pc0 := 4) (pc' := 57) (o := 53) rfl (hb hby d_prog_40_method_5_4) rfl (by decide) (by decide) (by decide) (by decide) k) ?_
  show OwnGo p e below _ (T15.setTop (mkF m 57 #[.val (.ref aACTIVE), .val (.ref aFUTURE)] []))
  refine own_go (fun _ k => XS.aloadN X15.here hx rfl (hb hby d_prog_40_method_5_57) rfl rfl k) ?_
  show OwnGo p e below _ (T15.setTop (mkF m 58 #[.val (.ref aACTIVE), .val (.ref aFUTURE)] [(.ref aFUTURE)]))
  obtain ⟨T16, X16, e16, st16⟩ := getS X15 hx hZ hown (host := "") (hw _ (List.mem_of_getElem? (i := 27) rfl)) Via.refl K15 (F0.2.2.2.2.2.1.ext O0.2) (g := (mkF m 58 #[.val (.ref aACTIVE), .val (.ref aFUTURE)] [(.ref aFUTURE)])) rfl (hb hby d_prog_40_method_5_58)
  refine own_go st16 ?_
  show OwnGo p e below _ (T16.setTop (mkF m 61 #[.val (.ref aACTIVE), .val (.ref aFUTURE)] [(.ref aCLOSED), (.ref aFUTURE)]))
  refine own_go (fun _ k => acmp X16 hx rfl (cd := .ne) (o := 7) (x := (.ref aFUTURE)) (y := (.ref aCLOSED)) (pc0 := 61) (pc' := 68) rfl rfl rfl (hb hby d_prog_40_method_5_61) rfl (own_refne (Fld.ne F0.2.2.1 F0.2.2.2.2.2.2.2.1 (by simp))) (by decide) (by decide) k) ?_
  show OwnGo p e below _ (T16.setTop (mkF m 68 #[.val (.ref aACTIVE), .val (.ref aFUTURE)] []))
  refine own_go (fun _ k => XS.iconst X16.here hx rfl (hb hby d_prog_40_method_5_68) k) ?_
  show OwnGo p e below _ (T16.setTop (mkF m 69 #[.val (.ref aACTIVE), .val (.ref aFUTURE)] [(.int (0 : Int32))]))
  refine own_go (fun _ k => XS.goto X16.here hx rfl (pc0 := 69) (pc' := 73) rfl (hb hby d_prog_40_method_5_69) (by decide) (by decide) k) ?_
  show OwnGo p e below _ (T16.setTop (mkF m 73 #[.val (.ref aACTIVE), .val (.ref aFUTURE)] [(.int (0 : Int32))]))
  obtain ⟨fs, hr, hrun, hended, hW, hsame⟩ := X16.leave (v := some (.int (0 : Int32))) (fun h => by rw [Bd.returns] at h; cases h)
  refine ⟨_, _, retOut X16 hx Bd.returns rfl (Or.inl ⟨rfl, Or.inr (Or.inl rfl), _, rfl⟩) (hb hby d_prog_40_method_5_73) hr, hrun, hended, _, _, rfl, ?_, ⟨_, rfl⟩, hW, hsame.mono (by decide) (by decide)⟩
  show Q_leads10 Z aFUTURE aACTIVE aCLOSED h0 n0 _ T16.heap _
  rw [e16]
  exact ⟨rfl, N15, rfl⟩
def Q_leads11 (Z : State) (aFUTURE aACTIVE aCLOSED : Addr) (h0 : Heap) (n0 : Nat) (v : Option Value) (h : Heap) (L : List Loc) : Prop := v = some (.int (0 : Int32)) ∧ Fr n0 L ∧ h = h0
theorem ef_leads11 (m : MethodId) (x0 : Addr) (x1 : Addr) : entryFrame m #[(.ref x0), (.ref x1)] 2 = mkF m 0 #[.val (.ref x0), .val (.ref x1)] [] := by first | (simp [entryFrame, mkF, argsToLocals, Value.category]; done) | rfl
set_option maxRecDepth 65536 in
set_option maxHeartbeats 40000000 in
theorem rm_leads11 (l : Launch) (Z : State) (a0 : Array Value) (hw : ∀ d ∈ tables_1, d.before a0 Z = true) (ws : List Jvm.Cond) (aFUTURE aACTIVE aCLOSED : Addr) (F0 : OwnFacts Z aFUTURE aACTIVE aCLOSED) (h0 : Heap) (n0 : Nat) (O0 : Old Z n0 h0) :
    MetFree l (⟨"com/example/cadenza/cadenza/core/SprintState", "leadsTo", "(Lcom/example/cadenza/cadenza/core/SprintState;)Z"⟩ : MethodName) (head1 (Jvm.Cond.code (⟨"com/example/cadenza/cadenza/core/SprintState", "leadsTo", "(Lcom/example/cadenza/cadenza/core/SprintState;)Z"⟩ : MethodName) prog_40_method_5_code 2 (some .boolean) :: ws) ({ frames := 1, cells := 0, slots := 0, locals := 12 } : Room)) (fun a U => a = #[(.ref aACTIVE), (.ref aACTIVE)] ∧ Z.Warmed39 U.vm ∧ U.heap = h0) (fun _ _ _ _ _ => True) (fun _ U o U' => ∃ v L, o = .returned v ∧ Q_leads11 Z aFUTURE aACTIVE aCLOSED h0 n0 v U'.heap L ∧ FrameEnd U o U' L ({ frames := 1, cells := 0, slots := 0, locals := 12 } : Room).cells ({ frames := 1, cells := 0, slots := 0, locals := 12 } : Room).slots) := by
  refine MetFree.of_bodySF (plainFor_of_name pn_com_example_cadenza_cadenza_core_SprintState) hisR ?_
  intro p e s m args below meth c s₁ Bd hml0 hP hK
  obtain ⟨rfl, hZ, hh⟩ := hP
  have hx := Bd.exec
  have hby := Bd.bytes
  have hml : c.maxLocals = 2 := hml0
  have hown : s.vm.findClass "com/example/cadenza/cadenza/core/SprintState" = some m.cls := findClass_of_methodNamed Bd.named
  have hnm := (name_of_methodNamed Bd.named Bd.method).1
  have X0 : Stand p l e ({ frames := 1, cells := 0, slots := 0, locals := 12 } : Room) s m #[(.ref aACTIVE), (.ref aACTIVE)] below meth c s₁ [] 0 0 := Stand.of_body Bd
  have e0 : s₁.heap = h0 := by rw [← hh, Bd.state]; rfl
  have N0 := Fr.nil n0
  refine own_go (Q := fun o U' => ∃ v L, o = .returned v ∧ Q_leads11 Z aFUTURE aACTIVE aCLOSED h0 n0 v U'.heap L ∧ FrameEnd s o U' L ({ frames := 1, cells := 0, slots := 0, locals := 12 } : Room).cells ({ frames := 1, cells := 0, slots := 0, locals := 12 } : Room).slots) (fun t k => castTop (ef_leads11 m aACTIVE aACTIVE) k) ?_
  show OwnGo p e below _ (s₁.setTop (mkF m 0 #[.val (.ref aACTIVE), .val (.ref aACTIVE)] []))
  refine own_go (fun _ k => XS.aloadN X0.here hx rfl (hb hby d_prog_40_method_5_0) rfl rfl k) ?_
  show OwnGo p e below _ (s₁.setTop (mkF m 1 #[.val (.ref aACTIVE), .val (.ref aACTIVE)] [(.ref aACTIVE)]))
  obtain ⟨cq17, kq17, qa17, qb17, qc17⟩ := isOf hZ e0 (F0.2.2.2.2.1.ext O0.2)
  obtain ⟨_, _, ⟨T17, L17, k17, n17⟩, -, X17, ⟨Lc17, hQ17, l17, y17, z17⟩, st17⟩ := X0.virtualBackUp hx (x := (⟨"com/example/cadenza/cadenza/core/SprintState", "ordinal", "()I"⟩ : MethodName)) (y := (⟨"java/lang/Enum", "ordinal", "()I"⟩ : MethodName)) (owner := "java/lang/Enum") hown (mvT hZ (hw _ (List.mem_of_getElem? (i := 13) rfl))) (mvT hZ (hw _ (List.mem_of_getElem? (i := 14) rfl))) (mvT hZ (hw _ (List.mem_of_getElem? (i := 15) rfl))) (by decide) (mvT hZ (hw _ (List.mem_of_getElem? (i := 17) rfl))) (mvT hZ (hw _ (List.mem_of_getElem? (i := 16) rfl))) (backOf (W := 0) (rm_ord1 l Z a0 hw [] aFUTURE aACTIVE aCLOSED F0 h0 n0 O0) hZ (hw _ (List.mem_of_getElem? (i := 19) rfl)) (hw _ (List.mem_of_getElem? (i := 18) rfl)) (by decide) (by decide)) qa17 qc17 (g := (mkF m 1 #[.val (.ref aACTIVE), .val (.ref aACTIVE)] [(.ref aACTIVE)])) rfl (by rw [hml]; rfl) (Steps.refl _) (argsL := []) (rest := []) (lenOf pd___I rfl) rfl (by show 2 * 0 + _ ≤ _; exact Nat.le_of_eq rfl) (hb hby d_prog_40_method_5_1) (fun _ _ => ⟨rfl, e0, (by decide : 0 + 0 ≤ _), (by decide : 0 + 0 ≤ _)⟩)
  dsimp only [Pt.U, Pt.locs, Pt.cells, Pt.slots] at X17 l17 y17 z17 st17 hQ17
  subst l17 y17 z17
  obtain ⟨rfl, Nq17, K17⟩ := hQ17
  have N17 := Fr.app N0 Nq17
  refine own_go (fun _ k => st17.trans k) ?_
  show OwnGo p e below _ (T17.setTop (mkF m 4 #[.val (.ref aACTIVE), .val (.ref aACTIVE)] [(.int (1 : Int32))]))
  refine own_go (fun _ k => XS.tswIn X17.here hx rfl (pc0 := 4) (pc' := 57) (o := 53) rfl (hb hby d_prog_40_method_5_4) rfl (by decide) (by decide) (by decide) (by decide) k) ?_
  show OwnGo p e below _ (T17.setTop (mkF m 57 #[.val (.ref aACTIVE), .val (.ref aACTIVE)] []))
  refine own_go (fun _ k => XS.aloadN X17.here hx rfl (hb hby d_prog_40_method_5_57) rfl rfl k) ?_
  show OwnGo p e below _ (T17.setTop (mkF m 58 #[.val (.ref aACTIVE), .val (.ref aACTIVE)] [(.ref aACTIVE)]))
  obtain ⟨T18, X18, e18, st18⟩ := getS X17 hx hZ hown (host := "") (hw _ (List.mem_of_getElem? (i := 27) rfl)) Via.refl K17 (F0.2.2.2.2.2.1.ext O0.2) (g := (mkF m 58 #[.val (.ref aACTIVE), .val (.ref aACTIVE)] [(.ref aACTIVE)])) rfl (hb hby d_prog_40_method_5_58)
  refine own_go st18 ?_
  show OwnGo p e below _ (T18.setTop (mkF m 61 #[.val (.ref aACTIVE), .val (.ref aACTIVE)] [(.ref aCLOSED), (.ref aACTIVE)]))
  refine own_go (fun _ k => acmp X18 hx rfl (cd := .ne) (o := 7) (x := (.ref aACTIVE)) (y := (.ref aCLOSED)) (pc0 := 61) (pc' := 68) rfl rfl rfl (hb hby d_prog_40_method_5_61) rfl (own_refne (Fld.ne F0.2.2.2.2.2.2.2.2 F0.2.2.2.2.2.2.2.1 (by simp))) (by decide) (by decide) k) ?_
  show OwnGo p e below _ (T18.setTop (mkF m 68 #[.val (.ref aACTIVE), .val (.ref aACTIVE)] []))
  refine own_go (fun _ k => XS.iconst X18.here hx rfl (hb hby d_prog_40_method_5_68) k) ?_
  show OwnGo p e below _ (T18.setTop (mkF m 69 #[.val (.ref aACTIVE), .val (.ref aACTIVE)] [(.int (0 : Int32))]))
  refine own_go (fun _ k => XS.goto X18.here hx rfl (pc0 := 69) (pc' := 73) rfl (hb hby d_prog_40_method_5_69) (by decide) (by decide) k) ?_
  show OwnGo p e below _ (T18.setTop (mkF m 73 #[.val (.ref aACTIVE), .val (.ref aACTIVE)] [(.int (0 : Int32))]))
  obtain ⟨fs, hr, hrun, hended, hW, hsame⟩ := X18.leave (v := some (.int (0 : Int32))) (fun h => by rw [Bd.returns] at h; cases h)
  refine ⟨_, _, retOut X18 hx Bd.returns rfl (Or.inl ⟨rfl, Or.inr (Or.inl rfl), _, rfl⟩) (hb hby d_prog_40_method_5_73) hr, hrun, hended, _, _, rfl, ?_, ⟨_, rfl⟩, hW, hsame.mono (by decide) (by decide)⟩
  show Q_leads11 Z aFUTURE aACTIVE aCLOSED h0 n0 _ T18.heap _
  rw [e18]
  exact ⟨rfl, N17, rfl⟩
theorem d_prog_40_method_5_64 : decode prog_40_method_5_code 64 = .ok (.iconst 1, 1) := by decide +kernel
theorem d_prog_40_method_5_65 : decode prog_40_method_5_code 65 = .ok (.goto 8, 3) := by decide +kernel
def Q_leads12 (Z : State) (aFUTURE aACTIVE aCLOSED : Addr) (h0 : Heap) (n0 : Nat) (v : Option Value) (h : Heap) (L : List Loc) : Prop := v = some (.int (1 : Int32)) ∧ Fr n0 L ∧ h = h0
theorem ef_leads12 (m : MethodId) (x0 : Addr) (x1 : Addr) : entryFrame m #[(.ref x0), (.ref x1)] 2 = mkF m 0 #[.val (.ref x0), .val (.ref x1)] [] := by first | (simp [entryFrame, mkF, argsToLocals, Value.category]; done) | rfl
set_option maxRecDepth 65536 in
set_option maxHeartbeats 40000000 in
theorem rm_leads12 (l : Launch) (Z : State) (a0 : Array Value) (hw : ∀ d ∈ tables_1, d.before a0 Z = true) (ws : List Jvm.Cond) (aFUTURE aACTIVE aCLOSED : Addr) (F0 : OwnFacts Z aFUTURE aACTIVE aCLOSED) (h0 : Heap) (n0 : Nat) (O0 : Old Z n0 h0) :
    MetFree l (⟨"com/example/cadenza/cadenza/core/SprintState", "leadsTo", "(Lcom/example/cadenza/cadenza/core/SprintState;)Z"⟩ : MethodName) (head1 (Jvm.Cond.code (⟨"com/example/cadenza/cadenza/core/SprintState", "leadsTo", "(Lcom/example/cadenza/cadenza/core/SprintState;)Z"⟩ : MethodName) prog_40_method_5_code 2 (some .boolean) :: ws) ({ frames := 1, cells := 0, slots := 0, locals := 12 } : Room)) (fun a U => a = #[(.ref aACTIVE), (.ref aCLOSED)] ∧ Z.Warmed39 U.vm ∧ U.heap = h0) (fun _ _ _ _ _ => True) (fun _ U o U' => ∃ v L, o = .returned v ∧ Q_leads12 Z aFUTURE aACTIVE aCLOSED h0 n0 v U'.heap L ∧ FrameEnd U o U' L ({ frames := 1, cells := 0, slots := 0, locals := 12 } : Room).cells ({ frames := 1, cells := 0, slots := 0, locals := 12 } : Room).slots) := by
  refine MetFree.of_bodySF (plainFor_of_name pn_com_example_cadenza_cadenza_core_SprintState) hisR ?_
  intro p e s m args below meth c s₁ Bd hml0 hP hK
  obtain ⟨rfl, hZ, hh⟩ := hP
  have hx := Bd.exec
  have hby := Bd.bytes
  have hml : c.maxLocals = 2 := hml0
  have hown : s.vm.findClass "com/example/cadenza/cadenza/core/SprintState" = some m.cls := findClass_of_methodNamed Bd.named
  have hnm := (name_of_methodNamed Bd.named Bd.method).1
  have X0 : Stand p l e ({ frames := 1, cells := 0, slots := 0, locals := 12 } : Room) s m #[(.ref aACTIVE), (.ref aCLOSED)] below meth c s₁ [] 0 0 := Stand.of_body Bd
  have e0 : s₁.heap = h0 := by rw [← hh, Bd.state]; rfl
  have N0 := Fr.nil n0
  refine own_go (Q := fun o U' => ∃ v L, o = .returned v ∧ Q_leads12 Z aFUTURE aACTIVE aCLOSED h0 n0 v U'.heap L ∧ FrameEnd s o U' L ({ frames := 1, cells := 0, slots := 0, locals := 12 } : Room).cells ({ frames := 1, cells := 0, slots := 0, locals := 12 } : Room).slots) (fun t k => castTop (ef_leads12 m aACTIVE aCLOSED) k) ?_
  show OwnGo p e below _ (s₁.setTop (mkF m 0 #[.val (.ref aACTIVE), .val (.ref aCLOSED)] []))
  refine own_go (fun _ k => XS.aloadN X0.here hx rfl (hb hby d_prog_40_method_5_0) rfl rfl k) ?_
  show OwnGo p e below _ (s₁.setTop (mkF m 1 #[.val (.ref aACTIVE), .val (.ref aCLOSED)] [(.ref aACTIVE)]))
  obtain ⟨cq19, kq19, qa19, qb19, qc19⟩ := isOf hZ e0 (F0.2.2.2.2.1.ext O0.2)
  obtain ⟨_, _, ⟨T19, L19, k19, n19⟩, -, X19, ⟨Lc19, hQ19, l19, y19, z19⟩, st19⟩ := X0.virtualBackUp hx (x := (⟨"com/example/cadenza/cadenza/core/SprintState", "ordinal", "()I"⟩ : MethodName)) (y := (⟨"java/lang/Enum", "ordinal", "()I"⟩ : MethodName)) (owner := "java/lang/Enum") hown (mvT hZ (hw _ (List.mem_of_getElem? (i := 13) rfl))) (mvT hZ (hw _ (List.mem_of_getElem? (i := 14) rfl))) (mvT hZ (hw _ (List.mem_of_getElem? (i := 15) rfl))) (by decide) (mvT hZ (hw _ (List.mem_of_getElem? (i := 17) rfl))) (mvT hZ (hw _ (List.mem_of_getElem? (i := 16) rfl))) (backOf (W := 0) (rm_ord1 l Z a0 hw [] aFUTURE aACTIVE aCLOSED F0 h0 n0 O0) hZ (hw _ (List.mem_of_getElem? (i := 19) rfl)) (hw _ (List.mem_of_getElem? (i := 18) rfl)) (by decide) (by decide)) qa19 qc19 (g := (mkF m 1 #[.val (.ref aACTIVE), .val (.ref aCLOSED)] [(.ref aACTIVE)])) rfl (by rw [hml]; rfl) (Steps.refl _) (argsL := []) (rest := []) (lenOf pd___I rfl) rfl (by show 2 * 0 + _ ≤ _; exact Nat.le_of_eq rfl) (hb hby d_prog_40_method_5_1) (fun _ _ => ⟨rfl, e0, (by decide : 0 + 0 ≤ _), (by decide : 0 + 0 ≤ _)⟩)
  dsimp only [Pt.U, Pt.locs, Pt.cells, Pt.slots] at X19 l19 y19 z19 st19 hQ19
  subst l19 y19 z19
  obtain ⟨rfl, Nq19, K19⟩ := hQ19
  have N19 := Fr.app N0 Nq19
  refine own_go (fun _ k => st19.trans k) ?_
  show OwnGo p e below _ (T19.setTop (mkF m 4 #[.val (.ref aACTIVE), .val (.ref aCLOSED)] [(.int (1 : Int32))]))
  refine own_go (fun _ k => XS.tswIn X19.here hx rfl (pc0 := 4) (pc' := 57) (o := 53) rfl (hb hby d_prog_40_method_5_4) rfl (by decide) (by decide) (by decide) (by decide) k) ?_
  show OwnGo p e below _ (T19.setTop (mkF m 57 #[.val (.ref aACTIVE), .val (.ref aCLOSED)] []))
  refine own_go (fun _ k => XS.aloadN X19.here hx rfl (hb hby d_prog_40_method_5_57) rfl rfl k) ?_
  show OwnGo p e below _ (T19.setTop (mkF m 58 #[.val (.ref aACTIVE), .val (.ref aCLOSED)] [(.ref aCLOSED)]))
  obtain ⟨T20, X20, e20, st20⟩ := getS X19 hx hZ hown (host := "") (hw _ (List.mem_of_getElem? (i := 27) rfl)) Via.refl K19 (F0.2.2.2.2.2.1.ext O0.2) (g := (mkF m 58 #[.val (.ref aACTIVE), .val (.ref aCLOSED)] [(.ref aCLOSED)])) rfl (hb hby d_prog_40_method_5_58)
  refine own_go st20 ?_
  show OwnGo p e below _ (T20.setTop (mkF m 61 #[.val (.ref aACTIVE), .val (.ref aCLOSED)] [(.ref aCLOSED), (.ref aCLOSED)]))
  refine own_go (fun _ k => acmp X20 hx rfl (cd := .ne) (o := 7) (x := (.ref aCLOSED)) (y := (.ref aCLOSED)) (pc0 := 61) (pc' := 64) rfl rfl rfl (hb hby d_prog_40_method_5_61) rfl (own_refeq _) (by decide) (by decide) k) ?_
  show OwnGo p e below _ (T20.setTop (mkF m 64 #[.val (.ref aACTIVE), .val (.ref aCLOSED)] []))
  refine own_go (fun _ k => XS.iconst X20.here hx rfl (hb hby d_prog_40_method_5_64) k) ?_
  show OwnGo p e below _ (T20.setTop (mkF m 65 #[.val (.ref aACTIVE), .val (.ref aCLOSED)] [(.int (1 : Int32))]))
  refine own_go (fun _ k => XS.goto X20.here hx rfl (pc0 := 65) (pc' := 73) rfl (hb hby d_prog_40_method_5_65) (by decide) (by decide) k) ?_
  show OwnGo p e below _ (T20.setTop (mkF m 73 #[.val (.ref aACTIVE), .val (.ref aCLOSED)] [(.int (1 : Int32))]))
  obtain ⟨fs, hr, hrun, hended, hW, hsame⟩ := X20.leave (v := some (.int (1 : Int32))) (fun h => by rw [Bd.returns] at h; cases h)
  refine ⟨_, _, retOut X20 hx Bd.returns rfl (Or.inl ⟨rfl, Or.inr (Or.inl rfl), _, rfl⟩) (hb hby d_prog_40_method_5_73) hr, hrun, hended, _, _, rfl, ?_, ⟨_, rfl⟩, hW, hsame.mono (by decide) (by decide)⟩
  show Q_leads12 Z aFUTURE aACTIVE aCLOSED h0 n0 _ T20.heap _
  rw [e20]
  exact ⟨rfl, N19, rfl⟩
def Q_leads13 (Z : State) (aFUTURE aACTIVE aCLOSED : Addr) (h0 : Heap) (n0 : Nat) (v : Option Value) (h : Heap) (L : List Loc) : Prop := v = some (.int (0 : Int32)) ∧ Fr n0 L ∧ h = h0
theorem ef_leads13 (m : MethodId) (x0 : Addr) : entryFrame m #[(.ref x0), .null] 2 = mkF m 0 #[.val (.ref x0), .val .null] [] := by first | (simp [entryFrame, mkF, argsToLocals, Value.category]; done) | rfl
set_option maxRecDepth 65536 in
set_option maxHeartbeats 40000000 in
theorem rm_leads13 (l : Launch) (Z : State) (a0 : Array Value) (hw : ∀ d ∈ tables_1, d.before a0 Z = true) (ws : List Jvm.Cond) (aFUTURE aACTIVE aCLOSED : Addr) (F0 : OwnFacts Z aFUTURE aACTIVE aCLOSED) (h0 : Heap) (n0 : Nat) (O0 : Old Z n0 h0) :
    MetFree l (⟨"com/example/cadenza/cadenza/core/SprintState", "leadsTo", "(Lcom/example/cadenza/cadenza/core/SprintState;)Z"⟩ : MethodName) (head1 (Jvm.Cond.code (⟨"com/example/cadenza/cadenza/core/SprintState", "leadsTo", "(Lcom/example/cadenza/cadenza/core/SprintState;)Z"⟩ : MethodName) prog_40_method_5_code 2 (some .boolean) :: ws) ({ frames := 1, cells := 0, slots := 0, locals := 12 } : Room)) (fun a U => a = #[(.ref aACTIVE), .null] ∧ Z.Warmed39 U.vm ∧ U.heap = h0) (fun _ _ _ _ _ => True) (fun _ U o U' => ∃ v L, o = .returned v ∧ Q_leads13 Z aFUTURE aACTIVE aCLOSED h0 n0 v U'.heap L ∧ FrameEnd U o U' L ({ frames := 1, cells := 0, slots := 0, locals := 12 } : Room).cells ({ frames := 1, cells := 0, slots := 0, locals := 12 } : Room).slots) := by
  refine MetFree.of_bodySF (plainFor_of_name pn_com_example_cadenza_cadenza_core_SprintState) hisR ?_
  intro p e s m args below meth c s₁ Bd hml0 hP hK
  obtain ⟨rfl, hZ, hh⟩ := hP
  have hx := Bd.exec
  have hby := Bd.bytes
  have hml : c.maxLocals = 2 := hml0
  have hown : s.vm.findClass "com/example/cadenza/cadenza/core/SprintState" = some m.cls := findClass_of_methodNamed Bd.named
  have hnm := (name_of_methodNamed Bd.named Bd.method).1
  have X0 : Stand p l e ({ frames := 1, cells := 0, slots := 0, locals := 12 } : Room) s m #[(.ref aACTIVE), .null] below meth c s₁ [] 0 0 := Stand.of_body Bd
  have e0 : s₁.heap = h0 := by rw [← hh, Bd.state]; rfl
  have N0 := Fr.nil n0
  refine own_go (Q := fun o U' => ∃ v L, o = .returned v ∧ Q_leads13 Z aFUTURE aACTIVE aCLOSED h0 n0 v U'.heap L ∧ FrameEnd s o U' L ({ frames := 1, cells := 0, slots := 0, locals := 12 } : Room).cells ({ frames := 1, cells := 0, slots := 0, locals := 12 } : Room).slots) (fun t k => castTop (ef_leads13 m aACTIVE) k) ?_
  show OwnGo p e below _ (s₁.setTop (mkF m 0 #[.val (.ref aACTIVE), .val .null] []))
  refine own_go (fun _ k => XS.aloadN X0.here hx rfl (hb hby d_prog_40_method_5_0) rfl rfl k) ?_
  show OwnGo p e below _ (s₁.setTop (mkF m 1 #[.val (.ref aACTIVE), .val .null] [(.ref aACTIVE)]))
  obtain ⟨cq21, kq21, qa21, qb21, qc21⟩ := isOf hZ e0 (F0.2.2.2.2.1.ext O0.2)
  obtain ⟨_, _, ⟨T21, L21, k21, n21⟩, -, X21, ⟨Lc21, hQ21, l21, y21, z21⟩, st21⟩ := X0.virtualBackUp hx (x := (⟨"com/example/cadenza/cadenza/core/SprintState", "ordinal", "()I"⟩ : MethodName)) (y := (⟨"java/lang/Enum", "ordinal", "()I"⟩ : MethodName)) (owner := "java/lang/Enum") hown (mvT hZ (hw _ (List.mem_of_getElem? (i := 13) rfl))) (mvT hZ (hw _ (List.mem_of_getElem? (i := 14) rfl))) (mvT hZ (hw _ (List.mem_of_getElem? (i := 15) rfl))) (by decide) (mvT hZ (hw _ (List.mem_of_getElem? (i := 17) rfl))) (mvT hZ (hw _ (List.mem_of_getElem? (i := 16) rfl))) (backOf (W := 0) (rm_ord1 l Z a0 hw [] aFUTURE aACTIVE aCLOSED F0 h0 n0 O0) hZ (hw _ (List.mem_of_getElem? (i := 19) rfl)) (hw _ (List.mem_of_getElem? (i := 18) rfl)) (by decide) (by decide)) qa21 qc21 (g := (mkF m 1 #[.val (.ref aACTIVE), .val .null] [(.ref aACTIVE)])) rfl (by rw [hml]; rfl) (Steps.refl _) (argsL := []) (rest := []) (lenOf pd___I rfl) rfl (by show 2 * 0 + _ ≤ _; exact Nat.le_of_eq rfl) (hb hby d_prog_40_method_5_1) (fun _ _ => ⟨rfl, e0, (by decide : 0 + 0 ≤ _), (by decide : 0 + 0 ≤ _)⟩)
  dsimp only [Pt.U, Pt.locs, Pt.cells, Pt.slots] at X21 l21 y21 z21 st21 hQ21
  subst l21 y21 z21
  obtain ⟨rfl, Nq21, K21⟩ := hQ21
  have N21 := Fr.app N0 Nq21
  refine own_go (fun _ k => st21.trans k) ?_
  show OwnGo p e below _ (T21.setTop (mkF m 4 #[.val (.ref aACTIVE), .val .null] [(.int (1 : Int32))]))
  refine own_go (fun _ k => XS.tswIn X21.here hx rfl (pc0 := 4) (pc' := 57) (o := 53) rfl (hb hby d_prog_40_method_5_4) rfl (by decide) (by decide) (by decide) (by decide) k) ?_
  show OwnGo p e below _ (T21.setTop (mkF m 57 #[.val (.ref aACTIVE), .val .null] []))
  refine own_go (fun _ k => XS.aloadN X21.here hx rfl (hb hby d_prog_40_method_5_57) rfl rfl k) ?_
  show OwnGo p e below _ (T21.setTop (mkF m 58 #[.val (.ref aACTIVE), .val .null] [.null]))
  obtain ⟨T22, X22, e22, st22⟩ := getS X21 hx hZ hown (host := "") (hw _ (List.mem_of_getElem? (i := 27) rfl)) Via.refl K21 (F0.2.2.2.2.2.1.ext O0.2) (g := (mkF m 58 #[.val (.ref aACTIVE), .val .null] [.null])) rfl (hb hby d_prog_40_method_5_58)
  refine own_go st22 ?_
  show OwnGo p e below _ (T22.setTop (mkF m 61 #[.val (.ref aACTIVE), .val .null] [(.ref aCLOSED), .null]))
  refine own_go (fun _ k => acmp X22 hx rfl (cd := .ne) (o := 7) (x := .null) (y := (.ref aCLOSED)) (pc0 := 61) (pc' := 68) rfl rfl rfl (hb hby d_prog_40_method_5_61) rfl (own_nr _) (by decide) (by decide) k) ?_
  show OwnGo p e below _ (T22.setTop (mkF m 68 #[.val (.ref aACTIVE), .val .null] []))
  refine own_go (fun _ k => XS.iconst X22.here hx rfl (hb hby d_prog_40_method_5_68) k) ?_
  show OwnGo p e below _ (T22.setTop (mkF m 69 #[.val (.ref aACTIVE), .val .null] [(.int (0 : Int32))]))
  refine own_go (fun _ k => XS.goto X22.here hx rfl (pc0 := 69) (pc' := 73) rfl (hb hby d_prog_40_method_5_69) (by decide) (by decide) k) ?_
  show OwnGo p e below _ (T22.setTop (mkF m 73 #[.val (.ref aACTIVE), .val .null] [(.int (0 : Int32))]))
  obtain ⟨fs, hr, hrun, hended, hW, hsame⟩ := X22.leave (v := some (.int (0 : Int32))) (fun h => by rw [Bd.returns] at h; cases h)
  refine ⟨_, _, retOut X22 hx Bd.returns rfl (Or.inl ⟨rfl, Or.inr (Or.inl rfl), _, rfl⟩) (hb hby d_prog_40_method_5_73) hr, hrun, hended, _, _, rfl, ?_, ⟨_, rfl⟩, hW, hsame.mono (by decide) (by decide)⟩
  show Q_leads13 Z aFUTURE aACTIVE aCLOSED h0 n0 _ T22.heap _
  rw [e22]
  exact ⟨rfl, N21, rfl⟩
theorem d_prog_40_method_5_72 : decode prog_40_method_5_code 72 = .ok (.iconst 0, 1) := by decide +kernel
def Q_leads20 (Z : State) (aFUTURE aACTIVE aCLOSED : Addr) (h0 : Heap) (n0 : Nat) (v : Option Value) (h : Heap) (L : List Loc) : Prop := v = some (.int (0 : Int32)) ∧ Fr n0 L ∧ h = h0
theorem ef_leads20 (m : MethodId) (x0 : Addr) (x1 : Addr) : entryFrame m #[(.ref x0), (.ref x1)] 2 = mkF m 0 #[.val (.ref x0), .val (.ref x1)] [] := by first | (simp [entryFrame, mkF, argsToLocals, Value.category]; done) | rfl
set_option maxRecDepth 65536 in
set_option maxHeartbeats 40000000 in
theorem rm_leads20 (l : Launch) (Z : State) (a0 : Array Value) (hw : ∀ d ∈ tables_1, d.before a0 Z = true) (ws : List Jvm.Cond) (aFUTURE aACTIVE aCLOSED : Addr) (F0 : OwnFacts Z aFUTURE aACTIVE aCLOSED) (h0 : Heap) (n0 : Nat) (O0 : Old Z n0 h0) :
    MetFree l (⟨"com/example/cadenza/cadenza/core/SprintState", "leadsTo", "(Lcom/example/cadenza/cadenza/core/SprintState;)Z"⟩ : MethodName) (head1 (Jvm.Cond.code (⟨"com/example/cadenza/cadenza/core/SprintState", "leadsTo", "(Lcom/example/cadenza/cadenza/core/SprintState;)Z"⟩ : MethodName) prog_40_method_5_code 2 (some .boolean) :: ws) ({ frames := 1, cells := 0, slots := 0, locals := 12 } : Room)) (fun a U => a = #[(.ref aCLOSED), (.ref aFUTURE)] ∧ Z.Warmed39 U.vm ∧ U.heap = h0) (fun _ _ _ _ _ => True) (fun _ U o U' => ∃ v L, o = .returned v ∧ Q_leads20 Z aFUTURE aACTIVE aCLOSED h0 n0 v U'.heap L ∧ FrameEnd U o U' L ({ frames := 1, cells := 0, slots := 0, locals := 12 } : Room).cells ({ frames := 1, cells := 0, slots := 0, locals := 12 } : Room).slots) := by
  refine MetFree.of_bodySF (plainFor_of_name pn_com_example_cadenza_cadenza_core_SprintState) hisR ?_
  intro p e s m args below meth c s₁ Bd hml0 hP hK
  obtain ⟨rfl, hZ, hh⟩ := hP
  have hx := Bd.exec
  have hby := Bd.bytes
  have hml : c.maxLocals = 2 := hml0
  have hown : s.vm.findClass "com/example/cadenza/cadenza/core/SprintState" = some m.cls := findClass_of_methodNamed Bd.named
  have hnm := (name_of_methodNamed Bd.named Bd.method).1
  have X0 : Stand p l e ({ frames := 1, cells := 0, slots := 0, locals := 12 } : Room) s m #[(.ref aCLOSED), (.ref aFUTURE)] below meth c s₁ [] 0 0 := Stand.of_body Bd
  have e0 : s₁.heap = h0 := by rw [← hh, Bd.state]; rfl
  have N0 := Fr.nil n0
  refine own_go (Q := fun o U' => ∃ v L, o = .returned v ∧ Q_leads20 Z aFUTURE aACTIVE aCLOSED h0 n0 v U'.heap L ∧ FrameEnd s o U' L ({ frames := 1, cells := 0, slots := 0, locals := 12 } : Room).cells ({ frames := 1, cells := 0, slots := 0, locals := 12 } : Room).slots) (fun t k => castTop (ef_leads20 m aCLOSED aFUTURE) k) ?_
  show OwnGo p e below _ (s₁.setTop (mkF m 0 #[.val (.ref aCLOSED), .val (.ref aFUTURE)] []))
  refine own_go (fun _ k => XS.aloadN X0.here hx rfl (hb hby d_prog_40_method_5_0) rfl rfl k) ?_
  show OwnGo p e below _ (s₁.setTop (mkF m 1 #[.val (.ref aCLOSED), .val (.ref aFUTURE)] [(.ref aCLOSED)]))
  obtain ⟨cq23, kq23, qa23, qb23, qc23⟩ := isOf hZ e0 (F0.2.2.2.2.2.2.1.ext O0.2)
  obtain ⟨_, _, ⟨T23, L23, k23, n23⟩, -, X23, ⟨Lc23, hQ23, l23, y23, z23⟩, st23⟩ := X0.virtualBackUp hx (x := (⟨"com/example/cadenza/cadenza/core/SprintState", "ordinal", "()I"⟩ : MethodName)) (y := (⟨"java/lang/Enum", "ordinal", "()I"⟩ : MethodName)) (owner := "java/lang/Enum") hown (mvT hZ (hw _ (List.mem_of_getElem? (i := 13) rfl))) (mvT hZ (hw _ (List.mem_of_getElem? (i := 14) rfl))) (mvT hZ (hw _ (List.mem_of_getElem? (i := 15) rfl))) (by decide) (mvT hZ (hw _ (List.mem_of_getElem? (i := 17) rfl))) (mvT hZ (hw _ (List.mem_of_getElem? (i := 16) rfl))) (backOf (W := 0) (rm_ord2 l Z a0 hw [] aFUTURE aACTIVE aCLOSED F0 h0 n0 O0) hZ (hw _ (List.mem_of_getElem? (i := 19) rfl)) (hw _ (List.mem_of_getElem? (i := 18) rfl)) (by decide) (by decide)) qa23 qc23 (g := (mkF m 1 #[.val (.ref aCLOSED), .val (.ref aFUTURE)] [(.ref aCLOSED)])) rfl (by rw [hml]; rfl) (Steps.refl _) (argsL := []) (rest := []) (lenOf pd___I rfl) rfl (by show 2 * 0 + _ ≤ _; exact Nat.le_of_eq rfl) (hb hby d_prog_40_method_5_1) (fun _ _ => ⟨rfl, e0, (by decide : 0 + 0 ≤ _), (by decide : 0 + 0 ≤ _)⟩)
  dsimp only [Pt.U, Pt.locs, Pt.cells, Pt.slots] at X23 l23 y23 z23 st23 hQ23
  subst l23 y23 z23
  obtain ⟨rfl, Nq23, K23⟩ := hQ23
  have N23 := Fr.app N0 Nq23
  refine own_go (fun _ k => st23.trans k) ?_
  show OwnGo p e below _ (T23.setTop (mkF m 4 #[.val (.ref aCLOSED), .val (.ref aFUTURE)] [(.int (2 : Int32))]))
  refine own_go (fun _ k => XS.tswIn X23.here hx rfl (pc0 := 4) (pc' := 72) (o := 68) rfl (hb hby d_prog_40_method_5_4) rfl (by decide) (by decide) (by decide) (by decide) k) ?_
  show OwnGo p e below _ (T23.setTop (mkF m 72 #[.val (.ref aCLOSED), .val (.ref aFUTURE)] []))
  refine own_go (fun _ k => XS.iconst X23.here hx rfl (hb hby d_prog_40_method_5_72) k) ?_
  show OwnGo p e below _ (T23.setTop (mkF m 73 #[.val (.ref aCLOSED), .val (.ref aFUTURE)] [(.int (0 : Int32))]))
  obtain ⟨fs, hr, hrun, hended, hW, hsame⟩ := X23.leave (v := some (.int (0 : Int32))) (fun h => by rw [Bd.returns] at h; cases h)
  refine ⟨_, _, retOut X23 hx Bd.returns rfl (Or.inl ⟨rfl, Or.inr (Or.inl rfl), _, rfl⟩) (hb hby d_prog_40_method_5_73) hr, hrun, hended, _, _, rfl, ?_, ⟨_, rfl⟩, hW, hsame.mono (by decide) (by decide)⟩
  show Q_leads20 Z aFUTURE aACTIVE aCLOSED h0 n0 _ T23.heap _
  rw [K23]
  exact ⟨rfl, N23, rfl⟩
def Q_leads21 (Z : State) (aFUTURE aACTIVE aCLOSED : Addr) (h0 : Heap) (n0 : Nat) (v : Option Value) (h : Heap) (L : List Loc) : Prop := v = some (.int (0 : Int32)) ∧ Fr n0 L ∧ h = h0
theorem ef_leads21 (m : MethodId) (x0 : Addr) (x1 : Addr) : entryFrame m #[(.ref x0), (.ref x1)] 2 = mkF m 0 #[.val (.ref x0), .val (.ref x1)] [] := by first | (simp [entryFrame, mkF, argsToLocals, Value.category]; done) | rfl
set_option maxRecDepth 65536 in
set_option maxHeartbeats 40000000 in
theorem rm_leads21 (l : Launch) (Z : State) (a0 : Array Value) (hw : ∀ d ∈ tables_1, d.before a0 Z = true) (ws : List Jvm.Cond) (aFUTURE aACTIVE aCLOSED : Addr) (F0 : OwnFacts Z aFUTURE aACTIVE aCLOSED) (h0 : Heap) (n0 : Nat) (O0 : Old Z n0 h0) :
    MetFree l (⟨"com/example/cadenza/cadenza/core/SprintState", "leadsTo", "(Lcom/example/cadenza/cadenza/core/SprintState;)Z"⟩ : MethodName) (head1 (Jvm.Cond.code (⟨"com/example/cadenza/cadenza/core/SprintState", "leadsTo", "(Lcom/example/cadenza/cadenza/core/SprintState;)Z"⟩ : MethodName) prog_40_method_5_code 2 (some .boolean) :: ws) ({ frames := 1, cells := 0, slots := 0, locals := 12 } : Room)) (fun a U => a = #[(.ref aCLOSED), (.ref aACTIVE)] ∧ Z.Warmed39 U.vm ∧ U.heap = h0) (fun _ _ _ _ _ => True) (fun _ U o U' => ∃ v L, o = .returned v ∧ Q_leads21 Z aFUTURE aACTIVE aCLOSED h0 n0 v U'.heap L ∧ FrameEnd U o U' L ({ frames := 1, cells := 0, slots := 0, locals := 12 } : Room).cells ({ frames := 1, cells := 0, slots := 0, locals := 12 } : Room).slots) := by
  refine MetFree.of_bodySF (plainFor_of_name pn_com_example_cadenza_cadenza_core_SprintState) hisR ?_
  intro p e s m args below meth c s₁ Bd hml0 hP hK
  obtain ⟨rfl, hZ, hh⟩ := hP
  have hx := Bd.exec
  have hby := Bd.bytes
  have hml : c.maxLocals = 2 := hml0
  have hown : s.vm.findClass "com/example/cadenza/cadenza/core/SprintState" = some m.cls := findClass_of_methodNamed Bd.named
  have hnm := (name_of_methodNamed Bd.named Bd.method).1
  have X0 : Stand p l e ({ frames := 1, cells := 0, slots := 0, locals := 12 } : Room) s m #[(.ref aCLOSED), (.ref aACTIVE)] below meth c s₁ [] 0 0 := Stand.of_body Bd
  have e0 : s₁.heap = h0 := by rw [← hh, Bd.state]; rfl
  have N0 := Fr.nil n0
  refine own_go (Q := fun o U' => ∃ v L, o = .returned v ∧ Q_leads21 Z aFUTURE aACTIVE aCLOSED h0 n0 v U'.heap L ∧ FrameEnd s o U' L ({ frames := 1, cells := 0, slots := 0, locals := 12 } : Room).cells ({ frames := 1, cells := 0, slots := 0, locals := 12 } : Room).slots) (fun t k => castTop (ef_leads21 m aCLOSED aACTIVE) k) ?_
  show OwnGo p e below _ (s₁.setTop (mkF m 0 #[.val (.ref aCLOSED), .val (.ref aACTIVE)] []))
  refine own_go (fun _ k => XS.aloadN X0.here hx rfl (hb hby d_prog_40_method_5_0) rfl rfl k) ?_
  show OwnGo p e below _ (s₁.setTop (mkF m 1 #[.val (.ref aCLOSED), .val (.ref aACTIVE)] [(.ref aCLOSED)]))
  obtain ⟨cq24, kq24, qa24, qb24, qc24⟩ := isOf hZ e0 (F0.2.2.2.2.2.2.1.ext O0.2)
  obtain ⟨_, _, ⟨T24, L24, k24, n24⟩, -, X24, ⟨Lc24, hQ24, l24, y24, z24⟩, st24⟩ := X0.virtualBackUp hx (x := (⟨"com/example/cadenza/cadenza/core/SprintState", "ordinal", "()I"⟩ : MethodName)) (y := (⟨"java/lang/Enum", "ordinal", "()I"⟩ : MethodName)) (owner := "java/lang/Enum") hown (mvT hZ (hw _ (List.mem_of_getElem? (i := 13) rfl))) (mvT hZ (hw _ (List.mem_of_getElem? (i := 14) rfl))) (mvT hZ (hw _ (List.mem_of_getElem? (i := 15) rfl))) (by decide) (mvT hZ (hw _ (List.mem_of_getElem? (i := 17) rfl))) (mvT hZ (hw _ (List.mem_of_getElem? (i := 16) rfl))) (backOf (W := 0) (rm_ord2 l Z a0 hw [] aFUTURE aACTIVE aCLOSED F0 h0 n0 O0) hZ (hw _ (List.mem_of_getElem? (i := 19) rfl)) (hw _ (List.mem_of_getElem? (i := 18) rfl)) (by decide) (by decide)) qa24 qc24 (g := (mkF m 1 #[.val (.ref aCLOSED), .val (.ref aACTIVE)] [(.ref aCLOSED)])) rfl (by rw [hml]; rfl) (Steps.refl _) (argsL := []) (rest := []) (lenOf pd___I rfl) rfl (by show 2 * 0 + _ ≤ _; exact Nat.le_of_eq rfl) (hb hby d_prog_40_method_5_1) (fun _ _ => ⟨rfl, e0, (by decide : 0 + 0 ≤ _), (by decide : 0 + 0 ≤ _)⟩)
  dsimp only [Pt.U, Pt.locs, Pt.cells, Pt.slots] at X24 l24 y24 z24 st24 hQ24
  subst l24 y24 z24
  obtain ⟨rfl, Nq24, K24⟩ := hQ24
  have N24 := Fr.app N0 Nq24
  refine own_go (fun _ k => st24.trans k) ?_
  show OwnGo p e below _ (T24.setTop (mkF m 4 #[.val (.ref aCLOSED), .val (.ref aACTIVE)] [(.int (2 : Int32))]))
  refine own_go (fun _ k => XS.tswIn X24.here hx rfl (pc0 := 4) (pc' := 72) (o := 68) rfl (hb hby d_prog_40_method_5_4) rfl (by decide) (by decide) (by decide) (by decide) k) ?_
  show OwnGo p e below _ (T24.setTop (mkF m 72 #[.val (.ref aCLOSED), .val (.ref aACTIVE)] []))
  refine own_go (fun _ k => XS.iconst X24.here hx rfl (hb hby d_prog_40_method_5_72) k) ?_
  show OwnGo p e below _ (T24.setTop (mkF m 73 #[.val (.ref aCLOSED), .val (.ref aACTIVE)] [(.int (0 : Int32))]))
  obtain ⟨fs, hr, hrun, hended, hW, hsame⟩ := X24.leave (v := some (.int (0 : Int32))) (fun h => by rw [Bd.returns] at h; cases h)
  refine ⟨_, _, retOut X24 hx Bd.returns rfl (Or.inl ⟨rfl, Or.inr (Or.inl rfl), _, rfl⟩) (hb hby d_prog_40_method_5_73) hr, hrun, hended, _, _, rfl, ?_, ⟨_, rfl⟩, hW, hsame.mono (by decide) (by decide)⟩
  show Q_leads21 Z aFUTURE aACTIVE aCLOSED h0 n0 _ T24.heap _
  rw [K24]
  exact ⟨rfl, N24, rfl⟩
def Q_leads22 (Z : State) (aFUTURE aACTIVE aCLOSED : Addr) (h0 : Heap) (n0 : Nat) (v : Option Value) (h : Heap) (L : List Loc) : Prop := v = some (.int (0 : Int32)) ∧ Fr n0 L ∧ h = h0
theorem ef_leads22 (m : MethodId) (x0 : Addr) (x1 : Addr) : entryFrame m #[(.ref x0), (.ref x1)] 2 = mkF m 0 #[.val (.ref x0), .val (.ref x1)] [] := by first | (simp [entryFrame, mkF, argsToLocals, Value.category]; done) | rfl
set_option maxRecDepth 65536 in
set_option maxHeartbeats 40000000 in
theorem rm_leads22 (l : Launch) (Z : State) (a0 : Array Value) (hw : ∀ d ∈ tables_1, d.before a0 Z = true) (ws : List Jvm.Cond) (aFUTURE aACTIVE aCLOSED : Addr) (F0 : OwnFacts Z aFUTURE aACTIVE aCLOSED) (h0 : Heap) (n0 : Nat) (O0 : Old Z n0 h0) :
    MetFree l (⟨"com/example/cadenza/cadenza/core/SprintState", "leadsTo", "(Lcom/example/cadenza/cadenza/core/SprintState;)Z"⟩ : MethodName) (head1 (Jvm.Cond.code (⟨"com/example/cadenza/cadenza/core/SprintState", "leadsTo", "(Lcom/example/cadenza/cadenza/core/SprintState;)Z"⟩ : MethodName) prog_40_method_5_code 2 (some .boolean) :: ws) ({ frames := 1, cells := 0, slots := 0, locals := 12 } : Room)) (fun a U => a = #[(.ref aCLOSED), (.ref aCLOSED)] ∧ Z.Warmed39 U.vm ∧ U.heap = h0) (fun _ _ _ _ _ => True) (fun _ U o U' => ∃ v L, o = .returned v ∧ Q_leads22 Z aFUTURE aACTIVE aCLOSED h0 n0 v U'.heap L ∧ FrameEnd U o U' L ({ frames := 1, cells := 0, slots := 0, locals := 12 } : Room).cells ({ frames := 1, cells := 0, slots := 0, locals := 12 } : Room).slots) := by
  refine MetFree.of_bodySF (plainFor_of_name pn_com_example_cadenza_cadenza_core_SprintState) hisR ?_
  intro p e s m args below meth c s₁ Bd hml0 hP hK
  obtain ⟨rfl, hZ, hh⟩ := hP
  have hx := Bd.exec
  have hby := Bd.bytes
  have hml : c.maxLocals = 2 := hml0
  have hown : s.vm.findClass "com/example/cadenza/cadenza/core/SprintState" = some m.cls := findClass_of_methodNamed Bd.named
  have hnm := (name_of_methodNamed Bd.named Bd.method).1
  have X0 : Stand p l e ({ frames := 1, cells := 0, slots := 0, locals := 12 } : Room) s m #[(.ref aCLOSED), (.ref aCLOSED)] below meth c s₁ [] 0 0 := Stand.of_body Bd
  have e0 : s₁.heap = h0 := by rw [← hh, Bd.state]; rfl
  have N0 := Fr.nil n0
  refine own_go (Q := fun o U' => ∃ v L, o = .returned v ∧ Q_leads22 Z aFUTURE aACTIVE aCLOSED h0 n0 v U'.heap L ∧ FrameEnd s o U' L ({ frames := 1, cells := 0, slots := 0, locals := 12 } : Room).cells ({ frames := 1, cells := 0, slots := 0, locals := 12 } : Room).slots) (fun t k => castTop (ef_leads22 m aCLOSED aCLOSED) k) ?_
  show OwnGo p e below _ (s₁.setTop (mkF m 0 #[.val (.ref aCLOSED), .val (.ref aCLOSED)] []))
  refine own_go (fun _ k => XS.aloadN X0.here hx rfl (hb hby d_prog_40_method_5_0) rfl rfl k) ?_
  show OwnGo p e below _ (s₁.setTop (mkF m 1 #[.val (.ref aCLOSED), .val (.ref aCLOSED)] [(.ref aCLOSED)]))
  obtain ⟨cq25, kq25, qa25, qb25, qc25⟩ := isOf hZ e0 (F0.2.2.2.2.2.2.1.ext O0.2)
  obtain ⟨_, _, ⟨T25, L25, k25, n25⟩, -, X25, ⟨Lc25, hQ25, l25, y25, z25⟩, st25⟩ := X0.virtualBackUp hx (x := (⟨"com/example/cadenza/cadenza/core/SprintState", "ordinal", "()I"⟩ : MethodName)) (y := (⟨"java/lang/Enum", "ordinal", "()I"⟩ : MethodName)) (owner := "java/lang/Enum") hown (mvT hZ (hw _ (List.mem_of_getElem? (i := 13) rfl))) (mvT hZ (hw _ (List.mem_of_getElem? (i := 14) rfl))) (mvT hZ (hw _ (List.mem_of_getElem? (i := 15) rfl))) (by decide) (mvT hZ (hw _ (List.mem_of_getElem? (i := 17) rfl))) (mvT hZ (hw _ (List.mem_of_getElem? (i := 16) rfl))) (backOf (W := 0) (rm_ord2 l Z a0 hw [] aFUTURE aACTIVE aCLOSED F0 h0 n0 O0) hZ (hw _ (List.mem_of_getElem? (i := 19) rfl)) (hw _ (List.mem_of_getElem? (i := 18) rfl)) (by decide) (by decide)) qa25 qc25 (g := (mkF m 1 #[.val (.ref aCLOSED), .val (.ref aCLOSED)] [(.ref aCLOSED)])) rfl (by rw [hml]; rfl) (Steps.refl _) (argsL := []) (rest := []) (lenOf pd___I rfl) rfl (by show 2 * 0 + _ ≤ _; exact Nat.le_of_eq rfl) (hb hby d_prog_40_method_5_1) (fun _ _ => ⟨rfl, e0, (by decide : 0 + 0 ≤ _), (by decide : 0 + 0 ≤ _)⟩)
  dsimp only [Pt.U, Pt.locs, Pt.cells, Pt.slots] at X25 l25 y25 z25 st25 hQ25
  subst l25 y25 z25
  obtain ⟨rfl, Nq25, K25⟩ := hQ25
  have N25 := Fr.app N0 Nq25
  refine own_go (fun _ k => st25.trans k) ?_
  show OwnGo p e below _ (T25.setTop (mkF m 4 #[.val (.ref aCLOSED), .val (.ref aCLOSED)] [(.int (2 : Int32))]))
  refine own_go (fun _ k => XS.tswIn X25.here hx rfl (pc0 := 4) (pc' := 72) (o := 68) rfl (hb hby d_prog_40_method_5_4) rfl (by decide) (by decide) (by decide) (by decide) k) ?_
  show OwnGo p e below _ (T25.setTop (mkF m 72 #[.val (.ref aCLOSED), .val (.ref aCLOSED)] []))
  refine own_go (fun _ k => XS.iconst X25.here hx rfl (hb hby d_prog_40_method_5_72) k) ?_
  show OwnGo p e below _ (T25.setTop (mkF m 73 #[.val (.ref aCLOSED), .val (.ref aCLOSED)] [(.int (0 : Int32))]))
  obtain ⟨fs, hr, hrun, hended, hW, hsame⟩ := X25.leave (v := some (.int (0 : Int32))) (fun h => by rw [Bd.returns] at h; cases h)
  refine ⟨_, _, retOut X25 hx Bd.returns rfl (Or.inl ⟨rfl, Or.inr (Or.inl rfl), _, rfl⟩) (hb hby d_prog_40_method_5_73) hr, hrun, hended, _, _, rfl, ?_, ⟨_, rfl⟩, hW, hsame.mono (by decide) (by decide)⟩
  show Q_leads22 Z aFUTURE aACTIVE aCLOSED h0 n0 _ T25.heap _
  rw [K25]
  exact ⟨rfl, N25, rfl⟩
def Q_leads23 (Z : State) (aFUTURE aACTIVE aCLOSED : Addr) (h0 : Heap) (n0 : Nat) (v : Option Value) (h : Heap) (L : List Loc) : Prop := v = some (.int (0 : Int32)) ∧ Fr n0 L ∧ h = h0
theorem ef_leads23 (m : MethodId) (x0 : Addr) : entryFrame m #[(.ref x0), .null] 2 = mkF m 0 #[.val (.ref x0), .val .null] [] := by first | (simp [entryFrame, mkF, argsToLocals, Value.category]; done) | rfl
set_option maxRecDepth 65536 in
set_option maxHeartbeats 40000000 in
theorem rm_leads23 (l : Launch) (Z : State) (a0 : Array Value) (hw : ∀ d ∈ tables_1, d.before a0 Z = true) (ws : List Jvm.Cond) (aFUTURE aACTIVE aCLOSED : Addr) (F0 : OwnFacts Z aFUTURE aACTIVE aCLOSED) (h0 : Heap) (n0 : Nat) (O0 : Old Z n0 h0) :
    MetFree l (⟨"com/example/cadenza/cadenza/core/SprintState", "leadsTo", "(Lcom/example/cadenza/cadenza/core/SprintState;)Z"⟩ : MethodName) (head1 (Jvm.Cond.code (⟨"com/example/cadenza/cadenza/core/SprintState", "leadsTo", "(Lcom/example/cadenza/cadenza/core/SprintState;)Z"⟩ : MethodName) prog_40_method_5_code 2 (some .boolean) :: ws) ({ frames := 1, cells := 0, slots := 0, locals := 12 } : Room)) (fun a U => a = #[(.ref aCLOSED), .null] ∧ Z.Warmed39 U.vm ∧ U.heap = h0) (fun _ _ _ _ _ => True) (fun _ U o U' => ∃ v L, o = .returned v ∧ Q_leads23 Z aFUTURE aACTIVE aCLOSED h0 n0 v U'.heap L ∧ FrameEnd U o U' L ({ frames := 1, cells := 0, slots := 0, locals := 12 } : Room).cells ({ frames := 1, cells := 0, slots := 0, locals := 12 } : Room).slots) := by
  refine MetFree.of_bodySF (plainFor_of_name pn_com_example_cadenza_cadenza_core_SprintState) hisR ?_
  intro p e s m args below meth c s₁ Bd hml0 hP hK
  obtain ⟨rfl, hZ, hh⟩ := hP
  have hx := Bd.exec
  have hby := Bd.bytes
  have hml : c.maxLocals = 2 := hml0
  have hown : s.vm.findClass "com/example/cadenza/cadenza/core/SprintState" = some m.cls := findClass_of_methodNamed Bd.named
  have hnm := (name_of_methodNamed Bd.named Bd.method).1
  have X0 : Stand p l e ({ frames := 1, cells := 0, slots := 0, locals := 12 } : Room) s m #[(.ref aCLOSED), .null] below meth c s₁ [] 0 0 := Stand.of_body Bd
  have e0 : s₁.heap = h0 := by rw [← hh, Bd.state]; rfl
  have N0 := Fr.nil n0
  refine own_go (Q := fun o U' => ∃ v L, o = .returned v ∧ Q_leads23 Z aFUTURE aACTIVE aCLOSED h0 n0 v U'.heap L ∧ FrameEnd s o U' L ({ frames := 1, cells := 0, slots := 0, locals := 12 } : Room).cells ({ frames := 1, cells := 0, slots := 0, locals := 12 } : Room).slots) (fun t k => castTop (ef_leads23 m aCLOSED) k) ?_
  show OwnGo p e below _ (s₁.setTop (mkF m 0 #[.val (.ref aCLOSED), .val .null] []))
  refine own_go (fun _ k => XS.aloadN X0.here hx rfl (hb hby d_prog_40_method_5_0) rfl rfl k) ?_
  show OwnGo p e below _ (s₁.setTop (mkF m 1 #[.val (.ref aCLOSED), .val .null] [(.ref aCLOSED)]))
  obtain ⟨cq26, kq26, qa26, qb26, qc26⟩ := isOf hZ e0 (F0.2.2.2.2.2.2.1.ext O0.2)
  obtain ⟨_, _, ⟨T26, L26, k26, n26⟩, -, X26, ⟨Lc26, hQ26, l26, y26, z26⟩, st26⟩ := X0.virtualBackUp hx (x := (⟨"com/example/cadenza/cadenza/core/SprintState", "ordinal", "()I"⟩ : MethodName)) (y := (⟨"java/lang/Enum", "ordinal", "()I"⟩ : MethodName)) (owner := "java/lang/Enum") hown (mvT hZ (hw _ (List.mem_of_getElem? (i := 13) rfl))) (mvT hZ (hw _ (List.mem_of_getElem? (i := 14) rfl))) (mvT hZ (hw _ (List.mem_of_getElem? (i := 15) rfl))) (by decide) (mvT hZ (hw _ (List.mem_of_getElem? (i := 17) rfl))) (mvT hZ (hw _ (List.mem_of_getElem? (i := 16) rfl))) (backOf (W := 0) (rm_ord2 l Z a0 hw [] aFUTURE aACTIVE aCLOSED F0 h0 n0 O0) hZ (hw _ (List.mem_of_getElem? (i := 19) rfl)) (hw _ (List.mem_of_getElem? (i := 18) rfl)) (by decide) (by decide)) qa26 qc26 (g := (mkF m 1 #[.val (.ref aCLOSED), .val .null] [(.ref aCLOSED)])) rfl (by rw [hml]; rfl) (Steps.refl _) (argsL := []) (rest := []) (lenOf pd___I rfl) rfl (by show 2 * 0 + _ ≤ _; exact Nat.le_of_eq rfl) (hb hby d_prog_40_method_5_1) (fun _ _ => ⟨rfl, e0, (by decide : 0 + 0 ≤ _), (by decide : 0 + 0 ≤ _)⟩)
  dsimp only [Pt.U, Pt.locs, Pt.cells, Pt.slots] at X26 l26 y26 z26 st26 hQ26
  subst l26 y26 z26
  obtain ⟨rfl, Nq26, K26⟩ := hQ26
  have N26 := Fr.app N0 Nq26
  refine own_go (fun _ k => st26.trans k) ?_
  show OwnGo p e below _ (T26.setTop (mkF m 4 #[.val (.ref aCLOSED), .val .null] [(.int (2 : Int32))]))
  refine own_go (fun _ k => XS.tswIn X26.here hx rfl (pc0 := 4) (pc' := 72) (o := 68) rfl (hb hby d_prog_40_method_5_4) rfl (by decide) (by decide) (by decide) (by decide) k) ?_
  show OwnGo p e below _ (T26.setTop (mkF m 72 #[.val (.ref aCLOSED), .val .null] []))
  refine own_go (fun _ k => XS.iconst X26.here hx rfl (hb hby d_prog_40_method_5_72) k) ?_
  show OwnGo p e below _ (T26.setTop (mkF m 73 #[.val (.ref aCLOSED), .val .null] [(.int (0 : Int32))]))
  obtain ⟨fs, hr, hrun, hended, hW, hsame⟩ := X26.leave (v := some (.int (0 : Int32))) (fun h => by rw [Bd.returns] at h; cases h)
  refine ⟨_, _, retOut X26 hx Bd.returns rfl (Or.inl ⟨rfl, Or.inr (Or.inl rfl), _, rfl⟩) (hb hby d_prog_40_method_5_73) hr, hrun, hended, _, _, rfl, ?_, ⟨_, rfl⟩, hW, hsame.mono (by decide) (by decide)⟩
  show Q_leads23 Z aFUTURE aACTIVE aCLOSED h0 n0 _ T26.heap _
  rw [K26]
  exact ⟨rfl, N26, rfl⟩
theorem pd_I__Lcom_example_cadenza_cadenza_core_SprintState_ : parseMethodDescriptor "(I)Lcom/example/cadenza/cadenza/core/SprintState;" = some ⟨[.int], some (.object "com/example/cadenza/cadenza/core/SprintState")⟩ := by decide +kernel
theorem pd_Lcom_example_cadenza_cadenza_core_SprintState___Z : parseMethodDescriptor "(Lcom/example/cadenza/cadenza/core/SprintState;)Z" = some ⟨[(.object "com/example/cadenza/cadenza/core/SprintState")], some .boolean⟩ := by decide +kernel
def Q_law (Z : State) (aFUTURE aACTIVE aCLOSED : Addr) (p1 : Int32) (p2 : Int32) (h0 : Heap) (n0 : Nat) (v : Option Value) (h : Heap) (L : List Loc) : Prop := v = some (.int (1 : Int32)) ∧ Fr n0 L
theorem ef_law (m : MethodId) (x0 : Int32) (x1 : Int32) : entryFrame m #[(.int x0), (.int x1)] maxLocals = mkF m 0 #[.val (.int x0), .val (.int x1), .unset, .unset, .unset, .unset, .unset] [] := by first | (simp [entryFrame, mkF, argsToLocals, Value.category, maxLocals]; done) | rfl
set_option maxRecDepth 65536 in
set_option maxHeartbeats 40000000 in
theorem rm_law (l : Launch) (Z : State) (a0 : Array Value) (hw : ∀ d ∈ tables_1, d.before a0 Z = true) (ws : List Jvm.Cond) (aFUTURE aACTIVE aCLOSED : Addr) (F0 : OwnFacts Z aFUTURE aACTIVE aCLOSED) (p1 : Int32) (p2 : Int32) (h0 : Heap) (n0 : Nat) (O0 : Old Z n0 h0) :
    MetFree l x (head1 (Jvm.Cond.code x code maxLocals ret :: ws) room_1) (fun a U => a = #[(.int p1), (.int p2)] ∧ Z.Warmed39 U.vm ∧ U.heap = h0) (fun _ _ _ _ _ => True) (fun _ U o U' => ∃ v L, o = .returned v ∧ Q_law Z aFUTURE aACTIVE aCLOSED p1 p2 h0 n0 v U'.heap L ∧ FrameEnd U o U' L 0 0) := by
  refine MetFree.of_bodySF (plainFor_of_name pn_com_example_cadenza_cadenza_core_SprintStateLeadsToPinLaw) hisR ?_
  intro p e s m args below meth c s₁ Bd hml0 hP hK
  obtain ⟨rfl, hZ, hh⟩ := hP
  have hx := Bd.exec
  have hby := Bd.bytes
  have hml : c.maxLocals = 7 := hml0
  have hown : s.vm.findClass "com/example/cadenza/cadenza/core/SprintStateLeadsToPinLaw" = some m.cls := findClass_of_methodNamed Bd.named
  have hnm := (name_of_methodNamed Bd.named Bd.method).1
  have X0 : Stand p l e room_1 s m #[(.int p1), (.int p2)] below meth c s₁ [] 0 0 := Stand.of_body Bd
  have e0 : s₁.heap = h0 := by rw [← hh, Bd.state]; rfl
  have N0 := Fr.nil n0
  refine own_go (Q := fun o U' => ∃ v L, o = .returned v ∧ Q_law Z aFUTURE aACTIVE aCLOSED p1 p2 h0 n0 v U'.heap L ∧ FrameEnd s o U' L 0 0) (fun t k => castTop (ef_law m p1 p2) k) ?_
  show OwnGo p e below _ (s₁.setTop (mkF m 0 #[.val (.int p1), .val (.int p2), .unset, .unset, .unset, .unset, .unset] []))
  refine own_go (fun _ k => XS.iloadN X0.here hx rfl (hb hby at_0) rfl k) ?_
  show OwnGo p e below _ (s₁.setTop (mkF m 1 #[.val (.int p1), .val (.int p2), .unset, .unset, .unset, .unset, .unset] [(.int p1)]))
  refine own_go (fun _ k => Jvm.Stand.ldcI X0 hx hown (mvT hZ (hw _ (List.mem_of_getElem? (i := 0) rfl))) rfl (hb hby at_1) k) ?_
  show OwnGo p e below _ (s₁.setTop (mkF m 3 #[.val (.int p1), .val (.int p2), .unset, .unset, .unset, .unset, .unset] [(.int (2147483647 : Int32)), (.int p1)]))
  refine own_go (fun _ k => XS.iand X0.here hx rfl (hb hby at_3) rfl k) ?_
  show OwnGo p e below _ (s₁.setTop (mkF m 4 #[.val (.int p1), .val (.int p2), .unset, .unset, .unset, .unset, .unset] [(.int (p1 &&& (2147483647 : Int32)))]))
  refine own_go (fun _ k => XS.iconst X0.here hx rfl (hb hby at_4) k) ?_
  show OwnGo p e below _ (s₁.setTop (mkF m 5 #[.val (.int p1), .val (.int p2), .unset, .unset, .unset, .unset, .unset] [(.int (3 : Int32)), (.int (p1 &&& (2147483647 : Int32)))]))
  refine own_go (fun _ k => iremM X0 hx rfl (hb hby at_5) rfl (by decide) k) ?_
  show OwnGo p e below _ (s₁.setTop (mkF m 6 #[.val (.int p1), .val (.int p2), .unset, .unset, .unset, .unset, .unset] [(.int ((p1 &&& (2147483647 : Int32)) % (3 : Int32)))]))
  rcases own_mod3 p1 with hv27 | hv27 | hv27
  · rw [hv27]
    show OwnGo p e below _ (s₁.setTop (mkF m 6 #[.val (.int p1), .val (.int p2), .unset, .unset, .unset, .unset, .unset] [(.int (0 : Int32))]))
    refine own_go (fun _ k => XS.istoreN X0.here hx rfl (hb hby at_6) rfl (l' := #[.val (.int p1), .val (.int p2), .val (.int (0 : Int32)), .unset, .unset, .unset, .unset]) rfl k) ?_
    show OwnGo p e below _ (s₁.setTop (mkF m 7 #[.val (.int p1), .val (.int p2), .val (.int (0 : Int32)), .unset, .unset, .unset, .unset] []))
    refine own_go (fun _ k => XS.iloadN X0.here hx rfl (hb hby at_7) rfl k) ?_
    show OwnGo p e below _ (s₁.setTop (mkF m 8 #[.val (.int p1), .val (.int p2), .val (.int (0 : Int32)), .unset, .unset, .unset, .unset] [(.int p2)]))
    refine own_go (fun _ k => Jvm.Stand.ldcI X0 hx hown (mvT hZ (hw _ (List.mem_of_getElem? (i := 0) rfl))) rfl (hb hby at_8) k) ?_
    show OwnGo p e below _ (s₁.setTop (mkF m 10 #[.val (.int p1), .val (.int p2), .val (.int (0 : Int32)), .unset, .unset, .unset, .unset] [(.int (2147483647 : Int32)), (.int p2)]))
    refine own_go (fun _ k => XS.iand X0.here hx rfl (hb hby at_10) rfl k) ?_
    show OwnGo p e below _ (s₁.setTop (mkF m 11 #[.val (.int p1), .val (.int p2), .val (.int (0 : Int32)), .unset, .unset, .unset, .unset] [(.int (p2 &&& (2147483647 : Int32)))]))
    refine own_go (fun _ k => XS.iconst X0.here hx rfl (hb hby at_11) k) ?_
    show OwnGo p e below _ (s₁.setTop (mkF m 12 #[.val (.int p1), .val (.int p2), .val (.int (0 : Int32)), .unset, .unset, .unset, .unset] [(.int (4 : Int32)), (.int (p2 &&& (2147483647 : Int32)))]))
    refine own_go (fun _ k => iremM X0 hx rfl (hb hby at_12) rfl (by decide) k) ?_
    show OwnGo p e below _ (s₁.setTop (mkF m 13 #[.val (.int p1), .val (.int p2), .val (.int (0 : Int32)), .unset, .unset, .unset, .unset] [(.int ((p2 &&& (2147483647 : Int32)) % (4 : Int32)))]))
    rcases own_mod4 p2 with hv28 | hv28 | hv28 | hv28
    · rw [hv28]
      show OwnGo p e below _ (s₁.setTop (mkF m 13 #[.val (.int p1), .val (.int p2), .val (.int (0 : Int32)), .unset, .unset, .unset, .unset] [(.int (0 : Int32))]))
      refine own_go (fun _ k => XS.istoreN X0.here hx rfl (hb hby at_13) rfl (l' := #[.val (.int p1), .val (.int p2), .val (.int (0 : Int32)), .val (.int (0 : Int32)), .unset, .unset, .unset]) rfl k) ?_
      show OwnGo p e below _ (s₁.setTop (mkF m 14 #[.val (.int p1), .val (.int p2), .val (.int (0 : Int32)), .val (.int (0 : Int32)), .unset, .unset, .unset] []))
      refine own_go (fun _ k => XS.iloadN X0.here hx rfl (hb hby at_14) rfl k) ?_
      show OwnGo p e below _ (s₁.setTop (mkF m 15 #[.val (.int p1), .val (.int p2), .val (.int (0 : Int32)), .val (.int (0 : Int32)), .unset, .unset, .unset] [(.int (0 : Int32))]))
      obtain ⟨_, _, ⟨T29, L29, k29, n29⟩, -, X29, ⟨Lc29, hQ29, l29, y29, z29⟩, st29⟩ := Jvm.LawKit.callS X0 hx (y := (⟨"com/example/cadenza/cadenza/core/SprintStateLeadsToPinLaw", "state", "(I)Lcom/example/cadenza/cadenza/core/SprintState;"⟩ : MethodName)) hown (mvT hZ (hw _ (List.mem_of_getElem? (i := 1) rfl))) (mvT hZ (hw _ (List.mem_of_getElem? (i := 2) rfl))) (mvT hZ (hw _ (List.mem_of_getElem? (i := 3) rfl))) (mvT hZ (hw _ (List.mem_of_getElem? (i := 4) rfl))) (by decide) (backOf (W := 0) (rm_state0 l Z a0 hw [] aFUTURE aACTIVE aCLOSED F0 h0 n0 O0) hZ (hw _ (List.mem_of_getElem? (i := 4) rfl)) (hw _ (List.mem_of_getElem? (i := 3) rfl)) (by decide) (by decide)) (g := (mkF m 15 #[.val (.int p1), .val (.int p2), .val (.int (0 : Int32)), .val (.int (0 : Int32)), .unset, .unset, .unset] [(.int (0 : Int32))])) rfl (by rw [hml]; rfl) (argsL := [(.int (0 : Int32))]) (rest := []) (lenOf pd_I__Lcom_example_cadenza_cadenza_core_SprintState_ rfl) rfl (by show 2 * 0 + _ ≤ _; exact Nat.le_of_eq rfl) (hb hby at_15) (fun _ _ => ⟨rfl, e0, (by decide : 0 + 0 ≤ _), (by decide : 0 + 0 ≤ _)⟩)
      dsimp only [Pt.U, Pt.locs, Pt.cells, Pt.slots] at X29 l29 y29 z29 st29 hQ29
      subst l29 y29 z29
      obtain ⟨rfl, Nq29, K29⟩ := hQ29
      have N29 := Fr.app N0 Nq29
      refine own_go st29 ?_
      show OwnGo p e below _ (T29.setTop (mkF m 18 #[.val (.int p1), .val (.int p2), .val (.int (0 : Int32)), .val (.int (0 : Int32)), .unset, .unset, .unset] [(.ref aFUTURE)]))
      refine own_go (fun _ k => XS.astore X29.here hx rfl (hb hby at_18) rfl rfl (l' := #[.val (.int p1), .val (.int p2), .val (.int (0 : Int32)), .val (.int (0 : Int32)), .val (.ref aFUTURE), .unset, .unset]) rfl k) ?_
      show OwnGo p e below _ (T29.setTop (mkF m 20 #[.val (.int p1), .val (.int p2), .val (.int (0 : Int32)), .val (.int (0 : Int32)), .val (.ref aFUTURE), .unset, .unset] []))
      refine own_go (fun _ k => XS.iloadN X29.here hx rfl (hb hby at_20) rfl k) ?_
      show OwnGo p e below _ (T29.setTop (mkF m 21 #[.val (.int p1), .val (.int p2), .val (.int (0 : Int32)), .val (.int (0 : Int32)), .val (.ref aFUTURE), .unset, .unset] [(.int (0 : Int32))]))
      obtain ⟨_, _, ⟨T30, L30, k30, n30⟩, -, X30, ⟨Lc30, hQ30, l30, y30, z30⟩, st30⟩ := Jvm.LawKit.callS X29 hx (y := (⟨"com/example/cadenza/cadenza/core/SprintStateLeadsToPinLaw", "state", "(I)Lcom/example/cadenza/cadenza/core/SprintState;"⟩ : MethodName)) hown (mvT hZ (hw _ (List.mem_of_getElem? (i := 1) rfl))) (mvT hZ (hw _ (List.mem_of_getElem? (i := 2) rfl))) (mvT hZ (hw _ (List.mem_of_getElem? (i := 3) rfl))) (mvT hZ (hw _ (List.mem_of_getElem? (i := 4) rfl))) (by decide) (backOf (W := 0) (rm_state0 l Z a0 hw [] aFUTURE aACTIVE aCLOSED F0 h0 n0 O0) hZ (hw _ (List.mem_of_getElem? (i := 4) rfl)) (hw _ (List.mem_of_getElem? (i := 3) rfl)) (by decide) (by decide)) (g := (mkF m 21 #[.val (.int p1), .val (.int p2), .val (.int (0 : Int32)), .val (.int (0 : Int32)), .val (.ref aFUTURE), .unset, .unset] [(.int (0 : Int32))])) rfl (by rw [hml]; rfl) (argsL := [(.int (0 : Int32))]) (rest := []) (lenOf pd_I__Lcom_example_cadenza_cadenza_core_SprintState_ rfl) rfl (by show 2 * 0 + _ ≤ _; exact Nat.le_of_eq rfl) (hb hby at_21) (fun _ _ => ⟨rfl, K29, (by decide : 0 + 0 ≤ _), (by decide : 0 + 0 ≤ _)⟩)
      dsimp only [Pt.U, Pt.locs, Pt.cells, Pt.slots] at X30 l30 y30 z30 st30 hQ30
      subst l30 y30 z30
      obtain ⟨rfl, Nq30, K30⟩ := hQ30
      have N30 := Fr.app N29 Nq30
      refine own_go st30 ?_
      show OwnGo p e below _ (T30.setTop (mkF m 24 #[.val (.int p1), .val (.int p2), .val (.int (0 : Int32)), .val (.int (0 : Int32)), .val (.ref aFUTURE), .unset, .unset] [(.ref aFUTURE)]))
      refine own_go (fun _ k => XS.astore X30.here hx rfl (hb hby at_24) rfl rfl (l' := #[.val (.int p1), .val (.int p2), .val (.int (0 : Int32)), .val (.int (0 : Int32)), .val (.ref aFUTURE), .val (.ref aFUTURE), .unset]) rfl k) ?_
      show OwnGo p e below _ (T30.setTop (mkF m 26 #[.val (.int p1), .val (.int p2), .val (.int (0 : Int32)), .val (.int (0 : Int32)), .val (.ref aFUTURE), .val (.ref aFUTURE), .unset] []))
      refine own_go (fun _ k => XS.iloadN X30.here hx rfl (hb hby at_26) rfl k) ?_
      show OwnGo p e below _ (T30.setTop (mkF m 27 #[.val (.int p1), .val (.int p2), .val (.int (0 : Int32)), .val (.int (0 : Int32)), .val (.ref aFUTURE), .val (.ref aFUTURE), .unset] [(.int (0 : Int32))]))
      refine own_go (fun _ k => XS.iconst X30.here hx rfl (hb hby at_27) k) ?_
      show OwnGo p e below _ (T30.setTop (mkF m 28 #[.val (.int p1), .val (.int p2), .val (.int (0 : Int32)), .val (.int (0 : Int32)), .val (.ref aFUTURE), .val (.ref aFUTURE), .unset] [(.int (3 : Int32)), (.int (0 : Int32))]))
      refine own_go (fun _ k => XS.icmpNo X30.here hx rfl (hb hby at_28) rfl (by decide) k) ?_
      show OwnGo p e below _ (T30.setTop (mkF m 31 #[.val (.int p1), .val (.int p2), .val (.int (0 : Int32)), .val (.int (0 : Int32)), .val (.ref aFUTURE), .val (.ref aFUTURE), .unset] []))
      refine own_go (fun _ k => XS.iloadN X30.here hx rfl (hb hby at_31) rfl k) ?_
      show OwnGo p e below _ (T30.setTop (mkF m 32 #[.val (.int p1), .val (.int p2), .val (.int (0 : Int32)), .val (.int (0 : Int32)), .val (.ref aFUTURE), .val (.ref aFUTURE), .unset] [(.int (0 : Int32))]))
      refine own_go (fun _ k => XS.iloadN X30.here hx rfl (hb hby at_32) rfl k) ?_
      show OwnGo p e below _ (T30.setTop (mkF m 33 #[.val (.int p1), .val (.int p2), .val (.int (0 : Int32)), .val (.int (0 : Int32)), .val (.ref aFUTURE), .val (.ref aFUTURE), .unset] [(.int (0 : Int32)), (.int (0 : Int32))]))
      refine own_go (fun _ k => XS.iconst X30.here hx rfl (hb hby at_33) k) ?_
      show OwnGo p e below _ (T30.setTop (mkF m 34 #[.val (.int p1), .val (.int p2), .val (.int (0 : Int32)), .val (.int (0 : Int32)), .val (.ref aFUTURE), .val (.ref aFUTURE), .unset] [(.int (1 : Int32)), (.int (0 : Int32)), (.int (0 : Int32))]))
      refine own_go (fun _ k => XS.iadd X30.here hx rfl (hb hby at_34) rfl k) ?_
      show OwnGo p e below _ (T30.setTop (mkF m 35 #[.val (.int p1), .val (.int p2), .val (.int (0 : Int32)), .val (.int (0 : Int32)), .val (.ref aFUTURE), .val (.ref aFUTURE), .unset] [(.int ((0 : Int32) + (1 : Int32))), (.int (0 : Int32))]))
      rw [show ((0 : Int32) + (1 : Int32)) = (1 : Int32) from by decide]
      show OwnGo p e below _ (T30.setTop (mkF m 35 #[.val (.int p1), .val (.int p2), .val (.int (0 : Int32)), .val (.int (0 : Int32)), .val (.ref aFUTURE), .val (.ref aFUTURE), .unset] [(.int (1 : Int32)), (.int (0 : Int32))]))
      refine own_go (fun _ k => XS.icmpYes X30.here hx rfl (pc0 := 35) (pc' := 42) rfl (hb hby at_35) rfl (by decide) (by decide) (by decide) k) ?_
      show OwnGo p e below _ (T30.setTop (mkF m 42 #[.val (.int p1), .val (.int p2), .val (.int (0 : Int32)), .val (.int (0 : Int32)), .val (.ref aFUTURE), .val (.ref aFUTURE), .unset] []))
      refine own_go (fun _ k => XS.iconst X30.here hx rfl (hb hby at_42) k) ?_
      show OwnGo p e below _ (T30.setTop (mkF m 43 #[.val (.int p1), .val (.int p2), .val (.int (0 : Int32)), .val (.int (0 : Int32)), .val (.ref aFUTURE), .val (.ref aFUTURE), .unset] [(.int (0 : Int32))]))
      refine own_go (fun _ k => XS.istore X30.here hx rfl (hb hby at_43) rfl (l' := #[.val (.int p1), .val (.int p2), .val (.int (0 : Int32)), .val (.int (0 : Int32)), .val (.ref aFUTURE), .val (.ref aFUTURE), .val (.int (0 : Int32))]) rfl k) ?_
      show OwnGo p e below _ (T30.setTop (mkF m 45 #[.val (.int p1), .val (.int p2), .val (.int (0 : Int32)), .val (.int (0 : Int32)), .val (.ref aFUTURE), .val (.ref aFUTURE), .val (.int (0 : Int32))] []))
      refine own_go (fun _ k => XS.aload X30.here hx rfl (hb hby at_45) rfl rfl k) ?_
      show OwnGo p e below _ (T30.setTop (mkF m 47 #[.val (.int p1), .val (.int p2), .val (.int (0 : Int32)), .val (.int (0 : Int32)), .val (.ref aFUTURE), .val (.ref aFUTURE), .val (.int (0 : Int32))] [(.ref aFUTURE)]))
      refine own_go (fun _ k => XS.aload X30.here hx rfl (hb hby at_47) rfl rfl k) ?_
      show OwnGo p e below _ (T30.setTop (mkF m 49 #[.val (.int p1), .val (.int p2), .val (.int (0 : Int32)), .val (.int (0 : Int32)), .val (.ref aFUTURE), .val (.ref aFUTURE), .val (.int (0 : Int32))] [(.ref aFUTURE), (.ref aFUTURE)]))
      obtain ⟨cq31, kq31, qa31, qb31, qc31⟩ := isOf hZ K30 (F0.2.1.ext O0.2)
      obtain ⟨_, _, ⟨T31, L31, k31, n31⟩, -, X31, ⟨Lc31, hQ31, l31, y31, z31⟩, st31⟩ := X30.virtualBack hx (y := (⟨"com/example/cadenza/cadenza/core/SprintState", "leadsTo", "(Lcom/example/cadenza/cadenza/core/SprintState;)Z"⟩ : MethodName)) (z := (⟨"com/example/cadenza/cadenza/core/SprintState", "leadsTo", "(Lcom/example/cadenza/cadenza/core/SprintState;)Z"⟩ : MethodName)) hown (mvT hZ (hw _ (List.mem_of_getElem? (i := 8) rfl))) (mvT hZ (hw _ (List.mem_of_getElem? (i := 9) rfl))) (notFace_of_selects (args := #[]) (mvT hZ (hw _ (List.mem_of_getElem? (i := 11) rfl)))) (mvT hZ (hw _ (List.mem_of_getElem? (i := 11) rfl))) (mvT hZ (hw _ (List.mem_of_getElem? (i := 10) rfl))) (by decide) (backOf (W := 0) (rm_leads00 l Z a0 hw [] aFUTURE aACTIVE aCLOSED F0 h0 n0 O0) hZ (hw _ (List.mem_of_getElem? (i := 12) rfl)) (hw _ (List.mem_of_getElem? (i := 6) rfl)) (by decide) (by decide)) qa31 qc31 (g := (mkF m 49 #[.val (.int p1), .val (.int p2), .val (.int (0 : Int32)), .val (.int (0 : Int32)), .val (.ref aFUTURE), .val (.ref aFUTURE), .val (.int (0 : Int32))] [(.ref aFUTURE), (.ref aFUTURE)])) rfl (by rw [hml]; rfl) (Steps.refl _) (argsL := [(.ref aFUTURE)]) (rest := []) (lenOf pd_Lcom_example_cadenza_cadenza_core_SprintState___Z rfl) rfl (by show 2 * 0 + _ ≤ _; exact Nat.le_of_eq rfl) (hb hby at_49) (fun _ _ => ⟨rfl, K30, (by decide : 0 + 0 ≤ _), (by decide : 0 + 0 ≤ _)⟩)
      dsimp only [Pt.U, Pt.locs, Pt.cells, Pt.slots] at X31 l31 y31 z31 st31 hQ31
      subst l31 y31 z31
      obtain ⟨rfl, Nq31, K31⟩ := hQ31
      have N31 := Fr.app N30 Nq31
      refine own_go (fun _ k => st31.trans k) ?_
      show OwnGo p e below _ (T31.setTop (mkF m 52 #[.val (.int p1), .val (.int p2), .val (.int (0 : Int32)), .val (.int (0 : Int32)), .val (.ref aFUTURE), .val (.ref aFUTURE), .val (.int (0 : Int32))] [(.int (0 : Int32))]))
      refine own_go (fun _ k => XS.iload X31.here hx rfl (hb hby at_52) rfl k) ?_
      show OwnGo p e below _ (T31.setTop (mkF m 54 #[.val (.int p1), .val (.int p2), .val (.int (0 : Int32)), .val (.int (0 : Int32)), .val (.ref aFUTURE), .val (.ref aFUTURE), .val (.int (0 : Int32))] [(.int (0 : Int32)), (.int (0 : Int32))]))
      refine own_go (fun _ k => XS.icmpNo X31.here hx rfl (hb hby at_54) rfl (by decide) k) ?_
      show OwnGo p e below _ (T31.setTop (mkF m 57 #[.val (.int p1), .val (.int p2), .val (.int (0 : Int32)), .val (.int (0 : Int32)), .val (.ref aFUTURE), .val (.ref aFUTURE), .val (.int (0 : Int32))] []))
      refine own_go (fun _ k => XS.iconst X31.here hx rfl (hb hby at_57) k) ?_
      show OwnGo p e below _ (T31.setTop (mkF m 58 #[.val (.int p1), .val (.int p2), .val (.int (0 : Int32)), .val (.int (0 : Int32)), .val (.ref aFUTURE), .val (.ref aFUTURE), .val (.int (0 : Int32))] [(.int (1 : Int32))]))
      refine own_go (fun _ k => XS.goto X31.here hx rfl (pc0 := 58) (pc' := 62) rfl (hb hby at_58) (by decide) (by decide) k) ?_
      show OwnGo p e below _ (T31.setTop (mkF m 62 #[.val (.int p1), .val (.int p2), .val (.int (0 : Int32)), .val (.int (0 : Int32)), .val (.ref aFUTURE), .val (.ref aFUTURE), .val (.int (0 : Int32))] [(.int (1 : Int32))]))
      obtain ⟨fs, hr, hrun, hended, hW, hsame⟩ := X31.leave (v := some (.int (1 : Int32))) (fun h => by rw [Bd.returns] at h; cases h)
      refine ⟨_, _, retOut X31 hx Bd.returns rfl (Or.inl ⟨rfl, Or.inr (Or.inl rfl), _, rfl⟩) (hb hby at_62) hr, hrun, hended, _, _, rfl, ?_, ⟨_, rfl⟩, hW, hsame.mono (by decide) (by decide)⟩
      show Q_law Z aFUTURE aACTIVE aCLOSED p1 p2 h0 n0 _ T31.heap _
      rw [K31]
      exact ⟨rfl, N31⟩
    · rw [hv28]
      show OwnGo p e below _ (s₁.setTop (mkF m 13 #[.val (.int p1), .val (.int p2), .val (.int (0 : Int32)), .unset, .unset, .unset, .unset] [(.int (1 : Int32))]))
      refine own_go (fun _ k => XS.istoreN X0.here hx rfl (hb hby at_13) rfl (l' := #[.val (.int p1), .val (.int p2), .val (.int (0 : Int32)), .val (.int (1 : Int32)), .unset, .unset, .unset]) rfl k) ?_
      show OwnGo p e below _ (s₁.setTop (mkF m 14 #[.val (.int p1), .val (.int p2), .val (.int (0 : Int32)), .val (.int (1 : Int32)), .unset, .unset, .unset] []))
      refine own_go (fun _ k => XS.iloadN X0.here hx rfl (hb hby at_14) rfl k) ?_
      show OwnGo p e below _ (s₁.setTop (mkF m 15 #[.val (.int p1), .val (.int p2), .val (.int (0 : Int32)), .val (.int (1 : Int32)), .unset, .unset, .unset] [(.int (0 : Int32))]))
      obtain ⟨_, _, ⟨T32, L32, k32, n32⟩, -, X32, ⟨Lc32, hQ32, l32, y32, z32⟩, st32⟩ := Jvm.LawKit.callS X0 hx (y := (⟨"com/example/cadenza/cadenza/core/SprintStateLeadsToPinLaw", "state", "(I)Lcom/example/cadenza/cadenza/core/SprintState;"⟩ : MethodName)) hown (mvT hZ (hw _ (List.mem_of_getElem? (i := 1) rfl))) (mvT hZ (hw _ (List.mem_of_getElem? (i := 2) rfl))) (mvT hZ (hw _ (List.mem_of_getElem? (i := 3) rfl))) (mvT hZ (hw _ (List.mem_of_getElem? (i := 4) rfl))) (by decide) (backOf (W := 0) (rm_state0 l Z a0 hw [] aFUTURE aACTIVE aCLOSED F0 h0 n0 O0) hZ (hw _ (List.mem_of_getElem? (i := 4) rfl)) (hw _ (List.mem_of_getElem? (i := 3) rfl)) (by decide) (by decide)) (g := (mkF m 15 #[.val (.int p1), .val (.int p2), .val (.int (0 : Int32)), .val (.int (1 : Int32)), .unset, .unset, .unset] [(.int (0 : Int32))])) rfl (by rw [hml]; rfl) (argsL := [(.int (0 : Int32))]) (rest := []) (lenOf pd_I__Lcom_example_cadenza_cadenza_core_SprintState_ rfl) rfl (by show 2 * 0 + _ ≤ _; exact Nat.le_of_eq rfl) (hb hby at_15) (fun _ _ => ⟨rfl, e0, (by decide : 0 + 0 ≤ _), (by decide : 0 + 0 ≤ _)⟩)
      dsimp only [Pt.U, Pt.locs, Pt.cells, Pt.slots] at X32 l32 y32 z32 st32 hQ32
      subst l32 y32 z32
      obtain ⟨rfl, Nq32, K32⟩ := hQ32
      have N32 := Fr.app N0 Nq32
      refine own_go st32 ?_
      show OwnGo p e below _ (T32.setTop (mkF m 18 #[.val (.int p1), .val (.int p2), .val (.int (0 : Int32)), .val (.int (1 : Int32)), .unset, .unset, .unset] [(.ref aFUTURE)]))
      refine own_go (fun _ k => XS.astore X32.here hx rfl (hb hby at_18) rfl rfl (l' := #[.val (.int p1), .val (.int p2), .val (.int (0 : Int32)), .val (.int (1 : Int32)), .val (.ref aFUTURE), .unset, .unset]) rfl k) ?_
      show OwnGo p e below _ (T32.setTop (mkF m 20 #[.val (.int p1), .val (.int p2), .val (.int (0 : Int32)), .val (.int (1 : Int32)), .val (.ref aFUTURE), .unset, .unset] []))
      refine own_go (fun _ k => XS.iloadN X32.here hx rfl (hb hby at_20) rfl k) ?_
      show OwnGo p e below _ (T32.setTop (mkF m 21 #[.val (.int p1), .val (.int p2), .val (.int (0 : Int32)), .val (.int (1 : Int32)), .val (.ref aFUTURE), .unset, .unset] [(.int (1 : Int32))]))
      obtain ⟨_, _, ⟨T33, L33, k33, n33⟩, -, X33, ⟨Lc33, hQ33, l33, y33, z33⟩, st33⟩ := Jvm.LawKit.callS X32 hx (y := (⟨"com/example/cadenza/cadenza/core/SprintStateLeadsToPinLaw", "state", "(I)Lcom/example/cadenza/cadenza/core/SprintState;"⟩ : MethodName)) hown (mvT hZ (hw _ (List.mem_of_getElem? (i := 1) rfl))) (mvT hZ (hw _ (List.mem_of_getElem? (i := 2) rfl))) (mvT hZ (hw _ (List.mem_of_getElem? (i := 3) rfl))) (mvT hZ (hw _ (List.mem_of_getElem? (i := 4) rfl))) (by decide) (backOf (W := 0) (rm_state1 l Z a0 hw [] aFUTURE aACTIVE aCLOSED F0 h0 n0 O0) hZ (hw _ (List.mem_of_getElem? (i := 4) rfl)) (hw _ (List.mem_of_getElem? (i := 3) rfl)) (by decide) (by decide)) (g := (mkF m 21 #[.val (.int p1), .val (.int p2), .val (.int (0 : Int32)), .val (.int (1 : Int32)), .val (.ref aFUTURE), .unset, .unset] [(.int (1 : Int32))])) rfl (by rw [hml]; rfl) (argsL := [(.int (1 : Int32))]) (rest := []) (lenOf pd_I__Lcom_example_cadenza_cadenza_core_SprintState_ rfl) rfl (by show 2 * 0 + _ ≤ _; exact Nat.le_of_eq rfl) (hb hby at_21) (fun _ _ => ⟨rfl, K32, (by decide : 0 + 0 ≤ _), (by decide : 0 + 0 ≤ _)⟩)
      dsimp only [Pt.U, Pt.locs, Pt.cells, Pt.slots] at X33 l33 y33 z33 st33 hQ33
      subst l33 y33 z33
      obtain ⟨rfl, Nq33, K33⟩ := hQ33
      have N33 := Fr.app N32 Nq33
      refine own_go st33 ?_
      show OwnGo p e below _ (T33.setTop (mkF m 24 #[.val (.int p1), .val (.int p2), .val (.int (0 : Int32)), .val (.int (1 : Int32)), .val (.ref aFUTURE), .unset, .unset] [(.ref aACTIVE)]))
      refine own_go (fun _ k => XS.astore X33.here hx rfl (hb hby at_24) rfl rfl (l' := #[.val (.int p1), .val (.int p2), .val (.int (0 : Int32)), .val (.int (1 : Int32)), .val (.ref aFUTURE), .val (.ref aACTIVE), .unset]) rfl k) ?_
      show OwnGo p e below _ (T33.setTop (mkF m 26 #[.val (.int p1), .val (.int p2), .val (.int (0 : Int32)), .val (.int (1 : Int32)), .val (.ref aFUTURE), .val (.ref aACTIVE), .unset] []))
      refine own_go (fun _ k => XS.iloadN X33.here hx rfl (hb hby at_26) rfl k) ?_
      show OwnGo p e below _ (T33.setTop (mkF m 27 #[.val (.int p1), .val (.int p2), .val (.int (0 : Int32)), .val (.int (1 : Int32)), .val (.ref aFUTURE), .val (.ref aACTIVE), .unset] [(.int (1 : Int32))]))
      refine own_go (fun _ k => XS.iconst X33.here hx rfl (hb hby at_27) k) ?_
      show OwnGo p e below _ (T33.setTop (mkF m 28 #[.val (.int p1), .val (.int p2), .val (.int (0 : Int32)), .val (.int (1 : Int32)), .val (.ref aFUTURE), .val (.ref aACTIVE), .unset] [(.int (3 : Int32)), (.int (1 : Int32))]))
      refine own_go (fun _ k => XS.icmpNo X33.here hx rfl (hb hby at_28) rfl (by decide) k) ?_
      show OwnGo p e below _ (T33.setTop (mkF m 31 #[.val (.int p1), .val (.int p2), .val (.int (0 : Int32)), .val (.int (1 : Int32)), .val (.ref aFUTURE), .val (.ref aACTIVE), .unset] []))
      refine own_go (fun _ k => XS.iloadN X33.here hx rfl (hb hby at_31) rfl k) ?_
      show OwnGo p e below _ (T33.setTop (mkF m 32 #[.val (.int p1), .val (.int p2), .val (.int (0 : Int32)), .val (.int (1 : Int32)), .val (.ref aFUTURE), .val (.ref aACTIVE), .unset] [(.int (1 : Int32))]))
      refine own_go (fun _ k => XS.iloadN X33.here hx rfl (hb hby at_32) rfl k) ?_
      show OwnGo p e below _ (T33.setTop (mkF m 33 #[.val (.int p1), .val (.int p2), .val (.int (0 : Int32)), .val (.int (1 : Int32)), .val (.ref aFUTURE), .val (.ref aACTIVE), .unset] [(.int (0 : Int32)), (.int (1 : Int32))]))
      refine own_go (fun _ k => XS.iconst X33.here hx rfl (hb hby at_33) k) ?_
      show OwnGo p e below _ (T33.setTop (mkF m 34 #[.val (.int p1), .val (.int p2), .val (.int (0 : Int32)), .val (.int (1 : Int32)), .val (.ref aFUTURE), .val (.ref aACTIVE), .unset] [(.int (1 : Int32)), (.int (0 : Int32)), (.int (1 : Int32))]))
      refine own_go (fun _ k => XS.iadd X33.here hx rfl (hb hby at_34) rfl k) ?_
      show OwnGo p e below _ (T33.setTop (mkF m 35 #[.val (.int p1), .val (.int p2), .val (.int (0 : Int32)), .val (.int (1 : Int32)), .val (.ref aFUTURE), .val (.ref aACTIVE), .unset] [(.int ((0 : Int32) + (1 : Int32))), (.int (1 : Int32))]))
      rw [show ((0 : Int32) + (1 : Int32)) = (1 : Int32) from by decide]
      show OwnGo p e below _ (T33.setTop (mkF m 35 #[.val (.int p1), .val (.int p2), .val (.int (0 : Int32)), .val (.int (1 : Int32)), .val (.ref aFUTURE), .val (.ref aACTIVE), .unset] [(.int (1 : Int32)), (.int (1 : Int32))]))
      refine own_go (fun _ k => XS.icmpNo X33.here hx rfl (hb hby at_35) rfl (by decide) k) ?_
      show OwnGo p e below _ (T33.setTop (mkF m 38 #[.val (.int p1), .val (.int p2), .val (.int (0 : Int32)), .val (.int (1 : Int32)), .val (.ref aFUTURE), .val (.ref aACTIVE), .unset] []))
      refine own_go (fun _ k => XS.iconst X33.here hx rfl (hb hby at_38) k) ?_
      show OwnGo p e below _ (T33.setTop (mkF m 39 #[.val (.int p1), .val (.int p2), .val (.int (0 : Int32)), .val (.int (1 : Int32)), .val (.ref aFUTURE), .val (.ref aACTIVE), .unset] [(.int (1 : Int32))]))
      refine own_go (fun _ k => XS.goto X33.here hx rfl (pc0 := 39) (pc' := 43) rfl (hb hby at_39) (by decide) (by decide) k) ?_
      show OwnGo p e below _ (T33.setTop (mkF m 43 #[.val (.int p1), .val (.int p2), .val (.int (0 : Int32)), .val (.int (1 : Int32)), .val (.ref aFUTURE), .val (.ref aACTIVE), .unset] [(.int (1 : Int32))]))
      refine own_go (fun _ k => XS.istore X33.here hx rfl (hb hby at_43) rfl (l' := #[.val (.int p1), .val (.int p2), .val (.int (0 : Int32)), .val (.int (1 : Int32)), .val (.ref aFUTURE), .val (.ref aACTIVE), .val (.int (1 : Int32))]) rfl k) ?_
      show OwnGo p e below _ (T33.setTop (mkF m 45 #[.val (.int p1), .val (.int p2), .val (.int (0 : Int32)), .val (.int (1 : Int32)), .val (.ref aFUTURE), .val (.ref aACTIVE), .val (.int (1 : Int32))] []))
      refine own_go (fun _ k => XS.aload X33.here hx rfl (hb hby at_45) rfl rfl k) ?_
      show OwnGo p e below _ (T33.setTop (mkF m 47 #[.val (.int p1), .val (.int p2), .val (.int (0 : Int32)), .val (.int (1 : Int32)), .val (.ref aFUTURE), .val (.ref aACTIVE), .val (.int (1 : Int32))] [(.ref aFUTURE)]))
      refine own_go (fun _ k => XS.aload X33.here hx rfl (hb hby at_47) rfl rfl k) ?_
      show OwnGo p e below _ (T33.setTop (mkF m 49 #[.val (.int p1), .val (.int p2), .val (.int (0 : Int32)), .val (.int (1 : Int32)), .val (.ref aFUTURE), .val (.ref aACTIVE), .val (.int (1 : Int32))] [(.ref aACTIVE), (.ref aFUTURE)]))
      obtain ⟨cq34, kq34, qa34, qb34, qc34⟩ := isOf hZ K33 (F0.2.1.ext O0.2)
      obtain ⟨_, _, ⟨T34, L34, k34, n34⟩, -, X34, ⟨Lc34, hQ34, l34, y34, z34⟩, st34⟩ := X33.virtualBack hx (y := (⟨"com/example/cadenza/cadenza/core/SprintState", "leadsTo", "(Lcom/example/cadenza/cadenza/core/SprintState;)Z"⟩ : MethodName)) (z := (⟨"com/example/cadenza/cadenza/core/SprintState", "leadsTo", "(Lcom/example/cadenza/cadenza/core/SprintState;)Z"⟩ : MethodName)) hown (mvT hZ (hw _ (List.mem_of_getElem? (i := 8) rfl))) (mvT hZ (hw _ (List.mem_of_getElem? (i := 9) rfl))) (notFace_of_selects (args := #[]) (mvT hZ (hw _ (List.mem_of_getElem? (i := 11) rfl)))) (mvT hZ (hw _ (List.mem_of_getElem? (i := 11) rfl))) (mvT hZ (hw _ (List.mem_of_getElem? (i := 10) rfl))) (by decide) (backOf (W := 0) (rm_leads01 l Z a0 hw [] aFUTURE aACTIVE aCLOSED F0 h0 n0 O0) hZ (hw _ (List.mem_of_getElem? (i := 12) rfl)) (hw _ (List.mem_of_getElem? (i := 6) rfl)) (by decide) (by decide)) qa34 qc34 (g := (mkF m 49 #[.val (.int p1), .val (.int p2), .val (.int (0 : Int32)), .val (.int (1 : Int32)), .val (.ref aFUTURE), .val (.ref aACTIVE), .val (.int (1 : Int32))] [(.ref aACTIVE), (.ref aFUTURE)])) rfl (by rw [hml]; rfl) (Steps.refl _) (argsL := [(.ref aACTIVE)]) (rest := []) (lenOf pd_Lcom_example_cadenza_cadenza_core_SprintState___Z rfl) rfl (by show 2 * 0 + _ ≤ _; exact Nat.le_of_eq rfl) (hb hby at_49) (fun _ _ => ⟨rfl, K33, (by decide : 0 + 0 ≤ _), (by decide : 0 + 0 ≤ _)⟩)
      dsimp only [Pt.U, Pt.locs, Pt.cells, Pt.slots] at X34 l34 y34 z34 st34 hQ34
      subst l34 y34 z34
      obtain ⟨rfl, Nq34, K34⟩ := hQ34
      have N34 := Fr.app N33 Nq34
      refine own_go (fun _ k => st34.trans k) ?_
      show OwnGo p e below _ (T34.setTop (mkF m 52 #[.val (.int p1), .val (.int p2), .val (.int (0 : Int32)), .val (.int (1 : Int32)), .val (.ref aFUTURE), .val (.ref aACTIVE), .val (.int (1 : Int32))] [(.int (1 : Int32))]))
      refine own_go (fun _ k => XS.iload X34.here hx rfl (hb hby at_52) rfl k) ?_
      show OwnGo p e below _ (T34.setTop (mkF m 54 #[.val (.int p1), .val (.int p2), .val (.int (0 : Int32)), .val (.int (1 : Int32)), .val (.ref aFUTURE), .val (.ref aACTIVE), .val (.int (1 : Int32))] [(.int (1 : Int32)), (.int (1 : Int32))]))
      refine own_go (fun _ k => XS.icmpNo X34.here hx rfl (hb hby at_54) rfl (by decide) k) ?_
      show OwnGo p e below _ (T34.setTop (mkF m 57 #[.val (.int p1), .val (.int p2), .val (.int (0 : Int32)), .val (.int (1 : Int32)), .val (.ref aFUTURE), .val (.ref aACTIVE), .val (.int (1 : Int32))] []))
      refine own_go (fun _ k => XS.iconst X34.here hx rfl (hb hby at_57) k) ?_
      show OwnGo p e below _ (T34.setTop (mkF m 58 #[.val (.int p1), .val (.int p2), .val (.int (0 : Int32)), .val (.int (1 : Int32)), .val (.ref aFUTURE), .val (.ref aACTIVE), .val (.int (1 : Int32))] [(.int (1 : Int32))]))
      refine own_go (fun _ k => XS.goto X34.here hx rfl (pc0 := 58) (pc' := 62) rfl (hb hby at_58) (by decide) (by decide) k) ?_
      show OwnGo p e below _ (T34.setTop (mkF m 62 #[.val (.int p1), .val (.int p2), .val (.int (0 : Int32)), .val (.int (1 : Int32)), .val (.ref aFUTURE), .val (.ref aACTIVE), .val (.int (1 : Int32))] [(.int (1 : Int32))]))
      obtain ⟨fs, hr, hrun, hended, hW, hsame⟩ := X34.leave (v := some (.int (1 : Int32))) (fun h => by rw [Bd.returns] at h; cases h)
      refine ⟨_, _, retOut X34 hx Bd.returns rfl (Or.inl ⟨rfl, Or.inr (Or.inl rfl), _, rfl⟩) (hb hby at_62) hr, hrun, hended, _, _, rfl, ?_, ⟨_, rfl⟩, hW, hsame.mono (by decide) (by decide)⟩
      show Q_law Z aFUTURE aACTIVE aCLOSED p1 p2 h0 n0 _ T34.heap _
      rw [K34]
      exact ⟨rfl, N34⟩
    · rw [hv28]
      show OwnGo p e below _ (s₁.setTop (mkF m 13 #[.val (.int p1), .val (.int p2), .val (.int (0 : Int32)), .unset, .unset, .unset, .unset] [(.int (2 : Int32))]))
      refine own_go (fun _ k => XS.istoreN X0.here hx rfl (hb hby at_13) rfl (l' := #[.val (.int p1), .val (.int p2), .val (.int (0 : Int32)), .val (.int (2 : Int32)), .unset, .unset, .unset]) rfl k) ?_
      show OwnGo p e below _ (s₁.setTop (mkF m 14 #[.val (.int p1), .val (.int p2), .val (.int (0 : Int32)), .val (.int (2 : Int32)), .unset, .unset, .unset] []))
      refine own_go (fun _ k => XS.iloadN X0.here hx rfl (hb hby at_14) rfl k) ?_
      show OwnGo p e below _ (s₁.setTop (mkF m 15 #[.val (.int p1), .val (.int p2), .val (.int (0 : Int32)), .val (.int (2 : Int32)), .unset, .unset, .unset] [(.int (0 : Int32))]))
      obtain ⟨_, _, ⟨T35, L35, k35, n35⟩, -, X35, ⟨Lc35, hQ35, l35, y35, z35⟩, st35⟩ := Jvm.LawKit.callS X0 hx (y := (⟨"com/example/cadenza/cadenza/core/SprintStateLeadsToPinLaw", "state", "(I)Lcom/example/cadenza/cadenza/core/SprintState;"⟩ : MethodName)) hown (mvT hZ (hw _ (List.mem_of_getElem? (i := 1) rfl))) (mvT hZ (hw _ (List.mem_of_getElem? (i := 2) rfl))) (mvT hZ (hw _ (List.mem_of_getElem? (i := 3) rfl))) (mvT hZ (hw _ (List.mem_of_getElem? (i := 4) rfl))) (by decide) (backOf (W := 0) (rm_state0 l Z a0 hw [] aFUTURE aACTIVE aCLOSED F0 h0 n0 O0) hZ (hw _ (List.mem_of_getElem? (i := 4) rfl)) (hw _ (List.mem_of_getElem? (i := 3) rfl)) (by decide) (by decide)) (g := (mkF m 15 #[.val (.int p1), .val (.int p2), .val (.int (0 : Int32)), .val (.int (2 : Int32)), .unset, .unset, .unset] [(.int (0 : Int32))])) rfl (by rw [hml]; rfl) (argsL := [(.int (0 : Int32))]) (rest := []) (lenOf pd_I__Lcom_example_cadenza_cadenza_core_SprintState_ rfl) rfl (by show 2 * 0 + _ ≤ _; exact Nat.le_of_eq rfl) (hb hby at_15) (fun _ _ => ⟨rfl, e0, (by decide : 0 + 0 ≤ _), (by decide : 0 + 0 ≤ _)⟩)
      dsimp only [Pt.U, Pt.locs, Pt.cells, Pt.slots] at X35 l35 y35 z35 st35 hQ35
      subst l35 y35 z35
      obtain ⟨rfl, Nq35, K35⟩ := hQ35
      have N35 := Fr.app N0 Nq35
      refine own_go st35 ?_
      show OwnGo p e below _ (T35.setTop (mkF m 18 #[.val (.int p1), .val (.int p2), .val (.int (0 : Int32)), .val (.int (2 : Int32)), .unset, .unset, .unset] [(.ref aFUTURE)]))
      refine own_go (fun _ k => XS.astore X35.here hx rfl (hb hby at_18) rfl rfl (l' := #[.val (.int p1), .val (.int p2), .val (.int (0 : Int32)), .val (.int (2 : Int32)), .val (.ref aFUTURE), .unset, .unset]) rfl k) ?_
      show OwnGo p e below _ (T35.setTop (mkF m 20 #[.val (.int p1), .val (.int p2), .val (.int (0 : Int32)), .val (.int (2 : Int32)), .val (.ref aFUTURE), .unset, .unset] []))
      refine own_go (fun _ k => XS.iloadN X35.here hx rfl (hb hby at_20) rfl k) ?_
      show OwnGo p e below _ (T35.setTop (mkF m 21 #[.val (.int p1), .val (.int p2), .val (.int (0 : Int32)), .val (.int (2 : Int32)), .val (.ref aFUTURE), .unset, .unset] [(.int (2 : Int32))]))
      obtain ⟨_, _, ⟨T36, L36, k36, n36⟩, -, X36, ⟨Lc36, hQ36, l36, y36, z36⟩, st36⟩ := Jvm.LawKit.callS X35 hx (y := (⟨"com/example/cadenza/cadenza/core/SprintStateLeadsToPinLaw", "state", "(I)Lcom/example/cadenza/cadenza/core/SprintState;"⟩ : MethodName)) hown (mvT hZ (hw _ (List.mem_of_getElem? (i := 1) rfl))) (mvT hZ (hw _ (List.mem_of_getElem? (i := 2) rfl))) (mvT hZ (hw _ (List.mem_of_getElem? (i := 3) rfl))) (mvT hZ (hw _ (List.mem_of_getElem? (i := 4) rfl))) (by decide) (backOf (W := 0) (rm_state2 l Z a0 hw [] aFUTURE aACTIVE aCLOSED F0 h0 n0 O0) hZ (hw _ (List.mem_of_getElem? (i := 4) rfl)) (hw _ (List.mem_of_getElem? (i := 3) rfl)) (by decide) (by decide)) (g := (mkF m 21 #[.val (.int p1), .val (.int p2), .val (.int (0 : Int32)), .val (.int (2 : Int32)), .val (.ref aFUTURE), .unset, .unset] [(.int (2 : Int32))])) rfl (by rw [hml]; rfl) (argsL := [(.int (2 : Int32))]) (rest := []) (lenOf pd_I__Lcom_example_cadenza_cadenza_core_SprintState_ rfl) rfl (by show 2 * 0 + _ ≤ _; exact Nat.le_of_eq rfl) (hb hby at_21) (fun _ _ => ⟨rfl, K35, (by decide : 0 + 0 ≤ _), (by decide : 0 + 0 ≤ _)⟩)
      dsimp only [Pt.U, Pt.locs, Pt.cells, Pt.slots] at X36 l36 y36 z36 st36 hQ36
      subst l36 y36 z36
      obtain ⟨rfl, Nq36, K36⟩ := hQ36
      have N36 := Fr.app N35 Nq36
      refine own_go st36 ?_
      show OwnGo p e below _ (T36.setTop (mkF m 24 #[.val (.int p1), .val (.int p2), .val (.int (0 : Int32)), .val (.int (2 : Int32)), .val (.ref aFUTURE), .unset, .unset] [(.ref aCLOSED)]))
      refine own_go (fun _ k => XS.astore X36.here hx rfl (hb hby at_24) rfl rfl (l' := #[.val (.int p1), .val (.int p2), .val (.int (0 : Int32)), .val (.int (2 : Int32)), .val (.ref aFUTURE), .val (.ref aCLOSED), .unset]) rfl k) ?_
      show OwnGo p e below _ (T36.setTop (mkF m 26 #[.val (.int p1), .val (.int p2), .val (.int (0 : Int32)), .val (.int (2 : Int32)), .val (.ref aFUTURE), .val (.ref aCLOSED), .unset] []))
      refine own_go (fun _ k => XS.iloadN X36.here hx rfl (hb hby at_26) rfl k) ?_
      show OwnGo p e below _ (T36.setTop (mkF m 27 #[.val (.int p1), .val (.int p2), .val (.int (0 : Int32)), .val (.int (2 : Int32)), .val (.ref aFUTURE), .val (.ref aCLOSED), .unset] [(.int (2 : Int32))]))
      refine own_go (fun _ k => XS.iconst X36.here hx rfl (hb hby at_27) k) ?_
      show OwnGo p e below _ (T36.setTop (mkF m 28 #[.val (.int p1), .val (.int p2), .val (.int (0 : Int32)), .val (.int (2 : Int32)), .val (.ref aFUTURE), .val (.ref aCLOSED), .unset] [(.int (3 : Int32)), (.int (2 : Int32))]))
      refine own_go (fun _ k => XS.icmpNo X36.here hx rfl (hb hby at_28) rfl (by decide) k) ?_
      show OwnGo p e below _ (T36.setTop (mkF m 31 #[.val (.int p1), .val (.int p2), .val (.int (0 : Int32)), .val (.int (2 : Int32)), .val (.ref aFUTURE), .val (.ref aCLOSED), .unset] []))
      refine own_go (fun _ k => XS.iloadN X36.here hx rfl (hb hby at_31) rfl k) ?_
      show OwnGo p e below _ (T36.setTop (mkF m 32 #[.val (.int p1), .val (.int p2), .val (.int (0 : Int32)), .val (.int (2 : Int32)), .val (.ref aFUTURE), .val (.ref aCLOSED), .unset] [(.int (2 : Int32))]))
      refine own_go (fun _ k => XS.iloadN X36.here hx rfl (hb hby at_32) rfl k) ?_
      show OwnGo p e below _ (T36.setTop (mkF m 33 #[.val (.int p1), .val (.int p2), .val (.int (0 : Int32)), .val (.int (2 : Int32)), .val (.ref aFUTURE), .val (.ref aCLOSED), .unset] [(.int (0 : Int32)), (.int (2 : Int32))]))
      refine own_go (fun _ k => XS.iconst X36.here hx rfl (hb hby at_33) k) ?_
      show OwnGo p e below _ (T36.setTop (mkF m 34 #[.val (.int p1), .val (.int p2), .val (.int (0 : Int32)), .val (.int (2 : Int32)), .val (.ref aFUTURE), .val (.ref aCLOSED), .unset] [(.int (1 : Int32)), (.int (0 : Int32)), (.int (2 : Int32))]))
      refine own_go (fun _ k => XS.iadd X36.here hx rfl (hb hby at_34) rfl k) ?_
      show OwnGo p e below _ (T36.setTop (mkF m 35 #[.val (.int p1), .val (.int p2), .val (.int (0 : Int32)), .val (.int (2 : Int32)), .val (.ref aFUTURE), .val (.ref aCLOSED), .unset] [(.int ((0 : Int32) + (1 : Int32))), (.int (2 : Int32))]))
      rw [show ((0 : Int32) + (1 : Int32)) = (1 : Int32) from by decide]
      show OwnGo p e below _ (T36.setTop (mkF m 35 #[.val (.int p1), .val (.int p2), .val (.int (0 : Int32)), .val (.int (2 : Int32)), .val (.ref aFUTURE), .val (.ref aCLOSED), .unset] [(.int (1 : Int32)), (.int (2 : Int32))]))
      refine own_go (fun _ k => XS.icmpYes X36.here hx rfl (pc0 := 35) (pc' := 42) rfl (hb hby at_35) rfl (by decide) (by decide) (by decide) k) ?_
      show OwnGo p e below _ (T36.setTop (mkF m 42 #[.val (.int p1), .val (.int p2), .val (.int (0 : Int32)), .val (.int (2 : Int32)), .val (.ref aFUTURE), .val (.ref aCLOSED), .unset] []))
      refine own_go (fun _ k => XS.iconst X36.here hx rfl (hb hby at_42) k) ?_
      show OwnGo p e below _ (T36.setTop (mkF m 43 #[.val (.int p1), .val (.int p2), .val (.int (0 : Int32)), .val (.int (2 : Int32)), .val (.ref aFUTURE), .val (.ref aCLOSED), .unset] [(.int (0 : Int32))]))
      refine own_go (fun _ k => XS.istore X36.here hx rfl (hb hby at_43) rfl (l' := #[.val (.int p1), .val (.int p2), .val (.int (0 : Int32)), .val (.int (2 : Int32)), .val (.ref aFUTURE), .val (.ref aCLOSED), .val (.int (0 : Int32))]) rfl k) ?_
      show OwnGo p e below _ (T36.setTop (mkF m 45 #[.val (.int p1), .val (.int p2), .val (.int (0 : Int32)), .val (.int (2 : Int32)), .val (.ref aFUTURE), .val (.ref aCLOSED), .val (.int (0 : Int32))] []))
      refine own_go (fun _ k => XS.aload X36.here hx rfl (hb hby at_45) rfl rfl k) ?_
      show OwnGo p e below _ (T36.setTop (mkF m 47 #[.val (.int p1), .val (.int p2), .val (.int (0 : Int32)), .val (.int (2 : Int32)), .val (.ref aFUTURE), .val (.ref aCLOSED), .val (.int (0 : Int32))] [(.ref aFUTURE)]))
      refine own_go (fun _ k => XS.aload X36.here hx rfl (hb hby at_47) rfl rfl k) ?_
      show OwnGo p e below _ (T36.setTop (mkF m 49 #[.val (.int p1), .val (.int p2), .val (.int (0 : Int32)), .val (.int (2 : Int32)), .val (.ref aFUTURE), .val (.ref aCLOSED), .val (.int (0 : Int32))] [(.ref aCLOSED), (.ref aFUTURE)]))
      obtain ⟨cq37, kq37, qa37, qb37, qc37⟩ := isOf hZ K36 (F0.2.1.ext O0.2)
      obtain ⟨_, _, ⟨T37, L37, k37, n37⟩, -, X37, ⟨Lc37, hQ37, l37, y37, z37⟩, st37⟩ := X36.virtualBack hx (y := (⟨"com/example/cadenza/cadenza/core/SprintState", "leadsTo", "(Lcom/example/cadenza/cadenza/core/SprintState;)Z"⟩ : MethodName)) (z := (⟨"com/example/cadenza/cadenza/core/SprintState", "leadsTo", "(Lcom/example/cadenza/cadenza/core/SprintState;)Z"⟩ : MethodName)) hown (mvT hZ (hw _ (List.mem_of_getElem? (i := 8) rfl))) (mvT hZ (hw _ (List.mem_of_getElem? (i := 9) rfl))) (notFace_of_selects (args := #[]) (mvT hZ (hw _ (List.mem_of_getElem? (i := 11) rfl)))) (mvT hZ (hw _ (List.mem_of_getElem? (i := 11) rfl))) (mvT hZ (hw _ (List.mem_of_getElem? (i := 10) rfl))) (by decide) (backOf (W := 0) (rm_leads02 l Z a0 hw [] aFUTURE aACTIVE aCLOSED F0 h0 n0 O0) hZ (hw _ (List.mem_of_getElem? (i := 12) rfl)) (hw _ (List.mem_of_getElem? (i := 6) rfl)) (by decide) (by decide)) qa37 qc37 (g := (mkF m 49 #[.val (.int p1), .val (.int p2), .val (.int (0 : Int32)), .val (.int (2 : Int32)), .val (.ref aFUTURE), .val (.ref aCLOSED), .val (.int (0 : Int32))] [(.ref aCLOSED), (.ref aFUTURE)])) rfl (by rw [hml]; rfl) (Steps.refl _) (argsL := [(.ref aCLOSED)]) (rest := []) (lenOf pd_Lcom_example_cadenza_cadenza_core_SprintState___Z rfl) rfl (by show 2 * 0 + _ ≤ _; exact Nat.le_of_eq rfl) (hb hby at_49) (fun _ _ => ⟨rfl, K36, (by decide : 0 + 0 ≤ _), (by decide : 0 + 0 ≤ _)⟩)
      dsimp only [Pt.U, Pt.locs, Pt.cells, Pt.slots] at X37 l37 y37 z37 st37 hQ37
      subst l37 y37 z37
      obtain ⟨rfl, Nq37, K37⟩ := hQ37
      have N37 := Fr.app N36 Nq37
      refine own_go (fun _ k => st37.trans k) ?_
      show OwnGo p e below _ (T37.setTop (mkF m 52 #[.val (.int p1), .val (.int p2), .val (.int (0 : Int32)), .val (.int (2 : Int32)), .val (.ref aFUTURE), .val (.ref aCLOSED), .val (.int (0 : Int32))] [(.int (0 : Int32))]))
      refine own_go (fun _ k => XS.iload X37.here hx rfl (hb hby at_52) rfl k) ?_
      show OwnGo p e below _ (T37.setTop (mkF m 54 #[.val (.int p1), .val (.int p2), .val (.int (0 : Int32)), .val (.int (2 : Int32)), .val (.ref aFUTURE), .val (.ref aCLOSED), .val (.int (0 : Int32))] [(.int (0 : Int32)), (.int (0 : Int32))]))
      refine own_go (fun _ k => XS.icmpNo X37.here hx rfl (hb hby at_54) rfl (by decide) k) ?_
      show OwnGo p e below _ (T37.setTop (mkF m 57 #[.val (.int p1), .val (.int p2), .val (.int (0 : Int32)), .val (.int (2 : Int32)), .val (.ref aFUTURE), .val (.ref aCLOSED), .val (.int (0 : Int32))] []))
      refine own_go (fun _ k => XS.iconst X37.here hx rfl (hb hby at_57) k) ?_
      show OwnGo p e below _ (T37.setTop (mkF m 58 #[.val (.int p1), .val (.int p2), .val (.int (0 : Int32)), .val (.int (2 : Int32)), .val (.ref aFUTURE), .val (.ref aCLOSED), .val (.int (0 : Int32))] [(.int (1 : Int32))]))
      refine own_go (fun _ k => XS.goto X37.here hx rfl (pc0 := 58) (pc' := 62) rfl (hb hby at_58) (by decide) (by decide) k) ?_
      show OwnGo p e below _ (T37.setTop (mkF m 62 #[.val (.int p1), .val (.int p2), .val (.int (0 : Int32)), .val (.int (2 : Int32)), .val (.ref aFUTURE), .val (.ref aCLOSED), .val (.int (0 : Int32))] [(.int (1 : Int32))]))
      obtain ⟨fs, hr, hrun, hended, hW, hsame⟩ := X37.leave (v := some (.int (1 : Int32))) (fun h => by rw [Bd.returns] at h; cases h)
      refine ⟨_, _, retOut X37 hx Bd.returns rfl (Or.inl ⟨rfl, Or.inr (Or.inl rfl), _, rfl⟩) (hb hby at_62) hr, hrun, hended, _, _, rfl, ?_, ⟨_, rfl⟩, hW, hsame.mono (by decide) (by decide)⟩
      show Q_law Z aFUTURE aACTIVE aCLOSED p1 p2 h0 n0 _ T37.heap _
      rw [K37]
      exact ⟨rfl, N37⟩
    · rw [hv28]
      show OwnGo p e below _ (s₁.setTop (mkF m 13 #[.val (.int p1), .val (.int p2), .val (.int (0 : Int32)), .unset, .unset, .unset, .unset] [(.int (3 : Int32))]))
      refine own_go (fun _ k => XS.istoreN X0.here hx rfl (hb hby at_13) rfl (l' := #[.val (.int p1), .val (.int p2), .val (.int (0 : Int32)), .val (.int (3 : Int32)), .unset, .unset, .unset]) rfl k) ?_
      show OwnGo p e below _ (s₁.setTop (mkF m 14 #[.val (.int p1), .val (.int p2), .val (.int (0 : Int32)), .val (.int (3 : Int32)), .unset, .unset, .unset] []))
      refine own_go (fun _ k => XS.iloadN X0.here hx rfl (hb hby at_14) rfl k) ?_
      show OwnGo p e below _ (s₁.setTop (mkF m 15 #[.val (.int p1), .val (.int p2), .val (.int (0 : Int32)), .val (.int (3 : Int32)), .unset, .unset, .unset] [(.int (0 : Int32))]))
      obtain ⟨_, _, ⟨T38, L38, k38, n38⟩, -, X38, ⟨Lc38, hQ38, l38, y38, z38⟩, st38⟩ := Jvm.LawKit.callS X0 hx (y := (⟨"com/example/cadenza/cadenza/core/SprintStateLeadsToPinLaw", "state", "(I)Lcom/example/cadenza/cadenza/core/SprintState;"⟩ : MethodName)) hown (mvT hZ (hw _ (List.mem_of_getElem? (i := 1) rfl))) (mvT hZ (hw _ (List.mem_of_getElem? (i := 2) rfl))) (mvT hZ (hw _ (List.mem_of_getElem? (i := 3) rfl))) (mvT hZ (hw _ (List.mem_of_getElem? (i := 4) rfl))) (by decide) (backOf (W := 0) (rm_state0 l Z a0 hw [] aFUTURE aACTIVE aCLOSED F0 h0 n0 O0) hZ (hw _ (List.mem_of_getElem? (i := 4) rfl)) (hw _ (List.mem_of_getElem? (i := 3) rfl)) (by decide) (by decide)) (g := (mkF m 15 #[.val (.int p1), .val (.int p2), .val (.int (0 : Int32)), .val (.int (3 : Int32)), .unset, .unset, .unset] [(.int (0 : Int32))])) rfl (by rw [hml]; rfl) (argsL := [(.int (0 : Int32))]) (rest := []) (lenOf pd_I__Lcom_example_cadenza_cadenza_core_SprintState_ rfl) rfl (by show 2 * 0 + _ ≤ _; exact Nat.le_of_eq rfl) (hb hby at_15) (fun _ _ => ⟨rfl, e0, (by decide : 0 + 0 ≤ _), (by decide : 0 + 0 ≤ _)⟩)
      dsimp only [Pt.U, Pt.locs, Pt.cells, Pt.slots] at X38 l38 y38 z38 st38 hQ38
      subst l38 y38 z38
      obtain ⟨rfl, Nq38, K38⟩ := hQ38
      have N38 := Fr.app N0 Nq38
      refine own_go st38 ?_
      show OwnGo p e below _ (T38.setTop (mkF m 18 #[.val (.int p1), .val (.int p2), .val (.int (0 : Int32)), .val (.int (3 : Int32)), .unset, .unset, .unset] [(.ref aFUTURE)]))
      refine own_go (fun _ k => XS.astore X38.here hx rfl (hb hby at_18) rfl rfl (l' := #[.val (.int p1), .val (.int p2), .val (.int (0 : Int32)), .val (.int (3 : Int32)), .val (.ref aFUTURE), .unset, .unset]) rfl k) ?_
      show OwnGo p e below _ (T38.setTop (mkF m 20 #[.val (.int p1), .val (.int p2), .val (.int (0 : Int32)), .val (.int (3 : Int32)), .val (.ref aFUTURE), .unset, .unset] []))
      refine own_go (fun _ k => XS.iloadN X38.here hx rfl (hb hby at_20) rfl k) ?_
      show OwnGo p e below _ (T38.setTop (mkF m 21 #[.val (.int p1), .val (.int p2), .val (.int (0 : Int32)), .val (.int (3 : Int32)), .val (.ref aFUTURE), .unset, .unset] [(.int (3 : Int32))]))
      obtain ⟨_, _, ⟨T39, L39, k39, n39⟩, -, X39, ⟨Lc39, hQ39, l39, y39, z39⟩, st39⟩ := Jvm.LawKit.callS X38 hx (y := (⟨"com/example/cadenza/cadenza/core/SprintStateLeadsToPinLaw", "state", "(I)Lcom/example/cadenza/cadenza/core/SprintState;"⟩ : MethodName)) hown (mvT hZ (hw _ (List.mem_of_getElem? (i := 1) rfl))) (mvT hZ (hw _ (List.mem_of_getElem? (i := 2) rfl))) (mvT hZ (hw _ (List.mem_of_getElem? (i := 3) rfl))) (mvT hZ (hw _ (List.mem_of_getElem? (i := 4) rfl))) (by decide) (backOf (W := 0) (rm_state3 l Z a0 hw [] aFUTURE aACTIVE aCLOSED F0 h0 n0 O0) hZ (hw _ (List.mem_of_getElem? (i := 4) rfl)) (hw _ (List.mem_of_getElem? (i := 3) rfl)) (by decide) (by decide)) (g := (mkF m 21 #[.val (.int p1), .val (.int p2), .val (.int (0 : Int32)), .val (.int (3 : Int32)), .val (.ref aFUTURE), .unset, .unset] [(.int (3 : Int32))])) rfl (by rw [hml]; rfl) (argsL := [(.int (3 : Int32))]) (rest := []) (lenOf pd_I__Lcom_example_cadenza_cadenza_core_SprintState_ rfl) rfl (by show 2 * 0 + _ ≤ _; exact Nat.le_of_eq rfl) (hb hby at_21) (fun _ _ => ⟨rfl, K38, (by decide : 0 + 0 ≤ _), (by decide : 0 + 0 ≤ _)⟩)
      dsimp only [Pt.U, Pt.locs, Pt.cells, Pt.slots] at X39 l39 y39 z39 st39 hQ39
      subst l39 y39 z39
      obtain ⟨rfl, Nq39, K39⟩ := hQ39
      have N39 := Fr.app N38 Nq39
      refine own_go st39 ?_
      show OwnGo p e below _ (T39.setTop (mkF m 24 #[.val (.int p1), .val (.int p2), .val (.int (0 : Int32)), .val (.int (3 : Int32)), .val (.ref aFUTURE), .unset, .unset] [.null]))
      refine own_go (fun _ k => XS.astore X39.here hx rfl (hb hby at_24) rfl rfl (l' := #[.val (.int p1), .val (.int p2), .val (.int (0 : Int32)), .val (.int (3 : Int32)), .val (.ref aFUTURE), .val .null, .unset]) rfl k) ?_
      show OwnGo p e below _ (T39.setTop (mkF m 26 #[.val (.int p1), .val (.int p2), .val (.int (0 : Int32)), .val (.int (3 : Int32)), .val (.ref aFUTURE), .val .null, .unset] []))
      refine own_go (fun _ k => XS.iloadN X39.here hx rfl (hb hby at_26) rfl k) ?_
      show OwnGo p e below _ (T39.setTop (mkF m 27 #[.val (.int p1), .val (.int p2), .val (.int (0 : Int32)), .val (.int (3 : Int32)), .val (.ref aFUTURE), .val .null, .unset] [(.int (3 : Int32))]))
      refine own_go (fun _ k => XS.iconst X39.here hx rfl (hb hby at_27) k) ?_
      show OwnGo p e below _ (T39.setTop (mkF m 28 #[.val (.int p1), .val (.int p2), .val (.int (0 : Int32)), .val (.int (3 : Int32)), .val (.ref aFUTURE), .val .null, .unset] [(.int (3 : Int32)), (.int (3 : Int32))]))
      refine own_go (fun _ k => XS.icmpYes X39.here hx rfl (pc0 := 28) (pc' := 42) rfl (hb hby at_28) rfl (by decide) (by decide) (by decide) k) ?_
      show OwnGo p e below _ (T39.setTop (mkF m 42 #[.val (.int p1), .val (.int p2), .val (.int (0 : Int32)), .val (.int (3 : Int32)), .val (.ref aFUTURE), .val .null, .unset] []))
      refine own_go (fun _ k => XS.iconst X39.here hx rfl (hb hby at_42) k) ?_
      show OwnGo p e below _ (T39.setTop (mkF m 43 #[.val (.int p1), .val (.int p2), .val (.int (0 : Int32)), .val (.int (3 : Int32)), .val (.ref aFUTURE), .val .null, .unset] [(.int (0 : Int32))]))
      refine own_go (fun _ k => XS.istore X39.here hx rfl (hb hby at_43) rfl (l' := #[.val (.int p1), .val (.int p2), .val (.int (0 : Int32)), .val (.int (3 : Int32)), .val (.ref aFUTURE), .val .null, .val (.int (0 : Int32))]) rfl k) ?_
      show OwnGo p e below _ (T39.setTop (mkF m 45 #[.val (.int p1), .val (.int p2), .val (.int (0 : Int32)), .val (.int (3 : Int32)), .val (.ref aFUTURE), .val .null, .val (.int (0 : Int32))] []))
      refine own_go (fun _ k => XS.aload X39.here hx rfl (hb hby at_45) rfl rfl k) ?_
      show OwnGo p e below _ (T39.setTop (mkF m 47 #[.val (.int p1), .val (.int p2), .val (.int (0 : Int32)), .val (.int (3 : Int32)), .val (.ref aFUTURE), .val .null, .val (.int (0 : Int32))] [(.ref aFUTURE)]))
      refine own_go (fun _ k => XS.aload X39.here hx rfl (hb hby at_47) rfl rfl k) ?_
      show OwnGo p e below _ (T39.setTop (mkF m 49 #[.val (.int p1), .val (.int p2), .val (.int (0 : Int32)), .val (.int (3 : Int32)), .val (.ref aFUTURE), .val .null, .val (.int (0 : Int32))] [.null, (.ref aFUTURE)]))
      obtain ⟨cq40, kq40, qa40, qb40, qc40⟩ := isOf hZ K39 (F0.2.1.ext O0.2)
      obtain ⟨_, _, ⟨T40, L40, k40, n40⟩, -, X40, ⟨Lc40, hQ40, l40, y40, z40⟩, st40⟩ := X39.virtualBack hx (y := (⟨"com/example/cadenza/cadenza/core/SprintState", "leadsTo", "(Lcom/example/cadenza/cadenza/core/SprintState;)Z"⟩ : MethodName)) (z := (⟨"com/example/cadenza/cadenza/core/SprintState", "leadsTo", "(Lcom/example/cadenza/cadenza/core/SprintState;)Z"⟩ : MethodName)) hown (mvT hZ (hw _ (List.mem_of_getElem? (i := 8) rfl))) (mvT hZ (hw _ (List.mem_of_getElem? (i := 9) rfl))) (notFace_of_selects (args := #[]) (mvT hZ (hw _ (List.mem_of_getElem? (i := 11) rfl)))) (mvT hZ (hw _ (List.mem_of_getElem? (i := 11) rfl))) (mvT hZ (hw _ (List.mem_of_getElem? (i := 10) rfl))) (by decide) (backOf (W := 0) (rm_leads03 l Z a0 hw [] aFUTURE aACTIVE aCLOSED F0 h0 n0 O0) hZ (hw _ (List.mem_of_getElem? (i := 12) rfl)) (hw _ (List.mem_of_getElem? (i := 6) rfl)) (by decide) (by decide)) qa40 qc40 (g := (mkF m 49 #[.val (.int p1), .val (.int p2), .val (.int (0 : Int32)), .val (.int (3 : Int32)), .val (.ref aFUTURE), .val .null, .val (.int (0 : Int32))] [.null, (.ref aFUTURE)])) rfl (by rw [hml]; rfl) (Steps.refl _) (argsL := [.null]) (rest := []) (lenOf pd_Lcom_example_cadenza_cadenza_core_SprintState___Z rfl) rfl (by show 2 * 0 + _ ≤ _; exact Nat.le_of_eq rfl) (hb hby at_49) (fun _ _ => ⟨rfl, K39, (by decide : 0 + 0 ≤ _), (by decide : 0 + 0 ≤ _)⟩)
      dsimp only [Pt.U, Pt.locs, Pt.cells, Pt.slots] at X40 l40 y40 z40 st40 hQ40
      subst l40 y40 z40
      obtain ⟨rfl, Nq40, K40⟩ := hQ40
      have N40 := Fr.app N39 Nq40
      refine own_go (fun _ k => st40.trans k) ?_
      show OwnGo p e below _ (T40.setTop (mkF m 52 #[.val (.int p1), .val (.int p2), .val (.int (0 : Int32)), .val (.int (3 : Int32)), .val (.ref aFUTURE), .val .null, .val (.int (0 : Int32))] [(.int (0 : Int32))]))
      refine own_go (fun _ k => XS.iload X40.here hx rfl (hb hby at_52) rfl k) ?_
      show OwnGo p e below _ (T40.setTop (mkF m 54 #[.val (.int p1), .val (.int p2), .val (.int (0 : Int32)), .val (.int (3 : Int32)), .val (.ref aFUTURE), .val .null, .val (.int (0 : Int32))] [(.int (0 : Int32)), (.int (0 : Int32))]))
      refine own_go (fun _ k => XS.icmpNo X40.here hx rfl (hb hby at_54) rfl (by decide) k) ?_
      show OwnGo p e below _ (T40.setTop (mkF m 57 #[.val (.int p1), .val (.int p2), .val (.int (0 : Int32)), .val (.int (3 : Int32)), .val (.ref aFUTURE), .val .null, .val (.int (0 : Int32))] []))
      refine own_go (fun _ k => XS.iconst X40.here hx rfl (hb hby at_57) k) ?_
      show OwnGo p e below _ (T40.setTop (mkF m 58 #[.val (.int p1), .val (.int p2), .val (.int (0 : Int32)), .val (.int (3 : Int32)), .val (.ref aFUTURE), .val .null, .val (.int (0 : Int32))] [(.int (1 : Int32))]))
      refine own_go (fun _ k => XS.goto X40.here hx rfl (pc0 := 58) (pc' := 62) rfl (hb hby at_58) (by decide) (by decide) k) ?_
      show OwnGo p e below _ (T40.setTop (mkF m 62 #[.val (.int p1), .val (.int p2), .val (.int (0 : Int32)), .val (.int (3 : Int32)), .val (.ref aFUTURE), .val .null, .val (.int (0 : Int32))] [(.int (1 : Int32))]))
      obtain ⟨fs, hr, hrun, hended, hW, hsame⟩ := X40.leave (v := some (.int (1 : Int32))) (fun h => by rw [Bd.returns] at h; cases h)
      refine ⟨_, _, retOut X40 hx Bd.returns rfl (Or.inl ⟨rfl, Or.inr (Or.inl rfl), _, rfl⟩) (hb hby at_62) hr, hrun, hended, _, _, rfl, ?_, ⟨_, rfl⟩, hW, hsame.mono (by decide) (by decide)⟩
      show Q_law Z aFUTURE aACTIVE aCLOSED p1 p2 h0 n0 _ T40.heap _
      rw [K40]
      exact ⟨rfl, N40⟩
  · rw [hv27]
    show OwnGo p e below _ (s₁.setTop (mkF m 6 #[.val (.int p1), .val (.int p2), .unset, .unset, .unset, .unset, .unset] [(.int (1 : Int32))]))
    refine own_go (fun _ k => XS.istoreN X0.here hx rfl (hb hby at_6) rfl (l' := #[.val (.int p1), .val (.int p2), .val (.int (1 : Int32)), .unset, .unset, .unset, .unset]) rfl k) ?_
    show OwnGo p e below _ (s₁.setTop (mkF m 7 #[.val (.int p1), .val (.int p2), .val (.int (1 : Int32)), .unset, .unset, .unset, .unset] []))
    refine own_go (fun _ k => XS.iloadN X0.here hx rfl (hb hby at_7) rfl k) ?_
    show OwnGo p e below _ (s₁.setTop (mkF m 8 #[.val (.int p1), .val (.int p2), .val (.int (1 : Int32)), .unset, .unset, .unset, .unset] [(.int p2)]))
    refine own_go (fun _ k => Jvm.Stand.ldcI X0 hx hown (mvT hZ (hw _ (List.mem_of_getElem? (i := 0) rfl))) rfl (hb hby at_8) k) ?_
    show OwnGo p e below _ (s₁.setTop (mkF m 10 #[.val (.int p1), .val (.int p2), .val (.int (1 : Int32)), .unset, .unset, .unset, .unset] [(.int (2147483647 : Int32)), (.int p2)]))
    refine own_go (fun _ k => XS.iand X0.here hx rfl (hb hby at_10) rfl k) ?_
    show OwnGo p e below _ (s₁.setTop (mkF m 11 #[.val (.int p1), .val (.int p2), .val (.int (1 : Int32)), .unset, .unset, .unset, .unset] [(.int (p2 &&& (2147483647 : Int32)))]))
    refine own_go (fun _ k => XS.iconst X0.here hx rfl (hb hby at_11) k) ?_
    show OwnGo p e below _ (s₁.setTop (mkF m 12 #[.val (.int p1), .val (.int p2), .val (.int (1 : Int32)), .unset, .unset, .unset, .unset] [(.int (4 : Int32)), (.int (p2 &&& (2147483647 : Int32)))]))
    refine own_go (fun _ k => iremM X0 hx rfl (hb hby at_12) rfl (by decide) k) ?_
    show OwnGo p e below _ (s₁.setTop (mkF m 13 #[.val (.int p1), .val (.int p2), .val (.int (1 : Int32)), .unset, .unset, .unset, .unset] [(.int ((p2 &&& (2147483647 : Int32)) % (4 : Int32)))]))
    rcases own_mod4 p2 with hv41 | hv41 | hv41 | hv41
    · rw [hv41]
      show OwnGo p e below _ (s₁.setTop (mkF m 13 #[.val (.int p1), .val (.int p2), .val (.int (1 : Int32)), .unset, .unset, .unset, .unset] [(.int (0 : Int32))]))
      refine own_go (fun _ k => XS.istoreN X0.here hx rfl (hb hby at_13) rfl (l' := #[.val (.int p1), .val (.int p2), .val (.int (1 : Int32)), .val (.int (0 : Int32)), .unset, .unset, .unset]) rfl k) ?_
      show OwnGo p e below _ (s₁.setTop (mkF m 14 #[.val (.int p1), .val (.int p2), .val (.int (1 : Int32)), .val (.int (0 : Int32)), .unset, .unset, .unset] []))
      refine own_go (fun _ k => XS.iloadN X0.here hx rfl (hb hby at_14) rfl k) ?_
      show OwnGo p e below _ (s₁.setTop (mkF m 15 #[.val (.int p1), .val (.int p2), .val (.int (1 : Int32)), .val (.int (0 : Int32)), .unset, .unset, .unset] [(.int (1 : Int32))]))
      obtain ⟨_, _, ⟨T42, L42, k42, n42⟩, -, X42, ⟨Lc42, hQ42, l42, y42, z42⟩, st42⟩ := Jvm.LawKit.callS X0 hx (y := (⟨"com/example/cadenza/cadenza/core/SprintStateLeadsToPinLaw", "state", "(I)Lcom/example/cadenza/cadenza/core/SprintState;"⟩ : MethodName)) hown (mvT hZ (hw _ (List.mem_of_getElem? (i := 1) rfl))) (mvT hZ (hw _ (List.mem_of_getElem? (i := 2) rfl))) (mvT hZ (hw _ (List.mem_of_getElem? (i := 3) rfl))) (mvT hZ (hw _ (List.mem_of_getElem? (i := 4) rfl))) (by decide) (backOf (W := 0) (rm_state1 l Z a0 hw [] aFUTURE aACTIVE aCLOSED F0 h0 n0 O0) hZ (hw _ (List.mem_of_getElem? (i := 4) rfl)) (hw _ (List.mem_of_getElem? (i := 3) rfl)) (by decide) (by decide)) (g := (mkF m 15 #[.val (.int p1), .val (.int p2), .val (.int (1 : Int32)), .val (.int (0 : Int32)), .unset, .unset, .unset] [(.int (1 : Int32))])) rfl (by rw [hml]; rfl) (argsL := [(.int (1 : Int32))]) (rest := []) (lenOf pd_I__Lcom_example_cadenza_cadenza_core_SprintState_ rfl) rfl (by show 2 * 0 + _ ≤ _; exact Nat.le_of_eq rfl) (hb hby at_15) (fun _ _ => ⟨rfl, e0, (by decide : 0 + 0 ≤ _), (by decide : 0 + 0 ≤ _)⟩)
      dsimp only [Pt.U, Pt.locs, Pt.cells, Pt.slots] at X42 l42 y42 z42 st42 hQ42
      subst l42 y42 z42
      obtain ⟨rfl, Nq42, K42⟩ := hQ42
      have N42 := Fr.app N0 Nq42
      refine own_go st42 ?_
      show OwnGo p e below _ (T42.setTop (mkF m 18 #[.val (.int p1), .val (.int p2), .val (.int (1 : Int32)), .val (.int (0 : Int32)), .unset, .unset, .unset] [(.ref aACTIVE)]))
      refine own_go (fun _ k => XS.astore X42.here hx rfl (hb hby at_18) rfl rfl (l' := #[.val (.int p1), .val (.int p2), .val (.int (1 : Int32)), .val (.int (0 : Int32)), .val (.ref aACTIVE), .unset, .unset]) rfl k) ?_
      show OwnGo p e below _ (T42.setTop (mkF m 20 #[.val (.int p1), .val (.int p2), .val (.int (1 : Int32)), .val (.int (0 : Int32)), .val (.ref aACTIVE), .unset, .unset] []))
      refine own_go (fun _ k => XS.iloadN X42.here hx rfl (hb hby at_20) rfl k) ?_
      show OwnGo p e below _ (T42.setTop (mkF m 21 #[.val (.int p1), .val (.int p2), .val (.int (1 : Int32)), .val (.int (0 : Int32)), .val (.ref aACTIVE), .unset, .unset] [(.int (0 : Int32))]))
      obtain ⟨_, _, ⟨T43, L43, k43, n43⟩, -, X43, ⟨Lc43, hQ43, l43, y43, z43⟩, st43⟩ := Jvm.LawKit.callS X42 hx (y := (⟨"com/example/cadenza/cadenza/core/SprintStateLeadsToPinLaw", "state", "(I)Lcom/example/cadenza/cadenza/core/SprintState;"⟩ : MethodName)) hown (mvT hZ (hw _ (List.mem_of_getElem? (i := 1) rfl))) (mvT hZ (hw _ (List.mem_of_getElem? (i := 2) rfl))) (mvT hZ (hw _ (List.mem_of_getElem? (i := 3) rfl))) (mvT hZ (hw _ (List.mem_of_getElem? (i := 4) rfl))) (by decide) (backOf (W := 0) (rm_state0 l Z a0 hw [] aFUTURE aACTIVE aCLOSED F0 h0 n0 O0) hZ (hw _ (List.mem_of_getElem? (i := 4) rfl)) (hw _ (List.mem_of_getElem? (i := 3) rfl)) (by decide) (by decide)) (g := (mkF m 21 #[.val (.int p1), .val (.int p2), .val (.int (1 : Int32)), .val (.int (0 : Int32)), .val (.ref aACTIVE), .unset, .unset] [(.int (0 : Int32))])) rfl (by rw [hml]; rfl) (argsL := [(.int (0 : Int32))]) (rest := []) (lenOf pd_I__Lcom_example_cadenza_cadenza_core_SprintState_ rfl) rfl (by show 2 * 0 + _ ≤ _; exact Nat.le_of_eq rfl) (hb hby at_21) (fun _ _ => ⟨rfl, K42, (by decide : 0 + 0 ≤ _), (by decide : 0 + 0 ≤ _)⟩)
      dsimp only [Pt.U, Pt.locs, Pt.cells, Pt.slots] at X43 l43 y43 z43 st43 hQ43
      subst l43 y43 z43
      obtain ⟨rfl, Nq43, K43⟩ := hQ43
      have N43 := Fr.app N42 Nq43
      refine own_go st43 ?_
      show OwnGo p e below _ (T43.setTop (mkF m 24 #[.val (.int p1), .val (.int p2), .val (.int (1 : Int32)), .val (.int (0 : Int32)), .val (.ref aACTIVE), .unset, .unset] [(.ref aFUTURE)]))
      refine own_go (fun _ k => XS.astore X43.here hx rfl (hb hby at_24) rfl rfl (l' := #[.val (.int p1), .val (.int p2), .val (.int (1 : Int32)), .val (.int (0 : Int32)), .val (.ref aACTIVE), .val (.ref aFUTURE), .unset]) rfl k) ?_
      show OwnGo p e below _ (T43.setTop (mkF m 26 #[.val (.int p1), .val (.int p2), .val (.int (1 : Int32)), .val (.int (0 : Int32)), .val (.ref aACTIVE), .val (.ref aFUTURE), .unset] []))
      refine own_go (fun _ k => XS.iloadN X43.here hx rfl (hb hby at_26) rfl k) ?_
      show OwnGo p e below _ (T43.setTop (mkF m 27 #[.val (.int p1), .val (.int p2), .val (.int (1 : Int32)), .val (.int (0 : Int32)), .val (.ref aACTIVE), .val (.ref aFUTURE), .unset] [(.int (0 : Int32))]))
      refine own_go (fun _ k => XS.iconst X43.here hx rfl (hb hby at_27) k) ?_
      show OwnGo p e below _ (T43.setTop (mkF m 28 #[.val (.int p1), .val (.int p2), .val (.int (1 : Int32)), .val (.int (0 : Int32)), .val (.ref aACTIVE), .val (.ref aFUTURE), .unset] [(.int (3 : Int32)), (.int (0 : Int32))]))
      refine own_go (fun _ k => XS.icmpNo X43.here hx rfl (hb hby at_28) rfl (by decide) k) ?_
      show OwnGo p e below _ (T43.setTop (mkF m 31 #[.val (.int p1), .val (.int p2), .val (.int (1 : Int32)), .val (.int (0 : Int32)), .val (.ref aACTIVE), .val (.ref aFUTURE), .unset] []))
      refine own_go (fun _ k => XS.iloadN X43.here hx rfl (hb hby at_31) rfl k) ?_
      show OwnGo p e below _ (T43.setTop (mkF m 32 #[.val (.int p1), .val (.int p2), .val (.int (1 : Int32)), .val (.int (0 : Int32)), .val (.ref aACTIVE), .val (.ref aFUTURE), .unset] [(.int (0 : Int32))]))
      refine own_go (fun _ k => XS.iloadN X43.here hx rfl (hb hby at_32) rfl k) ?_
      show OwnGo p e below _ (T43.setTop (mkF m 33 #[.val (.int p1), .val (.int p2), .val (.int (1 : Int32)), .val (.int (0 : Int32)), .val (.ref aACTIVE), .val (.ref aFUTURE), .unset] [(.int (1 : Int32)), (.int (0 : Int32))]))
      refine own_go (fun _ k => XS.iconst X43.here hx rfl (hb hby at_33) k) ?_
      show OwnGo p e below _ (T43.setTop (mkF m 34 #[.val (.int p1), .val (.int p2), .val (.int (1 : Int32)), .val (.int (0 : Int32)), .val (.ref aACTIVE), .val (.ref aFUTURE), .unset] [(.int (1 : Int32)), (.int (1 : Int32)), (.int (0 : Int32))]))
      refine own_go (fun _ k => XS.iadd X43.here hx rfl (hb hby at_34) rfl k) ?_
      show OwnGo p e below _ (T43.setTop (mkF m 35 #[.val (.int p1), .val (.int p2), .val (.int (1 : Int32)), .val (.int (0 : Int32)), .val (.ref aACTIVE), .val (.ref aFUTURE), .unset] [(.int ((1 : Int32) + (1 : Int32))), (.int (0 : Int32))]))
      rw [show ((1 : Int32) + (1 : Int32)) = (2 : Int32) from by decide]
      show OwnGo p e below _ (T43.setTop (mkF m 35 #[.val (.int p1), .val (.int p2), .val (.int (1 : Int32)), .val (.int (0 : Int32)), .val (.ref aACTIVE), .val (.ref aFUTURE), .unset] [(.int (2 : Int32)), (.int (0 : Int32))]))
      refine own_go (fun _ k => XS.icmpYes X43.here hx rfl (pc0 := 35) (pc' := 42) rfl (hb hby at_35) rfl (by decide) (by decide) (by decide) k) ?_
      show OwnGo p e below _ (T43.setTop (mkF m 42 #[.val (.int p1), .val (.int p2), .val (.int (1 : Int32)), .val (.int (0 : Int32)), .val (.ref aACTIVE), .val (.ref aFUTURE), .unset] []))
      refine own_go (fun _ k => XS.iconst X43.here hx rfl (hb hby at_42) k) ?_
      show OwnGo p e below _ (T43.setTop (mkF m 43 #[.val (.int p1), .val (.int p2), .val (.int (1 : Int32)), .val (.int (0 : Int32)), .val (.ref aACTIVE), .val (.ref aFUTURE), .unset] [(.int (0 : Int32))]))
      refine own_go (fun _ k => XS.istore X43.here hx rfl (hb hby at_43) rfl (l' := #[.val (.int p1), .val (.int p2), .val (.int (1 : Int32)), .val (.int (0 : Int32)), .val (.ref aACTIVE), .val (.ref aFUTURE), .val (.int (0 : Int32))]) rfl k) ?_
      show OwnGo p e below _ (T43.setTop (mkF m 45 #[.val (.int p1), .val (.int p2), .val (.int (1 : Int32)), .val (.int (0 : Int32)), .val (.ref aACTIVE), .val (.ref aFUTURE), .val (.int (0 : Int32))] []))
      refine own_go (fun _ k => XS.aload X43.here hx rfl (hb hby at_45) rfl rfl k) ?_
      show OwnGo p e below _ (T43.setTop (mkF m 47 #[.val (.int p1), .val (.int p2), .val (.int (1 : Int32)), .val (.int (0 : Int32)), .val (.ref aACTIVE), .val (.ref aFUTURE), .val (.int (0 : Int32))] [(.ref aACTIVE)]))
      refine own_go (fun _ k => XS.aload X43.here hx rfl (hb hby at_47) rfl rfl k) ?_
      show OwnGo p e below _ (T43.setTop (mkF m 49 #[.val (.int p1), .val (.int p2), .val (.int (1 : Int32)), .val (.int (0 : Int32)), .val (.ref aACTIVE), .val (.ref aFUTURE), .val (.int (0 : Int32))] [(.ref aFUTURE), (.ref aACTIVE)]))
      obtain ⟨cq44, kq44, qa44, qb44, qc44⟩ := isOf hZ K43 (F0.2.2.2.2.1.ext O0.2)
      obtain ⟨_, _, ⟨T44, L44, k44, n44⟩, -, X44, ⟨Lc44, hQ44, l44, y44, z44⟩, st44⟩ := X43.virtualBack hx (y := (⟨"com/example/cadenza/cadenza/core/SprintState", "leadsTo", "(Lcom/example/cadenza/cadenza/core/SprintState;)Z"⟩ : MethodName)) (z := (⟨"com/example/cadenza/cadenza/core/SprintState", "leadsTo", "(Lcom/example/cadenza/cadenza/core/SprintState;)Z"⟩ : MethodName)) hown (mvT hZ (hw _ (List.mem_of_getElem? (i := 8) rfl))) (mvT hZ (hw _ (List.mem_of_getElem? (i := 9) rfl))) (notFace_of_selects (args := #[]) (mvT hZ (hw _ (List.mem_of_getElem? (i := 11) rfl)))) (mvT hZ (hw _ (List.mem_of_getElem? (i := 11) rfl))) (mvT hZ (hw _ (List.mem_of_getElem? (i := 10) rfl))) (by decide) (backOf (W := 0) (rm_leads10 l Z a0 hw [] aFUTURE aACTIVE aCLOSED F0 h0 n0 O0) hZ (hw _ (List.mem_of_getElem? (i := 12) rfl)) (hw _ (List.mem_of_getElem? (i := 6) rfl)) (by decide) (by decide)) qa44 qc44 (g := (mkF m 49 #[.val (.int p1), .val (.int p2), .val (.int (1 : Int32)), .val (.int (0 : Int32)), .val (.ref aACTIVE), .val (.ref aFUTURE), .val (.int (0 : Int32))] [(.ref aFUTURE), (.ref aACTIVE)])) rfl (by rw [hml]; rfl) (Steps.refl _) (argsL := [(.ref aFUTURE)]) (rest := []) (lenOf pd_Lcom_example_cadenza_cadenza_core_SprintState___Z rfl) rfl (by show 2 * 0 + _ ≤ _; exact Nat.le_of_eq rfl) (hb hby at_49) (fun _ _ => ⟨rfl, K43, (by decide : 0 + 0 ≤ _), (by decide : 0 + 0 ≤ _)⟩)
      dsimp only [Pt.U, Pt.locs, Pt.cells, Pt.slots] at X44 l44 y44 z44 st44 hQ44
      subst l44 y44 z44
      obtain ⟨rfl, Nq44, K44⟩ := hQ44
      have N44 := Fr.app N43 Nq44
      refine own_go (fun _ k => st44.trans k) ?_
      show OwnGo p e below _ (T44.setTop (mkF m 52 #[.val (.int p1), .val (.int p2), .val (.int (1 : Int32)), .val (.int (0 : Int32)), .val (.ref aACTIVE), .val (.ref aFUTURE), .val (.int (0 : Int32))] [(.int (0 : Int32))]))
      refine own_go (fun _ k => XS.iload X44.here hx rfl (hb hby at_52) rfl k) ?_
      show OwnGo p e below _ (T44.setTop (mkF m 54 #[.val (.int p1), .val (.int p2), .val (.int (1 : Int32)), .val (.int (0 : Int32)), .val (.ref aACTIVE), .val (.ref aFUTURE), .val (.int (0 : Int32))] [(.int (0 : Int32)), (.int (0 : Int32))]))
      refine own_go (fun _ k => XS.icmpNo X44.here hx rfl (hb hby at_54) rfl (by decide) k) ?_
      show OwnGo p e below _ (T44.setTop (mkF m 57 #[.val (.int p1), .val (.int p2), .val (.int (1 : Int32)), .val (.int (0 : Int32)), .val (.ref aACTIVE), .val (.ref aFUTURE), .val (.int (0 : Int32))] []))
      refine own_go (fun _ k => XS.iconst X44.here hx rfl (hb hby at_57) k) ?_
      show OwnGo p e below _ (T44.setTop (mkF m 58 #[.val (.int p1), .val (.int p2), .val (.int (1 : Int32)), .val (.int (0 : Int32)), .val (.ref aACTIVE), .val (.ref aFUTURE), .val (.int (0 : Int32))] [(.int (1 : Int32))]))
      refine own_go (fun _ k => XS.goto X44.here hx rfl (pc0 := 58) (pc' := 62) rfl (hb hby at_58) (by decide) (by decide) k) ?_
      show OwnGo p e below _ (T44.setTop (mkF m 62 #[.val (.int p1), .val (.int p2), .val (.int (1 : Int32)), .val (.int (0 : Int32)), .val (.ref aACTIVE), .val (.ref aFUTURE), .val (.int (0 : Int32))] [(.int (1 : Int32))]))
      obtain ⟨fs, hr, hrun, hended, hW, hsame⟩ := X44.leave (v := some (.int (1 : Int32))) (fun h => by rw [Bd.returns] at h; cases h)
      refine ⟨_, _, retOut X44 hx Bd.returns rfl (Or.inl ⟨rfl, Or.inr (Or.inl rfl), _, rfl⟩) (hb hby at_62) hr, hrun, hended, _, _, rfl, ?_, ⟨_, rfl⟩, hW, hsame.mono (by decide) (by decide)⟩
      show Q_law Z aFUTURE aACTIVE aCLOSED p1 p2 h0 n0 _ T44.heap _
      rw [K44]
      exact ⟨rfl, N44⟩
    · rw [hv41]
      show OwnGo p e below _ (s₁.setTop (mkF m 13 #[.val (.int p1), .val (.int p2), .val (.int (1 : Int32)), .unset, .unset, .unset, .unset] [(.int (1 : Int32))]))
      refine own_go (fun _ k => XS.istoreN X0.here hx rfl (hb hby at_13) rfl (l' := #[.val (.int p1), .val (.int p2), .val (.int (1 : Int32)), .val (.int (1 : Int32)), .unset, .unset, .unset]) rfl k) ?_
      show OwnGo p e below _ (s₁.setTop (mkF m 14 #[.val (.int p1), .val (.int p2), .val (.int (1 : Int32)), .val (.int (1 : Int32)), .unset, .unset, .unset] []))
      refine own_go (fun _ k => XS.iloadN X0.here hx rfl (hb hby at_14) rfl k) ?_
      show OwnGo p e below _ (s₁.setTop (mkF m 15 #[.val (.int p1), .val (.int p2), .val (.int (1 : Int32)), .val (.int (1 : Int32)), .unset, .unset, .unset] [(.int (1 : Int32))]))
      obtain ⟨_, _, ⟨T45, L45, k45, n45⟩, -, X45, ⟨Lc45, hQ45, l45, y45, z45⟩, st45⟩ := Jvm.LawKit.callS X0 hx (y := (⟨"com/example/cadenza/cadenza/core/SprintStateLeadsToPinLaw", "state", "(I)Lcom/example/cadenza/cadenza/core/SprintState;"⟩ : MethodName)) hown (mvT hZ (hw _ (List.mem_of_getElem? (i := 1) rfl))) (mvT hZ (hw _ (List.mem_of_getElem? (i := 2) rfl))) (mvT hZ (hw _ (List.mem_of_getElem? (i := 3) rfl))) (mvT hZ (hw _ (List.mem_of_getElem? (i := 4) rfl))) (by decide) (backOf (W := 0) (rm_state1 l Z a0 hw [] aFUTURE aACTIVE aCLOSED F0 h0 n0 O0) hZ (hw _ (List.mem_of_getElem? (i := 4) rfl)) (hw _ (List.mem_of_getElem? (i := 3) rfl)) (by decide) (by decide)) (g := (mkF m 15 #[.val (.int p1), .val (.int p2), .val (.int (1 : Int32)), .val (.int (1 : Int32)), .unset, .unset, .unset] [(.int (1 : Int32))])) rfl (by rw [hml]; rfl) (argsL := [(.int (1 : Int32))]) (rest := []) (lenOf pd_I__Lcom_example_cadenza_cadenza_core_SprintState_ rfl) rfl (by show 2 * 0 + _ ≤ _; exact Nat.le_of_eq rfl) (hb hby at_15) (fun _ _ => ⟨rfl, e0, (by decide : 0 + 0 ≤ _), (by decide : 0 + 0 ≤ _)⟩)
      dsimp only [Pt.U, Pt.locs, Pt.cells, Pt.slots] at X45 l45 y45 z45 st45 hQ45
      subst l45 y45 z45
      obtain ⟨rfl, Nq45, K45⟩ := hQ45
      have N45 := Fr.app N0 Nq45
      refine own_go st45 ?_
      show OwnGo p e below _ (T45.setTop (mkF m 18 #[.val (.int p1), .val (.int p2), .val (.int (1 : Int32)), .val (.int (1 : Int32)), .unset, .unset, .unset] [(.ref aACTIVE)]))
      refine own_go (fun _ k => XS.astore X45.here hx rfl (hb hby at_18) rfl rfl (l' := #[.val (.int p1), .val (.int p2), .val (.int (1 : Int32)), .val (.int (1 : Int32)), .val (.ref aACTIVE), .unset, .unset]) rfl k) ?_
      show OwnGo p e below _ (T45.setTop (mkF m 20 #[.val (.int p1), .val (.int p2), .val (.int (1 : Int32)), .val (.int (1 : Int32)), .val (.ref aACTIVE), .unset, .unset] []))
      refine own_go (fun _ k => XS.iloadN X45.here hx rfl (hb hby at_20) rfl k) ?_
      show OwnGo p e below _ (T45.setTop (mkF m 21 #[.val (.int p1), .val (.int p2), .val (.int (1 : Int32)), .val (.int (1 : Int32)), .val (.ref aACTIVE), .unset, .unset] [(.int (1 : Int32))]))
      obtain ⟨_, _, ⟨T46, L46, k46, n46⟩, -, X46, ⟨Lc46, hQ46, l46, y46, z46⟩, st46⟩ := Jvm.LawKit.callS X45 hx (y := (⟨"com/example/cadenza/cadenza/core/SprintStateLeadsToPinLaw", "state", "(I)Lcom/example/cadenza/cadenza/core/SprintState;"⟩ : MethodName)) hown (mvT hZ (hw _ (List.mem_of_getElem? (i := 1) rfl))) (mvT hZ (hw _ (List.mem_of_getElem? (i := 2) rfl))) (mvT hZ (hw _ (List.mem_of_getElem? (i := 3) rfl))) (mvT hZ (hw _ (List.mem_of_getElem? (i := 4) rfl))) (by decide) (backOf (W := 0) (rm_state1 l Z a0 hw [] aFUTURE aACTIVE aCLOSED F0 h0 n0 O0) hZ (hw _ (List.mem_of_getElem? (i := 4) rfl)) (hw _ (List.mem_of_getElem? (i := 3) rfl)) (by decide) (by decide)) (g := (mkF m 21 #[.val (.int p1), .val (.int p2), .val (.int (1 : Int32)), .val (.int (1 : Int32)), .val (.ref aACTIVE), .unset, .unset] [(.int (1 : Int32))])) rfl (by rw [hml]; rfl) (argsL := [(.int (1 : Int32))]) (rest := []) (lenOf pd_I__Lcom_example_cadenza_cadenza_core_SprintState_ rfl) rfl (by show 2 * 0 + _ ≤ _; exact Nat.le_of_eq rfl) (hb hby at_21) (fun _ _ => ⟨rfl, K45, (by decide : 0 + 0 ≤ _), (by decide : 0 + 0 ≤ _)⟩)
      dsimp only [Pt.U, Pt.locs, Pt.cells, Pt.slots] at X46 l46 y46 z46 st46 hQ46
      subst l46 y46 z46
      obtain ⟨rfl, Nq46, K46⟩ := hQ46
      have N46 := Fr.app N45 Nq46
      refine own_go st46 ?_
      show OwnGo p e below _ (T46.setTop (mkF m 24 #[.val (.int p1), .val (.int p2), .val (.int (1 : Int32)), .val (.int (1 : Int32)), .val (.ref aACTIVE), .unset, .unset] [(.ref aACTIVE)]))
      refine own_go (fun _ k => XS.astore X46.here hx rfl (hb hby at_24) rfl rfl (l' := #[.val (.int p1), .val (.int p2), .val (.int (1 : Int32)), .val (.int (1 : Int32)), .val (.ref aACTIVE), .val (.ref aACTIVE), .unset]) rfl k) ?_
      show OwnGo p e below _ (T46.setTop (mkF m 26 #[.val (.int p1), .val (.int p2), .val (.int (1 : Int32)), .val (.int (1 : Int32)), .val (.ref aACTIVE), .val (.ref aACTIVE), .unset] []))
      refine own_go (fun _ k => XS.iloadN X46.here hx rfl (hb hby at_26) rfl k) ?_
      show OwnGo p e below _ (T46.setTop (mkF m 27 #[.val (.int p1), .val (.int p2), .val (.int (1 : Int32)), .val (.int (1 : Int32)), .val (.ref aACTIVE), .val (.ref aACTIVE), .unset] [(.int (1 : Int32))]))
      refine own_go (fun _ k => XS.iconst X46.here hx rfl (hb hby at_27) k) ?_
      show OwnGo p e below _ (T46.setTop (mkF m 28 #[.val (.int p1), .val (.int p2), .val (.int (1 : Int32)), .val (.int (1 : Int32)), .val (.ref aACTIVE), .val (.ref aACTIVE), .unset] [(.int (3 : Int32)), (.int (1 : Int32))]))
      refine own_go (fun _ k => XS.icmpNo X46.here hx rfl (hb hby at_28) rfl (by decide) k) ?_
      show OwnGo p e below _ (T46.setTop (mkF m 31 #[.val (.int p1), .val (.int p2), .val (.int (1 : Int32)), .val (.int (1 : Int32)), .val (.ref aACTIVE), .val (.ref aACTIVE), .unset] []))
      refine own_go (fun _ k => XS.iloadN X46.here hx rfl (hb hby at_31) rfl k) ?_
      show OwnGo p e below _ (T46.setTop (mkF m 32 #[.val (.int p1), .val (.int p2), .val (.int (1 : Int32)), .val (.int (1 : Int32)), .val (.ref aACTIVE), .val (.ref aACTIVE), .unset] [(.int (1 : Int32))]))
      refine own_go (fun _ k => XS.iloadN X46.here hx rfl (hb hby at_32) rfl k) ?_
      show OwnGo p e below _ (T46.setTop (mkF m 33 #[.val (.int p1), .val (.int p2), .val (.int (1 : Int32)), .val (.int (1 : Int32)), .val (.ref aACTIVE), .val (.ref aACTIVE), .unset] [(.int (1 : Int32)), (.int (1 : Int32))]))
      refine own_go (fun _ k => XS.iconst X46.here hx rfl (hb hby at_33) k) ?_
      show OwnGo p e below _ (T46.setTop (mkF m 34 #[.val (.int p1), .val (.int p2), .val (.int (1 : Int32)), .val (.int (1 : Int32)), .val (.ref aACTIVE), .val (.ref aACTIVE), .unset] [(.int (1 : Int32)), (.int (1 : Int32)), (.int (1 : Int32))]))
      refine own_go (fun _ k => XS.iadd X46.here hx rfl (hb hby at_34) rfl k) ?_
      show OwnGo p e below _ (T46.setTop (mkF m 35 #[.val (.int p1), .val (.int p2), .val (.int (1 : Int32)), .val (.int (1 : Int32)), .val (.ref aACTIVE), .val (.ref aACTIVE), .unset] [(.int ((1 : Int32) + (1 : Int32))), (.int (1 : Int32))]))
      rw [show ((1 : Int32) + (1 : Int32)) = (2 : Int32) from by decide]
      show OwnGo p e below _ (T46.setTop (mkF m 35 #[.val (.int p1), .val (.int p2), .val (.int (1 : Int32)), .val (.int (1 : Int32)), .val (.ref aACTIVE), .val (.ref aACTIVE), .unset] [(.int (2 : Int32)), (.int (1 : Int32))]))
      refine own_go (fun _ k => XS.icmpYes X46.here hx rfl (pc0 := 35) (pc' := 42) rfl (hb hby at_35) rfl (by decide) (by decide) (by decide) k) ?_
      show OwnGo p e below _ (T46.setTop (mkF m 42 #[.val (.int p1), .val (.int p2), .val (.int (1 : Int32)), .val (.int (1 : Int32)), .val (.ref aACTIVE), .val (.ref aACTIVE), .unset] []))
      refine own_go (fun _ k => XS.iconst X46.here hx rfl (hb hby at_42) k) ?_
      show OwnGo p e below _ (T46.setTop (mkF m 43 #[.val (.int p1), .val (.int p2), .val (.int (1 : Int32)), .val (.int (1 : Int32)), .val (.ref aACTIVE), .val (.ref aACTIVE), .unset] [(.int (0 : Int32))]))
      refine own_go (fun _ k => XS.istore X46.here hx rfl (hb hby at_43) rfl (l' := #[.val (.int p1), .val (.int p2), .val (.int (1 : Int32)), .val (.int (1 : Int32)), .val (.ref aACTIVE), .val (.ref aACTIVE), .val (.int (0 : Int32))]) rfl k) ?_
      show OwnGo p e below _ (T46.setTop (mkF m 45 #[.val (.int p1), .val (.int p2), .val (.int (1 : Int32)), .val (.int (1 : Int32)), .val (.ref aACTIVE), .val (.ref aACTIVE), .val (.int (0 : Int32))] []))
      refine own_go (fun _ k => XS.aload X46.here hx rfl (hb hby at_45) rfl rfl k) ?_
      show OwnGo p e below _ (T46.setTop (mkF m 47 #[.val (.int p1), .val (.int p2), .val (.int (1 : Int32)), .val (.int (1 : Int32)), .val (.ref aACTIVE), .val (.ref aACTIVE), .val (.int (0 : Int32))] [(.ref aACTIVE)]))
      refine own_go (fun _ k => XS.aload X46.here hx rfl (hb hby at_47) rfl rfl k) ?_
      show OwnGo p e below _ (T46.setTop (mkF m 49 #[.val (.int p1), .val (.int p2), .val (.int (1 : Int32)), .val (.int (1 : Int32)), .val (.ref aACTIVE), .val (.ref aACTIVE), .val (.int (0 : Int32))] [(.ref aACTIVE), (.ref aACTIVE)]))
      obtain ⟨cq47, kq47, qa47, qb47, qc47⟩ := isOf hZ K46 (F0.2.2.2.2.1.ext O0.2)
      obtain ⟨_, _, ⟨T47, L47, k47, n47⟩, -, X47, ⟨Lc47, hQ47, l47, y47, z47⟩, st47⟩ := X46.virtualBack hx (y := (⟨"com/example/cadenza/cadenza/core/SprintState", "leadsTo", "(Lcom/example/cadenza/cadenza/core/SprintState;)Z"⟩ : MethodName)) (z := (⟨"com/example/cadenza/cadenza/core/SprintState", "leadsTo", "(Lcom/example/cadenza/cadenza/core/SprintState;)Z"⟩ : MethodName)) hown (mvT hZ (hw _ (List.mem_of_getElem? (i := 8) rfl))) (mvT hZ (hw _ (List.mem_of_getElem? (i := 9) rfl))) (notFace_of_selects (args := #[]) (mvT hZ (hw _ (List.mem_of_getElem? (i := 11) rfl)))) (mvT hZ (hw _ (List.mem_of_getElem? (i := 11) rfl))) (mvT hZ (hw _ (List.mem_of_getElem? (i := 10) rfl))) (by decide) (backOf (W := 0) (rm_leads11 l Z a0 hw [] aFUTURE aACTIVE aCLOSED F0 h0 n0 O0) hZ (hw _ (List.mem_of_getElem? (i := 12) rfl)) (hw _ (List.mem_of_getElem? (i := 6) rfl)) (by decide) (by decide)) qa47 qc47 (g := (mkF m 49 #[.val (.int p1), .val (.int p2), .val (.int (1 : Int32)), .val (.int (1 : Int32)), .val (.ref aACTIVE), .val (.ref aACTIVE), .val (.int (0 : Int32))] [(.ref aACTIVE), (.ref aACTIVE)])) rfl (by rw [hml]; rfl) (Steps.refl _) (argsL := [(.ref aACTIVE)]) (rest := []) (lenOf pd_Lcom_example_cadenza_cadenza_core_SprintState___Z rfl) rfl (by show 2 * 0 + _ ≤ _; exact Nat.le_of_eq rfl) (hb hby at_49) (fun _ _ => ⟨rfl, K46, (by decide : 0 + 0 ≤ _), (by decide : 0 + 0 ≤ _)⟩)
      dsimp only [Pt.U, Pt.locs, Pt.cells, Pt.slots] at X47 l47 y47 z47 st47 hQ47
      subst l47 y47 z47
      obtain ⟨rfl, Nq47, K47⟩ := hQ47
      have N47 := Fr.app N46 Nq47
      refine own_go (fun _ k => st47.trans k) ?_
      show OwnGo p e below _ (T47.setTop (mkF m 52 #[.val (.int p1), .val (.int p2), .val (.int (1 : Int32)), .val (.int (1 : Int32)), .val (.ref aACTIVE), .val (.ref aACTIVE), .val (.int (0 : Int32))] [(.int (0 : Int32))]))
      refine own_go (fun _ k => XS.iload X47.here hx rfl (hb hby at_52) rfl k) ?_
      show OwnGo p e below _ (T47.setTop (mkF m 54 #[.val (.int p1), .val (.int p2), .val (.int (1 : Int32)), .val (.int (1 : Int32)), .val (.ref aACTIVE), .val (.ref aACTIVE), .val (.int (0 : Int32))] [(.int (0 : Int32)), (.int (0 : Int32))]))
      refine own_go (fun _ k => XS.icmpNo X47.here hx rfl (hb hby at_54) rfl (by decide) k) ?_
      show OwnGo p e below _ (T47.setTop (mkF m 57 #[.val (.int p1), .val (.int p2), .val (.int (1 : Int32)), .val (.int (1 : Int32)), .val (.ref aACTIVE), .val (.ref aACTIVE), .val (.int (0 : Int32))] []))
      refine own_go (fun _ k => XS.iconst X47.here hx rfl (hb hby at_57) k) ?_
      show OwnGo p e below _ (T47.setTop (mkF m 58 #[.val (.int p1), .val (.int p2), .val (.int (1 : Int32)), .val (.int (1 : Int32)), .val (.ref aACTIVE), .val (.ref aACTIVE), .val (.int (0 : Int32))] [(.int (1 : Int32))]))
      refine own_go (fun _ k => XS.goto X47.here hx rfl (pc0 := 58) (pc' := 62) rfl (hb hby at_58) (by decide) (by decide) k) ?_
      show OwnGo p e below _ (T47.setTop (mkF m 62 #[.val (.int p1), .val (.int p2), .val (.int (1 : Int32)), .val (.int (1 : Int32)), .val (.ref aACTIVE), .val (.ref aACTIVE), .val (.int (0 : Int32))] [(.int (1 : Int32))]))
      obtain ⟨fs, hr, hrun, hended, hW, hsame⟩ := X47.leave (v := some (.int (1 : Int32))) (fun h => by rw [Bd.returns] at h; cases h)
      refine ⟨_, _, retOut X47 hx Bd.returns rfl (Or.inl ⟨rfl, Or.inr (Or.inl rfl), _, rfl⟩) (hb hby at_62) hr, hrun, hended, _, _, rfl, ?_, ⟨_, rfl⟩, hW, hsame.mono (by decide) (by decide)⟩
      show Q_law Z aFUTURE aACTIVE aCLOSED p1 p2 h0 n0 _ T47.heap _
      rw [K47]
      exact ⟨rfl, N47⟩
    · rw [hv41]
      show OwnGo p e below _ (s₁.setTop (mkF m 13 #[.val (.int p1), .val (.int p2), .val (.int (1 : Int32)), .unset, .unset, .unset, .unset] [(.int (2 : Int32))]))
      refine own_go (fun _ k => XS.istoreN X0.here hx rfl (hb hby at_13) rfl (l' := #[.val (.int p1), .val (.int p2), .val (.int (1 : Int32)), .val (.int (2 : Int32)), .unset, .unset, .unset]) rfl k) ?_
      show OwnGo p e below _ (s₁.setTop (mkF m 14 #[.val (.int p1), .val (.int p2), .val (.int (1 : Int32)), .val (.int (2 : Int32)), .unset, .unset, .unset] []))
      refine own_go (fun _ k => XS.iloadN X0.here hx rfl (hb hby at_14) rfl k) ?_
      show OwnGo p e below _ (s₁.setTop (mkF m 15 #[.val (.int p1), .val (.int p2), .val (.int (1 : Int32)), .val (.int (2 : Int32)), .unset, .unset, .unset] [(.int (1 : Int32))]))
      obtain ⟨_, _, ⟨T48, L48, k48, n48⟩, -, X48, ⟨Lc48, hQ48, l48, y48, z48⟩, st48⟩ := Jvm.LawKit.callS X0 hx (y := (⟨"com/example/cadenza/cadenza/core/SprintStateLeadsToPinLaw", "state", "(I)Lcom/example/cadenza/cadenza/core/SprintState;"⟩ : MethodName)) hown (mvT hZ (hw _ (List.mem_of_getElem? (i := 1) rfl))) (mvT hZ (hw _ (List.mem_of_getElem? (i := 2) rfl))) (mvT hZ (hw _ (List.mem_of_getElem? (i := 3) rfl))) (mvT hZ (hw _ (List.mem_of_getElem? (i := 4) rfl))) (by decide) (backOf (W := 0) (rm_state1 l Z a0 hw [] aFUTURE aACTIVE aCLOSED F0 h0 n0 O0) hZ (hw _ (List.mem_of_getElem? (i := 4) rfl)) (hw _ (List.mem_of_getElem? (i := 3) rfl)) (by decide) (by decide)) (g := (mkF m 15 #[.val (.int p1), .val (.int p2), .val (.int (1 : Int32)), .val (.int (2 : Int32)), .unset, .unset, .unset] [(.int (1 : Int32))])) rfl (by rw [hml]; rfl) (argsL := [(.int (1 : Int32))]) (rest := []) (lenOf pd_I__Lcom_example_cadenza_cadenza_core_SprintState_ rfl) rfl (by show 2 * 0 + _ ≤ _; exact Nat.le_of_eq rfl) (hb hby at_15) (fun _ _ => ⟨rfl, e0, (by decide : 0 + 0 ≤ _), (by decide : 0 + 0 ≤ _)⟩)
      dsimp only [Pt.U, Pt.locs, Pt.cells, Pt.slots] at X48 l48 y48 z48 st48 hQ48
      subst l48 y48 z48
      obtain ⟨rfl, Nq48, K48⟩ := hQ48
      have N48 := Fr.app N0 Nq48
      refine own_go st48 ?_
      show OwnGo p e below _ (T48.setTop (mkF m 18 #[.val (.int p1), .val (.int p2), .val (.int (1 : Int32)), .val (.int (2 : Int32)), .unset, .unset, .unset] [(.ref aACTIVE)]))
      refine own_go (fun _ k => XS.astore X48.here hx rfl (hb hby at_18) rfl rfl (l' := #[.val (.int p1), .val (.int p2), .val (.int (1 : Int32)), .val (.int (2 : Int32)), .val (.ref aACTIVE), .unset, .unset]) rfl k) ?_
      show OwnGo p e below _ (T48.setTop (mkF m 20 #[.val (.int p1), .val (.int p2), .val (.int (1 : Int32)), .val (.int (2 : Int32)), .val (.ref aACTIVE), .unset, .unset] []))
      refine own_go (fun _ k => XS.iloadN X48.here hx rfl (hb hby at_20) rfl k) ?_
      show OwnGo p e below _ (T48.setTop (mkF m 21 #[.val (.int p1), .val (.int p2), .val (.int (1 : Int32)), .val (.int (2 : Int32)), .val (.ref aACTIVE), .unset, .unset] [(.int (2 : Int32))]))
      obtain ⟨_, _, ⟨T49, L49, k49, n49⟩, -, X49, ⟨Lc49, hQ49, l49, y49, z49⟩, st49⟩ := Jvm.LawKit.callS X48 hx (y := (⟨"com/example/cadenza/cadenza/core/SprintStateLeadsToPinLaw", "state", "(I)Lcom/example/cadenza/cadenza/core/SprintState;"⟩ : MethodName)) hown (mvT hZ (hw _ (List.mem_of_getElem? (i := 1) rfl))) (mvT hZ (hw _ (List.mem_of_getElem? (i := 2) rfl))) (mvT hZ (hw _ (List.mem_of_getElem? (i := 3) rfl))) (mvT hZ (hw _ (List.mem_of_getElem? (i := 4) rfl))) (by decide) (backOf (W := 0) (rm_state2 l Z a0 hw [] aFUTURE aACTIVE aCLOSED F0 h0 n0 O0) hZ (hw _ (List.mem_of_getElem? (i := 4) rfl)) (hw _ (List.mem_of_getElem? (i := 3) rfl)) (by decide) (by decide)) (g := (mkF m 21 #[.val (.int p1), .val (.int p2), .val (.int (1 : Int32)), .val (.int (2 : Int32)), .val (.ref aACTIVE), .unset, .unset] [(.int (2 : Int32))])) rfl (by rw [hml]; rfl) (argsL := [(.int (2 : Int32))]) (rest := []) (lenOf pd_I__Lcom_example_cadenza_cadenza_core_SprintState_ rfl) rfl (by show 2 * 0 + _ ≤ _; exact Nat.le_of_eq rfl) (hb hby at_21) (fun _ _ => ⟨rfl, K48, (by decide : 0 + 0 ≤ _), (by decide : 0 + 0 ≤ _)⟩)
      dsimp only [Pt.U, Pt.locs, Pt.cells, Pt.slots] at X49 l49 y49 z49 st49 hQ49
      subst l49 y49 z49
      obtain ⟨rfl, Nq49, K49⟩ := hQ49
      have N49 := Fr.app N48 Nq49
      refine own_go st49 ?_
      show OwnGo p e below _ (T49.setTop (mkF m 24 #[.val (.int p1), .val (.int p2), .val (.int (1 : Int32)), .val (.int (2 : Int32)), .val (.ref aACTIVE), .unset, .unset] [(.ref aCLOSED)]))
      refine own_go (fun _ k => XS.astore X49.here hx rfl (hb hby at_24) rfl rfl (l' := #[.val (.int p1), .val (.int p2), .val (.int (1 : Int32)), .val (.int (2 : Int32)), .val (.ref aACTIVE), .val (.ref aCLOSED), .unset]) rfl k) ?_
      show OwnGo p e below _ (T49.setTop (mkF m 26 #[.val (.int p1), .val (.int p2), .val (.int (1 : Int32)), .val (.int (2 : Int32)), .val (.ref aACTIVE), .val (.ref aCLOSED), .unset] []))
      refine own_go (fun _ k => XS.iloadN X49.here hx rfl (hb hby at_26) rfl k) ?_
      show OwnGo p e below _ (T49.setTop (mkF m 27 #[.val (.int p1), .val (.int p2), .val (.int (1 : Int32)), .val (.int (2 : Int32)), .val (.ref aACTIVE), .val (.ref aCLOSED), .unset] [(.int (2 : Int32))]))
      refine own_go (fun _ k => XS.iconst X49.here hx rfl (hb hby at_27) k) ?_
      show OwnGo p e below _ (T49.setTop (mkF m 28 #[.val (.int p1), .val (.int p2), .val (.int (1 : Int32)), .val (.int (2 : Int32)), .val (.ref aACTIVE), .val (.ref aCLOSED), .unset] [(.int (3 : Int32)), (.int (2 : Int32))]))
      refine own_go (fun _ k => XS.icmpNo X49.here hx rfl (hb hby at_28) rfl (by decide) k) ?_
      show OwnGo p e below _ (T49.setTop (mkF m 31 #[.val (.int p1), .val (.int p2), .val (.int (1 : Int32)), .val (.int (2 : Int32)), .val (.ref aACTIVE), .val (.ref aCLOSED), .unset] []))
      refine own_go (fun _ k => XS.iloadN X49.here hx rfl (hb hby at_31) rfl k) ?_
      show OwnGo p e below _ (T49.setTop (mkF m 32 #[.val (.int p1), .val (.int p2), .val (.int (1 : Int32)), .val (.int (2 : Int32)), .val (.ref aACTIVE), .val (.ref aCLOSED), .unset] [(.int (2 : Int32))]))
      refine own_go (fun _ k => XS.iloadN X49.here hx rfl (hb hby at_32) rfl k) ?_
      show OwnGo p e below _ (T49.setTop (mkF m 33 #[.val (.int p1), .val (.int p2), .val (.int (1 : Int32)), .val (.int (2 : Int32)), .val (.ref aACTIVE), .val (.ref aCLOSED), .unset] [(.int (1 : Int32)), (.int (2 : Int32))]))
      refine own_go (fun _ k => XS.iconst X49.here hx rfl (hb hby at_33) k) ?_
      show OwnGo p e below _ (T49.setTop (mkF m 34 #[.val (.int p1), .val (.int p2), .val (.int (1 : Int32)), .val (.int (2 : Int32)), .val (.ref aACTIVE), .val (.ref aCLOSED), .unset] [(.int (1 : Int32)), (.int (1 : Int32)), (.int (2 : Int32))]))
      refine own_go (fun _ k => XS.iadd X49.here hx rfl (hb hby at_34) rfl k) ?_
      show OwnGo p e below _ (T49.setTop (mkF m 35 #[.val (.int p1), .val (.int p2), .val (.int (1 : Int32)), .val (.int (2 : Int32)), .val (.ref aACTIVE), .val (.ref aCLOSED), .unset] [(.int ((1 : Int32) + (1 : Int32))), (.int (2 : Int32))]))
      rw [show ((1 : Int32) + (1 : Int32)) = (2 : Int32) from by decide]
      show OwnGo p e below _ (T49.setTop (mkF m 35 #[.val (.int p1), .val (.int p2), .val (.int (1 : Int32)), .val (.int (2 : Int32)), .val (.ref aACTIVE), .val (.ref aCLOSED), .unset] [(.int (2 : Int32)), (.int (2 : Int32))]))
      refine own_go (fun _ k => XS.icmpNo X49.here hx rfl (hb hby at_35) rfl (by decide) k) ?_
      show OwnGo p e below _ (T49.setTop (mkF m 38 #[.val (.int p1), .val (.int p2), .val (.int (1 : Int32)), .val (.int (2 : Int32)), .val (.ref aACTIVE), .val (.ref aCLOSED), .unset] []))
      refine own_go (fun _ k => XS.iconst X49.here hx rfl (hb hby at_38) k) ?_
      show OwnGo p e below _ (T49.setTop (mkF m 39 #[.val (.int p1), .val (.int p2), .val (.int (1 : Int32)), .val (.int (2 : Int32)), .val (.ref aACTIVE), .val (.ref aCLOSED), .unset] [(.int (1 : Int32))]))
      refine own_go (fun _ k => XS.goto X49.here hx rfl (pc0 := 39) (pc' := 43) rfl (hb hby at_39) (by decide) (by decide) k) ?_
      show OwnGo p e below _ (T49.setTop (mkF m 43 #[.val (.int p1), .val (.int p2), .val (.int (1 : Int32)), .val (.int (2 : Int32)), .val (.ref aACTIVE), .val (.ref aCLOSED), .unset] [(.int (1 : Int32))]))
      refine own_go (fun _ k => XS.istore X49.here hx rfl (hb hby at_43) rfl (l' := #[.val (.int p1), .val (.int p2), .val (.int (1 : Int32)), .val (.int (2 : Int32)), .val (.ref aACTIVE), .val (.ref aCLOSED), .val (.int (1 : Int32))]) rfl k) ?_
      show OwnGo p e below _ (T49.setTop (mkF m 45 #[.val (.int p1), .val (.int p2), .val (.int (1 : Int32)), .val (.int (2 : Int32)), .val (.ref aACTIVE), .val (.ref aCLOSED), .val (.int (1 : Int32))] []))
      refine own_go (fun _ k => XS.aload X49.here hx rfl (hb hby at_45) rfl rfl k) ?_
      show OwnGo p e below _ (T49.setTop (mkF m 47 #[.val (.int p1), .val (.int p2), .val (.int (1 : Int32)), .val (.int (2 : Int32)), .val (.ref aACTIVE), .val (.ref aCLOSED), .val (.int (1 : Int32))] [(.ref aACTIVE)]))
      refine own_go (fun _ k => XS.aload X49.here hx rfl (hb hby at_47) rfl rfl k) ?_
      show OwnGo p e below _ (T49.setTop (mkF m 49 #[.val (.int p1), .val (.int p2), .val (.int (1 : Int32)), .val (.int (2 : Int32)), .val (.ref aACTIVE), .val (.ref aCLOSED), .val (.int (1 : Int32))] [(.ref aCLOSED), (.ref aACTIVE)]))
      obtain ⟨cq50, kq50, qa50, qb50, qc50⟩ := isOf hZ K49 (F0.2.2.2.2.1.ext O0.2)
      obtain ⟨_, _, ⟨T50, L50, k50, n50⟩, -, X50, ⟨Lc50, hQ50, l50, y50, z50⟩, st50⟩ := X49.virtualBack hx (y := (⟨"com/example/cadenza/cadenza/core/SprintState", "leadsTo", "(Lcom/example/cadenza/cadenza/core/SprintState;)Z"⟩ : MethodName)) (z := (⟨"com/example/cadenza/cadenza/core/SprintState", "leadsTo", "(Lcom/example/cadenza/cadenza/core/SprintState;)Z"⟩ : MethodName)) hown (mvT hZ (hw _ (List.mem_of_getElem? (i := 8) rfl))) (mvT hZ (hw _ (List.mem_of_getElem? (i := 9) rfl))) (notFace_of_selects (args := #[]) (mvT hZ (hw _ (List.mem_of_getElem? (i := 11) rfl)))) (mvT hZ (hw _ (List.mem_of_getElem? (i := 11) rfl))) (mvT hZ (hw _ (List.mem_of_getElem? (i := 10) rfl))) (by decide) (backOf (W := 0) (rm_leads12 l Z a0 hw [] aFUTURE aACTIVE aCLOSED F0 h0 n0 O0) hZ (hw _ (List.mem_of_getElem? (i := 12) rfl)) (hw _ (List.mem_of_getElem? (i := 6) rfl)) (by decide) (by decide)) qa50 qc50 (g := (mkF m 49 #[.val (.int p1), .val (.int p2), .val (.int (1 : Int32)), .val (.int (2 : Int32)), .val (.ref aACTIVE), .val (.ref aCLOSED), .val (.int (1 : Int32))] [(.ref aCLOSED), (.ref aACTIVE)])) rfl (by rw [hml]; rfl) (Steps.refl _) (argsL := [(.ref aCLOSED)]) (rest := []) (lenOf pd_Lcom_example_cadenza_cadenza_core_SprintState___Z rfl) rfl (by show 2 * 0 + _ ≤ _; exact Nat.le_of_eq rfl) (hb hby at_49) (fun _ _ => ⟨rfl, K49, (by decide : 0 + 0 ≤ _), (by decide : 0 + 0 ≤ _)⟩)
      dsimp only [Pt.U, Pt.locs, Pt.cells, Pt.slots] at X50 l50 y50 z50 st50 hQ50
      subst l50 y50 z50
      obtain ⟨rfl, Nq50, K50⟩ := hQ50
      have N50 := Fr.app N49 Nq50
      refine own_go (fun _ k => st50.trans k) ?_
      show OwnGo p e below _ (T50.setTop (mkF m 52 #[.val (.int p1), .val (.int p2), .val (.int (1 : Int32)), .val (.int (2 : Int32)), .val (.ref aACTIVE), .val (.ref aCLOSED), .val (.int (1 : Int32))] [(.int (1 : Int32))]))
      refine own_go (fun _ k => XS.iload X50.here hx rfl (hb hby at_52) rfl k) ?_
      show OwnGo p e below _ (T50.setTop (mkF m 54 #[.val (.int p1), .val (.int p2), .val (.int (1 : Int32)), .val (.int (2 : Int32)), .val (.ref aACTIVE), .val (.ref aCLOSED), .val (.int (1 : Int32))] [(.int (1 : Int32)), (.int (1 : Int32))]))
      refine own_go (fun _ k => XS.icmpNo X50.here hx rfl (hb hby at_54) rfl (by decide) k) ?_
      show OwnGo p e below _ (T50.setTop (mkF m 57 #[.val (.int p1), .val (.int p2), .val (.int (1 : Int32)), .val (.int (2 : Int32)), .val (.ref aACTIVE), .val (.ref aCLOSED), .val (.int (1 : Int32))] []))
      refine own_go (fun _ k => XS.iconst X50.here hx rfl (hb hby at_57) k) ?_
      show OwnGo p e below _ (T50.setTop (mkF m 58 #[.val (.int p1), .val (.int p2), .val (.int (1 : Int32)), .val (.int (2 : Int32)), .val (.ref aACTIVE), .val (.ref aCLOSED), .val (.int (1 : Int32))] [(.int (1 : Int32))]))
      refine own_go (fun _ k => XS.goto X50.here hx rfl (pc0 := 58) (pc' := 62) rfl (hb hby at_58) (by decide) (by decide) k) ?_
      show OwnGo p e below _ (T50.setTop (mkF m 62 #[.val (.int p1), .val (.int p2), .val (.int (1 : Int32)), .val (.int (2 : Int32)), .val (.ref aACTIVE), .val (.ref aCLOSED), .val (.int (1 : Int32))] [(.int (1 : Int32))]))
      obtain ⟨fs, hr, hrun, hended, hW, hsame⟩ := X50.leave (v := some (.int (1 : Int32))) (fun h => by rw [Bd.returns] at h; cases h)
      refine ⟨_, _, retOut X50 hx Bd.returns rfl (Or.inl ⟨rfl, Or.inr (Or.inl rfl), _, rfl⟩) (hb hby at_62) hr, hrun, hended, _, _, rfl, ?_, ⟨_, rfl⟩, hW, hsame.mono (by decide) (by decide)⟩
      show Q_law Z aFUTURE aACTIVE aCLOSED p1 p2 h0 n0 _ T50.heap _
      rw [K50]
      exact ⟨rfl, N50⟩
    · rw [hv41]
      show OwnGo p e below _ (s₁.setTop (mkF m 13 #[.val (.int p1), .val (.int p2), .val (.int (1 : Int32)), .unset, .unset, .unset, .unset] [(.int (3 : Int32))]))
      refine own_go (fun _ k => XS.istoreN X0.here hx rfl (hb hby at_13) rfl (l' := #[.val (.int p1), .val (.int p2), .val (.int (1 : Int32)), .val (.int (3 : Int32)), .unset, .unset, .unset]) rfl k) ?_
      show OwnGo p e below _ (s₁.setTop (mkF m 14 #[.val (.int p1), .val (.int p2), .val (.int (1 : Int32)), .val (.int (3 : Int32)), .unset, .unset, .unset] []))
      refine own_go (fun _ k => XS.iloadN X0.here hx rfl (hb hby at_14) rfl k) ?_
      show OwnGo p e below _ (s₁.setTop (mkF m 15 #[.val (.int p1), .val (.int p2), .val (.int (1 : Int32)), .val (.int (3 : Int32)), .unset, .unset, .unset] [(.int (1 : Int32))]))
      obtain ⟨_, _, ⟨T51, L51, k51, n51⟩, -, X51, ⟨Lc51, hQ51, l51, y51, z51⟩, st51⟩ := Jvm.LawKit.callS X0 hx (y := (⟨"com/example/cadenza/cadenza/core/SprintStateLeadsToPinLaw", "state", "(I)Lcom/example/cadenza/cadenza/core/SprintState;"⟩ : MethodName)) hown (mvT hZ (hw _ (List.mem_of_getElem? (i := 1) rfl))) (mvT hZ (hw _ (List.mem_of_getElem? (i := 2) rfl))) (mvT hZ (hw _ (List.mem_of_getElem? (i := 3) rfl))) (mvT hZ (hw _ (List.mem_of_getElem? (i := 4) rfl))) (by decide) (backOf (W := 0) (rm_state1 l Z a0 hw [] aFUTURE aACTIVE aCLOSED F0 h0 n0 O0) hZ (hw _ (List.mem_of_getElem? (i := 4) rfl)) (hw _ (List.mem_of_getElem? (i := 3) rfl)) (by decide) (by decide)) (g := (mkF m 15 #[.val (.int p1), .val (.int p2), .val (.int (1 : Int32)), .val (.int (3 : Int32)), .unset, .unset, .unset] [(.int (1 : Int32))])) rfl (by rw [hml]; rfl) (argsL := [(.int (1 : Int32))]) (rest := []) (lenOf pd_I__Lcom_example_cadenza_cadenza_core_SprintState_ rfl) rfl (by show 2 * 0 + _ ≤ _; exact Nat.le_of_eq rfl) (hb hby at_15) (fun _ _ => ⟨rfl, e0, (by decide : 0 + 0 ≤ _), (by decide : 0 + 0 ≤ _)⟩)
      dsimp only [Pt.U, Pt.locs, Pt.cells, Pt.slots] at X51 l51 y51 z51 st51 hQ51
      subst l51 y51 z51
      obtain ⟨rfl, Nq51, K51⟩ := hQ51
      have N51 := Fr.app N0 Nq51
      refine own_go st51 ?_
      show OwnGo p e below _ (T51.setTop (mkF m 18 #[.val (.int p1), .val (.int p2), .val (.int (1 : Int32)), .val (.int (3 : Int32)), .unset, .unset, .unset] [(.ref aACTIVE)]))
      refine own_go (fun _ k => XS.astore X51.here hx rfl (hb hby at_18) rfl rfl (l' := #[.val (.int p1), .val (.int p2), .val (.int (1 : Int32)), .val (.int (3 : Int32)), .val (.ref aACTIVE), .unset, .unset]) rfl k) ?_
      show OwnGo p e below _ (T51.setTop (mkF m 20 #[.val (.int p1), .val (.int p2), .val (.int (1 : Int32)), .val (.int (3 : Int32)), .val (.ref aACTIVE), .unset, .unset] []))
      refine own_go (fun _ k => XS.iloadN X51.here hx rfl (hb hby at_20) rfl k) ?_
      show OwnGo p e below _ (T51.setTop (mkF m 21 #[.val (.int p1), .val (.int p2), .val (.int (1 : Int32)), .val (.int (3 : Int32)), .val (.ref aACTIVE), .unset, .unset] [(.int (3 : Int32))]))
      obtain ⟨_, _, ⟨T52, L52, k52, n52⟩, -, X52, ⟨Lc52, hQ52, l52, y52, z52⟩, st52⟩ := Jvm.LawKit.callS X51 hx (y := (⟨"com/example/cadenza/cadenza/core/SprintStateLeadsToPinLaw", "state", "(I)Lcom/example/cadenza/cadenza/core/SprintState;"⟩ : MethodName)) hown (mvT hZ (hw _ (List.mem_of_getElem? (i := 1) rfl))) (mvT hZ (hw _ (List.mem_of_getElem? (i := 2) rfl))) (mvT hZ (hw _ (List.mem_of_getElem? (i := 3) rfl))) (mvT hZ (hw _ (List.mem_of_getElem? (i := 4) rfl))) (by decide) (backOf (W := 0) (rm_state3 l Z a0 hw [] aFUTURE aACTIVE aCLOSED F0 h0 n0 O0) hZ (hw _ (List.mem_of_getElem? (i := 4) rfl)) (hw _ (List.mem_of_getElem? (i := 3) rfl)) (by decide) (by decide)) (g := (mkF m 21 #[.val (.int p1), .val (.int p2), .val (.int (1 : Int32)), .val (.int (3 : Int32)), .val (.ref aACTIVE), .unset, .unset] [(.int (3 : Int32))])) rfl (by rw [hml]; rfl) (argsL := [(.int (3 : Int32))]) (rest := []) (lenOf pd_I__Lcom_example_cadenza_cadenza_core_SprintState_ rfl) rfl (by show 2 * 0 + _ ≤ _; exact Nat.le_of_eq rfl) (hb hby at_21) (fun _ _ => ⟨rfl, K51, (by decide : 0 + 0 ≤ _), (by decide : 0 + 0 ≤ _)⟩)
      dsimp only [Pt.U, Pt.locs, Pt.cells, Pt.slots] at X52 l52 y52 z52 st52 hQ52
      subst l52 y52 z52
      obtain ⟨rfl, Nq52, K52⟩ := hQ52
      have N52 := Fr.app N51 Nq52
      refine own_go st52 ?_
      show OwnGo p e below _ (T52.setTop (mkF m 24 #[.val (.int p1), .val (.int p2), .val (.int (1 : Int32)), .val (.int (3 : Int32)), .val (.ref aACTIVE), .unset, .unset] [.null]))
      refine own_go (fun _ k => XS.astore X52.here hx rfl (hb hby at_24) rfl rfl (l' := #[.val (.int p1), .val (.int p2), .val (.int (1 : Int32)), .val (.int (3 : Int32)), .val (.ref aACTIVE), .val .null, .unset]) rfl k) ?_
      show OwnGo p e below _ (T52.setTop (mkF m 26 #[.val (.int p1), .val (.int p2), .val (.int (1 : Int32)), .val (.int (3 : Int32)), .val (.ref aACTIVE), .val .null, .unset] []))
      refine own_go (fun _ k => XS.iloadN X52.here hx rfl (hb hby at_26) rfl k) ?_
      show OwnGo p e below _ (T52.setTop (mkF m 27 #[.val (.int p1), .val (.int p2), .val (.int (1 : Int32)), .val (.int (3 : Int32)), .val (.ref aACTIVE), .val .null, .unset] [(.int (3 : Int32))]))
      refine own_go (fun _ k => XS.iconst X52.here hx rfl (hb hby at_27) k) ?_
      show OwnGo p e below _ (T52.setTop (mkF m 28 #[.val (.int p1), .val (.int p2), .val (.int (1 : Int32)), .val (.int (3 : Int32)), .val (.ref aACTIVE), .val .null, .unset] [(.int (3 : Int32)), (.int (3 : Int32))]))
      refine own_go (fun _ k => XS.icmpYes X52.here hx rfl (pc0 := 28) (pc' := 42) rfl (hb hby at_28) rfl (by decide) (by decide) (by decide) k) ?_
      show OwnGo p e below _ (T52.setTop (mkF m 42 #[.val (.int p1), .val (.int p2), .val (.int (1 : Int32)), .val (.int (3 : Int32)), .val (.ref aACTIVE), .val .null, .unset] []))
      refine own_go (fun _ k => XS.iconst X52.here hx rfl (hb hby at_42) k) ?_
      show OwnGo p e below _ (T52.setTop (mkF m 43 #[.val (.int p1), .val (.int p2), .val (.int (1 : Int32)), .val (.int (3 : Int32)), .val (.ref aACTIVE), .val .null, .unset] [(.int (0 : Int32))]))
      refine own_go (fun _ k => XS.istore X52.here hx rfl (hb hby at_43) rfl (l' := #[.val (.int p1), .val (.int p2), .val (.int (1 : Int32)), .val (.int (3 : Int32)), .val (.ref aACTIVE), .val .null, .val (.int (0 : Int32))]) rfl k) ?_
      show OwnGo p e below _ (T52.setTop (mkF m 45 #[.val (.int p1), .val (.int p2), .val (.int (1 : Int32)), .val (.int (3 : Int32)), .val (.ref aACTIVE), .val .null, .val (.int (0 : Int32))] []))
      refine own_go (fun _ k => XS.aload X52.here hx rfl (hb hby at_45) rfl rfl k) ?_
      show OwnGo p e below _ (T52.setTop (mkF m 47 #[.val (.int p1), .val (.int p2), .val (.int (1 : Int32)), .val (.int (3 : Int32)), .val (.ref aACTIVE), .val .null, .val (.int (0 : Int32))] [(.ref aACTIVE)]))
      refine own_go (fun _ k => XS.aload X52.here hx rfl (hb hby at_47) rfl rfl k) ?_
      show OwnGo p e below _ (T52.setTop (mkF m 49 #[.val (.int p1), .val (.int p2), .val (.int (1 : Int32)), .val (.int (3 : Int32)), .val (.ref aACTIVE), .val .null, .val (.int (0 : Int32))] [.null, (.ref aACTIVE)]))
      obtain ⟨cq53, kq53, qa53, qb53, qc53⟩ := isOf hZ K52 (F0.2.2.2.2.1.ext O0.2)
      obtain ⟨_, _, ⟨T53, L53, k53, n53⟩, -, X53, ⟨Lc53, hQ53, l53, y53, z53⟩, st53⟩ := X52.virtualBack hx (y := (⟨"com/example/cadenza/cadenza/core/SprintState", "leadsTo", "(Lcom/example/cadenza/cadenza/core/SprintState;)Z"⟩ : MethodName)) (z := (⟨"com/example/cadenza/cadenza/core/SprintState", "leadsTo", "(Lcom/example/cadenza/cadenza/core/SprintState;)Z"⟩ : MethodName)) hown (mvT hZ (hw _ (List.mem_of_getElem? (i := 8) rfl))) (mvT hZ (hw _ (List.mem_of_getElem? (i := 9) rfl))) (notFace_of_selects (args := #[]) (mvT hZ (hw _ (List.mem_of_getElem? (i := 11) rfl)))) (mvT hZ (hw _ (List.mem_of_getElem? (i := 11) rfl))) (mvT hZ (hw _ (List.mem_of_getElem? (i := 10) rfl))) (by decide) (backOf (W := 0) (rm_leads13 l Z a0 hw [] aFUTURE aACTIVE aCLOSED F0 h0 n0 O0) hZ (hw _ (List.mem_of_getElem? (i := 12) rfl)) (hw _ (List.mem_of_getElem? (i := 6) rfl)) (by decide) (by decide)) qa53 qc53 (g := (mkF m 49 #[.val (.int p1), .val (.int p2), .val (.int (1 : Int32)), .val (.int (3 : Int32)), .val (.ref aACTIVE), .val .null, .val (.int (0 : Int32))] [.null, (.ref aACTIVE)])) rfl (by rw [hml]; rfl) (Steps.refl _) (argsL := [.null]) (rest := []) (lenOf pd_Lcom_example_cadenza_cadenza_core_SprintState___Z rfl) rfl (by show 2 * 0 + _ ≤ _; exact Nat.le_of_eq rfl) (hb hby at_49) (fun _ _ => ⟨rfl, K52, (by decide : 0 + 0 ≤ _), (by decide : 0 + 0 ≤ _)⟩)
      dsimp only [Pt.U, Pt.locs, Pt.cells, Pt.slots] at X53 l53 y53 z53 st53 hQ53
      subst l53 y53 z53
      obtain ⟨rfl, Nq53, K53⟩ := hQ53
      have N53 := Fr.app N52 Nq53
      refine own_go (fun _ k => st53.trans k) ?_
      show OwnGo p e below _ (T53.setTop (mkF m 52 #[.val (.int p1), .val (.int p2), .val (.int (1 : Int32)), .val (.int (3 : Int32)), .val (.ref aACTIVE), .val .null, .val (.int (0 : Int32))] [(.int (0 : Int32))]))
      refine own_go (fun _ k => XS.iload X53.here hx rfl (hb hby at_52) rfl k) ?_
      show OwnGo p e below _ (T53.setTop (mkF m 54 #[.val (.int p1), .val (.int p2), .val (.int (1 : Int32)), .val (.int (3 : Int32)), .val (.ref aACTIVE), .val .null, .val (.int (0 : Int32))] [(.int (0 : Int32)), (.int (0 : Int32))]))
      refine own_go (fun _ k => XS.icmpNo X53.here hx rfl (hb hby at_54) rfl (by decide) k) ?_
      show OwnGo p e below _ (T53.setTop (mkF m 57 #[.val (.int p1), .val (.int p2), .val (.int (1 : Int32)), .val (.int (3 : Int32)), .val (.ref aACTIVE), .val .null, .val (.int (0 : Int32))] []))
      refine own_go (fun _ k => XS.iconst X53.here hx rfl (hb hby at_57) k) ?_
      show OwnGo p e below _ (T53.setTop (mkF m 58 #[.val (.int p1), .val (.int p2), .val (.int (1 : Int32)), .val (.int (3 : Int32)), .val (.ref aACTIVE), .val .null, .val (.int (0 : Int32))] [(.int (1 : Int32))]))
      refine own_go (fun _ k => XS.goto X53.here hx rfl (pc0 := 58) (pc' := 62) rfl (hb hby at_58) (by decide) (by decide) k) ?_
      show OwnGo p e below _ (T53.setTop (mkF m 62 #[.val (.int p1), .val (.int p2), .val (.int (1 : Int32)), .val (.int (3 : Int32)), .val (.ref aACTIVE), .val .null, .val (.int (0 : Int32))] [(.int (1 : Int32))]))
      obtain ⟨fs, hr, hrun, hended, hW, hsame⟩ := X53.leave (v := some (.int (1 : Int32))) (fun h => by rw [Bd.returns] at h; cases h)
      refine ⟨_, _, retOut X53 hx Bd.returns rfl (Or.inl ⟨rfl, Or.inr (Or.inl rfl), _, rfl⟩) (hb hby at_62) hr, hrun, hended, _, _, rfl, ?_, ⟨_, rfl⟩, hW, hsame.mono (by decide) (by decide)⟩
      show Q_law Z aFUTURE aACTIVE aCLOSED p1 p2 h0 n0 _ T53.heap _
      rw [K53]
      exact ⟨rfl, N53⟩
  · rw [hv27]
    show OwnGo p e below _ (s₁.setTop (mkF m 6 #[.val (.int p1), .val (.int p2), .unset, .unset, .unset, .unset, .unset] [(.int (2 : Int32))]))
    refine own_go (fun _ k => XS.istoreN X0.here hx rfl (hb hby at_6) rfl (l' := #[.val (.int p1), .val (.int p2), .val (.int (2 : Int32)), .unset, .unset, .unset, .unset]) rfl k) ?_
    show OwnGo p e below _ (s₁.setTop (mkF m 7 #[.val (.int p1), .val (.int p2), .val (.int (2 : Int32)), .unset, .unset, .unset, .unset] []))
    refine own_go (fun _ k => XS.iloadN X0.here hx rfl (hb hby at_7) rfl k) ?_
    show OwnGo p e below _ (s₁.setTop (mkF m 8 #[.val (.int p1), .val (.int p2), .val (.int (2 : Int32)), .unset, .unset, .unset, .unset] [(.int p2)]))
    refine own_go (fun _ k => Jvm.Stand.ldcI X0 hx hown (mvT hZ (hw _ (List.mem_of_getElem? (i := 0) rfl))) rfl (hb hby at_8) k) ?_
    show OwnGo p e below _ (s₁.setTop (mkF m 10 #[.val (.int p1), .val (.int p2), .val (.int (2 : Int32)), .unset, .unset, .unset, .unset] [(.int (2147483647 : Int32)), (.int p2)]))
    refine own_go (fun _ k => XS.iand X0.here hx rfl (hb hby at_10) rfl k) ?_
    show OwnGo p e below _ (s₁.setTop (mkF m 11 #[.val (.int p1), .val (.int p2), .val (.int (2 : Int32)), .unset, .unset, .unset, .unset] [(.int (p2 &&& (2147483647 : Int32)))]))
    refine own_go (fun _ k => XS.iconst X0.here hx rfl (hb hby at_11) k) ?_
    show OwnGo p e below _ (s₁.setTop (mkF m 12 #[.val (.int p1), .val (.int p2), .val (.int (2 : Int32)), .unset, .unset, .unset, .unset] [(.int (4 : Int32)), (.int (p2 &&& (2147483647 : Int32)))]))
    refine own_go (fun _ k => iremM X0 hx rfl (hb hby at_12) rfl (by decide) k) ?_
    show OwnGo p e below _ (s₁.setTop (mkF m 13 #[.val (.int p1), .val (.int p2), .val (.int (2 : Int32)), .unset, .unset, .unset, .unset] [(.int ((p2 &&& (2147483647 : Int32)) % (4 : Int32)))]))
    rcases own_mod4 p2 with hv54 | hv54 | hv54 | hv54
    · rw [hv54]
      show OwnGo p e below _ (s₁.setTop (mkF m 13 #[.val (.int p1), .val (.int p2), .val (.int (2 : Int32)), .unset, .unset, .unset, .unset] [(.int (0 : Int32))]))
      refine own_go (fun _ k => XS.istoreN X0.here hx rfl (hb hby at_13) rfl (l' := #[.val (.int p1), .val (.int p2), .val (.int (2 : Int32)), .val (.int (0 : Int32)), .unset, .unset, .unset]) rfl k) ?_
      show OwnGo p e below _ (s₁.setTop (mkF m 14 #[.val (.int p1), .val (.int p2), .val (.int (2 : Int32)), .val (.int (0 : Int32)), .unset, .unset, .unset] []))
      refine own_go (fun _ k => XS.iloadN X0.here hx rfl (hb hby at_14) rfl k) ?_
      show OwnGo p e below _ (s₁.setTop (mkF m 15 #[.val (.int p1), .val (.int p2), .val (.int (2 : Int32)), .val (.int (0 : Int32)), .unset, .unset, .unset] [(.int (2 : Int32))]))
      obtain ⟨_, _, ⟨T55, L55, k55, n55⟩, -, X55, ⟨Lc55, hQ55, l55, y55, z55⟩, st55⟩ := Jvm.LawKit.callS X0 hx (y := (⟨"com/example/cadenza/cadenza/core/SprintStateLeadsToPinLaw", "state", "(I)Lcom/example/cadenza/cadenza/core/SprintState;"⟩ : MethodName)) hown (mvT hZ (hw _ (List.mem_of_getElem? (i := 1) rfl))) (mvT hZ (hw _ (List.mem_of_getElem? (i := 2) rfl))) (mvT hZ (hw _ (List.mem_of_getElem? (i := 3) rfl))) (mvT hZ (hw _ (List.mem_of_getElem? (i := 4) rfl))) (by decide) (backOf (W := 0) (rm_state2 l Z a0 hw [] aFUTURE aACTIVE aCLOSED F0 h0 n0 O0) hZ (hw _ (List.mem_of_getElem? (i := 4) rfl)) (hw _ (List.mem_of_getElem? (i := 3) rfl)) (by decide) (by decide)) (g := (mkF m 15 #[.val (.int p1), .val (.int p2), .val (.int (2 : Int32)), .val (.int (0 : Int32)), .unset, .unset, .unset] [(.int (2 : Int32))])) rfl (by rw [hml]; rfl) (argsL := [(.int (2 : Int32))]) (rest := []) (lenOf pd_I__Lcom_example_cadenza_cadenza_core_SprintState_ rfl) rfl (by show 2 * 0 + _ ≤ _; exact Nat.le_of_eq rfl) (hb hby at_15) (fun _ _ => ⟨rfl, e0, (by decide : 0 + 0 ≤ _), (by decide : 0 + 0 ≤ _)⟩)
      dsimp only [Pt.U, Pt.locs, Pt.cells, Pt.slots] at X55 l55 y55 z55 st55 hQ55
      subst l55 y55 z55
      obtain ⟨rfl, Nq55, K55⟩ := hQ55
      have N55 := Fr.app N0 Nq55
      refine own_go st55 ?_
      show OwnGo p e below _ (T55.setTop (mkF m 18 #[.val (.int p1), .val (.int p2), .val (.int (2 : Int32)), .val (.int (0 : Int32)), .unset, .unset, .unset] [(.ref aCLOSED)]))
      refine own_go (fun _ k => XS.astore X55.here hx rfl (hb hby at_18) rfl rfl (l' := #[.val (.int p1), .val (.int p2), .val (.int (2 : Int32)), .val (.int (0 : Int32)), .val (.ref aCLOSED), .unset, .unset]) rfl k) ?_
      show OwnGo p e below _ (T55.setTop (mkF m 20 #[.val (.int p1), .val (.int p2), .val (.int (2 : Int32)), .val (.int (0 : Int32)), .val (.ref aCLOSED), .unset, .unset] []))
      refine own_go (fun _ k => XS.iloadN X55.here hx rfl (hb hby at_20) rfl k) ?_
      show OwnGo p e below _ (T55.setTop (mkF m 21 #[.val (.int p1), .val (.int p2), .val (.int (2 : Int32)), .val (.int (0 : Int32)), .val (.ref aCLOSED), .unset, .unset] [(.int (0 : Int32))]))
      obtain ⟨_, _, ⟨T56, L56, k56, n56⟩, -, X56, ⟨Lc56, hQ56, l56, y56, z56⟩, st56⟩ := Jvm.LawKit.callS X55 hx (y := (⟨"com/example/cadenza/cadenza/core/SprintStateLeadsToPinLaw", "state", "(I)Lcom/example/cadenza/cadenza/core/SprintState;"⟩ : MethodName)) hown (mvT hZ (hw _ (List.mem_of_getElem? (i := 1) rfl))) (mvT hZ (hw _ (List.mem_of_getElem? (i := 2) rfl))) (mvT hZ (hw _ (List.mem_of_getElem? (i := 3) rfl))) (mvT hZ (hw _ (List.mem_of_getElem? (i := 4) rfl))) (by decide) (backOf (W := 0) (rm_state0 l Z a0 hw [] aFUTURE aACTIVE aCLOSED F0 h0 n0 O0) hZ (hw _ (List.mem_of_getElem? (i := 4) rfl)) (hw _ (List.mem_of_getElem? (i := 3) rfl)) (by decide) (by decide)) (g := (mkF m 21 #[.val (.int p1), .val (.int p2), .val (.int (2 : Int32)), .val (.int (0 : Int32)), .val (.ref aCLOSED), .unset, .unset] [(.int (0 : Int32))])) rfl (by rw [hml]; rfl) (argsL := [(.int (0 : Int32))]) (rest := []) (lenOf pd_I__Lcom_example_cadenza_cadenza_core_SprintState_ rfl) rfl (by show 2 * 0 + _ ≤ _; exact Nat.le_of_eq rfl) (hb hby at_21) (fun _ _ => ⟨rfl, K55, (by decide : 0 + 0 ≤ _), (by decide : 0 + 0 ≤ _)⟩)
      dsimp only [Pt.U, Pt.locs, Pt.cells, Pt.slots] at X56 l56 y56 z56 st56 hQ56
      subst l56 y56 z56
      obtain ⟨rfl, Nq56, K56⟩ := hQ56
      have N56 := Fr.app N55 Nq56
      refine own_go st56 ?_
      show OwnGo p e below _ (T56.setTop (mkF m 24 #[.val (.int p1), .val (.int p2), .val (.int (2 : Int32)), .val (.int (0 : Int32)), .val (.ref aCLOSED), .unset, .unset] [(.ref aFUTURE)]))
      refine own_go (fun _ k => XS.astore X56.here hx rfl (hb hby at_24) rfl rfl (l' := #[.val (.int p1), .val (.int p2), .val (.int (2 : Int32)), .val (.int (0 : Int32)), .val (.ref aCLOSED), .val (.ref aFUTURE), .unset]) rfl k) ?_
      show OwnGo p e below _ (T56.setTop (mkF m 26 #[.val (.int p1), .val (.int p2), .val (.int (2 : Int32)), .val (.int (0 : Int32)), .val (.ref aCLOSED), .val (.ref aFUTURE), .unset] []))
      refine own_go (fun _ k => XS.iloadN X56.here hx rfl (hb hby at_26) rfl k) ?_
      show OwnGo p e below _ (T56.setTop (mkF m 27 #[.val (.int p1), .val (.int p2), .val (.int (2 : Int32)), .val (.int (0 : Int32)), .val (.ref aCLOSED), .val (.ref aFUTURE), .unset] [(.int (0 : Int32))]))
      refine own_go (fun _ k => XS.iconst X56.here hx rfl (hb hby at_27) k) ?_
      show OwnGo p e below _ (T56.setTop (mkF m 28 #[.val (.int p1), .val (.int p2), .val (.int (2 : Int32)), .val (.int (0 : Int32)), .val (.ref aCLOSED), .val (.ref aFUTURE), .unset] [(.int (3 : Int32)), (.int (0 : Int32))]))
      refine own_go (fun _ k => XS.icmpNo X56.here hx rfl (hb hby at_28) rfl (by decide) k) ?_
      show OwnGo p e below _ (T56.setTop (mkF m 31 #[.val (.int p1), .val (.int p2), .val (.int (2 : Int32)), .val (.int (0 : Int32)), .val (.ref aCLOSED), .val (.ref aFUTURE), .unset] []))
      refine own_go (fun _ k => XS.iloadN X56.here hx rfl (hb hby at_31) rfl k) ?_
      show OwnGo p e below _ (T56.setTop (mkF m 32 #[.val (.int p1), .val (.int p2), .val (.int (2 : Int32)), .val (.int (0 : Int32)), .val (.ref aCLOSED), .val (.ref aFUTURE), .unset] [(.int (0 : Int32))]))
      refine own_go (fun _ k => XS.iloadN X56.here hx rfl (hb hby at_32) rfl k) ?_
      show OwnGo p e below _ (T56.setTop (mkF m 33 #[.val (.int p1), .val (.int p2), .val (.int (2 : Int32)), .val (.int (0 : Int32)), .val (.ref aCLOSED), .val (.ref aFUTURE), .unset] [(.int (2 : Int32)), (.int (0 : Int32))]))
      refine own_go (fun _ k => XS.iconst X56.here hx rfl (hb hby at_33) k) ?_
      show OwnGo p e below _ (T56.setTop (mkF m 34 #[.val (.int p1), .val (.int p2), .val (.int (2 : Int32)), .val (.int (0 : Int32)), .val (.ref aCLOSED), .val (.ref aFUTURE), .unset] [(.int (1 : Int32)), (.int (2 : Int32)), (.int (0 : Int32))]))
      refine own_go (fun _ k => XS.iadd X56.here hx rfl (hb hby at_34) rfl k) ?_
      show OwnGo p e below _ (T56.setTop (mkF m 35 #[.val (.int p1), .val (.int p2), .val (.int (2 : Int32)), .val (.int (0 : Int32)), .val (.ref aCLOSED), .val (.ref aFUTURE), .unset] [(.int ((2 : Int32) + (1 : Int32))), (.int (0 : Int32))]))
      rw [show ((2 : Int32) + (1 : Int32)) = (3 : Int32) from by decide]
      show OwnGo p e below _ (T56.setTop (mkF m 35 #[.val (.int p1), .val (.int p2), .val (.int (2 : Int32)), .val (.int (0 : Int32)), .val (.ref aCLOSED), .val (.ref aFUTURE), .unset] [(.int (3 : Int32)), (.int (0 : Int32))]))
      refine own_go (fun _ k => XS.icmpYes X56.here hx rfl (pc0 := 35) (pc' := 42) rfl (hb hby at_35) rfl (by decide) (by decide) (by decide) k) ?_
      show OwnGo p e below _ (T56.setTop (mkF m 42 #[.val (.int p1), .val (.int p2), .val (.int (2 : Int32)), .val (.int (0 : Int32)), .val (.ref aCLOSED), .val (.ref aFUTURE), .unset] []))
      refine own_go (fun _ k => XS.iconst X56.here hx rfl (hb hby at_42) k) ?_
      show OwnGo p e below _ (T56.setTop (mkF m 43 #[.val (.int p1), .val (.int p2), .val (.int (2 : Int32)), .val (.int (0 : Int32)), .val (.ref aCLOSED), .val (.ref aFUTURE), .unset] [(.int (0 : Int32))]))
      refine own_go (fun _ k => XS.istore X56.here hx rfl (hb hby at_43) rfl (l' := #[.val (.int p1), .val (.int p2), .val (.int (2 : Int32)), .val (.int (0 : Int32)), .val (.ref aCLOSED), .val (.ref aFUTURE), .val (.int (0 : Int32))]) rfl k) ?_
      show OwnGo p e below _ (T56.setTop (mkF m 45 #[.val (.int p1), .val (.int p2), .val (.int (2 : Int32)), .val (.int (0 : Int32)), .val (.ref aCLOSED), .val (.ref aFUTURE), .val (.int (0 : Int32))] []))
      refine own_go (fun _ k => XS.aload X56.here hx rfl (hb hby at_45) rfl rfl k) ?_
      show OwnGo p e below _ (T56.setTop (mkF m 47 #[.val (.int p1), .val (.int p2), .val (.int (2 : Int32)), .val (.int (0 : Int32)), .val (.ref aCLOSED), .val (.ref aFUTURE), .val (.int (0 : Int32))] [(.ref aCLOSED)]))
      refine own_go (fun _ k => XS.aload X56.here hx rfl (hb hby at_47) rfl rfl k) ?_
      show OwnGo p e below _ (T56.setTop (mkF m 49 #[.val (.int p1), .val (.int p2), .val (.int (2 : Int32)), .val (.int (0 : Int32)), .val (.ref aCLOSED), .val (.ref aFUTURE), .val (.int (0 : Int32))] [(.ref aFUTURE), (.ref aCLOSED)]))
      obtain ⟨cq57, kq57, qa57, qb57, qc57⟩ := isOf hZ K56 (F0.2.2.2.2.2.2.1.ext O0.2)
      obtain ⟨_, _, ⟨T57, L57, k57, n57⟩, -, X57, ⟨Lc57, hQ57, l57, y57, z57⟩, st57⟩ := X56.virtualBack hx (y := (⟨"com/example/cadenza/cadenza/core/SprintState", "leadsTo", "(Lcom/example/cadenza/cadenza/core/SprintState;)Z"⟩ : MethodName)) (z := (⟨"com/example/cadenza/cadenza/core/SprintState", "leadsTo", "(Lcom/example/cadenza/cadenza/core/SprintState;)Z"⟩ : MethodName)) hown (mvT hZ (hw _ (List.mem_of_getElem? (i := 8) rfl))) (mvT hZ (hw _ (List.mem_of_getElem? (i := 9) rfl))) (notFace_of_selects (args := #[]) (mvT hZ (hw _ (List.mem_of_getElem? (i := 11) rfl)))) (mvT hZ (hw _ (List.mem_of_getElem? (i := 11) rfl))) (mvT hZ (hw _ (List.mem_of_getElem? (i := 10) rfl))) (by decide) (backOf (W := 0) (rm_leads20 l Z a0 hw [] aFUTURE aACTIVE aCLOSED F0 h0 n0 O0) hZ (hw _ (List.mem_of_getElem? (i := 12) rfl)) (hw _ (List.mem_of_getElem? (i := 6) rfl)) (by decide) (by decide)) qa57 qc57 (g := (mkF m 49 #[.val (.int p1), .val (.int p2), .val (.int (2 : Int32)), .val (.int (0 : Int32)), .val (.ref aCLOSED), .val (.ref aFUTURE), .val (.int (0 : Int32))] [(.ref aFUTURE), (.ref aCLOSED)])) rfl (by rw [hml]; rfl) (Steps.refl _) (argsL := [(.ref aFUTURE)]) (rest := []) (lenOf pd_Lcom_example_cadenza_cadenza_core_SprintState___Z rfl) rfl (by show 2 * 0 + _ ≤ _; exact Nat.le_of_eq rfl) (hb hby at_49) (fun _ _ => ⟨rfl, K56, (by decide : 0 + 0 ≤ _), (by decide : 0 + 0 ≤ _)⟩)
      dsimp only [Pt.U, Pt.locs, Pt.cells, Pt.slots] at X57 l57 y57 z57 st57 hQ57
      subst l57 y57 z57
      obtain ⟨rfl, Nq57, K57⟩ := hQ57
      have N57 := Fr.app N56 Nq57
      refine own_go (fun _ k => st57.trans k) ?_
      show OwnGo p e below _ (T57.setTop (mkF m 52 #[.val (.int p1), .val (.int p2), .val (.int (2 : Int32)), .val (.int (0 : Int32)), .val (.ref aCLOSED), .val (.ref aFUTURE), .val (.int (0 : Int32))] [(.int (0 : Int32))]))
      refine own_go (fun _ k => XS.iload X57.here hx rfl (hb hby at_52) rfl k) ?_
      show OwnGo p e below _ (T57.setTop (mkF m 54 #[.val (.int p1), .val (.int p2), .val (.int (2 : Int32)), .val (.int (0 : Int32)), .val (.ref aCLOSED), .val (.ref aFUTURE), .val (.int (0 : Int32))] [(.int (0 : Int32)), (.int (0 : Int32))]))
      refine own_go (fun _ k => XS.icmpNo X57.here hx rfl (hb hby at_54) rfl (by decide) k) ?_
      show OwnGo p e below _ (T57.setTop (mkF m 57 #[.val (.int p1), .val (.int p2), .val (.int (2 : Int32)), .val (.int (0 : Int32)), .val (.ref aCLOSED), .val (.ref aFUTURE), .val (.int (0 : Int32))] []))
      refine own_go (fun _ k => XS.iconst X57.here hx rfl (hb hby at_57) k) ?_
      show OwnGo p e below _ (T57.setTop (mkF m 58 #[.val (.int p1), .val (.int p2), .val (.int (2 : Int32)), .val (.int (0 : Int32)), .val (.ref aCLOSED), .val (.ref aFUTURE), .val (.int (0 : Int32))] [(.int (1 : Int32))]))
      refine own_go (fun _ k => XS.goto X57.here hx rfl (pc0 := 58) (pc' := 62) rfl (hb hby at_58) (by decide) (by decide) k) ?_
      show OwnGo p e below _ (T57.setTop (mkF m 62 #[.val (.int p1), .val (.int p2), .val (.int (2 : Int32)), .val (.int (0 : Int32)), .val (.ref aCLOSED), .val (.ref aFUTURE), .val (.int (0 : Int32))] [(.int (1 : Int32))]))
      obtain ⟨fs, hr, hrun, hended, hW, hsame⟩ := X57.leave (v := some (.int (1 : Int32))) (fun h => by rw [Bd.returns] at h; cases h)
      refine ⟨_, _, retOut X57 hx Bd.returns rfl (Or.inl ⟨rfl, Or.inr (Or.inl rfl), _, rfl⟩) (hb hby at_62) hr, hrun, hended, _, _, rfl, ?_, ⟨_, rfl⟩, hW, hsame.mono (by decide) (by decide)⟩
      show Q_law Z aFUTURE aACTIVE aCLOSED p1 p2 h0 n0 _ T57.heap _
      rw [K57]
      exact ⟨rfl, N57⟩
    · rw [hv54]
      show OwnGo p e below _ (s₁.setTop (mkF m 13 #[.val (.int p1), .val (.int p2), .val (.int (2 : Int32)), .unset, .unset, .unset, .unset] [(.int (1 : Int32))]))
      refine own_go (fun _ k => XS.istoreN X0.here hx rfl (hb hby at_13) rfl (l' := #[.val (.int p1), .val (.int p2), .val (.int (2 : Int32)), .val (.int (1 : Int32)), .unset, .unset, .unset]) rfl k) ?_
      show OwnGo p e below _ (s₁.setTop (mkF m 14 #[.val (.int p1), .val (.int p2), .val (.int (2 : Int32)), .val (.int (1 : Int32)), .unset, .unset, .unset] []))
      refine own_go (fun _ k => XS.iloadN X0.here hx rfl (hb hby at_14) rfl k) ?_
      show OwnGo p e below _ (s₁.setTop (mkF m 15 #[.val (.int p1), .val (.int p2), .val (.int (2 : Int32)), .val (.int (1 : Int32)), .unset, .unset, .unset] [(.int (2 : Int32))]))
      obtain ⟨_, _, ⟨T58, L58, k58, n58⟩, -, X58, ⟨Lc58, hQ58, l58, y58, z58⟩, st58⟩ := Jvm.LawKit.callS X0 hx (y := (⟨"com/example/cadenza/cadenza/core/SprintStateLeadsToPinLaw", "state", "(I)Lcom/example/cadenza/cadenza/core/SprintState;"⟩ : MethodName)) hown (mvT hZ (hw _ (List.mem_of_getElem? (i := 1) rfl))) (mvT hZ (hw _ (List.mem_of_getElem? (i := 2) rfl))) (mvT hZ (hw _ (List.mem_of_getElem? (i := 3) rfl))) (mvT hZ (hw _ (List.mem_of_getElem? (i := 4) rfl))) (by decide) (backOf (W := 0) (rm_state2 l Z a0 hw [] aFUTURE aACTIVE aCLOSED F0 h0 n0 O0) hZ (hw _ (List.mem_of_getElem? (i := 4) rfl)) (hw _ (List.mem_of_getElem? (i := 3) rfl)) (by decide) (by decide)) (g := (mkF m 15 #[.val (.int p1), .val (.int p2), .val (.int (2 : Int32)), .val (.int (1 : Int32)), .unset, .unset, .unset] [(.int (2 : Int32))])) rfl (by rw [hml]; rfl) (argsL := [(.int (2 : Int32))]) (rest := []) (lenOf pd_I__Lcom_example_cadenza_cadenza_core_SprintState_ rfl) rfl (by show 2 * 0 + _ ≤ _; exact Nat.le_of_eq rfl) (hb hby at_15) (fun _ _ => ⟨rfl, e0, (by decide : 0 + 0 ≤ _), (by decide : 0 + 0 ≤ _)⟩)
      dsimp only [Pt.U, Pt.locs, Pt.cells, Pt.slots] at X58 l58 y58 z58 st58 hQ58
      subst l58 y58 z58
      obtain ⟨rfl, Nq58, K58⟩ := hQ58
      have N58 := Fr.app N0 Nq58
      refine own_go st58 ?_
      show OwnGo p e below _ (T58.setTop (mkF m 18 #[.val (.int p1), .val (.int p2), .val (.int (2 : Int32)), .val (.int (1 : Int32)), .unset, .unset, .unset] [(.ref aCLOSED)]))
      refine own_go (fun _ k => XS.astore X58.here hx rfl (hb hby at_18) rfl rfl (l' := #[.val (.int p1), .val (.int p2), .val (.int (2 : Int32)), .val (.int (1 : Int32)), .val (.ref aCLOSED), .unset, .unset]) rfl k) ?_
      show OwnGo p e below _ (T58.setTop (mkF m 20 #[.val (.int p1), .val (.int p2), .val (.int (2 : Int32)), .val (.int (1 : Int32)), .val (.ref aCLOSED), .unset, .unset] []))
      refine own_go (fun _ k => XS.iloadN X58.here hx rfl (hb hby at_20) rfl k) ?_
      show OwnGo p e below _ (T58.setTop (mkF m 21 #[.val (.int p1), .val (.int p2), .val (.int (2 : Int32)), .val (.int (1 : Int32)), .val (.ref aCLOSED), .unset, .unset] [(.int (1 : Int32))]))
      obtain ⟨_, _, ⟨T59, L59, k59, n59⟩, -, X59, ⟨Lc59, hQ59, l59, y59, z59⟩, st59⟩ := Jvm.LawKit.callS X58 hx (y := (⟨"com/example/cadenza/cadenza/core/SprintStateLeadsToPinLaw", "state", "(I)Lcom/example/cadenza/cadenza/core/SprintState;"⟩ : MethodName)) hown (mvT hZ (hw _ (List.mem_of_getElem? (i := 1) rfl))) (mvT hZ (hw _ (List.mem_of_getElem? (i := 2) rfl))) (mvT hZ (hw _ (List.mem_of_getElem? (i := 3) rfl))) (mvT hZ (hw _ (List.mem_of_getElem? (i := 4) rfl))) (by decide) (backOf (W := 0) (rm_state1 l Z a0 hw [] aFUTURE aACTIVE aCLOSED F0 h0 n0 O0) hZ (hw _ (List.mem_of_getElem? (i := 4) rfl)) (hw _ (List.mem_of_getElem? (i := 3) rfl)) (by decide) (by decide)) (g := (mkF m 21 #[.val (.int p1), .val (.int p2), .val (.int (2 : Int32)), .val (.int (1 : Int32)), .val (.ref aCLOSED), .unset, .unset] [(.int (1 : Int32))])) rfl (by rw [hml]; rfl) (argsL := [(.int (1 : Int32))]) (rest := []) (lenOf pd_I__Lcom_example_cadenza_cadenza_core_SprintState_ rfl) rfl (by show 2 * 0 + _ ≤ _; exact Nat.le_of_eq rfl) (hb hby at_21) (fun _ _ => ⟨rfl, K58, (by decide : 0 + 0 ≤ _), (by decide : 0 + 0 ≤ _)⟩)
      dsimp only [Pt.U, Pt.locs, Pt.cells, Pt.slots] at X59 l59 y59 z59 st59 hQ59
      subst l59 y59 z59
      obtain ⟨rfl, Nq59, K59⟩ := hQ59
      have N59 := Fr.app N58 Nq59
      refine own_go st59 ?_
      show OwnGo p e below _ (T59.setTop (mkF m 24 #[.val (.int p1), .val (.int p2), .val (.int (2 : Int32)), .val (.int (1 : Int32)), .val (.ref aCLOSED), .unset, .unset] [(.ref aACTIVE)]))
      refine own_go (fun _ k => XS.astore X59.here hx rfl (hb hby at_24) rfl rfl (l' := #[.val (.int p1), .val (.int p2), .val (.int (2 : Int32)), .val (.int (1 : Int32)), .val (.ref aCLOSED), .val (.ref aACTIVE), .unset]) rfl k) ?_
      show OwnGo p e below _ (T59.setTop (mkF m 26 #[.val (.int p1), .val (.int p2), .val (.int (2 : Int32)), .val (.int (1 : Int32)), .val (.ref aCLOSED), .val (.ref aACTIVE), .unset] []))
      refine own_go (fun _ k => XS.iloadN X59.here hx rfl (hb hby at_26) rfl k) ?_
      show OwnGo p e below _ (T59.setTop (mkF m 27 #[.val (.int p1), .val (.int p2), .val (.int (2 : Int32)), .val (.int (1 : Int32)), .val (.ref aCLOSED), .val (.ref aACTIVE), .unset] [(.int (1 : Int32))]))
      refine own_go (fun _ k => XS.iconst X59.here hx rfl (hb hby at_27) k) ?_
      show OwnGo p e below _ (T59.setTop (mkF m 28 #[.val (.int p1), .val (.int p2), .val (.int (2 : Int32)), .val (.int (1 : Int32)), .val (.ref aCLOSED), .val (.ref aACTIVE), .unset] [(.int (3 : Int32)), (.int (1 : Int32))]))
      refine own_go (fun _ k => XS.icmpNo X59.here hx rfl (hb hby at_28) rfl (by decide) k) ?_
      show OwnGo p e below _ (T59.setTop (mkF m 31 #[.val (.int p1), .val (.int p2), .val (.int (2 : Int32)), .val (.int (1 : Int32)), .val (.ref aCLOSED), .val (.ref aACTIVE), .unset] []))
      refine own_go (fun _ k => XS.iloadN X59.here hx rfl (hb hby at_31) rfl k) ?_
      show OwnGo p e below _ (T59.setTop (mkF m 32 #[.val (.int p1), .val (.int p2), .val (.int (2 : Int32)), .val (.int (1 : Int32)), .val (.ref aCLOSED), .val (.ref aACTIVE), .unset] [(.int (1 : Int32))]))
      refine own_go (fun _ k => XS.iloadN X59.here hx rfl (hb hby at_32) rfl k) ?_
      show OwnGo p e below _ (T59.setTop (mkF m 33 #[.val (.int p1), .val (.int p2), .val (.int (2 : Int32)), .val (.int (1 : Int32)), .val (.ref aCLOSED), .val (.ref aACTIVE), .unset] [(.int (2 : Int32)), (.int (1 : Int32))]))
      refine own_go (fun _ k => XS.iconst X59.here hx rfl (hb hby at_33) k) ?_
      show OwnGo p e below _ (T59.setTop (mkF m 34 #[.val (.int p1), .val (.int p2), .val (.int (2 : Int32)), .val (.int (1 : Int32)), .val (.ref aCLOSED), .val (.ref aACTIVE), .unset] [(.int (1 : Int32)), (.int (2 : Int32)), (.int (1 : Int32))]))
      refine own_go (fun _ k => XS.iadd X59.here hx rfl (hb hby at_34) rfl k) ?_
      show OwnGo p e below _ (T59.setTop (mkF m 35 #[.val (.int p1), .val (.int p2), .val (.int (2 : Int32)), .val (.int (1 : Int32)), .val (.ref aCLOSED), .val (.ref aACTIVE), .unset] [(.int ((2 : Int32) + (1 : Int32))), (.int (1 : Int32))]))
      rw [show ((2 : Int32) + (1 : Int32)) = (3 : Int32) from by decide]
      show OwnGo p e below _ (T59.setTop (mkF m 35 #[.val (.int p1), .val (.int p2), .val (.int (2 : Int32)), .val (.int (1 : Int32)), .val (.ref aCLOSED), .val (.ref aACTIVE), .unset] [(.int (3 : Int32)), (.int (1 : Int32))]))
      refine own_go (fun _ k => XS.icmpYes X59.here hx rfl (pc0 := 35) (pc' := 42) rfl (hb hby at_35) rfl (by decide) (by decide) (by decide) k) ?_
      show OwnGo p e below _ (T59.setTop (mkF m 42 #[.val (.int p1), .val (.int p2), .val (.int (2 : Int32)), .val (.int (1 : Int32)), .val (.ref aCLOSED), .val (.ref aACTIVE), .unset] []))
      refine own_go (fun _ k => XS.iconst X59.here hx rfl (hb hby at_42) k) ?_
      show OwnGo p e below _ (T59.setTop (mkF m 43 #[.val (.int p1), .val (.int p2), .val (.int (2 : Int32)), .val (.int (1 : Int32)), .val (.ref aCLOSED), .val (.ref aACTIVE), .unset] [(.int (0 : Int32))]))
      refine own_go (fun _ k => XS.istore X59.here hx rfl (hb hby at_43) rfl (l' := #[.val (.int p1), .val (.int p2), .val (.int (2 : Int32)), .val (.int (1 : Int32)), .val (.ref aCLOSED), .val (.ref aACTIVE), .val (.int (0 : Int32))]) rfl k) ?_
      show OwnGo p e below _ (T59.setTop (mkF m 45 #[.val (.int p1), .val (.int p2), .val (.int (2 : Int32)), .val (.int (1 : Int32)), .val (.ref aCLOSED), .val (.ref aACTIVE), .val (.int (0 : Int32))] []))
      refine own_go (fun _ k => XS.aload X59.here hx rfl (hb hby at_45) rfl rfl k) ?_
      show OwnGo p e below _ (T59.setTop (mkF m 47 #[.val (.int p1), .val (.int p2), .val (.int (2 : Int32)), .val (.int (1 : Int32)), .val (.ref aCLOSED), .val (.ref aACTIVE), .val (.int (0 : Int32))] [(.ref aCLOSED)]))
      refine own_go (fun _ k => XS.aload X59.here hx rfl (hb hby at_47) rfl rfl k) ?_
      show OwnGo p e below _ (T59.setTop (mkF m 49 #[.val (.int p1), .val (.int p2), .val (.int (2 : Int32)), .val (.int (1 : Int32)), .val (.ref aCLOSED), .val (.ref aACTIVE), .val (.int (0 : Int32))] [(.ref aACTIVE), (.ref aCLOSED)]))
      obtain ⟨cq60, kq60, qa60, qb60, qc60⟩ := isOf hZ K59 (F0.2.2.2.2.2.2.1.ext O0.2)
      obtain ⟨_, _, ⟨T60, L60, k60, n60⟩, -, X60, ⟨Lc60, hQ60, l60, y60, z60⟩, st60⟩ := X59.virtualBack hx (y := (⟨"com/example/cadenza/cadenza/core/SprintState", "leadsTo", "(Lcom/example/cadenza/cadenza/core/SprintState;)Z"⟩ : MethodName)) (z := (⟨"com/example/cadenza/cadenza/core/SprintState", "leadsTo", "(Lcom/example/cadenza/cadenza/core/SprintState;)Z"⟩ : MethodName)) hown (mvT hZ (hw _ (List.mem_of_getElem? (i := 8) rfl))) (mvT hZ (hw _ (List.mem_of_getElem? (i := 9) rfl))) (notFace_of_selects (args := #[]) (mvT hZ (hw _ (List.mem_of_getElem? (i := 11) rfl)))) (mvT hZ (hw _ (List.mem_of_getElem? (i := 11) rfl))) (mvT hZ (hw _ (List.mem_of_getElem? (i := 10) rfl))) (by decide) (backOf (W := 0) (rm_leads21 l Z a0 hw [] aFUTURE aACTIVE aCLOSED F0 h0 n0 O0) hZ (hw _ (List.mem_of_getElem? (i := 12) rfl)) (hw _ (List.mem_of_getElem? (i := 6) rfl)) (by decide) (by decide)) qa60 qc60 (g := (mkF m 49 #[.val (.int p1), .val (.int p2), .val (.int (2 : Int32)), .val (.int (1 : Int32)), .val (.ref aCLOSED), .val (.ref aACTIVE), .val (.int (0 : Int32))] [(.ref aACTIVE), (.ref aCLOSED)])) rfl (by rw [hml]; rfl) (Steps.refl _) (argsL := [(.ref aACTIVE)]) (rest := []) (lenOf pd_Lcom_example_cadenza_cadenza_core_SprintState___Z rfl) rfl (by show 2 * 0 + _ ≤ _; exact Nat.le_of_eq rfl) (hb hby at_49) (fun _ _ => ⟨rfl, K59, (by decide : 0 + 0 ≤ _), (by decide : 0 + 0 ≤ _)⟩)
      dsimp only [Pt.U, Pt.locs, Pt.cells, Pt.slots] at X60 l60 y60 z60 st60 hQ60
      subst l60 y60 z60
      obtain ⟨rfl, Nq60, K60⟩ := hQ60
      have N60 := Fr.app N59 Nq60
      refine own_go (fun _ k => st60.trans k) ?_
      show OwnGo p e below _ (T60.setTop (mkF m 52 #[.val (.int p1), .val (.int p2), .val (.int (2 : Int32)), .val (.int (1 : Int32)), .val (.ref aCLOSED), .val (.ref aACTIVE), .val (.int (0 : Int32))] [(.int (0 : Int32))]))
      refine own_go (fun _ k => XS.iload X60.here hx rfl (hb hby at_52) rfl k) ?_
      show OwnGo p e below _ (T60.setTop (mkF m 54 #[.val (.int p1), .val (.int p2), .val (.int (2 : Int32)), .val (.int (1 : Int32)), .val (.ref aCLOSED), .val (.ref aACTIVE), .val (.int (0 : Int32))] [(.int (0 : Int32)), (.int (0 : Int32))]))
      refine own_go (fun _ k => XS.icmpNo X60.here hx rfl (hb hby at_54) rfl (by decide) k) ?_
      show OwnGo p e below _ (T60.setTop (mkF m 57 #[.val (.int p1), .val (.int p2), .val (.int (2 : Int32)), .val (.int (1 : Int32)), .val (.ref aCLOSED), .val (.ref aACTIVE), .val (.int (0 : Int32))] []))
      refine own_go (fun _ k => XS.iconst X60.here hx rfl (hb hby at_57) k) ?_
      show OwnGo p e below _ (T60.setTop (mkF m 58 #[.val (.int p1), .val (.int p2), .val (.int (2 : Int32)), .val (.int (1 : Int32)), .val (.ref aCLOSED), .val (.ref aACTIVE), .val (.int (0 : Int32))] [(.int (1 : Int32))]))
      refine own_go (fun _ k => XS.goto X60.here hx rfl (pc0 := 58) (pc' := 62) rfl (hb hby at_58) (by decide) (by decide) k) ?_
      show OwnGo p e below _ (T60.setTop (mkF m 62 #[.val (.int p1), .val (.int p2), .val (.int (2 : Int32)), .val (.int (1 : Int32)), .val (.ref aCLOSED), .val (.ref aACTIVE), .val (.int (0 : Int32))] [(.int (1 : Int32))]))
      obtain ⟨fs, hr, hrun, hended, hW, hsame⟩ := X60.leave (v := some (.int (1 : Int32))) (fun h => by rw [Bd.returns] at h; cases h)
      refine ⟨_, _, retOut X60 hx Bd.returns rfl (Or.inl ⟨rfl, Or.inr (Or.inl rfl), _, rfl⟩) (hb hby at_62) hr, hrun, hended, _, _, rfl, ?_, ⟨_, rfl⟩, hW, hsame.mono (by decide) (by decide)⟩
      show Q_law Z aFUTURE aACTIVE aCLOSED p1 p2 h0 n0 _ T60.heap _
      rw [K60]
      exact ⟨rfl, N60⟩
    · rw [hv54]
      show OwnGo p e below _ (s₁.setTop (mkF m 13 #[.val (.int p1), .val (.int p2), .val (.int (2 : Int32)), .unset, .unset, .unset, .unset] [(.int (2 : Int32))]))
      refine own_go (fun _ k => XS.istoreN X0.here hx rfl (hb hby at_13) rfl (l' := #[.val (.int p1), .val (.int p2), .val (.int (2 : Int32)), .val (.int (2 : Int32)), .unset, .unset, .unset]) rfl k) ?_
      show OwnGo p e below _ (s₁.setTop (mkF m 14 #[.val (.int p1), .val (.int p2), .val (.int (2 : Int32)), .val (.int (2 : Int32)), .unset, .unset, .unset] []))
      refine own_go (fun _ k => XS.iloadN X0.here hx rfl (hb hby at_14) rfl k) ?_
      show OwnGo p e below _ (s₁.setTop (mkF m 15 #[.val (.int p1), .val (.int p2), .val (.int (2 : Int32)), .val (.int (2 : Int32)), .unset, .unset, .unset] [(.int (2 : Int32))]))
      obtain ⟨_, _, ⟨T61, L61, k61, n61⟩, -, X61, ⟨Lc61, hQ61, l61, y61, z61⟩, st61⟩ := Jvm.LawKit.callS X0 hx (y := (⟨"com/example/cadenza/cadenza/core/SprintStateLeadsToPinLaw", "state", "(I)Lcom/example/cadenza/cadenza/core/SprintState;"⟩ : MethodName)) hown (mvT hZ (hw _ (List.mem_of_getElem? (i := 1) rfl))) (mvT hZ (hw _ (List.mem_of_getElem? (i := 2) rfl))) (mvT hZ (hw _ (List.mem_of_getElem? (i := 3) rfl))) (mvT hZ (hw _ (List.mem_of_getElem? (i := 4) rfl))) (by decide) (backOf (W := 0) (rm_state2 l Z a0 hw [] aFUTURE aACTIVE aCLOSED F0 h0 n0 O0) hZ (hw _ (List.mem_of_getElem? (i := 4) rfl)) (hw _ (List.mem_of_getElem? (i := 3) rfl)) (by decide) (by decide)) (g := (mkF m 15 #[.val (.int p1), .val (.int p2), .val (.int (2 : Int32)), .val (.int (2 : Int32)), .unset, .unset, .unset] [(.int (2 : Int32))])) rfl (by rw [hml]; rfl) (argsL := [(.int (2 : Int32))]) (rest := []) (lenOf pd_I__Lcom_example_cadenza_cadenza_core_SprintState_ rfl) rfl (by show 2 * 0 + _ ≤ _; exact Nat.le_of_eq rfl) (hb hby at_15) (fun _ _ => ⟨rfl, e0, (by decide : 0 + 0 ≤ _), (by decide : 0 + 0 ≤ _)⟩)
      dsimp only [Pt.U, Pt.locs, Pt.cells, Pt.slots] at X61 l61 y61 z61 st61 hQ61
      subst l61 y61 z61
      obtain ⟨rfl, Nq61, K61⟩ := hQ61
      have N61 := Fr.app N0 Nq61
      refine own_go st61 ?_
      show OwnGo p e below _ (T61.setTop (mkF m 18 #[.val (.int p1), .val (.int p2), .val (.int (2 : Int32)), .val (.int (2 : Int32)), .unset, .unset, .unset] [(.ref aCLOSED)]))
      refine own_go (fun _ k => XS.astore X61.here hx rfl (hb hby at_18) rfl rfl (l' := #[.val (.int p1), .val (.int p2), .val (.int (2 : Int32)), .val (.int (2 : Int32)), .val (.ref aCLOSED), .unset, .unset]) rfl k) ?_
      show OwnGo p e below _ (T61.setTop (mkF m 20 #[.val (.int p1), .val (.int p2), .val (.int (2 : Int32)), .val (.int (2 : Int32)), .val (.ref aCLOSED), .unset, .unset] []))
      refine own_go (fun _ k => XS.iloadN X61.here hx rfl (hb hby at_20) rfl k) ?_
      show OwnGo p e below _ (T61.setTop (mkF m 21 #[.val (.int p1), .val (.int p2), .val (.int (2 : Int32)), .val (.int (2 : Int32)), .val (.ref aCLOSED), .unset, .unset] [(.int (2 : Int32))]))
      obtain ⟨_, _, ⟨T62, L62, k62, n62⟩, -, X62, ⟨Lc62, hQ62, l62, y62, z62⟩, st62⟩ := Jvm.LawKit.callS X61 hx (y := (⟨"com/example/cadenza/cadenza/core/SprintStateLeadsToPinLaw", "state", "(I)Lcom/example/cadenza/cadenza/core/SprintState;"⟩ : MethodName)) hown (mvT hZ (hw _ (List.mem_of_getElem? (i := 1) rfl))) (mvT hZ (hw _ (List.mem_of_getElem? (i := 2) rfl))) (mvT hZ (hw _ (List.mem_of_getElem? (i := 3) rfl))) (mvT hZ (hw _ (List.mem_of_getElem? (i := 4) rfl))) (by decide) (backOf (W := 0) (rm_state2 l Z a0 hw [] aFUTURE aACTIVE aCLOSED F0 h0 n0 O0) hZ (hw _ (List.mem_of_getElem? (i := 4) rfl)) (hw _ (List.mem_of_getElem? (i := 3) rfl)) (by decide) (by decide)) (g := (mkF m 21 #[.val (.int p1), .val (.int p2), .val (.int (2 : Int32)), .val (.int (2 : Int32)), .val (.ref aCLOSED), .unset, .unset] [(.int (2 : Int32))])) rfl (by rw [hml]; rfl) (argsL := [(.int (2 : Int32))]) (rest := []) (lenOf pd_I__Lcom_example_cadenza_cadenza_core_SprintState_ rfl) rfl (by show 2 * 0 + _ ≤ _; exact Nat.le_of_eq rfl) (hb hby at_21) (fun _ _ => ⟨rfl, K61, (by decide : 0 + 0 ≤ _), (by decide : 0 + 0 ≤ _)⟩)
      dsimp only [Pt.U, Pt.locs, Pt.cells, Pt.slots] at X62 l62 y62 z62 st62 hQ62
      subst l62 y62 z62
      obtain ⟨rfl, Nq62, K62⟩ := hQ62
      have N62 := Fr.app N61 Nq62
      refine own_go st62 ?_
      show OwnGo p e below _ (T62.setTop (mkF m 24 #[.val (.int p1), .val (.int p2), .val (.int (2 : Int32)), .val (.int (2 : Int32)), .val (.ref aCLOSED), .unset, .unset] [(.ref aCLOSED)]))
      refine own_go (fun _ k => XS.astore X62.here hx rfl (hb hby at_24) rfl rfl (l' := #[.val (.int p1), .val (.int p2), .val (.int (2 : Int32)), .val (.int (2 : Int32)), .val (.ref aCLOSED), .val (.ref aCLOSED), .unset]) rfl k) ?_
      show OwnGo p e below _ (T62.setTop (mkF m 26 #[.val (.int p1), .val (.int p2), .val (.int (2 : Int32)), .val (.int (2 : Int32)), .val (.ref aCLOSED), .val (.ref aCLOSED), .unset] []))
      refine own_go (fun _ k => XS.iloadN X62.here hx rfl (hb hby at_26) rfl k) ?_
      show OwnGo p e below _ (T62.setTop (mkF m 27 #[.val (.int p1), .val (.int p2), .val (.int (2 : Int32)), .val (.int (2 : Int32)), .val (.ref aCLOSED), .val (.ref aCLOSED), .unset] [(.int (2 : Int32))]))
      refine own_go (fun _ k => XS.iconst X62.here hx rfl (hb hby at_27) k) ?_
      show OwnGo p e below _ (T62.setTop (mkF m 28 #[.val (.int p1), .val (.int p2), .val (.int (2 : Int32)), .val (.int (2 : Int32)), .val (.ref aCLOSED), .val (.ref aCLOSED), .unset] [(.int (3 : Int32)), (.int (2 : Int32))]))
      refine own_go (fun _ k => XS.icmpNo X62.here hx rfl (hb hby at_28) rfl (by decide) k) ?_
      show OwnGo p e below _ (T62.setTop (mkF m 31 #[.val (.int p1), .val (.int p2), .val (.int (2 : Int32)), .val (.int (2 : Int32)), .val (.ref aCLOSED), .val (.ref aCLOSED), .unset] []))
      refine own_go (fun _ k => XS.iloadN X62.here hx rfl (hb hby at_31) rfl k) ?_
      show OwnGo p e below _ (T62.setTop (mkF m 32 #[.val (.int p1), .val (.int p2), .val (.int (2 : Int32)), .val (.int (2 : Int32)), .val (.ref aCLOSED), .val (.ref aCLOSED), .unset] [(.int (2 : Int32))]))
      refine own_go (fun _ k => XS.iloadN X62.here hx rfl (hb hby at_32) rfl k) ?_
      show OwnGo p e below _ (T62.setTop (mkF m 33 #[.val (.int p1), .val (.int p2), .val (.int (2 : Int32)), .val (.int (2 : Int32)), .val (.ref aCLOSED), .val (.ref aCLOSED), .unset] [(.int (2 : Int32)), (.int (2 : Int32))]))
      refine own_go (fun _ k => XS.iconst X62.here hx rfl (hb hby at_33) k) ?_
      show OwnGo p e below _ (T62.setTop (mkF m 34 #[.val (.int p1), .val (.int p2), .val (.int (2 : Int32)), .val (.int (2 : Int32)), .val (.ref aCLOSED), .val (.ref aCLOSED), .unset] [(.int (1 : Int32)), (.int (2 : Int32)), (.int (2 : Int32))]))
      refine own_go (fun _ k => XS.iadd X62.here hx rfl (hb hby at_34) rfl k) ?_
      show OwnGo p e below _ (T62.setTop (mkF m 35 #[.val (.int p1), .val (.int p2), .val (.int (2 : Int32)), .val (.int (2 : Int32)), .val (.ref aCLOSED), .val (.ref aCLOSED), .unset] [(.int ((2 : Int32) + (1 : Int32))), (.int (2 : Int32))]))
      rw [show ((2 : Int32) + (1 : Int32)) = (3 : Int32) from by decide]
      show OwnGo p e below _ (T62.setTop (mkF m 35 #[.val (.int p1), .val (.int p2), .val (.int (2 : Int32)), .val (.int (2 : Int32)), .val (.ref aCLOSED), .val (.ref aCLOSED), .unset] [(.int (3 : Int32)), (.int (2 : Int32))]))
      refine own_go (fun _ k => XS.icmpYes X62.here hx rfl (pc0 := 35) (pc' := 42) rfl (hb hby at_35) rfl (by decide) (by decide) (by decide) k) ?_
      show OwnGo p e below _ (T62.setTop (mkF m 42 #[.val (.int p1), .val (.int p2), .val (.int (2 : Int32)), .val (.int (2 : Int32)), .val (.ref aCLOSED), .val (.ref aCLOSED), .unset] []))
      refine own_go (fun _ k => XS.iconst X62.here hx rfl (hb hby at_42) k) ?_
      show OwnGo p e below _ (T62.setTop (mkF m 43 #[.val (.int p1), .val (.int p2), .val (.int (2 : Int32)), .val (.int (2 : Int32)), .val (.ref aCLOSED), .val (.ref aCLOSED), .unset] [(.int (0 : Int32))]))
      refine own_go (fun _ k => XS.istore X62.here hx rfl (hb hby at_43) rfl (l' := #[.val (.int p1), .val (.int p2), .val (.int (2 : Int32)), .val (.int (2 : Int32)), .val (.ref aCLOSED), .val (.ref aCLOSED), .val (.int (0 : Int32))]) rfl k) ?_
      show OwnGo p e below _ (T62.setTop (mkF m 45 #[.val (.int p1), .val (.int p2), .val (.int (2 : Int32)), .val (.int (2 : Int32)), .val (.ref aCLOSED), .val (.ref aCLOSED), .val (.int (0 : Int32))] []))
      refine own_go (fun _ k => XS.aload X62.here hx rfl (hb hby at_45) rfl rfl k) ?_
      show OwnGo p e below _ (T62.setTop (mkF m 47 #[.val (.int p1), .val (.int p2), .val (.int (2 : Int32)), .val (.int (2 : Int32)), .val (.ref aCLOSED), .val (.ref aCLOSED), .val (.int (0 : Int32))] [(.ref aCLOSED)]))
      refine own_go (fun _ k => XS.aload X62.here hx rfl (hb hby at_47) rfl rfl k) ?_
      show OwnGo p e below _ (T62.setTop (mkF m 49 #[.val (.int p1), .val (.int p2), .val (.int (2 : Int32)), .val (.int (2 : Int32)), .val (.ref aCLOSED), .val (.ref aCLOSED), .val (.int (0 : Int32))] [(.ref aCLOSED), (.ref aCLOSED)]))
      obtain ⟨cq63, kq63, qa63, qb63, qc63⟩ := isOf hZ K62 (F0.2.2.2.2.2.2.1.ext O0.2)
      obtain ⟨_, _, ⟨T63, L63, k63, n63⟩, -, X63, ⟨Lc63, hQ63, l63, y63, z63⟩, st63⟩ := X62.virtualBack hx (y := (⟨"com/example/cadenza/cadenza/core/SprintState", "leadsTo", "(Lcom/example/cadenza/cadenza/core/SprintState;)Z"⟩ : MethodName)) (z := (⟨"com/example/cadenza/cadenza/core/SprintState", "leadsTo", "(Lcom/example/cadenza/cadenza/core/SprintState;)Z"⟩ : MethodName)) hown (mvT hZ (hw _ (List.mem_of_getElem? (i := 8) rfl))) (mvT hZ (hw _ (List.mem_of_getElem? (i := 9) rfl))) (notFace_of_selects (args := #[]) (mvT hZ (hw _ (List.mem_of_getElem? (i := 11) rfl)))) (mvT hZ (hw _ (List.mem_of_getElem? (i := 11) rfl))) (mvT hZ (hw _ (List.mem_of_getElem? (i := 10) rfl))) (by decide) (backOf (W := 0) (rm_leads22 l Z a0 hw [] aFUTURE aACTIVE aCLOSED F0 h0 n0 O0) hZ (hw _ (List.mem_of_getElem? (i := 12) rfl)) (hw _ (List.mem_of_getElem? (i := 6) rfl)) (by decide) (by decide)) qa63 qc63 (g := (mkF m 49 #[.val (.int p1), .val (.int p2), .val (.int (2 : Int32)), .val (.int (2 : Int32)), .val (.ref aCLOSED), .val (.ref aCLOSED), .val (.int (0 : Int32))] [(.ref aCLOSED), (.ref aCLOSED)])) rfl (by rw [hml]; rfl) (Steps.refl _) (argsL := [(.ref aCLOSED)]) (rest := []) (lenOf pd_Lcom_example_cadenza_cadenza_core_SprintState___Z rfl) rfl (by show 2 * 0 + _ ≤ _; exact Nat.le_of_eq rfl) (hb hby at_49) (fun _ _ => ⟨rfl, K62, (by decide : 0 + 0 ≤ _), (by decide : 0 + 0 ≤ _)⟩)
      dsimp only [Pt.U, Pt.locs, Pt.cells, Pt.slots] at X63 l63 y63 z63 st63 hQ63
      subst l63 y63 z63
      obtain ⟨rfl, Nq63, K63⟩ := hQ63
      have N63 := Fr.app N62 Nq63
      refine own_go (fun _ k => st63.trans k) ?_
      show OwnGo p e below _ (T63.setTop (mkF m 52 #[.val (.int p1), .val (.int p2), .val (.int (2 : Int32)), .val (.int (2 : Int32)), .val (.ref aCLOSED), .val (.ref aCLOSED), .val (.int (0 : Int32))] [(.int (0 : Int32))]))
      refine own_go (fun _ k => XS.iload X63.here hx rfl (hb hby at_52) rfl k) ?_
      show OwnGo p e below _ (T63.setTop (mkF m 54 #[.val (.int p1), .val (.int p2), .val (.int (2 : Int32)), .val (.int (2 : Int32)), .val (.ref aCLOSED), .val (.ref aCLOSED), .val (.int (0 : Int32))] [(.int (0 : Int32)), (.int (0 : Int32))]))
      refine own_go (fun _ k => XS.icmpNo X63.here hx rfl (hb hby at_54) rfl (by decide) k) ?_
      show OwnGo p e below _ (T63.setTop (mkF m 57 #[.val (.int p1), .val (.int p2), .val (.int (2 : Int32)), .val (.int (2 : Int32)), .val (.ref aCLOSED), .val (.ref aCLOSED), .val (.int (0 : Int32))] []))
      refine own_go (fun _ k => XS.iconst X63.here hx rfl (hb hby at_57) k) ?_
      show OwnGo p e below _ (T63.setTop (mkF m 58 #[.val (.int p1), .val (.int p2), .val (.int (2 : Int32)), .val (.int (2 : Int32)), .val (.ref aCLOSED), .val (.ref aCLOSED), .val (.int (0 : Int32))] [(.int (1 : Int32))]))
      refine own_go (fun _ k => XS.goto X63.here hx rfl (pc0 := 58) (pc' := 62) rfl (hb hby at_58) (by decide) (by decide) k) ?_
      show OwnGo p e below _ (T63.setTop (mkF m 62 #[.val (.int p1), .val (.int p2), .val (.int (2 : Int32)), .val (.int (2 : Int32)), .val (.ref aCLOSED), .val (.ref aCLOSED), .val (.int (0 : Int32))] [(.int (1 : Int32))]))
      obtain ⟨fs, hr, hrun, hended, hW, hsame⟩ := X63.leave (v := some (.int (1 : Int32))) (fun h => by rw [Bd.returns] at h; cases h)
      refine ⟨_, _, retOut X63 hx Bd.returns rfl (Or.inl ⟨rfl, Or.inr (Or.inl rfl), _, rfl⟩) (hb hby at_62) hr, hrun, hended, _, _, rfl, ?_, ⟨_, rfl⟩, hW, hsame.mono (by decide) (by decide)⟩
      show Q_law Z aFUTURE aACTIVE aCLOSED p1 p2 h0 n0 _ T63.heap _
      rw [K63]
      exact ⟨rfl, N63⟩
    · rw [hv54]
      show OwnGo p e below _ (s₁.setTop (mkF m 13 #[.val (.int p1), .val (.int p2), .val (.int (2 : Int32)), .unset, .unset, .unset, .unset] [(.int (3 : Int32))]))
      refine own_go (fun _ k => XS.istoreN X0.here hx rfl (hb hby at_13) rfl (l' := #[.val (.int p1), .val (.int p2), .val (.int (2 : Int32)), .val (.int (3 : Int32)), .unset, .unset, .unset]) rfl k) ?_
      show OwnGo p e below _ (s₁.setTop (mkF m 14 #[.val (.int p1), .val (.int p2), .val (.int (2 : Int32)), .val (.int (3 : Int32)), .unset, .unset, .unset] []))
      refine own_go (fun _ k => XS.iloadN X0.here hx rfl (hb hby at_14) rfl k) ?_
      show OwnGo p e below _ (s₁.setTop (mkF m 15 #[.val (.int p1), .val (.int p2), .val (.int (2 : Int32)), .val (.int (3 : Int32)), .unset, .unset, .unset] [(.int (2 : Int32))]))
      obtain ⟨_, _, ⟨T64, L64, k64, n64⟩, -, X64, ⟨Lc64, hQ64, l64, y64, z64⟩, st64⟩ := Jvm.LawKit.callS X0 hx (y := (⟨"com/example/cadenza/cadenza/core/SprintStateLeadsToPinLaw", "state", "(I)Lcom/example/cadenza/cadenza/core/SprintState;"⟩ : MethodName)) hown (mvT hZ (hw _ (List.mem_of_getElem? (i := 1) rfl))) (mvT hZ (hw _ (List.mem_of_getElem? (i := 2) rfl))) (mvT hZ (hw _ (List.mem_of_getElem? (i := 3) rfl))) (mvT hZ (hw _ (List.mem_of_getElem? (i := 4) rfl))) (by decide) (backOf (W := 0) (rm_state2 l Z a0 hw [] aFUTURE aACTIVE aCLOSED F0 h0 n0 O0) hZ (hw _ (List.mem_of_getElem? (i := 4) rfl)) (hw _ (List.mem_of_getElem? (i := 3) rfl)) (by decide) (by decide)) (g := (mkF m 15 #[.val (.int p1), .val (.int p2), .val (.int (2 : Int32)), .val (.int (3 : Int32)), .unset, .unset, .unset] [(.int (2 : Int32))])) rfl (by rw [hml]; rfl) (argsL := [(.int (2 : Int32))]) (rest := []) (lenOf pd_I__Lcom_example_cadenza_cadenza_core_SprintState_ rfl) rfl (by show 2 * 0 + _ ≤ _; exact Nat.le_of_eq rfl) (hb hby at_15) (fun _ _ => ⟨rfl, e0, (by decide : 0 + 0 ≤ _), (by decide : 0 + 0 ≤ _)⟩)
      dsimp only [Pt.U, Pt.locs, Pt.cells, Pt.slots] at X64 l64 y64 z64 st64 hQ64
      subst l64 y64 z64
      obtain ⟨rfl, Nq64, K64⟩ := hQ64
      have N64 := Fr.app N0 Nq64
      refine own_go st64 ?_
      show OwnGo p e below _ (T64.setTop (mkF m 18 #[.val (.int p1), .val (.int p2), .val (.int (2 : Int32)), .val (.int (3 : Int32)), .unset, .unset, .unset] [(.ref aCLOSED)]))
      refine own_go (fun _ k => XS.astore X64.here hx rfl (hb hby at_18) rfl rfl (l' := #[.val (.int p1), .val (.int p2), .val (.int (2 : Int32)), .val (.int (3 : Int32)), .val (.ref aCLOSED), .unset, .unset]) rfl k) ?_
      show OwnGo p e below _ (T64.setTop (mkF m 20 #[.val (.int p1), .val (.int p2), .val (.int (2 : Int32)), .val (.int (3 : Int32)), .val (.ref aCLOSED), .unset, .unset] []))
      refine own_go (fun _ k => XS.iloadN X64.here hx rfl (hb hby at_20) rfl k) ?_
      show OwnGo p e below _ (T64.setTop (mkF m 21 #[.val (.int p1), .val (.int p2), .val (.int (2 : Int32)), .val (.int (3 : Int32)), .val (.ref aCLOSED), .unset, .unset] [(.int (3 : Int32))]))
      obtain ⟨_, _, ⟨T65, L65, k65, n65⟩, -, X65, ⟨Lc65, hQ65, l65, y65, z65⟩, st65⟩ := Jvm.LawKit.callS X64 hx (y := (⟨"com/example/cadenza/cadenza/core/SprintStateLeadsToPinLaw", "state", "(I)Lcom/example/cadenza/cadenza/core/SprintState;"⟩ : MethodName)) hown (mvT hZ (hw _ (List.mem_of_getElem? (i := 1) rfl))) (mvT hZ (hw _ (List.mem_of_getElem? (i := 2) rfl))) (mvT hZ (hw _ (List.mem_of_getElem? (i := 3) rfl))) (mvT hZ (hw _ (List.mem_of_getElem? (i := 4) rfl))) (by decide) (backOf (W := 0) (rm_state3 l Z a0 hw [] aFUTURE aACTIVE aCLOSED F0 h0 n0 O0) hZ (hw _ (List.mem_of_getElem? (i := 4) rfl)) (hw _ (List.mem_of_getElem? (i := 3) rfl)) (by decide) (by decide)) (g := (mkF m 21 #[.val (.int p1), .val (.int p2), .val (.int (2 : Int32)), .val (.int (3 : Int32)), .val (.ref aCLOSED), .unset, .unset] [(.int (3 : Int32))])) rfl (by rw [hml]; rfl) (argsL := [(.int (3 : Int32))]) (rest := []) (lenOf pd_I__Lcom_example_cadenza_cadenza_core_SprintState_ rfl) rfl (by show 2 * 0 + _ ≤ _; exact Nat.le_of_eq rfl) (hb hby at_21) (fun _ _ => ⟨rfl, K64, (by decide : 0 + 0 ≤ _), (by decide : 0 + 0 ≤ _)⟩)
      dsimp only [Pt.U, Pt.locs, Pt.cells, Pt.slots] at X65 l65 y65 z65 st65 hQ65
      subst l65 y65 z65
      obtain ⟨rfl, Nq65, K65⟩ := hQ65
      have N65 := Fr.app N64 Nq65
      refine own_go st65 ?_
      show OwnGo p e below _ (T65.setTop (mkF m 24 #[.val (.int p1), .val (.int p2), .val (.int (2 : Int32)), .val (.int (3 : Int32)), .val (.ref aCLOSED), .unset, .unset] [.null]))
      refine own_go (fun _ k => XS.astore X65.here hx rfl (hb hby at_24) rfl rfl (l' := #[.val (.int p1), .val (.int p2), .val (.int (2 : Int32)), .val (.int (3 : Int32)), .val (.ref aCLOSED), .val .null, .unset]) rfl k) ?_
      show OwnGo p e below _ (T65.setTop (mkF m 26 #[.val (.int p1), .val (.int p2), .val (.int (2 : Int32)), .val (.int (3 : Int32)), .val (.ref aCLOSED), .val .null, .unset] []))
      refine own_go (fun _ k => XS.iloadN X65.here hx rfl (hb hby at_26) rfl k) ?_
      show OwnGo p e below _ (T65.setTop (mkF m 27 #[.val (.int p1), .val (.int p2), .val (.int (2 : Int32)), .val (.int (3 : Int32)), .val (.ref aCLOSED), .val .null, .unset] [(.int (3 : Int32))]))
      refine own_go (fun _ k => XS.iconst X65.here hx rfl (hb hby at_27) k) ?_
      show OwnGo p e below _ (T65.setTop (mkF m 28 #[.val (.int p1), .val (.int p2), .val (.int (2 : Int32)), .val (.int (3 : Int32)), .val (.ref aCLOSED), .val .null, .unset] [(.int (3 : Int32)), (.int (3 : Int32))]))
      refine own_go (fun _ k => XS.icmpYes X65.here hx rfl (pc0 := 28) (pc' := 42) rfl (hb hby at_28) rfl (by decide) (by decide) (by decide) k) ?_
      show OwnGo p e below _ (T65.setTop (mkF m 42 #[.val (.int p1), .val (.int p2), .val (.int (2 : Int32)), .val (.int (3 : Int32)), .val (.ref aCLOSED), .val .null, .unset] []))
      refine own_go (fun _ k => XS.iconst X65.here hx rfl (hb hby at_42) k) ?_
      show OwnGo p e below _ (T65.setTop (mkF m 43 #[.val (.int p1), .val (.int p2), .val (.int (2 : Int32)), .val (.int (3 : Int32)), .val (.ref aCLOSED), .val .null, .unset] [(.int (0 : Int32))]))
      refine own_go (fun _ k => XS.istore X65.here hx rfl (hb hby at_43) rfl (l' := #[.val (.int p1), .val (.int p2), .val (.int (2 : Int32)), .val (.int (3 : Int32)), .val (.ref aCLOSED), .val .null, .val (.int (0 : Int32))]) rfl k) ?_
      show OwnGo p e below _ (T65.setTop (mkF m 45 #[.val (.int p1), .val (.int p2), .val (.int (2 : Int32)), .val (.int (3 : Int32)), .val (.ref aCLOSED), .val .null, .val (.int (0 : Int32))] []))
      refine own_go (fun _ k => XS.aload X65.here hx rfl (hb hby at_45) rfl rfl k) ?_
      show OwnGo p e below _ (T65.setTop (mkF m 47 #[.val (.int p1), .val (.int p2), .val (.int (2 : Int32)), .val (.int (3 : Int32)), .val (.ref aCLOSED), .val .null, .val (.int (0 : Int32))] [(.ref aCLOSED)]))
      refine own_go (fun _ k => XS.aload X65.here hx rfl (hb hby at_47) rfl rfl k) ?_
      show OwnGo p e below _ (T65.setTop (mkF m 49 #[.val (.int p1), .val (.int p2), .val (.int (2 : Int32)), .val (.int (3 : Int32)), .val (.ref aCLOSED), .val .null, .val (.int (0 : Int32))] [.null, (.ref aCLOSED)]))
      obtain ⟨cq66, kq66, qa66, qb66, qc66⟩ := isOf hZ K65 (F0.2.2.2.2.2.2.1.ext O0.2)
      obtain ⟨_, _, ⟨T66, L66, k66, n66⟩, -, X66, ⟨Lc66, hQ66, l66, y66, z66⟩, st66⟩ := X65.virtualBack hx (y := (⟨"com/example/cadenza/cadenza/core/SprintState", "leadsTo", "(Lcom/example/cadenza/cadenza/core/SprintState;)Z"⟩ : MethodName)) (z := (⟨"com/example/cadenza/cadenza/core/SprintState", "leadsTo", "(Lcom/example/cadenza/cadenza/core/SprintState;)Z"⟩ : MethodName)) hown (mvT hZ (hw _ (List.mem_of_getElem? (i := 8) rfl))) (mvT hZ (hw _ (List.mem_of_getElem? (i := 9) rfl))) (notFace_of_selects (args := #[]) (mvT hZ (hw _ (List.mem_of_getElem? (i := 11) rfl)))) (mvT hZ (hw _ (List.mem_of_getElem? (i := 11) rfl))) (mvT hZ (hw _ (List.mem_of_getElem? (i := 10) rfl))) (by decide) (backOf (W := 0) (rm_leads23 l Z a0 hw [] aFUTURE aACTIVE aCLOSED F0 h0 n0 O0) hZ (hw _ (List.mem_of_getElem? (i := 12) rfl)) (hw _ (List.mem_of_getElem? (i := 6) rfl)) (by decide) (by decide)) qa66 qc66 (g := (mkF m 49 #[.val (.int p1), .val (.int p2), .val (.int (2 : Int32)), .val (.int (3 : Int32)), .val (.ref aCLOSED), .val .null, .val (.int (0 : Int32))] [.null, (.ref aCLOSED)])) rfl (by rw [hml]; rfl) (Steps.refl _) (argsL := [.null]) (rest := []) (lenOf pd_Lcom_example_cadenza_cadenza_core_SprintState___Z rfl) rfl (by show 2 * 0 + _ ≤ _; exact Nat.le_of_eq rfl) (hb hby at_49) (fun _ _ => ⟨rfl, K65, (by decide : 0 + 0 ≤ _), (by decide : 0 + 0 ≤ _)⟩)
      dsimp only [Pt.U, Pt.locs, Pt.cells, Pt.slots] at X66 l66 y66 z66 st66 hQ66
      subst l66 y66 z66
      obtain ⟨rfl, Nq66, K66⟩ := hQ66
      have N66 := Fr.app N65 Nq66
      refine own_go (fun _ k => st66.trans k) ?_
      show OwnGo p e below _ (T66.setTop (mkF m 52 #[.val (.int p1), .val (.int p2), .val (.int (2 : Int32)), .val (.int (3 : Int32)), .val (.ref aCLOSED), .val .null, .val (.int (0 : Int32))] [(.int (0 : Int32))]))
      refine own_go (fun _ k => XS.iload X66.here hx rfl (hb hby at_52) rfl k) ?_
      show OwnGo p e below _ (T66.setTop (mkF m 54 #[.val (.int p1), .val (.int p2), .val (.int (2 : Int32)), .val (.int (3 : Int32)), .val (.ref aCLOSED), .val .null, .val (.int (0 : Int32))] [(.int (0 : Int32)), (.int (0 : Int32))]))
      refine own_go (fun _ k => XS.icmpNo X66.here hx rfl (hb hby at_54) rfl (by decide) k) ?_
      show OwnGo p e below _ (T66.setTop (mkF m 57 #[.val (.int p1), .val (.int p2), .val (.int (2 : Int32)), .val (.int (3 : Int32)), .val (.ref aCLOSED), .val .null, .val (.int (0 : Int32))] []))
      refine own_go (fun _ k => XS.iconst X66.here hx rfl (hb hby at_57) k) ?_
      show OwnGo p e below _ (T66.setTop (mkF m 58 #[.val (.int p1), .val (.int p2), .val (.int (2 : Int32)), .val (.int (3 : Int32)), .val (.ref aCLOSED), .val .null, .val (.int (0 : Int32))] [(.int (1 : Int32))]))
      refine own_go (fun _ k => XS.goto X66.here hx rfl (pc0 := 58) (pc' := 62) rfl (hb hby at_58) (by decide) (by decide) k) ?_
      show OwnGo p e below _ (T66.setTop (mkF m 62 #[.val (.int p1), .val (.int p2), .val (.int (2 : Int32)), .val (.int (3 : Int32)), .val (.ref aCLOSED), .val .null, .val (.int (0 : Int32))] [(.int (1 : Int32))]))
      obtain ⟨fs, hr, hrun, hended, hW, hsame⟩ := X66.leave (v := some (.int (1 : Int32))) (fun h => by rw [Bd.returns] at h; cases h)
      refine ⟨_, _, retOut X66 hx Bd.returns rfl (Or.inl ⟨rfl, Or.inr (Or.inl rfl), _, rfl⟩) (hb hby at_62) hr, hrun, hended, _, _, rfl, ?_, ⟨_, rfl⟩, hW, hsame.mono (by decide) (by decide)⟩
      show Q_law Z aFUTURE aACTIVE aCLOSED p1 p2 h0 n0 _ T66.heap _
      rw [K66]
      exact ⟨rfl, N66⟩
set_option maxRecDepth 65536 in
set_option maxHeartbeats 40000000 in
theorem comes_1 {Post : Tables → Env → Array Value → State → Outcome → State → Prop} (hpost : ∀ tb e args s v u, (limb_1_1.after args s (.returned v) u = true ∧ limb_1_2.after args s (.returned v) u = true ∧ True) → FrameEnd s (.returned v) u (Jvm.fieldLocs frame_1_writes args s ++ Jvm.arrayLocs frame_1_arrays args s ++ Jvm.staticLocs frame_1_statics s) 0 0 → Post tb e args s (.returned v) u) :
    ArmFor flags0 classFile x code maxLocals ret World_1 tables_1 room_1 Calls_1 rest_1 Pre_1 Post := by
  intro l hfl _ _ p e ha hc hk s m args below hf hA hF happ hP
  obtain ⟨hcalls, hrest, hpre⟩ := hP
  obtain ⟨-, -, -, hnamed, -, -, -, hat⟩ := (Spec.applies_iff hf).mp happ
  obtain ⟨hg, hn0⟩ := and_e (Cond.before_iff.mp (show (Jvm.Cond.and given_1 narrow_1).before args s = true from hpre))
  obtain ⟨h1, g0⟩ := and_e hg
  obtain ⟨t0, g1⟩ := and_e g0
  obtain ⟨w0, w1, rfl⟩ : ∃ w0 w1 : Value, args = #[w0, w1] := by
    have hs : args.size = 2 := by simpa [Cond.value, given_1] using h1
    obtain ⟨L⟩ := args
    match L, hs with
    | [w0, w1], _ => exact ⟨w0, w1, rfl⟩
  have hw := fun d (hd : d ∈ tables_1) => atoms_spec (ws := Jvm.Cond.code x code maxLocals ret :: tables_1) hat d (List.mem_cons_of_mem _ hd)
  have hfit : Fit s := fun {y c} hc i hi => by
    obtain ⟨ha, rfl⟩ := Array.getElem?_eq_some_iff.mp hc
    have q := List.all_eq_true.mp ((Array.all_eq_true_iff_forall_mem.mp hF) _ (Array.getElem_mem ha)) i (List.mem_range.mpr hi)
    simpa [Array.getElem?_eq_getElem hi] using q
  obtain ⟨i0, ev0⟩ := is_v t0
  obtain rfl : w0 = (.int i0) := Option.some.inj ev0
  obtain ⟨i1, ev1⟩ := is_v g1
  obtain rfl : w1 = (.int i1) := Option.some.inj ev1
  obtain ⟨c0, hn1⟩ := and_e hn0
  obtain ⟨aFUTURE, ev_aFUTURE⟩ := exa_v c0
  obtain ⟨c1, hn2⟩ := and_e hn1
  obtain ⟨c2, hn3⟩ := and_e hn2
  obtain ⟨aACTIVE, ev_aACTIVE⟩ := exa_v c2
  obtain ⟨c3, hn4⟩ := and_e hn3
  obtain ⟨aCLOSED, ev_aCLOSED⟩ := exa_v c3
  obtain ⟨c4, hn5⟩ := and_e hn4
  have F0 : OwnFacts s aFUTURE aACTIVE aCLOSED := ⟨(Sta.start ev_aFUTURE (Or.inr ⟨(hw _ (List.mem_of_getElem? (i := 6) rfl)), (hw _ (List.mem_of_getElem? (i := 7) rfl))⟩)), (Exa.start ev_aFUTURE c0), (own_fldI ev_aFUTURE c1), (Sta.start ev_aACTIVE (Or.inr ⟨(hw _ (List.mem_of_getElem? (i := 6) rfl)), (hw _ (List.mem_of_getElem? (i := 23) rfl))⟩)), (Exa.start ev_aACTIVE c2), (Sta.start ev_aCLOSED (Or.inr ⟨(hw _ (List.mem_of_getElem? (i := 6) rfl)), (hw _ (List.mem_of_getElem? (i := 25) rfl))⟩)), (Exa.start ev_aCLOSED c3), (own_fldI ev_aCLOSED c4), (own_fldI ev_aACTIVE hn5)⟩
  obtain ⟨n, o, h1, h2, h3, _, L, rfl, ⟨rfl, N⟩, hq⟩ := rm_law l s _ hw tables_1 aFUTURE aACTIVE aCLOSED F0 i0 i1 s.heap s.heap.size (Old.start s) p e ha hc hk s m _ below hf ((Spec.applies_iff_loose hf).mp happ).1 ⟨rfl, State.Warmed39.refl s, rfl⟩ trivial
  refine ⟨n, _, h1, h2, h3, hpost _ _ _ _ _ _ ⟨Cond.after_iff.mpr rfl, Cond.after_iff.mpr (eq_i res_at (Term.int_eval (1)) rfl), trivial⟩ ⟨hq.1, hq.2.1, (hq.2.2.sift fun y hy => Or.inr (N y hy)).mono (by decide) (by decide)⟩⟩
theorem main_1_1 : Claimed_1_1 := comes_1 fun _ _ _ _ _ _ h hF => ⟨h.1, hF⟩
theorem main_1_2 : Claimed_1_2 := comes_1 fun _ _ _ _ _ _ h hF => ⟨h.2.1, hF⟩
end Jvm.Pilot.@@N@@
namespace Jvm.Pilot.@@N@@
open Jvm Jvm.ClassFile Sem Op Lib Jvm.Free Jvm.Stand Jvm.Pilot.@@N@@.Jvm.D
/-! MADE BY PROGRAM (witnessworld.py) out of the Statement's table words and the real class files: 12 classes; the members and pool entries that the words name. The judged class is class 1, her method 2. -/
namespace start1
open Jvm.ClassFile
def u (s : String) : CpInfo := .utf8 (stringToUtf16 s)
/-- a pool by its gaps: so many unusable entries, then the entry; so many at the end -/
def gap : Nat → List CpInfo → List CpInfo
  | 0, r => r
  | n + 1, r => .unusable :: gap n r
def poolList (es : List (Nat × CpInfo)) (last : Nat) : List CpInfo := es.foldr (fun e r => gap e.1 (e.2 :: r)) (gap last [])
def pool (es : List (Nat × CpInfo)) (last : Nat) : Array CpInfo := ⟨poolList es last⟩
def fileOf (pool : Array CpInfo) (this : Nat) (attrs : Array Attribute := #[]) (ms : Array MethodInfo := #[]) (fl : Nat := 33) (sup : Nat := 0) (ifs : Array Nat := #[]) (fds : Array FieldInfo := #[]) : ClassFile where
  minorVersion := 0
  majorVersion := 65
  constantPool := pool
  accessFlags := fl
  thisClass := this
  superClass := sup
  interfaces := ifs
  fields := fds
  methods := ms
  attributes := attrs
def plain (name : String) (sup : Option ClassId) : Class where
  name := name
  kind := .ordinary
  loader := none
  accessFlags := 33
  super := sup
  interfaces := #[]
  cf := none
  fields := #[]
  methods := #[]
  instanceTypes := #[]
  staticTypes := #[]
  resolved := #[]
  callSites := []
  init := .initialized
  statics := none
  mirror := none

def pool0 : Array CpInfo := pool [(5, u "<init>"), (0, u "()V"), (1, .class_ 10), (1, u "java/lang/Object")] 113

def k0m0 : Method := { name := "<init>", desc := "()V", sig := { parameters := [], returnType := none }, accessFlags := 1, code := none }
/-- java/lang/Object -/
def k0 : Class := { plain "java/lang/Object" none with
  accessFlags := 33
  interfaces := #[]
  cf := some (fileOf pool0 8 #[] #[{ accessFlags := 1, nameIndex := 5, descriptorIndex := 6, attributes := #[] }] 33 0 #[] #[])
  fields := #[]
  methods := #[k0m0]
  instanceTypes := #[]
  staticTypes := #[]
  resolved := Array.replicate 124 none
  statics := none }

def pool1 : Array CpInfo := pool [(2, .class_ 4), (1, u "java/lang/Object"), (0, u "<init>"), (0, u "()V"), (0, .fieldref 8 9), (0, .class_ 10), (0, .nameAndType 11 12), (0, u "com/example/cadenza/cadenza/core/SprintState"), (0, u "FUTURE"), (0, u "Lcom/example/cadenza/cadenza/core/SprintState;"), (0, .fieldref 8 14), (0, .nameAndType 15 12), (0, u "ACTIVE"), (0, .fieldref 8 17), (0, .nameAndType 18 12), (0, u "CLOSED"), (0, .integer 2147483647), (0, .methodref 21 22), (0, .class_ 23), (0, .nameAndType 24 25), (0, u "com/example/cadenza/cadenza/core/SprintStateLeadsToPinLaw"), (0, u "state"), (0, u "(I)Lcom/example/cadenza/cadenza/core/SprintState;"), (0, .methodref 8 27), (0, .nameAndType 28 29), (0, u "leadsTo"), (0, u "(Lcom/example/cadenza/cadenza/core/SprintState;)Z"), (3, u "law"), (0, u "(II)Z")] 2

def k1m0 : Method := { name := "<init>", desc := "()V", sig := { parameters := [], returnType := none }, accessFlags := 2, code := none }
def k1c1 : Code := { maxStack := 2, maxLocals := 1, code := method_2_code, exceptionTable := #[], attributes := #[] }
def k1m1 : Method := { name := "state", desc := "(I)Lcom/example/cadenza/cadenza/core/SprintState;", sig := { parameters := [.int], returnType := some (.object "com/example/cadenza/cadenza/core/SprintState") }, accessFlags := 10, code := some k1c1 }
def k1c2 : Code := { maxStack := 3, maxLocals := 7, code := code, exceptionTable := #[], attributes := #[] }
def k1m2 : Method := { name := "law", desc := "(II)Z", sig := { parameters := [.int, .int], returnType := some .boolean }, accessFlags := 9, code := some k1c2 }
/-- com/example/cadenza/cadenza/core/SprintStateLeadsToPinLaw -/
def k1 : Class := { plain "com/example/cadenza/cadenza/core/SprintStateLeadsToPinLaw" (some 0) with
  accessFlags := 49
  interfaces := #[]
  cf := some (fileOf pool1 21 #[] #[{ accessFlags := 2, nameIndex := 5, descriptorIndex := 6, attributes := #[] }, { accessFlags := 10, nameIndex := 24, descriptorIndex := 25, attributes := #[] }, { accessFlags := 9, nameIndex := 33, descriptorIndex := 34, attributes := #[] }] 49 2 #[] #[])
  fields := #[]
  methods := #[k1m0, k1m1, k1m2]
  instanceTypes := #[]
  staticTypes := #[]
  resolved := Array.replicate 37 none
  statics := none }

def pool2 : Array CpInfo := pool [(1, .class_ 2), (0, u "java/lang/constant/Constable"), (0, .class_ 4), (0, u "java/lang/Object")] 6

/-- java/lang/constant/Constable -/
def k2 : Class := { plain "java/lang/constant/Constable" (some 0) with
  accessFlags := 1537
  interfaces := #[]
  cf := some (fileOf pool2 1 #[] #[] 1537 3 #[] #[])
  fields := #[]
  methods := #[]
  instanceTypes := #[]
  staticTypes := #[]
  resolved := Array.replicate 11 none
  statics := none }

def pool3 : Array CpInfo := pool [(1, .class_ 2), (0, u "java/lang/Comparable"), (0, .class_ 4), (0, u "java/lang/Object")] 7

/-- java/lang/Comparable -/
def k3 : Class := { plain "java/lang/Comparable" (some 0) with
  accessFlags := 1537
  interfaces := #[]
  cf := some (fileOf pool3 1 #[] #[] 1537 3 #[] #[])
  fields := #[]
  methods := #[]
  instanceTypes := #[]
  staticTypes := #[]
  resolved := Array.replicate 12 none
  statics := none }

def pool4 : Array CpInfo := pool [(1, .class_ 2), (0, u "java/io/Serializable"), (0, .class_ 4), (0, u "java/lang/Object")] 2

/-- java/io/Serializable -/
def k4 : Class := { plain "java/io/Serializable" (some 0) with
  accessFlags := 1537
  interfaces := #[]
  cf := some (fileOf pool4 1 #[] #[] 1537 3 #[] #[])
  fields := #[]
  methods := #[]
  instanceTypes := #[]
  staticTypes := #[]
  resolved := Array.replicate 7 none
  statics := none }

def pool5 : Array CpInfo := pool [(2, .class_ 4), (1, u "java/lang/Enum"), (0, u "name"), (0, u "Ljava/lang/String;"), (0, .fieldref 2 8), (0, .nameAndType 9 10), (0, u "ordinal"), (0, u "I"), (1, .class_ 14), (1, u "java/lang/Object"), (4, u "hash"), (86, .class_ 108), (1, u "java/lang/Enum$EnumDesc"), (2, .class_ 112), (0, u "java/lang/constant/Constable"), (0, .class_ 114), (0, u "java/lang/Comparable"), (0, .class_ 116), (0, u "java/io/Serializable"), (9, u "()I")] 77

def k5c0 : Code := { maxStack := 1, maxLocals := 1, code := jdk_37_method_2_code, exceptionTable := #[], attributes := #[] }
def k5m0 : Method := { name := "ordinal", desc := "()I", sig := { parameters := [], returnType := some .int }, accessFlags := 17, code := some k5c0 }
/-- java/lang/Enum -/
def k5 : Class := { plain "java/lang/Enum" (some 0) with
  accessFlags := 1057
  interfaces := #[2, 3, 4]
  cf := some (fileOf pool5 2 #[.nestMembers #[106]] #[{ accessFlags := 17, nameIndex := 9, descriptorIndex := 126, attributes := #[] }] 1057 12 #[111, 113, 115] #[{ accessFlags := 18, nameIndex := 5, descriptorIndex := 6, attributes := #[] }, { accessFlags := 18, nameIndex := 9, descriptorIndex := 10, attributes := #[] }, { accessFlags := 2, nameIndex := 19, descriptorIndex := 10, attributes := #[] }])
  fields := #[{ name := "name", type := (.object "java/lang/String"), accessFlags := 18, slot := 0, constantValue := 0 }, { name := "ordinal", type := .int, accessFlags := 18, slot := 1, constantValue := 0 }, { name := "hash", type := .int, accessFlags := 2, slot := 2, constantValue := 0 }]
  methods := #[k5m0]
  instanceTypes := #[(.object "java/lang/String"), .int, .int]
  staticTypes := #[]
  resolved := Array.replicate 204 none
  statics := none }

def pool6 : Array CpInfo := pool [(1, .class_ 2), (0, u "com/example/cadenza/cadenza/core/SprintState"), (2, u "FUTURE"), (0, u "Lcom/example/cadenza/cadenza/core/SprintState;"), (0, .fieldref 1 8), (0, .nameAndType 9 6), (0, u "ACTIVE"), (0, .fieldref 1 11), (0, .nameAndType 12 6), (0, u "CLOSED"), (2, u "$VALUES"), (0, u "[Lcom/example/cadenza/cadenza/core/SprintState;"), (6, .class_ 25), (1, u "java/lang/Enum"), (14, .methodref 1 41), (0, .nameAndType 42 43), (0, u "ordinal"), (0, u "()I"), (24, u "leadsTo"), (0, u "(Lcom/example/cadenza/cadenza/core/SprintState;)Z")] 7

def k6c0 : Code := { maxStack := 4, maxLocals := 2, code := prog_40_method_5_code, exceptionTable := #[], attributes := #[] }
def k6m0 : Method := { name := "leadsTo", desc := "(Lcom/example/cadenza/cadenza/core/SprintState;)Z", sig := { parameters := [(.object "com/example/cadenza/cadenza/core/SprintState")], returnType := some .boolean }, accessFlags := 1, code := some k6c0 }
/-- com/example/cadenza/cadenza/core/SprintState -/
def k6 : Class := { plain "com/example/cadenza/cadenza/core/SprintState" (some 5) with
  accessFlags := 16433
  interfaces := #[]
  cf := some (fileOf pool6 1 #[] #[{ accessFlags := 1, nameIndex := 68, descriptorIndex := 69, attributes := #[] }] 16433 23 #[] #[{ accessFlags := 16409, nameIndex := 5, descriptorIndex := 6, attributes := #[] }, { accessFlags := 16409, nameIndex := 9, descriptorIndex := 6, attributes := #[] }, { accessFlags := 16409, nameIndex := 12, descriptorIndex := 6, attributes := #[] }, { accessFlags := 4122, nameIndex := 15, descriptorIndex := 16, attributes := #[] }])
  fields := #[{ name := "FUTURE", type := (.object "com/example/cadenza/cadenza/core/SprintState"), accessFlags := 16409, slot := 0, constantValue := 0 }, { name := "ACTIVE", type := (.object "com/example/cadenza/cadenza/core/SprintState"), accessFlags := 16409, slot := 1, constantValue := 0 }, { name := "CLOSED", type := (.object "com/example/cadenza/cadenza/core/SprintState"), accessFlags := 16409, slot := 2, constantValue := 0 }, { name := "$VALUES", type := (.array (.object "com/example/cadenza/cadenza/core/SprintState")), accessFlags := 4122, slot := 3, constantValue := 0 }]
  methods := #[k6m0]
  instanceTypes := #[(.object "java/lang/String"), .int, .int]
  staticTypes := #[(.object "com/example/cadenza/cadenza/core/SprintState"), (.object "com/example/cadenza/cadenza/core/SprintState"), (.object "com/example/cadenza/cadenza/core/SprintState"), (.array (.object "com/example/cadenza/cadenza/core/SprintState"))]
  resolved := Array.replicate 77 none
  statics := some 0 }

def pool7 : Array CpInfo := pool [(1, u "java/lang/Cloneable"), (0, .class_ 1), (0, u "java/lang/Object"), (0, .class_ 3)] 3

/-- java/lang/Cloneable -/
def k7 : Class := { plain "java/lang/Cloneable" (some 0) with
  accessFlags := 1537
  interfaces := #[]
  cf := some (fileOf pool7 2 #[] #[] 1537 4 #[] #[])
  fields := #[]
  methods := #[]
  instanceTypes := #[]
  staticTypes := #[]
  resolved := Array.replicate 8 none
  statics := none }

/-- the primitive byte -/
def k8 : Class := { plain "byte" none with kind := .primitive 'B', accessFlags := 0x411 }
/-- [B -/
def k9 : Class := { plain "[B" (some 0) with kind := .array 8 .byte, interfaces := #[7, 4], accessFlags := 1041 }

/-- the primitive int -/
def k10 : Class := { plain "int" none with kind := .primitive 'I', accessFlags := 0x411 }
/-- [I -/
def k11 : Class := { plain "[I" (some 0) with kind := .array 10 .int, interfaces := #[7, 4], accessFlags := 1041 }

def heap : Heap := #[{ cls := 6, slots := #[.ref 1, .ref 2, .ref 3, .null], vm := .statics 6 },
  { cls := 6, slots := #[.null, .int 0, .int 0], vm := .none },
  { cls := 6, slots := #[.null, .int 1, .int 0], vm := .none },
  { cls := 6, slots := #[.null, .int 2, .int 0], vm := .none }]
def classes : Array Class := #[k0, k1, k2, k3, k4, k5, k6, k7, k8, k9, k10, k11]
def interned : List (Array UInt16 × Addr) := []
def slotsUsed : Nat := 13
def theMethod : MethodId := ⟨1, 2⟩
def args0 : Array Value := #[.int 5, .int 7]
def aboutOver (below : List Frame) : State where
  vm := { classes := classes, interned := interned.toArray }
  heap := heap
  slotsUsed := slotsUsed
  threads := #[{ frames := .invoking theMethod args0 :: below }]
def below0 : List Frame := [.native { method := ⟨0, 0⟩, args := #[] }]
def about1 : State := aboutOver below0
def p0 : Program := .bare "" "" ""
def e0 : Env := launch0.env 0 0 0
theorem w_frames : about1.frames = Frame.invoking theMethod args0 :: below0 := rfl
set_option maxRecDepth 65536 in
theorem w_args : argsFit about1.vm theMethod args0 = true := by decide +kernel
set_option maxRecDepth 65536 in
theorem w_heap : heapFits about1 = true := by decide +kernel
set_option maxRecDepth 65536 in
theorem w_runnable : about1.curStatus? = some .runnable := by decide +kernel
set_option maxRecDepth 65536 in
theorem w_alone : about1.alone = true := by decide +kernel
set_option maxRecDepth 65536 in
theorem w_named : about1.methodNamed? x = some theMethod := by decide +kernel
set_option maxRecDepth 65536 in
theorem w_hears : about1.hears theMethod below0 = true := by decide +kernel
set_option maxRecDepth 65536 in
theorem w_ripe : about1.ripe theMethod args0 below0 = true := by decide +kernel
theorem w_running : about1.status = .running := rfl
set_option maxRecDepth 65536 in
theorem w_room : about1.hasRoom e0.platform room_1 = true :=
  launch0.hasRoom_least _ room_1 (by decide +kernel) (by decide +kernel) (by decide +kernel) (by decide +kernel) (by decide +kernel) (by decide +kernel)
theorem allAtoms_all (ts : List Jvm.Cond) (a : Array Jvm.Value) (st : Jvm.State) : (allAtoms ts).before a st = ts.all (fun c => c.before a st) := by
  induction ts with
  | nil => rfl
  | cons c t ih =>
    show (Jvm.Cond.and c (allAtoms t)).before a st = _
    rw [Jvm.Cond.before_and, ih, List.all_cons]
def words1 : List Jvm.Cond := Jvm.Cond.code x code maxLocals ret :: tables_1
/-- a 'code' word, met by the world's own term for the bytes: nothing is compared byte by byte -/
theorem code_word {y : MethodName} {bytes : ByteArray} {mx : Nat} {rt : Option FieldType} {a : Array Value} {s : State} {m : MethodId} {meth : Method} {c : Code} (h1 : s.methodNamed? y = some m) (h2 : s.vm.method? m = some meth) (h3 : meth.code = some c) (h4 : c.code = bytes)
    (h5 : (c.maxLocals == mx && c.exceptionTable.isEmpty && decide (c.maxStack ≤ mostOperands) && decide (meth.sig.returnType = rt) && !meth.locks && decide (parseMethodDescriptor y.desc = some meth.sig)) = true) : (Jvm.Cond.code y bytes mx rt).before a s = true := by
  simp only [Bool.and_eq_true, beq_iff_eq, Bool.not_eq_true', decide_eq_true_eq] at h5
  obtain ⟨⟨⟨⟨⟨g1, g2⟩, g3⟩, g4⟩, g5⟩, g6⟩ := h5
  simp [Cond.before, Cond.holds, Cond.value, h1, h2, h3, h4, g1, g2, g3, g4, g5, g6]
def isCode : Jvm.Cond → Bool
  | .code _ _ _ _ => true
  | _ => false
theorem all_split {L : List Jvm.Cond} {P : Jvm.Cond → Bool} (h1 : L.all (fun c => isCode c || P c) = true) (h2 : ∀ c ∈ L.filter isCode, P c = true) : L.all P = true := by
  refine List.all_eq_true.mpr fun c hc => ?_
  have h := List.all_eq_true.mp h1 c hc
  rcases Bool.eq_false_or_eq_true (isCode c) with hi | hi
  · exact h2 c (List.mem_filter.mpr ⟨hc, hi⟩)
  · simpa [hi] using h
set_option maxRecDepth 65536 in
theorem w_c0 : (Jvm.Cond.code x code maxLocals ret).before args0 about1 = true := code_word (m := ⟨1, 2⟩) (meth := k1m2) (c := k1c2) (by decide +kernel) rfl rfl rfl (by decide +kernel)
set_option maxRecDepth 65536 in
theorem w_c1 : (Jvm.Cond.code ({ cls := "com/example/cadenza/cadenza/core/SprintStateLeadsToPinLaw", name := "state", desc := "(I)Lcom/example/cadenza/cadenza/core/SprintState;" } : Jvm.MethodName) method_2_code (1 : Nat) (Option.some (Jvm.ClassFile.FieldType.object "com/example/cadenza/cadenza/core/SprintState"))).before args0 about1 = true := code_word (m := ⟨1, 1⟩) (meth := k1m1) (c := k1c1) (by decide +kernel) rfl rfl rfl (by decide +kernel)
set_option maxRecDepth 65536 in
theorem w_c2 : (Jvm.Cond.code ({ cls := "com/example/cadenza/cadenza/core/SprintState", name := "leadsTo", desc := "(Lcom/example/cadenza/cadenza/core/SprintState;)Z" } : Jvm.MethodName) prog_40_method_5_code (2 : Nat) (Option.some Jvm.ClassFile.FieldType.boolean)).before args0 about1 = true := code_word (m := ⟨6, 0⟩) (meth := k6m0) (c := k6c0) (by decide +kernel) rfl rfl rfl (by decide +kernel)
set_option maxRecDepth 65536 in
theorem w_c3 : (Jvm.Cond.code ({ cls := "java/lang/Enum", name := "ordinal", desc := "()I" } : Jvm.MethodName) jdk_37_method_2_code (1 : Nat) (Option.some Jvm.ClassFile.FieldType.int)).before args0 about1 = true := code_word (m := ⟨5, 0⟩) (meth := k5m0) (c := k5c0) (by decide +kernel) rfl rfl rfl (by decide +kernel)
def codes1 : List Jvm.Cond := [Jvm.Cond.code x code maxLocals ret, Jvm.Cond.code ({ cls := "com/example/cadenza/cadenza/core/SprintStateLeadsToPinLaw", name := "state", desc := "(I)Lcom/example/cadenza/cadenza/core/SprintState;" } : Jvm.MethodName) method_2_code (1 : Nat) (Option.some (Jvm.ClassFile.FieldType.object "com/example/cadenza/cadenza/core/SprintState")), Jvm.Cond.code ({ cls := "com/example/cadenza/cadenza/core/SprintState", name := "leadsTo", desc := "(Lcom/example/cadenza/cadenza/core/SprintState;)Z" } : Jvm.MethodName) prog_40_method_5_code (2 : Nat) (Option.some Jvm.ClassFile.FieldType.boolean), Jvm.Cond.code ({ cls := "java/lang/Enum", name := "ordinal", desc := "()I" } : Jvm.MethodName) jdk_37_method_2_code (1 : Nat) (Option.some Jvm.ClassFile.FieldType.int)]
set_option maxRecDepth 65536 in
theorem codes_eq : words1.filter isCode = codes1 := rfl
theorem w_codes : ∀ c ∈ words1.filter isCode, c.before args0 about1 = true := by
  rw [codes_eq]
  intro c hc
  simp only [codes1, List.mem_cons, List.not_mem_nil, or_false] at hc
  rcases hc with rfl | rfl | rfl | rfl
  · exact w_c0
  · exact w_c1
  · exact w_c2
  · exact w_c3
set_option maxRecDepth 65536 in
theorem w_t1 : (words1.take 24).all (fun c => isCode c || c.before args0 about1) = true := by decide +kernel
set_option maxRecDepth 65536 in
theorem w_t2 : (words1.drop 24).all (fun c => isCode c || c.before args0 about1) = true := by decide +kernel
theorem w_tables : (allAtoms (Jvm.Cond.code x code maxLocals ret :: tables_1)).before args0 about1 = true := by
  rw [allAtoms_all]
  show words1.all (fun c => c.before args0 about1) = true
  refine all_split ?_ w_codes
  rw [← List.take_append_drop 24 words1, List.all_append, w_t1, w_t2]
  rfl
set_option maxRecDepth 65536 in
theorem w_case : (Jvm.Cond.and given_1 narrow_1).before args0 about1 = true := by decide +kernel
theorem w_applies : (headSpec (Jvm.Cond.code x code maxLocals ret :: tables_1) room_1).applies x e0.platform about1 = true :=
  (Spec.applies_iff w_frames).mpr ⟨w_running, w_runnable, w_alone, w_named, w_hears, w_ripe, w_room, w_tables⟩
theorem atStart : AtStart classFile x code maxLocals ret World_1 tables_1 room_1 Calls_1 rest_1 Pre_1 launch0 p0 e0 about1 theMethod args0 below0 :=
  ⟨lists_1, trivial, launch0.admits_env _ _ _, launch0.least_env, fairChoices_fair.cas, fairChoices_fair.clock, w_frames, w_args, w_heap, w_applies, trivial, trivial, w_case⟩
end start1
theorem witness_1 : WitnessClaimed_1 := ⟨start1.p0, start1.e0, start1.about1, start1.theMethod, start1.args0, start1.below0, start1.atStart⟩
end Jvm.Pilot.@@N@@

import JvmDerived
import JvmDerived.Pilot.@@N@@Statement
import JvmDerived.Pilot.@@N@@Code
set_option linter.unusedVariables false
set_option linter.unusedSimpArgs false
namespace Jvm.Pilot.@@N@@
open Jvm Jvm.ClassFile Sem Op Lib Jvm.Free Jvm.Stand Jvm.LawKit Jvm.RoadKit Bundle Jvm.Pilot.@@N@@.Jvm.D
/-- from the state A the body's walk comes to an end of which Q tells -/
def OwnGo (p : Program) (e : Env) (below : List Frame) (Q : Outcome → State → Prop) (A : State) : Prop :=
  ∃ s₂ o, Steps p.tables e below A s₂ ∧ s₂.status = .running ∧ Ended s₂ below o ∧ Q o s₂
theorem own_go {p : Program} {e : Env} {below : List Frame} {Q : Outcome → State → Prop} {A B : State} (st : ∀ t, Steps p.tables e below B t → Steps p.tables e below A t) (h : OwnGo p e below Q B) : OwnGo p e below Q A := by
  obtain ⟨s₂, o, h1, h2⟩ := h
  exact ⟨s₂, o, st _ h1, h2⟩
theorem own_fldI {args : Array Value} {s : State} {t : Term} {C n d : String} {k : Int32} {a : Addr} (ev : t.eval args s none [] s = some (.ref a)) (h : (Jvm.Cond.eq (Term.field t C n d) (Term.int k)).value args s none s [] = some true) : Fld s s.heap a C n d (.int k) := by
  apply Fld.start
  have q := fld_at (C := C) (n := n) (dd := d) ev
  cases hf : s.fieldOf? a C n d with
  | none => rw [hf] at q; simp [Cond.value, q] at h
  | some v => rw [hf] at q; cases v <;> simp [Cond.value, q, Term.int_eval] at h; rw [h]
theorem own_fldL {args : Array Value} {s : State} {t : Term} {C n d : String} {k : Int64} {a : Addr} (ev : t.eval args s none [] s = some (.ref a)) (h : (Jvm.Cond.eq (Term.field t C n d) (Term.long k)).value args s none s [] = some true) : Fld s s.heap a C n d (.long k) := by
  apply Fld.start
  have q := fld_at (C := C) (n := n) (dd := d) ev
  cases hf : s.fieldOf? a C n d with
  | none => rw [hf] at q; simp [Cond.value, q] at h
  | some v => rw [hf] at q; cases v <;> simp [Cond.value, q, long_at] at h; rw [h]
theorem own_refne {a b : Addr} (h : a ≠ b) : decide (Value.ref a = Value.ref b) = false := decide_eq_false fun q => h (Value.ref.inj q)
theorem own_refeq (a : Addr) : decide (Value.ref a = Value.ref a) = true := decide_eq_true rfl
theorem own_rn (a : Addr) : decide (Value.ref a = Value.null) = false := decide_eq_false fun q => by cases q
theorem own_nr (a : Addr) : decide (Value.null = Value.ref a) = false := decide_eq_false fun q => by cases q
theorem own_narb (x : Int32) : nar .byte (x.toInt8.toInt32) = x.toInt8.toInt32 := by simp [nar]
theorem own_selp {Z s : State} {a0 args : Array Value} {y : MethodName} {n : Nat} (hZ : Z.Warmed39 s.vm) (wi : (Jvm.Cond.instantiable y.cls n).before a0 Z = true) (wp : (Jvm.Cond.privateMethod y).before a0 Z = true) (wm : (Jvm.Cond.instanceMethod y).before a0 Z = true)
    (hy : y.cls ≠ "java/lang/invoke/MethodHandle" ∧ y.cls ≠ "java/lang/invoke/VarHandle") : (Jvm.Cond.selects y.cls y y).before args s = true := by
  obtain ⟨c, k, h1, h2, -, h4, -⟩ := Cond.instantiable_spec (mv hZ wi : (Jvm.Cond.instantiable y.cls n).before args s = true)
  exact selects_self_of_private h1 h2 (by revert h4; cases k.isInterface <;> simp) (Cond.privateMethod_at (mvP hZ wp (args := args))) (mv hZ wm) hy
theorem own_monoW {s : State} {o : Outcome} {t : State} {L : List Loc} {k n k' n' : Nat} (h : ReturnedEndW s o t L k n) (hk : k ≤ k') (hn : n ≤ n') : ReturnedEndW s o t L k' n' := ⟨h.1, h.2.1, h.2.2.1, h.2.2.2.mono hk hn⟩
theorem own_newlt {a b k : Nat} (q : a < k) (g : k ≤ b) : a ≠ b := Nat.ne_of_lt (Nat.lt_of_lt_of_le q g)
theorem own_sz {Z : State} {n0 : Nat} {h : Heap} (O : Old Z n0 h) : n0 ≤ h.size := O.1 ▸ O.2.1
theorem own_newne {a b : Addr} {h : Heap} (g : b = h.size) (q : a < h.size) : a ≠ b := fun z => by rw [z, g] at q; exact Nat.lt_irrefl _ q
def OwnFacts (Z : State) (aNONE aBACKWARD aBOTH aFORWARD : Addr) : Prop := (Sta Z Z.heap "com/example/lachesis/lachesis/diff/Breaks" "NONE" "Lcom/example/lachesis/lachesis/diff/Breaks;" (.ref aNONE)) ∧ (Exa Z Z.heap aNONE "com/example/lachesis/lachesis/diff/Breaks") ∧ (Sta Z Z.heap "com/example/lachesis/lachesis/diff/Breaks" "BACKWARD" "Lcom/example/lachesis/lachesis/diff/Breaks;" (.ref aBACKWARD)) ∧ (Exa Z Z.heap aBACKWARD "com/example/lachesis/lachesis/diff/Breaks") ∧ (Fld Z Z.heap aNONE "java/lang/Enum" "ordinal" "I" (.int (0 : Int32))) ∧ (Fld Z Z.heap aBACKWARD "java/lang/Enum" "ordinal" "I" (.int (1 : Int32))) ∧ (Sta Z Z.heap "com/example/lachesis/lachesis/diff/Breaks" "BOTH" "Lcom/example/lachesis/lachesis/diff/Breaks;" (.ref aBOTH)) ∧ (Exa Z Z.heap aBOTH "com/example/lachesis/lachesis/diff/Breaks") ∧ (Fld Z Z.heap aBOTH "java/lang/Enum" "ordinal" "I" (.int (3 : Int32))) ∧ (Sta Z Z.heap "com/example/lachesis/lachesis/diff/Breaks" "FORWARD" "Lcom/example/lachesis/lachesis/diff/Breaks;" (.ref aFORWARD)) ∧ (Exa Z Z.heap aFORWARD "com/example/lachesis/lachesis/diff/Breaks") ∧ (Fld Z Z.heap aFORWARD "java/lang/Enum" "ordinal" "I" (.int (2 : Int32)))
theorem d_prog_17_method_4_0 : decode prog_17_method_4_code 0 = .ok (.iload_n 0, 1) := by decide +kernel
theorem d_prog_17_method_4_1 : decode prog_17_method_4_code 1 = .ok (.ifCond .eq 17, 3) := by decide +kernel
theorem d_prog_17_method_4_18 : decode prog_17_method_4_code 18 = .ok (.iload_n 1, 1) := by decide +kernel
theorem d_prog_17_method_4_19 : decode prog_17_method_4_code 19 = .ok (.ifCond .eq 9, 3) := by decide +kernel
theorem d_prog_17_method_4_28 : decode prog_17_method_4_code 28 = .ok (.getstatic 3, 3) := by decide +kernel
theorem d_prog_17_method_4_31 : decode prog_17_method_4_code 31 = .ok (.areturn, 1) := by decide +kernel
theorem d_prog_17_method_4_22 : decode prog_17_method_4_code 22 = .ok (.getstatic 10, 3) := by decide +kernel
theorem d_prog_17_method_4_25 : decode prog_17_method_4_code 25 = .ok (.goto 6, 3) := by decide +kernel
theorem d_prog_17_method_4_4 : decode prog_17_method_4_code 4 = .ok (.iload_n 1, 1) := by decide +kernel
theorem d_prog_17_method_4_5 : decode prog_17_method_4_code 5 = .ok (.ifCond .eq 9, 3) := by decide +kernel
theorem d_prog_17_method_4_14 : decode prog_17_method_4_code 14 = .ok (.getstatic 7, 3) := by decide +kernel
theorem d_prog_17_method_4_17 : decode prog_17_method_4_code 17 = .ok (.areturn, 1) := by decide +kernel
theorem d_prog_17_method_4_8 : decode prog_17_method_4_code 8 = .ok (.getstatic 13, 3) := by decide +kernel
theorem d_prog_17_method_4_11 : decode prog_17_method_4_code 11 = .ok (.goto 6, 3) := by decide +kernel
theorem pn_com_example_lachesis_lachesis_diff_Breaks : plainName "com/example/lachesis/lachesis/diff/Breaks" = true := by first | (simp [plainName, overriddenIn]; done) | decide +kernel
def Q_of (Z : State) (aNONE aBACKWARD aBOTH aFORWARD : Addr) (p1 : Int32) (p2 : Int32) (r0 : Addr) (h0 : Heap) (n0 : Nat) (v : Option Value) (h : Heap) (L : List Loc) : Prop := v = some (.ref r0) ∧ Fr n0 L ∧ h = h0
theorem ef_of (m : MethodId) (x0 : Int32) (x1 : Int32) : entryFrame m #[(.int x0), (.int x1)] 2 = mkF m 0 #[.val (.int x0), .val (.int x1)] [] := by first | (simp [entryFrame, mkF, argsToLocals, Value.category]; done) | rfl
set_option maxRecDepth 65536 in
set_option maxHeartbeats 40000000 in
theorem rm_of (l : Launch) (Z : State) (a0 : Array Value) (hw : ∀ d ∈ tables_1, d.before a0 Z = true) (ws : List Jvm.Cond) (aNONE aBACKWARD aBOTH aFORWARD : Addr) (F0 : OwnFacts Z aNONE aBACKWARD aBOTH aFORWARD) (p1 : Int32) (p2 : Int32) (r0 : Addr) (h0 : Heap) (n0 : Nat) (O0 : Old Z n0 h0) (hr0 : (if p1 = (0 : Int32) then (if p2 = (0 : Int32) then aNONE else aFORWARD) else (if p2 = (0 : Int32) then aBACKWARD else aBOTH)) = r0) :
    MetFree l (⟨"com/example/lachesis/lachesis/diff/Breaks", "of", "(ZZ)Lcom/example/lachesis/lachesis/diff/Breaks;"⟩ : MethodName) (head1 (Jvm.Cond.code (⟨"com/example/lachesis/lachesis/diff/Breaks", "of", "(ZZ)Lcom/example/lachesis/lachesis/diff/Breaks;"⟩ : MethodName) prog_17_method_4_code 2 (some (.object "com/example/lachesis/lachesis/diff/Breaks")) :: ws) ({ frames := 0, cells := 0, slots := 0, locals := 0 } : Room)) (fun a U => a = #[(.int p1), (.int p2)] ∧ Z.Warmed39 U.vm ∧ U.heap = h0) (fun _ _ _ _ _ => True) (fun _ U o U' => ∃ v L, o = .returned v ∧ Q_of Z aNONE aBACKWARD aBOTH aFORWARD p1 p2 r0 h0 n0 v U'.heap L ∧ FrameEnd U o U' L ({ frames := 0, cells := 0, slots := 0, locals := 0 } : Room).cells ({ frames := 0, cells := 0, slots := 0, locals := 0 } : Room).slots) := by
  refine MetFree.of_bodySF (plainFor_of_name pn_com_example_lachesis_lachesis_diff_Breaks) hisR ?_
  intro p e s m args below meth c s₁ Bd hml0 hP hK
  obtain ⟨rfl, hZ, hh⟩ := hP
  have hx := Bd.exec
  have hby := Bd.bytes
  have hml : c.maxLocals = 2 := hml0
  have hown : s.vm.findClass "com/example/lachesis/lachesis/diff/Breaks" = some m.cls := findClass_of_methodNamed Bd.named
  have hnm := (name_of_methodNamed Bd.named Bd.method).1
  have X0 : Stand p l e ({ frames := 0, cells := 0, slots := 0, locals := 0 } : Room) s m #[(.int p1), (.int p2)] below meth c s₁ [] 0 0 := Stand.of_body Bd
  have e0 : s₁.heap = h0 := by rw [← hh, Bd.state]; rfl
  have N0 := Fr.nil n0
  refine own_go (Q := fun o U' => ∃ v L, o = .returned v ∧ Q_of Z aNONE aBACKWARD aBOTH aFORWARD p1 p2 r0 h0 n0 v U'.heap L ∧ FrameEnd s o U' L ({ frames := 0, cells := 0, slots := 0, locals := 0 } : Room).cells ({ frames := 0, cells := 0, slots := 0, locals := 0 } : Room).slots) (fun t k => castTop (ef_of m p1 p2) k) ?_
  show OwnGo p e below _ (s₁.setTop (mkF m 0 #[.val (.int p1), .val (.int p2)] []))
  refine own_go (fun _ k => XS.iloadN X0.here hx rfl (hb hby d_prog_17_method_4_0) rfl k) ?_
  show OwnGo p e below _ (s₁.setTop (mkF m 1 #[.val (.int p1), .val (.int p2)] [(.int p1)]))
  by_cases hc1 : p1 = (0 : Int32)
  · refine own_go (fun _ k => XS.ifYes X0.here hx rfl (pc0 := 1) (pc' := 18) rfl (hb hby d_prog_17_method_4_1) rfl ((if0 _ _).trans (teq hc1).1) (by decide) (by decide) k) ?_
    show OwnGo p e below _ (s₁.setTop (mkF m 18 #[.val (.int p1), .val (.int p2)] []))
    refine own_go (fun _ k => XS.iloadN X0.here hx rfl (hb hby d_prog_17_method_4_18) rfl k) ?_
    show OwnGo p e below _ (s₁.setTop (mkF m 19 #[.val (.int p1), .val (.int p2)] [(.int p2)]))
    by_cases hc2 : p2 = (0 : Int32)
    · refine own_go (fun _ k => XS.ifYes X0.here hx rfl (pc0 := 19) (pc' := 28) rfl (hb hby d_prog_17_method_4_19) rfl ((if0 _ _).trans (teq hc2).1) (by decide) (by decide) k) ?_
      show OwnGo p e below _ (s₁.setTop (mkF m 28 #[.val (.int p1), .val (.int p2)] []))
      obtain ⟨T3, X3, e3, st3⟩ := getS X0 hx hZ hown (host := "") (hw _ (List.mem_of_getElem? (i := 4) rfl)) Via.refl e0 (F0.1.ext O0.2) (g := (mkF m 28 #[.val (.int p1), .val (.int p2)] [])) rfl (hb hby d_prog_17_method_4_28)
      refine own_go st3 ?_
      show OwnGo p e below _ (T3.setTop (mkF m 31 #[.val (.int p1), .val (.int p2)] [(.ref aNONE)]))
      obtain ⟨fs, hr, hrun, hended, hW, hsame⟩ := X3.leave (v := some (.ref aNONE)) (fun h => by rw [Bd.returns] at h; cases h)
      refine ⟨_, _, retOut X3 hx Bd.returns rfl (Or.inr (Or.inr (Or.inr (Or.inr ⟨rfl, rfl, rfl⟩)))) (hb hby d_prog_17_method_4_31) hr, hrun, hended, _, _, rfl, ?_, ⟨_, rfl⟩, hW, hsame.mono (by decide) (by decide)⟩
      show Q_of Z aNONE aBACKWARD aBOTH aFORWARD p1 p2 r0 h0 n0 _ T3.heap _
      rw [e3]
      exact ⟨(by rw [← hr0]; simp [hc1, hc2]), N0, rfl⟩
    · refine own_go (fun _ k => XS.ifNo X0.here hx rfl (hb hby d_prog_17_method_4_19) rfl ((if0 _ _).trans (feq hc2).1) k) ?_
      show OwnGo p e below _ (s₁.setTop (mkF m 22 #[.val (.int p1), .val (.int p2)] []))
      obtain ⟨T4, X4, e4, st4⟩ := getS X0 hx hZ hown (host := "") (hw _ (List.mem_of_getElem? (i := 16) rfl)) Via.refl e0 (F0.2.2.2.2.2.2.2.2.2.1.ext O0.2) (g := (mkF m 22 #[.val (.int p1), .val (.int p2)] [])) rfl (hb hby d_prog_17_method_4_22)
      refine own_go st4 ?_
      show OwnGo p e below _ (T4.setTop (mkF m 25 #[.val (.int p1), .val (.int p2)] [(.ref aFORWARD)]))
      refine own_go (fun _ k => XS.goto X4.here hx rfl (pc0 := 25) (pc' := 31) rfl (hb hby d_prog_17_method_4_25) (by decide) (by decide) k) ?_
      show OwnGo p e below _ (T4.setTop (mkF m 31 #[.val (.int p1), .val (.int p2)] [(.ref aFORWARD)]))
      obtain ⟨fs, hr, hrun, hended, hW, hsame⟩ := X4.leave (v := some (.ref aFORWARD)) (fun h => by rw [Bd.returns] at h; cases h)
      refine ⟨_, _, retOut X4 hx Bd.returns rfl (Or.inr (Or.inr (Or.inr (Or.inr ⟨rfl, rfl, rfl⟩)))) (hb hby d_prog_17_method_4_31) hr, hrun, hended, _, _, rfl, ?_, ⟨_, rfl⟩, hW, hsame.mono (by decide) (by decide)⟩
      show Q_of Z aNONE aBACKWARD aBOTH aFORWARD p1 p2 r0 h0 n0 _ T4.heap _
      rw [e4]
      exact ⟨(by rw [← hr0]; simp [hc1, hc2]), N0, rfl⟩
  · refine own_go (fun _ k => XS.ifNo X0.here hx rfl (hb hby d_prog_17_method_4_1) rfl ((if0 _ _).trans (feq hc1).1) k) ?_
    show OwnGo p e below _ (s₁.setTop (mkF m 4 #[.val (.int p1), .val (.int p2)] []))
    refine own_go (fun _ k => XS.iloadN X0.here hx rfl (hb hby d_prog_17_method_4_4) rfl k) ?_
    show OwnGo p e below _ (s₁.setTop (mkF m 5 #[.val (.int p1), .val (.int p2)] [(.int p2)]))
    by_cases hc5 : p2 = (0 : Int32)
    · refine own_go (fun _ k => XS.ifYes X0.here hx rfl (pc0 := 5) (pc' := 14) rfl (hb hby d_prog_17_method_4_5) rfl ((if0 _ _).trans (teq hc5).1) (by decide) (by decide) k) ?_
      show OwnGo p e below _ (s₁.setTop (mkF m 14 #[.val (.int p1), .val (.int p2)] []))
      obtain ⟨T6, X6, e6, st6⟩ := getS X0 hx hZ hown (host := "") (hw _ (List.mem_of_getElem? (i := 11) rfl)) Via.refl e0 (F0.2.2.1.ext O0.2) (g := (mkF m 14 #[.val (.int p1), .val (.int p2)] [])) rfl (hb hby d_prog_17_method_4_14)
      refine own_go st6 ?_
      show OwnGo p e below _ (T6.setTop (mkF m 17 #[.val (.int p1), .val (.int p2)] [(.ref aBACKWARD)]))
      obtain ⟨fs, hr, hrun, hended, hW, hsame⟩ := X6.leave (v := some (.ref aBACKWARD)) (fun h => by rw [Bd.returns] at h; cases h)
      refine ⟨_, _, retOut X6 hx Bd.returns rfl (Or.inr (Or.inr (Or.inr (Or.inr ⟨rfl, rfl, rfl⟩)))) (hb hby d_prog_17_method_4_17) hr, hrun, hended, _, _, rfl, ?_, ⟨_, rfl⟩, hW, hsame.mono (by decide) (by decide)⟩
      show Q_of Z aNONE aBACKWARD aBOTH aFORWARD p1 p2 r0 h0 n0 _ T6.heap _
      rw [e6]
      exact ⟨(by rw [← hr0]; simp [hc1, hc5]), N0, rfl⟩
    · refine own_go (fun _ k => XS.ifNo X0.here hx rfl (hb hby d_prog_17_method_4_5) rfl ((if0 _ _).trans (feq hc5).1) k) ?_
      show OwnGo p e below _ (s₁.setTop (mkF m 8 #[.val (.int p1), .val (.int p2)] []))
      obtain ⟨T7, X7, e7, st7⟩ := getS X0 hx hZ hown (host := "") (hw _ (List.mem_of_getElem? (i := 13) rfl)) Via.refl e0 (F0.2.2.2.2.2.2.1.ext O0.2) (g := (mkF m 8 #[.val (.int p1), .val (.int p2)] [])) rfl (hb hby d_prog_17_method_4_8)
      refine own_go st7 ?_
      show OwnGo p e below _ (T7.setTop (mkF m 11 #[.val (.int p1), .val (.int p2)] [(.ref aBOTH)]))
      refine own_go (fun _ k => XS.goto X7.here hx rfl (pc0 := 11) (pc' := 17) rfl (hb hby d_prog_17_method_4_11) (by decide) (by decide) k) ?_
      show OwnGo p e below _ (T7.setTop (mkF m 17 #[.val (.int p1), .val (.int p2)] [(.ref aBOTH)]))
      obtain ⟨fs, hr, hrun, hended, hW, hsame⟩ := X7.leave (v := some (.ref aBOTH)) (fun h => by rw [Bd.returns] at h; cases h)
      refine ⟨_, _, retOut X7 hx Bd.returns rfl (Or.inr (Or.inr (Or.inr (Or.inr ⟨rfl, rfl, rfl⟩)))) (hb hby d_prog_17_method_4_17) hr, hrun, hended, _, _, rfl, ?_, ⟨_, rfl⟩, hW, hsame.mono (by decide) (by decide)⟩
      show Q_of Z aNONE aBACKWARD aBOTH aFORWARD p1 p2 r0 h0 n0 _ T7.heap _
      rw [e7]
      exact ⟨(by rw [← hr0]; simp [hc1, hc5]), N0, rfl⟩
theorem d_prog_17_method_5_0 : decode prog_17_method_5_code 0 = .ok (.aload_n 0, 1) := by decide +kernel
theorem d_prog_17_method_5_1 : decode prog_17_method_5_code 1 = .ok (.getstatic 7, 3) := by decide +kernel
theorem d_prog_17_method_5_4 : decode prog_17_method_5_code 4 = .ok (.if_acmp .eq 10, 3) := by decide +kernel
theorem d_prog_17_method_5_7 : decode prog_17_method_5_code 7 = .ok (.aload_n 0, 1) := by decide +kernel
theorem d_prog_17_method_5_8 : decode prog_17_method_5_code 8 = .ok (.getstatic 13, 3) := by decide +kernel
theorem d_prog_17_method_5_11 : decode prog_17_method_5_code 11 = .ok (.if_acmp .ne 7, 3) := by decide +kernel
theorem d_prog_17_method_5_18 : decode prog_17_method_5_code 18 = .ok (.iconst 0, 1) := by decide +kernel
theorem d_prog_17_method_5_19 : decode prog_17_method_5_code 19 = .ok (.ireturn, 1) := by decide +kernel
def Q_oldNONE (Z : State) (aNONE aBACKWARD aBOTH aFORWARD : Addr) (h0 : Heap) (n0 : Nat) (v : Option Value) (h : Heap) (L : List Loc) : Prop := v = some (.int (0 : Int32)) ∧ Fr n0 L ∧ h = h0
theorem ef_oldNONE (m : MethodId) (x0 : Addr) : entryFrame m #[(.ref x0)] 1 = mkF m 0 #[.val (.ref x0)] [] := by first | (simp [entryFrame, mkF, argsToLocals, Value.category]; done) | rfl
set_option maxRecDepth 65536 in
set_option maxHeartbeats 40000000 in
theorem rm_oldNONE (l : Launch) (Z : State) (a0 : Array Value) (hw : ∀ d ∈ tables_1, d.before a0 Z = true) (ws : List Jvm.Cond) (aNONE aBACKWARD aBOTH aFORWARD : Addr) (F0 : OwnFacts Z aNONE aBACKWARD aBOTH aFORWARD) (h0 : Heap) (n0 : Nat) (O0 : Old Z n0 h0) :
    MetFree l (⟨"com/example/lachesis/lachesis/diff/Breaks", "breaksOld", "()Z"⟩ : MethodName) (head1 (Jvm.Cond.code (⟨"com/example/lachesis/lachesis/diff/Breaks", "breaksOld", "()Z"⟩ : MethodName) prog_17_method_5_code 1 (some .boolean) :: ws) ({ frames := 0, cells := 0, slots := 0, locals := 0 } : Room)) (fun a U => a = #[(.ref aNONE)] ∧ Z.Warmed39 U.vm ∧ U.heap = h0) (fun _ _ _ _ _ => True) (fun _ U o U' => ∃ v L, o = .returned v ∧ Q_oldNONE Z aNONE aBACKWARD aBOTH aFORWARD h0 n0 v U'.heap L ∧ FrameEnd U o U' L ({ frames := 0, cells := 0, slots := 0, locals := 0 } : Room).cells ({ frames := 0, cells := 0, slots := 0, locals := 0 } : Room).slots) := by
  refine MetFree.of_bodySF (plainFor_of_name pn_com_example_lachesis_lachesis_diff_Breaks) hisR ?_
  intro p e s m args below meth c s₁ Bd hml0 hP hK
  obtain ⟨rfl, hZ, hh⟩ := hP
  have hx := Bd.exec
  have hby := Bd.bytes
  have hml : c.maxLocals = 1 := hml0
  have hown : s.vm.findClass "com/example/lachesis/lachesis/diff/Breaks" = some m.cls := findClass_of_methodNamed Bd.named
  have hnm := (name_of_methodNamed Bd.named Bd.method).1
  have X0 : Stand p l e ({ frames := 0, cells := 0, slots := 0, locals := 0 } : Room) s m #[(.ref aNONE)] below meth c s₁ [] 0 0 := Stand.of_body Bd
  have e0 : s₁.heap = h0 := by rw [← hh, Bd.state]; rfl
  have N0 := Fr.nil n0
  refine own_go (Q := fun o U' => ∃ v L, o = .returned v ∧ Q_oldNONE Z aNONE aBACKWARD aBOTH aFORWARD h0 n0 v U'.heap L ∧ FrameEnd s o U' L ({ frames := 0, cells := 0, slots := 0, locals := 0 } : Room).cells ({ frames := 0, cells := 0, slots := 0, locals := 0 } : Room).slots) (fun t k => castTop (ef_oldNONE m aNONE) k) ?_
  show OwnGo p e below _ (s₁.setTop (mkF m 0 #[.val (.ref aNONE)] []))
  refine own_go (fun _ k => XS.aloadN X0.here hx rfl (hb hby d_prog_17_method_5_0) rfl rfl k) ?_
  show OwnGo p e below _ (s₁.setTop (mkF m 1 #[.val (.ref aNONE)] [(.ref aNONE)]))
  obtain ⟨T8, X8, e8, st8⟩ := getS X0 hx hZ hown (host := "") (hw _ (List.mem_of_getElem? (i := 11) rfl)) Via.refl e0 (F0.2.2.1.ext O0.2) (g := (mkF m 1 #[.val (.ref aNONE)] [(.ref aNONE)])) rfl (hb hby d_prog_17_method_5_1)
  refine own_go st8 ?_
  show OwnGo p e below _ (T8.setTop (mkF m 4 #[.val (.ref aNONE)] [(.ref aBACKWARD), (.ref aNONE)]))
  refine own_go (fun _ k => acmp X8 hx rfl (cd := .eq) (o := 10) (x := (.ref aNONE)) (y := (.ref aBACKWARD)) (pc0 := 4) (pc' := 7) rfl rfl rfl (hb hby d_prog_17_method_5_4) rfl (own_refne (Fld.ne F0.2.2.2.2.1 F0.2.2.2.2.2.1 (by simp))) (by decide) (by decide) k) ?_
  show OwnGo p e below _ (T8.setTop (mkF m 7 #[.val (.ref aNONE)] []))
  refine own_go (fun _ k => XS.aloadN X8.here hx rfl (hb hby d_prog_17_method_5_7) rfl rfl k) ?_
  show OwnGo p e below _ (T8.setTop (mkF m 8 #[.val (.ref aNONE)] [(.ref aNONE)]))
  obtain ⟨T9, X9, e9, st9⟩ := getS X8 hx hZ hown (host := "") (hw _ (List.mem_of_getElem? (i := 13) rfl)) Via.refl e8 (F0.2.2.2.2.2.2.1.ext O0.2) (g := (mkF m 8 #[.val (.ref aNONE)] [(.ref aNONE)])) rfl (hb hby d_prog_17_method_5_8)
  refine own_go st9 ?_
  show OwnGo p e below _ (T9.setTop (mkF m 11 #[.val (.ref aNONE)] [(.ref aBOTH), (.ref aNONE)]))
  refine own_go (fun _ k => acmp X9 hx rfl (cd := .ne) (o := 7) (x := (.ref aNONE)) (y := (.ref aBOTH)) (pc0 := 11) (pc' := 18) rfl rfl rfl (hb hby d_prog_17_method_5_11) rfl (own_refne (Fld.ne F0.2.2.2.2.1 F0.2.2.2.2.2.2.2.2.1 (by simp))) (by decide) (by decide) k) ?_
  show OwnGo p e below _ (T9.setTop (mkF m 18 #[.val (.ref aNONE)] []))
  refine own_go (fun _ k => XS.iconst X9.here hx rfl (hb hby d_prog_17_method_5_18) k) ?_
  show OwnGo p e below _ (T9.setTop (mkF m 19 #[.val (.ref aNONE)] [(.int (0 : Int32))]))
  obtain ⟨fs, hr, hrun, hended, hW, hsame⟩ := X9.leave (v := some (.int (0 : Int32))) (fun h => by rw [Bd.returns] at h; cases h)
  refine ⟨_, _, retOut X9 hx Bd.returns rfl (Or.inl ⟨rfl, Or.inr (Or.inl rfl), _, rfl⟩) (hb hby d_prog_17_method_5_19) hr, hrun, hended, _, _, rfl, ?_, ⟨_, rfl⟩, hW, hsame.mono (by decide) (by decide)⟩
  show Q_oldNONE Z aNONE aBACKWARD aBOTH aFORWARD h0 n0 _ T9.heap _
  rw [e9]
  exact ⟨rfl, N0, rfl⟩
def Q_oldFORWARD (Z : State) (aNONE aBACKWARD aBOTH aFORWARD : Addr) (h0 : Heap) (n0 : Nat) (v : Option Value) (h : Heap) (L : List Loc) : Prop := v = some (.int (0 : Int32)) ∧ Fr n0 L ∧ h = h0
theorem ef_oldFORWARD (m : MethodId) (x0 : Addr) : entryFrame m #[(.ref x0)] 1 = mkF m 0 #[.val (.ref x0)] [] := by first | (simp [entryFrame, mkF, argsToLocals, Value.category]; done) | rfl
set_option maxRecDepth 65536 in
set_option maxHeartbeats 40000000 in
theorem rm_oldFORWARD (l : Launch) (Z : State) (a0 : Array Value) (hw : ∀ d ∈ tables_1, d.before a0 Z = true) (ws : List Jvm.Cond) (aNONE aBACKWARD aBOTH aFORWARD : Addr) (F0 : OwnFacts Z aNONE aBACKWARD aBOTH aFORWARD) (h0 : Heap) (n0 : Nat) (O0 : Old Z n0 h0) :
    MetFree l (⟨"com/example/lachesis/lachesis/diff/Breaks", "breaksOld", "()Z"⟩ : MethodName) (head1 (Jvm.Cond.code (⟨"com/example/lachesis/lachesis/diff/Breaks", "breaksOld", "()Z"⟩ : MethodName) prog_17_method_5_code 1 (some .boolean) :: ws) ({ frames := 0, cells := 0, slots := 0, locals := 0 } : Room)) (fun a U => a = #[(.ref aFORWARD)] ∧ Z.Warmed39 U.vm ∧ U.heap = h0) (fun _ _ _ _ _ => True) (fun _ U o U' => ∃ v L, o = .returned v ∧ Q_oldFORWARD Z aNONE aBACKWARD aBOTH aFORWARD h0 n0 v U'.heap L ∧ FrameEnd U o U' L ({ frames := 0, cells := 0, slots := 0, locals := 0 } : Room).cells ({ frames := 0, cells := 0, slots := 0, locals := 0 } : Room).slots) := by
  refine MetFree.of_bodySF (plainFor_of_name pn_com_example_lachesis_lachesis_diff_Breaks) hisR ?_
  intro p e s m args below meth c s₁ Bd hml0 hP hK
  obtain ⟨rfl, hZ, hh⟩ := hP
  have hx := Bd.exec
  have hby := Bd.bytes
  have hml : c.maxLocals = 1 := hml0
  have hown : s.vm.findClass "com/example/lachesis/lachesis/diff/Breaks" = some m.cls := findClass_of_methodNamed Bd.named
  have hnm := (name_of_methodNamed Bd.named Bd.method).1
  have X0 : Stand p l e ({ frames := 0, cells := 0, slots := 0, locals := 0 } : Room) s m #[(.ref aFORWARD)] below meth c s₁ [] 0 0 := Stand.of_body Bd
  have e0 : s₁.heap = h0 := by rw [← hh, Bd.state]; rfl
  have N0 := Fr.nil n0
  refine own_go (Q := fun o U' => ∃ v L, o = .returned v ∧ Q_oldFORWARD Z aNONE aBACKWARD aBOTH aFORWARD h0 n0 v U'.heap L ∧ FrameEnd s o U' L ({ frames := 0, cells := 0, slots := 0, locals := 0 } : Room).cells ({ frames := 0, cells := 0, slots := 0, locals := 0 } : Room).slots) (fun t k => castTop (ef_oldFORWARD m aFORWARD) k) ?_
  show OwnGo p e below _ (s₁.setTop (mkF m 0 #[.val (.ref aFORWARD)] []))
  refine own_go (fun _ k => XS.aloadN X0.here hx rfl (hb hby d_prog_17_method_5_0) rfl rfl k) ?_
  show OwnGo p e below _ (s₁.setTop (mkF m 1 #[.val (.ref aFORWARD)] [(.ref aFORWARD)]))
  obtain ⟨T10, X10, e10, st10⟩ := getS X0 hx hZ hown (host := "") (hw _ (List.mem_of_getElem? (i := 11) rfl)) Via.refl e0 (F0.2.2.1.ext O0.2) (g := (mkF m 1 #[.val (.ref aFORWARD)] [(.ref aFORWARD)])) rfl (hb hby d_prog_17_method_5_1)
  refine own_go st10 ?_
  show OwnGo p e below _ (T10.setTop (mkF m 4 #[.val (.ref aFORWARD)] [(.ref aBACKWARD), (.ref aFORWARD)]))
  refine own_go (fun _ k => acmp X10 hx rfl (cd := .eq) (o := 10) (x := (.ref aFORWARD)) (y := (.ref aBACKWARD)) (pc0 := 4) (pc' := 7) rfl rfl rfl (hb hby d_prog_17_method_5_4) rfl (own_refne (Fld.ne F0.2.2.2.2.2.2.2.2.2.2.2 F0.2.2.2.2.2.1 (by simp))) (by decide) (by decide) k) ?_
  show OwnGo p e below _ (T10.setTop (mkF m 7 #[.val (.ref aFORWARD)] []))
  refine own_go (fun _ k => XS.aloadN X10.here hx rfl (hb hby d_prog_17_method_5_7) rfl rfl k) ?_
  show OwnGo p e below _ (T10.setTop (mkF m 8 #[.val (.ref aFORWARD)] [(.ref aFORWARD)]))
  obtain ⟨T11, X11, e11, st11⟩ := getS X10 hx hZ hown (host := "") (hw _ (List.mem_of_getElem? (i := 13) rfl)) Via.refl e10 (F0.2.2.2.2.2.2.1.ext O0.2) (g := (mkF m 8 #[.val (.ref aFORWARD)] [(.ref aFORWARD)])) rfl (hb hby d_prog_17_method_5_8)
  refine own_go st11 ?_
  show OwnGo p e below _ (T11.setTop (mkF m 11 #[.val (.ref aFORWARD)] [(.ref aBOTH), (.ref aFORWARD)]))
  refine own_go (fun _ k => acmp X11 hx rfl (cd := .ne) (o := 7) (x := (.ref aFORWARD)) (y := (.ref aBOTH)) (pc0 := 11) (pc' := 18) rfl rfl rfl (hb hby d_prog_17_method_5_11) rfl (own_refne (Fld.ne F0.2.2.2.2.2.2.2.2.2.2.2 F0.2.2.2.2.2.2.2.2.1 (by simp))) (by decide) (by decide) k) ?_
  show OwnGo p e below _ (T11.setTop (mkF m 18 #[.val (.ref aFORWARD)] []))
  refine own_go (fun _ k => XS.iconst X11.here hx rfl (hb hby d_prog_17_method_5_18) k) ?_
  show OwnGo p e below _ (T11.setTop (mkF m 19 #[.val (.ref aFORWARD)] [(.int (0 : Int32))]))
  obtain ⟨fs, hr, hrun, hended, hW, hsame⟩ := X11.leave (v := some (.int (0 : Int32))) (fun h => by rw [Bd.returns] at h; cases h)
  refine ⟨_, _, retOut X11 hx Bd.returns rfl (Or.inl ⟨rfl, Or.inr (Or.inl rfl), _, rfl⟩) (hb hby d_prog_17_method_5_19) hr, hrun, hended, _, _, rfl, ?_, ⟨_, rfl⟩, hW, hsame.mono (by decide) (by decide)⟩
  show Q_oldFORWARD Z aNONE aBACKWARD aBOTH aFORWARD h0 n0 _ T11.heap _
  rw [e11]
  exact ⟨rfl, N0, rfl⟩
theorem d_prog_17_method_5_14 : decode prog_17_method_5_code 14 = .ok (.iconst 1, 1) := by decide +kernel
theorem d_prog_17_method_5_15 : decode prog_17_method_5_code 15 = .ok (.goto 4, 3) := by decide +kernel
def Q_oldBACKWARD (Z : State) (aNONE aBACKWARD aBOTH aFORWARD : Addr) (h0 : Heap) (n0 : Nat) (v : Option Value) (h : Heap) (L : List Loc) : Prop := v = some (.int (1 : Int32)) ∧ Fr n0 L ∧ h = h0
theorem ef_oldBACKWARD (m : MethodId) (x0 : Addr) : entryFrame m #[(.ref x0)] 1 = mkF m 0 #[.val (.ref x0)] [] := by first | (simp [entryFrame, mkF, argsToLocals, Value.category]; done) | rfl
set_option maxRecDepth 65536 in
set_option maxHeartbeats 40000000 in
theorem rm_oldBACKWARD (l : Launch) (Z : State) (a0 : Array Value) (hw : ∀ d ∈ tables_1, d.before a0 Z = true) (ws : List Jvm.Cond) (aNONE aBACKWARD aBOTH aFORWARD : Addr) (F0 : OwnFacts Z aNONE aBACKWARD aBOTH aFORWARD) (h0 : Heap) (n0 : Nat) (O0 : Old Z n0 h0) :
    MetFree l (⟨"com/example/lachesis/lachesis/diff/Breaks", "breaksOld", "()Z"⟩ : MethodName) (head1 (Jvm.Cond.code (⟨"com/example/lachesis/lachesis/diff/Breaks", "breaksOld", "()Z"⟩ : MethodName) prog_17_method_5_code 1 (some .boolean) :: ws) ({ frames := 0, cells := 0, slots := 0, locals := 0 } : Room)) (fun a U => a = #[(.ref aBACKWARD)] ∧ Z.Warmed39 U.vm ∧ U.heap = h0) (fun _ _ _ _ _ => True) (fun _ U o U' => ∃ v L, o = .returned v ∧ Q_oldBACKWARD Z aNONE aBACKWARD aBOTH aFORWARD h0 n0 v U'.heap L ∧ FrameEnd U o U' L ({ frames := 0, cells := 0, slots := 0, locals := 0 } : Room).cells ({ frames := 0, cells := 0, slots := 0, locals := 0 } : Room).slots) := by
  refine MetFree.of_bodySF (plainFor_of_name pn_com_example_lachesis_lachesis_diff_Breaks) hisR ?_
  intro p e s m args below meth c s₁ Bd hml0 hP hK
  obtain ⟨rfl, hZ, hh⟩ := hP
  have hx := Bd.exec
  have hby := Bd.bytes
  have hml : c.maxLocals = 1 := hml0
  have hown : s.vm.findClass "com/example/lachesis/lachesis/diff/Breaks" = some m.cls := findClass_of_methodNamed Bd.named
  have hnm := (name_of_methodNamed Bd.named Bd.method).1
  have X0 : Stand p l e ({ frames := 0, cells := 0, slots := 0, locals := 0 } : Room) s m #[(.ref aBACKWARD)] below meth c s₁ [] 0 0 := Stand.of_body Bd
  have e0 : s₁.heap = h0 := by rw [← hh, Bd.state]; rfl
  have N0 := Fr.nil n0
  refine own_go (Q := fun o U' => ∃ v L, o = .returned v ∧ Q_oldBACKWARD Z aNONE aBACKWARD aBOTH aFORWARD h0 n0 v U'.heap L ∧ FrameEnd s o U' L ({ frames := 0, cells := 0, slots := 0, locals := 0 } : Room).cells ({ frames := 0, cells := 0, slots := 0, locals := 0 } : Room).slots) (fun t k => castTop (ef_oldBACKWARD m aBACKWARD) k) ?_
  show OwnGo p e below _ (s₁.setTop (mkF m 0 #[.val (.ref aBACKWARD)] []))
  refine own_go (fun _ k => XS.aloadN X0.here hx rfl (hb hby d_prog_17_method_5_0) rfl rfl k) ?_
  show OwnGo p e below _ (s₁.setTop (mkF m 1 #[.val (.ref aBACKWARD)] [(.ref aBACKWARD)]))
  obtain ⟨T12, X12, e12, st12⟩ := getS X0 hx hZ hown (host := "") (hw _ (List.mem_of_getElem? (i := 11) rfl)) Via.refl e0 (F0.2.2.1.ext O0.2) (g := (mkF m 1 #[.val (.ref aBACKWARD)] [(.ref aBACKWARD)])) rfl (hb hby d_prog_17_method_5_1)
  refine own_go st12 ?_
  show OwnGo p e below _ (T12.setTop (mkF m 4 #[.val (.ref aBACKWARD)] [(.ref aBACKWARD), (.ref aBACKWARD)]))
  refine own_go (fun _ k => acmp X12 hx rfl (cd := .eq) (o := 10) (x := (.ref aBACKWARD)) (y := (.ref aBACKWARD)) (pc0 := 4) (pc' := 14) rfl rfl rfl (hb hby d_prog_17_method_5_4) rfl (own_refeq _) (by decide) (by decide) k) ?_
  show OwnGo p e below _ (T12.setTop (mkF m 14 #[.val (.ref aBACKWARD)] []))
  refine own_go (fun _ k => XS.iconst X12.here hx rfl (hb hby d_prog_17_method_5_14) k) ?_
  show OwnGo p e below _ (T12.setTop (mkF m 15 #[.val (.ref aBACKWARD)] [(.int (1 : Int32))]))
  refine own_go (fun _ k => XS.goto X12.here hx rfl (pc0 := 15) (pc' := 19) rfl (hb hby d_prog_17_method_5_15) (by decide) (by decide) k) ?_
  show OwnGo p e below _ (T12.setTop (mkF m 19 #[.val (.ref aBACKWARD)] [(.int (1 : Int32))]))
  obtain ⟨fs, hr, hrun, hended, hW, hsame⟩ := X12.leave (v := some (.int (1 : Int32))) (fun h => by rw [Bd.returns] at h; cases h)
  refine ⟨_, _, retOut X12 hx Bd.returns rfl (Or.inl ⟨rfl, Or.inr (Or.inl rfl), _, rfl⟩) (hb hby d_prog_17_method_5_19) hr, hrun, hended, _, _, rfl, ?_, ⟨_, rfl⟩, hW, hsame.mono (by decide) (by decide)⟩
  show Q_oldBACKWARD Z aNONE aBACKWARD aBOTH aFORWARD h0 n0 _ T12.heap _
  rw [e12]
  exact ⟨rfl, N0, rfl⟩
def Q_oldBOTH (Z : State) (aNONE aBACKWARD aBOTH aFORWARD : Addr) (h0 : Heap) (n0 : Nat) (v : Option Value) (h : Heap) (L : List Loc) : Prop := v = some (.int (1 : Int32)) ∧ Fr n0 L ∧ h = h0
theorem ef_oldBOTH (m : MethodId) (x0 : Addr) : entryFrame m #[(.ref x0)] 1 = mkF m 0 #[.val (.ref x0)] [] := by first | (simp [entryFrame, mkF, argsToLocals, Value.category]; done) | rfl
set_option maxRecDepth 65536 in
set_option maxHeartbeats 40000000 in
theorem rm_oldBOTH (l : Launch) (Z : State) (a0 : Array Value) (hw : ∀ d ∈ tables_1, d.before a0 Z = true) (ws : List Jvm.Cond) (aNONE aBACKWARD aBOTH aFORWARD : Addr) (F0 : OwnFacts Z aNONE aBACKWARD aBOTH aFORWARD) (h0 : Heap) (n0 : Nat) (O0 : Old Z n0 h0) :
    MetFree l (⟨"com/example/lachesis/lachesis/diff/Breaks", "breaksOld", "()Z"⟩ : MethodName) (head1 (Jvm.Cond.code (⟨"com/example/lachesis/lachesis/diff/Breaks", "breaksOld", "()Z"⟩ : MethodName) prog_17_method_5_code 1 (some .boolean) :: ws) ({ frames := 0, cells := 0, slots := 0, locals := 0 } : Room)) (fun a U => a = #[(.ref aBOTH)] ∧ Z.Warmed39 U.vm ∧ U.heap = h0) (fun _ _ _ _ _ => True) (fun _ U o U' => ∃ v L, o = .returned v ∧ Q_oldBOTH Z aNONE aBACKWARD aBOTH aFORWARD h0 n0 v U'.heap L ∧ FrameEnd U o U' L ({ frames := 0, cells := 0, slots := 0, locals := 0 } : Room).cells ({ frames := 0, cells := 0, slots := 0, locals := 0 } : Room).slots) := by
  refine MetFree.of_bodySF (plainFor_of_name pn_com_example_lachesis_lachesis_diff_Breaks) hisR ?_
  intro p e s m args below meth c s₁ Bd hml0 hP hK
  obtain ⟨rfl, hZ, hh⟩ := hP
  have hx := Bd.exec
  have hby := Bd.bytes
  have hml : c.maxLocals = 1 := hml0
  have hown : s.vm.findClass "com/example/lachesis/lachesis/diff/Breaks" = some m.cls := findClass_of_methodNamed Bd.named
  have hnm := (name_of_methodNamed Bd.named Bd.method).1
  have X0 : Stand p l e ({ frames := 0, cells := 0, slots := 0, locals := 0 } : Room) s m #[(.ref aBOTH)] below meth c s₁ [] 0 0 := Stand.of_body Bd
  have e0 : s₁.heap = h0 := by rw [← hh, Bd.state]; rfl
  have N0 := Fr.nil n0
  refine own_go (Q := fun o U' => ∃ v L, o = .returned v ∧ Q_oldBOTH Z aNONE aBACKWARD aBOTH aFORWARD h0 n0 v U'.heap L ∧ FrameEnd s o U' L ({ frames := 0, cells := 0, slots := 0, locals := 0 } : Room).cells ({ frames := 0, cells := 0, slots := 0, locals := 0 } : Room).slots) (fun t k => castTop (ef_oldBOTH m aBOTH) k) ?_
  show OwnGo p e below _ (s₁.setTop (mkF m 0 #[.val (.ref aBOTH)] []))
  refine own_go (fun _ k => XS.aloadN X0.here hx rfl (hb hby d_prog_17_method_5_0) rfl rfl k) ?_
  show OwnGo p e below _ (s₁.setTop (mkF m 1 #[.val (.ref aBOTH)] [(.ref aBOTH)]))
  obtain ⟨T13, X13, e13, st13⟩ := getS X0 hx hZ hown (host := "") (hw _ (List.mem_of_getElem? (i := 11) rfl)) Via.refl e0 (F0.2.2.1.ext O0.2) (g := (mkF m 1 #[.val (.ref aBOTH)] [(.ref aBOTH)])) rfl (hb hby d_prog_17_method_5_1)
  refine own_go st13 ?_
  show OwnGo p e below _ (T13.setTop (mkF m 4 #[.val (.ref aBOTH)] [(.ref aBACKWARD), (.ref aBOTH)]))
  refine own_go (fun _ k => acmp X13 hx rfl (cd := .eq) (o := 10) (x := (.ref aBOTH)) (y := (.ref aBACKWARD)) (pc0 := 4) (pc' := 7) rfl rfl rfl (hb hby d_prog_17_method_5_4) rfl (own_refne (Fld.ne F0.2.2.2.2.2.2.2.2.1 F0.2.2.2.2.2.1 (by simp))) (by decide) (by decide) k) ?_
  show OwnGo p e below _ (T13.setTop (mkF m 7 #[.val (.ref aBOTH)] []))
  refine own_go (fun _ k => XS.aloadN X13.here hx rfl (hb hby d_prog_17_method_5_7) rfl rfl k) ?_
  show OwnGo p e below _ (T13.setTop (mkF m 8 #[.val (.ref aBOTH)] [(.ref aBOTH)]))
  obtain ⟨T14, X14, e14, st14⟩ := getS X13 hx hZ hown (host := "") (hw _ (List.mem_of_getElem? (i := 13) rfl)) Via.refl e13 (F0.2.2.2.2.2.2.1.ext O0.2) (g := (mkF m 8 #[.val (.ref aBOTH)] [(.ref aBOTH)])) rfl (hb hby d_prog_17_method_5_8)
  refine own_go st14 ?_
  show OwnGo p e below _ (T14.setTop (mkF m 11 #[.val (.ref aBOTH)] [(.ref aBOTH), (.ref aBOTH)]))
  refine own_go (fun _ k => acmp X14 hx rfl (cd := .ne) (o := 7) (x := (.ref aBOTH)) (y := (.ref aBOTH)) (pc0 := 11) (pc' := 14) rfl rfl rfl (hb hby d_prog_17_method_5_11) rfl (own_refeq _) (by decide) (by decide) k) ?_
  show OwnGo p e below _ (T14.setTop (mkF m 14 #[.val (.ref aBOTH)] []))
  refine own_go (fun _ k => XS.iconst X14.here hx rfl (hb hby d_prog_17_method_5_14) k) ?_
  show OwnGo p e below _ (T14.setTop (mkF m 15 #[.val (.ref aBOTH)] [(.int (1 : Int32))]))
  refine own_go (fun _ k => XS.goto X14.here hx rfl (pc0 := 15) (pc' := 19) rfl (hb hby d_prog_17_method_5_15) (by decide) (by decide) k) ?_
  show OwnGo p e below _ (T14.setTop (mkF m 19 #[.val (.ref aBOTH)] [(.int (1 : Int32))]))
  obtain ⟨fs, hr, hrun, hended, hW, hsame⟩ := X14.leave (v := some (.int (1 : Int32))) (fun h => by rw [Bd.returns] at h; cases h)
  refine ⟨_, _, retOut X14 hx Bd.returns rfl (Or.inl ⟨rfl, Or.inr (Or.inl rfl), _, rfl⟩) (hb hby d_prog_17_method_5_19) hr, hrun, hended, _, _, rfl, ?_, ⟨_, rfl⟩, hW, hsame.mono (by decide) (by decide)⟩
  show Q_oldBOTH Z aNONE aBACKWARD aBOTH aFORWARD h0 n0 _ T14.heap _
  rw [e14]
  exact ⟨rfl, N0, rfl⟩
theorem pd_Z_Z__Lcom_example_lachesis_lachesis_diff_Breaks_ : parseMethodDescriptor "(ZZ)Lcom/example/lachesis/lachesis/diff/Breaks;" = some ⟨[.boolean, .boolean], some (.object "com/example/lachesis/lachesis/diff/Breaks")⟩ := by decide +kernel
theorem pd___Z : parseMethodDescriptor "()Z" = some ⟨[], some .boolean⟩ := by decide +kernel
theorem pn_com_example_lachesis_lachesis_diff_BreaksBreaksOldPinLaw : plainName "com/example/lachesis/lachesis/diff/BreaksBreaksOldPinLaw" = true := by first | (simp [plainName, overriddenIn]; done) | decide +kernel
def Q_law (Z : State) (aNONE aBACKWARD aBOTH aFORWARD : Addr) (p1 : Int32) (h0 : Heap) (n0 : Nat) (v : Option Value) (h : Heap) (L : List Loc) : Prop := v = some (.int (1 : Int32)) ∧ Fr n0 L
theorem ef_law (m : MethodId) (x0 : Int32) : entryFrame m #[(.int x0)] maxLocals = mkF m 0 #[.val (.int x0), .unset, .unset, .unset, .unset, .unset, .unset] [] := by first | (simp [entryFrame, mkF, argsToLocals, Value.category, maxLocals]; done) | rfl
set_option maxRecDepth 65536 in
set_option maxHeartbeats 40000000 in
theorem rm_law (l : Launch) (Z : State) (a0 : Array Value) (hw : ∀ d ∈ tables_1, d.before a0 Z = true) (ws : List Jvm.Cond) (aNONE aBACKWARD aBOTH aFORWARD : Addr) (F0 : OwnFacts Z aNONE aBACKWARD aBOTH aFORWARD) (p1 : Int32) (h0 : Heap) (n0 : Nat) (O0 : Old Z n0 h0) :
    MetFree l x (head1 (Jvm.Cond.code x code maxLocals ret :: ws) room_1) (fun a U => a = #[(.int p1)] ∧ Z.Warmed39 U.vm ∧ U.heap = h0) (fun _ _ _ _ _ => True) (fun _ U o U' => ∃ v L, o = .returned v ∧ Q_law Z aNONE aBACKWARD aBOTH aFORWARD p1 h0 n0 v U'.heap L ∧ FrameEnd U o U' L 0 0) := by
  refine MetFree.of_bodySF (plainFor_of_name pn_com_example_lachesis_lachesis_diff_BreaksBreaksOldPinLaw) hisR ?_
  intro p e s m args below meth c s₁ Bd hml0 hP hK
  obtain ⟨rfl, hZ, hh⟩ := hP
  have hx := Bd.exec
  have hby := Bd.bytes
  have hml : c.maxLocals = 7 := hml0
  have hown : s.vm.findClass "com/example/lachesis/lachesis/diff/BreaksBreaksOldPinLaw" = some m.cls := findClass_of_methodNamed Bd.named
  have hnm := (name_of_methodNamed Bd.named Bd.method).1
  have X0 : Stand p l e room_1 s m #[(.int p1)] below meth c s₁ [] 0 0 := Stand.of_body Bd
  have e0 : s₁.heap = h0 := by rw [← hh, Bd.state]; rfl
  have N0 := Fr.nil n0
  refine own_go (Q := fun o U' => ∃ v L, o = .returned v ∧ Q_law Z aNONE aBACKWARD aBOTH aFORWARD p1 h0 n0 v U'.heap L ∧ FrameEnd s o U' L 0 0) (fun t k => castTop (ef_law m p1) k) ?_
  show OwnGo p e below _ (s₁.setTop (mkF m 0 #[.val (.int p1), .unset, .unset, .unset, .unset, .unset, .unset] []))
  refine own_go (fun _ k => XS.iloadN X0.here hx rfl (hb hby at_0) rfl k) ?_
  show OwnGo p e below _ (s₁.setTop (mkF m 1 #[.val (.int p1), .unset, .unset, .unset, .unset, .unset, .unset] [(.int p1)]))
  refine own_go (fun _ k => XS.iconst X0.here hx rfl (hb hby at_1) k) ?_
  show OwnGo p e below _ (s₁.setTop (mkF m 2 #[.val (.int p1), .unset, .unset, .unset, .unset, .unset, .unset] [(.int (1 : Int32)), (.int p1)]))
  refine own_go (fun _ k => XS.iand X0.here hx rfl (hb hby at_2) rfl k) ?_
  show OwnGo p e below _ (s₁.setTop (mkF m 3 #[.val (.int p1), .unset, .unset, .unset, .unset, .unset, .unset] [(.int (p1 &&& (1 : Int32)))]))
  by_cases hc15 : (p1 &&& (1 : Int32)) = (0 : Int32)
  · refine own_go (fun _ k => XS.ifYes X0.here hx rfl (pc0 := 3) (pc' := 10) rfl (hb hby at_3) rfl ((if0 _ _).trans (teq hc15).1) (by decide) (by decide) k) ?_
    show OwnGo p e below _ (s₁.setTop (mkF m 10 #[.val (.int p1), .unset, .unset, .unset, .unset, .unset, .unset] []))
    refine own_go (fun _ k => XS.iconst X0.here hx rfl (hb hby at_10) k) ?_
    show OwnGo p e below _ (s₁.setTop (mkF m 11 #[.val (.int p1), .unset, .unset, .unset, .unset, .unset, .unset] [(.int (0 : Int32))]))
    refine own_go (fun _ k => XS.istoreN X0.here hx rfl (hb hby at_11) rfl (l' := #[.val (.int p1), .val (.int (0 : Int32)), .unset, .unset, .unset, .unset, .unset]) rfl k) ?_
    show OwnGo p e below _ (s₁.setTop (mkF m 12 #[.val (.int p1), .val (.int (0 : Int32)), .unset, .unset, .unset, .unset, .unset] []))
    refine own_go (fun _ k => XS.iloadN X0.here hx rfl (hb hby at_12) rfl k) ?_
    show OwnGo p e below _ (s₁.setTop (mkF m 13 #[.val (.int p1), .val (.int (0 : Int32)), .unset, .unset, .unset, .unset, .unset] [(.int p1)]))
    refine own_go (fun _ k => XS.iconst X0.here hx rfl (hb hby at_13) k) ?_
    show OwnGo p e below _ (s₁.setTop (mkF m 14 #[.val (.int p1), .val (.int (0 : Int32)), .unset, .unset, .unset, .unset, .unset] [(.int (2 : Int32)), (.int p1)]))
    refine own_go (fun _ k => XS.iand X0.here hx rfl (hb hby at_14) rfl k) ?_
    show OwnGo p e below _ (s₁.setTop (mkF m 15 #[.val (.int p1), .val (.int (0 : Int32)), .unset, .unset, .unset, .unset, .unset] [(.int (p1 &&& (2 : Int32)))]))
    by_cases hc16 : (p1 &&& (2 : Int32)) = (0 : Int32)
    · refine own_go (fun _ k => XS.ifYes X0.here hx rfl (pc0 := 15) (pc' := 22) rfl (hb hby at_15) rfl ((if0 _ _).trans (teq hc16).1) (by decide) (by decide) k) ?_
      show OwnGo p e below _ (s₁.setTop (mkF m 22 #[.val (.int p1), .val (.int (0 : Int32)), .unset, .unset, .unset, .unset, .unset] []))
      refine own_go (fun _ k => XS.iconst X0.here hx rfl (hb hby at_22) k) ?_
      show OwnGo p e below _ (s₁.setTop (mkF m 23 #[.val (.int p1), .val (.int (0 : Int32)), .unset, .unset, .unset, .unset, .unset] [(.int (0 : Int32))]))
      refine own_go (fun _ k => XS.istoreN X0.here hx rfl (hb hby at_23) rfl (l' := #[.val (.int p1), .val (.int (0 : Int32)), .val (.int (0 : Int32)), .unset, .unset, .unset, .unset]) rfl k) ?_
      show OwnGo p e below _ (s₁.setTop (mkF m 24 #[.val (.int p1), .val (.int (0 : Int32)), .val (.int (0 : Int32)), .unset, .unset, .unset, .unset] []))
      refine own_go (fun _ k => XS.iloadN X0.here hx rfl (hb hby at_24) rfl k) ?_
      show OwnGo p e below _ (s₁.setTop (mkF m 25 #[.val (.int p1), .val (.int (0 : Int32)), .val (.int (0 : Int32)), .unset, .unset, .unset, .unset] [(.int (0 : Int32))]))
      refine own_go (fun _ k => XS.iloadN X0.here hx rfl (hb hby at_25) rfl k) ?_
      show OwnGo p e below _ (s₁.setTop (mkF m 26 #[.val (.int p1), .val (.int (0 : Int32)), .val (.int (0 : Int32)), .unset, .unset, .unset, .unset] [(.int (0 : Int32)), (.int (0 : Int32))]))
      obtain ⟨_, _, ⟨T17, L17, k17, n17⟩, -, X17, ⟨Lc17, hQ17, l17, y17, z17⟩, st17⟩ := Jvm.LawKit.callS X0 hx (y := (⟨"com/example/lachesis/lachesis/diff/Breaks", "of", "(ZZ)Lcom/example/lachesis/lachesis/diff/Breaks;"⟩ : MethodName)) hown (mvT hZ (hw _ (List.mem_of_getElem? (i := 0) rfl))) (mvT hZ (hw _ (List.mem_of_getElem? (i := 1) rfl))) (mvT hZ (hw _ (List.mem_of_getElem? (i := 2) rfl))) (mvT hZ (hw _ (List.mem_of_getElem? (i := 3) rfl))) (by decide) (backOf (W := 0) (rm_of l Z a0 hw [] aNONE aBACKWARD aBOTH aFORWARD F0 (0 : Int32) (0 : Int32) aNONE h0 n0 O0 (by simp)) hZ (hw _ (List.mem_of_getElem? (i := 3) rfl)) (hw _ (List.mem_of_getElem? (i := 2) rfl)) (by decide) (by decide)) (g := (mkF m 26 #[.val (.int p1), .val (.int (0 : Int32)), .val (.int (0 : Int32)), .unset, .unset, .unset, .unset] [(.int (0 : Int32)), (.int (0 : Int32))])) rfl (by rw [hml]; rfl) (argsL := [(.int (0 : Int32)), (.int (0 : Int32))]) (rest := []) (lenOf pd_Z_Z__Lcom_example_lachesis_lachesis_diff_Breaks_ rfl) rfl (by show 2 * 0 + _ ≤ _; exact Nat.le_of_eq rfl) (hb hby at_26) (fun _ _ => ⟨rfl, e0, (by decide : 0 + 0 ≤ _), (by decide : 0 + 0 ≤ _)⟩)
      dsimp only [Pt.U, Pt.locs, Pt.cells, Pt.slots] at X17 l17 y17 z17 st17 hQ17
      subst l17 y17 z17
      obtain ⟨rfl, Nq17, K17⟩ := hQ17
      have N17 := Fr.app N0 Nq17
      refine own_go st17 ?_
      show OwnGo p e below _ (T17.setTop (mkF m 29 #[.val (.int p1), .val (.int (0 : Int32)), .val (.int (0 : Int32)), .unset, .unset, .unset, .unset] [(.ref aNONE)]))
      refine own_go (fun _ k => XS.astoreN X17.here hx rfl (hb hby at_29) rfl rfl (l' := #[.val (.int p1), .val (.int (0 : Int32)), .val (.int (0 : Int32)), .val (.ref aNONE), .unset, .unset, .unset]) rfl k) ?_
      show OwnGo p e below _ (T17.setTop (mkF m 30 #[.val (.int p1), .val (.int (0 : Int32)), .val (.int (0 : Int32)), .val (.ref aNONE), .unset, .unset, .unset] []))
      refine own_go (fun _ k => XS.aloadN X17.here hx rfl (hb hby at_30) rfl rfl k) ?_
      show OwnGo p e below _ (T17.setTop (mkF m 31 #[.val (.int p1), .val (.int (0 : Int32)), .val (.int (0 : Int32)), .val (.ref aNONE), .unset, .unset, .unset] [(.ref aNONE)]))
      obtain ⟨cq18, kq18, qa18, qb18, qc18⟩ := isOf hZ K17 (F0.2.1.ext O0.2)
      obtain ⟨_, _, ⟨T18, L18, k18, n18⟩, -, X18, ⟨Lc18, hQ18, l18, y18, z18⟩, st18⟩ := X17.virtualBack hx (y := (⟨"com/example/lachesis/lachesis/diff/Breaks", "breaksOld", "()Z"⟩ : MethodName)) (z := (⟨"com/example/lachesis/lachesis/diff/Breaks", "breaksOld", "()Z"⟩ : MethodName)) hown (mvT hZ (hw _ (List.mem_of_getElem? (i := 6) rfl))) (mvT hZ (hw _ (List.mem_of_getElem? (i := 7) rfl))) (notFace_of_selects (args := #[]) (mvT hZ (hw _ (List.mem_of_getElem? (i := 9) rfl)))) (mvT hZ (hw _ (List.mem_of_getElem? (i := 9) rfl))) (mvT hZ (hw _ (List.mem_of_getElem? (i := 8) rfl))) (by decide) (backOf (W := 0) (rm_oldNONE l Z a0 hw [] aNONE aBACKWARD aBOTH aFORWARD F0 h0 n0 O0) hZ (hw _ (List.mem_of_getElem? (i := 10) rfl)) (hw _ (List.mem_of_getElem? (i := 2) rfl)) (by decide) (by decide)) qa18 qc18 (g := (mkF m 31 #[.val (.int p1), .val (.int (0 : Int32)), .val (.int (0 : Int32)), .val (.ref aNONE), .unset, .unset, .unset] [(.ref aNONE)])) rfl (by rw [hml]; rfl) (Steps.refl _) (argsL := []) (rest := []) (lenOf pd___Z rfl) rfl (by show 2 * 0 + _ ≤ _; exact Nat.le_of_eq rfl) (hb hby at_31) (fun _ _ => ⟨rfl, K17, (by decide : 0 + 0 ≤ _), (by decide : 0 + 0 ≤ _)⟩)
      dsimp only [Pt.U, Pt.locs, Pt.cells, Pt.slots] at X18 l18 y18 z18 st18 hQ18
      subst l18 y18 z18
      obtain ⟨rfl, Nq18, K18⟩ := hQ18
      have N18 := Fr.app N17 Nq18
      refine own_go (fun _ k => st18.trans k) ?_
      show OwnGo p e below _ (T18.setTop (mkF m 34 #[.val (.int p1), .val (.int (0 : Int32)), .val (.int (0 : Int32)), .val (.ref aNONE), .unset, .unset, .unset] [(.int (0 : Int32))]))
      refine own_go (fun _ k => XS.iloadN X18.here hx rfl (hb hby at_34) rfl k) ?_
      show OwnGo p e below _ (T18.setTop (mkF m 35 #[.val (.int p1), .val (.int (0 : Int32)), .val (.int (0 : Int32)), .val (.ref aNONE), .unset, .unset, .unset] [(.int (0 : Int32)), (.int (0 : Int32))]))
      refine own_go (fun _ k => XS.icmpYes X18.here hx rfl (pc0 := 35) (pc' := 40) rfl (hb hby at_35) rfl (by decide) (by decide) (by decide) k) ?_
      show OwnGo p e below _ (T18.setTop (mkF m 40 #[.val (.int p1), .val (.int (0 : Int32)), .val (.int (0 : Int32)), .val (.ref aNONE), .unset, .unset, .unset] []))
      refine own_go (fun _ k => XS.iloadN X18.here hx rfl (hb hby at_40) rfl k) ?_
      show OwnGo p e below _ (T18.setTop (mkF m 41 #[.val (.int p1), .val (.int (0 : Int32)), .val (.int (0 : Int32)), .val (.ref aNONE), .unset, .unset, .unset] [(.int p1)]))
      refine own_go (fun _ k => XS.iconst X18.here hx rfl (hb hby at_41) k) ?_
      show OwnGo p e below _ (T18.setTop (mkF m 42 #[.val (.int p1), .val (.int (0 : Int32)), .val (.int (0 : Int32)), .val (.ref aNONE), .unset, .unset, .unset] [(.int (2 : Int32)), (.int p1)]))
      refine own_go (fun _ k => XS.iushr X18.here hx rfl (hb hby at_42) rfl k) ?_
      show OwnGo p e below _ (T18.setTop (mkF m 43 #[.val (.int p1), .val (.int (0 : Int32)), .val (.int (0 : Int32)), .val (.ref aNONE), .unset, .unset, .unset] [(.int (((p1).toUInt32 >>> ((2 : Int32) &&& 31).toUInt32).toInt32))]))
      refine own_go (fun _ k => XS.iconst X18.here hx rfl (hb hby at_43) k) ?_
      show OwnGo p e below _ (T18.setTop (mkF m 44 #[.val (.int p1), .val (.int (0 : Int32)), .val (.int (0 : Int32)), .val (.ref aNONE), .unset, .unset, .unset] [(.int (3 : Int32)), (.int (((p1).toUInt32 >>> ((2 : Int32) &&& 31).toUInt32).toInt32))]))
      refine own_go (fun _ k => XS.iand X18.here hx rfl (hb hby at_44) rfl k) ?_
      show OwnGo p e below _ (T18.setTop (mkF m 45 #[.val (.int p1), .val (.int (0 : Int32)), .val (.int (0 : Int32)), .val (.ref aNONE), .unset, .unset, .unset] [(.int ((((p1).toUInt32 >>> ((2 : Int32) &&& 31).toUInt32).toInt32) &&& (3 : Int32)))]))
      refine own_go (fun _ k => XS.istore X18.here hx rfl (hb hby at_45) rfl (l' := #[.val (.int p1), .val (.int (0 : Int32)), .val (.int (0 : Int32)), .val (.ref aNONE), .val (.int ((((p1).toUInt32 >>> ((2 : Int32) &&& 31).toUInt32).toInt32) &&& (3 : Int32))), .unset, .unset]) rfl k) ?_
      show OwnGo p e below _ (T18.setTop (mkF m 47 #[.val (.int p1), .val (.int (0 : Int32)), .val (.int (0 : Int32)), .val (.ref aNONE), .val (.int ((((p1).toUInt32 >>> ((2 : Int32) &&& 31).toUInt32).toInt32) &&& (3 : Int32))), .unset, .unset] []))
      refine own_go (fun _ k => XS.iload X18.here hx rfl (hb hby at_47) rfl k) ?_
      show OwnGo p e below _ (T18.setTop (mkF m 49 #[.val (.int p1), .val (.int (0 : Int32)), .val (.int (0 : Int32)), .val (.ref aNONE), .val (.int ((((p1).toUInt32 >>> ((2 : Int32) &&& 31).toUInt32).toInt32) &&& (3 : Int32))), .unset, .unset] [(.int ((((p1).toUInt32 >>> ((2 : Int32) &&& 31).toUInt32).toInt32) &&& (3 : Int32)))]))
      by_cases hc19 : ((((p1).toUInt32 >>> ((2 : Int32) &&& 31).toUInt32).toInt32) &&& (3 : Int32)) = (0 : Int32)
      · refine own_go (fun _ k => XS.ifNo X18.here hx rfl (hb hby at_49) rfl ((if0 _ _).trans (teq hc19).2) k) ?_
        show OwnGo p e below _ (T18.setTop (mkF m 52 #[.val (.int p1), .val (.int (0 : Int32)), .val (.int (0 : Int32)), .val (.ref aNONE), .val (.int ((((p1).toUInt32 >>> ((2 : Int32) &&& 31).toUInt32).toInt32) &&& (3 : Int32))), .unset, .unset] []))
        obtain ⟨T20, X20, e20, st20⟩ := getS X18 hx hZ hown (host := "") (hw _ (List.mem_of_getElem? (i := 15) rfl)) Via.refl K18 (F0.1.ext O0.2) (g := (mkF m 52 #[.val (.int p1), .val (.int (0 : Int32)), .val (.int (0 : Int32)), .val (.ref aNONE), .val (.int ((((p1).toUInt32 >>> ((2 : Int32) &&& 31).toUInt32).toInt32) &&& (3 : Int32))), .unset, .unset] [])) rfl (hb hby at_52)
        refine own_go st20 ?_
        show OwnGo p e below _ (T20.setTop (mkF m 55 #[.val (.int p1), .val (.int (0 : Int32)), .val (.int (0 : Int32)), .val (.ref aNONE), .val (.int ((((p1).toUInt32 >>> ((2 : Int32) &&& 31).toUInt32).toInt32) &&& (3 : Int32))), .unset, .unset] [(.ref aNONE)]))
        refine own_go (fun _ k => XS.astore X20.here hx rfl (hb hby at_55) rfl rfl (l' := #[.val (.int p1), .val (.int (0 : Int32)), .val (.int (0 : Int32)), .val (.ref aNONE), .val (.int ((((p1).toUInt32 >>> ((2 : Int32) &&& 31).toUInt32).toInt32) &&& (3 : Int32))), .val (.ref aNONE), .unset]) rfl k) ?_
        show OwnGo p e below _ (T20.setTop (mkF m 57 #[.val (.int p1), .val (.int (0 : Int32)), .val (.int (0 : Int32)), .val (.ref aNONE), .val (.int ((((p1).toUInt32 >>> ((2 : Int32) &&& 31).toUInt32).toInt32) &&& (3 : Int32))), .val (.ref aNONE), .unset] []))
        refine own_go (fun _ k => XS.iconst X20.here hx rfl (hb hby at_57) k) ?_
        show OwnGo p e below _ (T20.setTop (mkF m 58 #[.val (.int p1), .val (.int (0 : Int32)), .val (.int (0 : Int32)), .val (.ref aNONE), .val (.int ((((p1).toUInt32 >>> ((2 : Int32) &&& 31).toUInt32).toInt32) &&& (3 : Int32))), .val (.ref aNONE), .unset] [(.int (0 : Int32))]))
        refine own_go (fun _ k => XS.istore X20.here hx rfl (hb hby at_58) rfl (l' := #[.val (.int p1), .val (.int (0 : Int32)), .val (.int (0 : Int32)), .val (.ref aNONE), .val (.int ((((p1).toUInt32 >>> ((2 : Int32) &&& 31).toUInt32).toInt32) &&& (3 : Int32))), .val (.ref aNONE), .val (.int (0 : Int32))]) rfl k) ?_
        show OwnGo p e below _ (T20.setTop (mkF m 60 #[.val (.int p1), .val (.int (0 : Int32)), .val (.int (0 : Int32)), .val (.ref aNONE), .val (.int ((((p1).toUInt32 >>> ((2 : Int32) &&& 31).toUInt32).toInt32) &&& (3 : Int32))), .val (.ref aNONE), .val (.int (0 : Int32))] []))
        refine own_go (fun _ k => XS.goto X20.here hx rfl (pc0 := 60) (pc' := 105) rfl (hb hby at_60) (by decide) (by decide) k) ?_
        show OwnGo p e below _ (T20.setTop (mkF m 105 #[.val (.int p1), .val (.int (0 : Int32)), .val (.int (0 : Int32)), .val (.ref aNONE), .val (.int ((((p1).toUInt32 >>> ((2 : Int32) &&& 31).toUInt32).toInt32) &&& (3 : Int32))), .val (.ref aNONE), .val (.int (0 : Int32))] []))
        refine own_go (fun _ k => XS.aload X20.here hx rfl (hb hby at_105) rfl rfl k) ?_
        show OwnGo p e below _ (T20.setTop (mkF m 107 #[.val (.int p1), .val (.int (0 : Int32)), .val (.int (0 : Int32)), .val (.ref aNONE), .val (.int ((((p1).toUInt32 >>> ((2 : Int32) &&& 31).toUInt32).toInt32) &&& (3 : Int32))), .val (.ref aNONE), .val (.int (0 : Int32))] [(.ref aNONE)]))
        obtain ⟨cq21, kq21, qa21, qb21, qc21⟩ := isOf hZ e20 (F0.2.1.ext O0.2)
        obtain ⟨_, _, ⟨T21, L21, k21, n21⟩, -, X21, ⟨Lc21, hQ21, l21, y21, z21⟩, st21⟩ := X20.virtualBack hx (y := (⟨"com/example/lachesis/lachesis/diff/Breaks", "breaksOld", "()Z"⟩ : MethodName)) (z := (⟨"com/example/lachesis/lachesis/diff/Breaks", "breaksOld", "()Z"⟩ : MethodName)) hown (mvT hZ (hw _ (List.mem_of_getElem? (i := 6) rfl))) (mvT hZ (hw _ (List.mem_of_getElem? (i := 7) rfl))) (notFace_of_selects (args := #[]) (mvT hZ (hw _ (List.mem_of_getElem? (i := 9) rfl)))) (mvT hZ (hw _ (List.mem_of_getElem? (i := 9) rfl))) (mvT hZ (hw _ (List.mem_of_getElem? (i := 8) rfl))) (by decide) (backOf (W := 0) (rm_oldNONE l Z a0 hw [] aNONE aBACKWARD aBOTH aFORWARD F0 h0 n0 O0) hZ (hw _ (List.mem_of_getElem? (i := 10) rfl)) (hw _ (List.mem_of_getElem? (i := 2) rfl)) (by decide) (by decide)) qa21 qc21 (g := (mkF m 107 #[.val (.int p1), .val (.int (0 : Int32)), .val (.int (0 : Int32)), .val (.ref aNONE), .val (.int ((((p1).toUInt32 >>> ((2 : Int32) &&& 31).toUInt32).toInt32) &&& (3 : Int32))), .val (.ref aNONE), .val (.int (0 : Int32))] [(.ref aNONE)])) rfl (by rw [hml]; rfl) (Steps.refl _) (argsL := []) (rest := []) (lenOf pd___Z rfl) rfl (by show 2 * 0 + _ ≤ _; exact Nat.le_of_eq rfl) (hb hby at_107) (fun _ _ => ⟨rfl, e20, (by decide : 0 + 0 ≤ _), (by decide : 0 + 0 ≤ _)⟩)
        dsimp only [Pt.U, Pt.locs, Pt.cells, Pt.slots] at X21 l21 y21 z21 st21 hQ21
        subst l21 y21 z21
        obtain ⟨rfl, Nq21, K21⟩ := hQ21
        have N21 := Fr.app N18 Nq21
        refine own_go (fun _ k => st21.trans k) ?_
        show OwnGo p e below _ (T21.setTop (mkF m 110 #[.val (.int p1), .val (.int (0 : Int32)), .val (.int (0 : Int32)), .val (.ref aNONE), .val (.int ((((p1).toUInt32 >>> ((2 : Int32) &&& 31).toUInt32).toInt32) &&& (3 : Int32))), .val (.ref aNONE), .val (.int (0 : Int32))] [(.int (0 : Int32))]))
        refine own_go (fun _ k => XS.iload X21.here hx rfl (hb hby at_110) rfl k) ?_
        show OwnGo p e below _ (T21.setTop (mkF m 112 #[.val (.int p1), .val (.int (0 : Int32)), .val (.int (0 : Int32)), .val (.ref aNONE), .val (.int ((((p1).toUInt32 >>> ((2 : Int32) &&& 31).toUInt32).toInt32) &&& (3 : Int32))), .val (.ref aNONE), .val (.int (0 : Int32))] [(.int (0 : Int32)), (.int (0 : Int32))]))
        refine own_go (fun _ k => XS.icmpNo X21.here hx rfl (hb hby at_112) rfl (by decide) k) ?_
        show OwnGo p e below _ (T21.setTop (mkF m 115 #[.val (.int p1), .val (.int (0 : Int32)), .val (.int (0 : Int32)), .val (.ref aNONE), .val (.int ((((p1).toUInt32 >>> ((2 : Int32) &&& 31).toUInt32).toInt32) &&& (3 : Int32))), .val (.ref aNONE), .val (.int (0 : Int32))] []))
        refine own_go (fun _ k => XS.iconst X21.here hx rfl (hb hby at_115) k) ?_
        show OwnGo p e below _ (T21.setTop (mkF m 116 #[.val (.int p1), .val (.int (0 : Int32)), .val (.int (0 : Int32)), .val (.ref aNONE), .val (.int ((((p1).toUInt32 >>> ((2 : Int32) &&& 31).toUInt32).toInt32) &&& (3 : Int32))), .val (.ref aNONE), .val (.int (0 : Int32))] [(.int (1 : Int32))]))
        refine own_go (fun _ k => XS.goto X21.here hx rfl (pc0 := 116) (pc' := 120) rfl (hb hby at_116) (by decide) (by decide) k) ?_
        show OwnGo p e below _ (T21.setTop (mkF m 120 #[.val (.int p1), .val (.int (0 : Int32)), .val (.int (0 : Int32)), .val (.ref aNONE), .val (.int ((((p1).toUInt32 >>> ((2 : Int32) &&& 31).toUInt32).toInt32) &&& (3 : Int32))), .val (.ref aNONE), .val (.int (0 : Int32))] [(.int (1 : Int32))]))
        obtain ⟨fs, hr, hrun, hended, hW, hsame⟩ := X21.leave (v := some (.int (1 : Int32))) (fun h => by rw [Bd.returns] at h; cases h)
        refine ⟨_, _, retOut X21 hx Bd.returns rfl (Or.inl ⟨rfl, Or.inr (Or.inl rfl), _, rfl⟩) (hb hby at_120) hr, hrun, hended, _, _, rfl, ?_, ⟨_, rfl⟩, hW, hsame.mono (by decide) (by decide)⟩
        show Q_law Z aNONE aBACKWARD aBOTH aFORWARD p1 h0 n0 _ T21.heap _
        rw [K21]
        exact ⟨rfl, N21⟩
      · refine own_go (fun _ k => XS.ifYes X18.here hx rfl (pc0 := 49) (pc' := 63) rfl (hb hby at_49) rfl ((if0 _ _).trans (feq hc19).2) (by decide) (by decide) k) ?_
        show OwnGo p e below _ (T18.setTop (mkF m 63 #[.val (.int p1), .val (.int (0 : Int32)), .val (.int (0 : Int32)), .val (.ref aNONE), .val (.int ((((p1).toUInt32 >>> ((2 : Int32) &&& 31).toUInt32).toInt32) &&& (3 : Int32))), .unset, .unset] []))
        refine own_go (fun _ k => XS.iload X18.here hx rfl (hb hby at_63) rfl k) ?_
        show OwnGo p e below _ (T18.setTop (mkF m 65 #[.val (.int p1), .val (.int (0 : Int32)), .val (.int (0 : Int32)), .val (.ref aNONE), .val (.int ((((p1).toUInt32 >>> ((2 : Int32) &&& 31).toUInt32).toInt32) &&& (3 : Int32))), .unset, .unset] [(.int ((((p1).toUInt32 >>> ((2 : Int32) &&& 31).toUInt32).toInt32) &&& (3 : Int32)))]))
        refine own_go (fun _ k => XS.iconst X18.here hx rfl (hb hby at_65) k) ?_
        show OwnGo p e below _ (T18.setTop (mkF m 66 #[.val (.int p1), .val (.int (0 : Int32)), .val (.int (0 : Int32)), .val (.ref aNONE), .val (.int ((((p1).toUInt32 >>> ((2 : Int32) &&& 31).toUInt32).toInt32) &&& (3 : Int32))), .unset, .unset] [(.int (1 : Int32)), (.int ((((p1).toUInt32 >>> ((2 : Int32) &&& 31).toUInt32).toInt32) &&& (3 : Int32)))]))
        by_cases hc22 : ((((p1).toUInt32 >>> ((2 : Int32) &&& 31).toUInt32).toInt32) &&& (3 : Int32)) = (1 : Int32)
        · refine own_go (fun _ k => XS.icmpNo X18.here hx rfl (hb hby at_66) rfl (teq hc22).2 k) ?_
          show OwnGo p e below _ (T18.setTop (mkF m 69 #[.val (.int p1), .val (.int (0 : Int32)), .val (.int (0 : Int32)), .val (.ref aNONE), .val (.int ((((p1).toUInt32 >>> ((2 : Int32) &&& 31).toUInt32).toInt32) &&& (3 : Int32))), .unset, .unset] []))
          obtain ⟨T23, X23, e23, st23⟩ := getS X18 hx hZ hown (host := "") (hw _ (List.mem_of_getElem? (i := 20) rfl)) Via.refl K18 (F0.2.2.1.ext O0.2) (g := (mkF m 69 #[.val (.int p1), .val (.int (0 : Int32)), .val (.int (0 : Int32)), .val (.ref aNONE), .val (.int ((((p1).toUInt32 >>> ((2 : Int32) &&& 31).toUInt32).toInt32) &&& (3 : Int32))), .unset, .unset] [])) rfl (hb hby at_69)
          refine own_go st23 ?_
          show OwnGo p e below _ (T23.setTop (mkF m 72 #[.val (.int p1), .val (.int (0 : Int32)), .val (.int (0 : Int32)), .val (.ref aNONE), .val (.int ((((p1).toUInt32 >>> ((2 : Int32) &&& 31).toUInt32).toInt32) &&& (3 : Int32))), .unset, .unset] [(.ref aBACKWARD)]))
          refine own_go (fun _ k => XS.astore X23.here hx rfl (hb hby at_72) rfl rfl (l' := #[.val (.int p1), .val (.int (0 : Int32)), .val (.int (0 : Int32)), .val (.ref aNONE), .val (.int ((((p1).toUInt32 >>> ((2 : Int32) &&& 31).toUInt32).toInt32) &&& (3 : Int32))), .val (.ref aBACKWARD), .unset]) rfl k) ?_
          show OwnGo p e below _ (T23.setTop (mkF m 74 #[.val (.int p1), .val (.int (0 : Int32)), .val (.int (0 : Int32)), .val (.ref aNONE), .val (.int ((((p1).toUInt32 >>> ((2 : Int32) &&& 31).toUInt32).toInt32) &&& (3 : Int32))), .val (.ref aBACKWARD), .unset] []))
          refine own_go (fun _ k => XS.iconst X23.here hx rfl (hb hby at_74) k) ?_
          show OwnGo p e below _ (T23.setTop (mkF m 75 #[.val (.int p1), .val (.int (0 : Int32)), .val (.int (0 : Int32)), .val (.ref aNONE), .val (.int ((((p1).toUInt32 >>> ((2 : Int32) &&& 31).toUInt32).toInt32) &&& (3 : Int32))), .val (.ref aBACKWARD), .unset] [(.int (1 : Int32))]))
          refine own_go (fun _ k => XS.istore X23.here hx rfl (hb hby at_75) rfl (l' := #[.val (.int p1), .val (.int (0 : Int32)), .val (.int (0 : Int32)), .val (.ref aNONE), .val (.int ((((p1).toUInt32 >>> ((2 : Int32) &&& 31).toUInt32).toInt32) &&& (3 : Int32))), .val (.ref aBACKWARD), .val (.int (1 : Int32))]) rfl k) ?_
          show OwnGo p e below _ (T23.setTop (mkF m 77 #[.val (.int p1), .val (.int (0 : Int32)), .val (.int (0 : Int32)), .val (.ref aNONE), .val (.int ((((p1).toUInt32 >>> ((2 : Int32) &&& 31).toUInt32).toInt32) &&& (3 : Int32))), .val (.ref aBACKWARD), .val (.int (1 : Int32))] []))
          refine own_go (fun _ k => XS.goto X23.here hx rfl (pc0 := 77) (pc' := 105) rfl (hb hby at_77) (by decide) (by decide) k) ?_
          show OwnGo p e below _ (T23.setTop (mkF m 105 #[.val (.int p1), .val (.int (0 : Int32)), .val (.int (0 : Int32)), .val (.ref aNONE), .val (.int ((((p1).toUInt32 >>> ((2 : Int32) &&& 31).toUInt32).toInt32) &&& (3 : Int32))), .val (.ref aBACKWARD), .val (.int (1 : Int32))] []))
          refine own_go (fun _ k => XS.aload X23.here hx rfl (hb hby at_105) rfl rfl k) ?_
          show OwnGo p e below _ (T23.setTop (mkF m 107 #[.val (.int p1), .val (.int (0 : Int32)), .val (.int (0 : Int32)), .val (.ref aNONE), .val (.int ((((p1).toUInt32 >>> ((2 : Int32) &&& 31).toUInt32).toInt32) &&& (3 : Int32))), .val (.ref aBACKWARD), .val (.int (1 : Int32))] [(.ref aBACKWARD)]))
          obtain ⟨cq24, kq24, qa24, qb24, qc24⟩ := isOf hZ e23 (F0.2.2.2.1.ext O0.2)
          obtain ⟨_, _, ⟨T24, L24, k24, n24⟩, -, X24, ⟨Lc24, hQ24, l24, y24, z24⟩, st24⟩ := X23.virtualBack hx (y := (⟨"com/example/lachesis/lachesis/diff/Breaks", "breaksOld", "()Z"⟩ : MethodName)) (z := (⟨"com/example/lachesis/lachesis/diff/Breaks", "breaksOld", "()Z"⟩ : MethodName)) hown (mvT hZ (hw _ (List.mem_of_getElem? (i := 6) rfl))) (mvT hZ (hw _ (List.mem_of_getElem? (i := 7) rfl))) (notFace_of_selects (args := #[]) (mvT hZ (hw _ (List.mem_of_getElem? (i := 9) rfl)))) (mvT hZ (hw _ (List.mem_of_getElem? (i := 9) rfl))) (mvT hZ (hw _ (List.mem_of_getElem? (i := 8) rfl))) (by decide) (backOf (W := 0) (rm_oldBACKWARD l Z a0 hw [] aNONE aBACKWARD aBOTH aFORWARD F0 h0 n0 O0) hZ (hw _ (List.mem_of_getElem? (i := 10) rfl)) (hw _ (List.mem_of_getElem? (i := 2) rfl)) (by decide) (by decide)) qa24 qc24 (g := (mkF m 107 #[.val (.int p1), .val (.int (0 : Int32)), .val (.int (0 : Int32)), .val (.ref aNONE), .val (.int ((((p1).toUInt32 >>> ((2 : Int32) &&& 31).toUInt32).toInt32) &&& (3 : Int32))), .val (.ref aBACKWARD), .val (.int (1 : Int32))] [(.ref aBACKWARD)])) rfl (by rw [hml]; rfl) (Steps.refl _) (argsL := []) (rest := []) (lenOf pd___Z rfl) rfl (by show 2 * 0 + _ ≤ _; exact Nat.le_of_eq rfl) (hb hby at_107) (fun _ _ => ⟨rfl, e23, (by decide : 0 + 0 ≤ _), (by decide : 0 + 0 ≤ _)⟩)
          dsimp only [Pt.U, Pt.locs, Pt.cells, Pt.slots] at X24 l24 y24 z24 st24 hQ24
          subst l24 y24 z24
          obtain ⟨rfl, Nq24, K24⟩ := hQ24
          have N24 := Fr.app N18 Nq24
          refine own_go (fun _ k => st24.trans k) ?_
          show OwnGo p e below _ (T24.setTop (mkF m 110 #[.val (.int p1), .val (.int (0 : Int32)), .val (.int (0 : Int32)), .val (.ref aNONE), .val (.int ((((p1).toUInt32 >>> ((2 : Int32) &&& 31).toUInt32).toInt32) &&& (3 : Int32))), .val (.ref aBACKWARD), .val (.int (1 : Int32))] [(.int (1 : Int32))]))
          refine own_go (fun _ k => XS.iload X24.here hx rfl (hb hby at_110) rfl k) ?_
          show OwnGo p e below _ (T24.setTop (mkF m 112 #[.val (.int p1), .val (.int (0 : Int32)), .val (.int (0 : Int32)), .val (.ref aNONE), .val (.int ((((p1).toUInt32 >>> ((2 : Int32) &&& 31).toUInt32).toInt32) &&& (3 : Int32))), .val (.ref aBACKWARD), .val (.int (1 : Int32))] [(.int (1 : Int32)), (.int (1 : Int32))]))
          refine own_go (fun _ k => XS.icmpNo X24.here hx rfl (hb hby at_112) rfl (by decide) k) ?_
          show OwnGo p e below _ (T24.setTop (mkF m 115 #[.val (.int p1), .val (.int (0 : Int32)), .val (.int (0 : Int32)), .val (.ref aNONE), .val (.int ((((p1).toUInt32 >>> ((2 : Int32) &&& 31).toUInt32).toInt32) &&& (3 : Int32))), .val (.ref aBACKWARD), .val (.int (1 : Int32))] []))
          refine own_go (fun _ k => XS.iconst X24.here hx rfl (hb hby at_115) k) ?_
          show OwnGo p e below _ (T24.setTop (mkF m 116 #[.val (.int p1), .val (.int (0 : Int32)), .val (.int (0 : Int32)), .val (.ref aNONE), .val (.int ((((p1).toUInt32 >>> ((2 : Int32) &&& 31).toUInt32).toInt32) &&& (3 : Int32))), .val (.ref aBACKWARD), .val (.int (1 : Int32))] [(.int (1 : Int32))]))
          refine own_go (fun _ k => XS.goto X24.here hx rfl (pc0 := 116) (pc' := 120) rfl (hb hby at_116) (by decide) (by decide) k) ?_
          show OwnGo p e below _ (T24.setTop (mkF m 120 #[.val (.int p1), .val (.int (0 : Int32)), .val (.int (0 : Int32)), .val (.ref aNONE), .val (.int ((((p1).toUInt32 >>> ((2 : Int32) &&& 31).toUInt32).toInt32) &&& (3 : Int32))), .val (.ref aBACKWARD), .val (.int (1 : Int32))] [(.int (1 : Int32))]))
          obtain ⟨fs, hr, hrun, hended, hW, hsame⟩ := X24.leave (v := some (.int (1 : Int32))) (fun h => by rw [Bd.returns] at h; cases h)
          refine ⟨_, _, retOut X24 hx Bd.returns rfl (Or.inl ⟨rfl, Or.inr (Or.inl rfl), _, rfl⟩) (hb hby at_120) hr, hrun, hended, _, _, rfl, ?_, ⟨_, rfl⟩, hW, hsame.mono (by decide) (by decide)⟩
          show Q_law Z aNONE aBACKWARD aBOTH aFORWARD p1 h0 n0 _ T24.heap _
          rw [K24]
          exact ⟨rfl, N24⟩
        · refine own_go (fun _ k => XS.icmpYes X18.here hx rfl (pc0 := 66) (pc' := 80) rfl (hb hby at_66) rfl (feq hc22).2 (by decide) (by decide) k) ?_
          show OwnGo p e below _ (T18.setTop (mkF m 80 #[.val (.int p1), .val (.int (0 : Int32)), .val (.int (0 : Int32)), .val (.ref aNONE), .val (.int ((((p1).toUInt32 >>> ((2 : Int32) &&& 31).toUInt32).toInt32) &&& (3 : Int32))), .unset, .unset] []))
          refine own_go (fun _ k => XS.iload X18.here hx rfl (hb hby at_80) rfl k) ?_
          show OwnGo p e below _ (T18.setTop (mkF m 82 #[.val (.int p1), .val (.int (0 : Int32)), .val (.int (0 : Int32)), .val (.ref aNONE), .val (.int ((((p1).toUInt32 >>> ((2 : Int32) &&& 31).toUInt32).toInt32) &&& (3 : Int32))), .unset, .unset] [(.int ((((p1).toUInt32 >>> ((2 : Int32) &&& 31).toUInt32).toInt32) &&& (3 : Int32)))]))
          refine own_go (fun _ k => XS.iconst X18.here hx rfl (hb hby at_82) k) ?_
          show OwnGo p e below _ (T18.setTop (mkF m 83 #[.val (.int p1), .val (.int (0 : Int32)), .val (.int (0 : Int32)), .val (.ref aNONE), .val (.int ((((p1).toUInt32 >>> ((2 : Int32) &&& 31).toUInt32).toInt32) &&& (3 : Int32))), .unset, .unset] [(.int (2 : Int32)), (.int ((((p1).toUInt32 >>> ((2 : Int32) &&& 31).toUInt32).toInt32) &&& (3 : Int32)))]))
          by_cases hc25 : ((((p1).toUInt32 >>> ((2 : Int32) &&& 31).toUInt32).toInt32) &&& (3 : Int32)) = (2 : Int32)
          · refine own_go (fun _ k => XS.icmpNo X18.here hx rfl (hb hby at_83) rfl (teq hc25).2 k) ?_
            show OwnGo p e below _ (T18.setTop (mkF m 86 #[.val (.int p1), .val (.int (0 : Int32)), .val (.int (0 : Int32)), .val (.ref aNONE), .val (.int ((((p1).toUInt32 >>> ((2 : Int32) &&& 31).toUInt32).toInt32) &&& (3 : Int32))), .unset, .unset] []))
            obtain ⟨T26, X26, e26, st26⟩ := getS X18 hx hZ hown (host := "") (hw _ (List.mem_of_getElem? (i := 19) rfl)) Via.refl K18 (F0.2.2.2.2.2.2.2.2.2.1.ext O0.2) (g := (mkF m 86 #[.val (.int p1), .val (.int (0 : Int32)), .val (.int (0 : Int32)), .val (.ref aNONE), .val (.int ((((p1).toUInt32 >>> ((2 : Int32) &&& 31).toUInt32).toInt32) &&& (3 : Int32))), .unset, .unset] [])) rfl (hb hby at_86)
            refine own_go st26 ?_
            show OwnGo p e below _ (T26.setTop (mkF m 89 #[.val (.int p1), .val (.int (0 : Int32)), .val (.int (0 : Int32)), .val (.ref aNONE), .val (.int ((((p1).toUInt32 >>> ((2 : Int32) &&& 31).toUInt32).toInt32) &&& (3 : Int32))), .unset, .unset] [(.ref aFORWARD)]))
            refine own_go (fun _ k => XS.astore X26.here hx rfl (hb hby at_89) rfl rfl (l' := #[.val (.int p1), .val (.int (0 : Int32)), .val (.int (0 : Int32)), .val (.ref aNONE), .val (.int ((((p1).toUInt32 >>> ((2 : Int32) &&& 31).toUInt32).toInt32) &&& (3 : Int32))), .val (.ref aFORWARD), .unset]) rfl k) ?_
            show OwnGo p e below _ (T26.setTop (mkF m 91 #[.val (.int p1), .val (.int (0 : Int32)), .val (.int (0 : Int32)), .val (.ref aNONE), .val (.int ((((p1).toUInt32 >>> ((2 : Int32) &&& 31).toUInt32).toInt32) &&& (3 : Int32))), .val (.ref aFORWARD), .unset] []))
            refine own_go (fun _ k => XS.iconst X26.here hx rfl (hb hby at_91) k) ?_
            show OwnGo p e below _ (T26.setTop (mkF m 92 #[.val (.int p1), .val (.int (0 : Int32)), .val (.int (0 : Int32)), .val (.ref aNONE), .val (.int ((((p1).toUInt32 >>> ((2 : Int32) &&& 31).toUInt32).toInt32) &&& (3 : Int32))), .val (.ref aFORWARD), .unset] [(.int (0 : Int32))]))
            refine own_go (fun _ k => XS.istore X26.here hx rfl (hb hby at_92) rfl (l' := #[.val (.int p1), .val (.int (0 : Int32)), .val (.int (0 : Int32)), .val (.ref aNONE), .val (.int ((((p1).toUInt32 >>> ((2 : Int32) &&& 31).toUInt32).toInt32) &&& (3 : Int32))), .val (.ref aFORWARD), .val (.int (0 : Int32))]) rfl k) ?_
            show OwnGo p e below _ (T26.setTop (mkF m 94 #[.val (.int p1), .val (.int (0 : Int32)), .val (.int (0 : Int32)), .val (.ref aNONE), .val (.int ((((p1).toUInt32 >>> ((2 : Int32) &&& 31).toUInt32).toInt32) &&& (3 : Int32))), .val (.ref aFORWARD), .val (.int (0 : Int32))] []))
            refine own_go (fun _ k => XS.goto X26.here hx rfl (pc0 := 94) (pc' := 105) rfl (hb hby at_94) (by decide) (by decide) k) ?_
            show OwnGo p e below _ (T26.setTop (mkF m 105 #[.val (.int p1), .val (.int (0 : Int32)), .val (.int (0 : Int32)), .val (.ref aNONE), .val (.int ((((p1).toUInt32 >>> ((2 : Int32) &&& 31).toUInt32).toInt32) &&& (3 : Int32))), .val (.ref aFORWARD), .val (.int (0 : Int32))] []))
            refine own_go (fun _ k => XS.aload X26.here hx rfl (hb hby at_105) rfl rfl k) ?_
            show OwnGo p e below _ (T26.setTop (mkF m 107 #[.val (.int p1), .val (.int (0 : Int32)), .val (.int (0 : Int32)), .val (.ref aNONE), .val (.int ((((p1).toUInt32 >>> ((2 : Int32) &&& 31).toUInt32).toInt32) &&& (3 : Int32))), .val (.ref aFORWARD), .val (.int (0 : Int32))] [(.ref aFORWARD)]))
            obtain ⟨cq27, kq27, qa27, qb27, qc27⟩ := isOf hZ e26 (F0.2.2.2.2.2.2.2.2.2.2.1.ext O0.2)
            obtain ⟨_, _, ⟨T27, L27, k27, n27⟩, -, X27, ⟨Lc27, hQ27, l27, y27, z27⟩, st27⟩ := X26.virtualBack hx (y := (⟨"com/example/lachesis/lachesis/diff/Breaks", "breaksOld", "()Z"⟩ : MethodName)) (z := (⟨"com/example/lachesis/lachesis/diff/Breaks", "breaksOld", "()Z"⟩ : MethodName)) hown (mvT hZ (hw _ (List.mem_of_getElem? (i := 6) rfl))) (mvT hZ (hw _ (List.mem_of_getElem? (i := 7) rfl))) (notFace_of_selects (args := #[]) (mvT hZ (hw _ (List.mem_of_getElem? (i := 9) rfl)))) (mvT hZ (hw _ (List.mem_of_getElem? (i := 9) rfl))) (mvT hZ (hw _ (List.mem_of_getElem? (i := 8) rfl))) (by decide) (backOf (W := 0) (rm_oldFORWARD l Z a0 hw [] aNONE aBACKWARD aBOTH aFORWARD F0 h0 n0 O0) hZ (hw _ (List.mem_of_getElem? (i := 10) rfl)) (hw _ (List.mem_of_getElem? (i := 2) rfl)) (by decide) (by decide)) qa27 qc27 (g := (mkF m 107 #[.val (.int p1), .val (.int (0 : Int32)), .val (.int (0 : Int32)), .val (.ref aNONE), .val (.int ((((p1).toUInt32 >>> ((2 : Int32) &&& 31).toUInt32).toInt32) &&& (3 : Int32))), .val (.ref aFORWARD), .val (.int (0 : Int32))] [(.ref aFORWARD)])) rfl (by rw [hml]; rfl) (Steps.refl _) (argsL := []) (rest := []) (lenOf pd___Z rfl) rfl (by show 2 * 0 + _ ≤ _; exact Nat.le_of_eq rfl) (hb hby at_107) (fun _ _ => ⟨rfl, e26, (by decide : 0 + 0 ≤ _), (by decide : 0 + 0 ≤ _)⟩)
            dsimp only [Pt.U, Pt.locs, Pt.cells, Pt.slots] at X27 l27 y27 z27 st27 hQ27
            subst l27 y27 z27
            obtain ⟨rfl, Nq27, K27⟩ := hQ27
            have N27 := Fr.app N18 Nq27
            refine own_go (fun _ k => st27.trans k) ?_
            show OwnGo p e below _ (T27.setTop (mkF m 110 #[.val (.int p1), .val (.int (0 : Int32)), .val (.int (0 : Int32)), .val (.ref aNONE), .val (.int ((((p1).toUInt32 >>> ((2 : Int32) &&& 31).toUInt32).toInt32) &&& (3 : Int32))), .val (.ref aFORWARD), .val (.int (0 : Int32))] [(.int (0 : Int32))]))
            refine own_go (fun _ k => XS.iload X27.here hx rfl (hb hby at_110) rfl k) ?_
            show OwnGo p e below _ (T27.setTop (mkF m 112 #[.val (.int p1), .val (.int (0 : Int32)), .val (.int (0 : Int32)), .val (.ref aNONE), .val (.int ((((p1).toUInt32 >>> ((2 : Int32) &&& 31).toUInt32).toInt32) &&& (3 : Int32))), .val (.ref aFORWARD), .val (.int (0 : Int32))] [(.int (0 : Int32)), (.int (0 : Int32))]))
            refine own_go (fun _ k => XS.icmpNo X27.here hx rfl (hb hby at_112) rfl (by decide) k) ?_
            show OwnGo p e below _ (T27.setTop (mkF m 115 #[.val (.int p1), .val (.int (0 : Int32)), .val (.int (0 : Int32)), .val (.ref aNONE), .val (.int ((((p1).toUInt32 >>> ((2 : Int32) &&& 31).toUInt32).toInt32) &&& (3 : Int32))), .val (.ref aFORWARD), .val (.int (0 : Int32))] []))
            refine own_go (fun _ k => XS.iconst X27.here hx rfl (hb hby at_115) k) ?_
            show OwnGo p e below _ (T27.setTop (mkF m 116 #[.val (.int p1), .val (.int (0 : Int32)), .val (.int (0 : Int32)), .val (.ref aNONE), .val (.int ((((p1).toUInt32 >>> ((2 : Int32) &&& 31).toUInt32).toInt32) &&& (3 : Int32))), .val (.ref aFORWARD), .val (.int (0 : Int32))] [(.int (1 : Int32))]))
            refine own_go (fun _ k => XS.goto X27.here hx rfl (pc0 := 116) (pc' := 120) rfl (hb hby at_116) (by decide) (by decide) k) ?_
            show OwnGo p e below _ (T27.setTop (mkF m 120 #[.val (.int p1), .val (.int (0 : Int32)), .val (.int (0 : Int32)), .val (.ref aNONE), .val (.int ((((p1).toUInt32 >>> ((2 : Int32) &&& 31).toUInt32).toInt32) &&& (3 : Int32))), .val (.ref aFORWARD), .val (.int (0 : Int32))] [(.int (1 : Int32))]))
            obtain ⟨fs, hr, hrun, hended, hW, hsame⟩ := X27.leave (v := some (.int (1 : Int32))) (fun h => by rw [Bd.returns] at h; cases h)
            refine ⟨_, _, retOut X27 hx Bd.returns rfl (Or.inl ⟨rfl, Or.inr (Or.inl rfl), _, rfl⟩) (hb hby at_120) hr, hrun, hended, _, _, rfl, ?_, ⟨_, rfl⟩, hW, hsame.mono (by decide) (by decide)⟩
            show Q_law Z aNONE aBACKWARD aBOTH aFORWARD p1 h0 n0 _ T27.heap _
            rw [K27]
            exact ⟨rfl, N27⟩
          · refine own_go (fun _ k => XS.icmpYes X18.here hx rfl (pc0 := 83) (pc' := 97) rfl (hb hby at_83) rfl (feq hc25).2 (by decide) (by decide) k) ?_
            show OwnGo p e below _ (T18.setTop (mkF m 97 #[.val (.int p1), .val (.int (0 : Int32)), .val (.int (0 : Int32)), .val (.ref aNONE), .val (.int ((((p1).toUInt32 >>> ((2 : Int32) &&& 31).toUInt32).toInt32) &&& (3 : Int32))), .unset, .unset] []))
            obtain ⟨T28, X28, e28, st28⟩ := getS X18 hx hZ hown (host := "") (hw _ (List.mem_of_getElem? (i := 18) rfl)) Via.refl K18 (F0.2.2.2.2.2.2.1.ext O0.2) (g := (mkF m 97 #[.val (.int p1), .val (.int (0 : Int32)), .val (.int (0 : Int32)), .val (.ref aNONE), .val (.int ((((p1).toUInt32 >>> ((2 : Int32) &&& 31).toUInt32).toInt32) &&& (3 : Int32))), .unset, .unset] [])) rfl (hb hby at_97)
            refine own_go st28 ?_
            show OwnGo p e below _ (T28.setTop (mkF m 100 #[.val (.int p1), .val (.int (0 : Int32)), .val (.int (0 : Int32)), .val (.ref aNONE), .val (.int ((((p1).toUInt32 >>> ((2 : Int32) &&& 31).toUInt32).toInt32) &&& (3 : Int32))), .unset, .unset] [(.ref aBOTH)]))
            refine own_go (fun _ k => XS.astore X28.here hx rfl (hb hby at_100) rfl rfl (l' := #[.val (.int p1), .val (.int (0 : Int32)), .val (.int (0 : Int32)), .val (.ref aNONE), .val (.int ((((p1).toUInt32 >>> ((2 : Int32) &&& 31).toUInt32).toInt32) &&& (3 : Int32))), .val (.ref aBOTH), .unset]) rfl k) ?_
            show OwnGo p e below _ (T28.setTop (mkF m 102 #[.val (.int p1), .val (.int (0 : Int32)), .val (.int (0 : Int32)), .val (.ref aNONE), .val (.int ((((p1).toUInt32 >>> ((2 : Int32) &&& 31).toUInt32).toInt32) &&& (3 : Int32))), .val (.ref aBOTH), .unset] []))
            refine own_go (fun _ k => XS.iconst X28.here hx rfl (hb hby at_102) k) ?_
            show OwnGo p e below _ (T28.setTop (mkF m 103 #[.val (.int p1), .val (.int (0 : Int32)), .val (.int (0 : Int32)), .val (.ref aNONE), .val (.int ((((p1).toUInt32 >>> ((2 : Int32) &&& 31).toUInt32).toInt32) &&& (3 : Int32))), .val (.ref aBOTH), .unset] [(.int (1 : Int32))]))
            refine own_go (fun _ k => XS.istore X28.here hx rfl (hb hby at_103) rfl (l' := #[.val (.int p1), .val (.int (0 : Int32)), .val (.int (0 : Int32)), .val (.ref aNONE), .val (.int ((((p1).toUInt32 >>> ((2 : Int32) &&& 31).toUInt32).toInt32) &&& (3 : Int32))), .val (.ref aBOTH), .val (.int (1 : Int32))]) rfl k) ?_
            show OwnGo p e below _ (T28.setTop (mkF m 105 #[.val (.int p1), .val (.int (0 : Int32)), .val (.int (0 : Int32)), .val (.ref aNONE), .val (.int ((((p1).toUInt32 >>> ((2 : Int32) &&& 31).toUInt32).toInt32) &&& (3 : Int32))), .val (.ref aBOTH), .val (.int (1 : Int32))] []))
            refine own_go (fun _ k => XS.aload X28.here hx rfl (hb hby at_105) rfl rfl k) ?_
            show OwnGo p e below _ (T28.setTop (mkF m 107 #[.val (.int p1), .val (.int (0 : Int32)), .val (.int (0 : Int32)), .val (.ref aNONE), .val (.int ((((p1).toUInt32 >>> ((2 : Int32) &&& 31).toUInt32).toInt32) &&& (3 : Int32))), .val (.ref aBOTH), .val (.int (1 : Int32))] [(.ref aBOTH)]))
            obtain ⟨cq29, kq29, qa29, qb29, qc29⟩ := isOf hZ e28 (F0.2.2.2.2.2.2.2.1.ext O0.2)
            obtain ⟨_, _, ⟨T29, L29, k29, n29⟩, -, X29, ⟨Lc29, hQ29, l29, y29, z29⟩, st29⟩ := X28.virtualBack hx (y := (⟨"com/example/lachesis/lachesis/diff/Breaks", "breaksOld", "()Z"⟩ : MethodName)) (z := (⟨"com/example/lachesis/lachesis/diff/Breaks", "breaksOld", "()Z"⟩ : MethodName)) hown (mvT hZ (hw _ (List.mem_of_getElem? (i := 6) rfl))) (mvT hZ (hw _ (List.mem_of_getElem? (i := 7) rfl))) (notFace_of_selects (args := #[]) (mvT hZ (hw _ (List.mem_of_getElem? (i := 9) rfl)))) (mvT hZ (hw _ (List.mem_of_getElem? (i := 9) rfl))) (mvT hZ (hw _ (List.mem_of_getElem? (i := 8) rfl))) (by decide) (backOf (W := 0) (rm_oldBOTH l Z a0 hw [] aNONE aBACKWARD aBOTH aFORWARD F0 h0 n0 O0) hZ (hw _ (List.mem_of_getElem? (i := 10) rfl)) (hw _ (List.mem_of_getElem? (i := 2) rfl)) (by decide) (by decide)) qa29 qc29 (g := (mkF m 107 #[.val (.int p1), .val (.int (0 : Int32)), .val (.int (0 : Int32)), .val (.ref aNONE), .val (.int ((((p1).toUInt32 >>> ((2 : Int32) &&& 31).toUInt32).toInt32) &&& (3 : Int32))), .val (.ref aBOTH), .val (.int (1 : Int32))] [(.ref aBOTH)])) rfl (by rw [hml]; rfl) (Steps.refl _) (argsL := []) (rest := []) (lenOf pd___Z rfl) rfl (by show 2 * 0 + _ ≤ _; exact Nat.le_of_eq rfl) (hb hby at_107) (fun _ _ => ⟨rfl, e28, (by decide : 0 + 0 ≤ _), (by decide : 0 + 0 ≤ _)⟩)
            dsimp only [Pt.U, Pt.locs, Pt.cells, Pt.slots] at X29 l29 y29 z29 st29 hQ29
            subst l29 y29 z29
            obtain ⟨rfl, Nq29, K29⟩ := hQ29
            have N29 := Fr.app N18 Nq29
            refine own_go (fun _ k => st29.trans k) ?_
            show OwnGo p e below _ (T29.setTop (mkF m 110 #[.val (.int p1), .val (.int (0 : Int32)), .val (.int (0 : Int32)), .val (.ref aNONE), .val (.int ((((p1).toUInt32 >>> ((2 : Int32) &&& 31).toUInt32).toInt32) &&& (3 : Int32))), .val (.ref aBOTH), .val (.int (1 : Int32))] [(.int (1 : Int32))]))
            refine own_go (fun _ k => XS.iload X29.here hx rfl (hb hby at_110) rfl k) ?_
            show OwnGo p e below _ (T29.setTop (mkF m 112 #[.val (.int p1), .val (.int (0 : Int32)), .val (.int (0 : Int32)), .val (.ref aNONE), .val (.int ((((p1).toUInt32 >>> ((2 : Int32) &&& 31).toUInt32).toInt32) &&& (3 : Int32))), .val (.ref aBOTH), .val (.int (1 : Int32))] [(.int (1 : Int32)), (.int (1 : Int32))]))
            refine own_go (fun _ k => XS.icmpNo X29.here hx rfl (hb hby at_112) rfl (by decide) k) ?_
            show OwnGo p e below _ (T29.setTop (mkF m 115 #[.val (.int p1), .val (.int (0 : Int32)), .val (.int (0 : Int32)), .val (.ref aNONE), .val (.int ((((p1).toUInt32 >>> ((2 : Int32) &&& 31).toUInt32).toInt32) &&& (3 : Int32))), .val (.ref aBOTH), .val (.int (1 : Int32))] []))
            refine own_go (fun _ k => XS.iconst X29.here hx rfl (hb hby at_115) k) ?_
            show OwnGo p e below _ (T29.setTop (mkF m 116 #[.val (.int p1), .val (.int (0 : Int32)), .val (.int (0 : Int32)), .val (.ref aNONE), .val (.int ((((p1).toUInt32 >>> ((2 : Int32) &&& 31).toUInt32).toInt32) &&& (3 : Int32))), .val (.ref aBOTH), .val (.int (1 : Int32))] [(.int (1 : Int32))]))
            refine own_go (fun _ k => XS.goto X29.here hx rfl (pc0 := 116) (pc' := 120) rfl (hb hby at_116) (by decide) (by decide) k) ?_
            show OwnGo p e below _ (T29.setTop (mkF m 120 #[.val (.int p1), .val (.int (0 : Int32)), .val (.int (0 : Int32)), .val (.ref aNONE), .val (.int ((((p1).toUInt32 >>> ((2 : Int32) &&& 31).toUInt32).toInt32) &&& (3 : Int32))), .val (.ref aBOTH), .val (.int (1 : Int32))] [(.int (1 : Int32))]))
            obtain ⟨fs, hr, hrun, hended, hW, hsame⟩ := X29.leave (v := some (.int (1 : Int32))) (fun h => by rw [Bd.returns] at h; cases h)
            refine ⟨_, _, retOut X29 hx Bd.returns rfl (Or.inl ⟨rfl, Or.inr (Or.inl rfl), _, rfl⟩) (hb hby at_120) hr, hrun, hended, _, _, rfl, ?_, ⟨_, rfl⟩, hW, hsame.mono (by decide) (by decide)⟩
            show Q_law Z aNONE aBACKWARD aBOTH aFORWARD p1 h0 n0 _ T29.heap _
            rw [K29]
            exact ⟨rfl, N29⟩
    · refine own_go (fun _ k => XS.ifNo X0.here hx rfl (hb hby at_15) rfl ((if0 _ _).trans (feq hc16).1) k) ?_
      show OwnGo p e below _ (s₁.setTop (mkF m 18 #[.val (.int p1), .val (.int (0 : Int32)), .unset, .unset, .unset, .unset, .unset] []))
      refine own_go (fun _ k => XS.iconst X0.here hx rfl (hb hby at_18) k) ?_
      show OwnGo p e below _ (s₁.setTop (mkF m 19 #[.val (.int p1), .val (.int (0 : Int32)), .unset, .unset, .unset, .unset, .unset] [(.int (1 : Int32))]))
      refine own_go (fun _ k => XS.goto X0.here hx rfl (pc0 := 19) (pc' := 23) rfl (hb hby at_19) (by decide) (by decide) k) ?_
      show OwnGo p e below _ (s₁.setTop (mkF m 23 #[.val (.int p1), .val (.int (0 : Int32)), .unset, .unset, .unset, .unset, .unset] [(.int (1 : Int32))]))
      refine own_go (fun _ k => XS.istoreN X0.here hx rfl (hb hby at_23) rfl (l' := #[.val (.int p1), .val (.int (0 : Int32)), .val (.int (1 : Int32)), .unset, .unset, .unset, .unset]) rfl k) ?_
      show OwnGo p e below _ (s₁.setTop (mkF m 24 #[.val (.int p1), .val (.int (0 : Int32)), .val (.int (1 : Int32)), .unset, .unset, .unset, .unset] []))
      refine own_go (fun _ k => XS.iloadN X0.here hx rfl (hb hby at_24) rfl k) ?_
      show OwnGo p e below _ (s₁.setTop (mkF m 25 #[.val (.int p1), .val (.int (0 : Int32)), .val (.int (1 : Int32)), .unset, .unset, .unset, .unset] [(.int (0 : Int32))]))
      refine own_go (fun _ k => XS.iloadN X0.here hx rfl (hb hby at_25) rfl k) ?_
      show OwnGo p e below _ (s₁.setTop (mkF m 26 #[.val (.int p1), .val (.int (0 : Int32)), .val (.int (1 : Int32)), .unset, .unset, .unset, .unset] [(.int (1 : Int32)), (.int (0 : Int32))]))
      obtain ⟨_, _, ⟨T30, L30, k30, n30⟩, -, X30, ⟨Lc30, hQ30, l30, y30, z30⟩, st30⟩ := Jvm.LawKit.callS X0 hx (y := (⟨"com/example/lachesis/lachesis/diff/Breaks", "of", "(ZZ)Lcom/example/lachesis/lachesis/diff/Breaks;"⟩ : MethodName)) hown (mvT hZ (hw _ (List.mem_of_getElem? (i := 0) rfl))) (mvT hZ (hw _ (List.mem_of_getElem? (i := 1) rfl))) (mvT hZ (hw _ (List.mem_of_getElem? (i := 2) rfl))) (mvT hZ (hw _ (List.mem_of_getElem? (i := 3) rfl))) (by decide) (backOf (W := 0) (rm_of l Z a0 hw [] aNONE aBACKWARD aBOTH aFORWARD F0 (0 : Int32) (1 : Int32) aFORWARD h0 n0 O0 (by simp)) hZ (hw _ (List.mem_of_getElem? (i := 3) rfl)) (hw _ (List.mem_of_getElem? (i := 2) rfl)) (by decide) (by decide)) (g := (mkF m 26 #[.val (.int p1), .val (.int (0 : Int32)), .val (.int (1 : Int32)), .unset, .unset, .unset, .unset] [(.int (1 : Int32)), (.int (0 : Int32))])) rfl (by rw [hml]; rfl) (argsL := [(.int (0 : Int32)), (.int (1 : Int32))]) (rest := []) (lenOf pd_Z_Z__Lcom_example_lachesis_lachesis_diff_Breaks_ rfl) rfl (by show 2 * 0 + _ ≤ _; exact Nat.le_of_eq rfl) (hb hby at_26) (fun _ _ => ⟨rfl, e0, (by decide : 0 + 0 ≤ _), (by decide : 0 + 0 ≤ _)⟩)
      dsimp only [Pt.U, Pt.locs, Pt.cells, Pt.slots] at X30 l30 y30 z30 st30 hQ30
      subst l30 y30 z30
      obtain ⟨rfl, Nq30, K30⟩ := hQ30
      have N30 := Fr.app N0 Nq30
      refine own_go st30 ?_
      show OwnGo p e below _ (T30.setTop (mkF m 29 #[.val (.int p1), .val (.int (0 : Int32)), .val (.int (1 : Int32)), .unset, .unset, .unset, .unset] [(.ref aFORWARD)]))
      refine own_go (fun _ k => XS.astoreN X30.here hx rfl (hb hby at_29) rfl rfl (l' := #[.val (.int p1), .val (.int (0 : Int32)), .val (.int (1 : Int32)), .val (.ref aFORWARD), .unset, .unset, .unset]) rfl k) ?_
      show OwnGo p e below _ (T30.setTop (mkF m 30 #[.val (.int p1), .val (.int (0 : Int32)), .val (.int (1 : Int32)), .val (.ref aFORWARD), .unset, .unset, .unset] []))
      refine own_go (fun _ k => XS.aloadN X30.here hx rfl (hb hby at_30) rfl rfl k) ?_
      show OwnGo p e below _ (T30.setTop (mkF m 31 #[.val (.int p1), .val (.int (0 : Int32)), .val (.int (1 : Int32)), .val (.ref aFORWARD), .unset, .unset, .unset] [(.ref aFORWARD)]))
      obtain ⟨cq31, kq31, qa31, qb31, qc31⟩ := isOf hZ K30 (F0.2.2.2.2.2.2.2.2.2.2.1.ext O0.2)
      obtain ⟨_, _, ⟨T31, L31, k31, n31⟩, -, X31, ⟨Lc31, hQ31, l31, y31, z31⟩, st31⟩ := X30.virtualBack hx (y := (⟨"com/example/lachesis/lachesis/diff/Breaks", "breaksOld", "()Z"⟩ : MethodName)) (z := (⟨"com/example/lachesis/lachesis/diff/Breaks", "breaksOld", "()Z"⟩ : MethodName)) hown (mvT hZ (hw _ (List.mem_of_getElem? (i := 6) rfl))) (mvT hZ (hw _ (List.mem_of_getElem? (i := 7) rfl))) (notFace_of_selects (args := #[]) (mvT hZ (hw _ (List.mem_of_getElem? (i := 9) rfl)))) (mvT hZ (hw _ (List.mem_of_getElem? (i := 9) rfl))) (mvT hZ (hw _ (List.mem_of_getElem? (i := 8) rfl))) (by decide) (backOf (W := 0) (rm_oldFORWARD l Z a0 hw [] aNONE aBACKWARD aBOTH aFORWARD F0 h0 n0 O0) hZ (hw _ (List.mem_of_getElem? (i := 10) rfl)) (hw _ (List.mem_of_getElem? (i := 2) rfl)) (by decide) (by decide)) qa31 qc31 (g := (mkF m 31 #[.val (.int p1), .val (.int (0 : Int32)), .val (.int (1 : Int32)), .val (.ref aFORWARD), .unset, .unset, .unset] [(.ref aFORWARD)])) rfl (by rw [hml]; rfl) (Steps.refl _) (argsL := []) (rest := []) (lenOf pd___Z rfl) rfl (by show 2 * 0 + _ ≤ _; exact Nat.le_of_eq rfl) (hb hby at_31) (fun _ _ => ⟨rfl, K30, (by decide : 0 + 0 ≤ _), (by decide : 0 + 0 ≤ _)⟩)
      dsimp only [Pt.U, Pt.locs, Pt.cells, Pt.slots] at X31 l31 y31 z31 st31 hQ31
      subst l31 y31 z31
      obtain ⟨rfl, Nq31, K31⟩ := hQ31
      have N31 := Fr.app N30 Nq31
      refine own_go (fun _ k => st31.trans k) ?_
      show OwnGo p e below _ (T31.setTop (mkF m 34 #[.val (.int p1), .val (.int (0 : Int32)), .val (.int (1 : Int32)), .val (.ref aFORWARD), .unset, .unset, .unset] [(.int (0 : Int32))]))
      refine own_go (fun _ k => XS.iloadN X31.here hx rfl (hb hby at_34) rfl k) ?_
      show OwnGo p e below _ (T31.setTop (mkF m 35 #[.val (.int p1), .val (.int (0 : Int32)), .val (.int (1 : Int32)), .val (.ref aFORWARD), .unset, .unset, .unset] [(.int (0 : Int32)), (.int (0 : Int32))]))
      refine own_go (fun _ k => XS.icmpYes X31.here hx rfl (pc0 := 35) (pc' := 40) rfl (hb hby at_35) rfl (by decide) (by decide) (by decide) k) ?_
      show OwnGo p e below _ (T31.setTop (mkF m 40 #[.val (.int p1), .val (.int (0 : Int32)), .val (.int (1 : Int32)), .val (.ref aFORWARD), .unset, .unset, .unset] []))
      refine own_go (fun _ k => XS.iloadN X31.here hx rfl (hb hby at_40) rfl k) ?_
      show OwnGo p e below _ (T31.setTop (mkF m 41 #[.val (.int p1), .val (.int (0 : Int32)), .val (.int (1 : Int32)), .val (.ref aFORWARD), .unset, .unset, .unset] [(.int p1)]))
      refine own_go (fun _ k => XS.iconst X31.here hx rfl (hb hby at_41) k) ?_
      show OwnGo p e below _ (T31.setTop (mkF m 42 #[.val (.int p1), .val (.int (0 : Int32)), .val (.int (1 : Int32)), .val (.ref aFORWARD), .unset, .unset, .unset] [(.int (2 : Int32)), (.int p1)]))
      refine own_go (fun _ k => XS.iushr X31.here hx rfl (hb hby at_42) rfl k) ?_
      show OwnGo p e below _ (T31.setTop (mkF m 43 #[.val (.int p1), .val (.int (0 : Int32)), .val (.int (1 : Int32)), .val (.ref aFORWARD), .unset, .unset, .unset] [(.int (((p1).toUInt32 >>> ((2 : Int32) &&& 31).toUInt32).toInt32))]))
      refine own_go (fun _ k => XS.iconst X31.here hx rfl (hb hby at_43) k) ?_
      show OwnGo p e below _ (T31.setTop (mkF m 44 #[.val (.int p1), .val (.int (0 : Int32)), .val (.int (1 : Int32)), .val (.ref aFORWARD), .unset, .unset, .unset] [(.int (3 : Int32)), (.int (((p1).toUInt32 >>> ((2 : Int32) &&& 31).toUInt32).toInt32))]))
      refine own_go (fun _ k => XS.iand X31.here hx rfl (hb hby at_44) rfl k) ?_
      show OwnGo p e below _ (T31.setTop (mkF m 45 #[.val (.int p1), .val (.int (0 : Int32)), .val (.int (1 : Int32)), .val (.ref aFORWARD), .unset, .unset, .unset] [(.int ((((p1).toUInt32 >>> ((2 : Int32) &&& 31).toUInt32).toInt32) &&& (3 : Int32)))]))
      refine own_go (fun _ k => XS.istore X31.here hx rfl (hb hby at_45) rfl (l' := #[.val (.int p1), .val (.int (0 : Int32)), .val (.int (1 : Int32)), .val (.ref aFORWARD), .val (.int ((((p1).toUInt32 >>> ((2 : Int32) &&& 31).toUInt32).toInt32) &&& (3 : Int32))), .unset, .unset]) rfl k) ?_
      show OwnGo p e below _ (T31.setTop (mkF m 47 #[.val (.int p1), .val (.int (0 : Int32)), .val (.int (1 : Int32)), .val (.ref aFORWARD), .val (.int ((((p1).toUInt32 >>> ((2 : Int32) &&& 31).toUInt32).toInt32) &&& (3 : Int32))), .unset, .unset] []))
      refine own_go (fun _ k => XS.iload X31.here hx rfl (hb hby at_47) rfl k) ?_
      show OwnGo p e below _ (T31.setTop (mkF m 49 #[.val (.int p1), .val (.int (0 : Int32)), .val (.int (1 : Int32)), .val (.ref aFORWARD), .val (.int ((((p1).toUInt32 >>> ((2 : Int32) &&& 31).toUInt32).toInt32) &&& (3 : Int32))), .unset, .unset] [(.int ((((p1).toUInt32 >>> ((2 : Int32) &&& 31).toUInt32).toInt32) &&& (3 : Int32)))]))
      by_cases hc32 : ((((p1).toUInt32 >>> ((2 : Int32) &&& 31).toUInt32).toInt32) &&& (3 : Int32)) = (0 : Int32)
      · refine own_go (fun _ k => XS.ifNo X31.here hx rfl (hb hby at_49) rfl ((if0 _ _).trans (teq hc32).2) k) ?_
        show OwnGo p e below _ (T31.setTop (mkF m 52 #[.val (.int p1), .val (.int (0 : Int32)), .val (.int (1 : Int32)), .val (.ref aFORWARD), .val (.int ((((p1).toUInt32 >>> ((2 : Int32) &&& 31).toUInt32).toInt32) &&& (3 : Int32))), .unset, .unset] []))
        obtain ⟨T33, X33, e33, st33⟩ := getS X31 hx hZ hown (host := "") (hw _ (List.mem_of_getElem? (i := 15) rfl)) Via.refl K31 (F0.1.ext O0.2) (g := (mkF m 52 #[.val (.int p1), .val (.int (0 : Int32)), .val (.int (1 : Int32)), .val (.ref aFORWARD), .val (.int ((((p1).toUInt32 >>> ((2 : Int32) &&& 31).toUInt32).toInt32) &&& (3 : Int32))), .unset, .unset] [])) rfl (hb hby at_52)
        refine own_go st33 ?_
        show OwnGo p e below _ (T33.setTop (mkF m 55 #[.val (.int p1), .val (.int (0 : Int32)), .val (.int (1 : Int32)), .val (.ref aFORWARD), .val (.int ((((p1).toUInt32 >>> ((2 : Int32) &&& 31).toUInt32).toInt32) &&& (3 : Int32))), .unset, .unset] [(.ref aNONE)]))
        refine own_go (fun _ k => XS.astore X33.here hx rfl (hb hby at_55) rfl rfl (l' := #[.val (.int p1), .val (.int (0 : Int32)), .val (.int (1 : Int32)), .val (.ref aFORWARD), .val (.int ((((p1).toUInt32 >>> ((2 : Int32) &&& 31).toUInt32).toInt32) &&& (3 : Int32))), .val (.ref aNONE), .unset]) rfl k) ?_
        show OwnGo p e below _ (T33.setTop (mkF m 57 #[.val (.int p1), .val (.int (0 : Int32)), .val (.int (1 : Int32)), .val (.ref aFORWARD), .val (.int ((((p1).toUInt32 >>> ((2 : Int32) &&& 31).toUInt32).toInt32) &&& (3 : Int32))), .val (.ref aNONE), .unset] []))
        refine own_go (fun _ k => XS.iconst X33.here hx rfl (hb hby at_57) k) ?_
        show OwnGo p e below _ (T33.setTop (mkF m 58 #[.val (.int p1), .val (.int (0 : Int32)), .val (.int (1 : Int32)), .val (.ref aFORWARD), .val (.int ((((p1).toUInt32 >>> ((2 : Int32) &&& 31).toUInt32).toInt32) &&& (3 : Int32))), .val (.ref aNONE), .unset] [(.int (0 : Int32))]))
        refine own_go (fun _ k => XS.istore X33.here hx rfl (hb hby at_58) rfl (l' := #[.val (.int p1), .val (.int (0 : Int32)), .val (.int (1 : Int32)), .val (.ref aFORWARD), .val (.int ((((p1).toUInt32 >>> ((2 : Int32) &&& 31).toUInt32).toInt32) &&& (3 : Int32))), .val (.ref aNONE), .val (.int (0 : Int32))]) rfl k) ?_
        show OwnGo p e below _ (T33.setTop (mkF m 60 #[.val (.int p1), .val (.int (0 : Int32)), .val (.int (1 : Int32)), .val (.ref aFORWARD), .val (.int ((((p1).toUInt32 >>> ((2 : Int32) &&& 31).toUInt32).toInt32) &&& (3 : Int32))), .val (.ref aNONE), .val (.int (0 : Int32))] []))
        refine own_go (fun _ k => XS.goto X33.here hx rfl (pc0 := 60) (pc' := 105) rfl (hb hby at_60) (by decide) (by decide) k) ?_
        show OwnGo p e below _ (T33.setTop (mkF m 105 #[.val (.int p1), .val (.int (0 : Int32)), .val (.int (1 : Int32)), .val (.ref aFORWARD), .val (.int ((((p1).toUInt32 >>> ((2 : Int32) &&& 31).toUInt32).toInt32) &&& (3 : Int32))), .val (.ref aNONE), .val (.int (0 : Int32))] []))
        refine own_go (fun _ k => XS.aload X33.here hx rfl (hb hby at_105) rfl rfl k) ?_
        show OwnGo p e below _ (T33.setTop (mkF m 107 #[.val (.int p1), .val (.int (0 : Int32)), .val (.int (1 : Int32)), .val (.ref aFORWARD), .val (.int ((((p1).toUInt32 >>> ((2 : Int32) &&& 31).toUInt32).toInt32) &&& (3 : Int32))), .val (.ref aNONE), .val (.int (0 : Int32))] [(.ref aNONE)]))
        obtain ⟨cq34, kq34, qa34, qb34, qc34⟩ := isOf hZ e33 (F0.2.1.ext O0.2)
        obtain ⟨_, _, ⟨T34, L34, k34, n34⟩, -, X34, ⟨Lc34, hQ34, l34, y34, z34⟩, st34⟩ := X33.virtualBack hx (y := (⟨"com/example/lachesis/lachesis/diff/Breaks", "breaksOld", "()Z"⟩ : MethodName)) (z := (⟨"com/example/lachesis/lachesis/diff/Breaks", "breaksOld", "()Z"⟩ : MethodName)) hown (mvT hZ (hw _ (List.mem_of_getElem? (i := 6) rfl))) (mvT hZ (hw _ (List.mem_of_getElem? (i := 7) rfl))) (notFace_of_selects (args := #[]) (mvT hZ (hw _ (List.mem_of_getElem? (i := 9) rfl)))) (mvT hZ (hw _ (List.mem_of_getElem? (i := 9) rfl))) (mvT hZ (hw _ (List.mem_of_getElem? (i := 8) rfl))) (by decide) (backOf (W := 0) (rm_oldNONE l Z a0 hw [] aNONE aBACKWARD aBOTH aFORWARD F0 h0 n0 O0) hZ (hw _ (List.mem_of_getElem? (i := 10) rfl)) (hw _ (List.mem_of_getElem? (i := 2) rfl)) (by decide) (by decide)) qa34 qc34 (g := (mkF m 107 #[.val (.int p1), .val (.int (0 : Int32)), .val (.int (1 : Int32)), .val (.ref aFORWARD), .val (.int ((((p1).toUInt32 >>> ((2 : Int32) &&& 31).toUInt32).toInt32) &&& (3 : Int32))), .val (.ref aNONE), .val (.int (0 : Int32))] [(.ref aNONE)])) rfl (by rw [hml]; rfl) (Steps.refl _) (argsL := []) (rest := []) (lenOf pd___Z rfl) rfl (by show 2 * 0 + _ ≤ _; exact Nat.le_of_eq rfl) (hb hby at_107) (fun _ _ => ⟨rfl, e33, (by decide : 0 + 0 ≤ _), (by decide : 0 + 0 ≤ _)⟩)
        dsimp only [Pt.U, Pt.locs, Pt.cells, Pt.slots] at X34 l34 y34 z34 st34 hQ34
        subst l34 y34 z34
        obtain ⟨rfl, Nq34, K34⟩ := hQ34
        have N34 := Fr.app N31 Nq34
        refine own_go (fun _ k => st34.trans k) ?_
        show OwnGo p e below _ (T34.setTop (mkF m 110 #[.val (.int p1), .val (.int (0 : Int32)), .val (.int (1 : Int32)), .val (.ref aFORWARD), .val (.int ((((p1).toUInt32 >>> ((2 : Int32) &&& 31).toUInt32).toInt32) &&& (3 : Int32))), .val (.ref aNONE), .val (.int (0 : Int32))] [(.int (0 : Int32))]))
        refine own_go (fun _ k => XS.iload X34.here hx rfl (hb hby at_110) rfl k) ?_
        show OwnGo p e below _ (T34.setTop (mkF m 112 #[.val (.int p1), .val (.int (0 : Int32)), .val (.int (1 : Int32)), .val (.ref aFORWARD), .val (.int ((((p1).toUInt32 >>> ((2 : Int32) &&& 31).toUInt32).toInt32) &&& (3 : Int32))), .val (.ref aNONE), .val (.int (0 : Int32))] [(.int (0 : Int32)), (.int (0 : Int32))]))
        refine own_go (fun _ k => XS.icmpNo X34.here hx rfl (hb hby at_112) rfl (by decide) k) ?_
        show OwnGo p e below _ (T34.setTop (mkF m 115 #[.val (.int p1), .val (.int (0 : Int32)), .val (.int (1 : Int32)), .val (.ref aFORWARD), .val (.int ((((p1).toUInt32 >>> ((2 : Int32) &&& 31).toUInt32).toInt32) &&& (3 : Int32))), .val (.ref aNONE), .val (.int (0 : Int32))] []))
        refine own_go (fun _ k => XS.iconst X34.here hx rfl (hb hby at_115) k) ?_
        show OwnGo p e below _ (T34.setTop (mkF m 116 #[.val (.int p1), .val (.int (0 : Int32)), .val (.int (1 : Int32)), .val (.ref aFORWARD), .val (.int ((((p1).toUInt32 >>> ((2 : Int32) &&& 31).toUInt32).toInt32) &&& (3 : Int32))), .val (.ref aNONE), .val (.int (0 : Int32))] [(.int (1 : Int32))]))
        refine own_go (fun _ k => XS.goto X34.here hx rfl (pc0 := 116) (pc' := 120) rfl (hb hby at_116) (by decide) (by decide) k) ?_
        show OwnGo p e below _ (T34.setTop (mkF m 120 #[.val (.int p1), .val (.int (0 : Int32)), .val (.int (1 : Int32)), .val (.ref aFORWARD), .val (.int ((((p1).toUInt32 >>> ((2 : Int32) &&& 31).toUInt32).toInt32) &&& (3 : Int32))), .val (.ref aNONE), .val (.int (0 : Int32))] [(.int (1 : Int32))]))
        obtain ⟨fs, hr, hrun, hended, hW, hsame⟩ := X34.leave (v := some (.int (1 : Int32))) (fun h => by rw [Bd.returns] at h; cases h)
        refine ⟨_, _, retOut X34 hx Bd.returns rfl (Or.inl ⟨rfl, Or.inr (Or.inl rfl), _, rfl⟩) (hb hby at_120) hr, hrun, hended, _, _, rfl, ?_, ⟨_, rfl⟩, hW, hsame.mono (by decide) (by decide)⟩
        show Q_law Z aNONE aBACKWARD aBOTH aFORWARD p1 h0 n0 _ T34.heap _
        rw [K34]
        exact ⟨rfl, N34⟩
      · refine own_go (fun _ k => XS.ifYes X31.here hx rfl (pc0 := 49) (pc' := 63) rfl (hb hby at_49) rfl ((if0 _ _).trans (feq hc32).2) (by decide) (by decide) k) ?_
        show OwnGo p e below _ (T31.setTop (mkF m 63 #[.val (.int p1), .val (.int (0 : Int32)), .val (.int (1 : Int32)), .val (.ref aFORWARD), .val (.int ((((p1).toUInt32 >>> ((2 : Int32) &&& 31).toUInt32).toInt32) &&& (3 : Int32))), .unset, .unset] []))
        refine own_go (fun _ k => XS.iload X31.here hx rfl (hb hby at_63) rfl k) ?_
        show OwnGo p e below _ (T31.setTop (mkF m 65 #[.val (.int p1), .val (.int (0 : Int32)), .val (.int (1 : Int32)), .val (.ref aFORWARD), .val (.int ((((p1).toUInt32 >>> ((2 : Int32) &&& 31).toUInt32).toInt32) &&& (3 : Int32))), .unset, .unset] [(.int ((((p1).toUInt32 >>> ((2 : Int32) &&& 31).toUInt32).toInt32) &&& (3 : Int32)))]))
        refine own_go (fun _ k => XS.iconst X31.here hx rfl (hb hby at_65) k) ?_
        show OwnGo p e below _ (T31.setTop (mkF m 66 #[.val (.int p1), .val (.int (0 : Int32)), .val (.int (1 : Int32)), .val (.ref aFORWARD), .val (.int ((((p1).toUInt32 >>> ((2 : Int32) &&& 31).toUInt32).toInt32) &&& (3 : Int32))), .unset, .unset] [(.int (1 : Int32)), (.int ((((p1).toUInt32 >>> ((2 : Int32) &&& 31).toUInt32).toInt32) &&& (3 : Int32)))]))
        by_cases hc35 : ((((p1).toUInt32 >>> ((2 : Int32) &&& 31).toUInt32).toInt32) &&& (3 : Int32)) = (1 : Int32)
        · refine own_go (fun _ k => XS.icmpNo X31.here hx rfl (hb hby at_66) rfl (teq hc35).2 k) ?_
          show OwnGo p e below _ (T31.setTop (mkF m 69 #[.val (.int p1), .val (.int (0 : Int32)), .val (.int (1 : Int32)), .val (.ref aFORWARD), .val (.int ((((p1).toUInt32 >>> ((2 : Int32) &&& 31).toUInt32).toInt32) &&& (3 : Int32))), .unset, .unset] []))
          obtain ⟨T36, X36, e36, st36⟩ := getS X31 hx hZ hown (host := "") (hw _ (List.mem_of_getElem? (i := 20) rfl)) Via.refl K31 (F0.2.2.1.ext O0.2) (g := (mkF m 69 #[.val (.int p1), .val (.int (0 : Int32)), .val (.int (1 : Int32)), .val (.ref aFORWARD), .val (.int ((((p1).toUInt32 >>> ((2 : Int32) &&& 31).toUInt32).toInt32) &&& (3 : Int32))), .unset, .unset] [])) rfl (hb hby at_69)
          refine own_go st36 ?_
          show OwnGo p e below _ (T36.setTop (mkF m 72 #[.val (.int p1), .val (.int (0 : Int32)), .val (.int (1 : Int32)), .val (.ref aFORWARD), .val (.int ((((p1).toUInt32 >>> ((2 : Int32) &&& 31).toUInt32).toInt32) &&& (3 : Int32))), .unset, .unset] [(.ref aBACKWARD)]))
          refine own_go (fun _ k => XS.astore X36.here hx rfl (hb hby at_72) rfl rfl (l' := #[.val (.int p1), .val (.int (0 : Int32)), .val (.int (1 : Int32)), .val (.ref aFORWARD), .val (.int ((((p1).toUInt32 >>> ((2 : Int32) &&& 31).toUInt32).toInt32) &&& (3 : Int32))), .val (.ref aBACKWARD), .unset]) rfl k) ?_
          show OwnGo p e below _ (T36.setTop (mkF m 74 #[.val (.int p1), .val (.int (0 : Int32)), .val (.int (1 : Int32)), .val (.ref aFORWARD), .val (.int ((((p1).toUInt32 >>> ((2 : Int32) &&& 31).toUInt32).toInt32) &&& (3 : Int32))), .val (.ref aBACKWARD), .unset] []))
          refine own_go (fun _ k => XS.iconst X36.here hx rfl (hb hby at_74) k) ?_
          show OwnGo p e below _ (T36.setTop (mkF m 75 #[.val (.int p1), .val (.int (0 : Int32)), .val (.int (1 : Int32)), .val (.ref aFORWARD), .val (.int ((((p1).toUInt32 >>> ((2 : Int32) &&& 31).toUInt32).toInt32) &&& (3 : Int32))), .val (.ref aBACKWARD), .unset] [(.int (1 : Int32))]))
          refine own_go (fun _ k => XS.istore X36.here hx rfl (hb hby at_75) rfl (l' := #[.val (.int p1), .val (.int (0 : Int32)), .val (.int (1 : Int32)), .val (.ref aFORWARD), .val (.int ((((p1).toUInt32 >>> ((2 : Int32) &&& 31).toUInt32).toInt32) &&& (3 : Int32))), .val (.ref aBACKWARD), .val (.int (1 : Int32))]) rfl k) ?_
          show OwnGo p e below _ (T36.setTop (mkF m 77 #[.val (.int p1), .val (.int (0 : Int32)), .val (.int (1 : Int32)), .val (.ref aFORWARD), .val (.int ((((p1).toUInt32 >>> ((2 : Int32) &&& 31).toUInt32).toInt32) &&& (3 : Int32))), .val (.ref aBACKWARD), .val (.int (1 : Int32))] []))
          refine own_go (fun _ k => XS.goto X36.here hx rfl (pc0 := 77) (pc' := 105) rfl (hb hby at_77) (by decide) (by decide) k) ?_
          show OwnGo p e below _ (T36.setTop (mkF m 105 #[.val (.int p1), .val (.int (0 : Int32)), .val (.int (1 : Int32)), .val (.ref aFORWARD), .val (.int ((((p1).toUInt32 >>> ((2 : Int32) &&& 31).toUInt32).toInt32) &&& (3 : Int32))), .val (.ref aBACKWARD), .val (.int (1 : Int32))] []))
          refine own_go (fun _ k => XS.aload X36.here hx rfl (hb hby at_105) rfl rfl k) ?_
          show OwnGo p e below _ (T36.setTop (mkF m 107 #[.val (.int p1), .val (.int (0 : Int32)), .val (.int (1 : Int32)), .val (.ref aFORWARD), .val (.int ((((p1).toUInt32 >>> ((2 : Int32) &&& 31).toUInt32).toInt32) &&& (3 : Int32))), .val (.ref aBACKWARD), .val (.int (1 : Int32))] [(.ref aBACKWARD)]))
          obtain ⟨cq37, kq37, qa37, qb37, qc37⟩ := isOf hZ e36 (F0.2.2.2.1.ext O0.2)
          obtain ⟨_, _, ⟨T37, L37, k37, n37⟩, -, X37, ⟨Lc37, hQ37, l37, y37, z37⟩, st37⟩ := X36.virtualBack hx (y := (⟨"com/example/lachesis/lachesis/diff/Breaks", "breaksOld", "()Z"⟩ : MethodName)) (z := (⟨"com/example/lachesis/lachesis/diff/Breaks", "breaksOld", "()Z"⟩ : MethodName)) hown (mvT hZ (hw _ (List.mem_of_getElem? (i := 6) rfl))) (mvT hZ (hw _ (List.mem_of_getElem? (i := 7) rfl))) (notFace_of_selects (args := #[]) (mvT hZ (hw _ (List.mem_of_getElem? (i := 9) rfl)))) (mvT hZ (hw _ (List.mem_of_getElem? (i := 9) rfl))) (mvT hZ (hw _ (List.mem_of_getElem? (i := 8) rfl))) (by decide) (backOf (W := 0) (rm_oldBACKWARD l Z a0 hw [] aNONE aBACKWARD aBOTH aFORWARD F0 h0 n0 O0) hZ (hw _ (List.mem_of_getElem? (i := 10) rfl)) (hw _ (List.mem_of_getElem? (i := 2) rfl)) (by decide) (by decide)) qa37 qc37 (g := (mkF m 107 #[.val (.int p1), .val (.int (0 : Int32)), .val (.int (1 : Int32)), .val (.ref aFORWARD), .val (.int ((((p1).toUInt32 >>> ((2 : Int32) &&& 31).toUInt32).toInt32) &&& (3 : Int32))), .val (.ref aBACKWARD), .val (.int (1 : Int32))] [(.ref aBACKWARD)])) rfl (by rw [hml]; rfl) (Steps.refl _) (argsL := []) (rest := []) (lenOf pd___Z rfl) rfl (by show 2 * 0 + _ ≤ _; exact Nat.le_of_eq rfl) (hb hby at_107) (fun _ _ => ⟨rfl, e36, (by decide : 0 + 0 ≤ _), (by decide : 0 + 0 ≤ _)⟩)
          dsimp only [Pt.U, Pt.locs, Pt.cells, Pt.slots] at X37 l37 y37 z37 st37 hQ37
          subst l37 y37 z37
          obtain ⟨rfl, Nq37, K37⟩ := hQ37
          have N37 := Fr.app N31 Nq37
          refine own_go (fun _ k => st37.trans k) ?_
          show OwnGo p e below _ (T37.setTop (mkF m 110 #[.val (.int p1), .val (.int (0 : Int32)), .val (.int (1 : Int32)), .val (.ref aFORWARD), .val (.int ((((p1).toUInt32 >>> ((2 : Int32) &&& 31).toUInt32).toInt32) &&& (3 : Int32))), .val (.ref aBACKWARD), .val (.int (1 : Int32))] [(.int (1 : Int32))]))
          refine own_go (fun _ k => XS.iload X37.here hx rfl (hb hby at_110) rfl k) ?_
          show OwnGo p e below _ (T37.setTop (mkF m 112 #[.val (.int p1), .val (.int (0 : Int32)), .val (.int (1 : Int32)), .val (.ref aFORWARD), .val (.int ((((p1).toUInt32 >>> ((2 : Int32) &&& 31).toUInt32).toInt32) &&& (3 : Int32))), .val (.ref aBACKWARD), .val (.int (1 : Int32))] [(.int (1 : Int32)), (.int (1 : Int32))]))
          refine own_go (fun _ k => XS.icmpNo X37.here hx rfl (hb hby at_112) rfl (by decide) k) ?_
          show OwnGo p e below _ (T37.setTop (mkF m 115 #[.val (.int p1), .val (.int (0 : Int32)), .val (.int (1 : Int32)), .val (.ref aFORWARD), .val (.int ((((p1).toUInt32 >>> ((2 : Int32) &&& 31).toUInt32).toInt32) &&& (3 : Int32))), .val (.ref aBACKWARD), .val (.int (1 : Int32))] []))
          refine own_go (fun _ k => XS.iconst X37.here hx rfl (hb hby at_115) k) ?_
          show OwnGo p e below _ (T37.setTop (mkF m 116 #[.val (.int p1), .val (.int (0 : Int32)), .val (.int (1 : Int32)), .val (.ref aFORWARD), .val (.int ((((p1).toUInt32 >>> ((2 : Int32) &&& 31).toUInt32).toInt32) &&& (3 : Int32))), .val (.ref aBACKWARD), .val (.int (1 : Int32))] [(.int (1 : Int32))]))
          refine own_go (fun _ k => XS.goto X37.here hx rfl (pc0 := 116) (pc' := 120) rfl (hb hby at_116) (by decide) (by decide) k) ?_
          show OwnGo p e below _ (T37.setTop (mkF m 120 #[.val (.int p1), .val (.int (0 : Int32)), .val (.int (1 : Int32)), .val (.ref aFORWARD), .val (.int ((((p1).toUInt32 >>> ((2 : Int32) &&& 31).toUInt32).toInt32) &&& (3 : Int32))), .val (.ref aBACKWARD), .val (.int (1 : Int32))] [(.int (1 : Int32))]))
          obtain ⟨fs, hr, hrun, hended, hW, hsame⟩ := X37.leave (v := some (.int (1 : Int32))) (fun h => by rw [Bd.returns] at h; cases h)
          refine ⟨_, _, retOut X37 hx Bd.returns rfl (Or.inl ⟨rfl, Or.inr (Or.inl rfl), _, rfl⟩) (hb hby at_120) hr, hrun, hended, _, _, rfl, ?_, ⟨_, rfl⟩, hW, hsame.mono (by decide) (by decide)⟩
          show Q_law Z aNONE aBACKWARD aBOTH aFORWARD p1 h0 n0 _ T37.heap _
          rw [K37]
          exact ⟨rfl, N37⟩
        · refine own_go (fun _ k => XS.icmpYes X31.here hx rfl (pc0 := 66) (pc' := 80) rfl (hb hby at_66) rfl (feq hc35).2 (by decide) (by decide) k) ?_
          show OwnGo p e below _ (T31.setTop (mkF m 80 #[.val (.int p1), .val (.int (0 : Int32)), .val (.int (1 : Int32)), .val (.ref aFORWARD), .val (.int ((((p1).toUInt32 >>> ((2 : Int32) &&& 31).toUInt32).toInt32) &&& (3 : Int32))), .unset, .unset] []))
          refine own_go (fun _ k => XS.iload X31.here hx rfl (hb hby at_80) rfl k) ?_
          show OwnGo p e below _ (T31.setTop (mkF m 82 #[.val (.int p1), .val (.int (0 : Int32)), .val (.int (1 : Int32)), .val (.ref aFORWARD), .val (.int ((((p1).toUInt32 >>> ((2 : Int32) &&& 31).toUInt32).toInt32) &&& (3 : Int32))), .unset, .unset] [(.int ((((p1).toUInt32 >>> ((2 : Int32) &&& 31).toUInt32).toInt32) &&& (3 : Int32)))]))
          refine own_go (fun _ k => XS.iconst X31.here hx rfl (hb hby at_82) k) ?_
          show OwnGo p e below _ (T31.setTop (mkF m 83 #[.val (.int p1), .val (.int (0 : Int32)), .val (.int (1 : Int32)), .val (.ref aFORWARD), .val (.int ((((p1).toUInt32 >>> ((2 : Int32) &&& 31).toUInt32).toInt32) &&& (3 : Int32))), .unset, .unset] [(.int (2 : Int32)), (.int ((((p1).toUInt32 >>> ((2 : Int32) &&& 31).toUInt32).toInt32) &&& (3 : Int32)))]))
          by_cases hc38 : ((((p1).toUInt32 >>> ((2 : Int32) &&& 31).toUInt32).toInt32) &&& (3 : Int32)) = (2 : Int32)
          · refine own_go (fun _ k => XS.icmpNo X31.here hx rfl (hb hby at_83) rfl (teq hc38).2 k) ?_
            show OwnGo p e below _ (T31.setTop (mkF m 86 #[.val (.int p1), .val (.int (0 : Int32)), .val (.int (1 : Int32)), .val (.ref aFORWARD), .val (.int ((((p1).toUInt32 >>> ((2 : Int32) &&& 31).toUInt32).toInt32) &&& (3 : Int32))), .unset, .unset] []))
            obtain ⟨T39, X39, e39, st39⟩ := getS X31 hx hZ hown (host := "") (hw _ (List.mem_of_getElem? (i := 19) rfl)) Via.refl K31 (F0.2.2.2.2.2.2.2.2.2.1.ext O0.2) (g := (mkF m 86 #[.val (.int p1), .val (.int (0 : Int32)), .val (.int (1 : Int32)), .val (.ref aFORWARD), .val (.int ((((p1).toUInt32 >>> ((2 : Int32) &&& 31).toUInt32).toInt32) &&& (3 : Int32))), .unset, .unset] [])) rfl (hb hby at_86)
            refine own_go st39 ?_
            show OwnGo p e below _ (T39.setTop (mkF m 89 #[.val (.int p1), .val (.int (0 : Int32)), .val (.int (1 : Int32)), .val (.ref aFORWARD), .val (.int ((((p1).toUInt32 >>> ((2 : Int32) &&& 31).toUInt32).toInt32) &&& (3 : Int32))), .unset, .unset] [(.ref aFORWARD)]))
            refine own_go (fun _ k => XS.astore X39.here hx rfl (hb hby at_89) rfl rfl (l' := #[.val (.int p1), .val (.int (0 : Int32)), .val (.int (1 : Int32)), .val (.ref aFORWARD), .val (.int ((((p1).toUInt32 >>> ((2 : Int32) &&& 31).toUInt32).toInt32) &&& (3 : Int32))), .val (.ref aFORWARD), .unset]) rfl k) ?_
            show OwnGo p e below _ (T39.setTop (mkF m 91 #[.val (.int p1), .val (.int (0 : Int32)), .val (.int (1 : Int32)), .val (.ref aFORWARD), .val (.int ((((p1).toUInt32 >>> ((2 : Int32) &&& 31).toUInt32).toInt32) &&& (3 : Int32))), .val (.ref aFORWARD), .unset] []))
            refine own_go (fun _ k => XS.iconst X39.here hx rfl (hb hby at_91) k) ?_
            show OwnGo p e below _ (T39.setTop (mkF m 92 #[.val (.int p1), .val (.int (0 : Int32)), .val (.int (1 : Int32)), .val (.ref aFORWARD), .val (.int ((((p1).toUInt32 >>> ((2 : Int32) &&& 31).toUInt32).toInt32) &&& (3 : Int32))), .val (.ref aFORWARD), .unset] [(.int (0 : Int32))]))
            refine own_go (fun _ k => XS.istore X39.here hx rfl (hb hby at_92) rfl (l' := #[.val (.int p1), .val (.int (0 : Int32)), .val (.int (1 : Int32)), .val (.ref aFORWARD), .val (.int ((((p1).toUInt32 >>> ((2 : Int32) &&& 31).toUInt32).toInt32) &&& (3 : Int32))), .val (.ref aFORWARD), .val (.int (0 : Int32))]) rfl k) ?_
            show OwnGo p e below _ (T39.setTop (mkF m 94 #[.val (.int p1), .val (.int (0 : Int32)), .val (.int (1 : Int32)), .val (.ref aFORWARD), .val (.int ((((p1).toUInt32 >>> ((2 : Int32) &&& 31).toUInt32).toInt32) &&& (3 : Int32))), .val (.ref aFORWARD), .val (.int (0 : Int32))] []))
            refine own_go (fun _ k => XS.goto X39.here hx rfl (pc0 := 94) (pc' := 105) rfl (hb hby at_94) (by decide) (by decide) k) ?_
            show OwnGo p e below _ (T39.setTop (mkF m 105 #[.val (.int p1), .val (.int (0 : Int32)), .val (.int (1 : Int32)), .val (.ref aFORWARD), .val (.int ((((p1).toUInt32 >>> ((2 : Int32) &&& 31).toUInt32).toInt32) &&& (3 : Int32))), .val (.ref aFORWARD), .val (.int (0 : Int32))] []))
            refine own_go (fun _ k => XS.aload X39.here hx rfl (hb hby at_105) rfl rfl k) ?_
            show OwnGo p e below _ (T39.setTop (mkF m 107 #[.val (.int p1), .val (.int (0 : Int32)), .val (.int (1 : Int32)), .val (.ref aFORWARD), .val (.int ((((p1).toUInt32 >>> ((2 : Int32) &&& 31).toUInt32).toInt32) &&& (3 : Int32))), .val (.ref aFORWARD), .val (.int (0 : Int32))] [(.ref aFORWARD)]))
            obtain ⟨cq40, kq40, qa40, qb40, qc40⟩ := isOf hZ e39 (F0.2.2.2.2.2.2.2.2.2.2.1.ext O0.2)
            obtain ⟨_, _, ⟨T40, L40, k40, n40⟩, -, X40, ⟨Lc40, hQ40, l40, y40, z40⟩, st40⟩ := X39.virtualBack hx (y := (⟨"com/example/lachesis/lachesis/diff/Breaks", "breaksOld", "()Z"⟩ : MethodName)) (z := (⟨"com/example/lachesis/lachesis/diff/Breaks", "breaksOld", "()Z"⟩ : MethodName)) hown (mvT hZ (hw _ (List.mem_of_getElem? (i := 6) rfl))) (mvT hZ (hw _ (List.mem_of_getElem? (i := 7) rfl))) (notFace_of_selects (args := #[]) (mvT hZ (hw _ (List.mem_of_getElem? (i := 9) rfl)))) (mvT hZ (hw _ (List.mem_of_getElem? (i := 9) rfl))) (mvT hZ (hw _ (List.mem_of_getElem? (i := 8) rfl))) (by decide) (backOf (W := 0) (rm_oldFORWARD l Z a0 hw [] aNONE aBACKWARD aBOTH aFORWARD F0 h0 n0 O0) hZ (hw _ (List.mem_of_getElem? (i := 10) rfl)) (hw _ (List.mem_of_getElem? (i := 2) rfl)) (by decide) (by decide)) qa40 qc40 (g := (mkF m 107 #[.val (.int p1), .val (.int (0 : Int32)), .val (.int (1 : Int32)), .val (.ref aFORWARD), .val (.int ((((p1).toUInt32 >>> ((2 : Int32) &&& 31).toUInt32).toInt32) &&& (3 : Int32))), .val (.ref aFORWARD), .val (.int (0 : Int32))] [(.ref aFORWARD)])) rfl (by rw [hml]; rfl) (Steps.refl _) (argsL := []) (rest := []) (lenOf pd___Z rfl) rfl (by show 2 * 0 + _ ≤ _; exact Nat.le_of_eq rfl) (hb hby at_107) (fun _ _ => ⟨rfl, e39, (by decide : 0 + 0 ≤ _), (by decide : 0 + 0 ≤ _)⟩)
            dsimp only [Pt.U, Pt.locs, Pt.cells, Pt.slots] at X40 l40 y40 z40 st40 hQ40
            subst l40 y40 z40
            obtain ⟨rfl, Nq40, K40⟩ := hQ40
            have N40 := Fr.app N31 Nq40
            refine own_go (fun _ k => st40.trans k) ?_
            show OwnGo p e below _ (T40.setTop (mkF m 110 #[.val (.int p1), .val (.int (0 : Int32)), .val (.int (1 : Int32)), .val (.ref aFORWARD), .val (.int ((((p1).toUInt32 >>> ((2 : Int32) &&& 31).toUInt32).toInt32) &&& (3 : Int32))), .val (.ref aFORWARD), .val (.int (0 : Int32))] [(.int (0 : Int32))]))
            refine own_go (fun _ k => XS.iload X40.here hx rfl (hb hby at_110) rfl k) ?_
            show OwnGo p e below _ (T40.setTop (mkF m 112 #[.val (.int p1), .val (.int (0 : Int32)), .val (.int (1 : Int32)), .val (.ref aFORWARD), .val (.int ((((p1).toUInt32 >>> ((2 : Int32) &&& 31).toUInt32).toInt32) &&& (3 : Int32))), .val (.ref aFORWARD), .val (.int (0 : Int32))] [(.int (0 : Int32)), (.int (0 : Int32))]))
            refine own_go (fun _ k => XS.icmpNo X40.here hx rfl (hb hby at_112) rfl (by decide) k) ?_
            show OwnGo p e below _ (T40.setTop (mkF m 115 #[.val (.int p1), .val (.int (0 : Int32)), .val (.int (1 : Int32)), .val (.ref aFORWARD), .val (.int ((((p1).toUInt32 >>> ((2 : Int32) &&& 31).toUInt32).toInt32) &&& (3 : Int32))), .val (.ref aFORWARD), .val (.int (0 : Int32))] []))
            refine own_go (fun _ k => XS.iconst X40.here hx rfl (hb hby at_115) k) ?_
            show OwnGo p e below _ (T40.setTop (mkF m 116 #[.val (.int p1), .val (.int (0 : Int32)), .val (.int (1 : Int32)), .val (.ref aFORWARD), .val (.int ((((p1).toUInt32 >>> ((2 : Int32) &&& 31).toUInt32).toInt32) &&& (3 : Int32))), .val (.ref aFORWARD), .val (.int (0 : Int32))] [(.int (1 : Int32))]))
            refine own_go (fun _ k => XS.goto X40.here hx rfl (pc0 := 116) (pc' := 120) rfl (hb hby at_116) (by decide) (by decide) k) ?_
            show OwnGo p e below _ (T40.setTop (mkF m 120 #[.val (.int p1), .val (.int (0 : Int32)), .val (.int (1 : Int32)), .val (.ref aFORWARD), .val (.int ((((p1).toUInt32 >>> ((2 : Int32) &&& 31).toUInt32).toInt32) &&& (3 : Int32))), .val (.ref aFORWARD), .val (.int (0 : Int32))] [(.int (1 : Int32))]))
            obtain ⟨fs, hr, hrun, hended, hW, hsame⟩ := X40.leave (v := some (.int (1 : Int32))) (fun h => by rw [Bd.returns] at h; cases h)
            refine ⟨_, _, retOut X40 hx Bd.returns rfl (Or.inl ⟨rfl, Or.inr (Or.inl rfl), _, rfl⟩) (hb hby at_120) hr, hrun, hended, _, _, rfl, ?_, ⟨_, rfl⟩, hW, hsame.mono (by decide) (by decide)⟩
            show Q_law Z aNONE aBACKWARD aBOTH aFORWARD p1 h0 n0 _ T40.heap _
            rw [K40]
            exact ⟨rfl, N40⟩
          · refine own_go (fun _ k => XS.icmpYes X31.here hx rfl (pc0 := 83) (pc' := 97) rfl (hb hby at_83) rfl (feq hc38).2 (by decide) (by decide) k) ?_
            show OwnGo p e below _ (T31.setTop (mkF m 97 #[.val (.int p1), .val (.int (0 : Int32)), .val (.int (1 : Int32)), .val (.ref aFORWARD), .val (.int ((((p1).toUInt32 >>> ((2 : Int32) &&& 31).toUInt32).toInt32) &&& (3 : Int32))), .unset, .unset] []))
            obtain ⟨T41, X41, e41, st41⟩ := getS X31 hx hZ hown (host := "") (hw _ (List.mem_of_getElem? (i := 18) rfl)) Via.refl K31 (F0.2.2.2.2.2.2.1.ext O0.2) (g := (mkF m 97 #[.val (.int p1), .val (.int (0 : Int32)), .val (.int (1 : Int32)), .val (.ref aFORWARD), .val (.int ((((p1).toUInt32 >>> ((2 : Int32) &&& 31).toUInt32).toInt32) &&& (3 : Int32))), .unset, .unset] [])) rfl (hb hby at_97)
            refine own_go st41 ?_
            show OwnGo p e below _ (T41.setTop (mkF m 100 #[.val (.int p1), .val (.int (0 : Int32)), .val (.int (1 : Int32)), .val (.ref aFORWARD), .val (.int ((((p1).toUInt32 >>> ((2 : Int32) &&& 31).toUInt32).toInt32) &&& (3 : Int32))), .unset, .unset] [(.ref aBOTH)]))
            refine own_go (fun _ k => XS.astore X41.here hx rfl (hb hby at_100) rfl rfl (l' := #[.val (.int p1), .val (.int (0 : Int32)), .val (.int (1 : Int32)), .val (.ref aFORWARD), .val (.int ((((p1).toUInt32 >>> ((2 : Int32) &&& 31).toUInt32).toInt32) &&& (3 : Int32))), .val (.ref aBOTH), .unset]) rfl k) ?_
            show OwnGo p e below _ (T41.setTop (mkF m 102 #[.val (.int p1), .val (.int (0 : Int32)), .val (.int (1 : Int32)), .val (.ref aFORWARD), .val (.int ((((p1).toUInt32 >>> ((2 : Int32) &&& 31).toUInt32).toInt32) &&& (3 : Int32))), .val (.ref aBOTH), .unset] []))
            refine own_go (fun _ k => XS.iconst X41.here hx rfl (hb hby at_102) k) ?_
            show OwnGo p e below _ (T41.setTop (mkF m 103 #[.val (.int p1), .val (.int (0 : Int32)), .val (.int (1 : Int32)), .val (.ref aFORWARD), .val (.int ((((p1).toUInt32 >>> ((2 : Int32) &&& 31).toUInt32).toInt32) &&& (3 : Int32))), .val (.ref aBOTH), .unset] [(.int (1 : Int32))]))
            refine own_go (fun _ k => XS.istore X41.here hx rfl (hb hby at_103) rfl (l' := #[.val (.int p1), .val (.int (0 : Int32)), .val (.int (1 : Int32)), .val (.ref aFORWARD), .val (.int ((((p1).toUInt32 >>> ((2 : Int32) &&& 31).toUInt32).toInt32) &&& (3 : Int32))), .val (.ref aBOTH), .val (.int (1 : Int32))]) rfl k) ?_
            show OwnGo p e below _ (T41.setTop (mkF m 105 #[.val (.int p1), .val (.int (0 : Int32)), .val (.int (1 : Int32)), .val (.ref aFORWARD), .val (.int ((((p1).toUInt32 >>> ((2 : Int32) &&& 31).toUInt32).toInt32) &&& (3 : Int32))), .val (.ref aBOTH), .val (.int (1 : Int32))] []))
            refine own_go (fun _ k => XS.aload X41.here hx rfl (hb hby at_105) rfl rfl k) ?_
            show OwnGo p e below _ (T41.setTop (mkF m 107 #[.val (.int p1), .val (.int (0 : Int32)), .val (.int (1 : Int32)), .val (.ref aFORWARD), .val (.int ((((p1).toUInt32 >>> ((2 : Int32) &&& 31).toUInt32).toInt32) &&& (3 : Int32))), .val (.ref aBOTH), .val (.int (1 : Int32))] [(.ref aBOTH)]))
            obtain ⟨cq42, kq42, qa42, qb42, qc42⟩ := isOf hZ e41 (F0.2.2.2.2.2.2.2.1.ext O0.2)
            obtain ⟨_, _, ⟨T42, L42, k42, n42⟩, -, X42, ⟨Lc42, hQ42, l42, y42, z42⟩, st42⟩ := X41.virtualBack hx (y := (⟨"com/example/lachesis/lachesis/diff/Breaks", "breaksOld", "()Z"⟩ : MethodName)) (z := (⟨"com/example/lachesis/lachesis/diff/Breaks", "breaksOld", "()Z"⟩ : MethodName)) hown (mvT hZ (hw _ (List.mem_of_getElem? (i := 6) rfl))) (mvT hZ (hw _ (List.mem_of_getElem? (i := 7) rfl))) (notFace_of_selects (args := #[]) (mvT hZ (hw _ (List.mem_of_getElem? (i := 9) rfl)))) (mvT hZ (hw _ (List.mem_of_getElem? (i := 9) rfl))) (mvT hZ (hw _ (List.mem_of_getElem? (i := 8) rfl))) (by decide) (backOf (W := 0) (rm_oldBOTH l Z a0 hw [] aNONE aBACKWARD aBOTH aFORWARD F0 h0 n0 O0) hZ (hw _ (List.mem_of_getElem? (i := 10) rfl)) (hw _ (List.mem_of_getElem? (i := 2) rfl)) (by decide) (by decide)) qa42 qc42 (g := (mkF m 107 #[.val (.int p1), .val (.int (0 : Int32)), .val (.int (1 : Int32)), .val (.ref aFORWARD), .val (.int ((((p1).toUInt32 >>> ((2 : Int32) &&& 31).toUInt32).toInt32) &&& (3 : Int32))), .val (.ref aBOTH), .val (.int (1 : Int32))] [(.ref aBOTH)])) rfl (by rw [hml]; rfl) (Steps.refl _) (argsL := []) (rest := []) (lenOf pd___Z rfl) rfl (by show 2 * 0 + _ ≤ _; exact Nat.le_of_eq rfl) (hb hby at_107) (fun _ _ => ⟨rfl, e41, (by decide : 0 + 0 ≤ _), (by decide : 0 + 0 ≤ _)⟩)
            dsimp only [Pt.U, Pt.locs, Pt.cells, Pt.slots] at X42 l42 y42 z42 st42 hQ42
            subst l42 y42 z42
            obtain ⟨rfl, Nq42, K42⟩ := hQ42
            have N42 := Fr.app N31 Nq42
            refine own_go (fun _ k => st42.trans k) ?_
            show OwnGo p e below _ (T42.setTop (mkF m 110 #[.val (.int p1), .val (.int (0 : Int32)), .val (.int (1 : Int32)), .val (.ref aFORWARD), .val (.int ((((p1).toUInt32 >>> ((2 : Int32) &&& 31).toUInt32).toInt32) &&& (3 : Int32))), .val (.ref aBOTH), .val (.int (1 : Int32))] [(.int (1 : Int32))]))
            refine own_go (fun _ k => XS.iload X42.here hx rfl (hb hby at_110) rfl k) ?_
            show OwnGo p e below _ (T42.setTop (mkF m 112 #[.val (.int p1), .val (.int (0 : Int32)), .val (.int (1 : Int32)), .val (.ref aFORWARD), .val (.int ((((p1).toUInt32 >>> ((2 : Int32) &&& 31).toUInt32).toInt32) &&& (3 : Int32))), .val (.ref aBOTH), .val (.int (1 : Int32))] [(.int (1 : Int32)), (.int (1 : Int32))]))
            refine own_go (fun _ k => XS.icmpNo X42.here hx rfl (hb hby at_112) rfl (by decide) k) ?_
            show OwnGo p e below _ (T42.setTop (mkF m 115 #[.val (.int p1), .val (.int (0 : Int32)), .val (.int (1 : Int32)), .val (.ref aFORWARD), .val (.int ((((p1).toUInt32 >>> ((2 : Int32) &&& 31).toUInt32).toInt32) &&& (3 : Int32))), .val (.ref aBOTH), .val (.int (1 : Int32))] []))
            refine own_go (fun _ k => XS.iconst X42.here hx rfl (hb hby at_115) k) ?_
            show OwnGo p e below _ (T42.setTop (mkF m 116 #[.val (.int p1), .val (.int (0 : Int32)), .val (.int (1 : Int32)), .val (.ref aFORWARD), .val (.int ((((p1).toUInt32 >>> ((2 : Int32) &&& 31).toUInt32).toInt32) &&& (3 : Int32))), .val (.ref aBOTH), .val (.int (1 : Int32))] [(.int (1 : Int32))]))
            refine own_go (fun _ k => XS.goto X42.here hx rfl (pc0 := 116) (pc' := 120) rfl (hb hby at_116) (by decide) (by decide) k) ?_
            show OwnGo p e below _ (T42.setTop (mkF m 120 #[.val (.int p1), .val (.int (0 : Int32)), .val (.int (1 : Int32)), .val (.ref aFORWARD), .val (.int ((((p1).toUInt32 >>> ((2 : Int32) &&& 31).toUInt32).toInt32) &&& (3 : Int32))), .val (.ref aBOTH), .val (.int (1 : Int32))] [(.int (1 : Int32))]))
            obtain ⟨fs, hr, hrun, hended, hW, hsame⟩ := X42.leave (v := some (.int (1 : Int32))) (fun h => by rw [Bd.returns] at h; cases h)
            refine ⟨_, _, retOut X42 hx Bd.returns rfl (Or.inl ⟨rfl, Or.inr (Or.inl rfl), _, rfl⟩) (hb hby at_120) hr, hrun, hended, _, _, rfl, ?_, ⟨_, rfl⟩, hW, hsame.mono (by decide) (by decide)⟩
            show Q_law Z aNONE aBACKWARD aBOTH aFORWARD p1 h0 n0 _ T42.heap _
            rw [K42]
            exact ⟨rfl, N42⟩
  · refine own_go (fun _ k => XS.ifNo X0.here hx rfl (hb hby at_3) rfl ((if0 _ _).trans (feq hc15).1) k) ?_
    show OwnGo p e below _ (s₁.setTop (mkF m 6 #[.val (.int p1), .unset, .unset, .unset, .unset, .unset, .unset] []))
    refine own_go (fun _ k => XS.iconst X0.here hx rfl (hb hby at_6) k) ?_
    show OwnGo p e below _ (s₁.setTop (mkF m 7 #[.val (.int p1), .unset, .unset, .unset, .unset, .unset, .unset] [(.int (1 : Int32))]))
    refine own_go (fun _ k => XS.goto X0.here hx rfl (pc0 := 7) (pc' := 11) rfl (hb hby at_7) (by decide) (by decide) k) ?_
    show OwnGo p e below _ (s₁.setTop (mkF m 11 #[.val (.int p1), .unset, .unset, .unset, .unset, .unset, .unset] [(.int (1 : Int32))]))
    refine own_go (fun _ k => XS.istoreN X0.here hx rfl (hb hby at_11) rfl (l' := #[.val (.int p1), .val (.int (1 : Int32)), .unset, .unset, .unset, .unset, .unset]) rfl k) ?_
    show OwnGo p e below _ (s₁.setTop (mkF m 12 #[.val (.int p1), .val (.int (1 : Int32)), .unset, .unset, .unset, .unset, .unset] []))
    refine own_go (fun _ k => XS.iloadN X0.here hx rfl (hb hby at_12) rfl k) ?_
    show OwnGo p e below _ (s₁.setTop (mkF m 13 #[.val (.int p1), .val (.int (1 : Int32)), .unset, .unset, .unset, .unset, .unset] [(.int p1)]))
    refine own_go (fun _ k => XS.iconst X0.here hx rfl (hb hby at_13) k) ?_
    show OwnGo p e below _ (s₁.setTop (mkF m 14 #[.val (.int p1), .val (.int (1 : Int32)), .unset, .unset, .unset, .unset, .unset] [(.int (2 : Int32)), (.int p1)]))
    refine own_go (fun _ k => XS.iand X0.here hx rfl (hb hby at_14) rfl k) ?_
    show OwnGo p e below _ (s₁.setTop (mkF m 15 #[.val (.int p1), .val (.int (1 : Int32)), .unset, .unset, .unset, .unset, .unset] [(.int (p1 &&& (2 : Int32)))]))
    by_cases hc43 : (p1 &&& (2 : Int32)) = (0 : Int32)
    · refine own_go (fun _ k => XS.ifYes X0.here hx rfl (pc0 := 15) (pc' := 22) rfl (hb hby at_15) rfl ((if0 _ _).trans (teq hc43).1) (by decide) (by decide) k) ?_
      show OwnGo p e below _ (s₁.setTop (mkF m 22 #[.val (.int p1), .val (.int (1 : Int32)), .unset, .unset, .unset, .unset, .unset] []))
      refine own_go (fun _ k => XS.iconst X0.here hx rfl (hb hby at_22) k) ?_
      show OwnGo p e below _ (s₁.setTop (mkF m 23 #[.val (.int p1), .val (.int (1 : Int32)), .unset, .unset, .unset, .unset, .unset] [(.int (0 : Int32))]))
      refine own_go (fun _ k => XS.istoreN X0.here hx rfl (hb hby at_23) rfl (l' := #[.val (.int p1), .val (.int (1 : Int32)), .val (.int (0 : Int32)), .unset, .unset, .unset, .unset]) rfl k) ?_
      show OwnGo p e below _ (s₁.setTop (mkF m 24 #[.val (.int p1), .val (.int (1 : Int32)), .val (.int (0 : Int32)), .unset, .unset, .unset, .unset] []))
      refine own_go (fun _ k => XS.iloadN X0.here hx rfl (hb hby at_24) rfl k) ?_
      show OwnGo p e below _ (s₁.setTop (mkF m 25 #[.val (.int p1), .val (.int (1 : Int32)), .val (.int (0 : Int32)), .unset, .unset, .unset, .unset] [(.int (1 : Int32))]))
      refine own_go (fun _ k => XS.iloadN X0.here hx rfl (hb hby at_25) rfl k) ?_
      show OwnGo p e below _ (s₁.setTop (mkF m 26 #[.val (.int p1), .val (.int (1 : Int32)), .val (.int (0 : Int32)), .unset, .unset, .unset, .unset] [(.int (0 : Int32)), (.int (1 : Int32))]))
      obtain ⟨_, _, ⟨T44, L44, k44, n44⟩, -, X44, ⟨Lc44, hQ44, l44, y44, z44⟩, st44⟩ := Jvm.LawKit.callS X0 hx (y := (⟨"com/example/lachesis/lachesis/diff/Breaks", "of", "(ZZ)Lcom/example/lachesis/lachesis/diff/Breaks;"⟩ : MethodName)) hown (mvT hZ (hw _ (List.mem_of_getElem? (i := 0) rfl))) (mvT hZ (hw _ (List.mem_of_getElem? (i := 1) rfl))) (mvT hZ (hw _ (List.mem_of_getElem? (i := 2) rfl))) (mvT hZ (hw _ (List.mem_of_getElem? (i := 3) rfl))) (by decide) (backOf (W := 0) (rm_of l Z a0 hw [] aNONE aBACKWARD aBOTH aFORWARD F0 (1 : Int32) (0 : Int32) aBACKWARD h0 n0 O0 (by simp)) hZ (hw _ (List.mem_of_getElem? (i := 3) rfl)) (hw _ (List.mem_of_getElem? (i := 2) rfl)) (by decide) (by decide)) (g := (mkF m 26 #[.val (.int p1), .val (.int (1 : Int32)), .val (.int (0 : Int32)), .unset, .unset, .unset, .unset] [(.int (0 : Int32)), (.int (1 : Int32))])) rfl (by rw [hml]; rfl) (argsL := [(.int (1 : Int32)), (.int (0 : Int32))]) (rest := []) (lenOf pd_Z_Z__Lcom_example_lachesis_lachesis_diff_Breaks_ rfl) rfl (by show 2 * 0 + _ ≤ _; exact Nat.le_of_eq rfl) (hb hby at_26) (fun _ _ => ⟨rfl, e0, (by decide : 0 + 0 ≤ _), (by decide : 0 + 0 ≤ _)⟩)
      dsimp only [Pt.U, Pt.locs, Pt.cells, Pt.slots] at X44 l44 y44 z44 st44 hQ44
      subst l44 y44 z44
      obtain ⟨rfl, Nq44, K44⟩ := hQ44
      have N44 := Fr.app N0 Nq44
      refine own_go st44 ?_
      show OwnGo p e below _ (T44.setTop (mkF m 29 #[.val (.int p1), .val (.int (1 : Int32)), .val (.int (0 : Int32)), .unset, .unset, .unset, .unset] [(.ref aBACKWARD)]))
      refine own_go (fun _ k => XS.astoreN X44.here hx rfl (hb hby at_29) rfl rfl (l' := #[.val (.int p1), .val (.int (1 : Int32)), .val (.int (0 : Int32)), .val (.ref aBACKWARD), .unset, .unset, .unset]) rfl k) ?_
      show OwnGo p e below _ (T44.setTop (mkF m 30 #[.val (.int p1), .val (.int (1 : Int32)), .val (.int (0 : Int32)), .val (.ref aBACKWARD), .unset, .unset, .unset] []))
      refine own_go (fun _ k => XS.aloadN X44.here hx rfl (hb hby at_30) rfl rfl k) ?_
      show OwnGo p e below _ (T44.setTop (mkF m 31 #[.val (.int p1), .val (.int (1 : Int32)), .val (.int (0 : Int32)), .val (.ref aBACKWARD), .unset, .unset, .unset] [(.ref aBACKWARD)]))
      obtain ⟨cq45, kq45, qa45, qb45, qc45⟩ := isOf hZ K44 (F0.2.2.2.1.ext O0.2)
      obtain ⟨_, _, ⟨T45, L45, k45, n45⟩, -, X45, ⟨Lc45, hQ45, l45, y45, z45⟩, st45⟩ := X44.virtualBack hx (y := (⟨"com/example/lachesis/lachesis/diff/Breaks", "breaksOld", "()Z"⟩ : MethodName)) (z := (⟨"com/example/lachesis/lachesis/diff/Breaks", "breaksOld", "()Z"⟩ : MethodName)) hown (mvT hZ (hw _ (List.mem_of_getElem? (i := 6) rfl))) (mvT hZ (hw _ (List.mem_of_getElem? (i := 7) rfl))) (notFace_of_selects (args := #[]) (mvT hZ (hw _ (List.mem_of_getElem? (i := 9) rfl)))) (mvT hZ (hw _ (List.mem_of_getElem? (i := 9) rfl))) (mvT hZ (hw _ (List.mem_of_getElem? (i := 8) rfl))) (by decide) (backOf (W := 0) (rm_oldBACKWARD l Z a0 hw [] aNONE aBACKWARD aBOTH aFORWARD F0 h0 n0 O0) hZ (hw _ (List.mem_of_getElem? (i := 10) rfl)) (hw _ (List.mem_of_getElem? (i := 2) rfl)) (by decide) (by decide)) qa45 qc45 (g := (mkF m 31 #[.val (.int p1), .val (.int (1 : Int32)), .val (.int (0 : Int32)), .val (.ref aBACKWARD), .unset, .unset, .unset] [(.ref aBACKWARD)])) rfl (by rw [hml]; rfl) (Steps.refl _) (argsL := []) (rest := []) (lenOf pd___Z rfl) rfl (by show 2 * 0 + _ ≤ _; exact Nat.le_of_eq rfl) (hb hby at_31) (fun _ _ => ⟨rfl, K44, (by decide : 0 + 0 ≤ _), (by decide : 0 + 0 ≤ _)⟩)
      dsimp only [Pt.U, Pt.locs, Pt.cells, Pt.slots] at X45 l45 y45 z45 st45 hQ45
      subst l45 y45 z45
      obtain ⟨rfl, Nq45, K45⟩ := hQ45
      have N45 := Fr.app N44 Nq45
      refine own_go (fun _ k => st45.trans k) ?_
      show OwnGo p e below _ (T45.setTop (mkF m 34 #[.val (.int p1), .val (.int (1 : Int32)), .val (.int (0 : Int32)), .val (.ref aBACKWARD), .unset, .unset, .unset] [(.int (1 : Int32))]))
      refine own_go (fun _ k => XS.iloadN X45.here hx rfl (hb hby at_34) rfl k) ?_
      show OwnGo p e below _ (T45.setTop (mkF m 35 #[.val (.int p1), .val (.int (1 : Int32)), .val (.int (0 : Int32)), .val (.ref aBACKWARD), .unset, .unset, .unset] [(.int (1 : Int32)), (.int (1 : Int32))]))
      refine own_go (fun _ k => XS.icmpYes X45.here hx rfl (pc0 := 35) (pc' := 40) rfl (hb hby at_35) rfl (by decide) (by decide) (by decide) k) ?_
      show OwnGo p e below _ (T45.setTop (mkF m 40 #[.val (.int p1), .val (.int (1 : Int32)), .val (.int (0 : Int32)), .val (.ref aBACKWARD), .unset, .unset, .unset] []))
      refine own_go (fun _ k => XS.iloadN X45.here hx rfl (hb hby at_40) rfl k) ?_
      show OwnGo p e below _ (T45.setTop (mkF m 41 #[.val (.int p1), .val (.int (1 : Int32)), .val (.int (0 : Int32)), .val (.ref aBACKWARD), .unset, .unset, .unset] [(.int p1)]))
      refine own_go (fun _ k => XS.iconst X45.here hx rfl (hb hby at_41) k) ?_
      show OwnGo p e below _ (T45.setTop (mkF m 42 #[.val (.int p1), .val (.int (1 : Int32)), .val (.int (0 : Int32)), .val (.ref aBACKWARD), .unset, .unset, .unset] [(.int (2 : Int32)), (.int p1)]))
      refine own_go (fun _ k => XS.iushr X45.here hx rfl (hb hby at_42) rfl k) ?_
      show OwnGo p e below _ (T45.setTop (mkF m 43 #[.val (.int p1), .val (.int (1 : Int32)), .val (.int (0 : Int32)), .val (.ref aBACKWARD), .unset, .unset, .unset] [(.int (((p1).toUInt32 >>> ((2 : Int32) &&& 31).toUInt32).toInt32))]))
      refine own_go (fun _ k => XS.iconst X45.here hx rfl (hb hby at_43) k) ?_
      show OwnGo p e below _ (T45.setTop (mkF m 44 #[.val (.int p1), .val (.int (1 : Int32)), .val (.int (0 : Int32)), .val (.ref aBACKWARD), .unset, .unset, .unset] [(.int (3 : Int32)), (.int (((p1).toUInt32 >>> ((2 : Int32) &&& 31).toUInt32).toInt32))]))
      refine own_go (fun _ k => XS.iand X45.here hx rfl (hb hby at_44) rfl k) ?_
      show OwnGo p e below _ (T45.setTop (mkF m 45 #[.val (.int p1), .val (.int (1 : Int32)), .val (.int (0 : Int32)), .val (.ref aBACKWARD), .unset, .unset, .unset] [(.int ((((p1).toUInt32 >>> ((2 : Int32) &&& 31).toUInt32).toInt32) &&& (3 : Int32)))]))
      refine own_go (fun _ k => XS.istore X45.here hx rfl (hb hby at_45) rfl (l' := #[.val (.int p1), .val (.int (1 : Int32)), .val (.int (0 : Int32)), .val (.ref aBACKWARD), .val (.int ((((p1).toUInt32 >>> ((2 : Int32) &&& 31).toUInt32).toInt32) &&& (3 : Int32))), .unset, .unset]) rfl k) ?_
      show OwnGo p e below _ (T45.setTop (mkF m 47 #[.val (.int p1), .val (.int (1 : Int32)), .val (.int (0 : Int32)), .val (.ref aBACKWARD), .val (.int ((((p1).toUInt32 >>> ((2 : Int32) &&& 31).toUInt32).toInt32) &&& (3 : Int32))), .unset, .unset] []))
      refine own_go (fun _ k => XS.iload X45.here hx rfl (hb hby at_47) rfl k) ?_
      show OwnGo p e below _ (T45.setTop (mkF m 49 #[.val (.int p1), .val (.int (1 : Int32)), .val (.int (0 : Int32)), .val (.ref aBACKWARD), .val (.int ((((p1).toUInt32 >>> ((2 : Int32) &&& 31).toUInt32).toInt32) &&& (3 : Int32))), .unset, .unset] [(.int ((((p1).toUInt32 >>> ((2 : Int32) &&& 31).toUInt32).toInt32) &&& (3 : Int32)))]))
      by_cases hc46 : ((((p1).toUInt32 >>> ((2 : Int32) &&& 31).toUInt32).toInt32) &&& (3 : Int32)) = (0 : Int32)
      · refine own_go (fun _ k => XS.ifNo X45.here hx rfl (hb hby at_49) rfl ((if0 _ _).trans (teq hc46).2) k) ?_
        show OwnGo p e below _ (T45.setTop (mkF m 52 #[.val (.int p1), .val (.int (1 : Int32)), .val (.int (0 : Int32)), .val (.ref aBACKWARD), .val (.int ((((p1).toUInt32 >>> ((2 : Int32) &&& 31).toUInt32).toInt32) &&& (3 : Int32))), .unset, .unset] []))
        obtain ⟨T47, X47, e47, st47⟩ := getS X45 hx hZ hown (host := "") (hw _ (List.mem_of_getElem? (i := 15) rfl)) Via.refl K45 (F0.1.ext O0.2) (g := (mkF m 52 #[.val (.int p1), .val (.int (1 : Int32)), .val (.int (0 : Int32)), .val (.ref aBACKWARD), .val (.int ((((p1).toUInt32 >>> ((2 : Int32) &&& 31).toUInt32).toInt32) &&& (3 : Int32))), .unset, .unset] [])) rfl (hb hby at_52)
        refine own_go st47 ?_
        show OwnGo p e below _ (T47.setTop (mkF m 55 #[.val (.int p1), .val (.int (1 : Int32)), .val (.int (0 : Int32)), .val (.ref aBACKWARD), .val (.int ((((p1).toUInt32 >>> ((2 : Int32) &&& 31).toUInt32).toInt32) &&& (3 : Int32))), .unset, .unset] [(.ref aNONE)]))
        refine own_go (fun _ k => XS.astore X47.here hx rfl (hb hby at_55) rfl rfl (l' := #[.val (.int p1), .val (.int (1 : Int32)), .val (.int (0 : Int32)), .val (.ref aBACKWARD), .val (.int ((((p1).toUInt32 >>> ((2 : Int32) &&& 31).toUInt32).toInt32) &&& (3 : Int32))), .val (.ref aNONE), .unset]) rfl k) ?_
        show OwnGo p e below _ (T47.setTop (mkF m 57 #[.val (.int p1), .val (.int (1 : Int32)), .val (.int (0 : Int32)), .val (.ref aBACKWARD), .val (.int ((((p1).toUInt32 >>> ((2 : Int32) &&& 31).toUInt32).toInt32) &&& (3 : Int32))), .val (.ref aNONE), .unset] []))
        refine own_go (fun _ k => XS.iconst X47.here hx rfl (hb hby at_57) k) ?_
        show OwnGo p e below _ (T47.setTop (mkF m 58 #[.val (.int p1), .val (.int (1 : Int32)), .val (.int (0 : Int32)), .val (.ref aBACKWARD), .val (.int ((((p1).toUInt32 >>> ((2 : Int32) &&& 31).toUInt32).toInt32) &&& (3 : Int32))), .val (.ref aNONE), .unset] [(.int (0 : Int32))]))
        refine own_go (fun _ k => XS.istore X47.here hx rfl (hb hby at_58) rfl (l' := #[.val (.int p1), .val (.int (1 : Int32)), .val (.int (0 : Int32)), .val (.ref aBACKWARD), .val (.int ((((p1).toUInt32 >>> ((2 : Int32) &&& 31).toUInt32).toInt32) &&& (3 : Int32))), .val (.ref aNONE), .val (.int (0 : Int32))]) rfl k) ?_
        show OwnGo p e below _ (T47.setTop (mkF m 60 #[.val (.int p1), .val (.int (1 : Int32)), .val (.int (0 : Int32)), .val (.ref aBACKWARD), .val (.int ((((p1).toUInt32 >>> ((2 : Int32) &&& 31).toUInt32).toInt32) &&& (3 : Int32))), .val (.ref aNONE), .val (.int (0 : Int32))] []))
        refine own_go (fun _ k => XS.goto X47.here hx rfl (pc0 := 60) (pc' := 105) rfl (hb hby at_60) (by decide) (by decide) k) ?_
        show OwnGo p e below _ (T47.setTop (mkF m 105 #[.val (.int p1), .val (.int (1 : Int32)), .val (.int (0 : Int32)), .val (.ref aBACKWARD), .val (.int ((((p1).toUInt32 >>> ((2 : Int32) &&& 31).toUInt32).toInt32) &&& (3 : Int32))), .val (.ref aNONE), .val (.int (0 : Int32))] []))
        refine own_go (fun _ k => XS.aload X47.here hx rfl (hb hby at_105) rfl rfl k) ?_
        show OwnGo p e below _ (T47.setTop (mkF m 107 #[.val (.int p1), .val (.int (1 : Int32)), .val (.int (0 : Int32)), .val (.ref aBACKWARD), .val (.int ((((p1).toUInt32 >>> ((2 : Int32) &&& 31).toUInt32).toInt32) &&& (3 : Int32))), .val (.ref aNONE), .val (.int (0 : Int32))] [(.ref aNONE)]))
        obtain ⟨cq48, kq48, qa48, qb48, qc48⟩ := isOf hZ e47 (F0.2.1.ext O0.2)
        obtain ⟨_, _, ⟨T48, L48, k48, n48⟩, -, X48, ⟨Lc48, hQ48, l48, y48, z48⟩, st48⟩ := X47.virtualBack hx (y := (⟨"com/example/lachesis/lachesis/diff/Breaks", "breaksOld", "()Z"⟩ : MethodName)) (z := (⟨"com/example/lachesis/lachesis/diff/Breaks", "breaksOld", "()Z"⟩ : MethodName)) hown (mvT hZ (hw _ (List.mem_of_getElem? (i := 6) rfl))) (mvT hZ (hw _ (List.mem_of_getElem? (i := 7) rfl))) (notFace_of_selects (args := #[]) (mvT hZ (hw _ (List.mem_of_getElem? (i := 9) rfl)))) (mvT hZ (hw _ (List.mem_of_getElem? (i := 9) rfl))) (mvT hZ (hw _ (List.mem_of_getElem? (i := 8) rfl))) (by decide) (backOf (W := 0) (rm_oldNONE l Z a0 hw [] aNONE aBACKWARD aBOTH aFORWARD F0 h0 n0 O0) hZ (hw _ (List.mem_of_getElem? (i := 10) rfl)) (hw _ (List.mem_of_getElem? (i := 2) rfl)) (by decide) (by decide)) qa48 qc48 (g := (mkF m 107 #[.val (.int p1), .val (.int (1 : Int32)), .val (.int (0 : Int32)), .val (.ref aBACKWARD), .val (.int ((((p1).toUInt32 >>> ((2 : Int32) &&& 31).toUInt32).toInt32) &&& (3 : Int32))), .val (.ref aNONE), .val (.int (0 : Int32))] [(.ref aNONE)])) rfl (by rw [hml]; rfl) (Steps.refl _) (argsL := []) (rest := []) (lenOf pd___Z rfl) rfl (by show 2 * 0 + _ ≤ _; exact Nat.le_of_eq rfl) (hb hby at_107) (fun _ _ => ⟨rfl, e47, (by decide : 0 + 0 ≤ _), (by decide : 0 + 0 ≤ _)⟩)
        dsimp only [Pt.U, Pt.locs, Pt.cells, Pt.slots] at X48 l48 y48 z48 st48 hQ48
        subst l48 y48 z48
        obtain ⟨rfl, Nq48, K48⟩ := hQ48
        have N48 := Fr.app N45 Nq48
        refine own_go (fun _ k => st48.trans k) ?_
        show OwnGo p e below _ (T48.setTop (mkF m 110 #[.val (.int p1), .val (.int (1 : Int32)), .val (.int (0 : Int32)), .val (.ref aBACKWARD), .val (.int ((((p1).toUInt32 >>> ((2 : Int32) &&& 31).toUInt32).toInt32) &&& (3 : Int32))), .val (.ref aNONE), .val (.int (0 : Int32))] [(.int (0 : Int32))]))
        refine own_go (fun _ k => XS.iload X48.here hx rfl (hb hby at_110) rfl k) ?_
        show OwnGo p e below _ (T48.setTop (mkF m 112 #[.val (.int p1), .val (.int (1 : Int32)), .val (.int (0 : Int32)), .val (.ref aBACKWARD), .val (.int ((((p1).toUInt32 >>> ((2 : Int32) &&& 31).toUInt32).toInt32) &&& (3 : Int32))), .val (.ref aNONE), .val (.int (0 : Int32))] [(.int (0 : Int32)), (.int (0 : Int32))]))
        refine own_go (fun _ k => XS.icmpNo X48.here hx rfl (hb hby at_112) rfl (by decide) k) ?_
        show OwnGo p e below _ (T48.setTop (mkF m 115 #[.val (.int p1), .val (.int (1 : Int32)), .val (.int (0 : Int32)), .val (.ref aBACKWARD), .val (.int ((((p1).toUInt32 >>> ((2 : Int32) &&& 31).toUInt32).toInt32) &&& (3 : Int32))), .val (.ref aNONE), .val (.int (0 : Int32))] []))
        refine own_go (fun _ k => XS.iconst X48.here hx rfl (hb hby at_115) k) ?_
        show OwnGo p e below _ (T48.setTop (mkF m 116 #[.val (.int p1), .val (.int (1 : Int32)), .val (.int (0 : Int32)), .val (.ref aBACKWARD), .val (.int ((((p1).toUInt32 >>> ((2 : Int32) &&& 31).toUInt32).toInt32) &&& (3 : Int32))), .val (.ref aNONE), .val (.int (0 : Int32))] [(.int (1 : Int32))]))
        refine own_go (fun _ k => XS.goto X48.here hx rfl (pc0 := 116) (pc' := 120) rfl (hb hby at_116) (by decide) (by decide) k) ?_
        show OwnGo p e below _ (T48.setTop (mkF m 120 #[.val (.int p1), .val (.int (1 : Int32)), .val (.int (0 : Int32)), .val (.ref aBACKWARD), .val (.int ((((p1).toUInt32 >>> ((2 : Int32) &&& 31).toUInt32).toInt32) &&& (3 : Int32))), .val (.ref aNONE), .val (.int (0 : Int32))] [(.int (1 : Int32))]))
        obtain ⟨fs, hr, hrun, hended, hW, hsame⟩ := X48.leave (v := some (.int (1 : Int32))) (fun h => by rw [Bd.returns] at h; cases h)
        refine ⟨_, _, retOut X48 hx Bd.returns rfl (Or.inl ⟨rfl, Or.inr (Or.inl rfl), _, rfl⟩) (hb hby at_120) hr, hrun, hended, _, _, rfl, ?_, ⟨_, rfl⟩, hW, hsame.mono (by decide) (by decide)⟩
        show Q_law Z aNONE aBACKWARD aBOTH aFORWARD p1 h0 n0 _ T48.heap _
        rw [K48]
        exact ⟨rfl, N48⟩
      · refine own_go (fun _ k => XS.ifYes X45.here hx rfl (pc0 := 49) (pc' := 63) rfl (hb hby at_49) rfl ((if0 _ _).trans (feq hc46).2) (by decide) (by decide) k) ?_
        show OwnGo p e below _ (T45.setTop (mkF m 63 #[.val (.int p1), .val (.int (1 : Int32)), .val (.int (0 : Int32)), .val (.ref aBACKWARD), .val (.int ((((p1).toUInt32 >>> ((2 : Int32) &&& 31).toUInt32).toInt32) &&& (3 : Int32))), .unset, .unset] []))
        refine own_go (fun _ k => XS.iload X45.here hx rfl (hb hby at_63) rfl k) ?_
        show OwnGo p e below _ (T45.setTop (mkF m 65 #[.val (.int p1), .val (.int (1 : Int32)), .val (.int (0 : Int32)), .val (.ref aBACKWARD), .val (.int ((((p1).toUInt32 >>> ((2 : Int32) &&& 31).toUInt32).toInt32) &&& (3 : Int32))), .unset, .unset] [(.int ((((p1).toUInt32 >>> ((2 : Int32) &&& 31).toUInt32).toInt32) &&& (3 : Int32)))]))
        refine own_go (fun _ k => XS.iconst X45.here hx rfl (hb hby at_65) k) ?_
        show OwnGo p e below _ (T45.setTop (mkF m 66 #[.val (.int p1), .val (.int (1 : Int32)), .val (.int (0 : Int32)), .val (.ref aBACKWARD), .val (.int ((((p1).toUInt32 >>> ((2 : Int32) &&& 31).toUInt32).toInt32) &&& (3 : Int32))), .unset, .unset] [(.int (1 : Int32)), (.int ((((p1).toUInt32 >>> ((2 : Int32) &&& 31).toUInt32).toInt32) &&& (3 : Int32)))]))
        by_cases hc49 : ((((p1).toUInt32 >>> ((2 : Int32) &&& 31).toUInt32).toInt32) &&& (3 : Int32)) = (1 : Int32)
        · refine own_go (fun _ k => XS.icmpNo X45.here hx rfl (hb hby at_66) rfl (teq hc49).2 k) ?_
          show OwnGo p e below _ (T45.setTop (mkF m 69 #[.val (.int p1), .val (.int (1 : Int32)), .val (.int (0 : Int32)), .val (.ref aBACKWARD), .val (.int ((((p1).toUInt32 >>> ((2 : Int32) &&& 31).toUInt32).toInt32) &&& (3 : Int32))), .unset, .unset] []))
          obtain ⟨T50, X50, e50, st50⟩ := getS X45 hx hZ hown (host := "") (hw _ (List.mem_of_getElem? (i := 20) rfl)) Via.refl K45 (F0.2.2.1.ext O0.2) (g := (mkF m 69 #[.val (.int p1), .val (.int (1 : Int32)), .val (.int (0 : Int32)), .val (.ref aBACKWARD), .val (.int ((((p1).toUInt32 >>> ((2 : Int32) &&& 31).toUInt32).toInt32) &&& (3 : Int32))), .unset, .unset] [])) rfl (hb hby at_69)
          refine own_go st50 ?_
          show OwnGo p e below _ (T50.setTop (mkF m 72 #[.val (.int p1), .val (.int (1 : Int32)), .val (.int (0 : Int32)), .val (.ref aBACKWARD), .val (.int ((((p1).toUInt32 >>> ((2 : Int32) &&& 31).toUInt32).toInt32) &&& (3 : Int32))), .unset, .unset] [(.ref aBACKWARD)]))
          refine own_go (fun _ k => XS.astore X50.here hx rfl (hb hby at_72) rfl rfl (l' := #[.val (.int p1), .val (.int (1 : Int32)), .val (.int (0 : Int32)), .val (.ref aBACKWARD), .val (.int ((((p1).toUInt32 >>> ((2 : Int32) &&& 31).toUInt32).toInt32) &&& (3 : Int32))), .val (.ref aBACKWARD), .unset]) rfl k) ?_
          show OwnGo p e below _ (T50.setTop (mkF m 74 #[.val (.int p1), .val (.int (1 : Int32)), .val (.int (0 : Int32)), .val (.ref aBACKWARD), .val (.int ((((p1).toUInt32 >>> ((2 : Int32) &&& 31).toUInt32).toInt32) &&& (3 : Int32))), .val (.ref aBACKWARD), .unset] []))
          refine own_go (fun _ k => XS.iconst X50.here hx rfl (hb hby at_74) k) ?_
          show OwnGo p e below _ (T50.setTop (mkF m 75 #[.val (.int p1), .val (.int (1 : Int32)), .val (.int (0 : Int32)), .val (.ref aBACKWARD), .val (.int ((((p1).toUInt32 >>> ((2 : Int32) &&& 31).toUInt32).toInt32) &&& (3 : Int32))), .val (.ref aBACKWARD), .unset] [(.int (1 : Int32))]))
          refine own_go (fun _ k => XS.istore X50.here hx rfl (hb hby at_75) rfl (l' := #[.val (.int p1), .val (.int (1 : Int32)), .val (.int (0 : Int32)), .val (.ref aBACKWARD), .val (.int ((((p1).toUInt32 >>> ((2 : Int32) &&& 31).toUInt32).toInt32) &&& (3 : Int32))), .val (.ref aBACKWARD), .val (.int (1 : Int32))]) rfl k) ?_
          show OwnGo p e below _ (T50.setTop (mkF m 77 #[.val (.int p1), .val (.int (1 : Int32)), .val (.int (0 : Int32)), .val (.ref aBACKWARD), .val (.int ((((p1).toUInt32 >>> ((2 : Int32) &&& 31).toUInt32).toInt32) &&& (3 : Int32))), .val (.ref aBACKWARD), .val (.int (1 : Int32))] []))
          refine own_go (fun _ k => XS.goto X50.here hx rfl (pc0 := 77) (pc' := 105) rfl (hb hby at_77) (by decide) (by decide) k) ?_
          show OwnGo p e below _ (T50.setTop (mkF m 105 #[.val (.int p1), .val (.int (1 : Int32)), .val (.int (0 : Int32)), .val (.ref aBACKWARD), .val (.int ((((p1).toUInt32 >>> ((2 : Int32) &&& 31).toUInt32).toInt32) &&& (3 : Int32))), .val (.ref aBACKWARD), .val (.int (1 : Int32))] []))
          refine own_go (fun _ k => XS.aload X50.here hx rfl (hb hby at_105) rfl rfl k) ?_
          show OwnGo p e below _ (T50.setTop (mkF m 107 #[.val (.int p1), .val (.int (1 : Int32)), .val (.int (0 : Int32)), .val (.ref aBACKWARD), .val (.int ((((p1).toUInt32 >>> ((2 : Int32) &&& 31).toUInt32).toInt32) &&& (3 : Int32))), .val (.ref aBACKWARD), .val (.int (1 : Int32))] [(.ref aBACKWARD)]))
          obtain ⟨cq51, kq51, qa51, qb51, qc51⟩ := isOf hZ e50 (F0.2.2.2.1.ext O0.2)
          obtain ⟨_, _, ⟨T51, L51, k51, n51⟩, -, X51, ⟨Lc51, hQ51, l51, y51, z51⟩, st51⟩ := X50.virtualBack hx (y := (⟨"com/example/lachesis/lachesis/diff/Breaks", "breaksOld", "()Z"⟩ : MethodName)) (z := (⟨"com/example/lachesis/lachesis/diff/Breaks", "breaksOld", "()Z"⟩ : MethodName)) hown (mvT hZ (hw _ (List.mem_of_getElem? (i := 6) rfl))) (mvT hZ (hw _ (List.mem_of_getElem? (i := 7) rfl))) (notFace_of_selects (args := #[]) (mvT hZ (hw _ (List.mem_of_getElem? (i := 9) rfl)))) (mvT hZ (hw _ (List.mem_of_getElem? (i := 9) rfl))) (mvT hZ (hw _ (List.mem_of_getElem? (i := 8) rfl))) (by decide) (backOf (W := 0) (rm_oldBACKWARD l Z a0 hw [] aNONE aBACKWARD aBOTH aFORWARD F0 h0 n0 O0) hZ (hw _ (List.mem_of_getElem? (i := 10) rfl)) (hw _ (List.mem_of_getElem? (i := 2) rfl)) (by decide) (by decide)) qa51 qc51 (g := (mkF m 107 #[.val (.int p1), .val (.int (1 : Int32)), .val (.int (0 : Int32)), .val (.ref aBACKWARD), .val (.int ((((p1).toUInt32 >>> ((2 : Int32) &&& 31).toUInt32).toInt32) &&& (3 : Int32))), .val (.ref aBACKWARD), .val (.int (1 : Int32))] [(.ref aBACKWARD)])) rfl (by rw [hml]; rfl) (Steps.refl _) (argsL := []) (rest := []) (lenOf pd___Z rfl) rfl (by show 2 * 0 + _ ≤ _; exact Nat.le_of_eq rfl) (hb hby at_107) (fun _ _ => ⟨rfl, e50, (by decide : 0 + 0 ≤ _), (by decide : 0 + 0 ≤ _)⟩)
          dsimp only [Pt.U, Pt.locs, Pt.cells, Pt.slots] at X51 l51 y51 z51 st51 hQ51
          subst l51 y51 z51
          obtain ⟨rfl, Nq51, K51⟩ := hQ51
          have N51 := Fr.app N45 Nq51
          refine own_go (fun _ k => st51.trans k) ?_
          show OwnGo p e below _ (T51.setTop (mkF m 110 #[.val (.int p1), .val (.int (1 : Int32)), .val (.int (0 : Int32)), .val (.ref aBACKWARD), .val (.int ((((p1).toUInt32 >>> ((2 : Int32) &&& 31).toUInt32).toInt32) &&& (3 : Int32))), .val (.ref aBACKWARD), .val (.int (1 : Int32))] [(.int (1 : Int32))]))
          refine own_go (fun _ k => XS.iload X51.here hx rfl (hb hby at_110) rfl k) ?_
          show OwnGo p e below _ (T51.setTop (mkF m 112 #[.val (.int p1), .val (.int (1 : Int32)), .val (.int (0 : Int32)), .val (.ref aBACKWARD), .val (.int ((((p1).toUInt32 >>> ((2 : Int32) &&& 31).toUInt32).toInt32) &&& (3 : Int32))), .val (.ref aBACKWARD), .val (.int (1 : Int32))] [(.int (1 : Int32)), (.int (1 : Int32))]))
          refine own_go (fun _ k => XS.icmpNo X51.here hx rfl (hb hby at_112) rfl (by decide) k) ?_
          show OwnGo p e below _ (T51.setTop (mkF m 115 #[.val (.int p1), .val (.int (1 : Int32)), .val (.int (0 : Int32)), .val (.ref aBACKWARD), .val (.int ((((p1).toUInt32 >>> ((2 : Int32) &&& 31).toUInt32).toInt32) &&& (3 : Int32))), .val (.ref aBACKWARD), .val (.int (1 : Int32))] []))
          refine own_go (fun _ k => XS.iconst X51.here hx rfl (hb hby at_115) k) ?_
          show OwnGo p e below _ (T51.setTop (mkF m 116 #[.val (.int p1), .val (.int (1 : Int32)), .val (.int (0 : Int32)), .val (.ref aBACKWARD), .val (.int ((((p1).toUInt32 >>> ((2 : Int32) &&& 31).toUInt32).toInt32) &&& (3 : Int32))), .val (.ref aBACKWARD), .val (.int (1 : Int32))] [(.int (1 : Int32))]))
          refine own_go (fun _ k => XS.goto X51.here hx rfl (pc0 := 116) (pc' := 120) rfl (hb hby at_116) (by decide) (by decide) k) ?_
          show OwnGo p e below _ (T51.setTop (mkF m 120 #[.val (.int p1), .val (.int (1 : Int32)), .val (.int (0 : Int32)), .val (.ref aBACKWARD), .val (.int ((((p1).toUInt32 >>> ((2 : Int32) &&& 31).toUInt32).toInt32) &&& (3 : Int32))), .val (.ref aBACKWARD), .val (.int (1 : Int32))] [(.int (1 : Int32))]))
          obtain ⟨fs, hr, hrun, hended, hW, hsame⟩ := X51.leave (v := some (.int (1 : Int32))) (fun h => by rw [Bd.returns] at h; cases h)
          refine ⟨_, _, retOut X51 hx Bd.returns rfl (Or.inl ⟨rfl, Or.inr (Or.inl rfl), _, rfl⟩) (hb hby at_120) hr, hrun, hended, _, _, rfl, ?_, ⟨_, rfl⟩, hW, hsame.mono (by decide) (by decide)⟩
          show Q_law Z aNONE aBACKWARD aBOTH aFORWARD p1 h0 n0 _ T51.heap _
          rw [K51]
          exact ⟨rfl, N51⟩
        · refine own_go (fun _ k => XS.icmpYes X45.here hx rfl (pc0 := 66) (pc' := 80) rfl (hb hby at_66) rfl (feq hc49).2 (by decide) (by decide) k) ?_
          show OwnGo p e below _ (T45.setTop (mkF m 80 #[.val (.int p1), .val (.int (1 : Int32)), .val (.int (0 : Int32)), .val (.ref aBACKWARD), .val (.int ((((p1).toUInt32 >>> ((2 : Int32) &&& 31).toUInt32).toInt32) &&& (3 : Int32))), .unset, .unset] []))
          refine own_go (fun _ k => XS.iload X45.here hx rfl (hb hby at_80) rfl k) ?_
          show OwnGo p e below _ (T45.setTop (mkF m 82 #[.val (.int p1), .val (.int (1 : Int32)), .val (.int (0 : Int32)), .val (.ref aBACKWARD), .val (.int ((((p1).toUInt32 >>> ((2 : Int32) &&& 31).toUInt32).toInt32) &&& (3 : Int32))), .unset, .unset] [(.int ((((p1).toUInt32 >>> ((2 : Int32) &&& 31).toUInt32).toInt32) &&& (3 : Int32)))]))
          refine own_go (fun _ k => XS.iconst X45.here hx rfl (hb hby at_82) k) ?_
          show OwnGo p e below _ (T45.setTop (mkF m 83 #[.val (.int p1), .val (.int (1 : Int32)), .val (.int (0 : Int32)), .val (.ref aBACKWARD), .val (.int ((((p1).toUInt32 >>> ((2 : Int32) &&& 31).toUInt32).toInt32) &&& (3 : Int32))), .unset, .unset] [(.int (2 : Int32)), (.int ((((p1).toUInt32 >>> ((2 : Int32) &&& 31).toUInt32).toInt32) &&& (3 : Int32)))]))
          by_cases hc52 : ((((p1).toUInt32 >>> ((2 : Int32) &&& 31).toUInt32).toInt32) &&& (3 : Int32)) = (2 : Int32)
          · refine own_go (fun _ k => XS.icmpNo X45.here hx rfl (hb hby at_83) rfl (teq hc52).2 k) ?_
            show OwnGo p e below _ (T45.setTop (mkF m 86 #[.val (.int p1), .val (.int (1 : Int32)), .val (.int (0 : Int32)), .val (.ref aBACKWARD), .val (.int ((((p1).toUInt32 >>> ((2 : Int32) &&& 31).toUInt32).toInt32) &&& (3 : Int32))), .unset, .unset] []))
            obtain ⟨T53, X53, e53, st53⟩ := getS X45 hx hZ hown (host := "") (hw _ (List.mem_of_getElem? (i := 19) rfl)) Via.refl K45 (F0.2.2.2.2.2.2.2.2.2.1.ext O0.2) (g := (mkF m 86 #[.val (.int p1), .val (.int (1 : Int32)), .val (.int (0 : Int32)), .val (.ref aBACKWARD), .val (.int ((((p1).toUInt32 >>> ((2 : Int32) &&& 31).toUInt32).toInt32) &&& (3 : Int32))), .unset, .unset] [])) rfl (hb hby at_86)
            refine own_go st53 ?_
            show OwnGo p e below _ (T53.setTop (mkF m 89 #[.val (.int p1), .val (.int (1 : Int32)), .val (.int (0 : Int32)), .val (.ref aBACKWARD), .val (.int ((((p1).toUInt32 >>> ((2 : Int32) &&& 31).toUInt32).toInt32) &&& (3 : Int32))), .unset, .unset] [(.ref aFORWARD)]))
            refine own_go (fun _ k => XS.astore X53.here hx rfl (hb hby at_89) rfl rfl (l' := #[.val (.int p1), .val (.int (1 : Int32)), .val (.int (0 : Int32)), .val (.ref aBACKWARD), .val (.int ((((p1).toUInt32 >>> ((2 : Int32) &&& 31).toUInt32).toInt32) &&& (3 : Int32))), .val (.ref aFORWARD), .unset]) rfl k) ?_
            show OwnGo p e below _ (T53.setTop (mkF m 91 #[.val (.int p1), .val (.int (1 : Int32)), .val (.int (0 : Int32)), .val (.ref aBACKWARD), .val (.int ((((p1).toUInt32 >>> ((2 : Int32) &&& 31).toUInt32).toInt32) &&& (3 : Int32))), .val (.ref aFORWARD), .unset] []))
            refine own_go (fun _ k => XS.iconst X53.here hx rfl (hb hby at_91) k) ?_
            show OwnGo p e below _ (T53.setTop (mkF m 92 #[.val (.int p1), .val (.int (1 : Int32)), .val (.int (0 : Int32)), .val (.ref aBACKWARD), .val (.int ((((p1).toUInt32 >>> ((2 : Int32) &&& 31).toUInt32).toInt32) &&& (3 : Int32))), .val (.ref aFORWARD), .unset] [(.int (0 : Int32))]))
            refine own_go (fun _ k => XS.istore X53.here hx rfl (hb hby at_92) rfl (l' := #[.val (.int p1), .val (.int (1 : Int32)), .val (.int (0 : Int32)), .val (.ref aBACKWARD), .val (.int ((((p1).toUInt32 >>> ((2 : Int32) &&& 31).toUInt32).toInt32) &&& (3 : Int32))), .val (.ref aFORWARD), .val (.int (0 : Int32))]) rfl k) ?_
            show OwnGo p e below _ (T53.setTop (mkF m 94 #[.val (.int p1), .val (.int (1 : Int32)), .val (.int (0 : Int32)), .val (.ref aBACKWARD), .val (.int ((((p1).toUInt32 >>> ((2 : Int32) &&& 31).toUInt32).toInt32) &&& (3 : Int32))), .val (.ref aFORWARD), .val (.int (0 : Int32))] []))
            refine own_go (fun _ k => XS.goto X53.here hx rfl (pc0 := 94) (pc' := 105) rfl (hb hby at_94) (by decide) (by decide) k) ?_
            show OwnGo p e below _ (T53.setTop (mkF m 105 #[.val (.int p1), .val (.int (1 : Int32)), .val (.int (0 : Int32)), .val (.ref aBACKWARD), .val (.int ((((p1).toUInt32 >>> ((2 : Int32) &&& 31).toUInt32).toInt32) &&& (3 : Int32))), .val (.ref aFORWARD), .val (.int (0 : Int32))] []))
            refine own_go (fun _ k => XS.aload X53.here hx rfl (hb hby at_105) rfl rfl k) ?_
            show OwnGo p e below _ (T53.setTop (mkF m 107 #[.val (.int p1), .val (.int (1 : Int32)), .val (.int (0 : Int32)), .val (.ref aBACKWARD), .val (.int ((((p1).toUInt32 >>> ((2 : Int32) &&& 31).toUInt32).toInt32) &&& (3 : Int32))), .val (.ref aFORWARD), .val (.int (0 : Int32))] [(.ref aFORWARD)]))
            obtain ⟨cq54, kq54, qa54, qb54, qc54⟩ := isOf hZ e53 (F0.2.2.2.2.2.2.2.2.2.2.1.ext O0.2)
            obtain ⟨_, _, ⟨T54, L54, k54, n54⟩, -, X54, ⟨Lc54, hQ54, l54, y54, z54⟩, st54⟩ := X53.virtualBack hx (y := (⟨"com/example/lachesis/lachesis/diff/Breaks", "breaksOld", "()Z"⟩ : MethodName)) (z := (⟨"com/example/lachesis/lachesis/diff/Breaks", "breaksOld", "()Z"⟩ : MethodName)) hown (mvT hZ (hw _ (List.mem_of_getElem? (i := 6) rfl))) (mvT hZ (hw _ (List.mem_of_getElem? (i := 7) rfl))) (notFace_of_selects (args := #[]) (mvT hZ (hw _ (List.mem_of_getElem? (i := 9) rfl)))) (mvT hZ (hw _ (List.mem_of_getElem? (i := 9) rfl))) (mvT hZ (hw _ (List.mem_of_getElem? (i := 8) rfl))) (by decide) (backOf (W := 0) (rm_oldFORWARD l Z a0 hw [] aNONE aBACKWARD aBOTH aFORWARD F0 h0 n0 O0) hZ (hw _ (List.mem_of_getElem? (i := 10) rfl)) (hw _ (List.mem_of_getElem? (i := 2) rfl)) (by decide) (by decide)) qa54 qc54 (g := (mkF m 107 #[.val (.int p1), .val (.int (1 : Int32)), .val (.int (0 : Int32)), .val (.ref aBACKWARD), .val (.int ((((p1).toUInt32 >>> ((2 : Int32) &&& 31).toUInt32).toInt32) &&& (3 : Int32))), .val (.ref aFORWARD), .val (.int (0 : Int32))] [(.ref aFORWARD)])) rfl (by rw [hml]; rfl) (Steps.refl _) (argsL := []) (rest := []) (lenOf pd___Z rfl) rfl (by show 2 * 0 + _ ≤ _; exact Nat.le_of_eq rfl) (hb hby at_107) (fun _ _ => ⟨rfl, e53, (by decide : 0 + 0 ≤ _), (by decide : 0 + 0 ≤ _)⟩)
            dsimp only [Pt.U, Pt.locs, Pt.cells, Pt.slots] at X54 l54 y54 z54 st54 hQ54
            subst l54 y54 z54
            obtain ⟨rfl, Nq54, K54⟩ := hQ54
            have N54 := Fr.app N45 Nq54
            refine own_go (fun _ k => st54.trans k) ?_
            show OwnGo p e below _ (T54.setTop (mkF m 110 #[.val (.int p1), .val (.int (1 : Int32)), .val (.int (0 : Int32)), .val (.ref aBACKWARD), .val (.int ((((p1).toUInt32 >>> ((2 : Int32) &&& 31).toUInt32).toInt32) &&& (3 : Int32))), .val (.ref aFORWARD), .val (.int (0 : Int32))] [(.int (0 : Int32))]))
            refine own_go (fun _ k => XS.iload X54.here hx rfl (hb hby at_110) rfl k) ?_
            show OwnGo p e below _ (T54.setTop (mkF m 112 #[.val (.int p1), .val (.int (1 : Int32)), .val (.int (0 : Int32)), .val (.ref aBACKWARD), .val (.int ((((p1).toUInt32 >>> ((2 : Int32) &&& 31).toUInt32).toInt32) &&& (3 : Int32))), .val (.ref aFORWARD), .val (.int (0 : Int32))] [(.int (0 : Int32)), (.int (0 : Int32))]))
            refine own_go (fun _ k => XS.icmpNo X54.here hx rfl (hb hby at_112) rfl (by decide) k) ?_
            show OwnGo p e below _ (T54.setTop (mkF m 115 #[.val (.int p1), .val (.int (1 : Int32)), .val (.int (0 : Int32)), .val (.ref aBACKWARD), .val (.int ((((p1).toUInt32 >>> ((2 : Int32) &&& 31).toUInt32).toInt32) &&& (3 : Int32))), .val (.ref aFORWARD), .val (.int (0 : Int32))] []))
            refine own_go (fun _ k => XS.iconst X54.here hx rfl (hb hby at_115) k) ?_
            show OwnGo p e below _ (T54.setTop (mkF m 116 #[.val (.int p1), .val (.int (1 : Int32)), .val (.int (0 : Int32)), .val (.ref aBACKWARD), .val (.int ((((p1).toUInt32 >>> ((2 : Int32) &&& 31).toUInt32).toInt32) &&& (3 : Int32))), .val (.ref aFORWARD), .val (.int (0 : Int32))] [(.int (1 : Int32))]))
            refine own_go (fun _ k => XS.goto X54.here hx rfl (pc0 := 116) (pc' := 120) rfl (hb hby at_116) (by decide) (by decide) k) ?_
            show OwnGo p e below _ (T54.setTop (mkF m 120 #[.val (.int p1), .val (.int (1 : Int32)), .val (.int (0 : Int32)), .val (.ref aBACKWARD), .val (.int ((((p1).toUInt32 >>> ((2 : Int32) &&& 31).toUInt32).toInt32) &&& (3 : Int32))), .val (.ref aFORWARD), .val (.int (0 : Int32))] [(.int (1 : Int32))]))
            obtain ⟨fs, hr, hrun, hended, hW, hsame⟩ := X54.leave (v := some (.int (1 : Int32))) (fun h => by rw [Bd.returns] at h; cases h)
            refine ⟨_, _, retOut X54 hx Bd.returns rfl (Or.inl ⟨rfl, Or.inr (Or.inl rfl), _, rfl⟩) (hb hby at_120) hr, hrun, hended, _, _, rfl, ?_, ⟨_, rfl⟩, hW, hsame.mono (by decide) (by decide)⟩
            show Q_law Z aNONE aBACKWARD aBOTH aFORWARD p1 h0 n0 _ T54.heap _
            rw [K54]
            exact ⟨rfl, N54⟩
          · refine own_go (fun _ k => XS.icmpYes X45.here hx rfl (pc0 := 83) (pc' := 97) rfl (hb hby at_83) rfl (feq hc52).2 (by decide) (by decide) k) ?_
            show OwnGo p e below _ (T45.setTop (mkF m 97 #[.val (.int p1), .val (.int (1 : Int32)), .val (.int (0 : Int32)), .val (.ref aBACKWARD), .val (.int ((((p1).toUInt32 >>> ((2 : Int32) &&& 31).toUInt32).toInt32) &&& (3 : Int32))), .unset, .unset] []))
            obtain ⟨T55, X55, e55, st55⟩ := getS X45 hx hZ hown (host := "") (hw _ (List.mem_of_getElem? (i := 18) rfl)) Via.refl K45 (F0.2.2.2.2.2.2.1.ext O0.2) (g := (mkF m 97 #[.val (.int p1), .val (.int (1 : Int32)), .val (.int (0 : Int32)), .val (.ref aBACKWARD), .val (.int ((((p1).toUInt32 >>> ((2 : Int32) &&& 31).toUInt32).toInt32) &&& (3 : Int32))), .unset, .unset] [])) rfl (hb hby at_97)
            refine own_go st55 ?_
            show OwnGo p e below _ (T55.setTop (mkF m 100 #[.val (.int p1), .val (.int (1 : Int32)), .val (.int (0 : Int32)), .val (.ref aBACKWARD), .val (.int ((((p1).toUInt32 >>> ((2 : Int32) &&& 31).toUInt32).toInt32) &&& (3 : Int32))), .unset, .unset] [(.ref aBOTH)]))
            refine own_go (fun _ k => XS.astore X55.here hx rfl (hb hby at_100) rfl rfl (l' := #[.val (.int p1), .val (.int (1 : Int32)), .val (.int (0 : Int32)), .val (.ref aBACKWARD), .val (.int ((((p1).toUInt32 >>> ((2 : Int32) &&& 31).toUInt32).toInt32) &&& (3 : Int32))), .val (.ref aBOTH), .unset]) rfl k) ?_
            show OwnGo p e below _ (T55.setTop (mkF m 102 #[.val (.int p1), .val (.int (1 : Int32)), .val (.int (0 : Int32)), .val (.ref aBACKWARD), .val (.int ((((p1).toUInt32 >>> ((2 : Int32) &&& 31).toUInt32).toInt32) &&& (3 : Int32))), .val (.ref aBOTH), .unset] []))
            refine own_go (fun _ k => XS.iconst X55.here hx rfl (hb hby at_102) k) ?_
            show OwnGo p e below _ (T55.setTop (mkF m 103 #[.val (.int p1), .val (.int (1 : Int32)), .val (.int (0 : Int32)), .val (.ref aBACKWARD), .val (.int ((((p1).toUInt32 >>> ((2 : Int32) &&& 31).toUInt32).toInt32) &&& (3 : Int32))), .val (.ref aBOTH), .unset] [(.int (1 : Int32))]))
            refine own_go (fun _ k => XS.istore X55.here hx rfl (hb hby at_103) rfl (l' := #[.val (.int p1), .val (.int (1 : Int32)), .val (.int (0 : Int32)), .val (.ref aBACKWARD), .val (.int ((((p1).toUInt32 >>> ((2 : Int32) &&& 31).toUInt32).toInt32) &&& (3 : Int32))), .val (.ref aBOTH), .val (.int (1 : Int32))]) rfl k) ?_
            show OwnGo p e below _ (T55.setTop (mkF m 105 #[.val (.int p1), .val (.int (1 : Int32)), .val (.int (0 : Int32)), .val (.ref aBACKWARD), .val (.int ((((p1).toUInt32 >>> ((2 : Int32) &&& 31).toUInt32).toInt32) &&& (3 : Int32))), .val (.ref aBOTH), .val (.int (1 : Int32))] []))
            refine own_go (fun _ k => XS.aload X55.here hx rfl (hb hby at_105) rfl rfl k) ?_
            show OwnGo p e below _ (T55.setTop (mkF m 107 #[.val (.int p1), .val (.int (1 : Int32)), .val (.int (0 : Int32)), .val (.ref aBACKWARD), .val (.int ((((p1).toUInt32 >>> ((2 : Int32) &&& 31).toUInt32).toInt32) &&& (3 : Int32))), .val (.ref aBOTH), .val (.int (1 : Int32))] [(.ref aBOTH)]))
            obtain ⟨cq56, kq56, qa56, qb56, qc56⟩ := isOf hZ e55 (F0.2.2.2.2.2.2.2.1.ext O0.2)
            obtain ⟨_, _, ⟨T56, L56, k56, n56⟩, -, X56, ⟨Lc56, hQ56, l56, y56, z56⟩, st56⟩ := X55.virtualBack hx (y := (⟨"com/example/lachesis/lachesis/diff/Breaks", "breaksOld", "()Z"⟩ : MethodName)) (z := (⟨"com/example/lachesis/lachesis/diff/Breaks", "breaksOld", "()Z"⟩ : MethodName)) hown (mvT hZ (hw _ (List.mem_of_getElem? (i := 6) rfl))) (mvT hZ (hw _ (List.mem_of_getElem? (i := 7) rfl))) (notFace_of_selects (args := #[]) (mvT hZ (hw _ (List.mem_of_getElem? (i := 9) rfl)))) (mvT hZ (hw _ (List.mem_of_getElem? (i := 9) rfl))) (mvT hZ (hw _ (List.mem_of_getElem? (i := 8) rfl))) (by decide) (backOf (W := 0) (rm_oldBOTH l Z a0 hw [] aNONE aBACKWARD aBOTH aFORWARD F0 h0 n0 O0) hZ (hw _ (List.mem_of_getElem? (i := 10) rfl)) (hw _ (List.mem_of_getElem? (i := 2) rfl)) (by decide) (by decide)) qa56 qc56 (g := (mkF m 107 #[.val (.int p1), .val (.int (1 : Int32)), .val (.int (0 : Int32)), .val (.ref aBACKWARD), .val (.int ((((p1).toUInt32 >>> ((2 : Int32) &&& 31).toUInt32).toInt32) &&& (3 : Int32))), .val (.ref aBOTH), .val (.int (1 : Int32))] [(.ref aBOTH)])) rfl (by rw [hml]; rfl) (Steps.refl _) (argsL := []) (rest := []) (lenOf pd___Z rfl) rfl (by show 2 * 0 + _ ≤ _; exact Nat.le_of_eq rfl) (hb hby at_107) (fun _ _ => ⟨rfl, e55, (by decide : 0 + 0 ≤ _), (by decide : 0 + 0 ≤ _)⟩)
            dsimp only [Pt.U, Pt.locs, Pt.cells, Pt.slots] at X56 l56 y56 z56 st56 hQ56
            subst l56 y56 z56
            obtain ⟨rfl, Nq56, K56⟩ := hQ56
            have N56 := Fr.app N45 Nq56
            refine own_go (fun _ k => st56.trans k) ?_
            show OwnGo p e below _ (T56.setTop (mkF m 110 #[.val (.int p1), .val (.int (1 : Int32)), .val (.int (0 : Int32)), .val (.ref aBACKWARD), .val (.int ((((p1).toUInt32 >>> ((2 : Int32) &&& 31).toUInt32).toInt32) &&& (3 : Int32))), .val (.ref aBOTH), .val (.int (1 : Int32))] [(.int (1 : Int32))]))
            refine own_go (fun _ k => XS.iload X56.here hx rfl (hb hby at_110) rfl k) ?_
            show OwnGo p e below _ (T56.setTop (mkF m 112 #[.val (.int p1), .val (.int (1 : Int32)), .val (.int (0 : Int32)), .val (.ref aBACKWARD), .val (.int ((((p1).toUInt32 >>> ((2 : Int32) &&& 31).toUInt32).toInt32) &&& (3 : Int32))), .val (.ref aBOTH), .val (.int (1 : Int32))] [(.int (1 : Int32)), (.int (1 : Int32))]))
            refine own_go (fun _ k => XS.icmpNo X56.here hx rfl (hb hby at_112) rfl (by decide) k) ?_
            show OwnGo p e below _ (T56.setTop (mkF m 115 #[.val (.int p1), .val (.int (1 : Int32)), .val (.int (0 : Int32)), .val (.ref aBACKWARD), .val (.int ((((p1).toUInt32 >>> ((2 : Int32) &&& 31).toUInt32).toInt32) &&& (3 : Int32))), .val (.ref aBOTH), .val (.int (1 : Int32))] []))
            refine own_go (fun _ k => XS.iconst X56.here hx rfl (hb hby at_115) k) ?_
            show OwnGo p e below _ (T56.setTop (mkF m 116 #[.val (.int p1), .val (.int (1 : Int32)), .val (.int (0 : Int32)), .val (.ref aBACKWARD), .val (.int ((((p1).toUInt32 >>> ((2 : Int32) &&& 31).toUInt32).toInt32) &&& (3 : Int32))), .val (.ref aBOTH), .val (.int (1 : Int32))] [(.int (1 : Int32))]))
            refine own_go (fun _ k => XS.goto X56.here hx rfl (pc0 := 116) (pc' := 120) rfl (hb hby at_116) (by decide) (by decide) k) ?_
            show OwnGo p e below _ (T56.setTop (mkF m 120 #[.val (.int p1), .val (.int (1 : Int32)), .val (.int (0 : Int32)), .val (.ref aBACKWARD), .val (.int ((((p1).toUInt32 >>> ((2 : Int32) &&& 31).toUInt32).toInt32) &&& (3 : Int32))), .val (.ref aBOTH), .val (.int (1 : Int32))] [(.int (1 : Int32))]))
            obtain ⟨fs, hr, hrun, hended, hW, hsame⟩ := X56.leave (v := some (.int (1 : Int32))) (fun h => by rw [Bd.returns] at h; cases h)
            refine ⟨_, _, retOut X56 hx Bd.returns rfl (Or.inl ⟨rfl, Or.inr (Or.inl rfl), _, rfl⟩) (hb hby at_120) hr, hrun, hended, _, _, rfl, ?_, ⟨_, rfl⟩, hW, hsame.mono (by decide) (by decide)⟩
            show Q_law Z aNONE aBACKWARD aBOTH aFORWARD p1 h0 n0 _ T56.heap _
            rw [K56]
            exact ⟨rfl, N56⟩
    · refine own_go (fun _ k => XS.ifNo X0.here hx rfl (hb hby at_15) rfl ((if0 _ _).trans (feq hc43).1) k) ?_
      show OwnGo p e below _ (s₁.setTop (mkF m 18 #[.val (.int p1), .val (.int (1 : Int32)), .unset, .unset, .unset, .unset, .unset] []))
      refine own_go (fun _ k => XS.iconst X0.here hx rfl (hb hby at_18) k) ?_
      show OwnGo p e below _ (s₁.setTop (mkF m 19 #[.val (.int p1), .val (.int (1 : Int32)), .unset, .unset, .unset, .unset, .unset] [(.int (1 : Int32))]))
      refine own_go (fun _ k => XS.goto X0.here hx rfl (pc0 := 19) (pc' := 23) rfl (hb hby at_19) (by decide) (by decide) k) ?_
      show OwnGo p e below _ (s₁.setTop (mkF m 23 #[.val (.int p1), .val (.int (1 : Int32)), .unset, .unset, .unset, .unset, .unset] [(.int (1 : Int32))]))
      refine own_go (fun _ k => XS.istoreN X0.here hx rfl (hb hby at_23) rfl (l' := #[.val (.int p1), .val (.int (1 : Int32)), .val (.int (1 : Int32)), .unset, .unset, .unset, .unset]) rfl k) ?_
      show OwnGo p e below _ (s₁.setTop (mkF m 24 #[.val (.int p1), .val (.int (1 : Int32)), .val (.int (1 : Int32)), .unset, .unset, .unset, .unset] []))
      refine own_go (fun _ k => XS.iloadN X0.here hx rfl (hb hby at_24) rfl k) ?_
      show OwnGo p e below _ (s₁.setTop (mkF m 25 #[.val (.int p1), .val (.int (1 : Int32)), .val (.int (1 : Int32)), .unset, .unset, .unset, .unset] [(.int (1 : Int32))]))
      refine own_go (fun _ k => XS.iloadN X0.here hx rfl (hb hby at_25) rfl k) ?_
      show OwnGo p e below _ (s₁.setTop (mkF m 26 #[.val (.int p1), .val (.int (1 : Int32)), .val (.int (1 : Int32)), .unset, .unset, .unset, .unset] [(.int (1 : Int32)), (.int (1 : Int32))]))
      obtain ⟨_, _, ⟨T57, L57, k57, n57⟩, -, X57, ⟨Lc57, hQ57, l57, y57, z57⟩, st57⟩ := Jvm.LawKit.callS X0 hx (y := (⟨"com/example/lachesis/lachesis/diff/Breaks", "of", "(ZZ)Lcom/example/lachesis/lachesis/diff/Breaks;"⟩ : MethodName)) hown (mvT hZ (hw _ (List.mem_of_getElem? (i := 0) rfl))) (mvT hZ (hw _ (List.mem_of_getElem? (i := 1) rfl))) (mvT hZ (hw _ (List.mem_of_getElem? (i := 2) rfl))) (mvT hZ (hw _ (List.mem_of_getElem? (i := 3) rfl))) (by decide) (backOf (W := 0) (rm_of l Z a0 hw [] aNONE aBACKWARD aBOTH aFORWARD F0 (1 : Int32) (1 : Int32) aBOTH h0 n0 O0 (by simp)) hZ (hw _ (List.mem_of_getElem? (i := 3) rfl)) (hw _ (List.mem_of_getElem? (i := 2) rfl)) (by decide) (by decide)) (g := (mkF m 26 #[.val (.int p1), .val (.int (1 : Int32)), .val (.int (1 : Int32)), .unset, .unset, .unset, .unset] [(.int (1 : Int32)), (.int (1 : Int32))])) rfl (by rw [hml]; rfl) (argsL := [(.int (1 : Int32)), (.int (1 : Int32))]) (rest := []) (lenOf pd_Z_Z__Lcom_example_lachesis_lachesis_diff_Breaks_ rfl) rfl (by show 2 * 0 + _ ≤ _; exact Nat.le_of_eq rfl) (hb hby at_26) (fun _ _ => ⟨rfl, e0, (by decide : 0 + 0 ≤ _), (by decide : 0 + 0 ≤ _)⟩)
      dsimp only [Pt.U, Pt.locs, Pt.cells, Pt.slots] at X57 l57 y57 z57 st57 hQ57
      subst l57 y57 z57
      obtain ⟨rfl, Nq57, K57⟩ := hQ57
      have N57 := Fr.app N0 Nq57
      refine own_go st57 ?_
      show OwnGo p e below _ (T57.setTop (mkF m 29 #[.val (.int p1), .val (.int (1 : Int32)), .val (.int (1 : Int32)), .unset, .unset, .unset, .unset] [(.ref aBOTH)]))
      refine own_go (fun _ k => XS.astoreN X57.here hx rfl (hb hby at_29) rfl rfl (l' := #[.val (.int p1), .val (.int (1 : Int32)), .val (.int (1 : Int32)), .val (.ref aBOTH), .unset, .unset, .unset]) rfl k) ?_
      show OwnGo p e below _ (T57.setTop (mkF m 30 #[.val (.int p1), .val (.int (1 : Int32)), .val (.int (1 : Int32)), .val (.ref aBOTH), .unset, .unset, .unset] []))
      refine own_go (fun _ k => XS.aloadN X57.here hx rfl (hb hby at_30) rfl rfl k) ?_
      show OwnGo p e below _ (T57.setTop (mkF m 31 #[.val (.int p1), .val (.int (1 : Int32)), .val (.int (1 : Int32)), .val (.ref aBOTH), .unset, .unset, .unset] [(.ref aBOTH)]))
      obtain ⟨cq58, kq58, qa58, qb58, qc58⟩ := isOf hZ K57 (F0.2.2.2.2.2.2.2.1.ext O0.2)
      obtain ⟨_, _, ⟨T58, L58, k58, n58⟩, -, X58, ⟨Lc58, hQ58, l58, y58, z58⟩, st58⟩ := X57.virtualBack hx (y := (⟨"com/example/lachesis/lachesis/diff/Breaks", "breaksOld", "()Z"⟩ : MethodName)) (z := (⟨"com/example/lachesis/lachesis/diff/Breaks", "breaksOld", "()Z"⟩ : MethodName)) hown (mvT hZ (hw _ (List.mem_of_getElem? (i := 6) rfl))) (mvT hZ (hw _ (List.mem_of_getElem? (i := 7) rfl))) (notFace_of_selects (args := #[]) (mvT hZ (hw _ (List.mem_of_getElem? (i := 9) rfl)))) (mvT hZ (hw _ (List.mem_of_getElem? (i := 9) rfl))) (mvT hZ (hw _ (List.mem_of_getElem? (i := 8) rfl))) (by decide) (backOf (W := 0) (rm_oldBOTH l Z a0 hw [] aNONE aBACKWARD aBOTH aFORWARD F0 h0 n0 O0) hZ (hw _ (List.mem_of_getElem? (i := 10) rfl)) (hw _ (List.mem_of_getElem? (i := 2) rfl)) (by decide) (by decide)) qa58 qc58 (g := (mkF m 31 #[.val (.int p1), .val (.int (1 : Int32)), .val (.int (1 : Int32)), .val (.ref aBOTH), .unset, .unset, .unset] [(.ref aBOTH)])) rfl (by rw [hml]; rfl) (Steps.refl _) (argsL := []) (rest := []) (lenOf pd___Z rfl) rfl (by show 2 * 0 + _ ≤ _; exact Nat.le_of_eq rfl) (hb hby at_31) (fun _ _ => ⟨rfl, K57, (by decide : 0 + 0 ≤ _), (by decide : 0 + 0 ≤ _)⟩)
      dsimp only [Pt.U, Pt.locs, Pt.cells, Pt.slots] at X58 l58 y58 z58 st58 hQ58
      subst l58 y58 z58
      obtain ⟨rfl, Nq58, K58⟩ := hQ58
      have N58 := Fr.app N57 Nq58
      refine own_go (fun _ k => st58.trans k) ?_
      show OwnGo p e below _ (T58.setTop (mkF m 34 #[.val (.int p1), .val (.int (1 : Int32)), .val (.int (1 : Int32)), .val (.ref aBOTH), .unset, .unset, .unset] [(.int (1 : Int32))]))
      refine own_go (fun _ k => XS.iloadN X58.here hx rfl (hb hby at_34) rfl k) ?_
      show OwnGo p e below _ (T58.setTop (mkF m 35 #[.val (.int p1), .val (.int (1 : Int32)), .val (.int (1 : Int32)), .val (.ref aBOTH), .unset, .unset, .unset] [(.int (1 : Int32)), (.int (1 : Int32))]))
      refine own_go (fun _ k => XS.icmpYes X58.here hx rfl (pc0 := 35) (pc' := 40) rfl (hb hby at_35) rfl (by decide) (by decide) (by decide) k) ?_
      show OwnGo p e below _ (T58.setTop (mkF m 40 #[.val (.int p1), .val (.int (1 : Int32)), .val (.int (1 : Int32)), .val (.ref aBOTH), .unset, .unset, .unset] []))
      refine own_go (fun _ k => XS.iloadN X58.here hx rfl (hb hby at_40) rfl k) ?_
      show OwnGo p e below _ (T58.setTop (mkF m 41 #[.val (.int p1), .val (.int (1 : Int32)), .val (.int (1 : Int32)), .val (.ref aBOTH), .unset, .unset, .unset] [(.int p1)]))
      refine own_go (fun _ k => XS.iconst X58.here hx rfl (hb hby at_41) k) ?_
      show OwnGo p e below _ (T58.setTop (mkF m 42 #[.val (.int p1), .val (.int (1 : Int32)), .val (.int (1 : Int32)), .val (.ref aBOTH), .unset, .unset, .unset] [(.int (2 : Int32)), (.int p1)]))
      refine own_go (fun _ k => XS.iushr X58.here hx rfl (hb hby at_42) rfl k) ?_
      show OwnGo p e below _ (T58.setTop (mkF m 43 #[.val (.int p1), .val (.int (1 : Int32)), .val (.int (1 : Int32)), .val (.ref aBOTH), .unset, .unset, .unset] [(.int (((p1).toUInt32 >>> ((2 : Int32) &&& 31).toUInt32).toInt32))]))
      refine own_go (fun _ k => XS.iconst X58.here hx rfl (hb hby at_43) k) ?_
      show OwnGo p e below _ (T58.setTop (mkF m 44 #[.val (.int p1), .val (.int (1 : Int32)), .val (.int (1 : Int32)), .val (.ref aBOTH), .unset, .unset, .unset] [(.int (3 : Int32)), (.int (((p1).toUInt32 >>> ((2 : Int32) &&& 31).toUInt32).toInt32))]))
      refine own_go (fun _ k => XS.iand X58.here hx rfl (hb hby at_44) rfl k) ?_
      show OwnGo p e below _ (T58.setTop (mkF m 45 #[.val (.int p1), .val (.int (1 : Int32)), .val (.int (1 : Int32)), .val (.ref aBOTH), .unset, .unset, .unset] [(.int ((((p1).toUInt32 >>> ((2 : Int32) &&& 31).toUInt32).toInt32) &&& (3 : Int32)))]))
      refine own_go (fun _ k => XS.istore X58.here hx rfl (hb hby at_45) rfl (l' := #[.val (.int p1), .val (.int (1 : Int32)), .val (.int (1 : Int32)), .val (.ref aBOTH), .val (.int ((((p1).toUInt32 >>> ((2 : Int32) &&& 31).toUInt32).toInt32) &&& (3 : Int32))), .unset, .unset]) rfl k) ?_
      show OwnGo p e below _ (T58.setTop (mkF m 47 #[.val (.int p1), .val (.int (1 : Int32)), .val (.int (1 : Int32)), .val (.ref aBOTH), .val (.int ((((p1).toUInt32 >>> ((2 : Int32) &&& 31).toUInt32).toInt32) &&& (3 : Int32))), .unset, .unset] []))
      refine own_go (fun _ k => XS.iload X58.here hx rfl (hb hby at_47) rfl k) ?_
      show OwnGo p e below _ (T58.setTop (mkF m 49 #[.val (.int p1), .val (.int (1 : Int32)), .val (.int (1 : Int32)), .val (.ref aBOTH), .val (.int ((((p1).toUInt32 >>> ((2 : Int32) &&& 31).toUInt32).toInt32) &&& (3 : Int32))), .unset, .unset] [(.int ((((p1).toUInt32 >>> ((2 : Int32) &&& 31).toUInt32).toInt32) &&& (3 : Int32)))]))
      by_cases hc59 : ((((p1).toUInt32 >>> ((2 : Int32) &&& 31).toUInt32).toInt32) &&& (3 : Int32)) = (0 : Int32)
      · refine own_go (fun _ k => XS.ifNo X58.here hx rfl (hb hby at_49) rfl ((if0 _ _).trans (teq hc59).2) k) ?_
        show OwnGo p e below _ (T58.setTop (mkF m 52 #[.val (.int p1), .val (.int (1 : Int32)), .val (.int (1 : Int32)), .val (.ref aBOTH), .val (.int ((((p1).toUInt32 >>> ((2 : Int32) &&& 31).toUInt32).toInt32) &&& (3 : Int32))), .unset, .unset] []))
        obtain ⟨T60, X60, e60, st60⟩ := getS X58 hx hZ hown (host := "") (hw _ (List.mem_of_getElem? (i := 15) rfl)) Via.refl K58 (F0.1.ext O0.2) (g := (mkF m 52 #[.val (.int p1), .val (.int (1 : Int32)), .val (.int (1 : Int32)), .val (.ref aBOTH), .val (.int ((((p1).toUInt32 >>> ((2 : Int32) &&& 31).toUInt32).toInt32) &&& (3 : Int32))), .unset, .unset] [])) rfl (hb hby at_52)
        refine own_go st60 ?_
        show OwnGo p e below _ (T60.setTop (mkF m 55 #[.val (.int p1), .val (.int (1 : Int32)), .val (.int (1 : Int32)), .val (.ref aBOTH), .val (.int ((((p1).toUInt32 >>> ((2 : Int32) &&& 31).toUInt32).toInt32) &&& (3 : Int32))), .unset, .unset] [(.ref aNONE)]))
        refine own_go (fun _ k => XS.astore X60.here hx rfl (hb hby at_55) rfl rfl (l' := #[.val (.int p1), .val (.int (1 : Int32)), .val (.int (1 : Int32)), .val (.ref aBOTH), .val (.int ((((p1).toUInt32 >>> ((2 : Int32) &&& 31).toUInt32).toInt32) &&& (3 : Int32))), .val (.ref aNONE), .unset]) rfl k) ?_
        show OwnGo p e below _ (T60.setTop (mkF m 57 #[.val (.int p1), .val (.int (1 : Int32)), .val (.int (1 : Int32)), .val (.ref aBOTH), .val (.int ((((p1).toUInt32 >>> ((2 : Int32) &&& 31).toUInt32).toInt32) &&& (3 : Int32))), .val (.ref aNONE), .unset] []))
        refine own_go (fun _ k => XS.iconst X60.here hx rfl (hb hby at_57) k) ?_
        show OwnGo p e below _ (T60.setTop (mkF m 58 #[.val (.int p1), .val (.int (1 : Int32)), .val (.int (1 : Int32)), .val (.ref aBOTH), .val (.int ((((p1).toUInt32 >>> ((2 : Int32) &&& 31).toUInt32).toInt32) &&& (3 : Int32))), .val (.ref aNONE), .unset] [(.int (0 : Int32))]))
        refine own_go (fun _ k => XS.istore X60.here hx rfl (hb hby at_58) rfl (l' := #[.val (.int p1), .val (.int (1 : Int32)), .val (.int (1 : Int32)), .val (.ref aBOTH), .val (.int ((((p1).toUInt32 >>> ((2 : Int32) &&& 31).toUInt32).toInt32) &&& (3 : Int32))), .val (.ref aNONE), .val (.int (0 : Int32))]) rfl k) ?_
        show OwnGo p e below _ (T60.setTop (mkF m 60 #[.val (.int p1), .val (.int (1 : Int32)), .val (.int (1 : Int32)), .val (.ref aBOTH), .val (.int ((((p1).toUInt32 >>> ((2 : Int32) &&& 31).toUInt32).toInt32) &&& (3 : Int32))), .val (.ref aNONE), .val (.int (0 : Int32))] []))
        refine own_go (fun _ k => XS.goto X60.here hx rfl (pc0 := 60) (pc' := 105) rfl (hb hby at_60) (by decide) (by decide) k) ?_
        show OwnGo p e below _ (T60.setTop (mkF m 105 #[.val (.int p1), .val (.int (1 : Int32)), .val (.int (1 : Int32)), .val (.ref aBOTH), .val (.int ((((p1).toUInt32 >>> ((2 : Int32) &&& 31).toUInt32).toInt32) &&& (3 : Int32))), .val (.ref aNONE), .val (.int (0 : Int32))] []))
        refine own_go (fun _ k => XS.aload X60.here hx rfl (hb hby at_105) rfl rfl k) ?_
        show OwnGo p e below _ (T60.setTop (mkF m 107 #[.val (.int p1), .val (.int (1 : Int32)), .val (.int (1 : Int32)), .val (.ref aBOTH), .val (.int ((((p1).toUInt32 >>> ((2 : Int32) &&& 31).toUInt32).toInt32) &&& (3 : Int32))), .val (.ref aNONE), .val (.int (0 : Int32))] [(.ref aNONE)]))
        obtain ⟨cq61, kq61, qa61, qb61, qc61⟩ := isOf hZ e60 (F0.2.1.ext O0.2)
        obtain ⟨_, _, ⟨T61, L61, k61, n61⟩, -, X61, ⟨Lc61, hQ61, l61, y61, z61⟩, st61⟩ := X60.virtualBack hx (y := (⟨"com/example/lachesis/lachesis/diff/Breaks", "breaksOld", "()Z"⟩ : MethodName)) (z := (⟨"com/example/lachesis/lachesis/diff/Breaks", "breaksOld", "()Z"⟩ : MethodName)) hown (mvT hZ (hw _ (List.mem_of_getElem? (i := 6) rfl))) (mvT hZ (hw _ (List.mem_of_getElem? (i := 7) rfl))) (notFace_of_selects (args := #[]) (mvT hZ (hw _ (List.mem_of_getElem? (i := 9) rfl)))) (mvT hZ (hw _ (List.mem_of_getElem? (i := 9) rfl))) (mvT hZ (hw _ (List.mem_of_getElem? (i := 8) rfl))) (by decide) (backOf (W := 0) (rm_oldNONE l Z a0 hw [] aNONE aBACKWARD aBOTH aFORWARD F0 h0 n0 O0) hZ (hw _ (List.mem_of_getElem? (i := 10) rfl)) (hw _ (List.mem_of_getElem? (i := 2) rfl)) (by decide) (by decide)) qa61 qc61 (g := (mkF m 107 #[.val (.int p1), .val (.int (1 : Int32)), .val (.int (1 : Int32)), .val (.ref aBOTH), .val (.int ((((p1).toUInt32 >>> ((2 : Int32) &&& 31).toUInt32).toInt32) &&& (3 : Int32))), .val (.ref aNONE), .val (.int (0 : Int32))] [(.ref aNONE)])) rfl (by rw [hml]; rfl) (Steps.refl _) (argsL := []) (rest := []) (lenOf pd___Z rfl) rfl (by show 2 * 0 + _ ≤ _; exact Nat.le_of_eq rfl) (hb hby at_107) (fun _ _ => ⟨rfl, e60, (by decide : 0 + 0 ≤ _), (by decide : 0 + 0 ≤ _)⟩)
        dsimp only [Pt.U, Pt.locs, Pt.cells, Pt.slots] at X61 l61 y61 z61 st61 hQ61
        subst l61 y61 z61
        obtain ⟨rfl, Nq61, K61⟩ := hQ61
        have N61 := Fr.app N58 Nq61
        refine own_go (fun _ k => st61.trans k) ?_
        show OwnGo p e below _ (T61.setTop (mkF m 110 #[.val (.int p1), .val (.int (1 : Int32)), .val (.int (1 : Int32)), .val (.ref aBOTH), .val (.int ((((p1).toUInt32 >>> ((2 : Int32) &&& 31).toUInt32).toInt32) &&& (3 : Int32))), .val (.ref aNONE), .val (.int (0 : Int32))] [(.int (0 : Int32))]))
        refine own_go (fun _ k => XS.iload X61.here hx rfl (hb hby at_110) rfl k) ?_
        show OwnGo p e below _ (T61.setTop (mkF m 112 #[.val (.int p1), .val (.int (1 : Int32)), .val (.int (1 : Int32)), .val (.ref aBOTH), .val (.int ((((p1).toUInt32 >>> ((2 : Int32) &&& 31).toUInt32).toInt32) &&& (3 : Int32))), .val (.ref aNONE), .val (.int (0 : Int32))] [(.int (0 : Int32)), (.int (0 : Int32))]))
        refine own_go (fun _ k => XS.icmpNo X61.here hx rfl (hb hby at_112) rfl (by decide) k) ?_
        show OwnGo p e below _ (T61.setTop (mkF m 115 #[.val (.int p1), .val (.int (1 : Int32)), .val (.int (1 : Int32)), .val (.ref aBOTH), .val (.int ((((p1).toUInt32 >>> ((2 : Int32) &&& 31).toUInt32).toInt32) &&& (3 : Int32))), .val (.ref aNONE), .val (.int (0 : Int32))] []))
        refine own_go (fun _ k => XS.iconst X61.here hx rfl (hb hby at_115) k) ?_
        show OwnGo p e below _ (T61.setTop (mkF m 116 #[.val (.int p1), .val (.int (1 : Int32)), .val (.int (1 : Int32)), .val (.ref aBOTH), .val (.int ((((p1).toUInt32 >>> ((2 : Int32) &&& 31).toUInt32).toInt32) &&& (3 : Int32))), .val (.ref aNONE), .val (.int (0 : Int32))] [(.int (1 : Int32))]))
        refine own_go (fun _ k => XS.goto X61.here hx rfl (pc0 := 116) (pc' := 120) rfl (hb hby at_116) (by decide) (by decide) k) ?_
        show OwnGo p e below _ (T61.setTop (mkF m 120 #[.val (.int p1), .val (.int (1 : Int32)), .val (.int (1 : Int32)), .val (.ref aBOTH), .val (.int ((((p1).toUInt32 >>> ((2 : Int32) &&& 31).toUInt32).toInt32) &&& (3 : Int32))), .val (.ref aNONE), .val (.int (0 : Int32))] [(.int (1 : Int32))]))
        obtain ⟨fs, hr, hrun, hended, hW, hsame⟩ := X61.leave (v := some (.int (1 : Int32))) (fun h => by rw [Bd.returns] at h; cases h)
        refine ⟨_, _, retOut X61 hx Bd.returns rfl (Or.inl ⟨rfl, Or.inr (Or.inl rfl), _, rfl⟩) (hb hby at_120) hr, hrun, hended, _, _, rfl, ?_, ⟨_, rfl⟩, hW, hsame.mono (by decide) (by decide)⟩
        show Q_law Z aNONE aBACKWARD aBOTH aFORWARD p1 h0 n0 _ T61.heap _
        rw [K61]
        exact ⟨rfl, N61⟩
      · refine own_go (fun _ k => XS.ifYes X58.here hx rfl (pc0 := 49) (pc' := 63) rfl (hb hby at_49) rfl ((if0 _ _).trans (feq hc59).2) (by decide) (by decide) k) ?_
        show OwnGo p e below _ (T58.setTop (mkF m 63 #[.val (.int p1), .val (.int (1 : Int32)), .val (.int (1 : Int32)), .val (.ref aBOTH), .val (.int ((((p1).toUInt32 >>> ((2 : Int32) &&& 31).toUInt32).toInt32) &&& (3 : Int32))), .unset, .unset] []))
        refine own_go (fun _ k => XS.iload X58.here hx rfl (hb hby at_63) rfl k) ?_
        show OwnGo p e below _ (T58.setTop (mkF m 65 #[.val (.int p1), .val (.int (1 : Int32)), .val (.int (1 : Int32)), .val (.ref aBOTH), .val (.int ((((p1).toUInt32 >>> ((2 : Int32) &&& 31).toUInt32).toInt32) &&& (3 : Int32))), .unset, .unset] [(.int ((((p1).toUInt32 >>> ((2 : Int32) &&& 31).toUInt32).toInt32) &&& (3 : Int32)))]))
        refine own_go (fun _ k => XS.iconst X58.here hx rfl (hb hby at_65) k) ?_
        show OwnGo p e below _ (T58.setTop (mkF m 66 #[.val (.int p1), .val (.int (1 : Int32)), .val (.int (1 : Int32)), .val (.ref aBOTH), .val (.int ((((p1).toUInt32 >>> ((2 : Int32) &&& 31).toUInt32).toInt32) &&& (3 : Int32))), .unset, .unset] [(.int (1 : Int32)), (.int ((((p1).toUInt32 >>> ((2 : Int32) &&& 31).toUInt32).toInt32) &&& (3 : Int32)))]))
        by_cases hc62 : ((((p1).toUInt32 >>> ((2 : Int32) &&& 31).toUInt32).toInt32) &&& (3 : Int32)) = (1 : Int32)
        · refine own_go (fun _ k => XS.icmpNo X58.here hx rfl (hb hby at_66) rfl (teq hc62).2 k) ?_
          show OwnGo p e below _ (T58.setTop (mkF m 69 #[.val (.int p1), .val (.int (1 : Int32)), .val (.int (1 : Int32)), .val (.ref aBOTH), .val (.int ((((p1).toUInt32 >>> ((2 : Int32) &&& 31).toUInt32).toInt32) &&& (3 : Int32))), .unset, .unset] []))
          obtain ⟨T63, X63, e63, st63⟩ := getS X58 hx hZ hown (host := "") (hw _ (List.mem_of_getElem? (i := 20) rfl)) Via.refl K58 (F0.2.2.1.ext O0.2) (g := (mkF m 69 #[.val (.int p1), .val (.int (1 : Int32)), .val (.int (1 : Int32)), .val (.ref aBOTH), .val (.int ((((p1).toUInt32 >>> ((2 : Int32) &&& 31).toUInt32).toInt32) &&& (3 : Int32))), .unset, .unset] [])) rfl (hb hby at_69)
          refine own_go st63 ?_
          show OwnGo p e below _ (T63.setTop (mkF m 72 #[.val (.int p1), .val (.int (1 : Int32)), .val (.int (1 : Int32)), .val (.ref aBOTH), .val (.int ((((p1).toUInt32 >>> ((2 : Int32) &&& 31).toUInt32).toInt32) &&& (3 : Int32))), .unset, .unset] [(.ref aBACKWARD)]))
          refine own_go (fun _ k => XS.astore X63.here hx rfl (hb hby at_72) rfl rfl (l' := #[.val (.int p1), .val (.int (1 : Int32)), .val (.int (1 : Int32)), .val (.ref aBOTH), .val (.int ((((p1).toUInt32 >>> ((2 : Int32) &&& 31).toUInt32).toInt32) &&& (3 : Int32))), .val (.ref aBACKWARD), .unset]) rfl k) ?_
          show OwnGo p e below _ (T63.setTop (mkF m 74 #[.val (.int p1), .val (.int (1 : Int32)), .val (.int (1 : Int32)), .val (.ref aBOTH), .val (.int ((((p1).toUInt32 >>> ((2 : Int32) &&& 31).toUInt32).toInt32) &&& (3 : Int32))), .val (.ref aBACKWARD), .unset] []))
          refine own_go (fun _ k => XS.iconst X63.here hx rfl (hb hby at_74) k) ?_
          show OwnGo p e below _ (T63.setTop (mkF m 75 #[.val (.int p1), .val (.int (1 : Int32)), .val (.int (1 : Int32)), .val (.ref aBOTH), .val (.int ((((p1).toUInt32 >>> ((2 : Int32) &&& 31).toUInt32).toInt32) &&& (3 : Int32))), .val (.ref aBACKWARD), .unset] [(.int (1 : Int32))]))
          refine own_go (fun _ k => XS.istore X63.here hx rfl (hb hby at_75) rfl (l' := #[.val (.int p1), .val (.int (1 : Int32)), .val (.int (1 : Int32)), .val (.ref aBOTH), .val (.int ((((p1).toUInt32 >>> ((2 : Int32) &&& 31).toUInt32).toInt32) &&& (3 : Int32))), .val (.ref aBACKWARD), .val (.int (1 : Int32))]) rfl k) ?_
          show OwnGo p e below _ (T63.setTop (mkF m 77 #[.val (.int p1), .val (.int (1 : Int32)), .val (.int (1 : Int32)), .val (.ref aBOTH), .val (.int ((((p1).toUInt32 >>> ((2 : Int32) &&& 31).toUInt32).toInt32) &&& (3 : Int32))), .val (.ref aBACKWARD), .val (.int (1 : Int32))] []))
          refine own_go (fun _ k => XS.goto X63.here hx rfl (pc0 := 77) (pc' := 105) rfl (hb hby at_77) (by decide) (by decide) k) ?_
          show OwnGo p e below _ (T63.setTop (mkF m 105 #[.val (.int p1), .val (.int (1 : Int32)), .val (.int (1 : Int32)), .val (.ref aBOTH), .val (.int ((((p1).toUInt32 >>> ((2 : Int32) &&& 31).toUInt32).toInt32) &&& (3 : Int32))), .val (.ref aBACKWARD), .val (.int (1 : Int32))] []))
          refine own_go (fun _ k => XS.aload X63.here hx rfl (hb hby at_105) rfl rfl k) ?_
          show OwnGo p e below _ (T63.setTop (mkF m 107 #[.val (.int p1), .val (.int (1 : Int32)), .val (.int (1 : Int32)), .val (.ref aBOTH), .val (.int ((((p1).toUInt32 >>> ((2 : Int32) &&& 31).toUInt32).toInt32) &&& (3 : Int32))), .val (.ref aBACKWARD), .val (.int (1 : Int32))] [(.ref aBACKWARD)]))
          obtain ⟨cq64, kq64, qa64, qb64, qc64⟩ := isOf hZ e63 (F0.2.2.2.1.ext O0.2)
          obtain ⟨_, _, ⟨T64, L64, k64, n64⟩, -, X64, ⟨Lc64, hQ64, l64, y64, z64⟩, st64⟩ := X63.virtualBack hx (y := (⟨"com/example/lachesis/lachesis/diff/Breaks", "breaksOld", "()Z"⟩ : MethodName)) (z := (⟨"com/example/lachesis/lachesis/diff/Breaks", "breaksOld", "()Z"⟩ : MethodName)) hown (mvT hZ (hw _ (List.mem_of_getElem? (i := 6) rfl))) (mvT hZ (hw _ (List.mem_of_getElem? (i := 7) rfl))) (notFace_of_selects (args := #[]) (mvT hZ (hw _ (List.mem_of_getElem? (i := 9) rfl)))) (mvT hZ (hw _ (List.mem_of_getElem? (i := 9) rfl))) (mvT hZ (hw _ (List.mem_of_getElem? (i := 8) rfl))) (by decide) (backOf (W := 0) (rm_oldBACKWARD l Z a0 hw [] aNONE aBACKWARD aBOTH aFORWARD F0 h0 n0 O0) hZ (hw _ (List.mem_of_getElem? (i := 10) rfl)) (hw _ (List.mem_of_getElem? (i := 2) rfl)) (by decide) (by decide)) qa64 qc64 (g := (mkF m 107 #[.val (.int p1), .val (.int (1 : Int32)), .val (.int (1 : Int32)), .val (.ref aBOTH), .val (.int ((((p1).toUInt32 >>> ((2 : Int32) &&& 31).toUInt32).toInt32) &&& (3 : Int32))), .val (.ref aBACKWARD), .val (.int (1 : Int32))] [(.ref aBACKWARD)])) rfl (by rw [hml]; rfl) (Steps.refl _) (argsL := []) (rest := []) (lenOf pd___Z rfl) rfl (by show 2 * 0 + _ ≤ _; exact Nat.le_of_eq rfl) (hb hby at_107) (fun _ _ => ⟨rfl, e63, (by decide : 0 + 0 ≤ _), (by decide : 0 + 0 ≤ _)⟩)
          dsimp only [Pt.U, Pt.locs, Pt.cells, Pt.slots] at X64 l64 y64 z64 st64 hQ64
          subst l64 y64 z64
          obtain ⟨rfl, Nq64, K64⟩ := hQ64
          have N64 := Fr.app N58 Nq64
          refine own_go (fun _ k => st64.trans k) ?_
          show OwnGo p e below _ (T64.setTop (mkF m 110 #[.val (.int p1), .val (.int (1 : Int32)), .val (.int (1 : Int32)), .val (.ref aBOTH), .val (.int ((((p1).toUInt32 >>> ((2 : Int32) &&& 31).toUInt32).toInt32) &&& (3 : Int32))), .val (.ref aBACKWARD), .val (.int (1 : Int32))] [(.int (1 : Int32))]))
          refine own_go (fun _ k => XS.iload X64.here hx rfl (hb hby at_110) rfl k) ?_
          show OwnGo p e below _ (T64.setTop (mkF m 112 #[.val (.int p1), .val (.int (1 : Int32)), .val (.int (1 : Int32)), .val (.ref aBOTH), .val (.int ((((p1).toUInt32 >>> ((2 : Int32) &&& 31).toUInt32).toInt32) &&& (3 : Int32))), .val (.ref aBACKWARD), .val (.int (1 : Int32))] [(.int (1 : Int32)), (.int (1 : Int32))]))
          refine own_go (fun _ k => XS.icmpNo X64.here hx rfl (hb hby at_112) rfl (by decide) k) ?_
          show OwnGo p e below _ (T64.setTop (mkF m 115 #[.val (.int p1), .val (.int (1 : Int32)), .val (.int (1 : Int32)), .val (.ref aBOTH), .val (.int ((((p1).toUInt32 >>> ((2 : Int32) &&& 31).toUInt32).toInt32) &&& (3 : Int32))), .val (.ref aBACKWARD), .val (.int (1 : Int32))] []))
          refine own_go (fun _ k => XS.iconst X64.here hx rfl (hb hby at_115) k) ?_
          show OwnGo p e below _ (T64.setTop (mkF m 116 #[.val (.int p1), .val (.int (1 : Int32)), .val (.int (1 : Int32)), .val (.ref aBOTH), .val (.int ((((p1).toUInt32 >>> ((2 : Int32) &&& 31).toUInt32).toInt32) &&& (3 : Int32))), .val (.ref aBACKWARD), .val (.int (1 : Int32))] [(.int (1 : Int32))]))
          refine own_go (fun _ k => XS.goto X64.here hx rfl (pc0 := 116) (pc' := 120) rfl (hb hby at_116) (by decide) (by decide) k) ?_
          show OwnGo p e below _ (T64.setTop (mkF m 120 #[.val (.int p1), .val (.int (1 : Int32)), .val (.int (1 : Int32)), .val (.ref aBOTH), .val (.int ((((p1).toUInt32 >>> ((2 : Int32) &&& 31).toUInt32).toInt32) &&& (3 : Int32))), .val (.ref aBACKWARD), .val (.int (1 : Int32))] [(.int (1 : Int32))]))
          obtain ⟨fs, hr, hrun, hended, hW, hsame⟩ := X64.leave (v := some (.int (1 : Int32))) (fun h => by rw [Bd.returns] at h; cases h)
          refine ⟨_, _, retOut X64 hx Bd.returns rfl (Or.inl ⟨rfl, Or.inr (Or.inl rfl), _, rfl⟩) (hb hby at_120) hr, hrun, hended, _, _, rfl, ?_, ⟨_, rfl⟩, hW, hsame.mono (by decide) (by decide)⟩
          show Q_law Z aNONE aBACKWARD aBOTH aFORWARD p1 h0 n0 _ T64.heap _
          rw [K64]
          exact ⟨rfl, N64⟩
        · refine own_go (fun _ k => XS.icmpYes X58.here hx rfl (pc0 := 66) (pc' := 80) rfl (hb hby at_66) rfl (feq hc62).2 (by decide) (by decide) k) ?_
          show OwnGo p e below _ (T58.setTop (mkF m 80 #[.val (.int p1), .val (.int (1 : Int32)), .val (.int (1 : Int32)), .val (.ref aBOTH), .val (.int ((((p1).toUInt32 >>> ((2 : Int32) &&& 31).toUInt32).toInt32) &&& (3 : Int32))), .unset, .unset] []))
          refine own_go (fun _ k => XS.iload X58.here hx rfl (hb hby at_80) rfl k) ?_
          show OwnGo p e below _ (T58.setTop (mkF m 82 #[.val (.int p1), .val (.int (1 : Int32)), .val (.int (1 : Int32)), .val (.ref aBOTH), .val (.int ((((p1).toUInt32 >>> ((2 : Int32) &&& 31).toUInt32).toInt32) &&& (3 : Int32))), .unset, .unset] [(.int ((((p1).toUInt32 >>> ((2 : Int32) &&& 31).toUInt32).toInt32) &&& (3 : Int32)))]))
          refine own_go (fun _ k => XS.iconst X58.here hx rfl (hb hby at_82) k) ?_
          show OwnGo p e below _ (T58.setTop (mkF m 83 #[.val (.int p1), .val (.int (1 : Int32)), .val (.int (1 : Int32)), .val (.ref aBOTH), .val (.int ((((p1).toUInt32 >>> ((2 : Int32) &&& 31).toUInt32).toInt32) &&& (3 : Int32))), .unset, .unset] [(.int (2 : Int32)), (.int ((((p1).toUInt32 >>> ((2 : Int32) &&& 31).toUInt32).toInt32) &&& (3 : Int32)))]))
          by_cases hc65 : ((((p1).toUInt32 >>> ((2 : Int32) &&& 31).toUInt32).toInt32) &&& (3 : Int32)) = (2 : Int32)
          · refine own_go (fun _ k => XS.icmpNo X58.here hx rfl (hb hby at_83) rfl (teq hc65).2 k) ?_
            show OwnGo p e below _ (T58.setTop (mkF m 86 #[.val (.int p1), .val (.int (1 : Int32)), .val (.int (1 : Int32)), .val (.ref aBOTH), .val (.int ((((p1).toUInt32 >>> ((2 : Int32) &&& 31).toUInt32).toInt32) &&& (3 : Int32))), .unset, .unset] []))
            obtain ⟨T66, X66, e66, st66⟩ := getS X58 hx hZ hown (host := "") (hw _ (List.mem_of_getElem? (i := 19) rfl)) Via.refl K58 (F0.2.2.2.2.2.2.2.2.2.1.ext O0.2) (g := (mkF m 86 #[.val (.int p1), .val (.int (1 : Int32)), .val (.int (1 : Int32)), .val (.ref aBOTH), .val (.int ((((p1).toUInt32 >>> ((2 : Int32) &&& 31).toUInt32).toInt32) &&& (3 : Int32))), .unset, .unset] [])) rfl (hb hby at_86)
            refine own_go st66 ?_
            show OwnGo p e below _ (T66.setTop (mkF m 89 #[.val (.int p1), .val (.int (1 : Int32)), .val (.int (1 : Int32)), .val (.ref aBOTH), .val (.int ((((p1).toUInt32 >>> ((2 : Int32) &&& 31).toUInt32).toInt32) &&& (3 : Int32))), .unset, .unset] [(.ref aFORWARD)]))
            refine own_go (fun _ k => XS.astore X66.here hx rfl (hb hby at_89) rfl rfl (l' := #[.val (.int p1), .val (.int (1 : Int32)), .val (.int (1 : Int32)), .val (.ref aBOTH), .val (.int ((((p1).toUInt32 >>> ((2 : Int32) &&& 31).toUInt32).toInt32) &&& (3 : Int32))), .val (.ref aFORWARD), .unset]) rfl k) ?_
            show OwnGo p e below _ (T66.setTop (mkF m 91 #[.val (.int p1), .val (.int (1 : Int32)), .val (.int (1 : Int32)), .val (.ref aBOTH), .val (.int ((((p1).toUInt32 >>> ((2 : Int32) &&& 31).toUInt32).toInt32) &&& (3 : Int32))), .val (.ref aFORWARD), .unset] []))
            refine own_go (fun _ k => XS.iconst X66.here hx rfl (hb hby at_91) k) ?_
            show OwnGo p e below _ (T66.setTop (mkF m 92 #[.val (.int p1), .val (.int (1 : Int32)), .val (.int (1 : Int32)), .val (.ref aBOTH), .val (.int ((((p1).toUInt32 >>> ((2 : Int32) &&& 31).toUInt32).toInt32) &&& (3 : Int32))), .val (.ref aFORWARD), .unset] [(.int (0 : Int32))]))
            refine own_go (fun _ k => XS.istore X66.here hx rfl (hb hby at_92) rfl (l' := #[.val (.int p1), .val (.int (1 : Int32)), .val (.int (1 : Int32)), .val (.ref aBOTH), .val (.int ((((p1).toUInt32 >>> ((2 : Int32) &&& 31).toUInt32).toInt32) &&& (3 : Int32))), .val (.ref aFORWARD), .val (.int (0 : Int32))]) rfl k) ?_
            show OwnGo p e below _ (T66.setTop (mkF m 94 #[.val (.int p1), .val (.int (1 : Int32)), .val (.int (1 : Int32)), .val (.ref aBOTH), .val (.int ((((p1).toUInt32 >>> ((2 : Int32) &&& 31).toUInt32).toInt32) &&& (3 : Int32))), .val (.ref aFORWARD), .val (.int (0 : Int32))] []))
            refine own_go (fun _ k => XS.goto X66.here hx rfl (pc0 := 94) (pc' := 105) rfl (hb hby at_94) (by decide) (by decide) k) ?_
            show OwnGo p e below _ (T66.setTop (mkF m 105 #[.val (.int p1), .val (.int (1 : Int32)), .val (.int (1 : Int32)), .val (.ref aBOTH), .val (.int ((((p1).toUInt32 >>> ((2 : Int32) &&& 31).toUInt32).toInt32) &&& (3 : Int32))), .val (.ref aFORWARD), .val (.int (0 : Int32))] []))
            refine own_go (fun _ k => XS.aload X66.here hx rfl (hb hby at_105) rfl rfl k) ?_
            show OwnGo p e below _ (T66.setTop (mkF m 107 #[.val (.int p1), .val (.int (1 : Int32)), .val (.int (1 : Int32)), .val (.ref aBOTH), .val (.int ((((p1).toUInt32 >>> ((2 : Int32) &&& 31).toUInt32).toInt32) &&& (3 : Int32))), .val (.ref aFORWARD), .val (.int (0 : Int32))] [(.ref aFORWARD)]))
            obtain ⟨cq67, kq67, qa67, qb67, qc67⟩ := isOf hZ e66 (F0.2.2.2.2.2.2.2.2.2.2.1.ext O0.2)
            obtain ⟨_, _, ⟨T67, L67, k67, n67⟩, -, X67, ⟨Lc67, hQ67, l67, y67, z67⟩, st67⟩ := X66.virtualBack hx (y := (⟨"com/example/lachesis/lachesis/diff/Breaks", "breaksOld", "()Z"⟩ : MethodName)) (z := (⟨"com/example/lachesis/lachesis/diff/Breaks", "breaksOld", "()Z"⟩ : MethodName)) hown (mvT hZ (hw _ (List.mem_of_getElem? (i := 6) rfl))) (mvT hZ (hw _ (List.mem_of_getElem? (i := 7) rfl))) (notFace_of_selects (args := #[]) (mvT hZ (hw _ (List.mem_of_getElem? (i := 9) rfl)))) (mvT hZ (hw _ (List.mem_of_getElem? (i := 9) rfl))) (mvT hZ (hw _ (List.mem_of_getElem? (i := 8) rfl))) (by decide) (backOf (W := 0) (rm_oldFORWARD l Z a0 hw [] aNONE aBACKWARD aBOTH aFORWARD F0 h0 n0 O0) hZ (hw _ (List.mem_of_getElem? (i := 10) rfl)) (hw _ (List.mem_of_getElem? (i := 2) rfl)) (by decide) (by decide)) qa67 qc67 (g := (mkF m 107 #[.val (.int p1), .val (.int (1 : Int32)), .val (.int (1 : Int32)), .val (.ref aBOTH), .val (.int ((((p1).toUInt32 >>> ((2 : Int32) &&& 31).toUInt32).toInt32) &&& (3 : Int32))), .val (.ref aFORWARD), .val (.int (0 : Int32))] [(.ref aFORWARD)])) rfl (by rw [hml]; rfl) (Steps.refl _) (argsL := []) (rest := []) (lenOf pd___Z rfl) rfl (by show 2 * 0 + _ ≤ _; exact Nat.le_of_eq rfl) (hb hby at_107) (fun _ _ => ⟨rfl, e66, (by decide : 0 + 0 ≤ _), (by decide : 0 + 0 ≤ _)⟩)
            dsimp only [Pt.U, Pt.locs, Pt.cells, Pt.slots] at X67 l67 y67 z67 st67 hQ67
            subst l67 y67 z67
            obtain ⟨rfl, Nq67, K67⟩ := hQ67
            have N67 := Fr.app N58 Nq67
            refine own_go (fun _ k => st67.trans k) ?_
            show OwnGo p e below _ (T67.setTop (mkF m 110 #[.val (.int p1), .val (.int (1 : Int32)), .val (.int (1 : Int32)), .val (.ref aBOTH), .val (.int ((((p1).toUInt32 >>> ((2 : Int32) &&& 31).toUInt32).toInt32) &&& (3 : Int32))), .val (.ref aFORWARD), .val (.int (0 : Int32))] [(.int (0 : Int32))]))
            refine own_go (fun _ k => XS.iload X67.here hx rfl (hb hby at_110) rfl k) ?_
            show OwnGo p e below _ (T67.setTop (mkF m 112 #[.val (.int p1), .val (.int (1 : Int32)), .val (.int (1 : Int32)), .val (.ref aBOTH), .val (.int ((((p1).toUInt32 >>> ((2 : Int32) &&& 31).toUInt32).toInt32) &&& (3 : Int32))), .val (.ref aFORWARD), .val (.int (0 : Int32))] [(.int (0 : Int32)), (.int (0 : Int32))]))
            refine own_go (fun _ k => XS.icmpNo X67.here hx rfl (hb hby at_112) rfl (by decide) k) ?_
            show OwnGo p e below _ (T67.setTop (mkF m 115 #[.val (.int p1), .val (.int (1 : Int32)), .val (.int (1 : Int32)), .val (.ref aBOTH), .val (.int ((((p1).toUInt32 >>> ((2 : Int32) &&& 31).toUInt32).toInt32) &&& (3 : Int32))), .val (.ref aFORWARD), .val (.int (0 : Int32))] []))
            refine own_go (fun _ k => XS.iconst X67.here hx rfl (hb hby at_115) k) ?_
            show OwnGo p e below _ (T67.setTop (mkF m 116 #[.val (.int p1), .val (.int (1 : Int32)), .val (.int (1 : Int32)), .val (.ref aBOTH), .val (.int ((((p1).toUInt32 >>> ((2 : Int32) &&& 31).toUInt32).toInt32) &&& (3 : Int32))), .val (.ref aFORWARD), .val (.int (0 : Int32))] [(.int (1 : Int32))]))
            refine own_go (fun _ k => XS.goto X67.here hx rfl (pc0 := 116) (pc' := 120) rfl (hb hby at_116) (by decide) (by decide) k) ?_
            show OwnGo p e below _ (T67.setTop (mkF m 120 #[.val (.int p1), .val (.int (1 : Int32)), .val (.int (1 : Int32)), .val (.ref aBOTH), .val (.int ((((p1).toUInt32 >>> ((2 : Int32) &&& 31).toUInt32).toInt32) &&& (3 : Int32))), .val (.ref aFORWARD), .val (.int (0 : Int32))] [(.int (1 : Int32))]))
            obtain ⟨fs, hr, hrun, hended, hW, hsame⟩ := X67.leave (v := some (.int (1 : Int32))) (fun h => by rw [Bd.returns] at h; cases h)
            refine ⟨_, _, retOut X67 hx Bd.returns rfl (Or.inl ⟨rfl, Or.inr (Or.inl rfl), _, rfl⟩) (hb hby at_120) hr, hrun, hended, _, _, rfl, ?_, ⟨_, rfl⟩, hW, hsame.mono (by decide) (by decide)⟩
            show Q_law Z aNONE aBACKWARD aBOTH aFORWARD p1 h0 n0 _ T67.heap _
            rw [K67]
            exact ⟨rfl, N67⟩
          · refine own_go (fun _ k => XS.icmpYes X58.here hx rfl (pc0 := 83) (pc' := 97) rfl (hb hby at_83) rfl (feq hc65).2 (by decide) (by decide) k) ?_
            show OwnGo p e below _ (T58.setTop (mkF m 97 #[.val (.int p1), .val (.int (1 : Int32)), .val (.int (1 : Int32)), .val (.ref aBOTH), .val (.int ((((p1).toUInt32 >>> ((2 : Int32) &&& 31).toUInt32).toInt32) &&& (3 : Int32))), .unset, .unset] []))
            obtain ⟨T68, X68, e68, st68⟩ := getS X58 hx hZ hown (host := "") (hw _ (List.mem_of_getElem? (i := 18) rfl)) Via.refl K58 (F0.2.2.2.2.2.2.1.ext O0.2) (g := (mkF m 97 #[.val (.int p1), .val (.int (1 : Int32)), .val (.int (1 : Int32)), .val (.ref aBOTH), .val (.int ((((p1).toUInt32 >>> ((2 : Int32) &&& 31).toUInt32).toInt32) &&& (3 : Int32))), .unset, .unset] [])) rfl (hb hby at_97)
            refine own_go st68 ?_
            show OwnGo p e below _ (T68.setTop (mkF m 100 #[.val (.int p1), .val (.int (1 : Int32)), .val (.int (1 : Int32)), .val (.ref aBOTH), .val (.int ((((p1).toUInt32 >>> ((2 : Int32) &&& 31).toUInt32).toInt32) &&& (3 : Int32))), .unset, .unset] [(.ref aBOTH)]))
            refine own_go (fun _ k => XS.astore X68.here hx rfl (hb hby at_100) rfl rfl (l' := #[.val (.int p1), .val (.int (1 : Int32)), .val (.int (1 : Int32)), .val (.ref aBOTH), .val (.int ((((p1).toUInt32 >>> ((2 : Int32) &&& 31).toUInt32).toInt32) &&& (3 : Int32))), .val (.ref aBOTH), .unset]) rfl k) ?_
            show OwnGo p e below _ (T68.setTop (mkF m 102 #[.val (.int p1), .val (.int (1 : Int32)), .val (.int (1 : Int32)), .val (.ref aBOTH), .val (.int ((((p1).toUInt32 >>> ((2 : Int32) &&& 31).toUInt32).toInt32) &&& (3 : Int32))), .val (.ref aBOTH), .unset] []))
            refine own_go (fun _ k => XS.iconst X68.here hx rfl (hb hby at_102) k) ?_
            show OwnGo p e below _ (T68.setTop (mkF m 103 #[.val (.int p1), .val (.int (1 : Int32)), .val (.int (1 : Int32)), .val (.ref aBOTH), .val (.int ((((p1).toUInt32 >>> ((2 : Int32) &&& 31).toUInt32).toInt32) &&& (3 : Int32))), .val (.ref aBOTH), .unset] [(.int (1 : Int32))]))
            refine own_go (fun _ k => XS.istore X68.here hx rfl (hb hby at_103) rfl (l' := #[.val (.int p1), .val (.int (1 : Int32)), .val (.int (1 : Int32)), .val (.ref aBOTH), .val (.int ((((p1).toUInt32 >>> ((2 : Int32) &&& 31).toUInt32).toInt32) &&& (3 : Int32))), .val (.ref aBOTH), .val (.int (1 : Int32))]) rfl k) ?_
            show OwnGo p e below _ (T68.setTop (mkF m 105 #[.val (.int p1), .val (.int (1 : Int32)), .val (.int (1 : Int32)), .val (.ref aBOTH), .val (.int ((((p1).toUInt32 >>> ((2 : Int32) &&& 31).toUInt32).toInt32) &&& (3 : Int32))), .val (.ref aBOTH), .val (.int (1 : Int32))] []))
            refine own_go (fun _ k => XS.aload X68.here hx rfl (hb hby at_105) rfl rfl k) ?_
            show OwnGo p e below _ (T68.setTop (mkF m 107 #[.val (.int p1), .val (.int (1 : Int32)), .val (.int (1 : Int32)), .val (.ref aBOTH), .val (.int ((((p1).toUInt32 >>> ((2 : Int32) &&& 31).toUInt32).toInt32) &&& (3 : Int32))), .val (.ref aBOTH), .val (.int (1 : Int32))] [(.ref aBOTH)]))
            obtain ⟨cq69, kq69, qa69, qb69, qc69⟩ := isOf hZ e68 (F0.2.2.2.2.2.2.2.1.ext O0.2)
            obtain ⟨_, _, ⟨T69, L69, k69, n69⟩, -, X69, ⟨Lc69, hQ69, l69, y69, z69⟩, st69⟩ := X68.virtualBack hx (y := (⟨"com/example/lachesis/lachesis/diff/Breaks", "breaksOld", "()Z"⟩ : MethodName)) (z := (⟨"com/example/lachesis/lachesis/diff/Breaks", "breaksOld", "()Z"⟩ : MethodName)) hown (mvT hZ (hw _ (List.mem_of_getElem? (i := 6) rfl))) (mvT hZ (hw _ (List.mem_of_getElem? (i := 7) rfl))) (notFace_of_selects (args := #[]) (mvT hZ (hw _ (List.mem_of_getElem? (i := 9) rfl)))) (mvT hZ (hw _ (List.mem_of_getElem? (i := 9) rfl))) (mvT hZ (hw _ (List.mem_of_getElem? (i := 8) rfl))) (by decide) (backOf (W := 0) (rm_oldBOTH l Z a0 hw [] aNONE aBACKWARD aBOTH aFORWARD F0 h0 n0 O0) hZ (hw _ (List.mem_of_getElem? (i := 10) rfl)) (hw _ (List.mem_of_getElem? (i := 2) rfl)) (by decide) (by decide)) qa69 qc69 (g := (mkF m 107 #[.val (.int p1), .val (.int (1 : Int32)), .val (.int (1 : Int32)), .val (.ref aBOTH), .val (.int ((((p1).toUInt32 >>> ((2 : Int32) &&& 31).toUInt32).toInt32) &&& (3 : Int32))), .val (.ref aBOTH), .val (.int (1 : Int32))] [(.ref aBOTH)])) rfl (by rw [hml]; rfl) (Steps.refl _) (argsL := []) (rest := []) (lenOf pd___Z rfl) rfl (by show 2 * 0 + _ ≤ _; exact Nat.le_of_eq rfl) (hb hby at_107) (fun _ _ => ⟨rfl, e68, (by decide : 0 + 0 ≤ _), (by decide : 0 + 0 ≤ _)⟩)
            dsimp only [Pt.U, Pt.locs, Pt.cells, Pt.slots] at X69 l69 y69 z69 st69 hQ69
            subst l69 y69 z69
            obtain ⟨rfl, Nq69, K69⟩ := hQ69
            have N69 := Fr.app N58 Nq69
            refine own_go (fun _ k => st69.trans k) ?_
            show OwnGo p e below _ (T69.setTop (mkF m 110 #[.val (.int p1), .val (.int (1 : Int32)), .val (.int (1 : Int32)), .val (.ref aBOTH), .val (.int ((((p1).toUInt32 >>> ((2 : Int32) &&& 31).toUInt32).toInt32) &&& (3 : Int32))), .val (.ref aBOTH), .val (.int (1 : Int32))] [(.int (1 : Int32))]))
            refine own_go (fun _ k => XS.iload X69.here hx rfl (hb hby at_110) rfl k) ?_
            show OwnGo p e below _ (T69.setTop (mkF m 112 #[.val (.int p1), .val (.int (1 : Int32)), .val (.int (1 : Int32)), .val (.ref aBOTH), .val (.int ((((p1).toUInt32 >>> ((2 : Int32) &&& 31).toUInt32).toInt32) &&& (3 : Int32))), .val (.ref aBOTH), .val (.int (1 : Int32))] [(.int (1 : Int32)), (.int (1 : Int32))]))
            refine own_go (fun _ k => XS.icmpNo X69.here hx rfl (hb hby at_112) rfl (by decide) k) ?_
            show OwnGo p e below _ (T69.setTop (mkF m 115 #[.val (.int p1), .val (.int (1 : Int32)), .val (.int (1 : Int32)), .val (.ref aBOTH), .val (.int ((((p1).toUInt32 >>> ((2 : Int32) &&& 31).toUInt32).toInt32) &&& (3 : Int32))), .val (.ref aBOTH), .val (.int (1 : Int32))] []))
            refine own_go (fun _ k => XS.iconst X69.here hx rfl (hb hby at_115) k) ?_
            show OwnGo p e below _ (T69.setTop (mkF m 116 #[.val (.int p1), .val (.int (1 : Int32)), .val (.int (1 : Int32)), .val (.ref aBOTH), .val (.int ((((p1).toUInt32 >>> ((2 : Int32) &&& 31).toUInt32).toInt32) &&& (3 : Int32))), .val (.ref aBOTH), .val (.int (1 : Int32))] [(.int (1 : Int32))]))
            refine own_go (fun _ k => XS.goto X69.here hx rfl (pc0 := 116) (pc' := 120) rfl (hb hby at_116) (by decide) (by decide) k) ?_
            show OwnGo p e below _ (T69.setTop (mkF m 120 #[.val (.int p1), .val (.int (1 : Int32)), .val (.int (1 : Int32)), .val (.ref aBOTH), .val (.int ((((p1).toUInt32 >>> ((2 : Int32) &&& 31).toUInt32).toInt32) &&& (3 : Int32))), .val (.ref aBOTH), .val (.int (1 : Int32))] [(.int (1 : Int32))]))
            obtain ⟨fs, hr, hrun, hended, hW, hsame⟩ := X69.leave (v := some (.int (1 : Int32))) (fun h => by rw [Bd.returns] at h; cases h)
            refine ⟨_, _, retOut X69 hx Bd.returns rfl (Or.inl ⟨rfl, Or.inr (Or.inl rfl), _, rfl⟩) (hb hby at_120) hr, hrun, hended, _, _, rfl, ?_, ⟨_, rfl⟩, hW, hsame.mono (by decide) (by decide)⟩
            show Q_law Z aNONE aBACKWARD aBOTH aFORWARD p1 h0 n0 _ T69.heap _
            rw [K69]
            exact ⟨rfl, N69⟩
set_option maxRecDepth 65536 in
set_option maxHeartbeats 40000000 in
theorem comes_1 {Post : Tables → Env → Array Value → State → Outcome → State → Prop} (hpost : ∀ tb e args s v u, (limb_1_1.after args s (.returned v) u = true ∧ limb_1_2.after args s (.returned v) u = true ∧ True) → FrameEnd s (.returned v) u (Jvm.fieldLocs frame_1_writes args s ++ Jvm.arrayLocs frame_1_arrays args s ++ Jvm.staticLocs frame_1_statics s) 0 0 → Post tb e args s (.returned v) u) :
    ArmFor flags0 classFile x code maxLocals ret World_1 tables_1 room_1 Calls_1 rest_1 Pre_1 Post := by
  intro l hfl _ _ p e ha hc hk s m args below hf hA hF happ hP
  obtain ⟨hcalls, hrest, hpre⟩ := hP
  obtain ⟨-, -, -, hnamed, -, -, -, hat⟩ := (Spec.applies_iff hf).mp happ
  obtain ⟨hg, hn0⟩ := and_e (Cond.before_iff.mp (show (Jvm.Cond.and given_1 narrow_1).before args s = true from hpre))
  obtain ⟨h1, g0⟩ := and_e hg
  obtain ⟨w0, rfl⟩ : ∃ w0 : Value, args = #[w0] := by
    have hs : args.size = 1 := by simpa [Cond.value, given_1] using h1
    obtain ⟨L⟩ := args
    match L, hs with
    | [w0], _ => exact ⟨w0, rfl⟩
  have hw := fun d (hd : d ∈ tables_1) => atoms_spec (ws := Jvm.Cond.code x code maxLocals ret :: tables_1) hat d (List.mem_cons_of_mem _ hd)
  have hfit : Fit s := fun {y c} hc i hi => by
    obtain ⟨ha, rfl⟩ := Array.getElem?_eq_some_iff.mp hc
    have q := List.all_eq_true.mp ((Array.all_eq_true_iff_forall_mem.mp hF) _ (Array.getElem_mem ha)) i (List.mem_range.mpr hi)
    simpa [Array.getElem?_eq_getElem hi] using q
  obtain ⟨i0, ev0⟩ := is_v g0
  obtain rfl : w0 = (.int i0) := Option.some.inj ev0
  obtain ⟨c0, hn1⟩ := and_e hn0
  obtain ⟨aNONE, ev_aNONE⟩ := exa_v c0
  obtain ⟨c1, hn2⟩ := and_e hn1
  obtain ⟨aBACKWARD, ev_aBACKWARD⟩ := exa_v c1
  obtain ⟨c2, hn3⟩ := and_e hn2
  obtain ⟨c3, hn4⟩ := and_e hn3
  obtain ⟨c4, hn5⟩ := and_e hn4
  obtain ⟨aBOTH, ev_aBOTH⟩ := exa_v c4
  obtain ⟨c5, hn6⟩ := and_e hn5
  obtain ⟨c6, hn7⟩ := and_e hn6
  obtain ⟨aFORWARD, ev_aFORWARD⟩ := exa_v c6
  have F0 : OwnFacts s aNONE aBACKWARD aBOTH aFORWARD := ⟨(Sta.start ev_aNONE (Or.inr ⟨(hw _ (List.mem_of_getElem? (i := 2) rfl)), (hw _ (List.mem_of_getElem? (i := 5) rfl))⟩)), (Exa.start ev_aNONE c0), (Sta.start ev_aBACKWARD (Or.inr ⟨(hw _ (List.mem_of_getElem? (i := 2) rfl)), (hw _ (List.mem_of_getElem? (i := 12) rfl))⟩)), (Exa.start ev_aBACKWARD c1), (own_fldI ev_aNONE c2), (own_fldI ev_aBACKWARD c3), (Sta.start ev_aBOTH (Or.inr ⟨(hw _ (List.mem_of_getElem? (i := 2) rfl)), (hw _ (List.mem_of_getElem? (i := 14) rfl))⟩)), (Exa.start ev_aBOTH c4), (own_fldI ev_aBOTH c5), (Sta.start ev_aFORWARD (Or.inr ⟨(hw _ (List.mem_of_getElem? (i := 2) rfl)), (hw _ (List.mem_of_getElem? (i := 17) rfl))⟩)), (Exa.start ev_aFORWARD c6), (own_fldI ev_aFORWARD hn7)⟩
  obtain ⟨n, o, h1, h2, h3, _, L, rfl, ⟨rfl, N⟩, hq⟩ := rm_law l s _ hw tables_1 aNONE aBACKWARD aBOTH aFORWARD F0 i0 s.heap s.heap.size (Old.start s) p e ha hc hk s m _ below hf ((Spec.applies_iff_loose hf).mp happ).1 ⟨rfl, State.Warmed39.refl s, rfl⟩ trivial
  refine ⟨n, _, h1, h2, h3, hpost _ _ _ _ _ _ ⟨Cond.after_iff.mpr rfl, Cond.after_iff.mpr (eq_i res_at (Term.int_eval (1)) rfl), trivial⟩ ⟨hq.1, hq.2.1, (hq.2.2.sift fun y hy => Or.inr (N y hy)).mono (by decide) (by decide)⟩⟩
theorem main_1_1 : Claimed_1_1 := comes_1 fun _ _ _ _ _ _ h hF => ⟨h.1, hF⟩
theorem main_1_2 : Claimed_1_2 := comes_1 fun _ _ _ _ _ _ h hF => ⟨h.2.1, hF⟩
end Jvm.Pilot.@@N@@
namespace Jvm.Pilot.@@N@@
open Jvm Jvm.ClassFile Sem Op Lib Jvm.Free Jvm.Stand Jvm.Pilot.@@N@@.Jvm.D
/-! MADE BY PROGRAM (witnessworld.py) out of the Statement's table words and the real class files: 12 classes; the members and pool entries that the words name. The judged class is class 1, her method 1. -/
namespace start1
open Jvm.ClassFile
def u (s : String) : CpInfo := .utf8 (stringToUtf16 s)
/-- a pool by its gaps: so many unusable entries, then the entry; so many at the end -/
def gap : Nat → List CpInfo → List CpInfo
  | 0, r => r
  | n + 1, r => .unusable :: gap n r
def poolList (es : List (Nat × CpInfo)) (last : Nat) : List CpInfo := es.foldr (fun e r => gap e.1 (e.2 :: r)) (gap last [])
def pool (es : List (Nat × CpInfo)) (last : Nat) : Array CpInfo := ⟨poolList es last⟩
def fileOf (pool : Array CpInfo) (this : Nat) (attrs : Array Attribute := #[]) (ms : Array MethodInfo := #[]) (fl : Nat := 33) (sup : Nat := 0) (ifs : Array Nat := #[]) (fds : Array FieldInfo := #[]) : ClassFile where
  minorVersion := 0
  majorVersion := 65
  constantPool := pool
  accessFlags := fl
  thisClass := this
  superClass := sup
  interfaces := ifs
  fields := fds
  methods := ms
  attributes := attrs
def plain (name : String) (sup : Option ClassId) : Class where
  name := name
  kind := .ordinary
  loader := none
  accessFlags := 33
  super := sup
  interfaces := #[]
  cf := none
  fields := #[]
  methods := #[]
  instanceTypes := #[]
  staticTypes := #[]
  resolved := #[]
  callSites := []
  init := .initialized
  statics := none
  mirror := none

def pool0 : Array CpInfo := pool [(5, u "<init>"), (0, u "()V"), (1, .class_ 10), (1, u "java/lang/Object")] 113

def k0m0 : Method := { name := "<init>", desc := "()V", sig := { parameters := [], returnType := none }, accessFlags := 1, code := none }
/-- java/lang/Object -/
def k0 : Class := { plain "java/lang/Object" none with
  accessFlags := 33
  interfaces := #[]
  cf := some (fileOf pool0 8 #[] #[{ accessFlags := 1, nameIndex := 5, descriptorIndex := 6, attributes := #[] }] 33 0 #[] #[])
  fields := #[]
  methods := #[k0m0]
  instanceTypes := #[]
  staticTypes := #[]
  resolved := Array.replicate 124 none
  statics := none }

def pool1 : Array CpInfo := pool [(2, .class_ 4), (1, u "java/lang/Object"), (0, u "<init>"), (0, u "()V"), (0, .methodref 8 9), (0, .class_ 10), (0, .nameAndType 11 12), (0, u "com/example/lachesis/lachesis/diff/Breaks"), (0, u "of"), (0, u "(ZZ)Lcom/example/lachesis/lachesis/diff/Breaks;"), (0, .methodref 8 14), (0, .nameAndType 15 16), (0, u "breaksOld"), (0, u "()Z"), (0, .fieldref 8 18), (0, .nameAndType 19 20), (0, u "NONE"), (0, u "Lcom/example/lachesis/lachesis/diff/Breaks;"), (0, .fieldref 8 22), (0, .nameAndType 23 20), (0, u "BACKWARD"), (0, .fieldref 8 25), (0, .nameAndType 26 20), (0, u "FORWARD"), (0, .fieldref 8 28), (0, .nameAndType 29 20), (0, u "BOTH"), (0, .class_ 31), (0, u "com/example/lachesis/lachesis/diff/BreaksBreaksOldPinLaw"), (2, u "law"), (0, u "(I)Z")] 3

def k1m0 : Method := { name := "<init>", desc := "()V", sig := { parameters := [], returnType := none }, accessFlags := 2, code := none }
def k1c1 : Code := { maxStack := 2, maxLocals := 7, code := code, exceptionTable := #[], attributes := #[] }
def k1m1 : Method := { name := "law", desc := "(I)Z", sig := { parameters := [.int], returnType := some .boolean }, accessFlags := 9, code := some k1c1 }
/-- com/example/lachesis/lachesis/diff/BreaksBreaksOldPinLaw -/
def k1 : Class := { plain "com/example/lachesis/lachesis/diff/BreaksBreaksOldPinLaw" (some 0) with
  accessFlags := 49
  interfaces := #[]
  cf := some (fileOf pool1 30 #[] #[{ accessFlags := 2, nameIndex := 5, descriptorIndex := 6, attributes := #[] }, { accessFlags := 9, nameIndex := 34, descriptorIndex := 35, attributes := #[] }] 49 2 #[] #[])
  fields := #[]
  methods := #[k1m0, k1m1]
  instanceTypes := #[]
  staticTypes := #[]
  resolved := Array.replicate 39 none
  statics := none }

def pool2 : Array CpInfo := pool [(1, .class_ 2), (0, u "java/lang/constant/Constable"), (0, .class_ 4), (0, u "java/lang/Object")] 6

/-- java/lang/constant/Constable -/
def k2 : Class := { plain "java/lang/constant/Constable" (some 0) with
  accessFlags := 1537
  interfaces := #[]
  cf := some (fileOf pool2 1 #[] #[] 1537 3 #[] #[])
  fields := #[]
  methods := #[]
  instanceTypes := #[]
  staticTypes := #[]
  resolved := Array.replicate 11 none
  statics := none }

def pool3 : Array CpInfo := pool [(1, .class_ 2), (0, u "java/lang/Comparable"), (0, .class_ 4), (0, u "java/lang/Object")] 7

/-- java/lang/Comparable -/
def k3 : Class := { plain "java/lang/Comparable" (some 0) with
  accessFlags := 1537
  interfaces := #[]
  cf := some (fileOf pool3 1 #[] #[] 1537 3 #[] #[])
  fields := #[]
  methods := #[]
  instanceTypes := #[]
  staticTypes := #[]
  resolved := Array.replicate 12 none
  statics := none }

def pool4 : Array CpInfo := pool [(1, .class_ 2), (0, u "java/io/Serializable"), (0, .class_ 4), (0, u "java/lang/Object")] 2

/-- java/io/Serializable -/
def k4 : Class := { plain "java/io/Serializable" (some 0) with
  accessFlags := 1537
  interfaces := #[]
  cf := some (fileOf pool4 1 #[] #[] 1537 3 #[] #[])
  fields := #[]
  methods := #[]
  instanceTypes := #[]
  staticTypes := #[]
  resolved := Array.replicate 7 none
  statics := none }

def pool5 : Array CpInfo := pool [(2, .class_ 4), (1, u "java/lang/Enum"), (0, u "name"), (0, u "Ljava/lang/String;"), (2, u "ordinal"), (0, u "I"), (1, .class_ 14), (1, u "java/lang/Object"), (4, u "hash"), (86, .class_ 108), (1, u "java/lang/Enum$EnumDesc"), (2, .class_ 112), (0, u "java/lang/constant/Constable"), (0, .class_ 114), (0, u "java/lang/Comparable"), (0, .class_ 116), (0, u "java/io/Serializable")] 87

/-- java/lang/Enum -/
def k5 : Class := { plain "java/lang/Enum" (some 0) with
  accessFlags := 1057
  interfaces := #[2, 3, 4]
  cf := some (fileOf pool5 2 #[.nestMembers #[106]] #[] 1057 12 #[111, 113, 115] #[{ accessFlags := 18, nameIndex := 5, descriptorIndex := 6, attributes := #[] }, { accessFlags := 18, nameIndex := 9, descriptorIndex := 10, attributes := #[] }, { accessFlags := 2, nameIndex := 19, descriptorIndex := 10, attributes := #[] }])
  fields := #[{ name := "name", type := (.object "java/lang/String"), accessFlags := 18, slot := 0, constantValue := 0 }, { name := "ordinal", type := .int, accessFlags := 18, slot := 1, constantValue := 0 }, { name := "hash", type := .int, accessFlags := 2, slot := 2, constantValue := 0 }]
  methods := #[]
  instanceTypes := #[(.object "java/lang/String"), .int, .int]
  staticTypes := #[]
  resolved := Array.replicate 204 none
  statics := none }

def pool6 : Array CpInfo := pool [(1, .class_ 2), (0, u "com/example/lachesis/lachesis/diff/Breaks"), (0, .fieldref 1 4), (0, .nameAndType 5 6), (0, u "NONE"), (0, u "Lcom/example/lachesis/lachesis/diff/Breaks;"), (0, .fieldref 1 8), (0, .nameAndType 9 6), (0, u "BACKWARD"), (0, .fieldref 1 11), (0, .nameAndType 12 6), (0, u "FORWARD"), (0, .fieldref 1 14), (0, .nameAndType 15 6), (0, u "BOTH"), (2, u "$VALUES"), (0, u "[Lcom/example/lachesis/lachesis/diff/Breaks;"), (6, .class_ 28), (1, u "java/lang/Enum"), (38, u "of"), (0, u "(ZZ)Lcom/example/lachesis/lachesis/diff/Breaks;"), (1, u "breaksOld"), (0, u "()Z")] 5

def k6c0 : Code := { maxStack := 1, maxLocals := 2, code := prog_17_method_4_code, exceptionTable := #[], attributes := #[] }
def k6m0 : Method := { name := "of", desc := "(ZZ)Lcom/example/lachesis/lachesis/diff/Breaks;", sig := { parameters := [.boolean, .boolean], returnType := some (.object "com/example/lachesis/lachesis/diff/Breaks") }, accessFlags := 8, code := some k6c0 }
def k6c1 : Code := { maxStack := 2, maxLocals := 1, code := prog_17_method_5_code, exceptionTable := #[], attributes := #[] }
def k6m1 : Method := { name := "breaksOld", desc := "()Z", sig := { parameters := [], returnType := some .boolean }, accessFlags := 1, code := some k6c1 }
/-- com/example/lachesis/lachesis/diff/Breaks -/
def k6 : Class := { plain "com/example/lachesis/lachesis/diff/Breaks" (some 5) with
  accessFlags := 16433
  interfaces := #[]
  cf := some (fileOf pool6 1 #[] #[{ accessFlags := 8, nameIndex := 67, descriptorIndex := 68, attributes := #[] }, { accessFlags := 1, nameIndex := 70, descriptorIndex := 71, attributes := #[] }] 16433 26 #[] #[{ accessFlags := 16409, nameIndex := 5, descriptorIndex := 6, attributes := #[] }, { accessFlags := 16409, nameIndex := 9, descriptorIndex := 6, attributes := #[] }, { accessFlags := 16409, nameIndex := 12, descriptorIndex := 6, attributes := #[] }, { accessFlags := 16409, nameIndex := 15, descriptorIndex := 6, attributes := #[] }, { accessFlags := 4122, nameIndex := 18, descriptorIndex := 19, attributes := #[] }])
  fields := #[{ name := "NONE", type := (.object "com/example/lachesis/lachesis/diff/Breaks"), accessFlags := 16409, slot := 0, constantValue := 0 }, { name := "BACKWARD", type := (.object "com/example/lachesis/lachesis/diff/Breaks"), accessFlags := 16409, slot := 1, constantValue := 0 }, { name := "FORWARD", type := (.object "com/example/lachesis/lachesis/diff/Breaks"), accessFlags := 16409, slot := 2, constantValue := 0 }, { name := "BOTH", type := (.object "com/example/lachesis/lachesis/diff/Breaks"), accessFlags := 16409, slot := 3, constantValue := 0 }, { name := "$VALUES", type := (.array (.object "com/example/lachesis/lachesis/diff/Breaks")), accessFlags := 4122, slot := 4, constantValue := 0 }]
  methods := #[k6m0, k6m1]
  instanceTypes := #[(.object "java/lang/String"), .int, .int]
  staticTypes := #[(.object "com/example/lachesis/lachesis/diff/Breaks"), (.object "com/example/lachesis/lachesis/diff/Breaks"), (.object "com/example/lachesis/lachesis/diff/Breaks"), (.object "com/example/lachesis/lachesis/diff/Breaks"), (.array (.object "com/example/lachesis/lachesis/diff/Breaks"))]
  resolved := Array.replicate 77 none
  statics := some 0 }

def pool7 : Array CpInfo := pool [(1, u "java/lang/Cloneable"), (0, .class_ 1), (0, u "java/lang/Object"), (0, .class_ 3)] 3

/-- java/lang/Cloneable -/
def k7 : Class := { plain "java/lang/Cloneable" (some 0) with
  accessFlags := 1537
  interfaces := #[]
  cf := some (fileOf pool7 2 #[] #[] 1537 4 #[] #[])
  fields := #[]
  methods := #[]
  instanceTypes := #[]
  staticTypes := #[]
  resolved := Array.replicate 8 none
  statics := none }

/-- the primitive byte -/
def k8 : Class := { plain "byte" none with kind := .primitive 'B', accessFlags := 0x411 }
/-- [B -/
def k9 : Class := { plain "[B" (some 0) with kind := .array 8 .byte, interfaces := #[7, 4], accessFlags := 1041 }

/-- the primitive int -/
def k10 : Class := { plain "int" none with kind := .primitive 'I', accessFlags := 0x411 }
/-- [I -/
def k11 : Class := { plain "[I" (some 0) with kind := .array 10 .int, interfaces := #[7, 4], accessFlags := 1041 }

def heap : Heap := #[{ cls := 6, slots := #[.ref 1, .ref 2, .ref 4, .ref 3, .null], vm := .statics 6 },
  { cls := 6, slots := #[.null, .int 0, .int 0], vm := .none },
  { cls := 6, slots := #[.null, .int 1, .int 0], vm := .none },
  { cls := 6, slots := #[.null, .int 3, .int 0], vm := .none },
  { cls := 6, slots := #[.null, .int 2, .int 0], vm := .none }]
def classes : Array Class := #[k0, k1, k2, k3, k4, k5, k6, k7, k8, k9, k10, k11]
def interned : List (Array UInt16 × Addr) := []
def slotsUsed : Nat := 17
def theMethod : MethodId := ⟨1, 1⟩
def args0 : Array Value := #[.int 5]
def aboutOver (below : List Frame) : State where
  vm := { classes := classes, interned := interned.toArray }
  heap := heap
  slotsUsed := slotsUsed
  threads := #[{ frames := .invoking theMethod args0 :: below }]
def below0 : List Frame := [.native { method := ⟨0, 0⟩, args := #[] }]
def about1 : State := aboutOver below0
def p0 : Program := .bare "" "" ""
def e0 : Env := launch0.env 0 0 0
theorem w_frames : about1.frames = Frame.invoking theMethod args0 :: below0 := rfl
set_option maxRecDepth 65536 in
theorem w_args : argsFit about1.vm theMethod args0 = true := by decide +kernel
set_option maxRecDepth 65536 in
theorem w_heap : heapFits about1 = true := by decide +kernel
set_option maxRecDepth 65536 in
theorem w_runnable : about1.curStatus? = some .runnable := by decide +kernel
set_option maxRecDepth 65536 in
theorem w_alone : about1.alone = true := by decide +kernel
set_option maxRecDepth 65536 in
theorem w_named : about1.methodNamed? x = some theMethod := by decide +kernel
set_option maxRecDepth 65536 in
theorem w_hears : about1.hears theMethod below0 = true := by decide +kernel
set_option maxRecDepth 65536 in
theorem w_ripe : about1.ripe theMethod args0 below0 = true := by decide +kernel
theorem w_running : about1.status = .running := rfl
set_option maxRecDepth 65536 in
theorem w_room : about1.hasRoom e0.platform room_1 = true :=
  launch0.hasRoom_least _ room_1 (by decide +kernel) (by decide +kernel) (by decide +kernel) (by decide +kernel) (by decide +kernel) (by decide +kernel)
theorem allAtoms_all (ts : List Jvm.Cond) (a : Array Jvm.Value) (st : Jvm.State) : (allAtoms ts).before a st = ts.all (fun c => c.before a st) := by
  induction ts with
  | nil => rfl
  | cons c t ih =>
    show (Jvm.Cond.and c (allAtoms t)).before a st = _
    rw [Jvm.Cond.before_and, ih, List.all_cons]
def words1 : List Jvm.Cond := Jvm.Cond.code x code maxLocals ret :: tables_1
/-- a 'code' word, met by the world's own term for the bytes: nothing is compared byte by byte -/
theorem code_word {y : MethodName} {bytes : ByteArray} {mx : Nat} {rt : Option FieldType} {a : Array Value} {s : State} {m : MethodId} {meth : Method} {c : Code} (h1 : s.methodNamed? y = some m) (h2 : s.vm.method? m = some meth) (h3 : meth.code = some c) (h4 : c.code = bytes)
    (h5 : (c.maxLocals == mx && c.exceptionTable.isEmpty && decide (c.maxStack ≤ mostOperands) && decide (meth.sig.returnType = rt) && !meth.locks && decide (parseMethodDescriptor y.desc = some meth.sig)) = true) : (Jvm.Cond.code y bytes mx rt).before a s = true := by
  simp only [Bool.and_eq_true, beq_iff_eq, Bool.not_eq_true', decide_eq_true_eq] at h5
  obtain ⟨⟨⟨⟨⟨g1, g2⟩, g3⟩, g4⟩, g5⟩, g6⟩ := h5
  simp [Cond.before, Cond.holds, Cond.value, h1, h2, h3, h4, g1, g2, g3, g4, g5, g6]
def isCode : Jvm.Cond → Bool
  | .code _ _ _ _ => true
  | _ => false
theorem all_split {L : List Jvm.Cond} {P : Jvm.Cond → Bool} (h1 : L.all (fun c => isCode c || P c) = true) (h2 : ∀ c ∈ L.filter isCode, P c = true) : L.all P = true := by
  refine List.all_eq_true.mpr fun c hc => ?_
  have h := List.all_eq_true.mp h1 c hc
  rcases Bool.eq_false_or_eq_true (isCode c) with hi | hi
  · exact h2 c (List.mem_filter.mpr ⟨hc, hi⟩)
  · simpa [hi] using h
set_option maxRecDepth 65536 in
theorem w_c0 : (Jvm.Cond.code x code maxLocals ret).before args0 about1 = true := code_word (m := ⟨1, 1⟩) (meth := k1m1) (c := k1c1) (by decide +kernel) rfl rfl rfl (by decide +kernel)
set_option maxRecDepth 65536 in
theorem w_c1 : (Jvm.Cond.code ({ cls := "com/example/lachesis/lachesis/diff/Breaks", name := "of", desc := "(ZZ)Lcom/example/lachesis/lachesis/diff/Breaks;" } : Jvm.MethodName) prog_17_method_4_code (2 : Nat) (Option.some (Jvm.ClassFile.FieldType.object "com/example/lachesis/lachesis/diff/Breaks"))).before args0 about1 = true := code_word (m := ⟨6, 0⟩) (meth := k6m0) (c := k6c0) (by decide +kernel) rfl rfl rfl (by decide +kernel)
set_option maxRecDepth 65536 in
theorem w_c2 : (Jvm.Cond.code ({ cls := "com/example/lachesis/lachesis/diff/Breaks", name := "breaksOld", desc := "()Z" } : Jvm.MethodName) prog_17_method_5_code (1 : Nat) (Option.some Jvm.ClassFile.FieldType.boolean)).before args0 about1 = true := code_word (m := ⟨6, 1⟩) (meth := k6m1) (c := k6c1) (by decide +kernel) rfl rfl rfl (by decide +kernel)
def codes1 : List Jvm.Cond := [Jvm.Cond.code x code maxLocals ret, Jvm.Cond.code ({ cls := "com/example/lachesis/lachesis/diff/Breaks", name := "of", desc := "(ZZ)Lcom/example/lachesis/lachesis/diff/Breaks;" } : Jvm.MethodName) prog_17_method_4_code (2 : Nat) (Option.some (Jvm.ClassFile.FieldType.object "com/example/lachesis/lachesis/diff/Breaks")), Jvm.Cond.code ({ cls := "com/example/lachesis/lachesis/diff/Breaks", name := "breaksOld", desc := "()Z" } : Jvm.MethodName) prog_17_method_5_code (1 : Nat) (Option.some Jvm.ClassFile.FieldType.boolean)]
set_option maxRecDepth 65536 in
theorem codes_eq : words1.filter isCode = codes1 := rfl
theorem w_codes : ∀ c ∈ words1.filter isCode, c.before args0 about1 = true := by
  rw [codes_eq]
  intro c hc
  simp only [codes1, List.mem_cons, List.not_mem_nil, or_false] at hc
  rcases hc with rfl | rfl | rfl
  · exact w_c0
  · exact w_c1
  · exact w_c2
set_option maxRecDepth 65536 in
theorem w_t1 : words1.all (fun c => isCode c || c.before args0 about1) = true := by decide +kernel
theorem w_tables : (allAtoms (Jvm.Cond.code x code maxLocals ret :: tables_1)).before args0 about1 = true := by
  rw [allAtoms_all]
  show words1.all (fun c => c.before args0 about1) = true
  refine all_split ?_ w_codes
  rw [w_t1]
set_option maxRecDepth 65536 in
theorem w_case : (Jvm.Cond.and given_1 narrow_1).before args0 about1 = true := by decide +kernel
theorem w_applies : (headSpec (Jvm.Cond.code x code maxLocals ret :: tables_1) room_1).applies x e0.platform about1 = true :=
  (Spec.applies_iff w_frames).mpr ⟨w_running, w_runnable, w_alone, w_named, w_hears, w_ripe, w_room, w_tables⟩
theorem atStart : AtStart classFile x code maxLocals ret World_1 tables_1 room_1 Calls_1 rest_1 Pre_1 launch0 p0 e0 about1 theMethod args0 below0 :=
  ⟨lists_1, trivial, launch0.admits_env _ _ _, launch0.least_env, fairChoices_fair.cas, fairChoices_fair.clock, w_frames, w_args, w_heap, w_applies, trivial, trivial, w_case⟩
end start1
theorem witness_1 : WitnessClaimed_1 := ⟨start1.p0, start1.e0, start1.about1, start1.theMethod, start1.args0, start1.below0, start1.atStart⟩
end Jvm.Pilot.@@N@@

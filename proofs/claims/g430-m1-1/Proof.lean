import JvmDerived
import JvmDerived.Pilot.@@N@@Statement
import JvmDerived.Pilot.@@N@@Code
set_option linter.unusedVariables false
set_option linter.unusedSimpArgs false
namespace Jvm.Pilot.@@N@@
open Jvm Jvm.ClassFile Sem Op Lib Jvm.Free Jvm.Stand Jvm.LawKit Jvm.RoadKit Bundle Jvm.Pilot.@@N@@.Jvm.D
/-- from the state A the body's walk comes to an end of which Q tells -/
def OwnGo (p : Program) (e : Env) (below : List Frame) (Q : Outcome → State → Prop) (A : State) : Prop :=
  ∃ s₂ o, Steps p.tables e below A s₂ ∧ s₂.status = .running ∧ Ended s₂ below o ∧ Q o s₂
theorem own_go {p : Program} {e : Env} {below : List Frame} {Q : Outcome → State → Prop} {A B : State} (st : ∀ t, Steps p.tables e below B t → Steps p.tables e below A t) (h : OwnGo p e below Q B) : OwnGo p e below Q A := by
  obtain ⟨s₂, o, h1, h2⟩ := h
  exact ⟨s₂, o, st _ h1, h2⟩
theorem own_fldI {args : Array Value} {s : State} {t : Term} {C n d : String} {k : Int32} {a : Addr} (ev : t.eval args s none [] s = some (.ref a)) (h : (Jvm.Cond.eq (Term.field t C n d) (Term.int k)).value args s none s [] = some true) : Fld s s.heap a C n d (.int k) := by
  apply Fld.start
  have q := fld_at (C := C) (n := n) (dd := d) ev
  cases hf : s.fieldOf? a C n d with
  | none => rw [hf] at q; simp [Cond.value, q] at h
  | some v => rw [hf] at q; cases v <;> simp [Cond.value, q, Term.int_eval] at h; rw [h]
theorem own_fldL {args : Array Value} {s : State} {t : Term} {C n d : String} {k : Int64} {a : Addr} (ev : t.eval args s none [] s = some (.ref a)) (h : (Jvm.Cond.eq (Term.field t C n d) (Term.long k)).value args s none s [] = some true) : Fld s s.heap a C n d (.long k) := by
  apply Fld.start
  have q := fld_at (C := C) (n := n) (dd := d) ev
  cases hf : s.fieldOf? a C n d with
  | none => rw [hf] at q; simp [Cond.value, q] at h
  | some v => rw [hf] at q; cases v <;> simp [Cond.value, q, long_at] at h; rw [h]
theorem own_refne {a b : Addr} (h : a ≠ b) : decide (Value.ref a = Value.ref b) = false := decide_eq_false fun q => h (Value.ref.inj q)
theorem own_refeq (a : Addr) : decide (Value.ref a = Value.ref a) = true := decide_eq_true rfl
theorem own_rn (a : Addr) : decide (Value.ref a = Value.null) = false := decide_eq_false fun q => by cases q
theorem own_nr (a : Addr) : decide (Value.null = Value.ref a) = false := decide_eq_false fun q => by cases q
theorem own_narb (x : Int32) : nar .byte (x.toInt8.toInt32) = x.toInt8.toInt32 := by simp [nar]
theorem own_selp {Z s : State} {a0 args : Array Value} {y : MethodName} {n : Nat} (hZ : Z.Warmed39 s.vm) (wi : (Jvm.Cond.instantiable y.cls n).before a0 Z = true) (wp : (Jvm.Cond.privateMethod y).before a0 Z = true) (wm : (Jvm.Cond.instanceMethod y).before a0 Z = true)
    (hy : y.cls ≠ "java/lang/invoke/MethodHandle" ∧ y.cls ≠ "java/lang/invoke/VarHandle") : (Jvm.Cond.selects y.cls y y).before args s = true := by
  obtain ⟨c, k, h1, h2, -, h4, -⟩ := Cond.instantiable_spec (mv hZ wi : (Jvm.Cond.instantiable y.cls n).before args s = true)
  exact selects_self_of_private h1 h2 (by revert h4; cases k.isInterface <;> simp) (Cond.privateMethod_at (mvP hZ wp (args := args))) (mv hZ wm) hy
theorem own_monoW {s : State} {o : Outcome} {t : State} {L : List Loc} {k n k' n' : Nat} (h : ReturnedEndW s o t L k n) (hk : k ≤ k') (hn : n ≤ n') : ReturnedEndW s o t L k' n' := ⟨h.1, h.2.1, h.2.2.1, h.2.2.2.mono hk hn⟩
theorem own_newlt {a b k : Nat} (q : a < k) (g : k ≤ b) : a ≠ b := Nat.ne_of_lt (Nat.lt_of_lt_of_le q g)
theorem own_sz {Z : State} {n0 : Nat} {h : Heap} (O : Old Z n0 h) : n0 ≤ h.size := O.1 ▸ O.2.1
theorem own_newne {a b : Addr} {h : Heap} (g : b = h.size) (q : a < h.size) : a ≠ b := fun z => by rw [z, g] at q; exact Nat.lt_irrefl _ q
def OwnFacts (Z : State) (aNONE aFORWARD aBOTH aBACKWARD : Addr) : Prop := (Sta Z Z.heap "com/example/lachesis/lachesis/diff/Breaks" "NONE" "Lcom/example/lachesis/lachesis/diff/Breaks;" (.ref aNONE)) ∧ (Exa Z Z.heap aNONE "com/example/lachesis/lachesis/diff/Breaks") ∧ (Sta Z Z.heap "com/example/lachesis/lachesis/diff/Breaks" "FORWARD" "Lcom/example/lachesis/lachesis/diff/Breaks;" (.ref aFORWARD)) ∧ (Exa Z Z.heap aFORWARD "com/example/lachesis/lachesis/diff/Breaks") ∧ (Fld Z Z.heap aNONE "java/lang/Enum" "ordinal" "I" (.int (0 : Int32))) ∧ (Fld Z Z.heap aFORWARD "java/lang/Enum" "ordinal" "I" (.int (2 : Int32))) ∧ (Sta Z Z.heap "com/example/lachesis/lachesis/diff/Breaks" "BOTH" "Lcom/example/lachesis/lachesis/diff/Breaks;" (.ref aBOTH)) ∧ (Exa Z Z.heap aBOTH "com/example/lachesis/lachesis/diff/Breaks") ∧ (Fld Z Z.heap aBOTH "java/lang/Enum" "ordinal" "I" (.int (3 : Int32))) ∧ (Sta Z Z.heap "com/example/lachesis/lachesis/diff/Breaks" "BACKWARD" "Lcom/example/lachesis/lachesis/diff/Breaks;" (.ref aBACKWARD)) ∧ (Exa Z Z.heap aBACKWARD "com/example/lachesis/lachesis/diff/Breaks") ∧ (Fld Z Z.heap aBACKWARD "java/lang/Enum" "ordinal" "I" (.int (1 : Int32)))
theorem d_prog_17_method_4_0 : decode prog_17_method_4_code 0 = .ok (.iload_n 0, 1) := by decide +kernel
theorem d_prog_17_method_4_1 : decode prog_17_method_4_code 1 = .ok (.ifCond .eq 17, 3) := by decide +kernel
theorem d_prog_17_method_4_18 : decode prog_17_method_4_code 18 = .ok (.iload_n 1, 1) := by decide +kernel
theorem d_prog_17_method_4_19 : decode prog_17_method_4_code 19 = .ok (.ifCond .eq 9, 3) := by decide +kernel
theorem d_prog_17_method_4_28 : decode prog_17_method_4_code 28 = .ok (.getstatic 3, 3) := by decide +kernel
theorem d_prog_17_method_4_31 : decode prog_17_method_4_code 31 = .ok (.areturn, 1) := by decide +kernel
theorem d_prog_17_method_4_22 : decode prog_17_method_4_code 22 = .ok (.getstatic 10, 3) := by decide +kernel
theorem d_prog_17_method_4_25 : decode prog_17_method_4_code 25 = .ok (.goto 6, 3) := by decide +kernel
theorem d_prog_17_method_4_4 : decode prog_17_method_4_code 4 = .ok (.iload_n 1, 1) := by decide +kernel
theorem d_prog_17_method_4_5 : decode prog_17_method_4_code 5 = .ok (.ifCond .eq 9, 3) := by decide +kernel
theorem d_prog_17_method_4_14 : decode prog_17_method_4_code 14 = .ok (.getstatic 7, 3) := by decide +kernel
theorem d_prog_17_method_4_17 : decode prog_17_method_4_code 17 = .ok (.areturn, 1) := by decide +kernel
theorem d_prog_17_method_4_8 : decode prog_17_method_4_code 8 = .ok (.getstatic 13, 3) := by decide +kernel
theorem d_prog_17_method_4_11 : decode prog_17_method_4_code 11 = .ok (.goto 6, 3) := by decide +kernel
theorem pn_com_example_lachesis_lachesis_diff_Breaks : plainName "com/example/lachesis/lachesis/diff/Breaks" = true := by first | (simp [plainName, overriddenIn]; done) | decide +kernel
def Q_of (Z : State) (aNONE aFORWARD aBOTH aBACKWARD : Addr) (p1 : Int32) (p2 : Int32) (r0 : Addr) (h0 : Heap) (n0 : Nat) (v : Option Value) (h : Heap) (L : List Loc) : Prop := v = some (.ref r0) ∧ Fr n0 L ∧ h = h0
theorem ef_of (m : MethodId) (x0 : Int32) (x1 : Int32) : entryFrame m #[(.int x0), (.int x1)] 2 = mkF m 0 #[.val (.int x0), .val (.int x1)] [] := by first | (simp [entryFrame, mkF, argsToLocals, Value.category]; done) | rfl
set_option maxRecDepth 65536 in
set_option maxHeartbeats 40000000 in
theorem rm_of (l : Launch) (Z : State) (a0 : Array Value) (hw : ∀ d ∈ tables_1, d.before a0 Z = true) (ws : List Jvm.Cond) (aNONE aFORWARD aBOTH aBACKWARD : Addr) (F0 : OwnFacts Z aNONE aFORWARD aBOTH aBACKWARD) (p1 : Int32) (p2 : Int32) (r0 : Addr) (h0 : Heap) (n0 : Nat) (O0 : Old Z n0 h0) (hr0 : (if p1 = (0 : Int32) then (if p2 = (0 : Int32) then aNONE else aFORWARD) else (if p2 = (0 : Int32) then aBACKWARD else aBOTH)) = r0) :
    MetFree l (⟨"com/example/lachesis/lachesis/diff/Breaks", "of", "(ZZ)Lcom/example/lachesis/lachesis/diff/Breaks;"⟩ : MethodName) (head1 (Jvm.Cond.code (⟨"com/example/lachesis/lachesis/diff/Breaks", "of", "(ZZ)Lcom/example/lachesis/lachesis/diff/Breaks;"⟩ : MethodName) prog_17_method_4_code 2 (some (.object "com/example/lachesis/lachesis/diff/Breaks")) :: ws) ({ frames := 0, cells := 0, slots := 0, locals := 0 } : Room)) (fun a U => a = #[(.int p1), (.int p2)] ∧ Z.Warmed39 U.vm ∧ U.heap = h0) (fun _ _ _ _ _ => True) (fun _ U o U' => ∃ v L, o = .returned v ∧ Q_of Z aNONE aFORWARD aBOTH aBACKWARD p1 p2 r0 h0 n0 v U'.heap L ∧ FrameEnd U o U' L ({ frames := 0, cells := 0, slots := 0, locals := 0 } : Room).cells ({ frames := 0, cells := 0, slots := 0, locals := 0 } : Room).slots) := by
  refine MetFree.of_bodySF (plainFor_of_name pn_com_example_lachesis_lachesis_diff_Breaks) hisR ?_
  intro p e s m args below meth c s₁ Bd hml0 hP hK
  obtain ⟨rfl, hZ, hh⟩ := hP
  have hx := Bd.exec
  have hby := Bd.bytes
  have hml : c.maxLocals = 2 := hml0
  have hown : s.vm.findClass "com/example/lachesis/lachesis/diff/Breaks" = some m.cls := findClass_of_methodNamed Bd.named
  have hnm := (name_of_methodNamed Bd.named Bd.method).1
  have X0 : Stand p l e ({ frames := 0, cells := 0, slots := 0, locals := 0 } : Room) s m #[(.int p1), (.int p2)] below meth c s₁ [] 0 0 := Stand.of_body Bd
  have e0 : s₁.heap = h0 := by rw [← hh, Bd.state]; rfl
  have N0 := Fr.nil n0
  refine own_go (Q := fun o U' => ∃ v L, o = .returned v ∧ Q_of Z aNONE aFORWARD aBOTH aBACKWARD p1 p2 r0 h0 n0 v U'.heap L ∧ FrameEnd s o U' L ({ frames := 0, cells := 0, slots := 0, locals := 0 } : Room).cells ({ frames := 0, cells := 0, slots := 0, locals := 0 } : Room).slots) (fun t k => castTop (ef_of m p1 p2) k) ?_
  show OwnGo p e below _ (s₁.setTop (mkF m 0 #[.val (.int p1), .val (.int p2)] []))
  refine own_go (fun _ k => XS.iloadN X0.here hx rfl (hb hby d_prog_17_method_4_0) rfl k) ?_
  show OwnGo p e below _ (s₁.setTop (mkF m 1 #[.val (.int p1), .val (.int p2)] [(.int p1)]))
  by_cases hc1 : p1 = (0 : Int32)
  · refine own_go (fun _ k => XS.ifYes X0.here hx rfl (pc0 := 1) (pc' := 18) rfl (hb hby d_prog_17_method_4_1) rfl ((if0 _ _).trans (teq hc1).1) (by decide) (by decide) k) ?_
    show OwnGo p e below _ (s₁.setTop (mkF m 18 #[.val (.int p1), .val (.int p2)] []))
    refine own_go (fun _ k => XS.iloadN X0.here hx rfl (hb hby d_prog_17_method_4_18) rfl k) ?_
    show OwnGo p e below _ (s₁.setTop (mkF m 19 #[.val (.int p1), .val (.int p2)] [(.int p2)]))
    by_cases hc2 : p2 = (0 : Int32)
    · refine own_go (fun _ k => XS.ifYes X0.here hx rfl (pc0 := 19) (pc' := 28) rfl (hb hby d_prog_17_method_4_19) rfl ((if0 _ _).trans (teq hc2).1) (by decide) (by decide) k) ?_
      show OwnGo p e below _ (s₁.setTop (mkF m 28 #[.val (.int p1), .val (.int p2)] []))
      obtain ⟨T3, X3, e3, st3⟩ := getS X0 hx hZ hown (host := "") (hw _ (List.mem_of_getElem? (i := 4) rfl)) Via.refl e0 (F0.1.ext O0.2) (g := (mkF m 28 #[.val (.int p1), .val (.int p2)] [])) rfl (hb hby d_prog_17_method_4_28)
      refine own_go st3 ?_
      show OwnGo p e below _ (T3.setTop (mkF m 31 #[.val (.int p1), .val (.int p2)] [(.ref aNONE)]))
      obtain ⟨fs, hr, hrun, hended, hW, hsame⟩ := X3.leave (v := some (.ref aNONE)) (fun h => by rw [Bd.returns] at h; cases h)
      refine ⟨_, _, retOut X3 hx Bd.returns rfl (Or.inr (Or.inr (Or.inr (Or.inr ⟨rfl, rfl, rfl⟩)))) (hb hby d_prog_17_method_4_31) hr, hrun, hended, _, _, rfl, ?_, ⟨_, rfl⟩, hW, hsame.mono (by decide) (by decide)⟩
      show Q_of Z aNONE aFORWARD aBOTH aBACKWARD p1 p2 r0 h0 n0 _ T3.heap _
      rw [e3]
      exact ⟨(by rw [← hr0]; simp [hc1, hc2]), N0, rfl⟩
    · refine own_go (fun _ k => XS.ifNo X0.here hx rfl (hb hby d_prog_17_method_4_19) rfl ((if0 _ _).trans (feq hc2).1) k) ?_
      show OwnGo p e below _ (s₁.setTop (mkF m 22 #[.val (.int p1), .val (.int p2)] []))
      obtain ⟨T4, X4, e4, st4⟩ := getS X0 hx hZ hown (host := "") (hw _ (List.mem_of_getElem? (i := 18) rfl)) Via.refl e0 (F0.2.2.1.ext O0.2) (g := (mkF m 22 #[.val (.int p1), .val (.int p2)] [])) rfl (hb hby d_prog_17_method_4_22)
      refine own_go st4 ?_
      show OwnGo p e below _ (T4.setTop (mkF m 25 #[.val (.int p1), .val (.int p2)] [(.ref aFORWARD)]))
      refine own_go (fun _ k => XS.goto X4.here hx rfl (pc0 := 25) (pc' := 31) rfl (hb hby d_prog_17_method_4_25) (by decide) (by decide) k) ?_
      show OwnGo p e below _ (T4.setTop (mkF m 31 #[.val (.int p1), .val (.int p2)] [(.ref aFORWARD)]))
      obtain ⟨fs, hr, hrun, hended, hW, hsame⟩ := X4.leave (v := some (.ref aFORWARD)) (fun h => by rw [Bd.returns] at h; cases h)
      refine ⟨_, _, retOut X4 hx Bd.returns rfl (Or.inr (Or.inr (Or.inr (Or.inr ⟨rfl, rfl, rfl⟩)))) (hb hby d_prog_17_method_4_31) hr, hrun, hended, _, _, rfl, ?_, ⟨_, rfl⟩, hW, hsame.mono (by decide) (by decide)⟩
      show Q_of Z aNONE aFORWARD aBOTH aBACKWARD p1 p2 r0 h0 n0 _ T4.heap _
      rw [e4]
      exact ⟨(by rw [← hr0]; simp [hc1, hc2]), N0, rfl⟩
  · refine own_go (fun _ k => XS.ifNo X0.here hx rfl (hb hby d_prog_17_method_4_1) rfl ((if0 _ _).trans (feq hc1).1) k) ?_
    show OwnGo p e below _ (s₁.setTop (mkF m 4 #[.val (.int p1), .val (.int p2)] []))
    refine own_go (fun _ k => XS.iloadN X0.here hx rfl (hb hby d_prog_17_method_4_4) rfl k) ?_
    show OwnGo p e below _ (s₁.setTop (mkF m 5 #[.val (.int p1), .val (.int p2)] [(.int p2)]))
    by_cases hc5 : p2 = (0 : Int32)
    · refine own_go (fun _ k => XS.ifYes X0.here hx rfl (pc0 := 5) (pc' := 14) rfl (hb hby d_prog_17_method_4_5) rfl ((if0 _ _).trans (teq hc5).1) (by decide) (by decide) k) ?_
      show OwnGo p e below _ (s₁.setTop (mkF m 14 #[.val (.int p1), .val (.int p2)] []))
      obtain ⟨T6, X6, e6, st6⟩ := getS X0 hx hZ hown (host := "") (hw _ (List.mem_of_getElem? (i := 15) rfl)) Via.refl e0 (F0.2.2.2.2.2.2.2.2.2.1.ext O0.2) (g := (mkF m 14 #[.val (.int p1), .val (.int p2)] [])) rfl (hb hby d_prog_17_method_4_14)
      refine own_go st6 ?_
      show OwnGo p e below _ (T6.setTop (mkF m 17 #[.val (.int p1), .val (.int p2)] [(.ref aBACKWARD)]))
      obtain ⟨fs, hr, hrun, hended, hW, hsame⟩ := X6.leave (v := some (.ref aBACKWARD)) (fun h => by rw [Bd.returns] at h; cases h)
      refine ⟨_, _, retOut X6 hx Bd.returns rfl (Or.inr (Or.inr (Or.inr (Or.inr ⟨rfl, rfl, rfl⟩)))) (hb hby d_prog_17_method_4_17) hr, hrun, hended, _, _, rfl, ?_, ⟨_, rfl⟩, hW, hsame.mono (by decide) (by decide)⟩
      show Q_of Z aNONE aFORWARD aBOTH aBACKWARD p1 p2 r0 h0 n0 _ T6.heap _
      rw [e6]
      exact ⟨(by rw [← hr0]; simp [hc1, hc5]), N0, rfl⟩
    · refine own_go (fun _ k => XS.ifNo X0.here hx rfl (hb hby d_prog_17_method_4_5) rfl ((if0 _ _).trans (feq hc5).1) k) ?_
      show OwnGo p e below _ (s₁.setTop (mkF m 8 #[.val (.int p1), .val (.int p2)] []))
      obtain ⟨T7, X7, e7, st7⟩ := getS X0 hx hZ hown (host := "") (hw _ (List.mem_of_getElem? (i := 17) rfl)) Via.refl e0 (F0.2.2.2.2.2.2.1.ext O0.2) (g := (mkF m 8 #[.val (.int p1), .val (.int p2)] [])) rfl (hb hby d_prog_17_method_4_8)
      refine own_go st7 ?_
      show OwnGo p e below _ (T7.setTop (mkF m 11 #[.val (.int p1), .val (.int p2)] [(.ref aBOTH)]))
      refine own_go (fun _ k => XS.goto X7.here hx rfl (pc0 := 11) (pc' := 17) rfl (hb hby d_prog_17_method_4_11) (by decide) (by decide) k) ?_
      show OwnGo p e below _ (T7.setTop (mkF m 17 #[.val (.int p1), .val (.int p2)] [(.ref aBOTH)]))
      obtain ⟨fs, hr, hrun, hended, hW, hsame⟩ := X7.leave (v := some (.ref aBOTH)) (fun h => by rw [Bd.returns] at h; cases h)
      refine ⟨_, _, retOut X7 hx Bd.returns rfl (Or.inr (Or.inr (Or.inr (Or.inr ⟨rfl, rfl, rfl⟩)))) (hb hby d_prog_17_method_4_17) hr, hrun, hended, _, _, rfl, ?_, ⟨_, rfl⟩, hW, hsame.mono (by decide) (by decide)⟩
      show Q_of Z aNONE aFORWARD aBOTH aBACKWARD p1 p2 r0 h0 n0 _ T7.heap _
      rw [e7]
      exact ⟨(by rw [← hr0]; simp [hc1, hc5]), N0, rfl⟩
theorem d_prog_17_method_5_0 : decode prog_17_method_5_code 0 = .ok (.aload_n 0, 1) := by decide +kernel
theorem d_prog_17_method_5_1 : decode prog_17_method_5_code 1 = .ok (.getstatic 7, 3) := by decide +kernel
theorem d_prog_17_method_5_4 : decode prog_17_method_5_code 4 = .ok (.if_acmp .eq 10, 3) := by decide +kernel
theorem d_prog_17_method_5_7 : decode prog_17_method_5_code 7 = .ok (.aload_n 0, 1) := by decide +kernel
theorem d_prog_17_method_5_8 : decode prog_17_method_5_code 8 = .ok (.getstatic 13, 3) := by decide +kernel
theorem d_prog_17_method_5_11 : decode prog_17_method_5_code 11 = .ok (.if_acmp .ne 7, 3) := by decide +kernel
theorem d_prog_17_method_5_18 : decode prog_17_method_5_code 18 = .ok (.iconst 0, 1) := by decide +kernel
theorem d_prog_17_method_5_19 : decode prog_17_method_5_code 19 = .ok (.ireturn, 1) := by decide +kernel
def Q_oldNONE (Z : State) (aNONE aFORWARD aBOTH aBACKWARD : Addr) (h0 : Heap) (n0 : Nat) (v : Option Value) (h : Heap) (L : List Loc) : Prop := v = some (.int (0 : Int32)) ∧ Fr n0 L ∧ h = h0
theorem ef_oldNONE (m : MethodId) (x0 : Addr) : entryFrame m #[(.ref x0)] 1 = mkF m 0 #[.val (.ref x0)] [] := by first | (simp [entryFrame, mkF, argsToLocals, Value.category]; done) | rfl
set_option maxRecDepth 65536 in
set_option maxHeartbeats 40000000 in
theorem rm_oldNONE (l : Launch) (Z : State) (a0 : Array Value) (hw : ∀ d ∈ tables_1, d.before a0 Z = true) (ws : List Jvm.Cond) (aNONE aFORWARD aBOTH aBACKWARD : Addr) (F0 : OwnFacts Z aNONE aFORWARD aBOTH aBACKWARD) (h0 : Heap) (n0 : Nat) (O0 : Old Z n0 h0) :
    MetFree l (⟨"com/example/lachesis/lachesis/diff/Breaks", "breaksOld", "()Z"⟩ : MethodName) (head1 (Jvm.Cond.code (⟨"com/example/lachesis/lachesis/diff/Breaks", "breaksOld", "()Z"⟩ : MethodName) prog_17_method_5_code 1 (some .boolean) :: ws) ({ frames := 0, cells := 0, slots := 0, locals := 0 } : Room)) (fun a U => a = #[(.ref aNONE)] ∧ Z.Warmed39 U.vm ∧ U.heap = h0) (fun _ _ _ _ _ => True) (fun _ U o U' => ∃ v L, o = .returned v ∧ Q_oldNONE Z aNONE aFORWARD aBOTH aBACKWARD h0 n0 v U'.heap L ∧ FrameEnd U o U' L ({ frames := 0, cells := 0, slots := 0, locals := 0 } : Room).cells ({ frames := 0, cells := 0, slots := 0, locals := 0 } : Room).slots) := by
  refine MetFree.of_bodySF (plainFor_of_name pn_com_example_lachesis_lachesis_diff_Breaks) hisR ?_
  intro p e s m args below meth c s₁ Bd hml0 hP hK
  obtain ⟨rfl, hZ, hh⟩ := hP
  have hx := Bd.exec
  have hby := Bd.bytes
  have hml : c.maxLocals = 1 := hml0
  have hown : s.vm.findClass "com/example/lachesis/lachesis/diff/Breaks" = some m.cls := findClass_of_methodNamed Bd.named
  have hnm := (name_of_methodNamed Bd.named Bd.method).1
  have X0 : Stand p l e ({ frames := 0, cells := 0, slots := 0, locals := 0 } : Room) s m #[(.ref aNONE)] below meth c s₁ [] 0 0 := Stand.of_body Bd
  have e0 : s₁.heap = h0 := by rw [← hh, Bd.state]; rfl
  have N0 := Fr.nil n0
  refine own_go (Q := fun o U' => ∃ v L, o = .returned v ∧ Q_oldNONE Z aNONE aFORWARD aBOTH aBACKWARD h0 n0 v U'.heap L ∧ FrameEnd s o U' L ({ frames := 0, cells := 0, slots := 0, locals := 0 } : Room).cells ({ frames := 0, cells := 0, slots := 0, locals := 0 } : Room).slots) (fun t k => castTop (ef_oldNONE m aNONE) k) ?_
  show OwnGo p e below _ (s₁.setTop (mkF m 0 #[.val (.ref aNONE)] []))
  refine own_go (fun _ k => XS.aloadN X0.here hx rfl (hb hby d_prog_17_method_5_0) rfl rfl k) ?_
  show OwnGo p e below _ (s₁.setTop (mkF m 1 #[.val (.ref aNONE)] [(.ref aNONE)]))
  obtain ⟨T8, X8, e8, st8⟩ := getS X0 hx hZ hown (host := "") (hw _ (List.mem_of_getElem? (i := 15) rfl)) Via.refl e0 (F0.2.2.2.2.2.2.2.2.2.1.ext O0.2) (g := (mkF m 1 #[.val (.ref aNONE)] [(.ref aNONE)])) rfl (hb hby d_prog_17_method_5_1)
  refine own_go st8 ?_
  show OwnGo p e below _ (T8.setTop (mkF m 4 #[.val (.ref aNONE)] [(.ref aBACKWARD), (.ref aNONE)]))
  refine own_go (fun _ k => acmp X8 hx rfl (cd := .eq) (o := 10) (x := (.ref aNONE)) (y := (.ref aBACKWARD)) (pc0 := 4) (pc' := 7) rfl rfl rfl (hb hby d_prog_17_method_5_4) rfl (own_refne (Fld.ne F0.2.2.2.2.1 F0.2.2.2.2.2.2.2.2.2.2.2 (by simp))) (by decide) (by decide) k) ?_
  show OwnGo p e below _ (T8.setTop (mkF m 7 #[.val (.ref aNONE)] []))
  refine own_go (fun _ k => XS.aloadN X8.here hx rfl (hb hby d_prog_17_method_5_7) rfl rfl k) ?_
  show OwnGo p e below _ (T8.setTop (mkF m 8 #[.val (.ref aNONE)] [(.ref aNONE)]))
  obtain ⟨T9, X9, e9, st9⟩ := getS X8 hx hZ hown (host := "") (hw _ (List.mem_of_getElem? (i := 17) rfl)) Via.refl e8 (F0.2.2.2.2.2.2.1.ext O0.2) (g := (mkF m 8 #[.val (.ref aNONE)] [(.ref aNONE)])) rfl (hb hby d_prog_17_method_5_8)
  refine own_go st9 ?_
  show OwnGo p e below _ (T9.setTop (mkF m 11 #[.val (.ref aNONE)] [(.ref aBOTH), (.ref aNONE)]))
  refine own_go (fun _ k => acmp X9 hx rfl (cd := .ne) (o := 7) (x := (.ref aNONE)) (y := (.ref aBOTH)) (pc0 := 11) (pc' := 18) rfl rfl rfl (hb hby d_prog_17_method_5_11) rfl (own_refne (Fld.ne F0.2.2.2.2.1 F0.2.2.2.2.2.2.2.2.1 (by simp))) (by decide) (by decide) k) ?_
  show OwnGo p e below _ (T9.setTop (mkF m 18 #[.val (.ref aNONE)] []))
  refine own_go (fun _ k => XS.iconst X9.here hx rfl (hb hby d_prog_17_method_5_18) k) ?_
  show OwnGo p e below _ (T9.setTop (mkF m 19 #[.val (.ref aNONE)] [(.int (0 : Int32))]))
  obtain ⟨fs, hr, hrun, hended, hW, hsame⟩ := X9.leave (v := some (.int (0 : Int32))) (fun h => by rw [Bd.returns] at h; cases h)
  refine ⟨_, _, retOut X9 hx Bd.returns rfl (Or.inl ⟨rfl, Or.inr (Or.inl rfl), _, rfl⟩) (hb hby d_prog_17_method_5_19) hr, hrun, hended, _, _, rfl, ?_, ⟨_, rfl⟩, hW, hsame.mono (by decide) (by decide)⟩
  show Q_oldNONE Z aNONE aFORWARD aBOTH aBACKWARD h0 n0 _ T9.heap _
  rw [e9]
  exact ⟨rfl, N0, rfl⟩
def Q_oldFORWARD (Z : State) (aNONE aFORWARD aBOTH aBACKWARD : Addr) (h0 : Heap) (n0 : Nat) (v : Option Value) (h : Heap) (L : List Loc) : Prop := v = some (.int (0 : Int32)) ∧ Fr n0 L ∧ h = h0
theorem ef_oldFORWARD (m : MethodId) (x0 : Addr) : entryFrame m #[(.ref x0)] 1 = mkF m 0 #[.val (.ref x0)] [] := by first | (simp [entryFrame, mkF, argsToLocals, Value.category]; done) | rfl
set_option maxRecDepth 65536 in
set_option maxHeartbeats 40000000 in
theorem rm_oldFORWARD (l : Launch) (Z : State) (a0 : Array Value) (hw : ∀ d ∈ tables_1, d.before a0 Z = true) (ws : List Jvm.Cond) (aNONE aFORWARD aBOTH aBACKWARD : Addr) (F0 : OwnFacts Z aNONE aFORWARD aBOTH aBACKWARD) (h0 : Heap) (n0 : Nat) (O0 : Old Z n0 h0) :
    MetFree l (⟨"com/example/lachesis/lachesis/diff/Breaks", "breaksOld", "()Z"⟩ : MethodName) (head1 (Jvm.Cond.code (⟨"com/example/lachesis/lachesis/diff/Breaks", "breaksOld", "()Z"⟩ : MethodName) prog_17_method_5_code 1 (some .boolean) :: ws) ({ frames := 0, cells := 0, slots := 0, locals := 0 } : Room)) (fun a U => a = #[(.ref aFORWARD)] ∧ Z.Warmed39 U.vm ∧ U.heap = h0) (fun _ _ _ _ _ => True) (fun _ U o U' => ∃ v L, o = .returned v ∧ Q_oldFORWARD Z aNONE aFORWARD aBOTH aBACKWARD h0 n0 v U'.heap L ∧ FrameEnd U o U' L ({ frames := 0, cells := 0, slots := 0, locals := 0 } : Room).cells ({ frames := 0, cells := 0, slots := 0, locals := 0 } : Room).slots) := by
  refine MetFree.of_bodySF (plainFor_of_name pn_com_example_lachesis_lachesis_diff_Breaks) hisR ?_
  intro p e s m args below meth c s₁ Bd hml0 hP hK
  obtain ⟨rfl, hZ, hh⟩ := hP
  have hx := Bd.exec
  have hby := Bd.bytes
  have hml : c.maxLocals = 1 := hml0
  have hown : s.vm.findClass "com/example/lachesis/lachesis/diff/Breaks" = some m.cls := findClass_of_methodNamed Bd.named
  have hnm := (name_of_methodNamed Bd.named Bd.method).1
  have X0 : Stand p l e ({ frames := 0, cells := 0, slots := 0, locals := 0 } : Room) s m #[(.ref aFORWARD)] below meth c s₁ [] 0 0 := Stand.of_body Bd
  have e0 : s₁.heap = h0 := by rw [← hh, Bd.state]; rfl
  have N0 := Fr.nil n0
  refine own_go (Q := fun o U' => ∃ v L, o = .returned v ∧ Q_oldFORWARD Z aNONE aFORWARD aBOTH aBACKWARD h0 n0 v U'.heap L ∧ FrameEnd s o U' L ({ frames := 0, cells := 0, slots := 0, locals := 0 } : Room).cells ({ frames := 0, cells := 0, slots := 0, locals := 0 } : Room).slots) (fun t k => castTop (ef_oldFORWARD m aFORWARD) k) ?_
  show OwnGo p e below _ (s₁.setTop (mkF m 0 #[.val (.ref aFORWARD)] []))
  refine own_go (fun _ k => XS.aloadN X0.here hx rfl (hb hby d_prog_17_method_5_0) rfl rfl k) ?_
  show OwnGo p e below _ (s₁.setTop (mkF m 1 #[.val (.ref aFORWARD)] [(.ref aFORWARD)]))
  obtain ⟨T10, X10, e10, st10⟩ := getS X0 hx hZ hown (host := "") (hw _ (List.mem_of_getElem? (i := 15) rfl)) Via.refl e0 (F0.2.2.2.2.2.2.2.2.2.1.ext O0.2) (g := (mkF m 1 #[.val (.ref aFORWARD)] [(.ref aFORWARD)])) rfl (hb hby d_prog_17_method_5_1)
  refine own_go st10 ?_
  show OwnGo p e below _ (T10.setTop (mkF m 4 #[.val (.ref aFORWARD)] [(.ref aBACKWARD), (.ref aFORWARD)]))
  refine own_go (fun _ k => acmp X10 hx rfl (cd := .eq) (o := 10) (x := (.ref aFORWARD)) (y := (.ref aBACKWARD)) (pc0 := 4) (pc' := 7) rfl rfl rfl (hb hby d_prog_17_method_5_4) rfl (own_refne (Fld.ne F0.2.2.2.2.2.1 F0.2.2.2.2.2.2.2.2.2.2.2 (by simp))) (by decide) (by decide) k) ?_
  show OwnGo p e below _ (T10.setTop (mkF m 7 #[.val (.ref aFORWARD)] []))
  refine own_go (fun _ k => XS.aloadN X10.here hx rfl (hb hby d_prog_17_method_5_7) rfl rfl k) ?_
  show OwnGo p e below _ (T10.setTop (mkF m 8 #[.val (.ref aFORWARD)] [(.ref aFORWARD)]))
  obtain ⟨T11, X11, e11, st11⟩ := getS X10 hx hZ hown (host := "") (hw _ (List.mem_of_getElem? (i := 17) rfl)) Via.refl e10 (F0.2.2.2.2.2.2.1.ext O0.2) (g := (mkF m 8 #[.val (.ref aFORWARD)] [(.ref aFORWARD)])) rfl (hb hby d_prog_17_method_5_8)
  refine own_go st11 ?_
  show OwnGo p e below _ (T11.setTop (mkF m 11 #[.val (.ref aFORWARD)] [(.ref aBOTH), (.ref aFORWARD)]))
  refine own_go (fun _ k => acmp X11 hx rfl (cd := .ne) (o := 7) (x := (.ref aFORWARD)) (y := (.ref aBOTH)) (pc0 := 11) (pc' := 18) rfl rfl rfl (hb hby d_prog_17_method_5_11) rfl (own_refne (Fld.ne F0.2.2.2.2.2.1 F0.2.2.2.2.2.2.2.2.1 (by simp))) (by decide) (by decide) k) ?_
  show OwnGo p e below _ (T11.setTop (mkF m 18 #[.val (.ref aFORWARD)] []))
  refine own_go (fun _ k => XS.iconst X11.here hx rfl (hb hby d_prog_17_method_5_18) k) ?_
  show OwnGo p e below _ (T11.setTop (mkF m 19 #[.val (.ref aFORWARD)] [(.int (0 : Int32))]))
  obtain ⟨fs, hr, hrun, hended, hW, hsame⟩ := X11.leave (v := some (.int (0 : Int32))) (fun h => by rw [Bd.returns] at h; cases h)
  refine ⟨_, _, retOut X11 hx Bd.returns rfl (Or.inl ⟨rfl, Or.inr (Or.inl rfl), _, rfl⟩) (hb hby d_prog_17_method_5_19) hr, hrun, hended, _, _, rfl, ?_, ⟨_, rfl⟩, hW, hsame.mono (by decide) (by decide)⟩
  show Q_oldFORWARD Z aNONE aFORWARD aBOTH aBACKWARD h0 n0 _ T11.heap _
  rw [e11]
  exact ⟨rfl, N0, rfl⟩
theorem d_prog_17_method_5_14 : decode prog_17_method_5_code 14 = .ok (.iconst 1, 1) := by decide +kernel
theorem d_prog_17_method_5_15 : decode prog_17_method_5_code 15 = .ok (.goto 4, 3) := by decide +kernel
def Q_oldBACKWARD (Z : State) (aNONE aFORWARD aBOTH aBACKWARD : Addr) (h0 : Heap) (n0 : Nat) (v : Option Value) (h : Heap) (L : List Loc) : Prop := v = some (.int (1 : Int32)) ∧ Fr n0 L ∧ h = h0
theorem ef_oldBACKWARD (m : MethodId) (x0 : Addr) : entryFrame m #[(.ref x0)] 1 = mkF m 0 #[.val (.ref x0)] [] := by first | (simp [entryFrame, mkF, argsToLocals, Value.category]; done) | rfl
set_option maxRecDepth 65536 in
set_option maxHeartbeats 40000000 in
theorem rm_oldBACKWARD (l : Launch) (Z : State) (a0 : Array Value) (hw : ∀ d ∈ tables_1, d.before a0 Z = true) (ws : List Jvm.Cond) (aNONE aFORWARD aBOTH aBACKWARD : Addr) (F0 : OwnFacts Z aNONE aFORWARD aBOTH aBACKWARD) (h0 : Heap) (n0 : Nat) (O0 : Old Z n0 h0) :
    MetFree l (⟨"com/example/lachesis/lachesis/diff/Breaks", "breaksOld", "()Z"⟩ : MethodName) (head1 (Jvm.Cond.code (⟨"com/example/lachesis/lachesis/diff/Breaks", "breaksOld", "()Z"⟩ : MethodName) prog_17_method_5_code 1 (some .boolean) :: ws) ({ frames := 0, cells := 0, slots := 0, locals := 0 } : Room)) (fun a U => a = #[(.ref aBACKWARD)] ∧ Z.Warmed39 U.vm ∧ U.heap = h0) (fun _ _ _ _ _ => True) (fun _ U o U' => ∃ v L, o = .returned v ∧ Q_oldBACKWARD Z aNONE aFORWARD aBOTH aBACKWARD h0 n0 v U'.heap L ∧ FrameEnd U o U' L ({ frames := 0, cells := 0, slots := 0, locals := 0 } : Room).cells ({ frames := 0, cells := 0, slots := 0, locals := 0 } : Room).slots) := by
  refine MetFree.of_bodySF (plainFor_of_name pn_com_example_lachesis_lachesis_diff_Breaks) hisR ?_
  intro p e s m args below meth c s₁ Bd hml0 hP hK
  obtain ⟨rfl, hZ, hh⟩ := hP
  have hx := Bd.exec
  have hby := Bd.bytes
  have hml : c.maxLocals = 1 := hml0
  have hown : s.vm.findClass "com/example/lachesis/lachesis/diff/Breaks" = some m.cls := findClass_of_methodNamed Bd.named
  have hnm := (name_of_methodNamed Bd.named Bd.method).1
  have X0 : Stand p l e ({ frames := 0, cells := 0, slots := 0, locals := 0 } : Room) s m #[(.ref aBACKWARD)] below meth c s₁ [] 0 0 := Stand.of_body Bd
  have e0 : s₁.heap = h0 := by rw [← hh, Bd.state]; rfl
  have N0 := Fr.nil n0
  refine own_go (Q := fun o U' => ∃ v L, o = .returned v ∧ Q_oldBACKWARD Z aNONE aFORWARD aBOTH aBACKWARD h0 n0 v U'.heap L ∧ FrameEnd s o U' L ({ frames := 0, cells := 0, slots := 0, locals := 0 } : Room).cells ({ frames := 0, cells := 0, slots := 0, locals := 0 } : Room).slots) (fun t k => castTop (ef_oldBACKWARD m aBACKWARD) k) ?_
  show OwnGo p e below _ (s₁.setTop (mkF m 0 #[.val (.ref aBACKWARD)] []))
  refine own_go (fun _ k => XS.aloadN X0.here hx rfl (hb hby d_prog_17_method_5_0) rfl rfl k) ?_
  show OwnGo p e below _ (s₁.setTop (mkF m 1 #[.val (.ref aBACKWARD)] [(.ref aBACKWARD)]))
  obtain ⟨T12, X12, e12, st12⟩ := getS X0 hx hZ hown (host := "") (hw _ (List.mem_of_getElem? (i := 15) rfl)) Via.refl e0 (F0.2.2.2.2.2.2.2.2.2.1.ext O0.2) (g := (mkF m 1 #[.val (.ref aBACKWARD)] [(.ref aBACKWARD)])) rfl (hb hby d_prog_17_method_5_1)
  refine own_go st12 ?_
  show OwnGo p e below _ (T12.setTop (mkF m 4 #[.val (.ref aBACKWARD)] [(.ref aBACKWARD), (.ref aBACKWARD)]))
  refine own_go (fun _ k => acmp X12 hx rfl (cd := .eq) (o := 10) (x := (.ref aBACKWARD)) (y := (.ref aBACKWARD)) (pc0 := 4) (pc' := 14) rfl rfl rfl (hb hby d_prog_17_method_5_4) rfl (own_refeq _) (by decide) (by decide) k) ?_
  show OwnGo p e below _ (T12.setTop (mkF m 14 #[.val (.ref aBACKWARD)] []))
  refine own_go (fun _ k => XS.iconst X12.here hx rfl (hb hby d_prog_17_method_5_14) k) ?_
  show OwnGo p e below _ (T12.setTop (mkF m 15 #[.val (.ref aBACKWARD)] [(.int (1 : Int32))]))
  refine own_go (fun _ k => XS.goto X12.here hx rfl (pc0 := 15) (pc' := 19) rfl (hb hby d_prog_17_method_5_15) (by decide) (by decide) k) ?_
  show OwnGo p e below _ (T12.setTop (mkF m 19 #[.val (.ref aBACKWARD)] [(.int (1 : Int32))]))
  obtain ⟨fs, hr, hrun, hended, hW, hsame⟩ := X12.leave (v := some (.int (1 : Int32))) (fun h => by rw [Bd.returns] at h; cases h)
  refine ⟨_, _, retOut X12 hx Bd.returns rfl (Or.inl ⟨rfl, Or.inr (Or.inl rfl), _, rfl⟩) (hb hby d_prog_17_method_5_19) hr, hrun, hended, _, _, rfl, ?_, ⟨_, rfl⟩, hW, hsame.mono (by decide) (by decide)⟩
  show Q_oldBACKWARD Z aNONE aFORWARD aBOTH aBACKWARD h0 n0 _ T12.heap _
  rw [e12]
  exact ⟨rfl, N0, rfl⟩
def Q_oldBOTH (Z : State) (aNONE aFORWARD aBOTH aBACKWARD : Addr) (h0 : Heap) (n0 : Nat) (v : Option Value) (h : Heap) (L : List Loc) : Prop := v = some (.int (1 : Int32)) ∧ Fr n0 L ∧ h = h0
theorem ef_oldBOTH (m : MethodId) (x0 : Addr) : entryFrame m #[(.ref x0)] 1 = mkF m 0 #[.val (.ref x0)] [] := by first | (simp [entryFrame, mkF, argsToLocals, Value.category]; done) | rfl
set_option maxRecDepth 65536 in
set_option maxHeartbeats 40000000 in
theorem rm_oldBOTH (l : Launch) (Z : State) (a0 : Array Value) (hw : ∀ d ∈ tables_1, d.before a0 Z = true) (ws : List Jvm.Cond) (aNONE aFORWARD aBOTH aBACKWARD : Addr) (F0 : OwnFacts Z aNONE aFORWARD aBOTH aBACKWARD) (h0 : Heap) (n0 : Nat) (O0 : Old Z n0 h0) :
    MetFree l (⟨"com/example/lachesis/lachesis/diff/Breaks", "breaksOld", "()Z"⟩ : MethodName) (head1 (Jvm.Cond.code (⟨"com/example/lachesis/lachesis/diff/Breaks", "breaksOld", "()Z"⟩ : MethodName) prog_17_method_5_code 1 (some .boolean) :: ws) ({ frames := 0, cells := 0, slots := 0, locals := 0 } : Room)) (fun a U => a = #[(.ref aBOTH)] ∧ Z.Warmed39 U.vm ∧ U.heap = h0) (fun _ _ _ _ _ => True) (fun _ U o U' => ∃ v L, o = .returned v ∧ Q_oldBOTH Z aNONE aFORWARD aBOTH aBACKWARD h0 n0 v U'.heap L ∧ FrameEnd U o U' L ({ frames := 0, cells := 0, slots := 0, locals := 0 } : Room).cells ({ frames := 0, cells := 0, slots := 0, locals := 0 } : Room).slots) := by
  refine MetFree.of_bodySF (plainFor_of_name pn_com_example_lachesis_lachesis_diff_Breaks) hisR ?_
  intro p e s m args below meth c s₁ Bd hml0 hP hK
  obtain ⟨rfl, hZ, hh⟩ := hP
  have hx := Bd.exec
  have hby := Bd.bytes
  have hml : c.maxLocals = 1 := hml0
  have hown : s.vm.findClass "com/example/lachesis/lachesis/diff/Breaks" = some m.cls := findClass_of_methodNamed Bd.named
  have hnm := (name_of_methodNamed Bd.named Bd.method).1
  have X0 : Stand p l e ({ frames := 0, cells := 0, slots := 0, locals := 0 } : Room) s m #[(.ref aBOTH)] below meth c s₁ [] 0 0 := Stand.of_body Bd
  have e0 : s₁.heap = h0 := by rw [← hh, Bd.state]; rfl
  have N0 := Fr.nil n0
  refine own_go (Q := fun o U' => ∃ v L, o = .returned v ∧ Q_oldBOTH Z aNONE aFORWARD aBOTH aBACKWARD h0 n0 v U'.heap L ∧ FrameEnd s o U' L ({ frames := 0, cells := 0, slots := 0, locals := 0 } : Room).cells ({ frames := 0, cells := 0, slots := 0, locals := 0 } : Room).slots) (fun t k => castTop (ef_oldBOTH m aBOTH) k) ?_
  show OwnGo p e below _ (s₁.setTop (mkF m 0 #[.val (.ref aBOTH)] []))
  refine own_go (fun _ k => XS.aloadN X0.here hx rfl (hb hby d_prog_17_method_5_0) rfl rfl k) ?_
  show OwnGo p e below _ (s₁.setTop (mkF m 1 #[.val (.ref aBOTH)] [(.ref aBOTH)]))
  obtain ⟨T13, X13, e13, st13⟩ := getS X0 hx hZ hown (host := "") (hw _ (List.mem_of_getElem? (i := 15) rfl)) Via.refl e0 (F0.2.2.2.2.2.2.2.2.2.1.ext O0.2) (g := (mkF m 1 #[.val (.ref aBOTH)] [(.ref aBOTH)])) rfl (hb hby d_prog_17_method_5_1)
  refine own_go st13 ?_
  show OwnGo p e below _ (T13.setTop (mkF m 4 #[.val (.ref aBOTH)] [(.ref aBACKWARD), (.ref aBOTH)]))
  refine own_go (fun _ k => acmp X13 hx rfl (cd := .eq) (o := 10) (x := (.ref aBOTH)) (y := (.ref aBACKWARD)) (pc0 := 4) (pc' := 7) rfl rfl rfl (hb hby d_prog_17_method_5_4) rfl (own_refne (Fld.ne F0.2.2.2.2.2.2.2.2.1 F0.2.2.2.2.2.2.2.2.2.2.2 (by simp))) (by decide) (by decide) k) ?_
  show OwnGo p e below _ (T13.setTop (mkF m 7 #[.val (.ref aBOTH)] []))
  refine own_go (fun _ k => XS.aloadN X13.here hx rfl (hb hby d_prog_17_method_5_7) rfl rfl k) ?_
  show OwnGo p e below _ (T13.setTop (mkF m 8 #[.val (.ref aBOTH)] [(.ref aBOTH)]))
  obtain ⟨T14, X14, e14, st14⟩ := getS X13 hx hZ hown (host := "") (hw _ (List.mem_of_getElem? (i := 17) rfl)) Via.refl e13 (F0.2.2.2.2.2.2.1.ext O0.2) (g := (mkF m 8 #[.val (.ref aBOTH)] [(.ref aBOTH)])) rfl (hb hby d_prog_17_method_5_8)
  refine own_go st14 ?_
  show OwnGo p e below _ (T14.setTop (mkF m 11 #[.val (.ref aBOTH)] [(.ref aBOTH), (.ref aBOTH)]))
  refine own_go (fun _ k => acmp X14 hx rfl (cd := .ne) (o := 7) (x := (.ref aBOTH)) (y := (.ref aBOTH)) (pc0 := 11) (pc' := 14) rfl rfl rfl (hb hby d_prog_17_method_5_11) rfl (own_refeq _) (by decide) (by decide) k) ?_
  show OwnGo p e below _ (T14.setTop (mkF m 14 #[.val (.ref aBOTH)] []))
  refine own_go (fun _ k => XS.iconst X14.here hx rfl (hb hby d_prog_17_method_5_14) k) ?_
  show OwnGo p e below _ (T14.setTop (mkF m 15 #[.val (.ref aBOTH)] [(.int (1 : Int32))]))
  refine own_go (fun _ k => XS.goto X14.here hx rfl (pc0 := 15) (pc' := 19) rfl (hb hby d_prog_17_method_5_15) (by decide) (by decide) k) ?_
  show OwnGo p e below _ (T14.setTop (mkF m 19 #[.val (.ref aBOTH)] [(.int (1 : Int32))]))
  obtain ⟨fs, hr, hrun, hended, hW, hsame⟩ := X14.leave (v := some (.int (1 : Int32))) (fun h => by rw [Bd.returns] at h; cases h)
  refine ⟨_, _, retOut X14 hx Bd.returns rfl (Or.inl ⟨rfl, Or.inr (Or.inl rfl), _, rfl⟩) (hb hby d_prog_17_method_5_19) hr, hrun, hended, _, _, rfl, ?_, ⟨_, rfl⟩, hW, hsame.mono (by decide) (by decide)⟩
  show Q_oldBOTH Z aNONE aFORWARD aBOTH aBACKWARD h0 n0 _ T14.heap _
  rw [e14]
  exact ⟨rfl, N0, rfl⟩
theorem pd_Z_Z__Lcom_example_lachesis_lachesis_diff_Breaks_ : parseMethodDescriptor "(ZZ)Lcom/example/lachesis/lachesis/diff/Breaks;" = some ⟨[.boolean, .boolean], some (.object "com/example/lachesis/lachesis/diff/Breaks")⟩ := by decide +kernel
theorem pd___Z : parseMethodDescriptor "()Z" = some ⟨[], some .boolean⟩ := by decide +kernel
theorem pn_com_example_lachesis_lachesis_diff_BreaksOfPinLaw : plainName "com/example/lachesis/lachesis/diff/BreaksOfPinLaw" = true := by first | (simp [plainName, overriddenIn]; done) | decide +kernel
def Q_law (Z : State) (aNONE aFORWARD aBOTH aBACKWARD : Addr) (p1 : Int32) (h0 : Heap) (n0 : Nat) (v : Option Value) (h : Heap) (L : List Loc) : Prop := v = some (.int (1 : Int32)) ∧ Fr n0 L
theorem ef_law (m : MethodId) (x0 : Int32) : entryFrame m #[(.int x0)] maxLocals = mkF m 0 #[.val (.int x0), .unset, .unset, .unset, .unset] [] := by first | (simp [entryFrame, mkF, argsToLocals, Value.category, maxLocals]; done) | rfl
set_option maxRecDepth 65536 in
set_option maxHeartbeats 40000000 in
theorem rm_law (l : Launch) (Z : State) (a0 : Array Value) (hw : ∀ d ∈ tables_1, d.before a0 Z = true) (ws : List Jvm.Cond) (aNONE aFORWARD aBOTH aBACKWARD : Addr) (F0 : OwnFacts Z aNONE aFORWARD aBOTH aBACKWARD) (p1 : Int32) (h0 : Heap) (n0 : Nat) (O0 : Old Z n0 h0) :
    MetFree l x (head1 (Jvm.Cond.code x code maxLocals ret :: ws) room_1) (fun a U => a = #[(.int p1)] ∧ Z.Warmed39 U.vm ∧ U.heap = h0) (fun _ _ _ _ _ => True) (fun _ U o U' => ∃ v L, o = .returned v ∧ Q_law Z aNONE aFORWARD aBOTH aBACKWARD p1 h0 n0 v U'.heap L ∧ FrameEnd U o U' L 0 0) := by
  refine MetFree.of_bodySF (plainFor_of_name pn_com_example_lachesis_lachesis_diff_BreaksOfPinLaw) hisR ?_
  intro p e s m args below meth c s₁ Bd hml0 hP hK
  obtain ⟨rfl, hZ, hh⟩ := hP
  have hx := Bd.exec
  have hby := Bd.bytes
  have hml : c.maxLocals = 5 := hml0
  have hown : s.vm.findClass "com/example/lachesis/lachesis/diff/BreaksOfPinLaw" = some m.cls := findClass_of_methodNamed Bd.named
  have hnm := (name_of_methodNamed Bd.named Bd.method).1
  have X0 : Stand p l e room_1 s m #[(.int p1)] below meth c s₁ [] 0 0 := Stand.of_body Bd
  have e0 : s₁.heap = h0 := by rw [← hh, Bd.state]; rfl
  have N0 := Fr.nil n0
  refine own_go (Q := fun o U' => ∃ v L, o = .returned v ∧ Q_law Z aNONE aFORWARD aBOTH aBACKWARD p1 h0 n0 v U'.heap L ∧ FrameEnd s o U' L 0 0) (fun t k => castTop (ef_law m p1) k) ?_
  show OwnGo p e below _ (s₁.setTop (mkF m 0 #[.val (.int p1), .unset, .unset, .unset, .unset] []))
  refine own_go (fun _ k => XS.iloadN X0.here hx rfl (hb hby at_0) rfl k) ?_
  show OwnGo p e below _ (s₁.setTop (mkF m 1 #[.val (.int p1), .unset, .unset, .unset, .unset] [(.int p1)]))
  refine own_go (fun _ k => XS.iconst X0.here hx rfl (hb hby at_1) k) ?_
  show OwnGo p e below _ (s₁.setTop (mkF m 2 #[.val (.int p1), .unset, .unset, .unset, .unset] [(.int (1 : Int32)), (.int p1)]))
  refine own_go (fun _ k => XS.iand X0.here hx rfl (hb hby at_2) rfl k) ?_
  show OwnGo p e below _ (s₁.setTop (mkF m 3 #[.val (.int p1), .unset, .unset, .unset, .unset] [(.int (p1 &&& (1 : Int32)))]))
  by_cases hc15 : (p1 &&& (1 : Int32)) = (0 : Int32)
  · refine own_go (fun _ k => XS.ifYes X0.here hx rfl (pc0 := 3) (pc' := 10) rfl (hb hby at_3) rfl ((if0 _ _).trans (teq hc15).1) (by decide) (by decide) k) ?_
    show OwnGo p e below _ (s₁.setTop (mkF m 10 #[.val (.int p1), .unset, .unset, .unset, .unset] []))
    refine own_go (fun _ k => XS.iconst X0.here hx rfl (hb hby at_10) k) ?_
    show OwnGo p e below _ (s₁.setTop (mkF m 11 #[.val (.int p1), .unset, .unset, .unset, .unset] [(.int (0 : Int32))]))
    refine own_go (fun _ k => XS.istoreN X0.here hx rfl (hb hby at_11) rfl (l' := #[.val (.int p1), .val (.int (0 : Int32)), .unset, .unset, .unset]) rfl k) ?_
    show OwnGo p e below _ (s₁.setTop (mkF m 12 #[.val (.int p1), .val (.int (0 : Int32)), .unset, .unset, .unset] []))
    refine own_go (fun _ k => XS.iloadN X0.here hx rfl (hb hby at_12) rfl k) ?_
    show OwnGo p e below _ (s₁.setTop (mkF m 13 #[.val (.int p1), .val (.int (0 : Int32)), .unset, .unset, .unset] [(.int p1)]))
    refine own_go (fun _ k => XS.iconst X0.here hx rfl (hb hby at_13) k) ?_
    show OwnGo p e below _ (s₁.setTop (mkF m 14 #[.val (.int p1), .val (.int (0 : Int32)), .unset, .unset, .unset] [(.int (2 : Int32)), (.int p1)]))
    refine own_go (fun _ k => XS.iand X0.here hx rfl (hb hby at_14) rfl k) ?_
    show OwnGo p e below _ (s₁.setTop (mkF m 15 #[.val (.int p1), .val (.int (0 : Int32)), .unset, .unset, .unset] [(.int (p1 &&& (2 : Int32)))]))
    by_cases hc16 : (p1 &&& (2 : Int32)) = (0 : Int32)
    · refine own_go (fun _ k => XS.ifYes X0.here hx rfl (pc0 := 15) (pc' := 22) rfl (hb hby at_15) rfl ((if0 _ _).trans (teq hc16).1) (by decide) (by decide) k) ?_
      show OwnGo p e below _ (s₁.setTop (mkF m 22 #[.val (.int p1), .val (.int (0 : Int32)), .unset, .unset, .unset] []))
      refine own_go (fun _ k => XS.iconst X0.here hx rfl (hb hby at_22) k) ?_
      show OwnGo p e below _ (s₁.setTop (mkF m 23 #[.val (.int p1), .val (.int (0 : Int32)), .unset, .unset, .unset] [(.int (0 : Int32))]))
      refine own_go (fun _ k => XS.istoreN X0.here hx rfl (hb hby at_23) rfl (l' := #[.val (.int p1), .val (.int (0 : Int32)), .val (.int (0 : Int32)), .unset, .unset]) rfl k) ?_
      show OwnGo p e below _ (s₁.setTop (mkF m 24 #[.val (.int p1), .val (.int (0 : Int32)), .val (.int (0 : Int32)), .unset, .unset] []))
      refine own_go (fun _ k => XS.iloadN X0.here hx rfl (hb hby at_24) rfl k) ?_
      show OwnGo p e below _ (s₁.setTop (mkF m 25 #[.val (.int p1), .val (.int (0 : Int32)), .val (.int (0 : Int32)), .unset, .unset] [(.int (0 : Int32))]))
      refine own_go (fun _ k => XS.iloadN X0.here hx rfl (hb hby at_25) rfl k) ?_
      show OwnGo p e below _ (s₁.setTop (mkF m 26 #[.val (.int p1), .val (.int (0 : Int32)), .val (.int (0 : Int32)), .unset, .unset] [(.int (0 : Int32)), (.int (0 : Int32))]))
      obtain ⟨_, _, ⟨T17, L17, k17, n17⟩, -, X17, ⟨Lc17, hQ17, l17, y17, z17⟩, st17⟩ := Jvm.LawKit.callS X0 hx (y := (⟨"com/example/lachesis/lachesis/diff/Breaks", "of", "(ZZ)Lcom/example/lachesis/lachesis/diff/Breaks;"⟩ : MethodName)) hown (mvT hZ (hw _ (List.mem_of_getElem? (i := 0) rfl))) (mvT hZ (hw _ (List.mem_of_getElem? (i := 1) rfl))) (mvT hZ (hw _ (List.mem_of_getElem? (i := 2) rfl))) (mvT hZ (hw _ (List.mem_of_getElem? (i := 3) rfl))) (by decide) (backOf (W := 0) (rm_of l Z a0 hw [] aNONE aFORWARD aBOTH aBACKWARD F0 (0 : Int32) (0 : Int32) aNONE h0 n0 O0 (by simp)) hZ (hw _ (List.mem_of_getElem? (i := 3) rfl)) (hw _ (List.mem_of_getElem? (i := 2) rfl)) (by decide) (by decide)) (g := (mkF m 26 #[.val (.int p1), .val (.int (0 : Int32)), .val (.int (0 : Int32)), .unset, .unset] [(.int (0 : Int32)), (.int (0 : Int32))])) rfl (by rw [hml]; rfl) (argsL := [(.int (0 : Int32)), (.int (0 : Int32))]) (rest := []) (lenOf pd_Z_Z__Lcom_example_lachesis_lachesis_diff_Breaks_ rfl) rfl (by show 2 * 0 + _ ≤ _; exact Nat.le_of_eq rfl) (hb hby at_26) (fun _ _ => ⟨rfl, e0, (by decide : 0 + 0 ≤ _), (by decide : 0 + 0 ≤ _)⟩)
      dsimp only [Pt.U, Pt.locs, Pt.cells, Pt.slots] at X17 l17 y17 z17 st17 hQ17
      subst l17 y17 z17
      obtain ⟨rfl, Nq17, K17⟩ := hQ17
      have N17 := Fr.app N0 Nq17
      refine own_go st17 ?_
      show OwnGo p e below _ (T17.setTop (mkF m 29 #[.val (.int p1), .val (.int (0 : Int32)), .val (.int (0 : Int32)), .unset, .unset] [(.ref aNONE)]))
      refine own_go (fun _ k => XS.astoreN X17.here hx rfl (hb hby at_29) rfl rfl (l' := #[.val (.int p1), .val (.int (0 : Int32)), .val (.int (0 : Int32)), .val (.ref aNONE), .unset]) rfl k) ?_
      show OwnGo p e below _ (T17.setTop (mkF m 30 #[.val (.int p1), .val (.int (0 : Int32)), .val (.int (0 : Int32)), .val (.ref aNONE), .unset] []))
      refine own_go (fun _ k => XS.aloadN X17.here hx rfl (hb hby at_30) rfl rfl k) ?_
      show OwnGo p e below _ (T17.setTop (mkF m 31 #[.val (.int p1), .val (.int (0 : Int32)), .val (.int (0 : Int32)), .val (.ref aNONE), .unset] [(.ref aNONE)]))
      refine own_go (fun _ k => XS.ifnonnullYes X17.here hx rfl (pc0 := 31) (pc' := 36) rfl (hb hby at_31) rfl (by decide) (by decide) k) ?_
      show OwnGo p e below _ (T17.setTop (mkF m 36 #[.val (.int p1), .val (.int (0 : Int32)), .val (.int (0 : Int32)), .val (.ref aNONE), .unset] []))
      refine own_go (fun _ k => XS.aloadN X17.here hx rfl (hb hby at_36) rfl rfl k) ?_
      show OwnGo p e below _ (T17.setTop (mkF m 37 #[.val (.int p1), .val (.int (0 : Int32)), .val (.int (0 : Int32)), .val (.ref aNONE), .unset] [(.ref aNONE)]))
      obtain ⟨T18, X18, e18, st18⟩ := getS X17 hx hZ hown (host := "") (hw _ (List.mem_of_getElem? (i := 6) rfl)) Via.refl K17 (F0.2.2.1.ext O0.2) (g := (mkF m 37 #[.val (.int p1), .val (.int (0 : Int32)), .val (.int (0 : Int32)), .val (.ref aNONE), .unset] [(.ref aNONE)])) rfl (hb hby at_37)
      refine own_go st18 ?_
      show OwnGo p e below _ (T18.setTop (mkF m 40 #[.val (.int p1), .val (.int (0 : Int32)), .val (.int (0 : Int32)), .val (.ref aNONE), .unset] [(.ref aFORWARD), (.ref aNONE)]))
      refine own_go (fun _ k => acmp X18 hx rfl (cd := .eq) (o := 10) (x := (.ref aNONE)) (y := (.ref aFORWARD)) (pc0 := 40) (pc' := 43) rfl rfl rfl (hb hby at_40) rfl (own_refne (Fld.ne F0.2.2.2.2.1 F0.2.2.2.2.2.1 (by simp))) (by decide) (by decide) k) ?_
      show OwnGo p e below _ (T18.setTop (mkF m 43 #[.val (.int p1), .val (.int (0 : Int32)), .val (.int (0 : Int32)), .val (.ref aNONE), .unset] []))
      refine own_go (fun _ k => XS.aloadN X18.here hx rfl (hb hby at_43) rfl rfl k) ?_
      show OwnGo p e below _ (T18.setTop (mkF m 44 #[.val (.int p1), .val (.int (0 : Int32)), .val (.int (0 : Int32)), .val (.ref aNONE), .unset] [(.ref aNONE)]))
      obtain ⟨T19, X19, e19, st19⟩ := getS X18 hx hZ hown (host := "") (hw _ (List.mem_of_getElem? (i := 8) rfl)) Via.refl e18 (F0.2.2.2.2.2.2.1.ext O0.2) (g := (mkF m 44 #[.val (.int p1), .val (.int (0 : Int32)), .val (.int (0 : Int32)), .val (.ref aNONE), .unset] [(.ref aNONE)])) rfl (hb hby at_44)
      refine own_go st19 ?_
      show OwnGo p e below _ (T19.setTop (mkF m 47 #[.val (.int p1), .val (.int (0 : Int32)), .val (.int (0 : Int32)), .val (.ref aNONE), .unset] [(.ref aBOTH), (.ref aNONE)]))
      refine own_go (fun _ k => acmp X19 hx rfl (cd := .ne) (o := 7) (x := (.ref aNONE)) (y := (.ref aBOTH)) (pc0 := 47) (pc' := 54) rfl rfl rfl (hb hby at_47) rfl (own_refne (Fld.ne F0.2.2.2.2.1 F0.2.2.2.2.2.2.2.2.1 (by simp))) (by decide) (by decide) k) ?_
      show OwnGo p e below _ (T19.setTop (mkF m 54 #[.val (.int p1), .val (.int (0 : Int32)), .val (.int (0 : Int32)), .val (.ref aNONE), .unset] []))
      refine own_go (fun _ k => XS.iconst X19.here hx rfl (hb hby at_54) k) ?_
      show OwnGo p e below _ (T19.setTop (mkF m 55 #[.val (.int p1), .val (.int (0 : Int32)), .val (.int (0 : Int32)), .val (.ref aNONE), .unset] [(.int (0 : Int32))]))
      refine own_go (fun _ k => XS.istore X19.here hx rfl (hb hby at_55) rfl (l' := #[.val (.int p1), .val (.int (0 : Int32)), .val (.int (0 : Int32)), .val (.ref aNONE), .val (.int (0 : Int32))]) rfl k) ?_
      show OwnGo p e below _ (T19.setTop (mkF m 57 #[.val (.int p1), .val (.int (0 : Int32)), .val (.int (0 : Int32)), .val (.ref aNONE), .val (.int (0 : Int32))] []))
      refine own_go (fun _ k => XS.aloadN X19.here hx rfl (hb hby at_57) rfl rfl k) ?_
      show OwnGo p e below _ (T19.setTop (mkF m 58 #[.val (.int p1), .val (.int (0 : Int32)), .val (.int (0 : Int32)), .val (.ref aNONE), .val (.int (0 : Int32))] [(.ref aNONE)]))
      obtain ⟨cq20, kq20, qa20, qb20, qc20⟩ := isOf hZ e19 (F0.2.1.ext O0.2)
      obtain ⟨_, _, ⟨T20, L20, k20, n20⟩, -, X20, ⟨Lc20, hQ20, l20, y20, z20⟩, st20⟩ := X19.virtualBack hx (y := (⟨"com/example/lachesis/lachesis/diff/Breaks", "breaksOld", "()Z"⟩ : MethodName)) (z := (⟨"com/example/lachesis/lachesis/diff/Breaks", "breaksOld", "()Z"⟩ : MethodName)) hown (mvT hZ (hw _ (List.mem_of_getElem? (i := 10) rfl))) (mvT hZ (hw _ (List.mem_of_getElem? (i := 11) rfl))) (notFace_of_selects (args := #[]) (mvT hZ (hw _ (List.mem_of_getElem? (i := 13) rfl)))) (mvT hZ (hw _ (List.mem_of_getElem? (i := 13) rfl))) (mvT hZ (hw _ (List.mem_of_getElem? (i := 12) rfl))) (by decide) (backOf (W := 0) (rm_oldNONE l Z a0 hw [] aNONE aFORWARD aBOTH aBACKWARD F0 h0 n0 O0) hZ (hw _ (List.mem_of_getElem? (i := 14) rfl)) (hw _ (List.mem_of_getElem? (i := 2) rfl)) (by decide) (by decide)) qa20 qc20 (g := (mkF m 58 #[.val (.int p1), .val (.int (0 : Int32)), .val (.int (0 : Int32)), .val (.ref aNONE), .val (.int (0 : Int32))] [(.ref aNONE)])) rfl (by rw [hml]; rfl) (Steps.refl _) (argsL := []) (rest := []) (lenOf pd___Z rfl) rfl (by show 2 * 0 + _ ≤ _; exact Nat.le_of_eq rfl) (hb hby at_58) (fun _ _ => ⟨rfl, e19, (by decide : 0 + 0 ≤ _), (by decide : 0 + 0 ≤ _)⟩)
      dsimp only [Pt.U, Pt.locs, Pt.cells, Pt.slots] at X20 l20 y20 z20 st20 hQ20
      subst l20 y20 z20
      obtain ⟨rfl, Nq20, K20⟩ := hQ20
      have N20 := Fr.app N17 Nq20
      refine own_go (fun _ k => st20.trans k) ?_
      show OwnGo p e below _ (T20.setTop (mkF m 61 #[.val (.int p1), .val (.int (0 : Int32)), .val (.int (0 : Int32)), .val (.ref aNONE), .val (.int (0 : Int32))] [(.int (0 : Int32))]))
      refine own_go (fun _ k => XS.iloadN X20.here hx rfl (hb hby at_61) rfl k) ?_
      show OwnGo p e below _ (T20.setTop (mkF m 62 #[.val (.int p1), .val (.int (0 : Int32)), .val (.int (0 : Int32)), .val (.ref aNONE), .val (.int (0 : Int32))] [(.int (0 : Int32)), (.int (0 : Int32))]))
      refine own_go (fun _ k => XS.icmpNo X20.here hx rfl (hb hby at_62) rfl (by decide) k) ?_
      show OwnGo p e below _ (T20.setTop (mkF m 65 #[.val (.int p1), .val (.int (0 : Int32)), .val (.int (0 : Int32)), .val (.ref aNONE), .val (.int (0 : Int32))] []))
      refine own_go (fun _ k => XS.iload X20.here hx rfl (hb hby at_65) rfl k) ?_
      show OwnGo p e below _ (T20.setTop (mkF m 67 #[.val (.int p1), .val (.int (0 : Int32)), .val (.int (0 : Int32)), .val (.ref aNONE), .val (.int (0 : Int32))] [(.int (0 : Int32))]))
      refine own_go (fun _ k => XS.iloadN X20.here hx rfl (hb hby at_67) rfl k) ?_
      show OwnGo p e below _ (T20.setTop (mkF m 68 #[.val (.int p1), .val (.int (0 : Int32)), .val (.int (0 : Int32)), .val (.ref aNONE), .val (.int (0 : Int32))] [(.int (0 : Int32)), (.int (0 : Int32))]))
      refine own_go (fun _ k => XS.icmpNo X20.here hx rfl (hb hby at_68) rfl (by decide) k) ?_
      show OwnGo p e below _ (T20.setTop (mkF m 71 #[.val (.int p1), .val (.int (0 : Int32)), .val (.int (0 : Int32)), .val (.ref aNONE), .val (.int (0 : Int32))] []))
      refine own_go (fun _ k => XS.iconst X20.here hx rfl (hb hby at_71) k) ?_
      show OwnGo p e below _ (T20.setTop (mkF m 72 #[.val (.int p1), .val (.int (0 : Int32)), .val (.int (0 : Int32)), .val (.ref aNONE), .val (.int (0 : Int32))] [(.int (1 : Int32))]))
      refine own_go (fun _ k => XS.goto X20.here hx rfl (pc0 := 72) (pc' := 76) rfl (hb hby at_72) (by decide) (by decide) k) ?_
      show OwnGo p e below _ (T20.setTop (mkF m 76 #[.val (.int p1), .val (.int (0 : Int32)), .val (.int (0 : Int32)), .val (.ref aNONE), .val (.int (0 : Int32))] [(.int (1 : Int32))]))
      obtain ⟨fs, hr, hrun, hended, hW, hsame⟩ := X20.leave (v := some (.int (1 : Int32))) (fun h => by rw [Bd.returns] at h; cases h)
      refine ⟨_, _, retOut X20 hx Bd.returns rfl (Or.inl ⟨rfl, Or.inr (Or.inl rfl), _, rfl⟩) (hb hby at_76) hr, hrun, hended, _, _, rfl, ?_, ⟨_, rfl⟩, hW, hsame.mono (by decide) (by decide)⟩
      show Q_law Z aNONE aFORWARD aBOTH aBACKWARD p1 h0 n0 _ T20.heap _
      rw [K20]
      exact ⟨rfl, N20⟩
    · refine own_go (fun _ k => XS.ifNo X0.here hx rfl (hb hby at_15) rfl ((if0 _ _).trans (feq hc16).1) k) ?_
      show OwnGo p e below _ (s₁.setTop (mkF m 18 #[.val (.int p1), .val (.int (0 : Int32)), .unset, .unset, .unset] []))
      refine own_go (fun _ k => XS.iconst X0.here hx rfl (hb hby at_18) k) ?_
      show OwnGo p e below _ (s₁.setTop (mkF m 19 #[.val (.int p1), .val (.int (0 : Int32)), .unset, .unset, .unset] [(.int (1 : Int32))]))
      refine own_go (fun _ k => XS.goto X0.here hx rfl (pc0 := 19) (pc' := 23) rfl (hb hby at_19) (by decide) (by decide) k) ?_
      show OwnGo p e below _ (s₁.setTop (mkF m 23 #[.val (.int p1), .val (.int (0 : Int32)), .unset, .unset, .unset] [(.int (1 : Int32))]))
      refine own_go (fun _ k => XS.istoreN X0.here hx rfl (hb hby at_23) rfl (l' := #[.val (.int p1), .val (.int (0 : Int32)), .val (.int (1 : Int32)), .unset, .unset]) rfl k) ?_
      show OwnGo p e below _ (s₁.setTop (mkF m 24 #[.val (.int p1), .val (.int (0 : Int32)), .val (.int (1 : Int32)), .unset, .unset] []))
      refine own_go (fun _ k => XS.iloadN X0.here hx rfl (hb hby at_24) rfl k) ?_
      show OwnGo p e below _ (s₁.setTop (mkF m 25 #[.val (.int p1), .val (.int (0 : Int32)), .val (.int (1 : Int32)), .unset, .unset] [(.int (0 : Int32))]))
      refine own_go (fun _ k => XS.iloadN X0.here hx rfl (hb hby at_25) rfl k) ?_
      show OwnGo p e below _ (s₁.setTop (mkF m 26 #[.val (.int p1), .val (.int (0 : Int32)), .val (.int (1 : Int32)), .unset, .unset] [(.int (1 : Int32)), (.int (0 : Int32))]))
      obtain ⟨_, _, ⟨T21, L21, k21, n21⟩, -, X21, ⟨Lc21, hQ21, l21, y21, z21⟩, st21⟩ := Jvm.LawKit.callS X0 hx (y := (⟨"com/example/lachesis/lachesis/diff/Breaks", "of", "(ZZ)Lcom/example/lachesis/lachesis/diff/Breaks;"⟩ : MethodName)) hown (mvT hZ (hw _ (List.mem_of_getElem? (i := 0) rfl))) (mvT hZ (hw _ (List.mem_of_getElem? (i := 1) rfl))) (mvT hZ (hw _ (List.mem_of_getElem? (i := 2) rfl))) (mvT hZ (hw _ (List.mem_of_getElem? (i := 3) rfl))) (by decide) (backOf (W := 0) (rm_of l Z a0 hw [] aNONE aFORWARD aBOTH aBACKWARD F0 (0 : Int32) (1 : Int32) aFORWARD h0 n0 O0 (by simp)) hZ (hw _ (List.mem_of_getElem? (i := 3) rfl)) (hw _ (List.mem_of_getElem? (i := 2) rfl)) (by decide) (by decide)) (g := (mkF m 26 #[.val (.int p1), .val (.int (0 : Int32)), .val (.int (1 : Int32)), .unset, .unset] [(.int (1 : Int32)), (.int (0 : Int32))])) rfl (by rw [hml]; rfl) (argsL := [(.int (0 : Int32)), (.int (1 : Int32))]) (rest := []) (lenOf pd_Z_Z__Lcom_example_lachesis_lachesis_diff_Breaks_ rfl) rfl (by show 2 * 0 + _ ≤ _; exact Nat.le_of_eq rfl) (hb hby at_26) (fun _ _ => ⟨rfl, e0, (by decide : 0 + 0 ≤ _), (by decide : 0 + 0 ≤ _)⟩)
      dsimp only [Pt.U, Pt.locs, Pt.cells, Pt.slots] at X21 l21 y21 z21 st21 hQ21
      subst l21 y21 z21
      obtain ⟨rfl, Nq21, K21⟩ := hQ21
      have N21 := Fr.app N0 Nq21
      refine own_go st21 ?_
      show OwnGo p e below _ (T21.setTop (mkF m 29 #[.val (.int p1), .val (.int (0 : Int32)), .val (.int (1 : Int32)), .unset, .unset] [(.ref aFORWARD)]))
      refine own_go (fun _ k => XS.astoreN X21.here hx rfl (hb hby at_29) rfl rfl (l' := #[.val (.int p1), .val (.int (0 : Int32)), .val (.int (1 : Int32)), .val (.ref aFORWARD), .unset]) rfl k) ?_
      show OwnGo p e below _ (T21.setTop (mkF m 30 #[.val (.int p1), .val (.int (0 : Int32)), .val (.int (1 : Int32)), .val (.ref aFORWARD), .unset] []))
      refine own_go (fun _ k => XS.aloadN X21.here hx rfl (hb hby at_30) rfl rfl k) ?_
      show OwnGo p e below _ (T21.setTop (mkF m 31 #[.val (.int p1), .val (.int (0 : Int32)), .val (.int (1 : Int32)), .val (.ref aFORWARD), .unset] [(.ref aFORWARD)]))
      refine own_go (fun _ k => XS.ifnonnullYes X21.here hx rfl (pc0 := 31) (pc' := 36) rfl (hb hby at_31) rfl (by decide) (by decide) k) ?_
      show OwnGo p e below _ (T21.setTop (mkF m 36 #[.val (.int p1), .val (.int (0 : Int32)), .val (.int (1 : Int32)), .val (.ref aFORWARD), .unset] []))
      refine own_go (fun _ k => XS.aloadN X21.here hx rfl (hb hby at_36) rfl rfl k) ?_
      show OwnGo p e below _ (T21.setTop (mkF m 37 #[.val (.int p1), .val (.int (0 : Int32)), .val (.int (1 : Int32)), .val (.ref aFORWARD), .unset] [(.ref aFORWARD)]))
      obtain ⟨T22, X22, e22, st22⟩ := getS X21 hx hZ hown (host := "") (hw _ (List.mem_of_getElem? (i := 6) rfl)) Via.refl K21 (F0.2.2.1.ext O0.2) (g := (mkF m 37 #[.val (.int p1), .val (.int (0 : Int32)), .val (.int (1 : Int32)), .val (.ref aFORWARD), .unset] [(.ref aFORWARD)])) rfl (hb hby at_37)
      refine own_go st22 ?_
      show OwnGo p e below _ (T22.setTop (mkF m 40 #[.val (.int p1), .val (.int (0 : Int32)), .val (.int (1 : Int32)), .val (.ref aFORWARD), .unset] [(.ref aFORWARD), (.ref aFORWARD)]))
      refine own_go (fun _ k => acmp X22 hx rfl (cd := .eq) (o := 10) (x := (.ref aFORWARD)) (y := (.ref aFORWARD)) (pc0 := 40) (pc' := 50) rfl rfl rfl (hb hby at_40) rfl (own_refeq _) (by decide) (by decide) k) ?_
      show OwnGo p e below _ (T22.setTop (mkF m 50 #[.val (.int p1), .val (.int (0 : Int32)), .val (.int (1 : Int32)), .val (.ref aFORWARD), .unset] []))
      refine own_go (fun _ k => XS.iconst X22.here hx rfl (hb hby at_50) k) ?_
      show OwnGo p e below _ (T22.setTop (mkF m 51 #[.val (.int p1), .val (.int (0 : Int32)), .val (.int (1 : Int32)), .val (.ref aFORWARD), .unset] [(.int (1 : Int32))]))
      refine own_go (fun _ k => XS.goto X22.here hx rfl (pc0 := 51) (pc' := 55) rfl (hb hby at_51) (by decide) (by decide) k) ?_
      show OwnGo p e below _ (T22.setTop (mkF m 55 #[.val (.int p1), .val (.int (0 : Int32)), .val (.int (1 : Int32)), .val (.ref aFORWARD), .unset] [(.int (1 : Int32))]))
      refine own_go (fun _ k => XS.istore X22.here hx rfl (hb hby at_55) rfl (l' := #[.val (.int p1), .val (.int (0 : Int32)), .val (.int (1 : Int32)), .val (.ref aFORWARD), .val (.int (1 : Int32))]) rfl k) ?_
      show OwnGo p e below _ (T22.setTop (mkF m 57 #[.val (.int p1), .val (.int (0 : Int32)), .val (.int (1 : Int32)), .val (.ref aFORWARD), .val (.int (1 : Int32))] []))
      refine own_go (fun _ k => XS.aloadN X22.here hx rfl (hb hby at_57) rfl rfl k) ?_
      show OwnGo p e below _ (T22.setTop (mkF m 58 #[.val (.int p1), .val (.int (0 : Int32)), .val (.int (1 : Int32)), .val (.ref aFORWARD), .val (.int (1 : Int32))] [(.ref aFORWARD)]))
      obtain ⟨cq23, kq23, qa23, qb23, qc23⟩ := isOf hZ e22 (F0.2.2.2.1.ext O0.2)
      obtain ⟨_, _, ⟨T23, L23, k23, n23⟩, -, X23, ⟨Lc23, hQ23, l23, y23, z23⟩, st23⟩ := X22.virtualBack hx (y := (⟨"com/example/lachesis/lachesis/diff/Breaks", "breaksOld", "()Z"⟩ : MethodName)) (z := (⟨"com/example/lachesis/lachesis/diff/Breaks", "breaksOld", "()Z"⟩ : MethodName)) hown (mvT hZ (hw _ (List.mem_of_getElem? (i := 10) rfl))) (mvT hZ (hw _ (List.mem_of_getElem? (i := 11) rfl))) (notFace_of_selects (args := #[]) (mvT hZ (hw _ (List.mem_of_getElem? (i := 13) rfl)))) (mvT hZ (hw _ (List.mem_of_getElem? (i := 13) rfl))) (mvT hZ (hw _ (List.mem_of_getElem? (i := 12) rfl))) (by decide) (backOf (W := 0) (rm_oldFORWARD l Z a0 hw [] aNONE aFORWARD aBOTH aBACKWARD F0 h0 n0 O0) hZ (hw _ (List.mem_of_getElem? (i := 14) rfl)) (hw _ (List.mem_of_getElem? (i := 2) rfl)) (by decide) (by decide)) qa23 qc23 (g := (mkF m 58 #[.val (.int p1), .val (.int (0 : Int32)), .val (.int (1 : Int32)), .val (.ref aFORWARD), .val (.int (1 : Int32))] [(.ref aFORWARD)])) rfl (by rw [hml]; rfl) (Steps.refl _) (argsL := []) (rest := []) (lenOf pd___Z rfl) rfl (by show 2 * 0 + _ ≤ _; exact Nat.le_of_eq rfl) (hb hby at_58) (fun _ _ => ⟨rfl, e22, (by decide : 0 + 0 ≤ _), (by decide : 0 + 0 ≤ _)⟩)
      dsimp only [Pt.U, Pt.locs, Pt.cells, Pt.slots] at X23 l23 y23 z23 st23 hQ23
      subst l23 y23 z23
      obtain ⟨rfl, Nq23, K23⟩ := hQ23
      have N23 := Fr.app N21 Nq23
      refine own_go (fun _ k => st23.trans k) ?_
      show OwnGo p e below _ (T23.setTop (mkF m 61 #[.val (.int p1), .val (.int (0 : Int32)), .val (.int (1 : Int32)), .val (.ref aFORWARD), .val (.int (1 : Int32))] [(.int (0 : Int32))]))
      refine own_go (fun _ k => XS.iloadN X23.here hx rfl (hb hby at_61) rfl k) ?_
      show OwnGo p e below _ (T23.setTop (mkF m 62 #[.val (.int p1), .val (.int (0 : Int32)), .val (.int (1 : Int32)), .val (.ref aFORWARD), .val (.int (1 : Int32))] [(.int (0 : Int32)), (.int (0 : Int32))]))
      refine own_go (fun _ k => XS.icmpNo X23.here hx rfl (hb hby at_62) rfl (by decide) k) ?_
      show OwnGo p e below _ (T23.setTop (mkF m 65 #[.val (.int p1), .val (.int (0 : Int32)), .val (.int (1 : Int32)), .val (.ref aFORWARD), .val (.int (1 : Int32))] []))
      refine own_go (fun _ k => XS.iload X23.here hx rfl (hb hby at_65) rfl k) ?_
      show OwnGo p e below _ (T23.setTop (mkF m 67 #[.val (.int p1), .val (.int (0 : Int32)), .val (.int (1 : Int32)), .val (.ref aFORWARD), .val (.int (1 : Int32))] [(.int (1 : Int32))]))
      refine own_go (fun _ k => XS.iloadN X23.here hx rfl (hb hby at_67) rfl k) ?_
      show OwnGo p e below _ (T23.setTop (mkF m 68 #[.val (.int p1), .val (.int (0 : Int32)), .val (.int (1 : Int32)), .val (.ref aFORWARD), .val (.int (1 : Int32))] [(.int (1 : Int32)), (.int (1 : Int32))]))
      refine own_go (fun _ k => XS.icmpNo X23.here hx rfl (hb hby at_68) rfl (by decide) k) ?_
      show OwnGo p e below _ (T23.setTop (mkF m 71 #[.val (.int p1), .val (.int (0 : Int32)), .val (.int (1 : Int32)), .val (.ref aFORWARD), .val (.int (1 : Int32))] []))
      refine own_go (fun _ k => XS.iconst X23.here hx rfl (hb hby at_71) k) ?_
      show OwnGo p e below _ (T23.setTop (mkF m 72 #[.val (.int p1), .val (.int (0 : Int32)), .val (.int (1 : Int32)), .val (.ref aFORWARD), .val (.int (1 : Int32))] [(.int (1 : Int32))]))
      refine own_go (fun _ k => XS.goto X23.here hx rfl (pc0 := 72) (pc' := 76) rfl (hb hby at_72) (by decide) (by decide) k) ?_
      show OwnGo p e below _ (T23.setTop (mkF m 76 #[.val (.int p1), .val (.int (0 : Int32)), .val (.int (1 : Int32)), .val (.ref aFORWARD), .val (.int (1 : Int32))] [(.int (1 : Int32))]))
      obtain ⟨fs, hr, hrun, hended, hW, hsame⟩ := X23.leave (v := some (.int (1 : Int32))) (fun h => by rw [Bd.returns] at h; cases h)
      refine ⟨_, _, retOut X23 hx Bd.returns rfl (Or.inl ⟨rfl, Or.inr (Or.inl rfl), _, rfl⟩) (hb hby at_76) hr, hrun, hended, _, _, rfl, ?_, ⟨_, rfl⟩, hW, hsame.mono (by decide) (by decide)⟩
      show Q_law Z aNONE aFORWARD aBOTH aBACKWARD p1 h0 n0 _ T23.heap _
      rw [K23]
      exact ⟨rfl, N23⟩
  · refine own_go (fun _ k => XS.ifNo X0.here hx rfl (hb hby at_3) rfl ((if0 _ _).trans (feq hc15).1) k) ?_
    show OwnGo p e below _ (s₁.setTop (mkF m 6 #[.val (.int p1), .unset, .unset, .unset, .unset] []))
    refine own_go (fun _ k => XS.iconst X0.here hx rfl (hb hby at_6) k) ?_
    show OwnGo p e below _ (s₁.setTop (mkF m 7 #[.val (.int p1), .unset, .unset, .unset, .unset] [(.int (1 : Int32))]))
    refine own_go (fun _ k => XS.goto X0.here hx rfl (pc0 := 7) (pc' := 11) rfl (hb hby at_7) (by decide) (by decide) k) ?_
    show OwnGo p e below _ (s₁.setTop (mkF m 11 #[.val (.int p1), .unset, .unset, .unset, .unset] [(.int (1 : Int32))]))
    refine own_go (fun _ k => XS.istoreN X0.here hx rfl (hb hby at_11) rfl (l' := #[.val (.int p1), .val (.int (1 : Int32)), .unset, .unset, .unset]) rfl k) ?_
    show OwnGo p e below _ (s₁.setTop (mkF m 12 #[.val (.int p1), .val (.int (1 : Int32)), .unset, .unset, .unset] []))
    refine own_go (fun _ k => XS.iloadN X0.here hx rfl (hb hby at_12) rfl k) ?_
    show OwnGo p e below _ (s₁.setTop (mkF m 13 #[.val (.int p1), .val (.int (1 : Int32)), .unset, .unset, .unset] [(.int p1)]))
    refine own_go (fun _ k => XS.iconst X0.here hx rfl (hb hby at_13) k) ?_
    show OwnGo p e below _ (s₁.setTop (mkF m 14 #[.val (.int p1), .val (.int (1 : Int32)), .unset, .unset, .unset] [(.int (2 : Int32)), (.int p1)]))
    refine own_go (fun _ k => XS.iand X0.here hx rfl (hb hby at_14) rfl k) ?_
    show OwnGo p e below _ (s₁.setTop (mkF m 15 #[.val (.int p1), .val (.int (1 : Int32)), .unset, .unset, .unset] [(.int (p1 &&& (2 : Int32)))]))
    by_cases hc24 : (p1 &&& (2 : Int32)) = (0 : Int32)
    · refine own_go (fun _ k => XS.ifYes X0.here hx rfl (pc0 := 15) (pc' := 22) rfl (hb hby at_15) rfl ((if0 _ _).trans (teq hc24).1) (by decide) (by decide) k) ?_
      show OwnGo p e below _ (s₁.setTop (mkF m 22 #[.val (.int p1), .val (.int (1 : Int32)), .unset, .unset, .unset] []))
      refine own_go (fun _ k => XS.iconst X0.here hx rfl (hb hby at_22) k) ?_
      show OwnGo p e below _ (s₁.setTop (mkF m 23 #[.val (.int p1), .val (.int (1 : Int32)), .unset, .unset, .unset] [(.int (0 : Int32))]))
      refine own_go (fun _ k => XS.istoreN X0.here hx rfl (hb hby at_23) rfl (l' := #[.val (.int p1), .val (.int (1 : Int32)), .val (.int (0 : Int32)), .unset, .unset]) rfl k) ?_
      show OwnGo p e below _ (s₁.setTop (mkF m 24 #[.val (.int p1), .val (.int (1 : Int32)), .val (.int (0 : Int32)), .unset, .unset] []))
      refine own_go (fun _ k => XS.iloadN X0.here hx rfl (hb hby at_24) rfl k) ?_
      show OwnGo p e below _ (s₁.setTop (mkF m 25 #[.val (.int p1), .val (.int (1 : Int32)), .val (.int (0 : Int32)), .unset, .unset] [(.int (1 : Int32))]))
      refine own_go (fun _ k => XS.iloadN X0.here hx rfl (hb hby at_25) rfl k) ?_
      show OwnGo p e below _ (s₁.setTop (mkF m 26 #[.val (.int p1), .val (.int (1 : Int32)), .val (.int (0 : Int32)), .unset, .unset] [(.int (0 : Int32)), (.int (1 : Int32))]))
      obtain ⟨_, _, ⟨T25, L25, k25, n25⟩, -, X25, ⟨Lc25, hQ25, l25, y25, z25⟩, st25⟩ := Jvm.LawKit.callS X0 hx (y := (⟨"com/example/lachesis/lachesis/diff/Breaks", "of", "(ZZ)Lcom/example/lachesis/lachesis/diff/Breaks;"⟩ : MethodName)) hown (mvT hZ (hw _ (List.mem_of_getElem? (i := 0) rfl))) (mvT hZ (hw _ (List.mem_of_getElem? (i := 1) rfl))) (mvT hZ (hw _ (List.mem_of_getElem? (i := 2) rfl))) (mvT hZ (hw _ (List.mem_of_getElem? (i := 3) rfl))) (by decide) (backOf (W := 0) (rm_of l Z a0 hw [] aNONE aFORWARD aBOTH aBACKWARD F0 (1 : Int32) (0 : Int32) aBACKWARD h0 n0 O0 (by simp)) hZ (hw _ (List.mem_of_getElem? (i := 3) rfl)) (hw _ (List.mem_of_getElem? (i := 2) rfl)) (by decide) (by decide)) (g := (mkF m 26 #[.val (.int p1), .val (.int (1 : Int32)), .val (.int (0 : Int32)), .unset, .unset] [(.int (0 : Int32)), (.int (1 : Int32))])) rfl (by rw [hml]; rfl) (argsL := [(.int (1 : Int32)), (.int (0 : Int32))]) (rest := []) (lenOf pd_Z_Z__Lcom_example_lachesis_lachesis_diff_Breaks_ rfl) rfl (by show 2 * 0 + _ ≤ _; exact Nat.le_of_eq rfl) (hb hby at_26) (fun _ _ => ⟨rfl, e0, (by decide : 0 + 0 ≤ _), (by decide : 0 + 0 ≤ _)⟩)
      dsimp only [Pt.U, Pt.locs, Pt.cells, Pt.slots] at X25 l25 y25 z25 st25 hQ25
      subst l25 y25 z25
      obtain ⟨rfl, Nq25, K25⟩ := hQ25
      have N25 := Fr.app N0 Nq25
      refine own_go st25 ?_
      show OwnGo p e below _ (T25.setTop (mkF m 29 #[.val (.int p1), .val (.int (1 : Int32)), .val (.int (0 : Int32)), .unset, .unset] [(.ref aBACKWARD)]))
      refine own_go (fun _ k => XS.astoreN X25.here hx rfl (hb hby at_29) rfl rfl (l' := #[.val (.int p1), .val (.int (1 : Int32)), .val (.int (0 : Int32)), .val (.ref aBACKWARD), .unset]) rfl k) ?_
      show OwnGo p e below _ (T25.setTop (mkF m 30 #[.val (.int p1), .val (.int (1 : Int32)), .val (.int (0 : Int32)), .val (.ref aBACKWARD), .unset] []))
      refine own_go (fun _ k => XS.aloadN X25.here hx rfl (hb hby at_30) rfl rfl k) ?_
      show OwnGo p e below _ (T25.setTop (mkF m 31 #[.val (.int p1), .val (.int (1 : Int32)), .val (.int (0 : Int32)), .val (.ref aBACKWARD), .unset] [(.ref aBACKWARD)]))
      refine own_go (fun _ k => XS.ifnonnullYes X25.here hx rfl (pc0 := 31) (pc' := 36) rfl (hb hby at_31) rfl (by decide) (by decide) k) ?_
      show OwnGo p e below _ (T25.setTop (mkF m 36 #[.val (.int p1), .val (.int (1 : Int32)), .val (.int (0 : Int32)), .val (.ref aBACKWARD), .unset] []))
      refine own_go (fun _ k => XS.aloadN X25.here hx rfl (hb hby at_36) rfl rfl k) ?_
      show OwnGo p e below _ (T25.setTop (mkF m 37 #[.val (.int p1), .val (.int (1 : Int32)), .val (.int (0 : Int32)), .val (.ref aBACKWARD), .unset] [(.ref aBACKWARD)]))
      obtain ⟨T26, X26, e26, st26⟩ := getS X25 hx hZ hown (host := "") (hw _ (List.mem_of_getElem? (i := 6) rfl)) Via.refl K25 (F0.2.2.1.ext O0.2) (g := (mkF m 37 #[.val (.int p1), .val (.int (1 : Int32)), .val (.int (0 : Int32)), .val (.ref aBACKWARD), .unset] [(.ref aBACKWARD)])) rfl (hb hby at_37)
      refine own_go st26 ?_
      show OwnGo p e below _ (T26.setTop (mkF m 40 #[.val (.int p1), .val (.int (1 : Int32)), .val (.int (0 : Int32)), .val (.ref aBACKWARD), .unset] [(.ref aFORWARD), (.ref aBACKWARD)]))
      refine own_go (fun _ k => acmp X26 hx rfl (cd := .eq) (o := 10) (x := (.ref aBACKWARD)) (y := (.ref aFORWARD)) (pc0 := 40) (pc' := 43) rfl rfl rfl (hb hby at_40) rfl (own_refne (Fld.ne F0.2.2.2.2.2.2.2.2.2.2.2 F0.2.2.2.2.2.1 (by simp))) (by decide) (by decide) k) ?_
      show OwnGo p e below _ (T26.setTop (mkF m 43 #[.val (.int p1), .val (.int (1 : Int32)), .val (.int (0 : Int32)), .val (.ref aBACKWARD), .unset] []))
      refine own_go (fun _ k => XS.aloadN X26.here hx rfl (hb hby at_43) rfl rfl k) ?_
      show OwnGo p e below _ (T26.setTop (mkF m 44 #[.val (.int p1), .val (.int (1 : Int32)), .val (.int (0 : Int32)), .val (.ref aBACKWARD), .unset] [(.ref aBACKWARD)]))
      obtain ⟨T27, X27, e27, st27⟩ := getS X26 hx hZ hown (host := "") (hw _ (List.mem_of_getElem? (i := 8) rfl)) Via.refl e26 (F0.2.2.2.2.2.2.1.ext O0.2) (g := (mkF m 44 #[.val (.int p1), .val (.int (1 : Int32)), .val (.int (0 : Int32)), .val (.ref aBACKWARD), .unset] [(.ref aBACKWARD)])) rfl (hb hby at_44)
      refine own_go st27 ?_
      show OwnGo p e below _ (T27.setTop (mkF m 47 #[.val (.int p1), .val (.int (1 : Int32)), .val (.int (0 : Int32)), .val (.ref aBACKWARD), .unset] [(.ref aBOTH), (.ref aBACKWARD)]))
      refine own_go (fun _ k => acmp X27 hx rfl (cd := .ne) (o := 7) (x := (.ref aBACKWARD)) (y := (.ref aBOTH)) (pc0 := 47) (pc' := 54) rfl rfl rfl (hb hby at_47) rfl (own_refne (Fld.ne F0.2.2.2.2.2.2.2.2.2.2.2 F0.2.2.2.2.2.2.2.2.1 (by simp))) (by decide) (by decide) k) ?_
      show OwnGo p e below _ (T27.setTop (mkF m 54 #[.val (.int p1), .val (.int (1 : Int32)), .val (.int (0 : Int32)), .val (.ref aBACKWARD), .unset] []))
      refine own_go (fun _ k => XS.iconst X27.here hx rfl (hb hby at_54) k) ?_
      show OwnGo p e below _ (T27.setTop (mkF m 55 #[.val (.int p1), .val (.int (1 : Int32)), .val (.int (0 : Int32)), .val (.ref aBACKWARD), .unset] [(.int (0 : Int32))]))
      refine own_go (fun _ k => XS.istore X27.here hx rfl (hb hby at_55) rfl (l' := #[.val (.int p1), .val (.int (1 : Int32)), .val (.int (0 : Int32)), .val (.ref aBACKWARD), .val (.int (0 : Int32))]) rfl k) ?_
      show OwnGo p e below _ (T27.setTop (mkF m 57 #[.val (.int p1), .val (.int (1 : Int32)), .val (.int (0 : Int32)), .val (.ref aBACKWARD), .val (.int (0 : Int32))] []))
      refine own_go (fun _ k => XS.aloadN X27.here hx rfl (hb hby at_57) rfl rfl k) ?_
      show OwnGo p e below _ (T27.setTop (mkF m 58 #[.val (.int p1), .val (.int (1 : Int32)), .val (.int (0 : Int32)), .val (.ref aBACKWARD), .val (.int (0 : Int32))] [(.ref aBACKWARD)]))
      obtain ⟨cq28, kq28, qa28, qb28, qc28⟩ := isOf hZ e27 (F0.2.2.2.2.2.2.2.2.2.2.1.ext O0.2)
      obtain ⟨_, _, ⟨T28, L28, k28, n28⟩, -, X28, ⟨Lc28, hQ28, l28, y28, z28⟩, st28⟩ := X27.virtualBack hx (y := (⟨"com/example/lachesis/lachesis/diff/Breaks", "breaksOld", "()Z"⟩ : MethodName)) (z := (⟨"com/example/lachesis/lachesis/diff/Breaks", "breaksOld", "()Z"⟩ : MethodName)) hown (mvT hZ (hw _ (List.mem_of_getElem? (i := 10) rfl))) (mvT hZ (hw _ (List.mem_of_getElem? (i := 11) rfl))) (notFace_of_selects (args := #[]) (mvT hZ (hw _ (List.mem_of_getElem? (i := 13) rfl)))) (mvT hZ (hw _ (List.mem_of_getElem? (i := 13) rfl))) (mvT hZ (hw _ (List.mem_of_getElem? (i := 12) rfl))) (by decide) (backOf (W := 0) (rm_oldBACKWARD l Z a0 hw [] aNONE aFORWARD aBOTH aBACKWARD F0 h0 n0 O0) hZ (hw _ (List.mem_of_getElem? (i := 14) rfl)) (hw _ (List.mem_of_getElem? (i := 2) rfl)) (by decide) (by decide)) qa28 qc28 (g := (mkF m 58 #[.val (.int p1), .val (.int (1 : Int32)), .val (.int (0 : Int32)), .val (.ref aBACKWARD), .val (.int (0 : Int32))] [(.ref aBACKWARD)])) rfl (by rw [hml]; rfl) (Steps.refl _) (argsL := []) (rest := []) (lenOf pd___Z rfl) rfl (by show 2 * 0 + _ ≤ _; exact Nat.le_of_eq rfl) (hb hby at_58) (fun _ _ => ⟨rfl, e27, (by decide : 0 + 0 ≤ _), (by decide : 0 + 0 ≤ _)⟩)
      dsimp only [Pt.U, Pt.locs, Pt.cells, Pt.slots] at X28 l28 y28 z28 st28 hQ28
      subst l28 y28 z28
      obtain ⟨rfl, Nq28, K28⟩ := hQ28
      have N28 := Fr.app N25 Nq28
      refine own_go (fun _ k => st28.trans k) ?_
      show OwnGo p e below _ (T28.setTop (mkF m 61 #[.val (.int p1), .val (.int (1 : Int32)), .val (.int (0 : Int32)), .val (.ref aBACKWARD), .val (.int (0 : Int32))] [(.int (1 : Int32))]))
      refine own_go (fun _ k => XS.iloadN X28.here hx rfl (hb hby at_61) rfl k) ?_
      show OwnGo p e below _ (T28.setTop (mkF m 62 #[.val (.int p1), .val (.int (1 : Int32)), .val (.int (0 : Int32)), .val (.ref aBACKWARD), .val (.int (0 : Int32))] [(.int (1 : Int32)), (.int (1 : Int32))]))
      refine own_go (fun _ k => XS.icmpNo X28.here hx rfl (hb hby at_62) rfl (by decide) k) ?_
      show OwnGo p e below _ (T28.setTop (mkF m 65 #[.val (.int p1), .val (.int (1 : Int32)), .val (.int (0 : Int32)), .val (.ref aBACKWARD), .val (.int (0 : Int32))] []))
      refine own_go (fun _ k => XS.iload X28.here hx rfl (hb hby at_65) rfl k) ?_
      show OwnGo p e below _ (T28.setTop (mkF m 67 #[.val (.int p1), .val (.int (1 : Int32)), .val (.int (0 : Int32)), .val (.ref aBACKWARD), .val (.int (0 : Int32))] [(.int (0 : Int32))]))
      refine own_go (fun _ k => XS.iloadN X28.here hx rfl (hb hby at_67) rfl k) ?_
      show OwnGo p e below _ (T28.setTop (mkF m 68 #[.val (.int p1), .val (.int (1 : Int32)), .val (.int (0 : Int32)), .val (.ref aBACKWARD), .val (.int (0 : Int32))] [(.int (0 : Int32)), (.int (0 : Int32))]))
      refine own_go (fun _ k => XS.icmpNo X28.here hx rfl (hb hby at_68) rfl (by decide) k) ?_
      show OwnGo p e below _ (T28.setTop (mkF m 71 #[.val (.int p1), .val (.int (1 : Int32)), .val (.int (0 : Int32)), .val (.ref aBACKWARD), .val (.int (0 : Int32))] []))
      refine own_go (fun _ k => XS.iconst X28.here hx rfl (hb hby at_71) k) ?_
      show OwnGo p e below _ (T28.setTop (mkF m 72 #[.val (.int p1), .val (.int (1 : Int32)), .val (.int (0 : Int32)), .val (.ref aBACKWARD), .val (.int (0 : Int32))] [(.int (1 : Int32))]))
      refine own_go (fun _ k => XS.goto X28.here hx rfl (pc0 := 72) (pc' := 76) rfl (hb hby at_72) (by decide) (by decide) k) ?_
      show OwnGo p e below _ (T28.setTop (mkF m 76 #[.val (.int p1), .val (.int (1 : Int32)), .val (.int (0 : Int32)), .val (.ref aBACKWARD), .val (.int (0 : Int32))] [(.int (1 : Int32))]))
      obtain ⟨fs, hr, hrun, hended, hW, hsame⟩ := X28.leave (v := some (.int (1 : Int32))) (fun h => by rw [Bd.returns] at h; cases h)
      refine ⟨_, _, retOut X28 hx Bd.returns rfl (Or.inl ⟨rfl, Or.inr (Or.inl rfl), _, rfl⟩) (hb hby at_76) hr, hrun, hended, _, _, rfl, ?_, ⟨_, rfl⟩, hW, hsame.mono (by decide) (by decide)⟩
      show Q_law Z aNONE aFORWARD aBOTH aBACKWARD p1 h0 n0 _ T28.heap _
      rw [K28]
      exact ⟨rfl, N28⟩
    · refine own_go (fun _ k => XS.ifNo X0.here hx rfl (hb hby at_15) rfl ((if0 _ _).trans (feq hc24).1) k) ?_
      show OwnGo p e below _ (s₁.setTop (mkF m 18 #[.val (.int p1), .val (.int (1 : Int32)), .unset, .unset, .unset] []))
      refine own_go (fun _ k => XS.iconst X0.here hx rfl (hb hby at_18) k) ?_
      show OwnGo p e below _ (s₁.setTop (mkF m 19 #[.val (.int p1), .val (.int (1 : Int32)), .unset, .unset, .unset] [(.int (1 : Int32))]))
      refine own_go (fun _ k => XS.goto X0.here hx rfl (pc0 := 19) (pc' := 23) rfl (hb hby at_19) (by decide) (by decide) k) ?_
      show OwnGo p e below _ (s₁.setTop (mkF m 23 #[.val (.int p1), .val (.int (1 : Int32)), .unset, .unset, .unset] [(.int (1 : Int32))]))
      refine own_go (fun _ k => XS.istoreN X0.here hx rfl (hb hby at_23) rfl (l' := #[.val (.int p1), .val (.int (1 : Int32)), .val (.int (1 : Int32)), .unset, .unset]) rfl k) ?_
      show OwnGo p e below _ (s₁.setTop (mkF m 24 #[.val (.int p1), .val (.int (1 : Int32)), .val (.int (1 : Int32)), .unset, .unset] []))
      refine own_go (fun _ k => XS.iloadN X0.here hx rfl (hb hby at_24) rfl k) ?_
      show OwnGo p e below _ (s₁.setTop (mkF m 25 #[.val (.int p1), .val (.int (1 : Int32)), .val (.int (1 : Int32)), .unset, .unset] [(.int (1 : Int32))]))
      refine own_go (fun _ k => XS.iloadN X0.here hx rfl (hb hby at_25) rfl k) ?_
      show OwnGo p e below _ (s₁.setTop (mkF m 26 #[.val (.int p1), .val (.int (1 : Int32)), .val (.int (1 : Int32)), .unset, .unset] [(.int (1 : Int32)), (.int (1 : Int32))]))
      obtain ⟨_, _, ⟨T29, L29, k29, n29⟩, -, X29, ⟨Lc29, hQ29, l29, y29, z29⟩, st29⟩ := Jvm.LawKit.callS X0 hx (y := (⟨"com/example/lachesis/lachesis/diff/Breaks", "of", "(ZZ)Lcom/example/lachesis/lachesis/diff/Breaks;"⟩ : MethodName)) hown (mvT hZ (hw _ (List.mem_of_getElem? (i := 0) rfl))) (mvT hZ (hw _ (List.mem_of_getElem? (i := 1) rfl))) (mvT hZ (hw _ (List.mem_of_getElem? (i := 2) rfl))) (mvT hZ (hw _ (List.mem_of_getElem? (i := 3) rfl))) (by decide) (backOf (W := 0) (rm_of l Z a0 hw [] aNONE aFORWARD aBOTH aBACKWARD F0 (1 : Int32) (1 : Int32) aBOTH h0 n0 O0 (by simp)) hZ (hw _ (List.mem_of_getElem? (i := 3) rfl)) (hw _ (List.mem_of_getElem? (i := 2) rfl)) (by decide) (by decide)) (g := (mkF m 26 #[.val (.int p1), .val (.int (1 : Int32)), .val (.int (1 : Int32)), .unset, .unset] [(.int (1 : Int32)), (.int (1 : Int32))])) rfl (by rw [hml]; rfl) (argsL := [(.int (1 : Int32)), (.int (1 : Int32))]) (rest := []) (lenOf pd_Z_Z__Lcom_example_lachesis_lachesis_diff_Breaks_ rfl) rfl (by show 2 * 0 + _ ≤ _; exact Nat.le_of_eq rfl) (hb hby at_26) (fun _ _ => ⟨rfl, e0, (by decide : 0 + 0 ≤ _), (by decide : 0 + 0 ≤ _)⟩)
      dsimp only [Pt.U, Pt.locs, Pt.cells, Pt.slots] at X29 l29 y29 z29 st29 hQ29
      subst l29 y29 z29
      obtain ⟨rfl, Nq29, K29⟩ := hQ29
      have N29 := Fr.app N0 Nq29
      refine own_go st29 ?_
      show OwnGo p e below _ (T29.setTop (mkF m 29 #[.val (.int p1), .val (.int (1 : Int32)), .val (.int (1 : Int32)), .unset, .unset] [(.ref aBOTH)]))
      refine own_go (fun _ k => XS.astoreN X29.here hx rfl (hb hby at_29) rfl rfl (l' := #[.val (.int p1), .val (.int (1 : Int32)), .val (.int (1 : Int32)), .val (.ref aBOTH), .unset]) rfl k) ?_
      show OwnGo p e below _ (T29.setTop (mkF m 30 #[.val (.int p1), .val (.int (1 : Int32)), .val (.int (1 : Int32)), .val (.ref aBOTH), .unset] []))
      refine own_go (fun _ k => XS.aloadN X29.here hx rfl (hb hby at_30) rfl rfl k) ?_
      show OwnGo p e below _ (T29.setTop (mkF m 31 #[.val (.int p1), .val (.int (1 : Int32)), .val (.int (1 : Int32)), .val (.ref aBOTH), .unset] [(.ref aBOTH)]))
      refine own_go (fun _ k => XS.ifnonnullYes X29.here hx rfl (pc0 := 31) (pc' := 36) rfl (hb hby at_31) rfl (by decide) (by decide) k) ?_
      show OwnGo p e below _ (T29.setTop (mkF m 36 #[.val (.int p1), .val (.int (1 : Int32)), .val (.int (1 : Int32)), .val (.ref aBOTH), .unset] []))
      refine own_go (fun _ k => XS.aloadN X29.here hx rfl (hb hby at_36) rfl rfl k) ?_
      show OwnGo p e below _ (T29.setTop (mkF m 37 #[.val (.int p1), .val (.int (1 : Int32)), .val (.int (1 : Int32)), .val (.ref aBOTH), .unset] [(.ref aBOTH)]))
      obtain ⟨T30, X30, e30, st30⟩ := getS X29 hx hZ hown (host := "") (hw _ (List.mem_of_getElem? (i := 6) rfl)) Via.refl K29 (F0.2.2.1.ext O0.2) (g := (mkF m 37 #[.val (.int p1), .val (.int (1 : Int32)), .val (.int (1 : Int32)), .val (.ref aBOTH), .unset] [(.ref aBOTH)])) rfl (hb hby at_37)
      refine own_go st30 ?_
      show OwnGo p e below _ (T30.setTop (mkF m 40 #[.val (.int p1), .val (.int (1 : Int32)), .val (.int (1 : Int32)), .val (.ref aBOTH), .unset] [(.ref aFORWARD), (.ref aBOTH)]))
      refine own_go (fun _ k => acmp X30 hx rfl (cd := .eq) (o := 10) (x := (.ref aBOTH)) (y := (.ref aFORWARD)) (pc0 := 40) (pc' := 43) rfl rfl rfl (hb hby at_40) rfl (own_refne (Fld.ne F0.2.2.2.2.2.2.2.2.1 F0.2.2.2.2.2.1 (by simp))) (by decide) (by decide) k) ?_
      show OwnGo p e below _ (T30.setTop (mkF m 43 #[.val (.int p1), .val (.int (1 : Int32)), .val (.int (1 : Int32)), .val (.ref aBOTH), .unset] []))
      refine own_go (fun _ k => XS.aloadN X30.here hx rfl (hb hby at_43) rfl rfl k) ?_
      show OwnGo p e below _ (T30.setTop (mkF m 44 #[.val (.int p1), .val (.int (1 : Int32)), .val (.int (1 : Int32)), .val (.ref aBOTH), .unset] [(.ref aBOTH)]))
      obtain ⟨T31, X31, e31, st31⟩ := getS X30 hx hZ hown (host := "") (hw _ (List.mem_of_getElem? (i := 8) rfl)) Via.refl e30 (F0.2.2.2.2.2.2.1.ext O0.2) (g := (mkF m 44 #[.val (.int p1), .val (.int (1 : Int32)), .val (.int (1 : Int32)), .val (.ref aBOTH), .unset] [(.ref aBOTH)])) rfl (hb hby at_44)
      refine own_go st31 ?_
      show OwnGo p e below _ (T31.setTop (mkF m 47 #[.val (.int p1), .val (.int (1 : Int32)), .val (.int (1 : Int32)), .val (.ref aBOTH), .unset] [(.ref aBOTH), (.ref aBOTH)]))
      refine own_go (fun _ k => acmp X31 hx rfl (cd := .ne) (o := 7) (x := (.ref aBOTH)) (y := (.ref aBOTH)) (pc0 := 47) (pc' := 50) rfl rfl rfl (hb hby at_47) rfl (own_refeq _) (by decide) (by decide) k) ?_
      show OwnGo p e below _ (T31.setTop (mkF m 50 #[.val (.int p1), .val (.int (1 : Int32)), .val (.int (1 : Int32)), .val (.ref aBOTH), .unset] []))
      refine own_go (fun _ k => XS.iconst X31.here hx rfl (hb hby at_50) k) ?_
      show OwnGo p e below _ (T31.setTop (mkF m 51 #[.val (.int p1), .val (.int (1 : Int32)), .val (.int (1 : Int32)), .val (.ref aBOTH), .unset] [(.int (1 : Int32))]))
      refine own_go (fun _ k => XS.goto X31.here hx rfl (pc0 := 51) (pc' := 55) rfl (hb hby at_51) (by decide) (by decide) k) ?_
      show OwnGo p e below _ (T31.setTop (mkF m 55 #[.val (.int p1), .val (.int (1 : Int32)), .val (.int (1 : Int32)), .val (.ref aBOTH), .unset] [(.int (1 : Int32))]))
      refine own_go (fun _ k => XS.istore X31.here hx rfl (hb hby at_55) rfl (l' := #[.val (.int p1), .val (.int (1 : Int32)), .val (.int (1 : Int32)), .val (.ref aBOTH), .val (.int (1 : Int32))]) rfl k) ?_
      show OwnGo p e below _ (T31.setTop (mkF m 57 #[.val (.int p1), .val (.int (1 : Int32)), .val (.int (1 : Int32)), .val (.ref aBOTH), .val (.int (1 : Int32))] []))
      refine own_go (fun _ k => XS.aloadN X31.here hx rfl (hb hby at_57) rfl rfl k) ?_
      show OwnGo p e below _ (T31.setTop (mkF m 58 #[.val (.int p1), .val (.int (1 : Int32)), .val (.int (1 : Int32)), .val (.ref aBOTH), .val (.int (1 : Int32))] [(.ref aBOTH)]))
      obtain ⟨cq32, kq32, qa32, qb32, qc32⟩ := isOf hZ e31 (F0.2.2.2.2.2.2.2.1.ext O0.2)
      obtain ⟨_, _, ⟨T32, L32, k32, n32⟩, -, X32, ⟨Lc32, hQ32, l32, y32, z32⟩, st32⟩ := X31.virtualBack hx (y := (⟨"com/example/lachesis/lachesis/diff/Breaks", "breaksOld", "()Z"⟩ : MethodName)) (z := (⟨"com/example/lachesis/lachesis/diff/Breaks", "breaksOld", "()Z"⟩ : MethodName)) hown (mvT hZ (hw _ (List.mem_of_getElem? (i := 10) rfl))) (mvT hZ (hw _ (List.mem_of_getElem? (i := 11) rfl))) (notFace_of_selects (args := #[]) (mvT hZ (hw _ (List.mem_of_getElem? (i := 13) rfl)))) (mvT hZ (hw _ (List.mem_of_getElem? (i := 13) rfl))) (mvT hZ (hw _ (List.mem_of_getElem? (i := 12) rfl))) (by decide) (backOf (W := 0) (rm_oldBOTH l Z a0 hw [] aNONE aFORWARD aBOTH aBACKWARD F0 h0 n0 O0) hZ (hw _ (List.mem_of_getElem? (i := 14) rfl)) (hw _ (List.mem_of_getElem? (i := 2) rfl)) (by decide) (by decide)) qa32 qc32 (g := (mkF m 58 #[.val (.int p1), .val (.int (1 : Int32)), .val (.int (1 : Int32)), .val (.ref aBOTH), .val (.int (1 : Int32))] [(.ref aBOTH)])) rfl (by rw [hml]; rfl) (Steps.refl _) (argsL := []) (rest := []) (lenOf pd___Z rfl) rfl (by show 2 * 0 + _ ≤ _; exact Nat.le_of_eq rfl) (hb hby at_58) (fun _ _ => ⟨rfl, e31, (by decide : 0 + 0 ≤ _), (by decide : 0 + 0 ≤ _)⟩)
      dsimp only [Pt.U, Pt.locs, Pt.cells, Pt.slots] at X32 l32 y32 z32 st32 hQ32
      subst l32 y32 z32
      obtain ⟨rfl, Nq32, K32⟩ := hQ32
      have N32 := Fr.app N29 Nq32
      refine own_go (fun _ k => st32.trans k) ?_
      show OwnGo p e below _ (T32.setTop (mkF m 61 #[.val (.int p1), .val (.int (1 : Int32)), .val (.int (1 : Int32)), .val (.ref aBOTH), .val (.int (1 : Int32))] [(.int (1 : Int32))]))
      refine own_go (fun _ k => XS.iloadN X32.here hx rfl (hb hby at_61) rfl k) ?_
      show OwnGo p e below _ (T32.setTop (mkF m 62 #[.val (.int p1), .val (.int (1 : Int32)), .val (.int (1 : Int32)), .val (.ref aBOTH), .val (.int (1 : Int32))] [(.int (1 : Int32)), (.int (1 : Int32))]))
      refine own_go (fun _ k => XS.icmpNo X32.here hx rfl (hb hby at_62) rfl (by decide) k) ?_
      show OwnGo p e below _ (T32.setTop (mkF m 65 #[.val (.int p1), .val (.int (1 : Int32)), .val (.int (1 : Int32)), .val (.ref aBOTH), .val (.int (1 : Int32))] []))
      refine own_go (fun _ k => XS.iload X32.here hx rfl (hb hby at_65) rfl k) ?_
      show OwnGo p e below _ (T32.setTop (mkF m 67 #[.val (.int p1), .val (.int (1 : Int32)), .val (.int (1 : Int32)), .val (.ref aBOTH), .val (.int (1 : Int32))] [(.int (1 : Int32))]))
      refine own_go (fun _ k => XS.iloadN X32.here hx rfl (hb hby at_67) rfl k) ?_
      show OwnGo p e below _ (T32.setTop (mkF m 68 #[.val (.int p1), .val (.int (1 : Int32)), .val (.int (1 : Int32)), .val (.ref aBOTH), .val (.int (1 : Int32))] [(.int (1 : Int32)), (.int (1 : Int32))]))
      refine own_go (fun _ k => XS.icmpNo X32.here hx rfl (hb hby at_68) rfl (by decide) k) ?_
      show OwnGo p e below _ (T32.setTop (mkF m 71 #[.val (.int p1), .val (.int (1 : Int32)), .val (.int (1 : Int32)), .val (.ref aBOTH), .val (.int (1 : Int32))] []))
      refine own_go (fun _ k => XS.iconst X32.here hx rfl (hb hby at_71) k) ?_
      show OwnGo p e below _ (T32.setTop (mkF m 72 #[.val (.int p1), .val (.int (1 : Int32)), .val (.int (1 : Int32)), .val (.ref aBOTH), .val (.int (1 : Int32))] [(.int (1 : Int32))]))
      refine own_go (fun _ k => XS.goto X32.here hx rfl (pc0 := 72) (pc' := 76) rfl (hb hby at_72) (by decide) (by decide) k) ?_
      show OwnGo p e below _ (T32.setTop (mkF m 76 #[.val (.int p1), .val (.int (1 : Int32)), .val (.int (1 : Int32)), .val (.ref aBOTH), .val (.int (1 : Int32))] [(.int (1 : Int32))]))
      obtain ⟨fs, hr, hrun, hended, hW, hsame⟩ := X32.leave (v := some (.int (1 : Int32))) (fun h => by rw [Bd.returns] at h; cases h)
      refine ⟨_, _, retOut X32 hx Bd.returns rfl (Or.inl ⟨rfl, Or.inr (Or.inl rfl), _, rfl⟩) (hb hby at_76) hr, hrun, hended, _, _, rfl, ?_, ⟨_, rfl⟩, hW, hsame.mono (by decide) (by decide)⟩
      show Q_law Z aNONE aFORWARD aBOTH aBACKWARD p1 h0 n0 _ T32.heap _
      rw [K32]
      exact ⟨rfl, N32⟩
set_option maxRecDepth 65536 in
set_option maxHeartbeats 40000000 in
theorem comes_1 {Post : Tables → Env → Array Value → State → Outcome → State → Prop} (hpost : ∀ tb e args s v u, (limb_1_1.after args s (.returned v) u = true ∧ limb_1_2.after args s (.returned v) u = true ∧ True) → FrameEnd s (.returned v) u (Jvm.fieldLocs frame_1_writes args s ++ Jvm.arrayLocs frame_1_arrays args s ++ Jvm.staticLocs frame_1_statics s) 0 0 → Post tb e args s (.returned v) u) :
    ArmFor flags0 classFile x code maxLocals ret World_1 tables_1 room_1 Calls_1 rest_1 Pre_1 Post := by
  intro l hfl _ _ p e ha hc hk s m args below hf hA hF happ hP
  obtain ⟨hcalls, hrest, hpre⟩ := hP
  obtain ⟨-, -, -, hnamed, -, -, -, hat⟩ := (Spec.applies_iff hf).mp happ
  obtain ⟨hg, hn0⟩ := and_e (Cond.before_iff.mp (show (Jvm.Cond.and given_1 narrow_1).before args s = true from hpre))
  obtain ⟨h1, g0⟩ := and_e hg
  obtain ⟨w0, rfl⟩ : ∃ w0 : Value, args = #[w0] := by
    have hs : args.size = 1 := by simpa [Cond.value, given_1] using h1
    obtain ⟨L⟩ := args
    match L, hs with
    | [w0], _ => exact ⟨w0, rfl⟩
  have hw := fun d (hd : d ∈ tables_1) => atoms_spec (ws := Jvm.Cond.code x code maxLocals ret :: tables_1) hat d (List.mem_cons_of_mem _ hd)
  have hfit : Fit s := fun {y c} hc i hi => by
    obtain ⟨ha, rfl⟩ := Array.getElem?_eq_some_iff.mp hc
    have q := List.all_eq_true.mp ((Array.all_eq_true_iff_forall_mem.mp hF) _ (Array.getElem_mem ha)) i (List.mem_range.mpr hi)
    simpa [Array.getElem?_eq_getElem hi] using q
  obtain ⟨i0, ev0⟩ := is_v g0
  obtain rfl : w0 = (.int i0) := Option.some.inj ev0
  obtain ⟨c0, hn1⟩ := and_e hn0
  obtain ⟨aNONE, ev_aNONE⟩ := exa_v c0
  obtain ⟨c1, hn2⟩ := and_e hn1
  obtain ⟨aFORWARD, ev_aFORWARD⟩ := exa_v c1
  obtain ⟨c2, hn3⟩ := and_e hn2
  obtain ⟨c3, hn4⟩ := and_e hn3
  obtain ⟨c4, hn5⟩ := and_e hn4
  obtain ⟨aBOTH, ev_aBOTH⟩ := exa_v c4
  obtain ⟨c5, hn6⟩ := and_e hn5
  obtain ⟨c6, hn7⟩ := and_e hn6
  obtain ⟨aBACKWARD, ev_aBACKWARD⟩ := exa_v c6
  have F0 : OwnFacts s aNONE aFORWARD aBOTH aBACKWARD := ⟨(Sta.start ev_aNONE (Or.inr ⟨(hw _ (List.mem_of_getElem? (i := 2) rfl)), (hw _ (List.mem_of_getElem? (i := 5) rfl))⟩)), (Exa.start ev_aNONE c0), (Sta.start ev_aFORWARD (Or.inr ⟨(hw _ (List.mem_of_getElem? (i := 2) rfl)), (hw _ (List.mem_of_getElem? (i := 7) rfl))⟩)), (Exa.start ev_aFORWARD c1), (own_fldI ev_aNONE c2), (own_fldI ev_aFORWARD c3), (Sta.start ev_aBOTH (Or.inr ⟨(hw _ (List.mem_of_getElem? (i := 2) rfl)), (hw _ (List.mem_of_getElem? (i := 9) rfl))⟩)), (Exa.start ev_aBOTH c4), (own_fldI ev_aBOTH c5), (Sta.start ev_aBACKWARD (Or.inr ⟨(hw _ (List.mem_of_getElem? (i := 2) rfl)), (hw _ (List.mem_of_getElem? (i := 16) rfl))⟩)), (Exa.start ev_aBACKWARD c6), (own_fldI ev_aBACKWARD hn7)⟩
  obtain ⟨n, o, h1, h2, h3, _, L, rfl, ⟨rfl, N⟩, hq⟩ := rm_law l s _ hw tables_1 aNONE aFORWARD aBOTH aBACKWARD F0 i0 s.heap s.heap.size (Old.start s) p e ha hc hk s m _ below hf ((Spec.applies_iff_loose hf).mp happ).1 ⟨rfl, State.Warmed39.refl s, rfl⟩ trivial
  refine ⟨n, _, h1, h2, h3, hpost _ _ _ _ _ _ ⟨Cond.after_iff.mpr rfl, Cond.after_iff.mpr (eq_i res_at (Term.int_eval (1)) rfl), trivial⟩ ⟨hq.1, hq.2.1, (hq.2.2.sift fun y hy => Or.inr (N y hy)).mono (by decide) (by decide)⟩⟩
theorem main_1_1 : Claimed_1_1 := comes_1 fun _ _ _ _ _ _ h hF => ⟨h.1, hF⟩
theorem main_1_2 : Claimed_1_2 := comes_1 fun _ _ _ _ _ _ h hF => ⟨h.2.1, hF⟩
end Jvm.Pilot.@@N@@
namespace Jvm.Pilot.@@N@@
open Jvm Jvm.ClassFile Sem Op Lib Jvm.Free Jvm.Stand Jvm.Pilot.@@N@@.Jvm.D
/-! MADE BY PROGRAM (witnessworld.py) out of the Statement's table words and the real class files: 12 classes; the members and pool entries that the words name. The judged class is class 1, her method 1. -/
namespace start1
open Jvm.ClassFile
def u (s : String) : CpInfo := .utf8 (stringToUtf16 s)
/-- a pool by its gaps: so many unusable entries, then the entry; so many at the end -/
def gap : Nat → List CpInfo → List CpInfo
  | 0, r => r
  | n + 1, r => .unusable :: gap n r
def poolList (es : List (Nat × CpInfo)) (last : Nat) : List CpInfo := es.foldr (fun e r => gap e.1 (e.2 :: r)) (gap last [])
def pool (es : List (Nat × CpInfo)) (last : Nat) : Array CpInfo := ⟨poolList es last⟩
def fileOf (pool : Array CpInfo) (this : Nat) (attrs : Array Attribute := #[]) (ms : Array MethodInfo := #[]) (fl : Nat := 33) (sup : Nat := 0) (ifs : Array Nat := #[]) (fds : Array FieldInfo := #[]) : ClassFile where
  minorVersion := 0
  majorVersion := 65
  constantPool := pool
  accessFlags := fl
  thisClass := this
  superClass := sup
  interfaces := ifs
  fields := fds
  methods := ms
  attributes := attrs
def plain (name : String) (sup : Option ClassId) : Class where
  name := name
  kind := .ordinary
  loader := none
  accessFlags := 33
  super := sup
  interfaces := #[]
  cf := none
  fields := #[]
  methods := #[]
  instanceTypes := #[]
  staticTypes := #[]
  resolved := #[]
  callSites := []
  init := .initialized
  statics := none
  mirror := none

def pool0 : Array CpInfo := pool [(5, u "<init>"), (0, u "()V"), (1, .class_ 10), (1, u "java/lang/Object")] 113

def k0m0 : Method := { name := "<init>", desc := "()V", sig := { parameters := [], returnType := none }, accessFlags := 1, code := none }
/-- java/lang/Object -/
def k0 : Class := { plain "java/lang/Object" none with
  accessFlags := 33
  interfaces := #[]
  cf := some (fileOf pool0 8 #[] #[{ accessFlags := 1, nameIndex := 5, descriptorIndex := 6, attributes := #[] }] 33 0 #[] #[])
  fields := #[]
  methods := #[k0m0]
  instanceTypes := #[]
  staticTypes := #[]
  resolved := Array.replicate 124 none
  statics := none }

def pool1 : Array CpInfo := pool [(2, .class_ 4), (1, u "java/lang/Object"), (0, u "<init>"), (0, u "()V"), (0, .methodref 8 9), (0, .class_ 10), (0, .nameAndType 11 12), (0, u "com/example/lachesis/lachesis/diff/Breaks"), (0, u "of"), (0, u "(ZZ)Lcom/example/lachesis/lachesis/diff/Breaks;"), (0, .fieldref 8 14), (0, .nameAndType 15 16), (0, u "FORWARD"), (0, u "Lcom/example/lachesis/lachesis/diff/Breaks;"), (0, .fieldref 8 18), (0, .nameAndType 19 16), (0, u "BOTH"), (0, .methodref 8 21), (0, .nameAndType 22 23), (0, u "breaksOld"), (0, u "()Z"), (0, .class_ 25), (0, u "com/example/lachesis/lachesis/diff/BreaksOfPinLaw"), (2, u "law"), (0, u "(I)Z")] 3

def k1m0 : Method := { name := "<init>", desc := "()V", sig := { parameters := [], returnType := none }, accessFlags := 1, code := none }
def k1c1 : Code := { maxStack := 2, maxLocals := 5, code := code, exceptionTable := #[], attributes := #[] }
def k1m1 : Method := { name := "law", desc := "(I)Z", sig := { parameters := [.int], returnType := some .boolean }, accessFlags := 9, code := some k1c1 }
/-- com/example/lachesis/lachesis/diff/BreaksOfPinLaw -/
def k1 : Class := { plain "com/example/lachesis/lachesis/diff/BreaksOfPinLaw" (some 0) with
  accessFlags := 49
  interfaces := #[]
  cf := some (fileOf pool1 24 #[] #[{ accessFlags := 1, nameIndex := 5, descriptorIndex := 6, attributes := #[] }, { accessFlags := 9, nameIndex := 28, descriptorIndex := 29, attributes := #[] }] 49 2 #[] #[])
  fields := #[]
  methods := #[k1m0, k1m1]
  instanceTypes := #[]
  staticTypes := #[]
  resolved := Array.replicate 33 none
  statics := none }

def pool2 : Array CpInfo := pool [(1, .class_ 2), (0, u "java/lang/constant/Constable"), (0, .class_ 4), (0, u "java/lang/Object")] 6

/-- java/lang/constant/Constable -/
def k2 : Class := { plain "java/lang/constant/Constable" (some 0) with
  accessFlags := 1537
  interfaces := #[]
  cf := some (fileOf pool2 1 #[] #[] 1537 3 #[] #[])
  fields := #[]
  methods := #[]
  instanceTypes := #[]
  staticTypes := #[]
  resolved := Array.replicate 11 none
  statics := none }

def pool3 : Array CpInfo := pool [(1, .class_ 2), (0, u "java/lang/Comparable"), (0, .class_ 4), (0, u "java/lang/Object")] 7

/-- java/lang/Comparable -/
def k3 : Class := { plain "java/lang/Comparable" (some 0) with
  accessFlags := 1537
  interfaces := #[]
  cf := some (fileOf pool3 1 #[] #[] 1537 3 #[] #[])
  fields := #[]
  methods := #[]
  instanceTypes := #[]
  staticTypes := #[]
  resolved := Array.replicate 12 none
  statics := none }

def pool4 : Array CpInfo := pool [(1, .class_ 2), (0, u "java/io/Serializable"), (0, .class_ 4), (0, u "java/lang/Object")] 2

/-- java/io/Serializable -/
def k4 : Class := { plain "java/io/Serializable" (some 0) with
  accessFlags := 1537
  interfaces := #[]
  cf := some (fileOf pool4 1 #[] #[] 1537 3 #[] #[])
  fields := #[]
  methods := #[]
  instanceTypes := #[]
  staticTypes := #[]
  resolved := Array.replicate 7 none
  statics := none }

def pool5 : Array CpInfo := pool [(2, .class_ 4), (1, u "java/lang/Enum"), (0, u "name"), (0, u "Ljava/lang/String;"), (2, u "ordinal"), (0, u "I"), (1, .class_ 14), (1, u "java/lang/Object"), (4, u "hash"), (86, .class_ 108), (1, u "java/lang/Enum$EnumDesc"), (2, .class_ 112), (0, u "java/lang/constant/Constable"), (0, .class_ 114), (0, u "java/lang/Comparable"), (0, .class_ 116), (0, u "java/io/Serializable")] 87

/-- java/lang/Enum -/
def k5 : Class := { plain "java/lang/Enum" (some 0) with
  accessFlags := 1057
  interfaces := #[2, 3, 4]
  cf := some (fileOf pool5 2 #[.nestMembers #[106]] #[] 1057 12 #[111, 113, 115] #[{ accessFlags := 18, nameIndex := 5, descriptorIndex := 6, attributes := #[] }, { accessFlags := 18, nameIndex := 9, descriptorIndex := 10, attributes := #[] }, { accessFlags := 2, nameIndex := 19, descriptorIndex := 10, attributes := #[] }])
  fields := #[{ name := "name", type := (.object "java/lang/String"), accessFlags := 18, slot := 0, constantValue := 0 }, { name := "ordinal", type := .int, accessFlags := 18, slot := 1, constantValue := 0 }, { name := "hash", type := .int, accessFlags := 2, slot := 2, constantValue := 0 }]
  methods := #[]
  instanceTypes := #[(.object "java/lang/String"), .int, .int]
  staticTypes := #[]
  resolved := Array.replicate 204 none
  statics := none }

def pool6 : Array CpInfo := pool [(1, .class_ 2), (0, u "com/example/lachesis/lachesis/diff/Breaks"), (0, .fieldref 1 4), (0, .nameAndType 5 6), (0, u "NONE"), (0, u "Lcom/example/lachesis/lachesis/diff/Breaks;"), (0, .fieldref 1 8), (0, .nameAndType 9 6), (0, u "BACKWARD"), (0, .fieldref 1 11), (0, .nameAndType 12 6), (0, u "FORWARD"), (0, .fieldref 1 14), (0, .nameAndType 15 6), (0, u "BOTH"), (2, u "$VALUES"), (0, u "[Lcom/example/lachesis/lachesis/diff/Breaks;"), (6, .class_ 28), (1, u "java/lang/Enum"), (38, u "of"), (0, u "(ZZ)Lcom/example/lachesis/lachesis/diff/Breaks;"), (1, u "breaksOld"), (0, u "()Z")] 5

def k6c0 : Code := { maxStack := 1, maxLocals := 2, code := prog_17_method_4_code, exceptionTable := #[], attributes := #[] }
def k6m0 : Method := { name := "of", desc := "(ZZ)Lcom/example/lachesis/lachesis/diff/Breaks;", sig := { parameters := [.boolean, .boolean], returnType := some (.object "com/example/lachesis/lachesis/diff/Breaks") }, accessFlags := 8, code := some k6c0 }
def k6c1 : Code := { maxStack := 2, maxLocals := 1, code := prog_17_method_5_code, exceptionTable := #[], attributes := #[] }
def k6m1 : Method := { name := "breaksOld", desc := "()Z", sig := { parameters := [], returnType := some .boolean }, accessFlags := 1, code := some k6c1 }
/-- com/example/lachesis/lachesis/diff/Breaks -/
def k6 : Class := { plain "com/example/lachesis/lachesis/diff/Breaks" (some 5) with
  accessFlags := 16433
  interfaces := #[]
  cf := some (fileOf pool6 1 #[] #[{ accessFlags := 8, nameIndex := 67, descriptorIndex := 68, attributes := #[] }, { accessFlags := 1, nameIndex := 70, descriptorIndex := 71, attributes := #[] }] 16433 26 #[] #[{ accessFlags := 16409, nameIndex := 5, descriptorIndex := 6, attributes := #[] }, { accessFlags := 16409, nameIndex := 9, descriptorIndex := 6, attributes := #[] }, { accessFlags := 16409, nameIndex := 12, descriptorIndex := 6, attributes := #[] }, { accessFlags := 16409, nameIndex := 15, descriptorIndex := 6, attributes := #[] }, { accessFlags := 4122, nameIndex := 18, descriptorIndex := 19, attributes := #[] }])
  fields := #[{ name := "NONE", type := (.object "com/example/lachesis/lachesis/diff/Breaks"), accessFlags := 16409, slot := 0, constantValue := 0 }, { name := "BACKWARD", type := (.object "com/example/lachesis/lachesis/diff/Breaks"), accessFlags := 16409, slot := 1, constantValue := 0 }, { name := "FORWARD", type := (.object "com/example/lachesis/lachesis/diff/Breaks"), accessFlags := 16409, slot := 2, constantValue := 0 }, { name := "BOTH", type := (.object "com/example/lachesis/lachesis/diff/Breaks"), accessFlags := 16409, slot := 3, constantValue := 0 }, { name := "$VALUES", type := (.array (.object "com/example/lachesis/lachesis/diff/Breaks")), accessFlags := 4122, slot := 4, constantValue := 0 }]
  methods := #[k6m0, k6m1]
  instanceTypes := #[(.object "java/lang/String"), .int, .int]
  staticTypes := #[(.object "com/example/lachesis/lachesis/diff/Breaks"), (.object "com/example/lachesis/lachesis/diff/Breaks"), (.object "com/example/lachesis/lachesis/diff/Breaks"), (.object "com/example/lachesis/lachesis/diff/Breaks"), (.array (.object "com/example/lachesis/lachesis/diff/Breaks"))]
  resolved := Array.replicate 77 none
  statics := some 0 }

def pool7 : Array CpInfo := pool [(1, u "java/lang/Cloneable"), (0, .class_ 1), (0, u "java/lang/Object"), (0, .class_ 3)] 3

/-- java/lang/Cloneable -/
def k7 : Class := { plain "java/lang/Cloneable" (some 0) with
  accessFlags := 1537
  interfaces := #[]
  cf := some (fileOf pool7 2 #[] #[] 1537 4 #[] #[])
  fields := #[]
  methods := #[]
  instanceTypes := #[]
  staticTypes := #[]
  resolved := Array.replicate 8 none
  statics := none }

/-- the primitive byte -/
def k8 : Class := { plain "byte" none with kind := .primitive 'B', accessFlags := 0x411 }
/-- [B -/
def k9 : Class := { plain "[B" (some 0) with kind := .array 8 .byte, interfaces := #[7, 4], accessFlags := 1041 }

/-- the primitive int -/
def k10 : Class := { plain "int" none with kind := .primitive 'I', accessFlags := 0x411 }
/-- [I -/
def k11 : Class := { plain "[I" (some 0) with kind := .array 10 .int, interfaces := #[7, 4], accessFlags := 1041 }

def heap : Heap := #[{ cls := 6, slots := #[.ref 1, .ref 4, .ref 2, .ref 3, .null], vm := .statics 6 },
  { cls := 6, slots := #[.null, .int 0, .int 0], vm := .none },
  { cls := 6, slots := #[.null, .int 2, .int 0], vm := .none },
  { cls := 6, slots := #[.null, .int 3, .int 0], vm := .none },
  { cls := 6, slots := #[.null, .int 1, .int 0], vm := .none }]
def classes : Array Class := #[k0, k1, k2, k3, k4, k5, k6, k7, k8, k9, k10, k11]
def interned : List (Array UInt16 × Addr) := []
def slotsUsed : Nat := 17
def theMethod : MethodId := ⟨1, 1⟩
def args0 : Array Value := #[.int 5]
def aboutOver (below : List Frame) : State where
  vm := { classes := classes, interned := interned.toArray }
  heap := heap
  slotsUsed := slotsUsed
  threads := #[{ frames := .invoking theMethod args0 :: below }]
def below0 : List Frame := [.native { method := ⟨0, 0⟩, args := #[] }]
def about1 : State := aboutOver below0
def p0 : Program := .bare "" "" ""
def e0 : Env := launch0.env 0 0 0
theorem w_frames : about1.frames = Frame.invoking theMethod args0 :: below0 := rfl
set_option maxRecDepth 65536 in
theorem w_args : argsFit about1.vm theMethod args0 = true := by decide +kernel
set_option maxRecDepth 65536 in
theorem w_heap : heapFits about1 = true := by decide +kernel
set_option maxRecDepth 65536 in
theorem w_runnable : about1.curStatus? = some .runnable := by decide +kernel
set_option maxRecDepth 65536 in
theorem w_alone : about1.alone = true := by decide +kernel
set_option maxRecDepth 65536 in
theorem w_named : about1.methodNamed? x = some theMethod := by decide +kernel
set_option maxRecDepth 65536 in
theorem w_hears : about1.hears theMethod below0 = true := by decide +kernel
set_option maxRecDepth 65536 in
theorem w_ripe : about1.ripe theMethod args0 below0 = true := by decide +kernel
theorem w_running : about1.status = .running := rfl
set_option maxRecDepth 65536 in
theorem w_room : about1.hasRoom e0.platform room_1 = true :=
  launch0.hasRoom_least _ room_1 (by decide +kernel) (by decide +kernel) (by decide +kernel) (by decide +kernel) (by decide +kernel) (by decide +kernel)
theorem allAtoms_all (ts : List Jvm.Cond) (a : Array Jvm.Value) (st : Jvm.State) : (allAtoms ts).before a st = ts.all (fun c => c.before a st) := by
  induction ts with
  | nil => rfl
  | cons c t ih =>
    show (Jvm.Cond.and c (allAtoms t)).before a st = _
    rw [Jvm.Cond.before_and, ih, List.all_cons]
def words1 : List Jvm.Cond := Jvm.Cond.code x code maxLocals ret :: tables_1
/-- a 'code' word, met by the world's own term for the bytes: nothing is compared byte by byte -/
theorem code_word {y : MethodName} {bytes : ByteArray} {mx : Nat} {rt : Option FieldType} {a : Array Value} {s : State} {m : MethodId} {meth : Method} {c : Code} (h1 : s.methodNamed? y = some m) (h2 : s.vm.method? m = some meth) (h3 : meth.code = some c) (h4 : c.code = bytes)
    (h5 : (c.maxLocals == mx && c.exceptionTable.isEmpty && decide (c.maxStack ≤ mostOperands) && decide (meth.sig.returnType = rt) && !meth.locks && decide (parseMethodDescriptor y.desc = some meth.sig)) = true) : (Jvm.Cond.code y bytes mx rt).before a s = true := by
  simp only [Bool.and_eq_true, beq_iff_eq, Bool.not_eq_true', decide_eq_true_eq] at h5
  obtain ⟨⟨⟨⟨⟨g1, g2⟩, g3⟩, g4⟩, g5⟩, g6⟩ := h5
  simp [Cond.before, Cond.holds, Cond.value, h1, h2, h3, h4, g1, g2, g3, g4, g5, g6]
def isCode : Jvm.Cond → Bool
  | .code _ _ _ _ => true
  | _ => false
theorem all_split {L : List Jvm.Cond} {P : Jvm.Cond → Bool} (h1 : L.all (fun c => isCode c || P c) = true) (h2 : ∀ c ∈ L.filter isCode, P c = true) : L.all P = true := by
  refine List.all_eq_true.mpr fun c hc => ?_
  have h := List.all_eq_true.mp h1 c hc
  rcases Bool.eq_false_or_eq_true (isCode c) with hi | hi
  · exact h2 c (List.mem_filter.mpr ⟨hc, hi⟩)
  · simpa [hi] using h
set_option maxRecDepth 65536 in
theorem w_c0 : (Jvm.Cond.code x code maxLocals ret).before args0 about1 = true := code_word (m := ⟨1, 1⟩) (meth := k1m1) (c := k1c1) (by decide +kernel) rfl rfl rfl (by decide +kernel)
set_option maxRecDepth 65536 in
theorem w_c1 : (Jvm.Cond.code ({ cls := "com/example/lachesis/lachesis/diff/Breaks", name := "of", desc := "(ZZ)Lcom/example/lachesis/lachesis/diff/Breaks;" } : Jvm.MethodName) prog_17_method_4_code (2 : Nat) (Option.some (Jvm.ClassFile.FieldType.object "com/example/lachesis/lachesis/diff/Breaks"))).before args0 about1 = true := code_word (m := ⟨6, 0⟩) (meth := k6m0) (c := k6c0) (by decide +kernel) rfl rfl rfl (by decide +kernel)
set_option maxRecDepth 65536 in
theorem w_c2 : (Jvm.Cond.code ({ cls := "com/example/lachesis/lachesis/diff/Breaks", name := "breaksOld", desc := "()Z" } : Jvm.MethodName) prog_17_method_5_code (1 : Nat) (Option.some Jvm.ClassFile.FieldType.boolean)).before args0 about1 = true := code_word (m := ⟨6, 1⟩) (meth := k6m1) (c := k6c1) (by decide +kernel) rfl rfl rfl (by decide +kernel)
def codes1 : List Jvm.Cond := [Jvm.Cond.code x code maxLocals ret, Jvm.Cond.code ({ cls := "com/example/lachesis/lachesis/diff/Breaks", name := "of", desc := "(ZZ)Lcom/example/lachesis/lachesis/diff/Breaks;" } : Jvm.MethodName) prog_17_method_4_code (2 : Nat) (Option.some (Jvm.ClassFile.FieldType.object "com/example/lachesis/lachesis/diff/Breaks")), Jvm.Cond.code ({ cls := "com/example/lachesis/lachesis/diff/Breaks", name := "breaksOld", desc := "()Z" } : Jvm.MethodName) prog_17_method_5_code (1 : Nat) (Option.some Jvm.ClassFile.FieldType.boolean)]
set_option maxRecDepth 65536 in
theorem codes_eq : words1.filter isCode = codes1 := rfl
theorem w_codes : ∀ c ∈ words1.filter isCode, c.before args0 about1 = true := by
  rw [codes_eq]
  intro c hc
  simp only [codes1, List.mem_cons, List.not_mem_nil, or_false] at hc
  rcases hc with rfl | rfl | rfl
  · exact w_c0
  · exact w_c1
  · exact w_c2
set_option maxRecDepth 65536 in
theorem w_t1 : words1.all (fun c => isCode c || c.before args0 about1) = true := by decide +kernel
theorem w_tables : (allAtoms (Jvm.Cond.code x code maxLocals ret :: tables_1)).before args0 about1 = true := by
  rw [allAtoms_all]
  show words1.all (fun c => c.before args0 about1) = true
  refine all_split ?_ w_codes
  rw [w_t1]
set_option maxRecDepth 65536 in
theorem w_case : (Jvm.Cond.and given_1 narrow_1).before args0 about1 = true := by decide +kernel
theorem w_applies : (headSpec (Jvm.Cond.code x code maxLocals ret :: tables_1) room_1).applies x e0.platform about1 = true :=
  (Spec.applies_iff w_frames).mpr ⟨w_running, w_runnable, w_alone, w_named, w_hears, w_ripe, w_room, w_tables⟩
theorem atStart : AtStart classFile x code maxLocals ret World_1 tables_1 room_1 Calls_1 rest_1 Pre_1 launch0 p0 e0 about1 theMethod args0 below0 :=
  ⟨lists_1, trivial, launch0.admits_env _ _ _, launch0.least_env, fairChoices_fair.cas, fairChoices_fair.clock, w_frames, w_args, w_heap, w_applies, trivial, trivial, w_case⟩
end start1
theorem witness_1 : WitnessClaimed_1 := ⟨start1.p0, start1.e0, start1.about1, start1.theMethod, start1.args0, start1.below0, start1.atStart⟩
end Jvm.Pilot.@@N@@

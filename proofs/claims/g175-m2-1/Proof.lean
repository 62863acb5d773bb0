import JvmDerived
import JvmDerived.Pilot.@@N@@Statement
import JvmDerived.Pilot.@@N@@Code
set_option linter.unusedVariables false
set_option linter.unusedSimpArgs false
namespace Jvm.Pilot.@@N@@
open Jvm Jvm.ClassFile Sem Op Lib Jvm.Free Jvm.Stand Jvm.LawKit Jvm.RoadKit Bundle Jvm.Pilot.@@N@@.Jvm.D
/-- from the state A the body's walk comes to an end of which Q tells -/
def OwnGo (p : Program) (e : Env) (below : List Frame) (Q : Outcome → State → Prop) (A : State) : Prop :=
  ∃ s₂ o, Steps p.tables e below A s₂ ∧ s₂.status = .running ∧ Ended s₂ below o ∧ Q o s₂
theorem own_go {p : Program} {e : Env} {below : List Frame} {Q : Outcome → State → Prop} {A B : State} (st : ∀ t, Steps p.tables e below B t → Steps p.tables e below A t) (h : OwnGo p e below Q B) : OwnGo p e below Q A := by
  obtain ⟨s₂, o, h1, h2⟩ := h
  exact ⟨s₂, o, st _ h1, h2⟩
theorem own_fldI {args : Array Value} {s : State} {t : Term} {C n d : String} {k : Int32} {a : Addr} (ev : t.eval args s none [] s = some (.ref a)) (h : (Jvm.Cond.eq (Term.field t C n d) (Term.int k)).value args s none s [] = some true) : Fld s s.heap a C n d (.int k) := by
  apply Fld.start
  have q := fld_at (C := C) (n := n) (dd := d) ev
  cases hf : s.fieldOf? a C n d with
  | none => rw [hf] at q; simp [Cond.value, q] at h
  | some v => rw [hf] at q; cases v <;> simp [Cond.value, q, Term.int_eval] at h; rw [h]
theorem own_fldL {args : Array Value} {s : State} {t : Term} {C n d : String} {k : Int64} {a : Addr} (ev : t.eval args s none [] s = some (.ref a)) (h : (Jvm.Cond.eq (Term.field t C n d) (Term.long k)).value args s none s [] = some true) : Fld s s.heap a C n d (.long k) := by
  apply Fld.start
  have q := fld_at (C := C) (n := n) (dd := d) ev
  cases hf : s.fieldOf? a C n d with
  | none => rw [hf] at q; simp [Cond.value, q] at h
  | some v => rw [hf] at q; cases v <;> simp [Cond.value, q, long_at] at h; rw [h]
theorem own_refne {a b : Addr} (h : a ≠ b) : decide (Value.ref a = Value.ref b) = false := decide_eq_false fun q => h (Value.ref.inj q)
theorem own_refeq (a : Addr) : decide (Value.ref a = Value.ref a) = true := decide_eq_true rfl
theorem own_rn (a : Addr) : decide (Value.ref a = Value.null) = false := decide_eq_false fun q => by cases q
theorem own_nr (a : Addr) : decide (Value.null = Value.ref a) = false := decide_eq_false fun q => by cases q
theorem own_narb (x : Int32) : nar .byte (x.toInt8.toInt32) = x.toInt8.toInt32 := by simp [nar]
theorem own_selp {Z s : State} {a0 args : Array Value} {y : MethodName} {n : Nat} (hZ : Z.Warmed39 s.vm) (wi : (Jvm.Cond.instantiable y.cls n).before a0 Z = true) (wp : (Jvm.Cond.privateMethod y).before a0 Z = true) (wm : (Jvm.Cond.instanceMethod y).before a0 Z = true)
    (hy : y.cls ≠ "java/lang/invoke/MethodHandle" ∧ y.cls ≠ "java/lang/invoke/VarHandle") : (Jvm.Cond.selects y.cls y y).before args s = true := by
  obtain ⟨c, k, h1, h2, -, h4, -⟩ := Cond.instantiable_spec (mv hZ wi : (Jvm.Cond.instantiable y.cls n).before args s = true)
  exact selects_self_of_private h1 h2 (by revert h4; cases k.isInterface <;> simp) (Cond.privateMethod_at (mvP hZ wp (args := args))) (mv hZ wm) hy
theorem own_monoW {s : State} {o : Outcome} {t : State} {L : List Loc} {k n k' n' : Nat} (h : ReturnedEndW s o t L k n) (hk : k ≤ k') (hn : n ≤ n') : ReturnedEndW s o t L k' n' := ⟨h.1, h.2.1, h.2.2.1, h.2.2.2.mono hk hn⟩
theorem own_newlt {a b k : Nat} (q : a < k) (g : k ≤ b) : a ≠ b := Nat.ne_of_lt (Nat.lt_of_lt_of_le q g)
theorem own_sz {Z : State} {n0 : Nat} {h : Heap} (O : Old Z n0 h) : n0 ≤ h.size := O.1 ▸ O.2.1
theorem own_newne {a b : Addr} {h : Heap} (g : b = h.size) (q : a < h.size) : a ≠ b := fun z => by rw [z, g] at q; exact Nat.lt_irrefl _ q
def OwnFacts (Z : State) (aDELAYED aREDELIVERED : Addr) : Prop := (Sta Z Z.heap "com/example/exdel/exdel/Keys$Index" "DELAYED" "Lcom/example/exdel/exdel/Keys$Index;" (.ref aDELAYED)) ∧ (Exa Z Z.heap aDELAYED "com/example/exdel/exdel/Keys$Index") ∧ (Sta Z Z.heap "com/example/exdel/exdel/Keys$Index" "REDELIVERED" "Lcom/example/exdel/exdel/Keys$Index;" (.ref aREDELIVERED)) ∧ (Exa Z Z.heap aREDELIVERED "com/example/exdel/exdel/Keys$Index")
theorem d_prog_7_method_4_0 : decode prog_7_method_4_code 0 = .ok (.iload_n 0, 1) := by decide +kernel
theorem d_prog_7_method_4_1 : decode prog_7_method_4_code 1 = .ok (.ifCond .le 7, 3) := by decide +kernel
theorem d_prog_7_method_4_4 : decode prog_7_method_4_code 4 = .ok (.getstatic 7, 3) := by decide +kernel
theorem d_prog_7_method_4_7 : decode prog_7_method_4_code 7 = .ok (.areturn, 1) := by decide +kernel
theorem d_prog_7_method_4_8 : decode prog_7_method_4_code 8 = .ok (.lload_n 1, 1) := by decide +kernel
theorem d_prog_7_method_4_9 : decode prog_7_method_4_code 9 = .ok (.lconst 0, 1) := by decide +kernel
theorem d_prog_7_method_4_10 : decode prog_7_method_4_code 10 = .ok (.lcmp, 1) := by decide +kernel
theorem d_prog_7_method_4_11 : decode prog_7_method_4_code 11 = .ok (.ifCond .eq 9, 3) := by decide +kernel
theorem d_prog_7_method_4_20 : decode prog_7_method_4_code 20 = .ok (.aconst_null, 1) := by decide +kernel
theorem d_prog_7_method_4_21 : decode prog_7_method_4_code 21 = .ok (.areturn, 1) := by decide +kernel
theorem d_prog_7_method_4_14 : decode prog_7_method_4_code 14 = .ok (.getstatic 3, 3) := by decide +kernel
theorem d_prog_7_method_4_17 : decode prog_7_method_4_code 17 = .ok (.goto 4, 3) := by decide +kernel
theorem pn_com_example_exdel_exdel_Keys_Index : plainName "com/example/exdel/exdel/Keys$Index" = true := by first | (simp [plainName, overriddenIn]; done) | decide +kernel
def Q_of (Z : State) (aDELAYED aREDELIVERED : Addr) (p1 : Int32) (q2 : Int64) (r0 : Value) (h0 : Heap) (n0 : Nat) (v : Option Value) (h : Heap) (L : List Loc) : Prop := v = some r0 ∧ Fr n0 L ∧ h = h0
theorem ef_of (m : MethodId) (x0 : Int32) (x1 : Int64) : entryFrame m #[(.int x0), (.long x1)] 3 = mkF m 0 #[.val (.int x0), .val (.long x1), .second] [] := by first | (simp [entryFrame, mkF, argsToLocals, Value.category]; done) | rfl
set_option maxRecDepth 65536 in
set_option maxHeartbeats 40000000 in
theorem rm_of (l : Launch) (Z : State) (a0 : Array Value) (hw : ∀ d ∈ tables_1, d.before a0 Z = true) (ws : List Jvm.Cond) (aDELAYED aREDELIVERED : Addr) (F0 : OwnFacts Z aDELAYED aREDELIVERED) (p1 : Int32) (q2 : Int64) (r0 : Value) (h0 : Heap) (n0 : Nat) (O0 : Old Z n0 h0) (hr0 : (if (0 : Int32) < p1 then Value.ref aREDELIVERED else if q2 = (0 : Int64) then Value.null else Value.ref aDELAYED) = r0) :
    MetFree l (⟨"com/example/exdel/exdel/Keys$Index", "of", "(IJ)Lcom/example/exdel/exdel/Keys$Index;"⟩ : MethodName) (head1 (Jvm.Cond.code (⟨"com/example/exdel/exdel/Keys$Index", "of", "(IJ)Lcom/example/exdel/exdel/Keys$Index;"⟩ : MethodName) prog_7_method_4_code 3 (some (.object "com/example/exdel/exdel/Keys$Index")) :: ws) ({ frames := 0, cells := 0, slots := 0, locals := 0 } : Room)) (fun a U => a = #[(.int p1), (.long q2)] ∧ Z.Warmed39 U.vm ∧ U.heap = h0) (fun _ _ _ _ _ => True) (fun _ U o U' => ∃ v L, o = .returned v ∧ Q_of Z aDELAYED aREDELIVERED p1 q2 r0 h0 n0 v U'.heap L ∧ FrameEnd U o U' L ({ frames := 0, cells := 0, slots := 0, locals := 0 } : Room).cells ({ frames := 0, cells := 0, slots := 0, locals := 0 } : Room).slots) := by
  refine MetFree.of_bodySF (plainFor_of_name pn_com_example_exdel_exdel_Keys_Index) hisR ?_
  intro p e s m args below meth c s₁ Bd hml0 hP hK
  obtain ⟨rfl, hZ, hh⟩ := hP
  have hx := Bd.exec
  have hby := Bd.bytes
  have hml : c.maxLocals = 3 := hml0
  have hown : s.vm.findClass "com/example/exdel/exdel/Keys$Index" = some m.cls := findClass_of_methodNamed Bd.named
  have hnm := (name_of_methodNamed Bd.named Bd.method).1
  have X0 : Stand p l e ({ frames := 0, cells := 0, slots := 0, locals := 0 } : Room) s m #[(.int p1), (.long q2)] below meth c s₁ [] 0 0 := Stand.of_body Bd
  have e0 : s₁.heap = h0 := by rw [← hh, Bd.state]; rfl
  have N0 := Fr.nil n0
  refine own_go (Q := fun o U' => ∃ v L, o = .returned v ∧ Q_of Z aDELAYED aREDELIVERED p1 q2 r0 h0 n0 v U'.heap L ∧ FrameEnd s o U' L ({ frames := 0, cells := 0, slots := 0, locals := 0 } : Room).cells ({ frames := 0, cells := 0, slots := 0, locals := 0 } : Room).slots) (fun t k => castTop (ef_of m p1 q2) k) ?_
  show OwnGo p e below _ (s₁.setTop (mkF m 0 #[.val (.int p1), .val (.long q2), .second] []))
  refine own_go (fun _ k => XS.iloadN X0.here hx rfl (hb hby d_prog_7_method_4_0) rfl k) ?_
  show OwnGo p e below _ (s₁.setTop (mkF m 1 #[.val (.int p1), .val (.long q2), .second] [(.int p1)]))
  by_cases hc1 : (0 : Int32) < p1
  · refine own_go (fun _ k => XS.ifNo X0.here hx rfl (hb hby d_prog_7_method_4_1) rfl ((if0 _ _).trans (tlt hc1).2.2.2) k) ?_
    show OwnGo p e below _ (s₁.setTop (mkF m 4 #[.val (.int p1), .val (.long q2), .second] []))
    obtain ⟨T2, X2, e2, st2⟩ := getS X0 hx hZ hown (host := "") (hw _ (List.mem_of_getElem? (i := 8) rfl)) Via.refl e0 (F0.2.2.1.ext O0.2) (g := (mkF m 4 #[.val (.int p1), .val (.long q2), .second] [])) rfl (hb hby d_prog_7_method_4_4)
    refine own_go st2 ?_
    show OwnGo p e below _ (T2.setTop (mkF m 7 #[.val (.int p1), .val (.long q2), .second] [(.ref aREDELIVERED)]))
    obtain ⟨fs, hr, hrun, hended, hW, hsame⟩ := X2.leave (v := some (.ref aREDELIVERED)) (fun h => by rw [Bd.returns] at h; cases h)
    refine ⟨_, _, retOut X2 hx Bd.returns rfl (Or.inr (Or.inr (Or.inr (Or.inr ⟨rfl, rfl, rfl⟩)))) (hb hby d_prog_7_method_4_7) hr, hrun, hended, _, _, rfl, ?_, ⟨_, rfl⟩, hW, hsame.mono (by decide) (by decide)⟩
    show Q_of Z aDELAYED aREDELIVERED p1 q2 r0 h0 n0 _ T2.heap _
    rw [e2]
    exact ⟨(by rw [← hr0]; simp [hc1]), N0, rfl⟩
  · refine own_go (fun _ k => XS.ifYes X0.here hx rfl (pc0 := 1) (pc' := 8) rfl (hb hby d_prog_7_method_4_1) rfl ((if0 _ _).trans (flt hc1).2.2.2) (by decide) (by decide) k) ?_
    show OwnGo p e below _ (s₁.setTop (mkF m 8 #[.val (.int p1), .val (.long q2), .second] []))
    refine own_go (fun _ k => XS.lloadN X0.here hx rfl (hb hby d_prog_7_method_4_8) rfl k) ?_
    show OwnGo p e below _ (s₁.setTop (mkF m 9 #[.val (.int p1), .val (.long q2), .second] [(.long q2)]))
    refine own_go (fun _ k => XS.lconst X0.here hx rfl (hb hby d_prog_7_method_4_9) k) ?_
    show OwnGo p e below _ (s₁.setTop (mkF m 10 #[.val (.int p1), .val (.long q2), .second] [(.long (0 : Int64)), (.long q2)]))
    refine own_go (fun _ k => XS.lcmp X0.here hx rfl (hb hby d_prog_7_method_4_10) rfl k) ?_
    show OwnGo p e below _ (s₁.setTop (mkF m 11 #[.val (.int p1), .val (.long q2), .second] [(.int (lcmpW q2 (0 : Int64)))]))
    by_cases hc3 : q2 = (0 : Int64)
    · refine own_go (fun _ k => XS.ifYes X0.here hx rfl (pc0 := 11) (pc' := 20) rfl (hb hby d_prog_7_method_4_11) rfl ((if0 _ _).trans (teq ((lw_eq _ _).mpr hc3)).1) (by decide) (by decide) k) ?_
      show OwnGo p e below _ (s₁.setTop (mkF m 20 #[.val (.int p1), .val (.long q2), .second] []))
      refine own_go (fun _ k => XS.aconstNull X0.here hx rfl (hb hby d_prog_7_method_4_20) k) ?_
      show OwnGo p e below _ (s₁.setTop (mkF m 21 #[.val (.int p1), .val (.long q2), .second] [.null]))
      obtain ⟨fs, hr, hrun, hended, hW, hsame⟩ := X0.leave (v := some .null) (fun h => by rw [Bd.returns] at h; cases h)
      refine ⟨_, _, retOut X0 hx Bd.returns rfl (Or.inr (Or.inr (Or.inr (Or.inr ⟨rfl, rfl, rfl⟩)))) (hb hby d_prog_7_method_4_21) hr, hrun, hended, _, _, rfl, ?_, ⟨_, rfl⟩, hW, hsame.mono (by decide) (by decide)⟩
      show Q_of Z aDELAYED aREDELIVERED p1 q2 r0 h0 n0 _ s₁.heap _
      rw [e0]
      exact ⟨(by rw [← hr0]; simp [hc1, hc3]), N0, rfl⟩
    · refine own_go (fun _ k => XS.ifNo X0.here hx rfl (hb hby d_prog_7_method_4_11) rfl ((if0 _ _).trans (feq (mt (lw_eq _ _).mp hc3)).1) k) ?_
      show OwnGo p e below _ (s₁.setTop (mkF m 14 #[.val (.int p1), .val (.long q2), .second] []))
      obtain ⟨T4, X4, e4, st4⟩ := getS X0 hx hZ hown (host := "") (hw _ (List.mem_of_getElem? (i := 4) rfl)) Via.refl e0 (F0.1.ext O0.2) (g := (mkF m 14 #[.val (.int p1), .val (.long q2), .second] [])) rfl (hb hby d_prog_7_method_4_14)
      refine own_go st4 ?_
      show OwnGo p e below _ (T4.setTop (mkF m 17 #[.val (.int p1), .val (.long q2), .second] [(.ref aDELAYED)]))
      refine own_go (fun _ k => XS.goto X4.here hx rfl (pc0 := 17) (pc' := 21) rfl (hb hby d_prog_7_method_4_17) (by decide) (by decide) k) ?_
      show OwnGo p e below _ (T4.setTop (mkF m 21 #[.val (.int p1), .val (.long q2), .second] [(.ref aDELAYED)]))
      obtain ⟨fs, hr, hrun, hended, hW, hsame⟩ := X4.leave (v := some (.ref aDELAYED)) (fun h => by rw [Bd.returns] at h; cases h)
      refine ⟨_, _, retOut X4 hx Bd.returns rfl (Or.inr (Or.inr (Or.inr (Or.inr ⟨rfl, rfl, rfl⟩)))) (hb hby d_prog_7_method_4_21) hr, hrun, hended, _, _, rfl, ?_, ⟨_, rfl⟩, hW, hsame.mono (by decide) (by decide)⟩
      show Q_of Z aDELAYED aREDELIVERED p1 q2 r0 h0 n0 _ T4.heap _
      rw [e4]
      exact ⟨(by rw [← hr0]; simp [hc1, hc3]), N0, rfl⟩
theorem own_pos {d : Int32} (h : (0 : Int32) < d) : ¬ d < (1 : Int32) := by
  rw [Int32.lt_iff_toInt_lt] at *
  have e1 : (1 : Int32).toInt = 1 := by decide
  have e0 : (0 : Int32).toInt = 0 := by decide
  omega
theorem own_neg {d : Int32} (h : ¬ (0 : Int32) < d) : d < (1 : Int32) := by
  rw [Int32.lt_iff_toInt_lt] at *
  have e1 : (1 : Int32).toInt = 1 := by decide
  have e0 : (0 : Int32).toInt = 0 := by decide
  omega
theorem pd_I_J__Lcom_example_exdel_exdel_Keys_Index_ : parseMethodDescriptor "(IJ)Lcom/example/exdel/exdel/Keys$Index;" = some ⟨[.int, .long], some (.object "com/example/exdel/exdel/Keys$Index")⟩ := by decide +kernel
theorem pn_com_example_exdel_exdel_IndexOfPinLaw : plainName "com/example/exdel/exdel/IndexOfPinLaw" = true := by first | (simp [plainName, overriddenIn]; done) | decide +kernel
def Q_law (Z : State) (aDELAYED aREDELIVERED : Addr) (p1 : Int32) (q2 : Int64) (p3 : Int32) (h0 : Heap) (n0 : Nat) (v : Option Value) (h : Heap) (L : List Loc) : Prop := v = some (.int (1 : Int32)) ∧ Fr n0 L
theorem ef_law (m : MethodId) (x0 : Int32) (x1 : Int64) (x2 : Int32) : entryFrame m #[(.int x0), (.long x1), (.int x2)] maxLocals = mkF m 0 #[.val (.int x0), .val (.long x1), .second, .val (.int x2), .unset, .unset, .unset, .unset] [] := by first | (simp [entryFrame, mkF, argsToLocals, Value.category, maxLocals]; done) | rfl
set_option maxRecDepth 65536 in
set_option maxHeartbeats 40000000 in
theorem rm_law (l : Launch) (Z : State) (a0 : Array Value) (hw : ∀ d ∈ tables_1, d.before a0 Z = true) (ws : List Jvm.Cond) (aDELAYED aREDELIVERED : Addr) (F0 : OwnFacts Z aDELAYED aREDELIVERED) (p1 : Int32) (q2 : Int64) (p3 : Int32) (h0 : Heap) (n0 : Nat) (O0 : Old Z n0 h0) :
    MetFree l x (head1 (Jvm.Cond.code x code maxLocals ret :: ws) room_1) (fun a U => a = #[(.int p1), (.long q2), (.int p3)] ∧ Z.Warmed39 U.vm ∧ U.heap = h0) (fun _ _ _ _ _ => True) (fun _ U o U' => ∃ v L, o = .returned v ∧ Q_law Z aDELAYED aREDELIVERED p1 q2 p3 h0 n0 v U'.heap L ∧ FrameEnd U o U' L 0 0) := by
  refine MetFree.of_bodySF (plainFor_of_name pn_com_example_exdel_exdel_IndexOfPinLaw) hisR ?_
  intro p e s m args below meth c s₁ Bd hml0 hP hK
  obtain ⟨rfl, hZ, hh⟩ := hP
  have hx := Bd.exec
  have hby := Bd.bytes
  have hml : c.maxLocals = 8 := hml0
  have hown : s.vm.findClass "com/example/exdel/exdel/IndexOfPinLaw" = some m.cls := findClass_of_methodNamed Bd.named
  have hnm := (name_of_methodNamed Bd.named Bd.method).1
  have X0 : Stand p l e room_1 s m #[(.int p1), (.long q2), (.int p3)] below meth c s₁ [] 0 0 := Stand.of_body Bd
  have e0 : s₁.heap = h0 := by rw [← hh, Bd.state]; rfl
  have N0 := Fr.nil n0
  refine own_go (Q := fun o U' => ∃ v L, o = .returned v ∧ Q_law Z aDELAYED aREDELIVERED p1 q2 p3 h0 n0 v U'.heap L ∧ FrameEnd s o U' L 0 0) (fun t k => castTop (ef_law m p1 q2 p3) k) ?_
  show OwnGo p e below _ (s₁.setTop (mkF m 0 #[.val (.int p1), .val (.long q2), .second, .val (.int p3), .unset, .unset, .unset, .unset] []))
  refine own_go (fun _ k => XS.iloadN X0.here hx rfl (hb hby at_0) rfl k) ?_
  show OwnGo p e below _ (s₁.setTop (mkF m 1 #[.val (.int p1), .val (.long q2), .second, .val (.int p3), .unset, .unset, .unset, .unset] [(.int p3)]))
  refine own_go (fun _ k => XS.iconst X0.here hx rfl (hb hby at_1) k) ?_
  show OwnGo p e below _ (s₁.setTop (mkF m 2 #[.val (.int p1), .val (.long q2), .second, .val (.int p3), .unset, .unset, .unset, .unset] [(.int (1 : Int32)), (.int p3)]))
  refine own_go (fun _ k => XS.iand X0.here hx rfl (hb hby at_2) rfl k) ?_
  show OwnGo p e below _ (s₁.setTop (mkF m 3 #[.val (.int p1), .val (.long q2), .second, .val (.int p3), .unset, .unset, .unset, .unset] [(.int (p3 &&& (1 : Int32)))]))
  by_cases hc5 : (p3 &&& (1 : Int32)) = (0 : Int32)
  · refine own_go (fun _ k => XS.ifYes X0.here hx rfl (pc0 := 3) (pc' := 10) rfl (hb hby at_3) rfl ((if0 _ _).trans (teq hc5).1) (by decide) (by decide) k) ?_
    show OwnGo p e below _ (s₁.setTop (mkF m 10 #[.val (.int p1), .val (.long q2), .second, .val (.int p3), .unset, .unset, .unset, .unset] []))
    refine own_go (fun _ k => XS.iloadN X0.here hx rfl (hb hby at_10) rfl k) ?_
    show OwnGo p e below _ (s₁.setTop (mkF m 11 #[.val (.int p1), .val (.long q2), .second, .val (.int p3), .unset, .unset, .unset, .unset] [(.int p1)]))
    refine own_go (fun _ k => Jvm.Stand.ldcI X0 hx hown (mvT hZ (hw _ (List.mem_of_getElem? (i := 7) rfl))) rfl (hb hby at_11) k) ?_
    show OwnGo p e below _ (s₁.setTop (mkF m 13 #[.val (.int p1), .val (.long q2), .second, .val (.int p3), .unset, .unset, .unset, .unset] [(.int (2147483647 : Int32)), (.int p1)]))
    refine own_go (fun _ k => XS.iand X0.here hx rfl (hb hby at_13) rfl k) ?_
    show OwnGo p e below _ (s₁.setTop (mkF m 14 #[.val (.int p1), .val (.long q2), .second, .val (.int p3), .unset, .unset, .unset, .unset] [(.int (p1 &&& (2147483647 : Int32)))]))
    refine own_go (fun _ k => XS.istore X0.here hx rfl (hb hby at_14) rfl (l' := #[.val (.int p1), .val (.long q2), .second, .val (.int p3), .val (.int (p1 &&& (2147483647 : Int32))), .unset, .unset, .unset]) rfl k) ?_
    show OwnGo p e below _ (s₁.setTop (mkF m 16 #[.val (.int p1), .val (.long q2), .second, .val (.int p3), .val (.int (p1 &&& (2147483647 : Int32))), .unset, .unset, .unset] []))
    refine own_go (fun _ k => XS.iloadN X0.here hx rfl (hb hby at_16) rfl k) ?_
    show OwnGo p e below _ (s₁.setTop (mkF m 17 #[.val (.int p1), .val (.long q2), .second, .val (.int p3), .val (.int (p1 &&& (2147483647 : Int32))), .unset, .unset, .unset] [(.int p3)]))
    refine own_go (fun _ k => XS.iconst X0.here hx rfl (hb hby at_17) k) ?_
    show OwnGo p e below _ (s₁.setTop (mkF m 18 #[.val (.int p1), .val (.long q2), .second, .val (.int p3), .val (.int (p1 &&& (2147483647 : Int32))), .unset, .unset, .unset] [(.int (2 : Int32)), (.int p3)]))
    refine own_go (fun _ k => XS.iand X0.here hx rfl (hb hby at_18) rfl k) ?_
    show OwnGo p e below _ (s₁.setTop (mkF m 19 #[.val (.int p1), .val (.long q2), .second, .val (.int p3), .val (.int (p1 &&& (2147483647 : Int32))), .unset, .unset, .unset] [(.int (p3 &&& (2 : Int32)))]))
    by_cases hc6 : (p3 &&& (2 : Int32)) = (0 : Int32)
    · refine own_go (fun _ k => XS.ifYes X0.here hx rfl (pc0 := 19) (pc' := 26) rfl (hb hby at_19) rfl ((if0 _ _).trans (teq hc6).1) (by decide) (by decide) k) ?_
      show OwnGo p e below _ (s₁.setTop (mkF m 26 #[.val (.int p1), .val (.long q2), .second, .val (.int p3), .val (.int (p1 &&& (2147483647 : Int32))), .unset, .unset, .unset] []))
      refine own_go (fun _ k => XS.lloadN X0.here hx rfl (hb hby at_26) rfl k) ?_
      show OwnGo p e below _ (s₁.setTop (mkF m 27 #[.val (.int p1), .val (.long q2), .second, .val (.int p3), .val (.int (p1 &&& (2147483647 : Int32))), .unset, .unset, .unset] [(.long q2)]))
      refine own_go (fun _ k => XS.lstore X0.here hx rfl (hb hby at_27) rfl (l' := #[.val (.int p1), .val (.long q2), .second, .val (.int p3), .val (.int (p1 &&& (2147483647 : Int32))), .val (.long q2), .second, .unset]) rfl k) ?_
      show OwnGo p e below _ (s₁.setTop (mkF m 29 #[.val (.int p1), .val (.long q2), .second, .val (.int p3), .val (.int (p1 &&& (2147483647 : Int32))), .val (.long q2), .second, .unset] []))
      refine own_go (fun _ k => XS.iload X0.here hx rfl (hb hby at_29) rfl k) ?_
      show OwnGo p e below _ (s₁.setTop (mkF m 31 #[.val (.int p1), .val (.long q2), .second, .val (.int p3), .val (.int (p1 &&& (2147483647 : Int32))), .val (.long q2), .second, .unset] [(.int (p1 &&& (2147483647 : Int32)))]))
      refine own_go (fun _ k => XS.lload X0.here hx rfl (hb hby at_31) rfl k) ?_
      show OwnGo p e below _ (s₁.setTop (mkF m 33 #[.val (.int p1), .val (.long q2), .second, .val (.int p3), .val (.int (p1 &&& (2147483647 : Int32))), .val (.long q2), .second, .unset] [(.long q2), (.int (p1 &&& (2147483647 : Int32)))]))
      by_cases hc7 : (0 : Int32) < (p1 &&& (2147483647 : Int32))
      · show OwnGo p e below _ (s₁.setTop (mkF m 33 #[.val (.int p1), .val (.long q2), .second, .val (.int p3), .val (.int (p1 &&& (2147483647 : Int32))), .val (.long q2), .second, .unset] [(.long q2), (.int (p1 &&& (2147483647 : Int32)))]))
        by_cases hc8 : q2 = (0 : Int64)
        · show OwnGo p e below _ (s₁.setTop (mkF m 33 #[.val (.int p1), .val (.long q2), .second, .val (.int p3), .val (.int (p1 &&& (2147483647 : Int32))), .val (.long q2), .second, .unset] [(.long q2), (.int (p1 &&& (2147483647 : Int32)))]))
          obtain ⟨_, _, ⟨T9, L9, k9, n9⟩, -, X9, ⟨Lc9, hQ9, l9, y9, z9⟩, st9⟩ := Jvm.LawKit.callS X0 hx (y := (⟨"com/example/exdel/exdel/Keys$Index", "of", "(IJ)Lcom/example/exdel/exdel/Keys$Index;"⟩ : MethodName)) hown (mvT hZ (hw _ (List.mem_of_getElem? (i := 0) rfl))) (mvT hZ (hw _ (List.mem_of_getElem? (i := 1) rfl))) (mvT hZ (hw _ (List.mem_of_getElem? (i := 2) rfl))) (mvT hZ (hw _ (List.mem_of_getElem? (i := 3) rfl))) (by decide) (backOf (W := 0) (rm_of l Z a0 hw [] aDELAYED aREDELIVERED F0 (p1 &&& (2147483647 : Int32)) q2 (Value.ref aREDELIVERED) h0 n0 O0 (by simp [hc7, hc8])) hZ (hw _ (List.mem_of_getElem? (i := 3) rfl)) (hw _ (List.mem_of_getElem? (i := 2) rfl)) (by decide) (by decide)) (g := (mkF m 33 #[.val (.int p1), .val (.long q2), .second, .val (.int p3), .val (.int (p1 &&& (2147483647 : Int32))), .val (.long q2), .second, .unset] [(.long q2), (.int (p1 &&& (2147483647 : Int32)))])) rfl (by rw [hml]; rfl) (argsL := [(.int (p1 &&& (2147483647 : Int32))), (.long q2)]) (rest := []) (lenOf pd_I_J__Lcom_example_exdel_exdel_Keys_Index_ rfl) rfl (by show 2 * 0 + _ ≤ _; exact Nat.le_of_eq rfl) (hb hby at_33) (fun _ _ => ⟨rfl, e0, (by decide : 0 + 0 ≤ _), (by decide : 0 + 0 ≤ _)⟩)
          dsimp only [Pt.U, Pt.locs, Pt.cells, Pt.slots] at X9 l9 y9 z9 st9 hQ9
          subst l9 y9 z9
          obtain ⟨rfl, Nq9, K9⟩ := hQ9
          have N9 := Fr.app N0 Nq9
          refine own_go st9 ?_
          show OwnGo p e below _ (T9.setTop (mkF m 36 #[.val (.int p1), .val (.long q2), .second, .val (.int p3), .val (.int (p1 &&& (2147483647 : Int32))), .val (.long q2), .second, .unset] [(.ref aREDELIVERED)]))
          refine own_go (fun _ k => XS.astore X9.here hx rfl (hb hby at_36) rfl rfl (l' := #[.val (.int p1), .val (.long q2), .second, .val (.int p3), .val (.int (p1 &&& (2147483647 : Int32))), .val (.long q2), .second, .val (.ref aREDELIVERED)]) rfl k) ?_
          show OwnGo p e below _ (T9.setTop (mkF m 38 #[.val (.int p1), .val (.long q2), .second, .val (.int p3), .val (.int (p1 &&& (2147483647 : Int32))), .val (.long q2), .second, .val (.ref aREDELIVERED)] []))
          refine own_go (fun _ k => XS.iload X9.here hx rfl (hb hby at_38) rfl k) ?_
          show OwnGo p e below _ (T9.setTop (mkF m 40 #[.val (.int p1), .val (.long q2), .second, .val (.int p3), .val (.int (p1 &&& (2147483647 : Int32))), .val (.long q2), .second, .val (.ref aREDELIVERED)] [(.int (p1 &&& (2147483647 : Int32)))]))
          refine own_go (fun _ k => XS.iconst X9.here hx rfl (hb hby at_40) k) ?_
          show OwnGo p e below _ (T9.setTop (mkF m 41 #[.val (.int p1), .val (.long q2), .second, .val (.int p3), .val (.int (p1 &&& (2147483647 : Int32))), .val (.long q2), .second, .val (.ref aREDELIVERED)] [(.int (1 : Int32)), (.int (p1 &&& (2147483647 : Int32)))]))
          refine own_go (fun _ k => XS.icmpNo X9.here hx rfl (hb hby at_41) rfl (flt (own_pos hc7)).1 k) ?_
          show OwnGo p e below _ (T9.setTop (mkF m 44 #[.val (.int p1), .val (.long q2), .second, .val (.int p3), .val (.int (p1 &&& (2147483647 : Int32))), .val (.long q2), .second, .val (.ref aREDELIVERED)] []))
          refine own_go (fun _ k => XS.aload X9.here hx rfl (hb hby at_44) rfl rfl k) ?_
          show OwnGo p e below _ (T9.setTop (mkF m 46 #[.val (.int p1), .val (.long q2), .second, .val (.int p3), .val (.int (p1 &&& (2147483647 : Int32))), .val (.long q2), .second, .val (.ref aREDELIVERED)] [(.ref aREDELIVERED)]))
          obtain ⟨T10, X10, e10, st10⟩ := getS X9 hx hZ hown (host := "") (hw _ (List.mem_of_getElem? (i := 10) rfl)) Via.refl K9 (F0.2.2.1.ext O0.2) (g := (mkF m 46 #[.val (.int p1), .val (.long q2), .second, .val (.int p3), .val (.int (p1 &&& (2147483647 : Int32))), .val (.long q2), .second, .val (.ref aREDELIVERED)] [(.ref aREDELIVERED)])) rfl (hb hby at_46)
          refine own_go st10 ?_
          show OwnGo p e below _ (T10.setTop (mkF m 49 #[.val (.int p1), .val (.long q2), .second, .val (.int p3), .val (.int (p1 &&& (2147483647 : Int32))), .val (.long q2), .second, .val (.ref aREDELIVERED)] [(.ref aREDELIVERED), (.ref aREDELIVERED)]))
          refine own_go (fun _ k => acmp X10 hx rfl (cd := .ne) (o := 7) (x := (.ref aREDELIVERED)) (y := (.ref aREDELIVERED)) (pc0 := 49) (pc' := 52) rfl rfl rfl (hb hby at_49) rfl (own_refeq _) (by decide) (by decide) k) ?_
          show OwnGo p e below _ (T10.setTop (mkF m 52 #[.val (.int p1), .val (.long q2), .second, .val (.int p3), .val (.int (p1 &&& (2147483647 : Int32))), .val (.long q2), .second, .val (.ref aREDELIVERED)] []))
          refine own_go (fun _ k => XS.iconst X10.here hx rfl (hb hby at_52) k) ?_
          show OwnGo p e below _ (T10.setTop (mkF m 53 #[.val (.int p1), .val (.long q2), .second, .val (.int p3), .val (.int (p1 &&& (2147483647 : Int32))), .val (.long q2), .second, .val (.ref aREDELIVERED)] [(.int (1 : Int32))]))
          refine own_go (fun _ k => XS.goto X10.here hx rfl (pc0 := 53) (pc' := 57) rfl (hb hby at_53) (by decide) (by decide) k) ?_
          show OwnGo p e below _ (T10.setTop (mkF m 57 #[.val (.int p1), .val (.long q2), .second, .val (.int p3), .val (.int (p1 &&& (2147483647 : Int32))), .val (.long q2), .second, .val (.ref aREDELIVERED)] [(.int (1 : Int32))]))
          obtain ⟨fs, hr, hrun, hended, hW, hsame⟩ := X10.leave (v := some (.int (1 : Int32))) (fun h => by rw [Bd.returns] at h; cases h)
          refine ⟨_, _, retOut X10 hx Bd.returns rfl (Or.inl ⟨rfl, Or.inr (Or.inl rfl), _, rfl⟩) (hb hby at_57) hr, hrun, hended, _, _, rfl, ?_, ⟨_, rfl⟩, hW, hsame.mono (by decide) (by decide)⟩
          show Q_law Z aDELAYED aREDELIVERED p1 q2 p3 h0 n0 _ T10.heap _
          rw [e10]
          exact ⟨rfl, N9⟩
        · show OwnGo p e below _ (s₁.setTop (mkF m 33 #[.val (.int p1), .val (.long q2), .second, .val (.int p3), .val (.int (p1 &&& (2147483647 : Int32))), .val (.long q2), .second, .unset] [(.long q2), (.int (p1 &&& (2147483647 : Int32)))]))
          obtain ⟨_, _, ⟨T11, L11, k11, n11⟩, -, X11, ⟨Lc11, hQ11, l11, y11, z11⟩, st11⟩ := Jvm.LawKit.callS X0 hx (y := (⟨"com/example/exdel/exdel/Keys$Index", "of", "(IJ)Lcom/example/exdel/exdel/Keys$Index;"⟩ : MethodName)) hown (mvT hZ (hw _ (List.mem_of_getElem? (i := 0) rfl))) (mvT hZ (hw _ (List.mem_of_getElem? (i := 1) rfl))) (mvT hZ (hw _ (List.mem_of_getElem? (i := 2) rfl))) (mvT hZ (hw _ (List.mem_of_getElem? (i := 3) rfl))) (by decide) (backOf (W := 0) (rm_of l Z a0 hw [] aDELAYED aREDELIVERED F0 (p1 &&& (2147483647 : Int32)) q2 (Value.ref aREDELIVERED) h0 n0 O0 (by simp [hc7, hc8])) hZ (hw _ (List.mem_of_getElem? (i := 3) rfl)) (hw _ (List.mem_of_getElem? (i := 2) rfl)) (by decide) (by decide)) (g := (mkF m 33 #[.val (.int p1), .val (.long q2), .second, .val (.int p3), .val (.int (p1 &&& (2147483647 : Int32))), .val (.long q2), .second, .unset] [(.long q2), (.int (p1 &&& (2147483647 : Int32)))])) rfl (by rw [hml]; rfl) (argsL := [(.int (p1 &&& (2147483647 : Int32))), (.long q2)]) (rest := []) (lenOf pd_I_J__Lcom_example_exdel_exdel_Keys_Index_ rfl) rfl (by show 2 * 0 + _ ≤ _; exact Nat.le_of_eq rfl) (hb hby at_33) (fun _ _ => ⟨rfl, e0, (by decide : 0 + 0 ≤ _), (by decide : 0 + 0 ≤ _)⟩)
          dsimp only [Pt.U, Pt.locs, Pt.cells, Pt.slots] at X11 l11 y11 z11 st11 hQ11
          subst l11 y11 z11
          obtain ⟨rfl, Nq11, K11⟩ := hQ11
          have N11 := Fr.app N0 Nq11
          refine own_go st11 ?_
          show OwnGo p e below _ (T11.setTop (mkF m 36 #[.val (.int p1), .val (.long q2), .second, .val (.int p3), .val (.int (p1 &&& (2147483647 : Int32))), .val (.long q2), .second, .unset] [(.ref aREDELIVERED)]))
          refine own_go (fun _ k => XS.astore X11.here hx rfl (hb hby at_36) rfl rfl (l' := #[.val (.int p1), .val (.long q2), .second, .val (.int p3), .val (.int (p1 &&& (2147483647 : Int32))), .val (.long q2), .second, .val (.ref aREDELIVERED)]) rfl k) ?_
          show OwnGo p e below _ (T11.setTop (mkF m 38 #[.val (.int p1), .val (.long q2), .second, .val (.int p3), .val (.int (p1 &&& (2147483647 : Int32))), .val (.long q2), .second, .val (.ref aREDELIVERED)] []))
          refine own_go (fun _ k => XS.iload X11.here hx rfl (hb hby at_38) rfl k) ?_
          show OwnGo p e below _ (T11.setTop (mkF m 40 #[.val (.int p1), .val (.long q2), .second, .val (.int p3), .val (.int (p1 &&& (2147483647 : Int32))), .val (.long q2), .second, .val (.ref aREDELIVERED)] [(.int (p1 &&& (2147483647 : Int32)))]))
          refine own_go (fun _ k => XS.iconst X11.here hx rfl (hb hby at_40) k) ?_
          show OwnGo p e below _ (T11.setTop (mkF m 41 #[.val (.int p1), .val (.long q2), .second, .val (.int p3), .val (.int (p1 &&& (2147483647 : Int32))), .val (.long q2), .second, .val (.ref aREDELIVERED)] [(.int (1 : Int32)), (.int (p1 &&& (2147483647 : Int32)))]))
          refine own_go (fun _ k => XS.icmpNo X11.here hx rfl (hb hby at_41) rfl (flt (own_pos hc7)).1 k) ?_
          show OwnGo p e below _ (T11.setTop (mkF m 44 #[.val (.int p1), .val (.long q2), .second, .val (.int p3), .val (.int (p1 &&& (2147483647 : Int32))), .val (.long q2), .second, .val (.ref aREDELIVERED)] []))
          refine own_go (fun _ k => XS.aload X11.here hx rfl (hb hby at_44) rfl rfl k) ?_
          show OwnGo p e below _ (T11.setTop (mkF m 46 #[.val (.int p1), .val (.long q2), .second, .val (.int p3), .val (.int (p1 &&& (2147483647 : Int32))), .val (.long q2), .second, .val (.ref aREDELIVERED)] [(.ref aREDELIVERED)]))
          obtain ⟨T12, X12, e12, st12⟩ := getS X11 hx hZ hown (host := "") (hw _ (List.mem_of_getElem? (i := 10) rfl)) Via.refl K11 (F0.2.2.1.ext O0.2) (g := (mkF m 46 #[.val (.int p1), .val (.long q2), .second, .val (.int p3), .val (.int (p1 &&& (2147483647 : Int32))), .val (.long q2), .second, .val (.ref aREDELIVERED)] [(.ref aREDELIVERED)])) rfl (hb hby at_46)
          refine own_go st12 ?_
          show OwnGo p e below _ (T12.setTop (mkF m 49 #[.val (.int p1), .val (.long q2), .second, .val (.int p3), .val (.int (p1 &&& (2147483647 : Int32))), .val (.long q2), .second, .val (.ref aREDELIVERED)] [(.ref aREDELIVERED), (.ref aREDELIVERED)]))
          refine own_go (fun _ k => acmp X12 hx rfl (cd := .ne) (o := 7) (x := (.ref aREDELIVERED)) (y := (.ref aREDELIVERED)) (pc0 := 49) (pc' := 52) rfl rfl rfl (hb hby at_49) rfl (own_refeq _) (by decide) (by decide) k) ?_
          show OwnGo p e below _ (T12.setTop (mkF m 52 #[.val (.int p1), .val (.long q2), .second, .val (.int p3), .val (.int (p1 &&& (2147483647 : Int32))), .val (.long q2), .second, .val (.ref aREDELIVERED)] []))
          refine own_go (fun _ k => XS.iconst X12.here hx rfl (hb hby at_52) k) ?_
          show OwnGo p e below _ (T12.setTop (mkF m 53 #[.val (.int p1), .val (.long q2), .second, .val (.int p3), .val (.int (p1 &&& (2147483647 : Int32))), .val (.long q2), .second, .val (.ref aREDELIVERED)] [(.int (1 : Int32))]))
          refine own_go (fun _ k => XS.goto X12.here hx rfl (pc0 := 53) (pc' := 57) rfl (hb hby at_53) (by decide) (by decide) k) ?_
          show OwnGo p e below _ (T12.setTop (mkF m 57 #[.val (.int p1), .val (.long q2), .second, .val (.int p3), .val (.int (p1 &&& (2147483647 : Int32))), .val (.long q2), .second, .val (.ref aREDELIVERED)] [(.int (1 : Int32))]))
          obtain ⟨fs, hr, hrun, hended, hW, hsame⟩ := X12.leave (v := some (.int (1 : Int32))) (fun h => by rw [Bd.returns] at h; cases h)
          refine ⟨_, _, retOut X12 hx Bd.returns rfl (Or.inl ⟨rfl, Or.inr (Or.inl rfl), _, rfl⟩) (hb hby at_57) hr, hrun, hended, _, _, rfl, ?_, ⟨_, rfl⟩, hW, hsame.mono (by decide) (by decide)⟩
          show Q_law Z aDELAYED aREDELIVERED p1 q2 p3 h0 n0 _ T12.heap _
          rw [e12]
          exact ⟨rfl, N11⟩
      · show OwnGo p e below _ (s₁.setTop (mkF m 33 #[.val (.int p1), .val (.long q2), .second, .val (.int p3), .val (.int (p1 &&& (2147483647 : Int32))), .val (.long q2), .second, .unset] [(.long q2), (.int (p1 &&& (2147483647 : Int32)))]))
        by_cases hc13 : q2 = (0 : Int64)
        · show OwnGo p e below _ (s₁.setTop (mkF m 33 #[.val (.int p1), .val (.long q2), .second, .val (.int p3), .val (.int (p1 &&& (2147483647 : Int32))), .val (.long q2), .second, .unset] [(.long q2), (.int (p1 &&& (2147483647 : Int32)))]))
          obtain ⟨_, _, ⟨T14, L14, k14, n14⟩, -, X14, ⟨Lc14, hQ14, l14, y14, z14⟩, st14⟩ := Jvm.LawKit.callS X0 hx (y := (⟨"com/example/exdel/exdel/Keys$Index", "of", "(IJ)Lcom/example/exdel/exdel/Keys$Index;"⟩ : MethodName)) hown (mvT hZ (hw _ (List.mem_of_getElem? (i := 0) rfl))) (mvT hZ (hw _ (List.mem_of_getElem? (i := 1) rfl))) (mvT hZ (hw _ (List.mem_of_getElem? (i := 2) rfl))) (mvT hZ (hw _ (List.mem_of_getElem? (i := 3) rfl))) (by decide) (backOf (W := 0) (rm_of l Z a0 hw [] aDELAYED aREDELIVERED F0 (p1 &&& (2147483647 : Int32)) q2 Value.null h0 n0 O0 (by simp [hc7, hc13])) hZ (hw _ (List.mem_of_getElem? (i := 3) rfl)) (hw _ (List.mem_of_getElem? (i := 2) rfl)) (by decide) (by decide)) (g := (mkF m 33 #[.val (.int p1), .val (.long q2), .second, .val (.int p3), .val (.int (p1 &&& (2147483647 : Int32))), .val (.long q2), .second, .unset] [(.long q2), (.int (p1 &&& (2147483647 : Int32)))])) rfl (by rw [hml]; rfl) (argsL := [(.int (p1 &&& (2147483647 : Int32))), (.long q2)]) (rest := []) (lenOf pd_I_J__Lcom_example_exdel_exdel_Keys_Index_ rfl) rfl (by show 2 * 0 + _ ≤ _; exact Nat.le_of_eq rfl) (hb hby at_33) (fun _ _ => ⟨rfl, e0, (by decide : 0 + 0 ≤ _), (by decide : 0 + 0 ≤ _)⟩)
          dsimp only [Pt.U, Pt.locs, Pt.cells, Pt.slots] at X14 l14 y14 z14 st14 hQ14
          subst l14 y14 z14
          obtain ⟨rfl, Nq14, K14⟩ := hQ14
          have N14 := Fr.app N0 Nq14
          refine own_go st14 ?_
          show OwnGo p e below _ (T14.setTop (mkF m 36 #[.val (.int p1), .val (.long q2), .second, .val (.int p3), .val (.int (p1 &&& (2147483647 : Int32))), .val (.long q2), .second, .unset] [.null]))
          refine own_go (fun _ k => XS.astore X14.here hx rfl (hb hby at_36) rfl rfl (l' := #[.val (.int p1), .val (.long q2), .second, .val (.int p3), .val (.int (p1 &&& (2147483647 : Int32))), .val (.long q2), .second, .val .null]) rfl k) ?_
          show OwnGo p e below _ (T14.setTop (mkF m 38 #[.val (.int p1), .val (.long q2), .second, .val (.int p3), .val (.int (p1 &&& (2147483647 : Int32))), .val (.long q2), .second, .val .null] []))
          refine own_go (fun _ k => XS.iload X14.here hx rfl (hb hby at_38) rfl k) ?_
          show OwnGo p e below _ (T14.setTop (mkF m 40 #[.val (.int p1), .val (.long q2), .second, .val (.int p3), .val (.int (p1 &&& (2147483647 : Int32))), .val (.long q2), .second, .val .null] [(.int (p1 &&& (2147483647 : Int32)))]))
          refine own_go (fun _ k => XS.iconst X14.here hx rfl (hb hby at_40) k) ?_
          show OwnGo p e below _ (T14.setTop (mkF m 41 #[.val (.int p1), .val (.long q2), .second, .val (.int p3), .val (.int (p1 &&& (2147483647 : Int32))), .val (.long q2), .second, .val .null] [(.int (1 : Int32)), (.int (p1 &&& (2147483647 : Int32)))]))
          refine own_go (fun _ k => XS.icmpYes X14.here hx rfl (pc0 := 41) (pc' := 58) rfl (hb hby at_41) rfl (tlt (own_neg hc7)).1 (by decide) (by decide) k) ?_
          show OwnGo p e below _ (T14.setTop (mkF m 58 #[.val (.int p1), .val (.long q2), .second, .val (.int p3), .val (.int (p1 &&& (2147483647 : Int32))), .val (.long q2), .second, .val .null] []))
          refine own_go (fun _ k => XS.lload X14.here hx rfl (hb hby at_58) rfl k) ?_
          show OwnGo p e below _ (T14.setTop (mkF m 60 #[.val (.int p1), .val (.long q2), .second, .val (.int p3), .val (.int (p1 &&& (2147483647 : Int32))), .val (.long q2), .second, .val .null] [(.long q2)]))
          refine own_go (fun _ k => XS.lconst X14.here hx rfl (hb hby at_60) k) ?_
          show OwnGo p e below _ (T14.setTop (mkF m 61 #[.val (.int p1), .val (.long q2), .second, .val (.int p3), .val (.int (p1 &&& (2147483647 : Int32))), .val (.long q2), .second, .val .null] [(.long (0 : Int64)), (.long q2)]))
          refine own_go (fun _ k => XS.lcmp X14.here hx rfl (hb hby at_61) rfl k) ?_
          show OwnGo p e below _ (T14.setTop (mkF m 62 #[.val (.int p1), .val (.long q2), .second, .val (.int p3), .val (.int (p1 &&& (2147483647 : Int32))), .val (.long q2), .second, .val .null] [(.int (lcmpW q2 (0 : Int64)))]))
          refine own_go (fun _ k => XS.ifNo X14.here hx rfl (hb hby at_62) rfl ((if0 _ _).trans (teq ((lw_eq _ _).mpr hc13)).2) k) ?_
          show OwnGo p e below _ (T14.setTop (mkF m 65 #[.val (.int p1), .val (.long q2), .second, .val (.int p3), .val (.int (p1 &&& (2147483647 : Int32))), .val (.long q2), .second, .val .null] []))
          refine own_go (fun _ k => XS.aload X14.here hx rfl (hb hby at_65) rfl rfl k) ?_
          show OwnGo p e below _ (T14.setTop (mkF m 67 #[.val (.int p1), .val (.long q2), .second, .val (.int p3), .val (.int (p1 &&& (2147483647 : Int32))), .val (.long q2), .second, .val .null] [.null]))
          refine own_go (fun _ k => XS.ifnonnullNo X14.here hx rfl (hb hby at_67) rfl k) ?_
          show OwnGo p e below _ (T14.setTop (mkF m 70 #[.val (.int p1), .val (.long q2), .second, .val (.int p3), .val (.int (p1 &&& (2147483647 : Int32))), .val (.long q2), .second, .val .null] []))
          refine own_go (fun _ k => XS.iconst X14.here hx rfl (hb hby at_70) k) ?_
          show OwnGo p e below _ (T14.setTop (mkF m 71 #[.val (.int p1), .val (.long q2), .second, .val (.int p3), .val (.int (p1 &&& (2147483647 : Int32))), .val (.long q2), .second, .val .null] [(.int (1 : Int32))]))
          refine own_go (fun _ k => XS.goto X14.here hx rfl (pc0 := 71) (pc' := 75) rfl (hb hby at_71) (by decide) (by decide) k) ?_
          show OwnGo p e below _ (T14.setTop (mkF m 75 #[.val (.int p1), .val (.long q2), .second, .val (.int p3), .val (.int (p1 &&& (2147483647 : Int32))), .val (.long q2), .second, .val .null] [(.int (1 : Int32))]))
          obtain ⟨fs, hr, hrun, hended, hW, hsame⟩ := X14.leave (v := some (.int (1 : Int32))) (fun h => by rw [Bd.returns] at h; cases h)
          refine ⟨_, _, retOut X14 hx Bd.returns rfl (Or.inl ⟨rfl, Or.inr (Or.inl rfl), _, rfl⟩) (hb hby at_75) hr, hrun, hended, _, _, rfl, ?_, ⟨_, rfl⟩, hW, hsame.mono (by decide) (by decide)⟩
          show Q_law Z aDELAYED aREDELIVERED p1 q2 p3 h0 n0 _ T14.heap _
          rw [K14]
          exact ⟨rfl, N14⟩
        · show OwnGo p e below _ (s₁.setTop (mkF m 33 #[.val (.int p1), .val (.long q2), .second, .val (.int p3), .val (.int (p1 &&& (2147483647 : Int32))), .val (.long q2), .second, .unset] [(.long q2), (.int (p1 &&& (2147483647 : Int32)))]))
          obtain ⟨_, _, ⟨T15, L15, k15, n15⟩, -, X15, ⟨Lc15, hQ15, l15, y15, z15⟩, st15⟩ := Jvm.LawKit.callS X0 hx (y := (⟨"com/example/exdel/exdel/Keys$Index", "of", "(IJ)Lcom/example/exdel/exdel/Keys$Index;"⟩ : MethodName)) hown (mvT hZ (hw _ (List.mem_of_getElem? (i := 0) rfl))) (mvT hZ (hw _ (List.mem_of_getElem? (i := 1) rfl))) (mvT hZ (hw _ (List.mem_of_getElem? (i := 2) rfl))) (mvT hZ (hw _ (List.mem_of_getElem? (i := 3) rfl))) (by decide) (backOf (W := 0) (rm_of l Z a0 hw [] aDELAYED aREDELIVERED F0 (p1 &&& (2147483647 : Int32)) q2 (Value.ref aDELAYED) h0 n0 O0 (by simp [hc7, hc13])) hZ (hw _ (List.mem_of_getElem? (i := 3) rfl)) (hw _ (List.mem_of_getElem? (i := 2) rfl)) (by decide) (by decide)) (g := (mkF m 33 #[.val (.int p1), .val (.long q2), .second, .val (.int p3), .val (.int (p1 &&& (2147483647 : Int32))), .val (.long q2), .second, .unset] [(.long q2), (.int (p1 &&& (2147483647 : Int32)))])) rfl (by rw [hml]; rfl) (argsL := [(.int (p1 &&& (2147483647 : Int32))), (.long q2)]) (rest := []) (lenOf pd_I_J__Lcom_example_exdel_exdel_Keys_Index_ rfl) rfl (by show 2 * 0 + _ ≤ _; exact Nat.le_of_eq rfl) (hb hby at_33) (fun _ _ => ⟨rfl, e0, (by decide : 0 + 0 ≤ _), (by decide : 0 + 0 ≤ _)⟩)
          dsimp only [Pt.U, Pt.locs, Pt.cells, Pt.slots] at X15 l15 y15 z15 st15 hQ15
          subst l15 y15 z15
          obtain ⟨rfl, Nq15, K15⟩ := hQ15
          have N15 := Fr.app N0 Nq15
          refine own_go st15 ?_
          show OwnGo p e below _ (T15.setTop (mkF m 36 #[.val (.int p1), .val (.long q2), .second, .val (.int p3), .val (.int (p1 &&& (2147483647 : Int32))), .val (.long q2), .second, .unset] [(.ref aDELAYED)]))
          refine own_go (fun _ k => XS.astore X15.here hx rfl (hb hby at_36) rfl rfl (l' := #[.val (.int p1), .val (.long q2), .second, .val (.int p3), .val (.int (p1 &&& (2147483647 : Int32))), .val (.long q2), .second, .val (.ref aDELAYED)]) rfl k) ?_
          show OwnGo p e below _ (T15.setTop (mkF m 38 #[.val (.int p1), .val (.long q2), .second, .val (.int p3), .val (.int (p1 &&& (2147483647 : Int32))), .val (.long q2), .second, .val (.ref aDELAYED)] []))
          refine own_go (fun _ k => XS.iload X15.here hx rfl (hb hby at_38) rfl k) ?_
          show OwnGo p e below _ (T15.setTop (mkF m 40 #[.val (.int p1), .val (.long q2), .second, .val (.int p3), .val (.int (p1 &&& (2147483647 : Int32))), .val (.long q2), .second, .val (.ref aDELAYED)] [(.int (p1 &&& (2147483647 : Int32)))]))
          refine own_go (fun _ k => XS.iconst X15.here hx rfl (hb hby at_40) k) ?_
          show OwnGo p e below _ (T15.setTop (mkF m 41 #[.val (.int p1), .val (.long q2), .second, .val (.int p3), .val (.int (p1 &&& (2147483647 : Int32))), .val (.long q2), .second, .val (.ref aDELAYED)] [(.int (1 : Int32)), (.int (p1 &&& (2147483647 : Int32)))]))
          refine own_go (fun _ k => XS.icmpYes X15.here hx rfl (pc0 := 41) (pc' := 58) rfl (hb hby at_41) rfl (tlt (own_neg hc7)).1 (by decide) (by decide) k) ?_
          show OwnGo p e below _ (T15.setTop (mkF m 58 #[.val (.int p1), .val (.long q2), .second, .val (.int p3), .val (.int (p1 &&& (2147483647 : Int32))), .val (.long q2), .second, .val (.ref aDELAYED)] []))
          refine own_go (fun _ k => XS.lload X15.here hx rfl (hb hby at_58) rfl k) ?_
          show OwnGo p e below _ (T15.setTop (mkF m 60 #[.val (.int p1), .val (.long q2), .second, .val (.int p3), .val (.int (p1 &&& (2147483647 : Int32))), .val (.long q2), .second, .val (.ref aDELAYED)] [(.long q2)]))
          refine own_go (fun _ k => XS.lconst X15.here hx rfl (hb hby at_60) k) ?_
          show OwnGo p e below _ (T15.setTop (mkF m 61 #[.val (.int p1), .val (.long q2), .second, .val (.int p3), .val (.int (p1 &&& (2147483647 : Int32))), .val (.long q2), .second, .val (.ref aDELAYED)] [(.long (0 : Int64)), (.long q2)]))
          refine own_go (fun _ k => XS.lcmp X15.here hx rfl (hb hby at_61) rfl k) ?_
          show OwnGo p e below _ (T15.setTop (mkF m 62 #[.val (.int p1), .val (.long q2), .second, .val (.int p3), .val (.int (p1 &&& (2147483647 : Int32))), .val (.long q2), .second, .val (.ref aDELAYED)] [(.int (lcmpW q2 (0 : Int64)))]))
          refine own_go (fun _ k => XS.ifYes X15.here hx rfl (pc0 := 62) (pc' := 76) rfl (hb hby at_62) rfl ((if0 _ _).trans (feq (mt (lw_eq _ _).mp hc13)).2) (by decide) (by decide) k) ?_
          show OwnGo p e below _ (T15.setTop (mkF m 76 #[.val (.int p1), .val (.long q2), .second, .val (.int p3), .val (.int (p1 &&& (2147483647 : Int32))), .val (.long q2), .second, .val (.ref aDELAYED)] []))
          refine own_go (fun _ k => XS.aload X15.here hx rfl (hb hby at_76) rfl rfl k) ?_
          show OwnGo p e below _ (T15.setTop (mkF m 78 #[.val (.int p1), .val (.long q2), .second, .val (.int p3), .val (.int (p1 &&& (2147483647 : Int32))), .val (.long q2), .second, .val (.ref aDELAYED)] [(.ref aDELAYED)]))
          obtain ⟨T16, X16, e16, st16⟩ := getS X15 hx hZ hown (host := "") (hw _ (List.mem_of_getElem? (i := 6) rfl)) Via.refl K15 (F0.1.ext O0.2) (g := (mkF m 78 #[.val (.int p1), .val (.long q2), .second, .val (.int p3), .val (.int (p1 &&& (2147483647 : Int32))), .val (.long q2), .second, .val (.ref aDELAYED)] [(.ref aDELAYED)])) rfl (hb hby at_78)
          refine own_go st16 ?_
          show OwnGo p e below _ (T16.setTop (mkF m 81 #[.val (.int p1), .val (.long q2), .second, .val (.int p3), .val (.int (p1 &&& (2147483647 : Int32))), .val (.long q2), .second, .val (.ref aDELAYED)] [(.ref aDELAYED), (.ref aDELAYED)]))
          refine own_go (fun _ k => acmp X16 hx rfl (cd := .ne) (o := 7) (x := (.ref aDELAYED)) (y := (.ref aDELAYED)) (pc0 := 81) (pc' := 84) rfl rfl rfl (hb hby at_81) rfl (own_refeq _) (by decide) (by decide) k) ?_
          show OwnGo p e below _ (T16.setTop (mkF m 84 #[.val (.int p1), .val (.long q2), .second, .val (.int p3), .val (.int (p1 &&& (2147483647 : Int32))), .val (.long q2), .second, .val (.ref aDELAYED)] []))
          refine own_go (fun _ k => XS.iconst X16.here hx rfl (hb hby at_84) k) ?_
          show OwnGo p e below _ (T16.setTop (mkF m 85 #[.val (.int p1), .val (.long q2), .second, .val (.int p3), .val (.int (p1 &&& (2147483647 : Int32))), .val (.long q2), .second, .val (.ref aDELAYED)] [(.int (1 : Int32))]))
          refine own_go (fun _ k => XS.goto X16.here hx rfl (pc0 := 85) (pc' := 89) rfl (hb hby at_85) (by decide) (by decide) k) ?_
          show OwnGo p e below _ (T16.setTop (mkF m 89 #[.val (.int p1), .val (.long q2), .second, .val (.int p3), .val (.int (p1 &&& (2147483647 : Int32))), .val (.long q2), .second, .val (.ref aDELAYED)] [(.int (1 : Int32))]))
          obtain ⟨fs, hr, hrun, hended, hW, hsame⟩ := X16.leave (v := some (.int (1 : Int32))) (fun h => by rw [Bd.returns] at h; cases h)
          refine ⟨_, _, retOut X16 hx Bd.returns rfl (Or.inl ⟨rfl, Or.inr (Or.inl rfl), _, rfl⟩) (hb hby at_89) hr, hrun, hended, _, _, rfl, ?_, ⟨_, rfl⟩, hW, hsame.mono (by decide) (by decide)⟩
          show Q_law Z aDELAYED aREDELIVERED p1 q2 p3 h0 n0 _ T16.heap _
          rw [e16]
          exact ⟨rfl, N15⟩
    · refine own_go (fun _ k => XS.ifNo X0.here hx rfl (hb hby at_19) rfl ((if0 _ _).trans (feq hc6).1) k) ?_
      show OwnGo p e below _ (s₁.setTop (mkF m 22 #[.val (.int p1), .val (.long q2), .second, .val (.int p3), .val (.int (p1 &&& (2147483647 : Int32))), .unset, .unset, .unset] []))
      refine own_go (fun _ k => XS.lconst X0.here hx rfl (hb hby at_22) k) ?_
      show OwnGo p e below _ (s₁.setTop (mkF m 23 #[.val (.int p1), .val (.long q2), .second, .val (.int p3), .val (.int (p1 &&& (2147483647 : Int32))), .unset, .unset, .unset] [(.long (0 : Int64))]))
      refine own_go (fun _ k => XS.goto X0.here hx rfl (pc0 := 23) (pc' := 27) rfl (hb hby at_23) (by decide) (by decide) k) ?_
      show OwnGo p e below _ (s₁.setTop (mkF m 27 #[.val (.int p1), .val (.long q2), .second, .val (.int p3), .val (.int (p1 &&& (2147483647 : Int32))), .unset, .unset, .unset] [(.long (0 : Int64))]))
      refine own_go (fun _ k => XS.lstore X0.here hx rfl (hb hby at_27) rfl (l' := #[.val (.int p1), .val (.long q2), .second, .val (.int p3), .val (.int (p1 &&& (2147483647 : Int32))), .val (.long (0 : Int64)), .second, .unset]) rfl k) ?_
      show OwnGo p e below _ (s₁.setTop (mkF m 29 #[.val (.int p1), .val (.long q2), .second, .val (.int p3), .val (.int (p1 &&& (2147483647 : Int32))), .val (.long (0 : Int64)), .second, .unset] []))
      refine own_go (fun _ k => XS.iload X0.here hx rfl (hb hby at_29) rfl k) ?_
      show OwnGo p e below _ (s₁.setTop (mkF m 31 #[.val (.int p1), .val (.long q2), .second, .val (.int p3), .val (.int (p1 &&& (2147483647 : Int32))), .val (.long (0 : Int64)), .second, .unset] [(.int (p1 &&& (2147483647 : Int32)))]))
      refine own_go (fun _ k => XS.lload X0.here hx rfl (hb hby at_31) rfl k) ?_
      show OwnGo p e below _ (s₁.setTop (mkF m 33 #[.val (.int p1), .val (.long q2), .second, .val (.int p3), .val (.int (p1 &&& (2147483647 : Int32))), .val (.long (0 : Int64)), .second, .unset] [(.long (0 : Int64)), (.int (p1 &&& (2147483647 : Int32)))]))
      by_cases hc17 : (0 : Int32) < (p1 &&& (2147483647 : Int32))
      · show OwnGo p e below _ (s₁.setTop (mkF m 33 #[.val (.int p1), .val (.long q2), .second, .val (.int p3), .val (.int (p1 &&& (2147483647 : Int32))), .val (.long (0 : Int64)), .second, .unset] [(.long (0 : Int64)), (.int (p1 &&& (2147483647 : Int32)))]))
        obtain ⟨_, _, ⟨T18, L18, k18, n18⟩, -, X18, ⟨Lc18, hQ18, l18, y18, z18⟩, st18⟩ := Jvm.LawKit.callS X0 hx (y := (⟨"com/example/exdel/exdel/Keys$Index", "of", "(IJ)Lcom/example/exdel/exdel/Keys$Index;"⟩ : MethodName)) hown (mvT hZ (hw _ (List.mem_of_getElem? (i := 0) rfl))) (mvT hZ (hw _ (List.mem_of_getElem? (i := 1) rfl))) (mvT hZ (hw _ (List.mem_of_getElem? (i := 2) rfl))) (mvT hZ (hw _ (List.mem_of_getElem? (i := 3) rfl))) (by decide) (backOf (W := 0) (rm_of l Z a0 hw [] aDELAYED aREDELIVERED F0 (p1 &&& (2147483647 : Int32)) (0 : Int64) (Value.ref aREDELIVERED) h0 n0 O0 (by simp [hc17])) hZ (hw _ (List.mem_of_getElem? (i := 3) rfl)) (hw _ (List.mem_of_getElem? (i := 2) rfl)) (by decide) (by decide)) (g := (mkF m 33 #[.val (.int p1), .val (.long q2), .second, .val (.int p3), .val (.int (p1 &&& (2147483647 : Int32))), .val (.long (0 : Int64)), .second, .unset] [(.long (0 : Int64)), (.int (p1 &&& (2147483647 : Int32)))])) rfl (by rw [hml]; rfl) (argsL := [(.int (p1 &&& (2147483647 : Int32))), (.long (0 : Int64))]) (rest := []) (lenOf pd_I_J__Lcom_example_exdel_exdel_Keys_Index_ rfl) rfl (by show 2 * 0 + _ ≤ _; exact Nat.le_of_eq rfl) (hb hby at_33) (fun _ _ => ⟨rfl, e0, (by decide : 0 + 0 ≤ _), (by decide : 0 + 0 ≤ _)⟩)
        dsimp only [Pt.U, Pt.locs, Pt.cells, Pt.slots] at X18 l18 y18 z18 st18 hQ18
        subst l18 y18 z18
        obtain ⟨rfl, Nq18, K18⟩ := hQ18
        have N18 := Fr.app N0 Nq18
        refine own_go st18 ?_
        show OwnGo p e below _ (T18.setTop (mkF m 36 #[.val (.int p1), .val (.long q2), .second, .val (.int p3), .val (.int (p1 &&& (2147483647 : Int32))), .val (.long (0 : Int64)), .second, .unset] [(.ref aREDELIVERED)]))
        refine own_go (fun _ k => XS.astore X18.here hx rfl (hb hby at_36) rfl rfl (l' := #[.val (.int p1), .val (.long q2), .second, .val (.int p3), .val (.int (p1 &&& (2147483647 : Int32))), .val (.long (0 : Int64)), .second, .val (.ref aREDELIVERED)]) rfl k) ?_
        show OwnGo p e below _ (T18.setTop (mkF m 38 #[.val (.int p1), .val (.long q2), .second, .val (.int p3), .val (.int (p1 &&& (2147483647 : Int32))), .val (.long (0 : Int64)), .second, .val (.ref aREDELIVERED)] []))
        refine own_go (fun _ k => XS.iload X18.here hx rfl (hb hby at_38) rfl k) ?_
        show OwnGo p e below _ (T18.setTop (mkF m 40 #[.val (.int p1), .val (.long q2), .second, .val (.int p3), .val (.int (p1 &&& (2147483647 : Int32))), .val (.long (0 : Int64)), .second, .val (.ref aREDELIVERED)] [(.int (p1 &&& (2147483647 : Int32)))]))
        refine own_go (fun _ k => XS.iconst X18.here hx rfl (hb hby at_40) k) ?_
        show OwnGo p e below _ (T18.setTop (mkF m 41 #[.val (.int p1), .val (.long q2), .second, .val (.int p3), .val (.int (p1 &&& (2147483647 : Int32))), .val (.long (0 : Int64)), .second, .val (.ref aREDELIVERED)] [(.int (1 : Int32)), (.int (p1 &&& (2147483647 : Int32)))]))
        refine own_go (fun _ k => XS.icmpNo X18.here hx rfl (hb hby at_41) rfl (flt (own_pos hc17)).1 k) ?_
        show OwnGo p e below _ (T18.setTop (mkF m 44 #[.val (.int p1), .val (.long q2), .second, .val (.int p3), .val (.int (p1 &&& (2147483647 : Int32))), .val (.long (0 : Int64)), .second, .val (.ref aREDELIVERED)] []))
        refine own_go (fun _ k => XS.aload X18.here hx rfl (hb hby at_44) rfl rfl k) ?_
        show OwnGo p e below _ (T18.setTop (mkF m 46 #[.val (.int p1), .val (.long q2), .second, .val (.int p3), .val (.int (p1 &&& (2147483647 : Int32))), .val (.long (0 : Int64)), .second, .val (.ref aREDELIVERED)] [(.ref aREDELIVERED)]))
        obtain ⟨T19, X19, e19, st19⟩ := getS X18 hx hZ hown (host := "") (hw _ (List.mem_of_getElem? (i := 10) rfl)) Via.refl K18 (F0.2.2.1.ext O0.2) (g := (mkF m 46 #[.val (.int p1), .val (.long q2), .second, .val (.int p3), .val (.int (p1 &&& (2147483647 : Int32))), .val (.long (0 : Int64)), .second, .val (.ref aREDELIVERED)] [(.ref aREDELIVERED)])) rfl (hb hby at_46)
        refine own_go st19 ?_
        show OwnGo p e below _ (T19.setTop (mkF m 49 #[.val (.int p1), .val (.long q2), .second, .val (.int p3), .val (.int (p1 &&& (2147483647 : Int32))), .val (.long (0 : Int64)), .second, .val (.ref aREDELIVERED)] [(.ref aREDELIVERED), (.ref aREDELIVERED)]))
        refine own_go (fun _ k => acmp X19 hx rfl (cd := .ne) (o := 7) (x := (.ref aREDELIVERED)) (y := (.ref aREDELIVERED)) (pc0 := 49) (pc' := 52) rfl rfl rfl (hb hby at_49) rfl (own_refeq _) (by decide) (by decide) k) ?_
        show OwnGo p e below _ (T19.setTop (mkF m 52 #[.val (.int p1), .val (.long q2), .second, .val (.int p3), .val (.int (p1 &&& (2147483647 : Int32))), .val (.long (0 : Int64)), .second, .val (.ref aREDELIVERED)] []))
        refine own_go (fun _ k => XS.iconst X19.here hx rfl (hb hby at_52) k) ?_
        show OwnGo p e below _ (T19.setTop (mkF m 53 #[.val (.int p1), .val (.long q2), .second, .val (.int p3), .val (.int (p1 &&& (2147483647 : Int32))), .val (.long (0 : Int64)), .second, .val (.ref aREDELIVERED)] [(.int (1 : Int32))]))
        refine own_go (fun _ k => XS.goto X19.here hx rfl (pc0 := 53) (pc' := 57) rfl (hb hby at_53) (by decide) (by decide) k) ?_
        show OwnGo p e below _ (T19.setTop (mkF m 57 #[.val (.int p1), .val (.long q2), .second, .val (.int p3), .val (.int (p1 &&& (2147483647 : Int32))), .val (.long (0 : Int64)), .second, .val (.ref aREDELIVERED)] [(.int (1 : Int32))]))
        obtain ⟨fs, hr, hrun, hended, hW, hsame⟩ := X19.leave (v := some (.int (1 : Int32))) (fun h => by rw [Bd.returns] at h; cases h)
        refine ⟨_, _, retOut X19 hx Bd.returns rfl (Or.inl ⟨rfl, Or.inr (Or.inl rfl), _, rfl⟩) (hb hby at_57) hr, hrun, hended, _, _, rfl, ?_, ⟨_, rfl⟩, hW, hsame.mono (by decide) (by decide)⟩
        show Q_law Z aDELAYED aREDELIVERED p1 q2 p3 h0 n0 _ T19.heap _
        rw [e19]
        exact ⟨rfl, N18⟩
      · show OwnGo p e below _ (s₁.setTop (mkF m 33 #[.val (.int p1), .val (.long q2), .second, .val (.int p3), .val (.int (p1 &&& (2147483647 : Int32))), .val (.long (0 : Int64)), .second, .unset] [(.long (0 : Int64)), (.int (p1 &&& (2147483647 : Int32)))]))
        obtain ⟨_, _, ⟨T20, L20, k20, n20⟩, -, X20, ⟨Lc20, hQ20, l20, y20, z20⟩, st20⟩ := Jvm.LawKit.callS X0 hx (y := (⟨"com/example/exdel/exdel/Keys$Index", "of", "(IJ)Lcom/example/exdel/exdel/Keys$Index;"⟩ : MethodName)) hown (mvT hZ (hw _ (List.mem_of_getElem? (i := 0) rfl))) (mvT hZ (hw _ (List.mem_of_getElem? (i := 1) rfl))) (mvT hZ (hw _ (List.mem_of_getElem? (i := 2) rfl))) (mvT hZ (hw _ (List.mem_of_getElem? (i := 3) rfl))) (by decide) (backOf (W := 0) (rm_of l Z a0 hw [] aDELAYED aREDELIVERED F0 (p1 &&& (2147483647 : Int32)) (0 : Int64) Value.null h0 n0 O0 (by simp [hc17])) hZ (hw _ (List.mem_of_getElem? (i := 3) rfl)) (hw _ (List.mem_of_getElem? (i := 2) rfl)) (by decide) (by decide)) (g := (mkF m 33 #[.val (.int p1), .val (.long q2), .second, .val (.int p3), .val (.int (p1 &&& (2147483647 : Int32))), .val (.long (0 : Int64)), .second, .unset] [(.long (0 : Int64)), (.int (p1 &&& (2147483647 : Int32)))])) rfl (by rw [hml]; rfl) (argsL := [(.int (p1 &&& (2147483647 : Int32))), (.long (0 : Int64))]) (rest := []) (lenOf pd_I_J__Lcom_example_exdel_exdel_Keys_Index_ rfl) rfl (by show 2 * 0 + _ ≤ _; exact Nat.le_of_eq rfl) (hb hby at_33) (fun _ _ => ⟨rfl, e0, (by decide : 0 + 0 ≤ _), (by decide : 0 + 0 ≤ _)⟩)
        dsimp only [Pt.U, Pt.locs, Pt.cells, Pt.slots] at X20 l20 y20 z20 st20 hQ20
        subst l20 y20 z20
        obtain ⟨rfl, Nq20, K20⟩ := hQ20
        have N20 := Fr.app N0 Nq20
        refine own_go st20 ?_
        show OwnGo p e below _ (T20.setTop (mkF m 36 #[.val (.int p1), .val (.long q2), .second, .val (.int p3), .val (.int (p1 &&& (2147483647 : Int32))), .val (.long (0 : Int64)), .second, .unset] [.null]))
        refine own_go (fun _ k => XS.astore X20.here hx rfl (hb hby at_36) rfl rfl (l' := #[.val (.int p1), .val (.long q2), .second, .val (.int p3), .val (.int (p1 &&& (2147483647 : Int32))), .val (.long (0 : Int64)), .second, .val .null]) rfl k) ?_
        show OwnGo p e below _ (T20.setTop (mkF m 38 #[.val (.int p1), .val (.long q2), .second, .val (.int p3), .val (.int (p1 &&& (2147483647 : Int32))), .val (.long (0 : Int64)), .second, .val .null] []))
        refine own_go (fun _ k => XS.iload X20.here hx rfl (hb hby at_38) rfl k) ?_
        show OwnGo p e below _ (T20.setTop (mkF m 40 #[.val (.int p1), .val (.long q2), .second, .val (.int p3), .val (.int (p1 &&& (2147483647 : Int32))), .val (.long (0 : Int64)), .second, .val .null] [(.int (p1 &&& (2147483647 : Int32)))]))
        refine own_go (fun _ k => XS.iconst X20.here hx rfl (hb hby at_40) k) ?_
        show OwnGo p e below _ (T20.setTop (mkF m 41 #[.val (.int p1), .val (.long q2), .second, .val (.int p3), .val (.int (p1 &&& (2147483647 : Int32))), .val (.long (0 : Int64)), .second, .val .null] [(.int (1 : Int32)), (.int (p1 &&& (2147483647 : Int32)))]))
        refine own_go (fun _ k => XS.icmpYes X20.here hx rfl (pc0 := 41) (pc' := 58) rfl (hb hby at_41) rfl (tlt (own_neg hc17)).1 (by decide) (by decide) k) ?_
        show OwnGo p e below _ (T20.setTop (mkF m 58 #[.val (.int p1), .val (.long q2), .second, .val (.int p3), .val (.int (p1 &&& (2147483647 : Int32))), .val (.long (0 : Int64)), .second, .val .null] []))
        refine own_go (fun _ k => XS.lload X20.here hx rfl (hb hby at_58) rfl k) ?_
        show OwnGo p e below _ (T20.setTop (mkF m 60 #[.val (.int p1), .val (.long q2), .second, .val (.int p3), .val (.int (p1 &&& (2147483647 : Int32))), .val (.long (0 : Int64)), .second, .val .null] [(.long (0 : Int64))]))
        refine own_go (fun _ k => XS.lconst X20.here hx rfl (hb hby at_60) k) ?_
        show OwnGo p e below _ (T20.setTop (mkF m 61 #[.val (.int p1), .val (.long q2), .second, .val (.int p3), .val (.int (p1 &&& (2147483647 : Int32))), .val (.long (0 : Int64)), .second, .val .null] [(.long (0 : Int64)), (.long (0 : Int64))]))
        refine own_go (fun _ k => XS.lcmp X20.here hx rfl (hb hby at_61) rfl k) ?_
        show OwnGo p e below _ (T20.setTop (mkF m 62 #[.val (.int p1), .val (.long q2), .second, .val (.int p3), .val (.int (p1 &&& (2147483647 : Int32))), .val (.long (0 : Int64)), .second, .val .null] [(.int (lcmpW (0 : Int64) (0 : Int64)))]))
        refine own_go (fun _ k => XS.ifNo X20.here hx rfl (hb hby at_62) rfl ((if0 _ _).trans (teq ((lw_eq _ _).mpr (by decide))).2) k) ?_
        show OwnGo p e below _ (T20.setTop (mkF m 65 #[.val (.int p1), .val (.long q2), .second, .val (.int p3), .val (.int (p1 &&& (2147483647 : Int32))), .val (.long (0 : Int64)), .second, .val .null] []))
        refine own_go (fun _ k => XS.aload X20.here hx rfl (hb hby at_65) rfl rfl k) ?_
        show OwnGo p e below _ (T20.setTop (mkF m 67 #[.val (.int p1), .val (.long q2), .second, .val (.int p3), .val (.int (p1 &&& (2147483647 : Int32))), .val (.long (0 : Int64)), .second, .val .null] [.null]))
        refine own_go (fun _ k => XS.ifnonnullNo X20.here hx rfl (hb hby at_67) rfl k) ?_
        show OwnGo p e below _ (T20.setTop (mkF m 70 #[.val (.int p1), .val (.long q2), .second, .val (.int p3), .val (.int (p1 &&& (2147483647 : Int32))), .val (.long (0 : Int64)), .second, .val .null] []))
        refine own_go (fun _ k => XS.iconst X20.here hx rfl (hb hby at_70) k) ?_
        show OwnGo p e below _ (T20.setTop (mkF m 71 #[.val (.int p1), .val (.long q2), .second, .val (.int p3), .val (.int (p1 &&& (2147483647 : Int32))), .val (.long (0 : Int64)), .second, .val .null] [(.int (1 : Int32))]))
        refine own_go (fun _ k => XS.goto X20.here hx rfl (pc0 := 71) (pc' := 75) rfl (hb hby at_71) (by decide) (by decide) k) ?_
        show OwnGo p e below _ (T20.setTop (mkF m 75 #[.val (.int p1), .val (.long q2), .second, .val (.int p3), .val (.int (p1 &&& (2147483647 : Int32))), .val (.long (0 : Int64)), .second, .val .null] [(.int (1 : Int32))]))
        obtain ⟨fs, hr, hrun, hended, hW, hsame⟩ := X20.leave (v := some (.int (1 : Int32))) (fun h => by rw [Bd.returns] at h; cases h)
        refine ⟨_, _, retOut X20 hx Bd.returns rfl (Or.inl ⟨rfl, Or.inr (Or.inl rfl), _, rfl⟩) (hb hby at_75) hr, hrun, hended, _, _, rfl, ?_, ⟨_, rfl⟩, hW, hsame.mono (by decide) (by decide)⟩
        show Q_law Z aDELAYED aREDELIVERED p1 q2 p3 h0 n0 _ T20.heap _
        rw [K20]
        exact ⟨rfl, N20⟩
  · refine own_go (fun _ k => XS.ifNo X0.here hx rfl (hb hby at_3) rfl ((if0 _ _).trans (feq hc5).1) k) ?_
    show OwnGo p e below _ (s₁.setTop (mkF m 6 #[.val (.int p1), .val (.long q2), .second, .val (.int p3), .unset, .unset, .unset, .unset] []))
    refine own_go (fun _ k => XS.iconst X0.here hx rfl (hb hby at_6) k) ?_
    show OwnGo p e below _ (s₁.setTop (mkF m 7 #[.val (.int p1), .val (.long q2), .second, .val (.int p3), .unset, .unset, .unset, .unset] [(.int (0 : Int32))]))
    refine own_go (fun _ k => XS.goto X0.here hx rfl (pc0 := 7) (pc' := 14) rfl (hb hby at_7) (by decide) (by decide) k) ?_
    show OwnGo p e below _ (s₁.setTop (mkF m 14 #[.val (.int p1), .val (.long q2), .second, .val (.int p3), .unset, .unset, .unset, .unset] [(.int (0 : Int32))]))
    refine own_go (fun _ k => XS.istore X0.here hx rfl (hb hby at_14) rfl (l' := #[.val (.int p1), .val (.long q2), .second, .val (.int p3), .val (.int (0 : Int32)), .unset, .unset, .unset]) rfl k) ?_
    show OwnGo p e below _ (s₁.setTop (mkF m 16 #[.val (.int p1), .val (.long q2), .second, .val (.int p3), .val (.int (0 : Int32)), .unset, .unset, .unset] []))
    refine own_go (fun _ k => XS.iloadN X0.here hx rfl (hb hby at_16) rfl k) ?_
    show OwnGo p e below _ (s₁.setTop (mkF m 17 #[.val (.int p1), .val (.long q2), .second, .val (.int p3), .val (.int (0 : Int32)), .unset, .unset, .unset] [(.int p3)]))
    refine own_go (fun _ k => XS.iconst X0.here hx rfl (hb hby at_17) k) ?_
    show OwnGo p e below _ (s₁.setTop (mkF m 18 #[.val (.int p1), .val (.long q2), .second, .val (.int p3), .val (.int (0 : Int32)), .unset, .unset, .unset] [(.int (2 : Int32)), (.int p3)]))
    refine own_go (fun _ k => XS.iand X0.here hx rfl (hb hby at_18) rfl k) ?_
    show OwnGo p e below _ (s₁.setTop (mkF m 19 #[.val (.int p1), .val (.long q2), .second, .val (.int p3), .val (.int (0 : Int32)), .unset, .unset, .unset] [(.int (p3 &&& (2 : Int32)))]))
    by_cases hc21 : (p3 &&& (2 : Int32)) = (0 : Int32)
    · refine own_go (fun _ k => XS.ifYes X0.here hx rfl (pc0 := 19) (pc' := 26) rfl (hb hby at_19) rfl ((if0 _ _).trans (teq hc21).1) (by decide) (by decide) k) ?_
      show OwnGo p e below _ (s₁.setTop (mkF m 26 #[.val (.int p1), .val (.long q2), .second, .val (.int p3), .val (.int (0 : Int32)), .unset, .unset, .unset] []))
      refine own_go (fun _ k => XS.lloadN X0.here hx rfl (hb hby at_26) rfl k) ?_
      show OwnGo p e below _ (s₁.setTop (mkF m 27 #[.val (.int p1), .val (.long q2), .second, .val (.int p3), .val (.int (0 : Int32)), .unset, .unset, .unset] [(.long q2)]))
      refine own_go (fun _ k => XS.lstore X0.here hx rfl (hb hby at_27) rfl (l' := #[.val (.int p1), .val (.long q2), .second, .val (.int p3), .val (.int (0 : Int32)), .val (.long q2), .second, .unset]) rfl k) ?_
      show OwnGo p e below _ (s₁.setTop (mkF m 29 #[.val (.int p1), .val (.long q2), .second, .val (.int p3), .val (.int (0 : Int32)), .val (.long q2), .second, .unset] []))
      refine own_go (fun _ k => XS.iload X0.here hx rfl (hb hby at_29) rfl k) ?_
      show OwnGo p e below _ (s₁.setTop (mkF m 31 #[.val (.int p1), .val (.long q2), .second, .val (.int p3), .val (.int (0 : Int32)), .val (.long q2), .second, .unset] [(.int (0 : Int32))]))
      refine own_go (fun _ k => XS.lload X0.here hx rfl (hb hby at_31) rfl k) ?_
      show OwnGo p e below _ (s₁.setTop (mkF m 33 #[.val (.int p1), .val (.long q2), .second, .val (.int p3), .val (.int (0 : Int32)), .val (.long q2), .second, .unset] [(.long q2), (.int (0 : Int32))]))
      by_cases hc22 : q2 = (0 : Int64)
      · show OwnGo p e below _ (s₁.setTop (mkF m 33 #[.val (.int p1), .val (.long q2), .second, .val (.int p3), .val (.int (0 : Int32)), .val (.long q2), .second, .unset] [(.long q2), (.int (0 : Int32))]))
        obtain ⟨_, _, ⟨T23, L23, k23, n23⟩, -, X23, ⟨Lc23, hQ23, l23, y23, z23⟩, st23⟩ := Jvm.LawKit.callS X0 hx (y := (⟨"com/example/exdel/exdel/Keys$Index", "of", "(IJ)Lcom/example/exdel/exdel/Keys$Index;"⟩ : MethodName)) hown (mvT hZ (hw _ (List.mem_of_getElem? (i := 0) rfl))) (mvT hZ (hw _ (List.mem_of_getElem? (i := 1) rfl))) (mvT hZ (hw _ (List.mem_of_getElem? (i := 2) rfl))) (mvT hZ (hw _ (List.mem_of_getElem? (i := 3) rfl))) (by decide) (backOf (W := 0) (rm_of l Z a0 hw [] aDELAYED aREDELIVERED F0 (0 : Int32) q2 Value.null h0 n0 O0 (by simp [hc22])) hZ (hw _ (List.mem_of_getElem? (i := 3) rfl)) (hw _ (List.mem_of_getElem? (i := 2) rfl)) (by decide) (by decide)) (g := (mkF m 33 #[.val (.int p1), .val (.long q2), .second, .val (.int p3), .val (.int (0 : Int32)), .val (.long q2), .second, .unset] [(.long q2), (.int (0 : Int32))])) rfl (by rw [hml]; rfl) (argsL := [(.int (0 : Int32)), (.long q2)]) (rest := []) (lenOf pd_I_J__Lcom_example_exdel_exdel_Keys_Index_ rfl) rfl (by show 2 * 0 + _ ≤ _; exact Nat.le_of_eq rfl) (hb hby at_33) (fun _ _ => ⟨rfl, e0, (by decide : 0 + 0 ≤ _), (by decide : 0 + 0 ≤ _)⟩)
        dsimp only [Pt.U, Pt.locs, Pt.cells, Pt.slots] at X23 l23 y23 z23 st23 hQ23
        subst l23 y23 z23
        obtain ⟨rfl, Nq23, K23⟩ := hQ23
        have N23 := Fr.app N0 Nq23
        refine own_go st23 ?_
        show OwnGo p e below _ (T23.setTop (mkF m 36 #[.val (.int p1), .val (.long q2), .second, .val (.int p3), .val (.int (0 : Int32)), .val (.long q2), .second, .unset] [.null]))
        refine own_go (fun _ k => XS.astore X23.here hx rfl (hb hby at_36) rfl rfl (l' := #[.val (.int p1), .val (.long q2), .second, .val (.int p3), .val (.int (0 : Int32)), .val (.long q2), .second, .val .null]) rfl k) ?_
        show OwnGo p e below _ (T23.setTop (mkF m 38 #[.val (.int p1), .val (.long q2), .second, .val (.int p3), .val (.int (0 : Int32)), .val (.long q2), .second, .val .null] []))
        refine own_go (fun _ k => XS.iload X23.here hx rfl (hb hby at_38) rfl k) ?_
        show OwnGo p e below _ (T23.setTop (mkF m 40 #[.val (.int p1), .val (.long q2), .second, .val (.int p3), .val (.int (0 : Int32)), .val (.long q2), .second, .val .null] [(.int (0 : Int32))]))
        refine own_go (fun _ k => XS.iconst X23.here hx rfl (hb hby at_40) k) ?_
        show OwnGo p e below _ (T23.setTop (mkF m 41 #[.val (.int p1), .val (.long q2), .second, .val (.int p3), .val (.int (0 : Int32)), .val (.long q2), .second, .val .null] [(.int (1 : Int32)), (.int (0 : Int32))]))
        refine own_go (fun _ k => XS.icmpYes X23.here hx rfl (pc0 := 41) (pc' := 58) rfl (hb hby at_41) rfl (by decide) (by decide) (by decide) k) ?_
        show OwnGo p e below _ (T23.setTop (mkF m 58 #[.val (.int p1), .val (.long q2), .second, .val (.int p3), .val (.int (0 : Int32)), .val (.long q2), .second, .val .null] []))
        refine own_go (fun _ k => XS.lload X23.here hx rfl (hb hby at_58) rfl k) ?_
        show OwnGo p e below _ (T23.setTop (mkF m 60 #[.val (.int p1), .val (.long q2), .second, .val (.int p3), .val (.int (0 : Int32)), .val (.long q2), .second, .val .null] [(.long q2)]))
        refine own_go (fun _ k => XS.lconst X23.here hx rfl (hb hby at_60) k) ?_
        show OwnGo p e below _ (T23.setTop (mkF m 61 #[.val (.int p1), .val (.long q2), .second, .val (.int p3), .val (.int (0 : Int32)), .val (.long q2), .second, .val .null] [(.long (0 : Int64)), (.long q2)]))
        refine own_go (fun _ k => XS.lcmp X23.here hx rfl (hb hby at_61) rfl k) ?_
        show OwnGo p e below _ (T23.setTop (mkF m 62 #[.val (.int p1), .val (.long q2), .second, .val (.int p3), .val (.int (0 : Int32)), .val (.long q2), .second, .val .null] [(.int (lcmpW q2 (0 : Int64)))]))
        refine own_go (fun _ k => XS.ifNo X23.here hx rfl (hb hby at_62) rfl ((if0 _ _).trans (teq ((lw_eq _ _).mpr hc22)).2) k) ?_
        show OwnGo p e below _ (T23.setTop (mkF m 65 #[.val (.int p1), .val (.long q2), .second, .val (.int p3), .val (.int (0 : Int32)), .val (.long q2), .second, .val .null] []))
        refine own_go (fun _ k => XS.aload X23.here hx rfl (hb hby at_65) rfl rfl k) ?_
        show OwnGo p e below _ (T23.setTop (mkF m 67 #[.val (.int p1), .val (.long q2), .second, .val (.int p3), .val (.int (0 : Int32)), .val (.long q2), .second, .val .null] [.null]))
        refine own_go (fun _ k => XS.ifnonnullNo X23.here hx rfl (hb hby at_67) rfl k) ?_
        show OwnGo p e below _ (T23.setTop (mkF m 70 #[.val (.int p1), .val (.long q2), .second, .val (.int p3), .val (.int (0 : Int32)), .val (.long q2), .second, .val .null] []))
        refine own_go (fun _ k => XS.iconst X23.here hx rfl (hb hby at_70) k) ?_
        show OwnGo p e below _ (T23.setTop (mkF m 71 #[.val (.int p1), .val (.long q2), .second, .val (.int p3), .val (.int (0 : Int32)), .val (.long q2), .second, .val .null] [(.int (1 : Int32))]))
        refine own_go (fun _ k => XS.goto X23.here hx rfl (pc0 := 71) (pc' := 75) rfl (hb hby at_71) (by decide) (by decide) k) ?_
        show OwnGo p e below _ (T23.setTop (mkF m 75 #[.val (.int p1), .val (.long q2), .second, .val (.int p3), .val (.int (0 : Int32)), .val (.long q2), .second, .val .null] [(.int (1 : Int32))]))
        obtain ⟨fs, hr, hrun, hended, hW, hsame⟩ := X23.leave (v := some (.int (1 : Int32))) (fun h => by rw [Bd.returns] at h; cases h)
        refine ⟨_, _, retOut X23 hx Bd.returns rfl (Or.inl ⟨rfl, Or.inr (Or.inl rfl), _, rfl⟩) (hb hby at_75) hr, hrun, hended, _, _, rfl, ?_, ⟨_, rfl⟩, hW, hsame.mono (by decide) (by decide)⟩
        show Q_law Z aDELAYED aREDELIVERED p1 q2 p3 h0 n0 _ T23.heap _
        rw [K23]
        exact ⟨rfl, N23⟩
      · show OwnGo p e below _ (s₁.setTop (mkF m 33 #[.val (.int p1), .val (.long q2), .second, .val (.int p3), .val (.int (0 : Int32)), .val (.long q2), .second, .unset] [(.long q2), (.int (0 : Int32))]))
        obtain ⟨_, _, ⟨T24, L24, k24, n24⟩, -, X24, ⟨Lc24, hQ24, l24, y24, z24⟩, st24⟩ := Jvm.LawKit.callS X0 hx (y := (⟨"com/example/exdel/exdel/Keys$Index", "of", "(IJ)Lcom/example/exdel/exdel/Keys$Index;"⟩ : MethodName)) hown (mvT hZ (hw _ (List.mem_of_getElem? (i := 0) rfl))) (mvT hZ (hw _ (List.mem_of_getElem? (i := 1) rfl))) (mvT hZ (hw _ (List.mem_of_getElem? (i := 2) rfl))) (mvT hZ (hw _ (List.mem_of_getElem? (i := 3) rfl))) (by decide) (backOf (W := 0) (rm_of l Z a0 hw [] aDELAYED aREDELIVERED F0 (0 : Int32) q2 (Value.ref aDELAYED) h0 n0 O0 (by simp [hc22])) hZ (hw _ (List.mem_of_getElem? (i := 3) rfl)) (hw _ (List.mem_of_getElem? (i := 2) rfl)) (by decide) (by decide)) (g := (mkF m 33 #[.val (.int p1), .val (.long q2), .second, .val (.int p3), .val (.int (0 : Int32)), .val (.long q2), .second, .unset] [(.long q2), (.int (0 : Int32))])) rfl (by rw [hml]; rfl) (argsL := [(.int (0 : Int32)), (.long q2)]) (rest := []) (lenOf pd_I_J__Lcom_example_exdel_exdel_Keys_Index_ rfl) rfl (by show 2 * 0 + _ ≤ _; exact Nat.le_of_eq rfl) (hb hby at_33) (fun _ _ => ⟨rfl, e0, (by decide : 0 + 0 ≤ _), (by decide : 0 + 0 ≤ _)⟩)
        dsimp only [Pt.U, Pt.locs, Pt.cells, Pt.slots] at X24 l24 y24 z24 st24 hQ24
        subst l24 y24 z24
        obtain ⟨rfl, Nq24, K24⟩ := hQ24
        have N24 := Fr.app N0 Nq24
        refine own_go st24 ?_
        show OwnGo p e below _ (T24.setTop (mkF m 36 #[.val (.int p1), .val (.long q2), .second, .val (.int p3), .val (.int (0 : Int32)), .val (.long q2), .second, .unset] [(.ref aDELAYED)]))
        refine own_go (fun _ k => XS.astore X24.here hx rfl (hb hby at_36) rfl rfl (l' := #[.val (.int p1), .val (.long q2), .second, .val (.int p3), .val (.int (0 : Int32)), .val (.long q2), .second, .val (.ref aDELAYED)]) rfl k) ?_
        show OwnGo p e below _ (T24.setTop (mkF m 38 #[.val (.int p1), .val (.long q2), .second, .val (.int p3), .val (.int (0 : Int32)), .val (.long q2), .second, .val (.ref aDELAYED)] []))
        refine own_go (fun _ k => XS.iload X24.here hx rfl (hb hby at_38) rfl k) ?_
        show OwnGo p e below _ (T24.setTop (mkF m 40 #[.val (.int p1), .val (.long q2), .second, .val (.int p3), .val (.int (0 : Int32)), .val (.long q2), .second, .val (.ref aDELAYED)] [(.int (0 : Int32))]))
        refine own_go (fun _ k => XS.iconst X24.here hx rfl (hb hby at_40) k) ?_
        show OwnGo p e below _ (T24.setTop (mkF m 41 #[.val (.int p1), .val (.long q2), .second, .val (.int p3), .val (.int (0 : Int32)), .val (.long q2), .second, .val (.ref aDELAYED)] [(.int (1 : Int32)), (.int (0 : Int32))]))
        refine own_go (fun _ k => XS.icmpYes X24.here hx rfl (pc0 := 41) (pc' := 58) rfl (hb hby at_41) rfl (by decide) (by decide) (by decide) k) ?_
        show OwnGo p e below _ (T24.setTop (mkF m 58 #[.val (.int p1), .val (.long q2), .second, .val (.int p3), .val (.int (0 : Int32)), .val (.long q2), .second, .val (.ref aDELAYED)] []))
        refine own_go (fun _ k => XS.lload X24.here hx rfl (hb hby at_58) rfl k) ?_
        show OwnGo p e below _ (T24.setTop (mkF m 60 #[.val (.int p1), .val (.long q2), .second, .val (.int p3), .val (.int (0 : Int32)), .val (.long q2), .second, .val (.ref aDELAYED)] [(.long q2)]))
        refine own_go (fun _ k => XS.lconst X24.here hx rfl (hb hby at_60) k) ?_
        show OwnGo p e below _ (T24.setTop (mkF m 61 #[.val (.int p1), .val (.long q2), .second, .val (.int p3), .val (.int (0 : Int32)), .val (.long q2), .second, .val (.ref aDELAYED)] [(.long (0 : Int64)), (.long q2)]))
        refine own_go (fun _ k => XS.lcmp X24.here hx rfl (hb hby at_61) rfl k) ?_
        show OwnGo p e below _ (T24.setTop (mkF m 62 #[.val (.int p1), .val (.long q2), .second, .val (.int p3), .val (.int (0 : Int32)), .val (.long q2), .second, .val (.ref aDELAYED)] [(.int (lcmpW q2 (0 : Int64)))]))
        refine own_go (fun _ k => XS.ifYes X24.here hx rfl (pc0 := 62) (pc' := 76) rfl (hb hby at_62) rfl ((if0 _ _).trans (feq (mt (lw_eq _ _).mp hc22)).2) (by decide) (by decide) k) ?_
        show OwnGo p e below _ (T24.setTop (mkF m 76 #[.val (.int p1), .val (.long q2), .second, .val (.int p3), .val (.int (0 : Int32)), .val (.long q2), .second, .val (.ref aDELAYED)] []))
        refine own_go (fun _ k => XS.aload X24.here hx rfl (hb hby at_76) rfl rfl k) ?_
        show OwnGo p e below _ (T24.setTop (mkF m 78 #[.val (.int p1), .val (.long q2), .second, .val (.int p3), .val (.int (0 : Int32)), .val (.long q2), .second, .val (.ref aDELAYED)] [(.ref aDELAYED)]))
        obtain ⟨T25, X25, e25, st25⟩ := getS X24 hx hZ hown (host := "") (hw _ (List.mem_of_getElem? (i := 6) rfl)) Via.refl K24 (F0.1.ext O0.2) (g := (mkF m 78 #[.val (.int p1), .val (.long q2), .second, .val (.int p3), .val (.int (0 : Int32)), .val (.long q2), .second, .val (.ref aDELAYED)] [(.ref aDELAYED)])) rfl (hb hby at_78)
        refine own_go st25 ?_
        show OwnGo p e below _ (T25.setTop (mkF m 81 #[.val (.int p1), .val (.long q2), .second, .val (.int p3), .val (.int (0 : Int32)), .val (.long q2), .second, .val (.ref aDELAYED)] [(.ref aDELAYED), (.ref aDELAYED)]))
        refine own_go (fun _ k => acmp X25 hx rfl (cd := .ne) (o := 7) (x := (.ref aDELAYED)) (y := (.ref aDELAYED)) (pc0 := 81) (pc' := 84) rfl rfl rfl (hb hby at_81) rfl (own_refeq _) (by decide) (by decide) k) ?_
        show OwnGo p e below _ (T25.setTop (mkF m 84 #[.val (.int p1), .val (.long q2), .second, .val (.int p3), .val (.int (0 : Int32)), .val (.long q2), .second, .val (.ref aDELAYED)] []))
        refine own_go (fun _ k => XS.iconst X25.here hx rfl (hb hby at_84) k) ?_
        show OwnGo p e below _ (T25.setTop (mkF m 85 #[.val (.int p1), .val (.long q2), .second, .val (.int p3), .val (.int (0 : Int32)), .val (.long q2), .second, .val (.ref aDELAYED)] [(.int (1 : Int32))]))
        refine own_go (fun _ k => XS.goto X25.here hx rfl (pc0 := 85) (pc' := 89) rfl (hb hby at_85) (by decide) (by decide) k) ?_
        show OwnGo p e below _ (T25.setTop (mkF m 89 #[.val (.int p1), .val (.long q2), .second, .val (.int p3), .val (.int (0 : Int32)), .val (.long q2), .second, .val (.ref aDELAYED)] [(.int (1 : Int32))]))
        obtain ⟨fs, hr, hrun, hended, hW, hsame⟩ := X25.leave (v := some (.int (1 : Int32))) (fun h => by rw [Bd.returns] at h; cases h)
        refine ⟨_, _, retOut X25 hx Bd.returns rfl (Or.inl ⟨rfl, Or.inr (Or.inl rfl), _, rfl⟩) (hb hby at_89) hr, hrun, hended, _, _, rfl, ?_, ⟨_, rfl⟩, hW, hsame.mono (by decide) (by decide)⟩
        show Q_law Z aDELAYED aREDELIVERED p1 q2 p3 h0 n0 _ T25.heap _
        rw [e25]
        exact ⟨rfl, N24⟩
    · refine own_go (fun _ k => XS.ifNo X0.here hx rfl (hb hby at_19) rfl ((if0 _ _).trans (feq hc21).1) k) ?_
      show OwnGo p e below _ (s₁.setTop (mkF m 22 #[.val (.int p1), .val (.long q2), .second, .val (.int p3), .val (.int (0 : Int32)), .unset, .unset, .unset] []))
      refine own_go (fun _ k => XS.lconst X0.here hx rfl (hb hby at_22) k) ?_
      show OwnGo p e below _ (s₁.setTop (mkF m 23 #[.val (.int p1), .val (.long q2), .second, .val (.int p3), .val (.int (0 : Int32)), .unset, .unset, .unset] [(.long (0 : Int64))]))
      refine own_go (fun _ k => XS.goto X0.here hx rfl (pc0 := 23) (pc' := 27) rfl (hb hby at_23) (by decide) (by decide) k) ?_
      show OwnGo p e below _ (s₁.setTop (mkF m 27 #[.val (.int p1), .val (.long q2), .second, .val (.int p3), .val (.int (0 : Int32)), .unset, .unset, .unset] [(.long (0 : Int64))]))
      refine own_go (fun _ k => XS.lstore X0.here hx rfl (hb hby at_27) rfl (l' := #[.val (.int p1), .val (.long q2), .second, .val (.int p3), .val (.int (0 : Int32)), .val (.long (0 : Int64)), .second, .unset]) rfl k) ?_
      show OwnGo p e below _ (s₁.setTop (mkF m 29 #[.val (.int p1), .val (.long q2), .second, .val (.int p3), .val (.int (0 : Int32)), .val (.long (0 : Int64)), .second, .unset] []))
      refine own_go (fun _ k => XS.iload X0.here hx rfl (hb hby at_29) rfl k) ?_
      show OwnGo p e below _ (s₁.setTop (mkF m 31 #[.val (.int p1), .val (.long q2), .second, .val (.int p3), .val (.int (0 : Int32)), .val (.long (0 : Int64)), .second, .unset] [(.int (0 : Int32))]))
      refine own_go (fun _ k => XS.lload X0.here hx rfl (hb hby at_31) rfl k) ?_
      show OwnGo p e below _ (s₁.setTop (mkF m 33 #[.val (.int p1), .val (.long q2), .second, .val (.int p3), .val (.int (0 : Int32)), .val (.long (0 : Int64)), .second, .unset] [(.long (0 : Int64)), (.int (0 : Int32))]))
      obtain ⟨_, _, ⟨T26, L26, k26, n26⟩, -, X26, ⟨Lc26, hQ26, l26, y26, z26⟩, st26⟩ := Jvm.LawKit.callS X0 hx (y := (⟨"com/example/exdel/exdel/Keys$Index", "of", "(IJ)Lcom/example/exdel/exdel/Keys$Index;"⟩ : MethodName)) hown (mvT hZ (hw _ (List.mem_of_getElem? (i := 0) rfl))) (mvT hZ (hw _ (List.mem_of_getElem? (i := 1) rfl))) (mvT hZ (hw _ (List.mem_of_getElem? (i := 2) rfl))) (mvT hZ (hw _ (List.mem_of_getElem? (i := 3) rfl))) (by decide) (backOf (W := 0) (rm_of l Z a0 hw [] aDELAYED aREDELIVERED F0 (0 : Int32) (0 : Int64) Value.null h0 n0 O0 (by simp [])) hZ (hw _ (List.mem_of_getElem? (i := 3) rfl)) (hw _ (List.mem_of_getElem? (i := 2) rfl)) (by decide) (by decide)) (g := (mkF m 33 #[.val (.int p1), .val (.long q2), .second, .val (.int p3), .val (.int (0 : Int32)), .val (.long (0 : Int64)), .second, .unset] [(.long (0 : Int64)), (.int (0 : Int32))])) rfl (by rw [hml]; rfl) (argsL := [(.int (0 : Int32)), (.long (0 : Int64))]) (rest := []) (lenOf pd_I_J__Lcom_example_exdel_exdel_Keys_Index_ rfl) rfl (by show 2 * 0 + _ ≤ _; exact Nat.le_of_eq rfl) (hb hby at_33) (fun _ _ => ⟨rfl, e0, (by decide : 0 + 0 ≤ _), (by decide : 0 + 0 ≤ _)⟩)
      dsimp only [Pt.U, Pt.locs, Pt.cells, Pt.slots] at X26 l26 y26 z26 st26 hQ26
      subst l26 y26 z26
      obtain ⟨rfl, Nq26, K26⟩ := hQ26
      have N26 := Fr.app N0 Nq26
      refine own_go st26 ?_
      show OwnGo p e below _ (T26.setTop (mkF m 36 #[.val (.int p1), .val (.long q2), .second, .val (.int p3), .val (.int (0 : Int32)), .val (.long (0 : Int64)), .second, .unset] [.null]))
      refine own_go (fun _ k => XS.astore X26.here hx rfl (hb hby at_36) rfl rfl (l' := #[.val (.int p1), .val (.long q2), .second, .val (.int p3), .val (.int (0 : Int32)), .val (.long (0 : Int64)), .second, .val .null]) rfl k) ?_
      show OwnGo p e below _ (T26.setTop (mkF m 38 #[.val (.int p1), .val (.long q2), .second, .val (.int p3), .val (.int (0 : Int32)), .val (.long (0 : Int64)), .second, .val .null] []))
      refine own_go (fun _ k => XS.iload X26.here hx rfl (hb hby at_38) rfl k) ?_
      show OwnGo p e below _ (T26.setTop (mkF m 40 #[.val (.int p1), .val (.long q2), .second, .val (.int p3), .val (.int (0 : Int32)), .val (.long (0 : Int64)), .second, .val .null] [(.int (0 : Int32))]))
      refine own_go (fun _ k => XS.iconst X26.here hx rfl (hb hby at_40) k) ?_
      show OwnGo p e below _ (T26.setTop (mkF m 41 #[.val (.int p1), .val (.long q2), .second, .val (.int p3), .val (.int (0 : Int32)), .val (.long (0 : Int64)), .second, .val .null] [(.int (1 : Int32)), (.int (0 : Int32))]))
      refine own_go (fun _ k => XS.icmpYes X26.here hx rfl (pc0 := 41) (pc' := 58) rfl (hb hby at_41) rfl (by decide) (by decide) (by decide) k) ?_
      show OwnGo p e below _ (T26.setTop (mkF m 58 #[.val (.int p1), .val (.long q2), .second, .val (.int p3), .val (.int (0 : Int32)), .val (.long (0 : Int64)), .second, .val .null] []))
      refine own_go (fun _ k => XS.lload X26.here hx rfl (hb hby at_58) rfl k) ?_
      show OwnGo p e below _ (T26.setTop (mkF m 60 #[.val (.int p1), .val (.long q2), .second, .val (.int p3), .val (.int (0 : Int32)), .val (.long (0 : Int64)), .second, .val .null] [(.long (0 : Int64))]))
      refine own_go (fun _ k => XS.lconst X26.here hx rfl (hb hby at_60) k) ?_
      show OwnGo p e below _ (T26.setTop (mkF m 61 #[.val (.int p1), .val (.long q2), .second, .val (.int p3), .val (.int (0 : Int32)), .val (.long (0 : Int64)), .second, .val .null] [(.long (0 : Int64)), (.long (0 : Int64))]))
      refine own_go (fun _ k => XS.lcmp X26.here hx rfl (hb hby at_61) rfl k) ?_
      show OwnGo p e below _ (T26.setTop (mkF m 62 #[.val (.int p1), .val (.long q2), .second, .val (.int p3), .val (.int (0 : Int32)), .val (.long (0 : Int64)), .second, .val .null] [(.int (lcmpW (0 : Int64) (0 : Int64)))]))
      refine own_go (fun _ k => XS.ifNo X26.here hx rfl (hb hby at_62) rfl ((if0 _ _).trans (teq ((lw_eq _ _).mpr (by decide))).2) k) ?_
      show OwnGo p e below _ (T26.setTop (mkF m 65 #[.val (.int p1), .val (.long q2), .second, .val (.int p3), .val (.int (0 : Int32)), .val (.long (0 : Int64)), .second, .val .null] []))
      refine own_go (fun _ k => XS.aload X26.here hx rfl (hb hby at_65) rfl rfl k) ?_
      show OwnGo p e below _ (T26.setTop (mkF m 67 #[.val (.int p1), .val (.long q2), .second, .val (.int p3), .val (.int (0 : Int32)), .val (.long (0 : Int64)), .second, .val .null] [.null]))
      refine own_go (fun _ k => XS.ifnonnullNo X26.here hx rfl (hb hby at_67) rfl k) ?_
      show OwnGo p e below _ (T26.setTop (mkF m 70 #[.val (.int p1), .val (.long q2), .second, .val (.int p3), .val (.int (0 : Int32)), .val (.long (0 : Int64)), .second, .val .null] []))
      refine own_go (fun _ k => XS.iconst X26.here hx rfl (hb hby at_70) k) ?_
      show OwnGo p e below _ (T26.setTop (mkF m 71 #[.val (.int p1), .val (.long q2), .second, .val (.int p3), .val (.int (0 : Int32)), .val (.long (0 : Int64)), .second, .val .null] [(.int (1 : Int32))]))
      refine own_go (fun _ k => XS.goto X26.here hx rfl (pc0 := 71) (pc' := 75) rfl (hb hby at_71) (by decide) (by decide) k) ?_
      show OwnGo p e below _ (T26.setTop (mkF m 75 #[.val (.int p1), .val (.long q2), .second, .val (.int p3), .val (.int (0 : Int32)), .val (.long (0 : Int64)), .second, .val .null] [(.int (1 : Int32))]))
      obtain ⟨fs, hr, hrun, hended, hW, hsame⟩ := X26.leave (v := some (.int (1 : Int32))) (fun h => by rw [Bd.returns] at h; cases h)
      refine ⟨_, _, retOut X26 hx Bd.returns rfl (Or.inl ⟨rfl, Or.inr (Or.inl rfl), _, rfl⟩) (hb hby at_75) hr, hrun, hended, _, _, rfl, ?_, ⟨_, rfl⟩, hW, hsame.mono (by decide) (by decide)⟩
      show Q_law Z aDELAYED aREDELIVERED p1 q2 p3 h0 n0 _ T26.heap _
      rw [K26]
      exact ⟨rfl, N26⟩
set_option maxRecDepth 65536 in
set_option maxHeartbeats 40000000 in
theorem comes_1 {Post : Tables → Env → Array Value → State → Outcome → State → Prop} (hpost : ∀ tb e args s v u, (limb_1_1.after args s (.returned v) u = true ∧ limb_1_2.after args s (.returned v) u = true ∧ True) → FrameEnd s (.returned v) u (Jvm.fieldLocs frame_1_writes args s ++ Jvm.arrayLocs frame_1_arrays args s ++ Jvm.staticLocs frame_1_statics s) 0 0 → Post tb e args s (.returned v) u) :
    ArmFor flags0 classFile x code maxLocals ret World_1 tables_1 room_1 Calls_1 rest_1 Pre_1 Post := by
  intro l hfl _ _ p e ha hc hk s m args below hf hA hF happ hP
  obtain ⟨hcalls, hrest, hpre⟩ := hP
  obtain ⟨-, -, -, hnamed, -, -, -, hat⟩ := (Spec.applies_iff hf).mp happ
  obtain ⟨hg, hn0⟩ := and_e (Cond.before_iff.mp (show (Jvm.Cond.and given_1 narrow_1).before args s = true from hpre))
  obtain ⟨h1, g0⟩ := and_e hg
  obtain ⟨t0, g1⟩ := and_e g0
  obtain ⟨t1, g2⟩ := and_e g1
  obtain ⟨w0, w1, w2, rfl⟩ : ∃ w0 w1 w2 : Value, args = #[w0, w1, w2] := by
    have hs : args.size = 3 := by simpa [Cond.value, given_1] using h1
    obtain ⟨L⟩ := args
    match L, hs with
    | [w0, w1, w2], _ => exact ⟨w0, w1, w2, rfl⟩
  have hw := fun d (hd : d ∈ tables_1) => atoms_spec (ws := Jvm.Cond.code x code maxLocals ret :: tables_1) hat d (List.mem_cons_of_mem _ hd)
  have hfit : Fit s := fun {y c} hc i hi => by
    obtain ⟨ha, rfl⟩ := Array.getElem?_eq_some_iff.mp hc
    have q := List.all_eq_true.mp ((Array.all_eq_true_iff_forall_mem.mp hF) _ (Array.getElem_mem ha)) i (List.mem_range.mpr hi)
    simpa [Array.getElem?_eq_getElem hi] using q
  obtain ⟨i0, ev0⟩ := is_v t0
  obtain rfl : w0 = (.int i0) := Option.some.inj ev0
  obtain ⟨i1, ev1⟩ := isL_v t1
  obtain rfl : w1 = (.long i1) := Option.some.inj ev1
  obtain ⟨i2, ev2⟩ := is_v g2
  obtain rfl : w2 = (.int i2) := Option.some.inj ev2
  obtain ⟨c0, hn1⟩ := and_e hn0
  obtain ⟨aDELAYED, ev_aDELAYED⟩ := exa_v c0
  obtain ⟨aREDELIVERED, ev_aREDELIVERED⟩ := exa_v hn1
  have F0 : OwnFacts s aDELAYED aREDELIVERED := ⟨(Sta.start ev_aDELAYED (Or.inr ⟨(hw _ (List.mem_of_getElem? (i := 2) rfl)), (hw _ (List.mem_of_getElem? (i := 5) rfl))⟩)), (Exa.start ev_aDELAYED c0), (Sta.start ev_aREDELIVERED (Or.inr ⟨(hw _ (List.mem_of_getElem? (i := 2) rfl)), (hw _ (List.mem_of_getElem? (i := 9) rfl))⟩)), (Exa.start ev_aREDELIVERED hn1)⟩
  obtain ⟨n, o, h1, h2, h3, _, L, rfl, ⟨rfl, N⟩, hq⟩ := rm_law l s _ hw tables_1 aDELAYED aREDELIVERED F0 i0 i1 i2 s.heap s.heap.size (Old.start s) p e ha hc hk s m _ below hf ((Spec.applies_iff_loose hf).mp happ).1 ⟨rfl, State.Warmed39.refl s, rfl⟩ trivial
  refine ⟨n, _, h1, h2, h3, hpost _ _ _ _ _ _ ⟨Cond.after_iff.mpr rfl, Cond.after_iff.mpr (eq_i res_at (Term.int_eval (1)) rfl), trivial⟩ ⟨hq.1, hq.2.1, (hq.2.2.sift fun y hy => Or.inr (N y hy)).mono (by decide) (by decide)⟩⟩
theorem main_1_1 : Claimed_1_1 := comes_1 fun _ _ _ _ _ _ h hF => ⟨h.1, hF⟩
theorem main_1_2 : Claimed_1_2 := comes_1 fun _ _ _ _ _ _ h hF => ⟨h.2.1, hF⟩
end Jvm.Pilot.@@N@@
namespace Jvm.Pilot.@@N@@
open Jvm Jvm.ClassFile Sem Op Lib Jvm.Free Jvm.Stand Jvm.Pilot.@@N@@.Jvm.D
/-! MADE BY PROGRAM (witnessworld.py) out of the Statement's table words and the real class files: 12 classes; the members and pool entries that the words name. The judged class is class 1, her method 1. -/
namespace start1
open Jvm.ClassFile
def u (s : String) : CpInfo := .utf8 (stringToUtf16 s)
/-- a pool by its gaps: so many unusable entries, then the entry; so many at the end -/
def gap : Nat → List CpInfo → List CpInfo
  | 0, r => r
  | n + 1, r => .unusable :: gap n r
def poolList (es : List (Nat × CpInfo)) (last : Nat) : List CpInfo := es.foldr (fun e r => gap e.1 (e.2 :: r)) (gap last [])
def pool (es : List (Nat × CpInfo)) (last : Nat) : Array CpInfo := ⟨poolList es last⟩
def fileOf (pool : Array CpInfo) (this : Nat) (attrs : Array Attribute := #[]) (ms : Array MethodInfo := #[]) (fl : Nat := 33) (sup : Nat := 0) (ifs : Array Nat := #[]) (fds : Array FieldInfo := #[]) : ClassFile where
  minorVersion := 0
  majorVersion := 65
  constantPool := pool
  accessFlags := fl
  thisClass := this
  superClass := sup
  interfaces := ifs
  fields := fds
  methods := ms
  attributes := attrs
def plain (name : String) (sup : Option ClassId) : Class where
  name := name
  kind := .ordinary
  loader := none
  accessFlags := 33
  super := sup
  interfaces := #[]
  cf := none
  fields := #[]
  methods := #[]
  instanceTypes := #[]
  staticTypes := #[]
  resolved := #[]
  callSites := []
  init := .initialized
  statics := none
  mirror := none

def pool0 : Array CpInfo := pool [(5, u "<init>"), (0, u "()V"), (1, .class_ 10), (1, u "java/lang/Object")] 113

def k0m0 : Method := { name := "<init>", desc := "()V", sig := { parameters := [], returnType := none }, accessFlags := 1, code := none }
/-- java/lang/Object -/
def k0 : Class := { plain "java/lang/Object" none with
  accessFlags := 33
  interfaces := #[]
  cf := some (fileOf pool0 8 #[] #[{ accessFlags := 1, nameIndex := 5, descriptorIndex := 6, attributes := #[] }] 33 0 #[] #[])
  fields := #[]
  methods := #[k0m0]
  instanceTypes := #[]
  staticTypes := #[]
  resolved := Array.replicate 124 none
  statics := none }

def pool1 : Array CpInfo := pool [(2, .class_ 4), (1, u "java/lang/Object"), (0, u "<init>"), (0, u "()V"), (0, .integer 2147483647), (0, .methodref 9 10), (0, .class_ 11), (0, .nameAndType 12 13), (0, u "com/example/exdel/exdel/Keys$Index"), (0, u "of"), (0, u "(IJ)Lcom/example/exdel/exdel/Keys$Index;"), (0, .fieldref 9 15), (0, .nameAndType 16 17), (0, u "REDELIVERED"), (0, u "Lcom/example/exdel/exdel/Keys$Index;"), (0, .fieldref 9 19), (0, .nameAndType 20 17), (0, u "DELAYED"), (0, .class_ 22), (0, u "com/example/exdel/exdel/IndexOfPinLaw"), (2, u "law"), (0, u "(IJI)Z")] 7

def k1m0 : Method := { name := "<init>", desc := "()V", sig := { parameters := [], returnType := none }, accessFlags := 2, code := none }
def k1c1 : Code := { maxStack := 4, maxLocals := 8, code := code, exceptionTable := #[], attributes := #[] }
def k1m1 : Method := { name := "law", desc := "(IJI)Z", sig := { parameters := [.int, .long, .int], returnType := some .boolean }, accessFlags := 9, code := some k1c1 }
/-- com/example/exdel/exdel/IndexOfPinLaw -/
def k1 : Class := { plain "com/example/exdel/exdel/IndexOfPinLaw" (some 0) with
  accessFlags := 49
  interfaces := #[]
  cf := some (fileOf pool1 21 #[] #[{ accessFlags := 2, nameIndex := 5, descriptorIndex := 6, attributes := #[] }, { accessFlags := 9, nameIndex := 25, descriptorIndex := 26, attributes := #[] }] 49 2 #[] #[])
  fields := #[]
  methods := #[k1m0, k1m1]
  instanceTypes := #[]
  staticTypes := #[]
  resolved := Array.replicate 34 none
  statics := none }

def pool2 : Array CpInfo := pool [(1, .class_ 2), (0, u "java/lang/constant/Constable"), (0, .class_ 4), (0, u "java/lang/Object")] 6

/-- java/lang/constant/Constable -/
def k2 : Class := { plain "java/lang/constant/Constable" (some 0) with
  accessFlags := 1537
  interfaces := #[]
  cf := some (fileOf pool2 1 #[] #[] 1537 3 #[] #[])
  fields := #[]
  methods := #[]
  instanceTypes := #[]
  staticTypes := #[]
  resolved := Array.replicate 11 none
  statics := none }

def pool3 : Array CpInfo := pool [(1, .class_ 2), (0, u "java/lang/Comparable"), (0, .class_ 4), (0, u "java/lang/Object")] 7

/-- java/lang/Comparable -/
def k3 : Class := { plain "java/lang/Comparable" (some 0) with
  accessFlags := 1537
  interfaces := #[]
  cf := some (fileOf pool3 1 #[] #[] 1537 3 #[] #[])
  fields := #[]
  methods := #[]
  instanceTypes := #[]
  staticTypes := #[]
  resolved := Array.replicate 12 none
  statics := none }

def pool4 : Array CpInfo := pool [(1, .class_ 2), (0, u "java/io/Serializable"), (0, .class_ 4), (0, u "java/lang/Object")] 2

/-- java/io/Serializable -/
def k4 : Class := { plain "java/io/Serializable" (some 0) with
  accessFlags := 1537
  interfaces := #[]
  cf := some (fileOf pool4 1 #[] #[] 1537 3 #[] #[])
  fields := #[]
  methods := #[]
  instanceTypes := #[]
  staticTypes := #[]
  resolved := Array.replicate 7 none
  statics := none }

def pool5 : Array CpInfo := pool [(2, .class_ 4), (1, u "java/lang/Enum"), (0, u "name"), (0, u "Ljava/lang/String;"), (2, u "ordinal"), (0, u "I"), (1, .class_ 14), (1, u "java/lang/Object"), (4, u "hash"), (86, .class_ 108), (1, u "java/lang/Enum$EnumDesc"), (2, .class_ 112), (0, u "java/lang/constant/Constable"), (0, .class_ 114), (0, u "java/lang/Comparable"), (0, .class_ 116), (0, u "java/io/Serializable")] 87

/-- java/lang/Enum -/
def k5 : Class := { plain "java/lang/Enum" (some 0) with
  accessFlags := 1057
  interfaces := #[2, 3, 4]
  cf := some (fileOf pool5 2 #[.nestMembers #[106]] #[] 1057 12 #[111, 113, 115] #[{ accessFlags := 18, nameIndex := 5, descriptorIndex := 6, attributes := #[] }, { accessFlags := 18, nameIndex := 9, descriptorIndex := 10, attributes := #[] }, { accessFlags := 2, nameIndex := 19, descriptorIndex := 10, attributes := #[] }])
  fields := #[{ name := "name", type := (.object "java/lang/String"), accessFlags := 18, slot := 0, constantValue := 0 }, { name := "ordinal", type := .int, accessFlags := 18, slot := 1, constantValue := 0 }, { name := "hash", type := .int, accessFlags := 2, slot := 2, constantValue := 0 }]
  methods := #[]
  instanceTypes := #[(.object "java/lang/String"), .int, .int]
  staticTypes := #[]
  resolved := Array.replicate 204 none
  statics := none }

def pool6 : Array CpInfo := pool [(1, .class_ 2), (0, u "com/example/exdel/exdel/Keys$Index"), (0, .fieldref 1 4), (0, .nameAndType 5 6), (0, u "DELAYED"), (0, u "Lcom/example/exdel/exdel/Keys$Index;"), (0, .fieldref 1 8), (0, .nameAndType 9 6), (0, u "REDELIVERED"), (2, u "$VALUES"), (0, u "[Lcom/example/exdel/exdel/Keys$Index;"), (6, .class_ 22), (1, u "java/lang/Enum"), (8, u "kind"), (0, u "C"), (5, .class_ 40), (1, u "com/example/exdel/exdel/Keys"), (18, u "of"), (0, u "(IJ)Lcom/example/exdel/exdel/Keys$Index;")] 11

def k6c0 : Code := { maxStack := 4, maxLocals := 3, code := prog_7_method_4_code, exceptionTable := #[], attributes := #[] }
def k6m0 : Method := { name := "of", desc := "(IJ)Lcom/example/exdel/exdel/Keys$Index;", sig := { parameters := [.int, .long], returnType := some (.object "com/example/exdel/exdel/Keys$Index") }, accessFlags := 8, code := some k6c0 }
/-- com/example/exdel/exdel/Keys$Index -/
def k6 : Class := { plain "com/example/exdel/exdel/Keys$Index" (some 5) with
  accessFlags := 16432
  interfaces := #[]
  cf := some (fileOf pool6 1 #[.nestHost 38] #[{ accessFlags := 8, nameIndex := 59, descriptorIndex := 60, attributes := #[] }] 16432 20 #[] #[{ accessFlags := 16409, nameIndex := 5, descriptorIndex := 6, attributes := #[] }, { accessFlags := 16409, nameIndex := 9, descriptorIndex := 6, attributes := #[] }, { accessFlags := 18, nameIndex := 31, descriptorIndex := 32, attributes := #[] }, { accessFlags := 4122, nameIndex := 12, descriptorIndex := 13, attributes := #[] }])
  fields := #[{ name := "DELAYED", type := (.object "com/example/exdel/exdel/Keys$Index"), accessFlags := 16409, slot := 0, constantValue := 0 }, { name := "REDELIVERED", type := (.object "com/example/exdel/exdel/Keys$Index"), accessFlags := 16409, slot := 1, constantValue := 0 }, { name := "kind", type := .char, accessFlags := 18, slot := 3, constantValue := 0 }, { name := "$VALUES", type := (.array (.object "com/example/exdel/exdel/Keys$Index")), accessFlags := 4122, slot := 2, constantValue := 0 }]
  methods := #[k6m0]
  instanceTypes := #[(.object "java/lang/String"), .int, .int, .char]
  staticTypes := #[(.object "com/example/exdel/exdel/Keys$Index"), (.object "com/example/exdel/exdel/Keys$Index"), (.array (.object "com/example/exdel/exdel/Keys$Index"))]
  resolved := Array.replicate 72 none
  statics := some 0 }

def pool7 : Array CpInfo := pool [(1, u "java/lang/Cloneable"), (0, .class_ 1), (0, u "java/lang/Object"), (0, .class_ 3)] 3

/-- java/lang/Cloneable -/
def k7 : Class := { plain "java/lang/Cloneable" (some 0) with
  accessFlags := 1537
  interfaces := #[]
  cf := some (fileOf pool7 2 #[] #[] 1537 4 #[] #[])
  fields := #[]
  methods := #[]
  instanceTypes := #[]
  staticTypes := #[]
  resolved := Array.replicate 8 none
  statics := none }

/-- the primitive byte -/
def k8 : Class := { plain "byte" none with kind := .primitive 'B', accessFlags := 0x411 }
/-- [B -/
def k9 : Class := { plain "[B" (some 0) with kind := .array 8 .byte, interfaces := #[7, 4], accessFlags := 1041 }

/-- the primitive int -/
def k10 : Class := { plain "int" none with kind := .primitive 'I', accessFlags := 0x411 }
/-- [I -/
def k11 : Class := { plain "[I" (some 0) with kind := .array 10 .int, interfaces := #[7, 4], accessFlags := 1041 }

def heap : Heap := #[{ cls := 6, slots := #[.ref 1, .ref 2, .null], vm := .statics 6 },
  { cls := 6, slots := #[.null, .int 0, .int 0, .int 0], vm := .none },
  { cls := 6, slots := #[.null, .int 0, .int 0, .int 0], vm := .none }]
def classes : Array Class := #[k0, k1, k2, k3, k4, k5, k6, k7, k8, k9, k10, k11]
def interned : List (Array UInt16 × Addr) := []
def slotsUsed : Nat := 11
def theMethod : MethodId := ⟨1, 1⟩
def args0 : Array Value := #[.int 5, .long 7, .int 0]
def aboutOver (below : List Frame) : State where
  vm := { classes := classes, interned := interned.toArray }
  heap := heap
  slotsUsed := slotsUsed
  threads := #[{ frames := .invoking theMethod args0 :: below }]
def below0 : List Frame := [.native { method := ⟨0, 0⟩, args := #[] }]
def about1 : State := aboutOver below0
def p0 : Program := .bare "" "" ""
def e0 : Env := launch0.env 0 0 0
theorem w_frames : about1.frames = Frame.invoking theMethod args0 :: below0 := rfl
set_option maxRecDepth 65536 in
theorem w_args : argsFit about1.vm theMethod args0 = true := by decide +kernel
set_option maxRecDepth 65536 in
theorem w_heap : heapFits about1 = true := by decide +kernel
set_option maxRecDepth 65536 in
theorem w_runnable : about1.curStatus? = some .runnable := by decide +kernel
set_option maxRecDepth 65536 in
theorem w_alone : about1.alone = true := by decide +kernel
set_option maxRecDepth 65536 in
theorem w_named : about1.methodNamed? x = some theMethod := by decide +kernel
set_option maxRecDepth 65536 in
theorem w_hears : about1.hears theMethod below0 = true := by decide +kernel
set_option maxRecDepth 65536 in
theorem w_ripe : about1.ripe theMethod args0 below0 = true := by decide +kernel
theorem w_running : about1.status = .running := rfl
set_option maxRecDepth 65536 in
theorem w_room : about1.hasRoom e0.platform room_1 = true :=
  launch0.hasRoom_least _ room_1 (by decide +kernel) (by decide +kernel) (by decide +kernel) (by decide +kernel) (by decide +kernel) (by decide +kernel)
theorem allAtoms_all (ts : List Jvm.Cond) (a : Array Jvm.Value) (st : Jvm.State) : (allAtoms ts).before a st = ts.all (fun c => c.before a st) := by
  induction ts with
  | nil => rfl
  | cons c t ih =>
    show (Jvm.Cond.and c (allAtoms t)).before a st = _
    rw [Jvm.Cond.before_and, ih, List.all_cons]
def words1 : List Jvm.Cond := Jvm.Cond.code x code maxLocals ret :: tables_1
/-- a 'code' word, met by the world's own term for the bytes: nothing is compared byte by byte -/
theorem code_word {y : MethodName} {bytes : ByteArray} {mx : Nat} {rt : Option FieldType} {a : Array Value} {s : State} {m : MethodId} {meth : Method} {c : Code} (h1 : s.methodNamed? y = some m) (h2 : s.vm.method? m = some meth) (h3 : meth.code = some c) (h4 : c.code = bytes)
    (h5 : (c.maxLocals == mx && c.exceptionTable.isEmpty && decide (c.maxStack ≤ mostOperands) && decide (meth.sig.returnType = rt) && !meth.locks && decide (parseMethodDescriptor y.desc = some meth.sig)) = true) : (Jvm.Cond.code y bytes mx rt).before a s = true := by
  simp only [Bool.and_eq_true, beq_iff_eq, Bool.not_eq_true', decide_eq_true_eq] at h5
  obtain ⟨⟨⟨⟨⟨g1, g2⟩, g3⟩, g4⟩, g5⟩, g6⟩ := h5
  simp [Cond.before, Cond.holds, Cond.value, h1, h2, h3, h4, g1, g2, g3, g4, g5, g6]
def isCode : Jvm.Cond → Bool
  | .code _ _ _ _ => true
  | _ => false
theorem all_split {L : List Jvm.Cond} {P : Jvm.Cond → Bool} (h1 : L.all (fun c => isCode c || P c) = true) (h2 : ∀ c ∈ L.filter isCode, P c = true) : L.all P = true := by
  refine List.all_eq_true.mpr fun c hc => ?_
  have h := List.all_eq_true.mp h1 c hc
  rcases Bool.eq_false_or_eq_true (isCode c) with hi | hi
  · exact h2 c (List.mem_filter.mpr ⟨hc, hi⟩)
  · simpa [hi] using h
set_option maxRecDepth 65536 in
theorem w_c0 : (Jvm.Cond.code x code maxLocals ret).before args0 about1 = true := code_word (m := ⟨1, 1⟩) (meth := k1m1) (c := k1c1) (by decide +kernel) rfl rfl rfl (by decide +kernel)
set_option maxRecDepth 65536 in
theorem w_c1 : (Jvm.Cond.code ({ cls := "com/example/exdel/exdel/Keys$Index", name := "of", desc := "(IJ)Lcom/example/exdel/exdel/Keys$Index;" } : Jvm.MethodName) prog_7_method_4_code (3 : Nat) (Option.some (Jvm.ClassFile.FieldType.object "com/example/exdel/exdel/Keys$Index"))).before args0 about1 = true := code_word (m := ⟨6, 0⟩) (meth := k6m0) (c := k6c0) (by decide +kernel) rfl rfl rfl (by decide +kernel)
def codes1 : List Jvm.Cond := [Jvm.Cond.code x code maxLocals ret, Jvm.Cond.code ({ cls := "com/example/exdel/exdel/Keys$Index", name := "of", desc := "(IJ)Lcom/example/exdel/exdel/Keys$Index;" } : Jvm.MethodName) prog_7_method_4_code (3 : Nat) (Option.some (Jvm.ClassFile.FieldType.object "com/example/exdel/exdel/Keys$Index"))]
set_option maxRecDepth 65536 in
theorem codes_eq : words1.filter isCode = codes1 := rfl
theorem w_codes : ∀ c ∈ words1.filter isCode, c.before args0 about1 = true := by
  rw [codes_eq]
  intro c hc
  simp only [codes1, List.mem_cons, List.not_mem_nil, or_false] at hc
  rcases hc with rfl | rfl
  · exact w_c0
  · exact w_c1
set_option maxRecDepth 65536 in
theorem w_t1 : words1.all (fun c => isCode c || c.before args0 about1) = true := by decide +kernel
theorem w_tables : (allAtoms (Jvm.Cond.code x code maxLocals ret :: tables_1)).before args0 about1 = true := by
  rw [allAtoms_all]
  show words1.all (fun c => c.before args0 about1) = true
  refine all_split ?_ w_codes
  rw [w_t1]
set_option maxRecDepth 65536 in
theorem w_case : (Jvm.Cond.and given_1 narrow_1).before args0 about1 = true := by decide +kernel
theorem w_applies : (headSpec (Jvm.Cond.code x code maxLocals ret :: tables_1) room_1).applies x e0.platform about1 = true :=
  (Spec.applies_iff w_frames).mpr ⟨w_running, w_runnable, w_alone, w_named, w_hears, w_ripe, w_room, w_tables⟩
theorem atStart : AtStart classFile x code maxLocals ret World_1 tables_1 room_1 Calls_1 rest_1 Pre_1 launch0 p0 e0 about1 theMethod args0 below0 :=
  ⟨lists_1, trivial, launch0.admits_env _ _ _, launch0.least_env, fairChoices_fair.cas, fairChoices_fair.clock, w_frames, w_args, w_heap, w_applies, trivial, trivial, w_case⟩
end start1
theorem witness_1 : WitnessClaimed_1 := ⟨start1.p0, start1.e0, start1.about1, start1.theMethod, start1.args0, start1.below0, start1.atStart⟩
end Jvm.Pilot.@@N@@

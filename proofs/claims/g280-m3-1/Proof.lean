import JvmDerived
import JvmDerived.Pilot.@@N@@Statement
import JvmDerived.Pilot.@@N@@Code
set_option linter.unusedVariables false
set_option linter.unusedSimpArgs false
@@BLOCK:NumsL.lean.txt@@
namespace Jvm.Pilot.@@N@@
open Jvm Jvm.ClassFile Sem Op Lib Jvm.Free Jvm.Stand Jvm.LawKit Jvm.RoadKit Bundle Jvm.Pilot.@@N@@.Jvm.D
/-- from the state A the body's walk comes to an end of which Q tells -/
def OwnGo (p : Program) (e : Env) (below : List Frame) (Q : Outcome → State → Prop) (A : State) : Prop :=
  ∃ s₂ o, Steps p.tables e below A s₂ ∧ s₂.status = .running ∧ Ended s₂ below o ∧ Q o s₂
theorem own_go {p : Program} {e : Env} {below : List Frame} {Q : Outcome → State → Prop} {A B : State} (st : ∀ t, Steps p.tables e below B t → Steps p.tables e below A t) (h : OwnGo p e below Q B) : OwnGo p e below Q A := by
  obtain ⟨s₂, o, h1, h2⟩ := h
  exact ⟨s₂, o, st _ h1, h2⟩
theorem own_fldI {args : Array Value} {s : State} {t : Term} {C n d : String} {k : Int32} {a : Addr} (ev : t.eval args s none [] s = some (.ref a)) (h : (Jvm.Cond.eq (Term.field t C n d) (Term.int k)).value args s none s [] = some true) : Fld s s.heap a C n d (.int k) := by
  apply Fld.start
  have q := fld_at (C := C) (n := n) (dd := d) ev
  cases hf : s.fieldOf? a C n d with
  | none => rw [hf] at q; simp [Cond.value, q] at h
  | some v => rw [hf] at q; cases v <;> simp [Cond.value, q, Term.int_eval] at h; rw [h]
theorem own_fldL {args : Array Value} {s : State} {t : Term} {C n d : String} {k : Int64} {a : Addr} (ev : t.eval args s none [] s = some (.ref a)) (h : (Jvm.Cond.eq (Term.field t C n d) (Term.long k)).value args s none s [] = some true) : Fld s s.heap a C n d (.long k) := by
  apply Fld.start
  have q := fld_at (C := C) (n := n) (dd := d) ev
  cases hf : s.fieldOf? a C n d with
  | none => rw [hf] at q; simp [Cond.value, q] at h
  | some v => rw [hf] at q; cases v <;> simp [Cond.value, q, long_at] at h; rw [h]
theorem own_refne {a b : Addr} (h : a ≠ b) : decide (Value.ref a = Value.ref b) = false := decide_eq_false fun q => h (Value.ref.inj q)
theorem own_refeq (a : Addr) : decide (Value.ref a = Value.ref a) = true := decide_eq_true rfl
theorem own_rn (a : Addr) : decide (Value.ref a = Value.null) = false := decide_eq_false fun q => by cases q
theorem own_nr (a : Addr) : decide (Value.null = Value.ref a) = false := decide_eq_false fun q => by cases q
theorem own_narb (x : Int32) : nar .byte (x.toInt8.toInt32) = x.toInt8.toInt32 := by simp [nar]
theorem own_selp {Z s : State} {a0 args : Array Value} {y : MethodName} {n : Nat} (hZ : Z.Warmed39 s.vm) (wi : (Jvm.Cond.instantiable y.cls n).before a0 Z = true) (wp : (Jvm.Cond.privateMethod y).before a0 Z = true) (wm : (Jvm.Cond.instanceMethod y).before a0 Z = true)
    (hy : y.cls ≠ "java/lang/invoke/MethodHandle" ∧ y.cls ≠ "java/lang/invoke/VarHandle") : (Jvm.Cond.selects y.cls y y).before args s = true := by
  obtain ⟨c, k, h1, h2, -, h4, -⟩ := Cond.instantiable_spec (mv hZ wi : (Jvm.Cond.instantiable y.cls n).before args s = true)
  exact selects_self_of_private h1 h2 (by revert h4; cases k.isInterface <;> simp) (Cond.privateMethod_at (mvP hZ wp (args := args))) (mv hZ wm) hy
theorem own_monoW {s : State} {o : Outcome} {t : State} {L : List Loc} {k n k' n' : Nat} (h : ReturnedEndW s o t L k n) (hk : k ≤ k') (hn : n ≤ n') : ReturnedEndW s o t L k' n' := ⟨h.1, h.2.1, h.2.2.1, h.2.2.2.mono hk hn⟩
theorem own_newlt {a b k : Nat} (q : a < k) (g : k ≤ b) : a ≠ b := Nat.ne_of_lt (Nat.lt_of_lt_of_le q g)
theorem own_sz {Z : State} {n0 : Nat} {h : Heap} (O : Old Z n0 h) : n0 ≤ h.size := O.1 ▸ O.2.1
theorem own_newne {a b : Addr} {h : Heap} (g : b = h.size) (q : a < h.size) : a ≠ b := fun z => by rw [z, g] at q; exact Nat.lt_irrefl _ q
def OwnFacts (Z : State) (aIDENTICAL aCONTAINMENT aPARTIAL aA_TO_B aB_TO_A aBOTH aNONE aMIRROR aTEMPLATE_OR_PLAGIARISM aARCHIVE_PAGE aLINK_LIST_PART aSAME_SITE_RELATED aCITATION_OR_SPAM aSHARED_TEXT_OR_PLAGIARISM aSW : Addr) (kSW : ClassId) : Prop := (Sta Z Z.heap "com/example/page_copy_finder/pagecopyfinder/copies/PairKind" "IDENTICAL" "Lcom/example/page_copy_finder/pagecopyfinder/copies/PairKind;" (.ref aIDENTICAL)) ∧ (Exa Z Z.heap aIDENTICAL "com/example/page_copy_finder/pagecopyfinder/copies/PairKind") ∧ (Sta Z Z.heap "com/example/page_copy_finder/pagecopyfinder/copies/PairKind" "CONTAINMENT" "Lcom/example/page_copy_finder/pagecopyfinder/copies/PairKind;" (.ref aCONTAINMENT)) ∧ (Exa Z Z.heap aCONTAINMENT "com/example/page_copy_finder/pagecopyfinder/copies/PairKind") ∧ (Sta Z Z.heap "com/example/page_copy_finder/pagecopyfinder/copies/PairKind" "PARTIAL" "Lcom/example/page_copy_finder/pagecopyfinder/copies/PairKind;" (.ref aPARTIAL)) ∧ (Exa Z Z.heap aPARTIAL "com/example/page_copy_finder/pagecopyfinder/copies/PairKind") ∧ (Sta Z Z.heap "com/example/page_copy_finder/pagecopyfinder/copies/PairLinks" "A_TO_B" "Lcom/example/page_copy_finder/pagecopyfinder/copies/PairLinks;" (.ref aA_TO_B)) ∧ (Exa Z Z.heap aA_TO_B "com/example/page_copy_finder/pagecopyfinder/copies/PairLinks") ∧ (Sta Z Z.heap "com/example/page_copy_finder/pagecopyfinder/copies/PairLinks" "B_TO_A" "Lcom/example/page_copy_finder/pagecopyfinder/copies/PairLinks;" (.ref aB_TO_A)) ∧ (Exa Z Z.heap aB_TO_A "com/example/page_copy_finder/pagecopyfinder/copies/PairLinks") ∧ (Sta Z Z.heap "com/example/page_copy_finder/pagecopyfinder/copies/PairLinks" "BOTH" "Lcom/example/page_copy_finder/pagecopyfinder/copies/PairLinks;" (.ref aBOTH)) ∧ (Exa Z Z.heap aBOTH "com/example/page_copy_finder/pagecopyfinder/copies/PairLinks") ∧ (Sta Z Z.heap "com/example/page_copy_finder/pagecopyfinder/copies/PairLinks" "NONE" "Lcom/example/page_copy_finder/pagecopyfinder/copies/PairLinks;" (.ref aNONE)) ∧ (Exa Z Z.heap aNONE "com/example/page_copy_finder/pagecopyfinder/copies/PairLinks") ∧ (Sta Z Z.heap "com/example/page_copy_finder/pagecopyfinder/copies/PairLabel" "MIRROR" "Lcom/example/page_copy_finder/pagecopyfinder/copies/PairLabel;" (.ref aMIRROR)) ∧ (Exa Z Z.heap aMIRROR "com/example/page_copy_finder/pagecopyfinder/copies/PairLabel") ∧ (Sta Z Z.heap "com/example/page_copy_finder/pagecopyfinder/copies/PairLabel" "TEMPLATE_OR_PLAGIARISM" "Lcom/example/page_copy_finder/pagecopyfinder/copies/PairLabel;" (.ref aTEMPLATE_OR_PLAGIARISM)) ∧ (Exa Z Z.heap aTEMPLATE_OR_PLAGIARISM "com/example/page_copy_finder/pagecopyfinder/copies/PairLabel") ∧ (Sta Z Z.heap "com/example/page_copy_finder/pagecopyfinder/copies/PairLabel" "ARCHIVE_PAGE" "Lcom/example/page_copy_finder/pagecopyfinder/copies/PairLabel;" (.ref aARCHIVE_PAGE)) ∧ (Exa Z Z.heap aARCHIVE_PAGE "com/example/page_copy_finder/pagecopyfinder/copies/PairLabel") ∧ (Sta Z Z.heap "com/example/page_copy_finder/pagecopyfinder/copies/PairLabel" "LINK_LIST_PART" "Lcom/example/page_copy_finder/pagecopyfinder/copies/PairLabel;" (.ref aLINK_LIST_PART)) ∧ (Exa Z Z.heap aLINK_LIST_PART "com/example/page_copy_finder/pagecopyfinder/copies/PairLabel") ∧ (Sta Z Z.heap "com/example/page_copy_finder/pagecopyfinder/copies/PairLabel" "SAME_SITE_RELATED" "Lcom/example/page_copy_finder/pagecopyfinder/copies/PairLabel;" (.ref aSAME_SITE_RELATED)) ∧ (Exa Z Z.heap aSAME_SITE_RELATED "com/example/page_copy_finder/pagecopyfinder/copies/PairLabel") ∧ (Sta Z Z.heap "com/example/page_copy_finder/pagecopyfinder/copies/PairLabel" "CITATION_OR_SPAM" "Lcom/example/page_copy_finder/pagecopyfinder/copies/PairLabel;" (.ref aCITATION_OR_SPAM)) ∧ (Exa Z Z.heap aCITATION_OR_SPAM "com/example/page_copy_finder/pagecopyfinder/copies/PairLabel") ∧ (Sta Z Z.heap "com/example/page_copy_finder/pagecopyfinder/copies/PairLabel" "SHARED_TEXT_OR_PLAGIARISM" "Lcom/example/page_copy_finder/pagecopyfinder/copies/PairLabel;" (.ref aSHARED_TEXT_OR_PLAGIARISM)) ∧ (Exa Z Z.heap aSHARED_TEXT_OR_PLAGIARISM "com/example/page_copy_finder/pagecopyfinder/copies/PairLabel") ∧ (Fld Z Z.heap aIDENTICAL "java/lang/Enum" "ordinal" "I" (.int (0 : Int32))) ∧ (Fld Z Z.heap aCONTAINMENT "java/lang/Enum" "ordinal" "I" (.int (1 : Int32))) ∧ (Fld Z Z.heap aPARTIAL "java/lang/Enum" "ordinal" "I" (.int (2 : Int32))) ∧ (Fld Z Z.heap aB_TO_A "java/lang/Enum" "ordinal" "I" (.int (1 : Int32))) ∧ (Fld Z Z.heap aNONE "java/lang/Enum" "ordinal" "I" (.int (3 : Int32))) ∧ (Fld Z Z.heap aA_TO_B "java/lang/Enum" "ordinal" "I" (.int (0 : Int32))) ∧ (Fld Z Z.heap aBOTH "java/lang/Enum" "ordinal" "I" (.int (2 : Int32))) ∧ (Sta Z Z.heap "com/example/page_copy_finder/pagecopyfinder/copies/PairLabel$1" "$SwitchMap$com$example$page_copy_finder$pagecopyfinder$copies$PairKind" "[I" (.ref aSW)) ∧ (Arv Z Z.heap aSW kSW .int (3 : Int32) [(.int (1 : Int32)), (.int (2 : Int32)), (.int (3 : Int32))] (.int (0 : Int32)))
theorem own_mod3 (x : Int32) : (x &&& (2147483647 : Int32)) % (3 : Int32) = (0 : Int32) ∨ (x &&& (2147483647 : Int32)) % (3 : Int32) = (1 : Int32) ∨ (x &&& (2147483647 : Int32)) % (3 : Int32) = (2 : Int32) := by
  have e1 : (x &&& (2147483647 : Int32)).toInt = x.toInt % 2 ^ 31 := Jvm.Kit.i32_mask x _ (k := 31) (by decide) (by decide)
  have e2 : ((x &&& (2147483647 : Int32)) % (3 : Int32)).toInt = (x &&& (2147483647 : Int32)).toInt % (3 : Int32).toInt := Jvm.Kit.i32_rem_nonneg (by omega)
  have e3 : (3 : Int32).toInt = 3 := by decide
  rw [e3] at e2
  have c : ((x &&& (2147483647 : Int32)) % (3 : Int32)).toInt = 0 ∨ ((x &&& (2147483647 : Int32)) % (3 : Int32)).toInt = 1 ∨ ((x &&& (2147483647 : Int32)) % (3 : Int32)).toInt = 2 := by omega
  rcases c with c | c | c
  · exact (Or.inl (Int32.toInt_inj.mp (c.trans (by decide))))
  · exact Or.inr ((Or.inl (Int32.toInt_inj.mp (c.trans (by decide)))))
  · exact Or.inr (Or.inr (((Int32.toInt_inj.mp (c.trans (by decide))))))
theorem own_and3 (x : Int32) : (x &&& (3 : Int32)) = (0 : Int32) ∨ (x &&& (3 : Int32)) = (1 : Int32) ∨ (x &&& (3 : Int32)) = (2 : Int32) ∨ (x &&& (3 : Int32)) = (3 : Int32) := by
  have e1 : (x &&& (3 : Int32)).toInt = x.toInt % 2 ^ 2 := Jvm.Kit.i32_mask x _ (k := 2) (by decide) (by decide)
  have c : (x &&& (3 : Int32)).toInt = 0 ∨ (x &&& (3 : Int32)).toInt = 1 ∨ (x &&& (3 : Int32)).toInt = 2 ∨ (x &&& (3 : Int32)).toInt = 3 := by omega
  rcases c with c | c | c | c
  · exact (Or.inl (Int32.toInt_inj.mp (c.trans (by decide))))
  · exact Or.inr ((Or.inl (Int32.toInt_inj.mp (c.trans (by decide)))))
  · exact Or.inr (Or.inr ((Or.inl (Int32.toInt_inj.mp (c.trans (by decide))))))
  · exact Or.inr (Or.inr (Or.inr (((Int32.toInt_inj.mp (c.trans (by decide)))))))
theorem own_len {s : State} {args : Array Value} {t : Term} {a : Addr} {c : Cell} {ty : FieldType} {n : Int32} (ev : t.eval args s none [] s = some (.ref a)) (A : Arr s s.heap a c ty) (h : (Jvm.Cond.eq (Term.length t) (Term.int n)).value args s none s [] = some true) : c.slots.size < 2 ^ 31 ∧ c.slots.size.toInt32 = n := by
  have e1 := eqv_i (Term.int_eval n) h
  have hA := A.fin (Vm.Alike.refl _)
  have hs : c.slots.size < 2 ^ 31 := by
    refine Nat.lt_of_not_le fun q => ?_
    simp [Term.eval, ev, hA, Nat.not_lt.mpr q] at e1
  exact ⟨hs, by have := (len_f ev hA hs).symm.trans e1; simpa using this⟩
theorem own_elem {s : State} {args : Array Value} {t : Term} {a : Addr} {c : Cell} {ty : FieldType} {j v : Int32} (ev : t.eval args s none [] s = some (.ref a)) (A : Arr s s.heap a c ty) (h : (Jvm.Cond.eq (Term.elem t (Term.int j)) (Term.int v)).value args s none s [] = some true) : c.slots[j.toNatClampNeg]? = some (.int v) :=
  (elem_in (eqv_i (Term.int_eval v) h) ev (Term.int_eval j) A.1).2
theorem d_jdk_31_method_11_0 : decode jdk_31_method_11_code 0 = .ok (.aload_n 0, 1) := by decide +kernel
theorem d_jdk_31_method_11_1 : decode jdk_31_method_11_code 1 = .ok (.ifnonnull 12, 3) := by decide +kernel
theorem d_jdk_31_method_11_13 : decode jdk_31_method_11_code 13 = .ok (.aload_n 0, 1) := by decide +kernel
theorem d_jdk_31_method_11_14 : decode jdk_31_method_11_code 14 = .ok (.areturn, 1) := by decide +kernel
theorem pn_java_util_Objects : plainName "java/util/Objects" = true := by first | (simp [plainName, overriddenIn]; done) | decide +kernel
def Q_rn (Z : State) (aIDENTICAL aCONTAINMENT aPARTIAL aA_TO_B aB_TO_A aBOTH aNONE aMIRROR aTEMPLATE_OR_PLAGIARISM aARCHIVE_PAGE aLINK_LIST_PART aSAME_SITE_RELATED aCITATION_OR_SPAM aSHARED_TEXT_OR_PLAGIARISM aSW : Addr) (kSW : ClassId) (a1 : Addr) (a2 : Addr) (h0 : Heap) (n0 : Nat) (v : Option Value) (h : Heap) (L : List Loc) : Prop := v = some (.ref a1) ∧ Fr n0 L ∧ h = h0
theorem ef_rn (m : MethodId) (x0 : Addr) (x1 : Addr) : entryFrame m #[(.ref x0), (.ref x1)] 2 = mkF m 0 #[.val (.ref x0), .val (.ref x1)] [] := by first | (simp [entryFrame, mkF, argsToLocals, Value.category]; done) | rfl
set_option maxRecDepth 65536 in
set_option maxHeartbeats 40000000 in
theorem rm_rn (l : Launch) (Z : State) (a0 : Array Value) (hw : ∀ d ∈ tables_1, d.before a0 Z = true) (ws : List Jvm.Cond) (aIDENTICAL aCONTAINMENT aPARTIAL aA_TO_B aB_TO_A aBOTH aNONE aMIRROR aTEMPLATE_OR_PLAGIARISM aARCHIVE_PAGE aLINK_LIST_PART aSAME_SITE_RELATED aCITATION_OR_SPAM aSHARED_TEXT_OR_PLAGIARISM aSW : Addr) (kSW : ClassId) (F0 : OwnFacts Z aIDENTICAL aCONTAINMENT aPARTIAL aA_TO_B aB_TO_A aBOTH aNONE aMIRROR aTEMPLATE_OR_PLAGIARISM aARCHIVE_PAGE aLINK_LIST_PART aSAME_SITE_RELATED aCITATION_OR_SPAM aSHARED_TEXT_OR_PLAGIARISM aSW kSW) (a1 : Addr) (a2 : Addr) (h0 : Heap) (n0 : Nat) (O0 : Old Z n0 h0) :
    MetFree l (⟨"java/util/Objects", "requireNonNull", "(Ljava/lang/Object;Ljava/lang/String;)Ljava/lang/Object;"⟩ : MethodName) (head1 (Jvm.Cond.code (⟨"java/util/Objects", "requireNonNull", "(Ljava/lang/Object;Ljava/lang/String;)Ljava/lang/Object;"⟩ : MethodName) jdk_31_method_11_code 2 (some (.object "java/lang/Object")) :: ws) ({ frames := 0, cells := 0, slots := 0, locals := 0 } : Room)) (fun a U => a = #[(.ref a1), (.ref a2)] ∧ Z.Warmed39 U.vm ∧ U.heap = h0) (fun _ _ _ _ _ => True) (fun _ U o U' => ∃ v L, o = .returned v ∧ Q_rn Z aIDENTICAL aCONTAINMENT aPARTIAL aA_TO_B aB_TO_A aBOTH aNONE aMIRROR aTEMPLATE_OR_PLAGIARISM aARCHIVE_PAGE aLINK_LIST_PART aSAME_SITE_RELATED aCITATION_OR_SPAM aSHARED_TEXT_OR_PLAGIARISM aSW kSW a1 a2 h0 n0 v U'.heap L ∧ FrameEnd U o U' L ({ frames := 0, cells := 0, slots := 0, locals := 0 } : Room).cells ({ frames := 0, cells := 0, slots := 0, locals := 0 } : Room).slots) := by
  refine MetFree.of_bodySF (plainFor_of_name pn_java_util_Objects) hisR ?_
  intro p e s m args below meth c s₁ Bd hml0 hP hK
  obtain ⟨rfl, hZ, hh⟩ := hP
  have hx := Bd.exec
  have hby := Bd.bytes
  have hml : c.maxLocals = 2 := hml0
  have hown : s.vm.findClass "java/util/Objects" = some m.cls := findClass_of_methodNamed Bd.named
  have hnm := (name_of_methodNamed Bd.named Bd.method).1
  have X0 : Stand p l e ({ frames := 0, cells := 0, slots := 0, locals := 0 } : Room) s m #[(.ref a1), (.ref a2)] below meth c s₁ [] 0 0 := Stand.of_body Bd
  have e0 : s₁.heap = h0 := by rw [← hh, Bd.state]; rfl
  have N0 := Fr.nil n0
  refine own_go (Q := fun o U' => ∃ v L, o = .returned v ∧ Q_rn Z aIDENTICAL aCONTAINMENT aPARTIAL aA_TO_B aB_TO_A aBOTH aNONE aMIRROR aTEMPLATE_OR_PLAGIARISM aARCHIVE_PAGE aLINK_LIST_PART aSAME_SITE_RELATED aCITATION_OR_SPAM aSHARED_TEXT_OR_PLAGIARISM aSW kSW a1 a2 h0 n0 v U'.heap L ∧ FrameEnd s o U' L ({ frames := 0, cells := 0, slots := 0, locals := 0 } : Room).cells ({ frames := 0, cells := 0, slots := 0, locals := 0 } : Room).slots) (fun t k => castTop (ef_rn m a1 a2) k) ?_
  show OwnGo p e below _ (s₁.setTop (mkF m 0 #[.val (.ref a1), .val (.ref a2)] []))
  refine own_go (fun _ k => XS.aloadN X0.here hx rfl (hb hby d_jdk_31_method_11_0) rfl rfl k) ?_
  show OwnGo p e below _ (s₁.setTop (mkF m 1 #[.val (.ref a1), .val (.ref a2)] [(.ref a1)]))
  refine own_go (fun _ k => XS.ifnonnullYes X0.here hx rfl (pc0 := 1) (pc' := 13) rfl (hb hby d_jdk_31_method_11_1) rfl (by decide) (by decide) k) ?_
  show OwnGo p e below _ (s₁.setTop (mkF m 13 #[.val (.ref a1), .val (.ref a2)] []))
  refine own_go (fun _ k => XS.aloadN X0.here hx rfl (hb hby d_jdk_31_method_11_13) rfl rfl k) ?_
  show OwnGo p e below _ (s₁.setTop (mkF m 14 #[.val (.ref a1), .val (.ref a2)] [(.ref a1)]))
  obtain ⟨fs, hr, hrun, hended, hW, hsame⟩ := X0.leave (v := some (.ref a1)) (fun h => by rw [Bd.returns] at h; cases h)
  refine ⟨_, _, retOut X0 hx Bd.returns rfl (Or.inr (Or.inr (Or.inr (Or.inr ⟨rfl, rfl, rfl⟩)))) (hb hby d_jdk_31_method_11_14) hr, hrun, hended, _, _, rfl, ?_, ⟨_, rfl⟩, hW, hsame.mono (by decide) (by decide)⟩
  show Q_rn Z aIDENTICAL aCONTAINMENT aPARTIAL aA_TO_B aB_TO_A aBOTH aNONE aMIRROR aTEMPLATE_OR_PLAGIARISM aARCHIVE_PAGE aLINK_LIST_PART aSAME_SITE_RELATED aCITATION_OR_SPAM aSHARED_TEXT_OR_PLAGIARISM aSW kSW a1 a2 h0 n0 _ s₁.heap _
  rw [e0]
  exact ⟨rfl, N0, rfl⟩
theorem d_jdk_37_method_2_0 : decode jdk_37_method_2_code 0 = .ok (.aload_n 0, 1) := by decide +kernel
theorem d_jdk_37_method_2_1 : decode jdk_37_method_2_code 1 = .ok (.getfield 7, 3) := by decide +kernel
theorem d_jdk_37_method_2_4 : decode jdk_37_method_2_code 4 = .ok (.ireturn, 1) := by decide +kernel
theorem pn_java_lang_Enum : plainName "java/lang/Enum" = true := by first | (simp [plainName, overriddenIn]; done) | decide +kernel
def Q_ord0 (Z : State) (aIDENTICAL aCONTAINMENT aPARTIAL aA_TO_B aB_TO_A aBOTH aNONE aMIRROR aTEMPLATE_OR_PLAGIARISM aARCHIVE_PAGE aLINK_LIST_PART aSAME_SITE_RELATED aCITATION_OR_SPAM aSHARED_TEXT_OR_PLAGIARISM aSW : Addr) (kSW : ClassId) (h0 : Heap) (n0 : Nat) (v : Option Value) (h : Heap) (L : List Loc) : Prop := v = some (.int (0 : Int32)) ∧ Fr n0 L ∧ h = h0
theorem ef_ord0 (m : MethodId) (x0 : Addr) : entryFrame m #[(.ref x0)] 1 = mkF m 0 #[.val (.ref x0)] [] := by first | (simp [entryFrame, mkF, argsToLocals, Value.category]; done) | rfl
set_option maxRecDepth 65536 in
set_option maxHeartbeats 40000000 in
theorem rm_ord0 (l : Launch) (Z : State) (a0 : Array Value) (hw : ∀ d ∈ tables_1, d.before a0 Z = true) (ws : List Jvm.Cond) (aIDENTICAL aCONTAINMENT aPARTIAL aA_TO_B aB_TO_A aBOTH aNONE aMIRROR aTEMPLATE_OR_PLAGIARISM aARCHIVE_PAGE aLINK_LIST_PART aSAME_SITE_RELATED aCITATION_OR_SPAM aSHARED_TEXT_OR_PLAGIARISM aSW : Addr) (kSW : ClassId) (F0 : OwnFacts Z aIDENTICAL aCONTAINMENT aPARTIAL aA_TO_B aB_TO_A aBOTH aNONE aMIRROR aTEMPLATE_OR_PLAGIARISM aARCHIVE_PAGE aLINK_LIST_PART aSAME_SITE_RELATED aCITATION_OR_SPAM aSHARED_TEXT_OR_PLAGIARISM aSW kSW) (h0 : Heap) (n0 : Nat) (O0 : Old Z n0 h0) :
    MetFree l (⟨"java/lang/Enum", "ordinal", "()I"⟩ : MethodName) (head1 (Jvm.Cond.code (⟨"java/lang/Enum", "ordinal", "()I"⟩ : MethodName) jdk_37_method_2_code 1 (some .int) :: ws) ({ frames := 0, cells := 0, slots := 0, locals := 0 } : Room)) (fun a U => a = #[(.ref aIDENTICAL)] ∧ Z.Warmed39 U.vm ∧ U.heap = h0) (fun _ _ _ _ _ => True) (fun _ U o U' => ∃ v L, o = .returned v ∧ Q_ord0 Z aIDENTICAL aCONTAINMENT aPARTIAL aA_TO_B aB_TO_A aBOTH aNONE aMIRROR aTEMPLATE_OR_PLAGIARISM aARCHIVE_PAGE aLINK_LIST_PART aSAME_SITE_RELATED aCITATION_OR_SPAM aSHARED_TEXT_OR_PLAGIARISM aSW kSW h0 n0 v U'.heap L ∧ FrameEnd U o U' L ({ frames := 0, cells := 0, slots := 0, locals := 0 } : Room).cells ({ frames := 0, cells := 0, slots := 0, locals := 0 } : Room).slots) := by
  refine MetFree.of_bodySF (plainFor_of_name pn_java_lang_Enum) hisR ?_
  intro p e s m args below meth c s₁ Bd hml0 hP hK
  obtain ⟨rfl, hZ, hh⟩ := hP
  have hx := Bd.exec
  have hby := Bd.bytes
  have hml : c.maxLocals = 1 := hml0
  have hown : s.vm.findClass "java/lang/Enum" = some m.cls := findClass_of_methodNamed Bd.named
  have hnm := (name_of_methodNamed Bd.named Bd.method).1
  have X0 : Stand p l e ({ frames := 0, cells := 0, slots := 0, locals := 0 } : Room) s m #[(.ref aIDENTICAL)] below meth c s₁ [] 0 0 := Stand.of_body Bd
  have e0 : s₁.heap = h0 := by rw [← hh, Bd.state]; rfl
  have N0 := Fr.nil n0
  refine own_go (Q := fun o U' => ∃ v L, o = .returned v ∧ Q_ord0 Z aIDENTICAL aCONTAINMENT aPARTIAL aA_TO_B aB_TO_A aBOTH aNONE aMIRROR aTEMPLATE_OR_PLAGIARISM aARCHIVE_PAGE aLINK_LIST_PART aSAME_SITE_RELATED aCITATION_OR_SPAM aSHARED_TEXT_OR_PLAGIARISM aSW kSW h0 n0 v U'.heap L ∧ FrameEnd s o U' L ({ frames := 0, cells := 0, slots := 0, locals := 0 } : Room).cells ({ frames := 0, cells := 0, slots := 0, locals := 0 } : Room).slots) (fun t k => castTop (ef_ord0 m aIDENTICAL) k) ?_
  show OwnGo p e below _ (s₁.setTop (mkF m 0 #[.val (.ref aIDENTICAL)] []))
  refine own_go (fun _ k => XS.aloadN X0.here hx rfl (hb hby d_jdk_37_method_2_0) rfl rfl k) ?_
  show OwnGo p e below _ (s₁.setTop (mkF m 1 #[.val (.ref aIDENTICAL)] [(.ref aIDENTICAL)]))
  obtain ⟨T1, X1, e1, st1⟩ := getF X0 hx hZ hown (host := "") (Or.inl (hw _ (List.mem_of_getElem? (i := 67) rfl))) Via.refl e0 (F0.2.2.2.2.2.2.2.2.2.2.2.2.2.2.2.2.2.2.2.2.2.2.2.2.2.2.2.2.1.ext O0.2) (g := (mkF m 1 #[.val (.ref aIDENTICAL)] [(.ref aIDENTICAL)])) rfl rfl (hb hby d_jdk_37_method_2_1)
  refine own_go st1 ?_
  show OwnGo p e below _ (T1.setTop (mkF m 4 #[.val (.ref aIDENTICAL)] [(.int (0 : Int32))]))
  obtain ⟨fs, hr, hrun, hended, hW, hsame⟩ := X1.leave (v := some (.int (0 : Int32))) (fun h => by rw [Bd.returns] at h; cases h)
  refine ⟨_, _, retOut X1 hx Bd.returns rfl (Or.inl ⟨rfl, Or.inl rfl, _, rfl⟩) (hb hby d_jdk_37_method_2_4) hr, hrun, hended, _, _, rfl, ?_, ⟨_, rfl⟩, hW, hsame.mono (by decide) (by decide)⟩
  show Q_ord0 Z aIDENTICAL aCONTAINMENT aPARTIAL aA_TO_B aB_TO_A aBOTH aNONE aMIRROR aTEMPLATE_OR_PLAGIARISM aARCHIVE_PAGE aLINK_LIST_PART aSAME_SITE_RELATED aCITATION_OR_SPAM aSHARED_TEXT_OR_PLAGIARISM aSW kSW h0 n0 _ T1.heap _
  rw [e1]
  exact ⟨rfl, N0, rfl⟩
def Q_ord1 (Z : State) (aIDENTICAL aCONTAINMENT aPARTIAL aA_TO_B aB_TO_A aBOTH aNONE aMIRROR aTEMPLATE_OR_PLAGIARISM aARCHIVE_PAGE aLINK_LIST_PART aSAME_SITE_RELATED aCITATION_OR_SPAM aSHARED_TEXT_OR_PLAGIARISM aSW : Addr) (kSW : ClassId) (h0 : Heap) (n0 : Nat) (v : Option Value) (h : Heap) (L : List Loc) : Prop := v = some (.int (1 : Int32)) ∧ Fr n0 L ∧ h = h0
theorem ef_ord1 (m : MethodId) (x0 : Addr) : entryFrame m #[(.ref x0)] 1 = mkF m 0 #[.val (.ref x0)] [] := by first | (simp [entryFrame, mkF, argsToLocals, Value.category]; done) | rfl
set_option maxRecDepth 65536 in
set_option maxHeartbeats 40000000 in
theorem rm_ord1 (l : Launch) (Z : State) (a0 : Array Value) (hw : ∀ d ∈ tables_1, d.before a0 Z = true) (ws : List Jvm.Cond) (aIDENTICAL aCONTAINMENT aPARTIAL aA_TO_B aB_TO_A aBOTH aNONE aMIRROR aTEMPLATE_OR_PLAGIARISM aARCHIVE_PAGE aLINK_LIST_PART aSAME_SITE_RELATED aCITATION_OR_SPAM aSHARED_TEXT_OR_PLAGIARISM aSW : Addr) (kSW : ClassId) (F0 : OwnFacts Z aIDENTICAL aCONTAINMENT aPARTIAL aA_TO_B aB_TO_A aBOTH aNONE aMIRROR aTEMPLATE_OR_PLAGIARISM aARCHIVE_PAGE aLINK_LIST_PART aSAME_SITE_RELATED aCITATION_OR_SPAM aSHARED_TEXT_OR_PLAGIARISM aSW kSW) (h0 : Heap) (n0 : Nat) (O0 : Old Z n0 h0) :
    MetFree l (⟨"java/lang/Enum", "ordinal", "()I"⟩ : MethodName) (head1 (Jvm.Cond.code (⟨"java/lang/Enum", "ordinal", "()I"⟩ : MethodName) jdk_37_method_2_code 1 (some .int) :: ws) ({ frames := 0, cells := 0, slots := 0, locals := 0 } : Room)) (fun a U => a = #[(.ref aCONTAINMENT)] ∧ Z.Warmed39 U.vm ∧ U.heap = h0) (fun _ _ _ _ _ => True) (fun _ U o U' => ∃ v L, o = .returned v ∧ Q_ord1 Z aIDENTICAL aCONTAINMENT aPARTIAL aA_TO_B aB_TO_A aBOTH aNONE aMIRROR aTEMPLATE_OR_PLAGIARISM aARCHIVE_PAGE aLINK_LIST_PART aSAME_SITE_RELATED aCITATION_OR_SPAM aSHARED_TEXT_OR_PLAGIARISM aSW kSW h0 n0 v U'.heap L ∧ FrameEnd U o U' L ({ frames := 0, cells := 0, slots := 0, locals := 0 } : Room).cells ({ frames := 0, cells := 0, slots := 0, locals := 0 } : Room).slots) := by
  refine MetFree.of_bodySF (plainFor_of_name pn_java_lang_Enum) hisR ?_
  intro p e s m args below meth c s₁ Bd hml0 hP hK
  obtain ⟨rfl, hZ, hh⟩ := hP
  have hx := Bd.exec
  have hby := Bd.bytes
  have hml : c.maxLocals = 1 := hml0
  have hown : s.vm.findClass "java/lang/Enum" = some m.cls := findClass_of_methodNamed Bd.named
  have hnm := (name_of_methodNamed Bd.named Bd.method).1
  have X0 : Stand p l e ({ frames := 0, cells := 0, slots := 0, locals := 0 } : Room) s m #[(.ref aCONTAINMENT)] below meth c s₁ [] 0 0 := Stand.of_body Bd
  have e0 : s₁.heap = h0 := by rw [← hh, Bd.state]; rfl
  have N0 := Fr.nil n0
  refine own_go (Q := fun o U' => ∃ v L, o = .returned v ∧ Q_ord1 Z aIDENTICAL aCONTAINMENT aPARTIAL aA_TO_B aB_TO_A aBOTH aNONE aMIRROR aTEMPLATE_OR_PLAGIARISM aARCHIVE_PAGE aLINK_LIST_PART aSAME_SITE_RELATED aCITATION_OR_SPAM aSHARED_TEXT_OR_PLAGIARISM aSW kSW h0 n0 v U'.heap L ∧ FrameEnd s o U' L ({ frames := 0, cells := 0, slots := 0, locals := 0 } : Room).cells ({ frames := 0, cells := 0, slots := 0, locals := 0 } : Room).slots) (fun t k => castTop (ef_ord1 m aCONTAINMENT) k) ?_
  show OwnGo p e below _ (s₁.setTop (mkF m 0 #[.val (.ref aCONTAINMENT)] []))
  refine own_go (fun _ k => XS.aloadN X0.here hx rfl (hb hby d_jdk_37_method_2_0) rfl rfl k) ?_
  show OwnGo p e below _ (s₁.setTop (mkF m 1 #[.val (.ref aCONTAINMENT)] [(.ref aCONTAINMENT)]))
  obtain ⟨T2, X2, e2, st2⟩ := getF X0 hx hZ hown (host := "") (Or.inl (hw _ (List.mem_of_getElem? (i := 67) rfl))) Via.refl e0 (F0.2.2.2.2.2.2.2.2.2.2.2.2.2.2.2.2.2.2.2.2.2.2.2.2.2.2.2.2.2.1.ext O0.2) (g := (mkF m 1 #[.val (.ref aCONTAINMENT)] [(.ref aCONTAINMENT)])) rfl rfl (hb hby d_jdk_37_method_2_1)
  refine own_go st2 ?_
  show OwnGo p e below _ (T2.setTop (mkF m 4 #[.val (.ref aCONTAINMENT)] [(.int (1 : Int32))]))
  obtain ⟨fs, hr, hrun, hended, hW, hsame⟩ := X2.leave (v := some (.int (1 : Int32))) (fun h => by rw [Bd.returns] at h; cases h)
  refine ⟨_, _, retOut X2 hx Bd.returns rfl (Or.inl ⟨rfl, Or.inl rfl, _, rfl⟩) (hb hby d_jdk_37_method_2_4) hr, hrun, hended, _, _, rfl, ?_, ⟨_, rfl⟩, hW, hsame.mono (by decide) (by decide)⟩
  show Q_ord1 Z aIDENTICAL aCONTAINMENT aPARTIAL aA_TO_B aB_TO_A aBOTH aNONE aMIRROR aTEMPLATE_OR_PLAGIARISM aARCHIVE_PAGE aLINK_LIST_PART aSAME_SITE_RELATED aCITATION_OR_SPAM aSHARED_TEXT_OR_PLAGIARISM aSW kSW h0 n0 _ T2.heap _
  rw [e2]
  exact ⟨rfl, N0, rfl⟩
def Q_ord2 (Z : State) (aIDENTICAL aCONTAINMENT aPARTIAL aA_TO_B aB_TO_A aBOTH aNONE aMIRROR aTEMPLATE_OR_PLAGIARISM aARCHIVE_PAGE aLINK_LIST_PART aSAME_SITE_RELATED aCITATION_OR_SPAM aSHARED_TEXT_OR_PLAGIARISM aSW : Addr) (kSW : ClassId) (h0 : Heap) (n0 : Nat) (v : Option Value) (h : Heap) (L : List Loc) : Prop := v = some (.int (2 : Int32)) ∧ Fr n0 L ∧ h = h0
theorem ef_ord2 (m : MethodId) (x0 : Addr) : entryFrame m #[(.ref x0)] 1 = mkF m 0 #[.val (.ref x0)] [] := by first | (simp [entryFrame, mkF, argsToLocals, Value.category]; done) | rfl
set_option maxRecDepth 65536 in
set_option maxHeartbeats 40000000 in
theorem rm_ord2 (l : Launch) (Z : State) (a0 : Array Value) (hw : ∀ d ∈ tables_1, d.before a0 Z = true) (ws : List Jvm.Cond) (aIDENTICAL aCONTAINMENT aPARTIAL aA_TO_B aB_TO_A aBOTH aNONE aMIRROR aTEMPLATE_OR_PLAGIARISM aARCHIVE_PAGE aLINK_LIST_PART aSAME_SITE_RELATED aCITATION_OR_SPAM aSHARED_TEXT_OR_PLAGIARISM aSW : Addr) (kSW : ClassId) (F0 : OwnFacts Z aIDENTICAL aCONTAINMENT aPARTIAL aA_TO_B aB_TO_A aBOTH aNONE aMIRROR aTEMPLATE_OR_PLAGIARISM aARCHIVE_PAGE aLINK_LIST_PART aSAME_SITE_RELATED aCITATION_OR_SPAM aSHARED_TEXT_OR_PLAGIARISM aSW kSW) (h0 : Heap) (n0 : Nat) (O0 : Old Z n0 h0) :
    MetFree l (⟨"java/lang/Enum", "ordinal", "()I"⟩ : MethodName) (head1 (Jvm.Cond.code (⟨"java/lang/Enum", "ordinal", "()I"⟩ : MethodName) jdk_37_method_2_code 1 (some .int) :: ws) ({ frames := 0, cells := 0, slots := 0, locals := 0 } : Room)) (fun a U => a = #[(.ref aPARTIAL)] ∧ Z.Warmed39 U.vm ∧ U.heap = h0) (fun _ _ _ _ _ => True) (fun _ U o U' => ∃ v L, o = .returned v ∧ Q_ord2 Z aIDENTICAL aCONTAINMENT aPARTIAL aA_TO_B aB_TO_A aBOTH aNONE aMIRROR aTEMPLATE_OR_PLAGIARISM aARCHIVE_PAGE aLINK_LIST_PART aSAME_SITE_RELATED aCITATION_OR_SPAM aSHARED_TEXT_OR_PLAGIARISM aSW kSW h0 n0 v U'.heap L ∧ FrameEnd U o U' L ({ frames := 0, cells := 0, slots := 0, locals := 0 } : Room).cells ({ frames := 0, cells := 0, slots := 0, locals := 0 } : Room).slots) := by
  refine MetFree.of_bodySF (plainFor_of_name pn_java_lang_Enum) hisR ?_
  intro p e s m args below meth c s₁ Bd hml0 hP hK
  obtain ⟨rfl, hZ, hh⟩ := hP
  have hx := Bd.exec
  have hby := Bd.bytes
  have hml : c.maxLocals = 1 := hml0
  have hown : s.vm.findClass "java/lang/Enum" = some m.cls := findClass_of_methodNamed Bd.named
  have hnm := (name_of_methodNamed Bd.named Bd.method).1
  have X0 : Stand p l e ({ frames := 0, cells := 0, slots := 0, locals := 0 } : Room) s m #[(.ref aPARTIAL)] below meth c s₁ [] 0 0 := Stand.of_body Bd
  have e0 : s₁.heap = h0 := by rw [← hh, Bd.state]; rfl
  have N0 := Fr.nil n0
  refine own_go (Q := fun o U' => ∃ v L, o = .returned v ∧ Q_ord2 Z aIDENTICAL aCONTAINMENT aPARTIAL aA_TO_B aB_TO_A aBOTH aNONE aMIRROR aTEMPLATE_OR_PLAGIARISM aARCHIVE_PAGE aLINK_LIST_PART aSAME_SITE_RELATED aCITATION_OR_SPAM aSHARED_TEXT_OR_PLAGIARISM aSW kSW h0 n0 v U'.heap L ∧ FrameEnd s o U' L ({ frames := 0, cells := 0, slots := 0, locals := 0 } : Room).cells ({ frames := 0, cells := 0, slots := 0, locals := 0 } : Room).slots) (fun t k => castTop (ef_ord2 m aPARTIAL) k) ?_
  show OwnGo p e below _ (s₁.setTop (mkF m 0 #[.val (.ref aPARTIAL)] []))
  refine own_go (fun _ k => XS.aloadN X0.here hx rfl (hb hby d_jdk_37_method_2_0) rfl rfl k) ?_
  show OwnGo p e below _ (s₁.setTop (mkF m 1 #[.val (.ref aPARTIAL)] [(.ref aPARTIAL)]))
  obtain ⟨T3, X3, e3, st3⟩ := getF X0 hx hZ hown (host := "") (Or.inl (hw _ (List.mem_of_getElem? (i := 67) rfl))) Via.refl e0 (F0.2.2.2.2.2.2.2.2.2.2.2.2.2.2.2.2.2.2.2.2.2.2.2.2.2.2.2.2.2.2.1.ext O0.2) (g := (mkF m 1 #[.val (.ref aPARTIAL)] [(.ref aPARTIAL)])) rfl rfl (hb hby d_jdk_37_method_2_1)
  refine own_go st3 ?_
  show OwnGo p e below _ (T3.setTop (mkF m 4 #[.val (.ref aPARTIAL)] [(.int (2 : Int32))]))
  obtain ⟨fs, hr, hrun, hended, hW, hsame⟩ := X3.leave (v := some (.int (2 : Int32))) (fun h => by rw [Bd.returns] at h; cases h)
  refine ⟨_, _, retOut X3 hx Bd.returns rfl (Or.inl ⟨rfl, Or.inl rfl, _, rfl⟩) (hb hby d_jdk_37_method_2_4) hr, hrun, hended, _, _, rfl, ?_, ⟨_, rfl⟩, hW, hsame.mono (by decide) (by decide)⟩
  show Q_ord2 Z aIDENTICAL aCONTAINMENT aPARTIAL aA_TO_B aB_TO_A aBOTH aNONE aMIRROR aTEMPLATE_OR_PLAGIARISM aARCHIVE_PAGE aLINK_LIST_PART aSAME_SITE_RELATED aCITATION_OR_SPAM aSHARED_TEXT_OR_PLAGIARISM aSW kSW h0 n0 _ T3.heap _
  rw [e3]
  exact ⟨rfl, N0, rfl⟩
theorem d_prog_4_method_4_0 : decode prog_4_method_4_code 0 = .ok (.aload_n 0, 1) := by decide +kernel
theorem d_prog_4_method_4_1 : decode prog_4_method_4_code 1 = .ok (.ldc 48, 2) := by decide +kernel
theorem d_prog_4_method_4_3 : decode prog_4_method_4_code 3 = .ok (.invokestatic 50, 3) := by decide +kernel
theorem pd_Ljava_lang_Object__Ljava_lang_String___Ljava_lang_Object_ : parseMethodDescriptor "(Ljava/lang/Object;Ljava/lang/String;)Ljava/lang/Object;" = some ⟨[(.object "java/lang/Object"), (.object "java/lang/String")], some (.object "java/lang/Object")⟩ := by decide +kernel
theorem d_prog_4_method_4_6 : decode prog_4_method_4_code 6 = .ok (.pop, 1) := by decide +kernel
theorem d_prog_4_method_4_7 : decode prog_4_method_4_code 7 = .ok (.aload_n 2, 1) := by decide +kernel
theorem d_prog_4_method_4_8 : decode prog_4_method_4_code 8 = .ok (.ldc 56, 2) := by decide +kernel
theorem d_prog_4_method_4_10 : decode prog_4_method_4_code 10 = .ok (.invokestatic 50, 3) := by decide +kernel
theorem d_prog_4_method_4_13 : decode prog_4_method_4_code 13 = .ok (.pop, 1) := by decide +kernel
theorem d_prog_4_method_4_14 : decode prog_4_method_4_code 14 = .ok (.getstatic 58, 3) := by decide +kernel
theorem d_prog_4_method_4_17 : decode prog_4_method_4_code 17 = .ok (.aload_n 0, 1) := by decide +kernel
theorem d_prog_4_method_4_18 : decode prog_4_method_4_code 18 = .ok (.invokevirtual 64, 3) := by decide +kernel
theorem pd___I : parseMethodDescriptor "()I" = some ⟨[], some .int⟩ := by decide +kernel
theorem d_prog_4_method_4_21 : decode prog_4_method_4_code 21 = .ok (.iaload, 1) := by decide +kernel
theorem d_prog_4_method_4_22 : decode prog_4_method_4_code 22 = .ok (.tableswitch 26 1 3 #[36, 52, 68], 26) := by decide +kernel
theorem d_prog_4_method_4_58 : decode prog_4_method_4_code 58 = .ok (.iload_n 1, 1) := by decide +kernel
theorem d_prog_4_method_4_59 : decode prog_4_method_4_code 59 = .ok (.ifCond .eq 9, 3) := by decide +kernel
theorem d_prog_4_method_4_68 : decode prog_4_method_4_code 68 = .ok (.getstatic 7, 3) := by decide +kernel
theorem d_prog_4_method_4_71 : decode prog_4_method_4_code 71 = .ok (.goto 45, 3) := by decide +kernel
theorem d_prog_4_method_4_116 : decode prog_4_method_4_code 116 = .ok (.areturn, 1) := by decide +kernel
theorem pn_com_example_page_copy_finder_pagecopyfinder_copies_PairLabel : plainName "com/example/page_copy_finder/pagecopyfinder/copies/PairLabel" = true := by first | (simp [plainName, overriddenIn]; done) | decide +kernel
def Q_of00 (Z : State) (aIDENTICAL aCONTAINMENT aPARTIAL aA_TO_B aB_TO_A aBOTH aNONE aMIRROR aTEMPLATE_OR_PLAGIARISM aARCHIVE_PAGE aLINK_LIST_PART aSAME_SITE_RELATED aCITATION_OR_SPAM aSHARED_TEXT_OR_PLAGIARISM aSW : Addr) (kSW : ClassId) (a3 : Addr) (h0 : Heap) (n0 : Nat) (v : Option Value) (h : Heap) (L : List Loc) : Prop := v = some (.ref aTEMPLATE_OR_PLAGIARISM) ∧ Fr n0 L ∧ Keep h0 h []
theorem ef_of00 (m : MethodId) (x0 : Addr) (x1 : Int32) (x2 : Addr) : entryFrame m #[(.ref x0), (.int x1), (.ref x2)] 3 = mkF m 0 #[.val (.ref x0), .val (.int x1), .val (.ref x2)] [] := by first | (simp [entryFrame, mkF, argsToLocals, Value.category]; done) | rfl
set_option maxRecDepth 65536 in
set_option maxHeartbeats 40000000 in
theorem rm_of00 (l : Launch) (Z : State) (a0 : Array Value) (hw : ∀ d ∈ tables_1, d.before a0 Z = true) (ws : List Jvm.Cond) (aIDENTICAL aCONTAINMENT aPARTIAL aA_TO_B aB_TO_A aBOTH aNONE aMIRROR aTEMPLATE_OR_PLAGIARISM aARCHIVE_PAGE aLINK_LIST_PART aSAME_SITE_RELATED aCITATION_OR_SPAM aSHARED_TEXT_OR_PLAGIARISM aSW : Addr) (kSW : ClassId) (F0 : OwnFacts Z aIDENTICAL aCONTAINMENT aPARTIAL aA_TO_B aB_TO_A aBOTH aNONE aMIRROR aTEMPLATE_OR_PLAGIARISM aARCHIVE_PAGE aLINK_LIST_PART aSAME_SITE_RELATED aCITATION_OR_SPAM aSHARED_TEXT_OR_PLAGIARISM aSW kSW) (a3 : Addr) (h0 : Heap) (n0 : Nat) (O0 : Old Z n0 h0) :
    MetFree l (⟨"com/example/page_copy_finder/pagecopyfinder/copies/PairLabel", "of", "(Lcom/example/page_copy_finder/pagecopyfinder/copies/PairKind;ZLcom/example/page_copy_finder/pagecopyfinder/copies/PairLinks;)Lcom/example/page_copy_finder/pagecopyfinder/copies/PairLabel;"⟩ : MethodName) (head1 (Jvm.Cond.code (⟨"com/example/page_copy_finder/pagecopyfinder/copies/PairLabel", "of", "(Lcom/example/page_copy_finder/pagecopyfinder/copies/PairKind;ZLcom/example/page_copy_finder/pagecopyfinder/copies/PairLinks;)Lcom/example/page_copy_finder/pagecopyfinder/copies/PairLabel;"⟩ : MethodName) prog_4_method_4_code 3 (some (.object "com/example/page_copy_finder/pagecopyfinder/copies/PairLabel")) :: ws) ({ frames := 1, cells := 4, slots := 44, locals := 13 } : Room)) (fun a U => a = #[(.ref aIDENTICAL), (.int (0 : Int32)), (.ref a3)] ∧ Z.Warmed39 U.vm ∧ U.heap = h0) (fun _ _ _ _ _ => True) (fun _ U o U' => ∃ v L, o = .returned v ∧ Q_of00 Z aIDENTICAL aCONTAINMENT aPARTIAL aA_TO_B aB_TO_A aBOTH aNONE aMIRROR aTEMPLATE_OR_PLAGIARISM aARCHIVE_PAGE aLINK_LIST_PART aSAME_SITE_RELATED aCITATION_OR_SPAM aSHARED_TEXT_OR_PLAGIARISM aSW kSW a3 h0 n0 v U'.heap L ∧ ReturnedEndW U o U' L ({ frames := 1, cells := 4, slots := 44, locals := 13 } : Room).cells ({ frames := 1, cells := 4, slots := 44, locals := 13 } : Room).slots) := by
  refine MetFree.of_bodySF (plainFor_of_name pn_com_example_page_copy_finder_pagecopyfinder_copies_PairLabel) hisR ?_
  intro p e s m args below meth c s₁ Bd hml0 hP hK
  obtain ⟨rfl, hZ, hh⟩ := hP
  have hx := Bd.exec
  have hby := Bd.bytes
  have hml : c.maxLocals = 3 := hml0
  have hown : s.vm.findClass "com/example/page_copy_finder/pagecopyfinder/copies/PairLabel" = some m.cls := findClass_of_methodNamed Bd.named
  have hnm := (name_of_methodNamed Bd.named Bd.method).1
  have X0 : Stand p l e ({ frames := 1, cells := 4, slots := 44, locals := 13 } : Room) s m #[(.ref aIDENTICAL), (.int (0 : Int32)), (.ref a3)] below meth c s₁ [] 0 0 := Stand.of_body Bd
  have e0 : s₁.heap = h0 := by rw [← hh, Bd.state]; rfl
  have N0 := Fr.nil n0
  refine own_go (Q := fun o U' => ∃ v L, o = .returned v ∧ Q_of00 Z aIDENTICAL aCONTAINMENT aPARTIAL aA_TO_B aB_TO_A aBOTH aNONE aMIRROR aTEMPLATE_OR_PLAGIARISM aARCHIVE_PAGE aLINK_LIST_PART aSAME_SITE_RELATED aCITATION_OR_SPAM aSHARED_TEXT_OR_PLAGIARISM aSW kSW a3 h0 n0 v U'.heap L ∧ ReturnedEndW s o U' L ({ frames := 1, cells := 4, slots := 44, locals := 13 } : Room).cells ({ frames := 1, cells := 4, slots := 44, locals := 13 } : Room).slots) (fun t k => castTop (ef_of00 m aIDENTICAL (0 : Int32) a3) k) ?_
  have wS : ∀ a ∈ Bundle.stringAtoms, a.before a0 Z = true := by
    intro a ha
    simp only [Bundle.stringAtoms, List.mem_cons, List.not_mem_nil, or_false] at ha
    rcases ha with rfl | rfl | rfl | rfl | rfl | rfl | rfl
    · exact (hw _ (List.mem_of_getElem? (i := 45) rfl))
    · exact (hw _ (List.mem_of_getElem? (i := 46) rfl))
    · exact (hw _ (List.mem_of_getElem? (i := 47) rfl))
    · exact (hw _ (List.mem_of_getElem? (i := 48) rfl))
    · exact (hw _ (List.mem_of_getElem? (i := 49) rfl))
    · exact (hw _ (List.mem_of_getElem? (i := 50) rfl))
    · exact (hw _ (List.mem_of_getElem? (i := 51) rfl))
  show OwnGo p e below _ (s₁.setTop (mkF m 0 #[.val (.ref aIDENTICAL), .val (.int (0 : Int32)), .val (.ref a3)] []))
  refine own_go (fun _ k => XS.aloadN X0.here hx rfl (hb hby d_prog_4_method_4_0) rfl rfl k) ?_
  show OwnGo p e below _ (s₁.setTop (mkF m 1 #[.val (.ref aIDENTICAL), .val (.int (0 : Int32)), .val (.ref a3)] [(.ref aIDENTICAL)]))
  obtain ⟨a4, T4, h4, k4, X4, e4, E4, hS4, kk4, hZ, hown, st4⟩ := ldcS (s := s) (vm0 := s.vm) X0 hx hZ hown (hw _ (List.mem_of_getElem? (i := 44) rfl)) wS e0 ((State.WarmedH.refl s).since 0) (Nat.zero_le _) (g := (mkF m 1 #[.val (.ref aIDENTICAL), .val (.int (0 : Int32)), .val (.ref a3)] [(.ref aIDENTICAL)])) rfl (hb hby d_prog_4_method_4_1) (n := 16) (by decide) (by decide) (by decide) (by decide)
  have O4 := O0.ext E4
  have z5 : h0.size ≤ h4.size := Nat.le_trans (Nat.le_refl _) E4.1
  refine own_go st4 ?_
  show OwnGo p e below _ (T4.setTop (mkF m 3 #[.val (.ref aIDENTICAL), .val (.int (0 : Int32)), .val (.ref a3)] [(.ref a4), (.ref aIDENTICAL)]))
  obtain ⟨_, _, ⟨T6, L6, k6, n6⟩, -, X6, ⟨Lc6, hQ6, l6, y6, z6⟩, st6⟩ := Jvm.LawKit.callS X4 hx (y := (⟨"java/util/Objects", "requireNonNull", "(Ljava/lang/Object;Ljava/lang/String;)Ljava/lang/Object;"⟩ : MethodName)) hown (mvT hZ (hw _ (List.mem_of_getElem? (i := 52) rfl))) (mvT hZ (hw _ (List.mem_of_getElem? (i := 53) rfl))) (mvT hZ (hw _ (List.mem_of_getElem? (i := 54) rfl))) (mvT hZ (hw _ (List.mem_of_getElem? (i := 55) rfl))) (by decide) (backOf (W := 0) (rm_rn l Z a0 hw [] aIDENTICAL aCONTAINMENT aPARTIAL aA_TO_B aB_TO_A aBOTH aNONE aMIRROR aTEMPLATE_OR_PLAGIARISM aARCHIVE_PAGE aLINK_LIST_PART aSAME_SITE_RELATED aCITATION_OR_SPAM aSHARED_TEXT_OR_PLAGIARISM aSW kSW F0 aIDENTICAL a4 h4 n0 O4) hZ (hw _ (List.mem_of_getElem? (i := 55) rfl)) (hw _ (List.mem_of_getElem? (i := 54) rfl)) (by decide) (by decide)) (g := (mkF m 3 #[.val (.ref aIDENTICAL), .val (.int (0 : Int32)), .val (.ref a3)] [(.ref a4), (.ref aIDENTICAL)])) rfl (by rw [hml]; rfl) (argsL := [(.ref aIDENTICAL), (.ref a4)]) (rest := []) (lenOf pd_Ljava_lang_Object__Ljava_lang_String___Ljava_lang_Object_ rfl) rfl (by show 2 * 0 + _ ≤ _; exact Nat.le_of_eq rfl) (hb hby d_prog_4_method_4_3) (fun _ _ => ⟨rfl, e4, (by decide : 2 + 0 ≤ _), (by decide : 20 + 0 ≤ _)⟩)
  dsimp only [Pt.U, Pt.locs, Pt.cells, Pt.slots] at X6 l6 y6 z6 st6 hQ6
  subst l6 y6 z6
  obtain ⟨rfl, Nq6, K6⟩ := hQ6
  have N6 := Fr.app N0 Nq6
  refine own_go st6 ?_
  show OwnGo p e below _ (T6.setTop (mkF m 6 #[.val (.ref aIDENTICAL), .val (.int (0 : Int32)), .val (.ref a3)] [(.ref aIDENTICAL)]))
  refine own_go (fun _ k => XS.pop X6.here hx rfl (hb hby d_prog_4_method_4_6) rfl rfl k) ?_
  show OwnGo p e below _ (T6.setTop (mkF m 7 #[.val (.ref aIDENTICAL), .val (.int (0 : Int32)), .val (.ref a3)] []))
  refine own_go (fun _ k => XS.aloadN X6.here hx rfl (hb hby d_prog_4_method_4_7) rfl rfl k) ?_
  show OwnGo p e below _ (T6.setTop (mkF m 8 #[.val (.ref aIDENTICAL), .val (.int (0 : Int32)), .val (.ref a3)] [(.ref a3)]))
  obtain ⟨a7, T7, h7, k7, X7, e7, E7, hS7, kk7, hZ, hown, st7⟩ := ldcS (s := s) (vm0 := T4.vm) X6 hx hZ hown (hw _ (List.mem_of_getElem? (i := 56) rfl)) wS K6 hS4 kk4 (g := (mkF m 8 #[.val (.ref aIDENTICAL), .val (.int (0 : Int32)), .val (.ref a3)] [(.ref a3)])) rfl (hb hby d_prog_4_method_4_8) (n := 20) (by decide) (by decide) (by decide) (by decide)
  have O7 := O4.ext E7
  have z8 : h0.size ≤ h7.size := Nat.le_trans z5 E7.1
  refine own_go st7 ?_
  show OwnGo p e below _ (T7.setTop (mkF m 10 #[.val (.ref aIDENTICAL), .val (.int (0 : Int32)), .val (.ref a3)] [(.ref a7), (.ref a3)]))
  obtain ⟨_, _, ⟨T9, L9, k9, n9⟩, -, X9, ⟨Lc9, hQ9, l9, y9, z9⟩, st9⟩ := Jvm.LawKit.callS X7 hx (y := (⟨"java/util/Objects", "requireNonNull", "(Ljava/lang/Object;Ljava/lang/String;)Ljava/lang/Object;"⟩ : MethodName)) hown (mvT hZ (hw _ (List.mem_of_getElem? (i := 52) rfl))) (mvT hZ (hw _ (List.mem_of_getElem? (i := 53) rfl))) (mvT hZ (hw _ (List.mem_of_getElem? (i := 54) rfl))) (mvT hZ (hw _ (List.mem_of_getElem? (i := 55) rfl))) (by decide) (backOf (W := 0) (rm_rn l Z a0 hw [] aIDENTICAL aCONTAINMENT aPARTIAL aA_TO_B aB_TO_A aBOTH aNONE aMIRROR aTEMPLATE_OR_PLAGIARISM aARCHIVE_PAGE aLINK_LIST_PART aSAME_SITE_RELATED aCITATION_OR_SPAM aSHARED_TEXT_OR_PLAGIARISM aSW kSW F0 a3 a7 h7 n0 O7) hZ (hw _ (List.mem_of_getElem? (i := 55) rfl)) (hw _ (List.mem_of_getElem? (i := 54) rfl)) (by decide) (by decide)) (g := (mkF m 10 #[.val (.ref aIDENTICAL), .val (.int (0 : Int32)), .val (.ref a3)] [(.ref a7), (.ref a3)])) rfl (by rw [hml]; rfl) (argsL := [(.ref a3), (.ref a7)]) (rest := []) (lenOf pd_Ljava_lang_Object__Ljava_lang_String___Ljava_lang_Object_ rfl) rfl (by show 2 * 0 + _ ≤ _; exact Nat.le_of_eq rfl) (hb hby d_prog_4_method_4_10) (fun _ _ => ⟨rfl, e7, (by decide : 4 + 0 ≤ _), (by decide : 44 + 0 ≤ _)⟩)
  dsimp only [Pt.U, Pt.locs, Pt.cells, Pt.slots] at X9 l9 y9 z9 st9 hQ9
  subst l9 y9 z9
  obtain ⟨rfl, Nq9, K9⟩ := hQ9
  have N9 := Fr.app N6 Nq9
  refine own_go st9 ?_
  show OwnGo p e below _ (T9.setTop (mkF m 13 #[.val (.ref aIDENTICAL), .val (.int (0 : Int32)), .val (.ref a3)] [(.ref a3)]))
  refine own_go (fun _ k => XS.pop X9.here hx rfl (hb hby d_prog_4_method_4_13) rfl rfl k) ?_
  show OwnGo p e below _ (T9.setTop (mkF m 14 #[.val (.ref aIDENTICAL), .val (.int (0 : Int32)), .val (.ref a3)] []))
  obtain ⟨T10, X10, e10, st10⟩ := getS X9 hx hZ hown (host := "") (hw _ (List.mem_of_getElem? (i := 57) rfl)) Via.refl K9 (F0.2.2.2.2.2.2.2.2.2.2.2.2.2.2.2.2.2.2.2.2.2.2.2.2.2.2.2.2.2.2.2.2.2.2.2.1.ext O7.2) (g := (mkF m 14 #[.val (.ref aIDENTICAL), .val (.int (0 : Int32)), .val (.ref a3)] [])) rfl (hb hby d_prog_4_method_4_14)
  refine own_go st10 ?_
  show OwnGo p e below _ (T10.setTop (mkF m 17 #[.val (.ref aIDENTICAL), .val (.int (0 : Int32)), .val (.ref a3)] [(.ref aSW)]))
  refine own_go (fun _ k => XS.aloadN X10.here hx rfl (hb hby d_prog_4_method_4_17) rfl rfl k) ?_
  show OwnGo p e below _ (T10.setTop (mkF m 18 #[.val (.ref aIDENTICAL), .val (.int (0 : Int32)), .val (.ref a3)] [(.ref aIDENTICAL), (.ref aSW)]))
  obtain ⟨cq11, kq11, qa11, qb11, qc11⟩ := isOf hZ e10 (F0.2.1.ext O7.2)
  obtain ⟨_, _, ⟨T11, L11, k11, n11⟩, -, X11, ⟨Lc11, hQ11, l11, y11, z11⟩, st11⟩ := X10.virtualBackUp hx (x := (⟨"com/example/page_copy_finder/pagecopyfinder/copies/PairKind", "ordinal", "()I"⟩ : MethodName)) (y := (⟨"java/lang/Enum", "ordinal", "()I"⟩ : MethodName)) (owner := "java/lang/Enum") hown (mvT hZ (hw _ (List.mem_of_getElem? (i := 60) rfl))) (mvT hZ (hw _ (List.mem_of_getElem? (i := 61) rfl))) (mvT hZ (hw _ (List.mem_of_getElem? (i := 62) rfl))) (by decide) (mvT hZ (hw _ (List.mem_of_getElem? (i := 64) rfl))) (mvT hZ (hw _ (List.mem_of_getElem? (i := 63) rfl))) (backOf (W := 1) (rm_ord0 l Z a0 hw [] aIDENTICAL aCONTAINMENT aPARTIAL aA_TO_B aB_TO_A aBOTH aNONE aMIRROR aTEMPLATE_OR_PLAGIARISM aARCHIVE_PAGE aLINK_LIST_PART aSAME_SITE_RELATED aCITATION_OR_SPAM aSHARED_TEXT_OR_PLAGIARISM aSW kSW F0 h7 n0 O7) hZ (hw _ (List.mem_of_getElem? (i := 66) rfl)) (hw _ (List.mem_of_getElem? (i := 65) rfl)) (by decide) (by decide)) qa11 qc11 (g := (mkF m 18 #[.val (.ref aIDENTICAL), .val (.int (0 : Int32)), .val (.ref a3)] [(.ref aIDENTICAL), (.ref aSW)])) rfl (by rw [hml]; rfl) (Steps.refl _) (argsL := []) (rest := [(.ref aSW)]) (lenOf pd___I rfl) rfl (by show 2 * 0 + _ ≤ _; exact Nat.le_of_eq rfl) (hb hby d_prog_4_method_4_18) (fun _ _ => ⟨rfl, e10, (by decide : 4 + 0 ≤ _), (by decide : 44 + 0 ≤ _)⟩)
  dsimp only [Pt.U, Pt.locs, Pt.cells, Pt.slots] at X11 l11 y11 z11 st11 hQ11
  subst l11 y11 z11
  obtain ⟨rfl, Nq11, K11⟩ := hQ11
  have N11 := Fr.app N9 Nq11
  refine own_go (fun _ k => st11.trans k) ?_
  show OwnGo p e below _ (T11.setTop (mkF m 21 #[.val (.ref aIDENTICAL), .val (.int (0 : Int32)), .val (.ref a3)] [(.int (0 : Int32)), (.ref aSW)]))
  obtain ⟨c12, Ar12, q12, S12, M12, H12, G12⟩ := (id (F0.2.2.2.2.2.2.2.2.2.2.2.2.2.2.2.2.2.2.2.2.2.2.2.2.2.2.2.2.2.2.2.2.2.2.2.2.ext O7.2))
  refine own_go (fun _ k => X11.iaload hx (j := (0 : Int32)) (v := (.int (1 : Int32))) (by rw [K11]; exact Ar12.1) (State.isArrayOf_alike hZ.alike Ar12.2.1) Ar12.2.2 (inb_of S12 ⟨by decide, by decide⟩) (Has.at H12 (inb_of S12 ⟨by decide, by decide⟩) rfl) (g := (mkF m 21 #[.val (.ref aIDENTICAL), .val (.int (0 : Int32)), .val (.ref a3)] [(.int (0 : Int32)), (.ref aSW)])) rfl rfl (hb hby d_prog_4_method_4_21) _ k) ?_
  show OwnGo p e below _ (T11.setTop (mkF m 22 #[.val (.ref aIDENTICAL), .val (.int (0 : Int32)), .val (.ref a3)] [(.int (1 : Int32))]))
  refine own_go (fun _ k => XS.tswIn X11.here hx rfl (pc0 := 22) (pc' := 58) (o := 36) rfl (hb hby d_prog_4_method_4_22) rfl (by decide) (by decide) (by decide) (by decide) k) ?_
  show OwnGo p e below _ (T11.setTop (mkF m 58 #[.val (.ref aIDENTICAL), .val (.int (0 : Int32)), .val (.ref a3)] []))
  refine own_go (fun _ k => XS.iloadN X11.here hx rfl (hb hby d_prog_4_method_4_58) rfl k) ?_
  show OwnGo p e below _ (T11.setTop (mkF m 59 #[.val (.ref aIDENTICAL), .val (.int (0 : Int32)), .val (.ref a3)] [(.int (0 : Int32))]))
  refine own_go (fun _ k => XS.ifYes X11.here hx rfl (pc0 := 59) (pc' := 68) rfl (hb hby d_prog_4_method_4_59) rfl (by decide) (by decide) (by decide) k) ?_
  show OwnGo p e below _ (T11.setTop (mkF m 68 #[.val (.ref aIDENTICAL), .val (.int (0 : Int32)), .val (.ref a3)] []))
  obtain ⟨T13, X13, e13, st13⟩ := getS X11 hx hZ hown (host := "") (hw _ (List.mem_of_getElem? (i := 76) rfl)) Via.refl K11 (F0.2.2.2.2.2.2.2.2.2.2.2.2.2.2.2.2.1.ext O7.2) (g := (mkF m 68 #[.val (.ref aIDENTICAL), .val (.int (0 : Int32)), .val (.ref a3)] [])) rfl (hb hby d_prog_4_method_4_68)
  refine own_go st13 ?_
  show OwnGo p e below _ (T13.setTop (mkF m 71 #[.val (.ref aIDENTICAL), .val (.int (0 : Int32)), .val (.ref a3)] [(.ref aTEMPLATE_OR_PLAGIARISM)]))
  refine own_go (fun _ k => XS.goto X13.here hx rfl (pc0 := 71) (pc' := 116) rfl (hb hby d_prog_4_method_4_71) (by decide) (by decide) k) ?_
  show OwnGo p e below _ (T13.setTop (mkF m 116 #[.val (.ref aIDENTICAL), .val (.int (0 : Int32)), .val (.ref a3)] [(.ref aTEMPLATE_OR_PLAGIARISM)]))
  obtain ⟨fs, hr, hrun, hended, hEnd⟩ := Jvm.Stand.leaveW (s := s) (vm₁ := T7.vm) X13 hS7 (by rw [e13]; exact kk7) (v := some (.ref aTEMPLATE_OR_PLAGIARISM)) (fun h => by rw [Bd.returns] at h; cases h)
  refine ⟨_, _, retOut X13 hx Bd.returns rfl (Or.inr (Or.inr (Or.inr (Or.inr ⟨rfl, rfl, rfl⟩)))) (hb hby d_prog_4_method_4_116) hr, hrun, hended, _, _, rfl, ?_, own_monoW hEnd (by decide) (by decide)⟩
  show Q_of00 Z aIDENTICAL aCONTAINMENT aPARTIAL aA_TO_B aB_TO_A aBOTH aNONE aMIRROR aTEMPLATE_OR_PLAGIARISM aARCHIVE_PAGE aLINK_LIST_PART aSAME_SITE_RELATED aCITATION_OR_SPAM aSHARED_TEXT_OR_PLAGIARISM aSW kSW a3 h0 n0 _ T13.heap _
  rw [e13]
  exact ⟨rfl, N11, (((Keep.refl _ []).ext E4).ext E7)⟩
theorem d_prog_4_method_4_62 : decode prog_4_method_4_code 62 = .ok (.getstatic 3, 3) := by decide +kernel
theorem d_prog_4_method_4_65 : decode prog_4_method_4_code 65 = .ok (.goto 51, 3) := by decide +kernel
def Q_of01 (Z : State) (aIDENTICAL aCONTAINMENT aPARTIAL aA_TO_B aB_TO_A aBOTH aNONE aMIRROR aTEMPLATE_OR_PLAGIARISM aARCHIVE_PAGE aLINK_LIST_PART aSAME_SITE_RELATED aCITATION_OR_SPAM aSHARED_TEXT_OR_PLAGIARISM aSW : Addr) (kSW : ClassId) (a3 : Addr) (h0 : Heap) (n0 : Nat) (v : Option Value) (h : Heap) (L : List Loc) : Prop := v = some (.ref aMIRROR) ∧ Fr n0 L ∧ Keep h0 h []
theorem ef_of01 (m : MethodId) (x0 : Addr) (x1 : Int32) (x2 : Addr) : entryFrame m #[(.ref x0), (.int x1), (.ref x2)] 3 = mkF m 0 #[.val (.ref x0), .val (.int x1), .val (.ref x2)] [] := by first | (simp [entryFrame, mkF, argsToLocals, Value.category]; done) | rfl
set_option maxRecDepth 65536 in
set_option maxHeartbeats 40000000 in
theorem rm_of01 (l : Launch) (Z : State) (a0 : Array Value) (hw : ∀ d ∈ tables_1, d.before a0 Z = true) (ws : List Jvm.Cond) (aIDENTICAL aCONTAINMENT aPARTIAL aA_TO_B aB_TO_A aBOTH aNONE aMIRROR aTEMPLATE_OR_PLAGIARISM aARCHIVE_PAGE aLINK_LIST_PART aSAME_SITE_RELATED aCITATION_OR_SPAM aSHARED_TEXT_OR_PLAGIARISM aSW : Addr) (kSW : ClassId) (F0 : OwnFacts Z aIDENTICAL aCONTAINMENT aPARTIAL aA_TO_B aB_TO_A aBOTH aNONE aMIRROR aTEMPLATE_OR_PLAGIARISM aARCHIVE_PAGE aLINK_LIST_PART aSAME_SITE_RELATED aCITATION_OR_SPAM aSHARED_TEXT_OR_PLAGIARISM aSW kSW) (a3 : Addr) (h0 : Heap) (n0 : Nat) (O0 : Old Z n0 h0) :
    MetFree l (⟨"com/example/page_copy_finder/pagecopyfinder/copies/PairLabel", "of", "(Lcom/example/page_copy_finder/pagecopyfinder/copies/PairKind;ZLcom/example/page_copy_finder/pagecopyfinder/copies/PairLinks;)Lcom/example/page_copy_finder/pagecopyfinder/copies/PairLabel;"⟩ : MethodName) (head1 (Jvm.Cond.code (⟨"com/example/page_copy_finder/pagecopyfinder/copies/PairLabel", "of", "(Lcom/example/page_copy_finder/pagecopyfinder/copies/PairKind;ZLcom/example/page_copy_finder/pagecopyfinder/copies/PairLinks;)Lcom/example/page_copy_finder/pagecopyfinder/copies/PairLabel;"⟩ : MethodName) prog_4_method_4_code 3 (some (.object "com/example/page_copy_finder/pagecopyfinder/copies/PairLabel")) :: ws) ({ frames := 1, cells := 4, slots := 44, locals := 13 } : Room)) (fun a U => a = #[(.ref aIDENTICAL), (.int (1 : Int32)), (.ref a3)] ∧ Z.Warmed39 U.vm ∧ U.heap = h0) (fun _ _ _ _ _ => True) (fun _ U o U' => ∃ v L, o = .returned v ∧ Q_of01 Z aIDENTICAL aCONTAINMENT aPARTIAL aA_TO_B aB_TO_A aBOTH aNONE aMIRROR aTEMPLATE_OR_PLAGIARISM aARCHIVE_PAGE aLINK_LIST_PART aSAME_SITE_RELATED aCITATION_OR_SPAM aSHARED_TEXT_OR_PLAGIARISM aSW kSW a3 h0 n0 v U'.heap L ∧ ReturnedEndW U o U' L ({ frames := 1, cells := 4, slots := 44, locals := 13 } : Room).cells ({ frames := 1, cells := 4, slots := 44, locals := 13 } : Room).slots) := by
  refine MetFree.of_bodySF (plainFor_of_name pn_com_example_page_copy_finder_pagecopyfinder_copies_PairLabel) hisR ?_
  intro p e s m args below meth c s₁ Bd hml0 hP hK
  obtain ⟨rfl, hZ, hh⟩ := hP
  have hx := Bd.exec
  have hby := Bd.bytes
  have hml : c.maxLocals = 3 := hml0
  have hown : s.vm.findClass "com/example/page_copy_finder/pagecopyfinder/copies/PairLabel" = some m.cls := findClass_of_methodNamed Bd.named
  have hnm := (name_of_methodNamed Bd.named Bd.method).1
  have X0 : Stand p l e ({ frames := 1, cells := 4, slots := 44, locals := 13 } : Room) s m #[(.ref aIDENTICAL), (.int (1 : Int32)), (.ref a3)] below meth c s₁ [] 0 0 := Stand.of_body Bd
  have e0 : s₁.heap = h0 := by rw [← hh, Bd.state]; rfl
  have N0 := Fr.nil n0
  refine own_go (Q := fun o U' => ∃ v L, o = .returned v ∧ Q_of01 Z aIDENTICAL aCONTAINMENT aPARTIAL aA_TO_B aB_TO_A aBOTH aNONE aMIRROR aTEMPLATE_OR_PLAGIARISM aARCHIVE_PAGE aLINK_LIST_PART aSAME_SITE_RELATED aCITATION_OR_SPAM aSHARED_TEXT_OR_PLAGIARISM aSW kSW a3 h0 n0 v U'.heap L ∧ ReturnedEndW s o U' L ({ frames := 1, cells := 4, slots := 44, locals := 13 } : Room).cells ({ frames := 1, cells := 4, slots := 44, locals := 13 } : Room).slots) (fun t k => castTop (ef_of01 m aIDENTICAL (1 : Int32) a3) k) ?_
  have wS : ∀ a ∈ Bundle.stringAtoms, a.before a0 Z = true := by
    intro a ha
    simp only [Bundle.stringAtoms, List.mem_cons, List.not_mem_nil, or_false] at ha
    rcases ha with rfl | rfl | rfl | rfl | rfl | rfl | rfl
    · exact (hw _ (List.mem_of_getElem? (i := 45) rfl))
    · exact (hw _ (List.mem_of_getElem? (i := 46) rfl))
    · exact (hw _ (List.mem_of_getElem? (i := 47) rfl))
    · exact (hw _ (List.mem_of_getElem? (i := 48) rfl))
    · exact (hw _ (List.mem_of_getElem? (i := 49) rfl))
    · exact (hw _ (List.mem_of_getElem? (i := 50) rfl))
    · exact (hw _ (List.mem_of_getElem? (i := 51) rfl))
  show OwnGo p e below _ (s₁.setTop (mkF m 0 #[.val (.ref aIDENTICAL), .val (.int (1 : Int32)), .val (.ref a3)] []))
  refine own_go (fun _ k => XS.aloadN X0.here hx rfl (hb hby d_prog_4_method_4_0) rfl rfl k) ?_
  show OwnGo p e below _ (s₁.setTop (mkF m 1 #[.val (.ref aIDENTICAL), .val (.int (1 : Int32)), .val (.ref a3)] [(.ref aIDENTICAL)]))
  obtain ⟨a14, T14, h14, k14, X14, e14, E14, hS14, kk14, hZ, hown, st14⟩ := ldcS (s := s) (vm0 := s.vm) X0 hx hZ hown (hw _ (List.mem_of_getElem? (i := 44) rfl)) wS e0 ((State.WarmedH.refl s).since 0) (Nat.zero_le _) (g := (mkF m 1 #[.val (.ref aIDENTICAL), .val (.int (1 : Int32)), .val (.ref a3)] [(.ref aIDENTICAL)])) rfl (hb hby d_prog_4_method_4_1) (n := 16) (by decide) (by decide) (by decide) (by decide)
  have O14 := O0.ext E14
  have z15 : h0.size ≤ h14.size := Nat.le_trans (Nat.le_refl _) E14.1
  refine own_go st14 ?_
  show OwnGo p e below _ (T14.setTop (mkF m 3 #[.val (.ref aIDENTICAL), .val (.int (1 : Int32)), .val (.ref a3)] [(.ref a14), (.ref aIDENTICAL)]))
  obtain ⟨_, _, ⟨T16, L16, k16, n16⟩, -, X16, ⟨Lc16, hQ16, l16, y16, z16⟩, st16⟩ := Jvm.LawKit.callS X14 hx (y := (⟨"java/util/Objects", "requireNonNull", "(Ljava/lang/Object;Ljava/lang/String;)Ljava/lang/Object;"⟩ : MethodName)) hown (mvT hZ (hw _ (List.mem_of_getElem? (i := 52) rfl))) (mvT hZ (hw _ (List.mem_of_getElem? (i := 53) rfl))) (mvT hZ (hw _ (List.mem_of_getElem? (i := 54) rfl))) (mvT hZ (hw _ (List.mem_of_getElem? (i := 55) rfl))) (by decide) (backOf (W := 0) (rm_rn l Z a0 hw [] aIDENTICAL aCONTAINMENT aPARTIAL aA_TO_B aB_TO_A aBOTH aNONE aMIRROR aTEMPLATE_OR_PLAGIARISM aARCHIVE_PAGE aLINK_LIST_PART aSAME_SITE_RELATED aCITATION_OR_SPAM aSHARED_TEXT_OR_PLAGIARISM aSW kSW F0 aIDENTICAL a14 h14 n0 O14) hZ (hw _ (List.mem_of_getElem? (i := 55) rfl)) (hw _ (List.mem_of_getElem? (i := 54) rfl)) (by decide) (by decide)) (g := (mkF m 3 #[.val (.ref aIDENTICAL), .val (.int (1 : Int32)), .val (.ref a3)] [(.ref a14), (.ref aIDENTICAL)])) rfl (by rw [hml]; rfl) (argsL := [(.ref aIDENTICAL), (.ref a14)]) (rest := []) (lenOf pd_Ljava_lang_Object__Ljava_lang_String___Ljava_lang_Object_ rfl) rfl (by show 2 * 0 + _ ≤ _; exact Nat.le_of_eq rfl) (hb hby d_prog_4_method_4_3) (fun _ _ => ⟨rfl, e14, (by decide : 2 + 0 ≤ _), (by decide : 20 + 0 ≤ _)⟩)
  dsimp only [Pt.U, Pt.locs, Pt.cells, Pt.slots] at X16 l16 y16 z16 st16 hQ16
  subst l16 y16 z16
  obtain ⟨rfl, Nq16, K16⟩ := hQ16
  have N16 := Fr.app N0 Nq16
  refine own_go st16 ?_
  show OwnGo p e below _ (T16.setTop (mkF m 6 #[.val (.ref aIDENTICAL), .val (.int (1 : Int32)), .val (.ref a3)] [(.ref aIDENTICAL)]))
  refine own_go (fun _ k => XS.pop X16.here hx rfl (hb hby d_prog_4_method_4_6) rfl rfl k) ?_
  show OwnGo p e below _ (T16.setTop (mkF m 7 #[.val (.ref aIDENTICAL), .val (.int (1 : Int32)), .val (.ref a3)] []))
  refine own_go (fun _ k => XS.aloadN X16.here hx rfl (hb hby d_prog_4_method_4_7) rfl rfl k) ?_
  show OwnGo p e below _ (T16.setTop (mkF m 8 #[.val (.ref aIDENTICAL), .val (.int (1 : Int32)), .val (.ref a3)] [(.ref a3)]))
  obtain ⟨a17, T17, h17, k17, X17, e17, E17, hS17, kk17, hZ, hown, st17⟩ := ldcS (s := s) (vm0 := T14.vm) X16 hx hZ hown (hw _ (List.mem_of_getElem? (i := 56) rfl)) wS K16 hS14 kk14 (g := (mkF m 8 #[.val (.ref aIDENTICAL), .val (.int (1 : Int32)), .val (.ref a3)] [(.ref a3)])) rfl (hb hby d_prog_4_method_4_8) (n := 20) (by decide) (by decide) (by decide) (by decide)
  have O17 := O14.ext E17
  have z18 : h0.size ≤ h17.size := Nat.le_trans z15 E17.1
  refine own_go st17 ?_
  show OwnGo p e below _ (T17.setTop (mkF m 10 #[.val (.ref aIDENTICAL), .val (.int (1 : Int32)), .val (.ref a3)] [(.ref a17), (.ref a3)]))
  obtain ⟨_, _, ⟨T19, L19, k19, n19⟩, -, X19, ⟨Lc19, hQ19, l19, y19, z19⟩, st19⟩ := Jvm.LawKit.callS X17 hx (y := (⟨"java/util/Objects", "requireNonNull", "(Ljava/lang/Object;Ljava/lang/String;)Ljava/lang/Object;"⟩ : MethodName)) hown (mvT hZ (hw _ (List.mem_of_getElem? (i := 52) rfl))) (mvT hZ (hw _ (List.mem_of_getElem? (i := 53) rfl))) (mvT hZ (hw _ (List.mem_of_getElem? (i := 54) rfl))) (mvT hZ (hw _ (List.mem_of_getElem? (i := 55) rfl))) (by decide) (backOf (W := 0) (rm_rn l Z a0 hw [] aIDENTICAL aCONTAINMENT aPARTIAL aA_TO_B aB_TO_A aBOTH aNONE aMIRROR aTEMPLATE_OR_PLAGIARISM aARCHIVE_PAGE aLINK_LIST_PART aSAME_SITE_RELATED aCITATION_OR_SPAM aSHARED_TEXT_OR_PLAGIARISM aSW kSW F0 a3 a17 h17 n0 O17) hZ (hw _ (List.mem_of_getElem? (i := 55) rfl)) (hw _ (List.mem_of_getElem? (i := 54) rfl)) (by decide) (by decide)) (g := (mkF m 10 #[.val (.ref aIDENTICAL), .val (.int (1 : Int32)), .val (.ref a3)] [(.ref a17), (.ref a3)])) rfl (by rw [hml]; rfl) (argsL := [(.ref a3), (.ref a17)]) (rest := []) (lenOf pd_Ljava_lang_Object__Ljava_lang_String___Ljava_lang_Object_ rfl) rfl (by show 2 * 0 + _ ≤ _; exact Nat.le_of_eq rfl) (hb hby d_prog_4_method_4_10) (fun _ _ => ⟨rfl, e17, (by decide : 4 + 0 ≤ _), (by decide : 44 + 0 ≤ _)⟩)
  dsimp only [Pt.U, Pt.locs, Pt.cells, Pt.slots] at X19 l19 y19 z19 st19 hQ19
  subst l19 y19 z19
  obtain ⟨rfl, Nq19, K19⟩ := hQ19
  have N19 := Fr.app N16 Nq19
  refine own_go st19 ?_
  show OwnGo p e below _ (T19.setTop (mkF m 13 #[.val (.ref aIDENTICAL), .val (.int (1 : Int32)), .val (.ref a3)] [(.ref a3)]))
  refine own_go (fun _ k => XS.pop X19.here hx rfl (hb hby d_prog_4_method_4_13) rfl rfl k) ?_
  show OwnGo p e below _ (T19.setTop (mkF m 14 #[.val (.ref aIDENTICAL), .val (.int (1 : Int32)), .val (.ref a3)] []))
  obtain ⟨T20, X20, e20, st20⟩ := getS X19 hx hZ hown (host := "") (hw _ (List.mem_of_getElem? (i := 57) rfl)) Via.refl K19 (F0.2.2.2.2.2.2.2.2.2.2.2.2.2.2.2.2.2.2.2.2.2.2.2.2.2.2.2.2.2.2.2.2.2.2.2.1.ext O17.2) (g := (mkF m 14 #[.val (.ref aIDENTICAL), .val (.int (1 : Int32)), .val (.ref a3)] [])) rfl (hb hby d_prog_4_method_4_14)
  refine own_go st20 ?_
  show OwnGo p e below _ (T20.setTop (mkF m 17 #[.val (.ref aIDENTICAL), .val (.int (1 : Int32)), .val (.ref a3)] [(.ref aSW)]))
  refine own_go (fun _ k => XS.aloadN X20.here hx rfl (hb hby d_prog_4_method_4_17) rfl rfl k) ?_
  show OwnGo p e below _ (T20.setTop (mkF m 18 #[.val (.ref aIDENTICAL), .val (.int (1 : Int32)), .val (.ref a3)] [(.ref aIDENTICAL), (.ref aSW)]))
  obtain ⟨cq21, kq21, qa21, qb21, qc21⟩ := isOf hZ e20 (F0.2.1.ext O17.2)
  obtain ⟨_, _, ⟨T21, L21, k21, n21⟩, -, X21, ⟨Lc21, hQ21, l21, y21, z21⟩, st21⟩ := X20.virtualBackUp hx (x := (⟨"com/example/page_copy_finder/pagecopyfinder/copies/PairKind", "ordinal", "()I"⟩ : MethodName)) (y := (⟨"java/lang/Enum", "ordinal", "()I"⟩ : MethodName)) (owner := "java/lang/Enum") hown (mvT hZ (hw _ (List.mem_of_getElem? (i := 60) rfl))) (mvT hZ (hw _ (List.mem_of_getElem? (i := 61) rfl))) (mvT hZ (hw _ (List.mem_of_getElem? (i := 62) rfl))) (by decide) (mvT hZ (hw _ (List.mem_of_getElem? (i := 64) rfl))) (mvT hZ (hw _ (List.mem_of_getElem? (i := 63) rfl))) (backOf (W := 1) (rm_ord0 l Z a0 hw [] aIDENTICAL aCONTAINMENT aPARTIAL aA_TO_B aB_TO_A aBOTH aNONE aMIRROR aTEMPLATE_OR_PLAGIARISM aARCHIVE_PAGE aLINK_LIST_PART aSAME_SITE_RELATED aCITATION_OR_SPAM aSHARED_TEXT_OR_PLAGIARISM aSW kSW F0 h17 n0 O17) hZ (hw _ (List.mem_of_getElem? (i := 66) rfl)) (hw _ (List.mem_of_getElem? (i := 65) rfl)) (by decide) (by decide)) qa21 qc21 (g := (mkF m 18 #[.val (.ref aIDENTICAL), .val (.int (1 : Int32)), .val (.ref a3)] [(.ref aIDENTICAL), (.ref aSW)])) rfl (by rw [hml]; rfl) (Steps.refl _) (argsL := []) (rest := [(.ref aSW)]) (lenOf pd___I rfl) rfl (by show 2 * 0 + _ ≤ _; exact Nat.le_of_eq rfl) (hb hby d_prog_4_method_4_18) (fun _ _ => ⟨rfl, e20, (by decide : 4 + 0 ≤ _), (by decide : 44 + 0 ≤ _)⟩)
  dsimp only [Pt.U, Pt.locs, Pt.cells, Pt.slots] at X21 l21 y21 z21 st21 hQ21
  subst l21 y21 z21
  obtain ⟨rfl, Nq21, K21⟩ := hQ21
  have N21 := Fr.app N19 Nq21
  refine own_go (fun _ k => st21.trans k) ?_
  show OwnGo p e below _ (T21.setTop (mkF m 21 #[.val (.ref aIDENTICAL), .val (.int (1 : Int32)), .val (.ref a3)] [(.int (0 : Int32)), (.ref aSW)]))
  obtain ⟨c22, Ar22, q22, S22, M22, H22, G22⟩ := (id (F0.2.2.2.2.2.2.2.2.2.2.2.2.2.2.2.2.2.2.2.2.2.2.2.2.2.2.2.2.2.2.2.2.2.2.2.2.ext O17.2))
  refine own_go (fun _ k => X21.iaload hx (j := (0 : Int32)) (v := (.int (1 : Int32))) (by rw [K21]; exact Ar22.1) (State.isArrayOf_alike hZ.alike Ar22.2.1) Ar22.2.2 (inb_of S22 ⟨by decide, by decide⟩) (Has.at H22 (inb_of S22 ⟨by decide, by decide⟩) rfl) (g := (mkF m 21 #[.val (.ref aIDENTICAL), .val (.int (1 : Int32)), .val (.ref a3)] [(.int (0 : Int32)), (.ref aSW)])) rfl rfl (hb hby d_prog_4_method_4_21) _ k) ?_
  show OwnGo p e below _ (T21.setTop (mkF m 22 #[.val (.ref aIDENTICAL), .val (.int (1 : Int32)), .val (.ref a3)] [(.int (1 : Int32))]))
  refine own_go (fun _ k => XS.tswIn X21.here hx rfl (pc0 := 22) (pc' := 58) (o := 36) rfl (hb hby d_prog_4_method_4_22) rfl (by decide) (by decide) (by decide) (by decide) k) ?_
  show OwnGo p e below _ (T21.setTop (mkF m 58 #[.val (.ref aIDENTICAL), .val (.int (1 : Int32)), .val (.ref a3)] []))
  refine own_go (fun _ k => XS.iloadN X21.here hx rfl (hb hby d_prog_4_method_4_58) rfl k) ?_
  show OwnGo p e below _ (T21.setTop (mkF m 59 #[.val (.ref aIDENTICAL), .val (.int (1 : Int32)), .val (.ref a3)] [(.int (1 : Int32))]))
  refine own_go (fun _ k => XS.ifNo X21.here hx rfl (hb hby d_prog_4_method_4_59) rfl (by decide) k) ?_
  show OwnGo p e below _ (T21.setTop (mkF m 62 #[.val (.ref aIDENTICAL), .val (.int (1 : Int32)), .val (.ref a3)] []))
  obtain ⟨T23, X23, e23, st23⟩ := getS X21 hx hZ hown (host := "") (hw _ (List.mem_of_getElem? (i := 69) rfl)) Via.refl K21 (F0.2.2.2.2.2.2.2.2.2.2.2.2.2.2.1.ext O17.2) (g := (mkF m 62 #[.val (.ref aIDENTICAL), .val (.int (1 : Int32)), .val (.ref a3)] [])) rfl (hb hby d_prog_4_method_4_62)
  refine own_go st23 ?_
  show OwnGo p e below _ (T23.setTop (mkF m 65 #[.val (.ref aIDENTICAL), .val (.int (1 : Int32)), .val (.ref a3)] [(.ref aMIRROR)]))
  refine own_go (fun _ k => XS.goto X23.here hx rfl (pc0 := 65) (pc' := 116) rfl (hb hby d_prog_4_method_4_65) (by decide) (by decide) k) ?_
  show OwnGo p e below _ (T23.setTop (mkF m 116 #[.val (.ref aIDENTICAL), .val (.int (1 : Int32)), .val (.ref a3)] [(.ref aMIRROR)]))
  obtain ⟨fs, hr, hrun, hended, hEnd⟩ := Jvm.Stand.leaveW (s := s) (vm₁ := T17.vm) X23 hS17 (by rw [e23]; exact kk17) (v := some (.ref aMIRROR)) (fun h => by rw [Bd.returns] at h; cases h)
  refine ⟨_, _, retOut X23 hx Bd.returns rfl (Or.inr (Or.inr (Or.inr (Or.inr ⟨rfl, rfl, rfl⟩)))) (hb hby d_prog_4_method_4_116) hr, hrun, hended, _, _, rfl, ?_, own_monoW hEnd (by decide) (by decide)⟩
  show Q_of01 Z aIDENTICAL aCONTAINMENT aPARTIAL aA_TO_B aB_TO_A aBOTH aNONE aMIRROR aTEMPLATE_OR_PLAGIARISM aARCHIVE_PAGE aLINK_LIST_PART aSAME_SITE_RELATED aCITATION_OR_SPAM aSHARED_TEXT_OR_PLAGIARISM aSW kSW a3 h0 n0 _ T23.heap _
  rw [e23]
  exact ⟨rfl, N21, (((Keep.refl _ []).ext E14).ext E17)⟩
theorem d_prog_4_method_4_74 : decode prog_4_method_4_code 74 = .ok (.iload_n 1, 1) := by decide +kernel
theorem d_prog_4_method_4_75 : decode prog_4_method_4_code 75 = .ok (.ifCond .eq 9, 3) := by decide +kernel
theorem d_prog_4_method_4_84 : decode prog_4_method_4_code 84 = .ok (.getstatic 13, 3) := by decide +kernel
theorem d_prog_4_method_4_87 : decode prog_4_method_4_code 87 = .ok (.goto 29, 3) := by decide +kernel
def Q_of10 (Z : State) (aIDENTICAL aCONTAINMENT aPARTIAL aA_TO_B aB_TO_A aBOTH aNONE aMIRROR aTEMPLATE_OR_PLAGIARISM aARCHIVE_PAGE aLINK_LIST_PART aSAME_SITE_RELATED aCITATION_OR_SPAM aSHARED_TEXT_OR_PLAGIARISM aSW : Addr) (kSW : ClassId) (a3 : Addr) (h0 : Heap) (n0 : Nat) (v : Option Value) (h : Heap) (L : List Loc) : Prop := v = some (.ref aLINK_LIST_PART) ∧ Fr n0 L ∧ Keep h0 h []
theorem ef_of10 (m : MethodId) (x0 : Addr) (x1 : Int32) (x2 : Addr) : entryFrame m #[(.ref x0), (.int x1), (.ref x2)] 3 = mkF m 0 #[.val (.ref x0), .val (.int x1), .val (.ref x2)] [] := by first | (simp [entryFrame, mkF, argsToLocals, Value.category]; done) | rfl
set_option maxRecDepth 65536 in
set_option maxHeartbeats 40000000 in
theorem rm_of10 (l : Launch) (Z : State) (a0 : Array Value) (hw : ∀ d ∈ tables_1, d.before a0 Z = true) (ws : List Jvm.Cond) (aIDENTICAL aCONTAINMENT aPARTIAL aA_TO_B aB_TO_A aBOTH aNONE aMIRROR aTEMPLATE_OR_PLAGIARISM aARCHIVE_PAGE aLINK_LIST_PART aSAME_SITE_RELATED aCITATION_OR_SPAM aSHARED_TEXT_OR_PLAGIARISM aSW : Addr) (kSW : ClassId) (F0 : OwnFacts Z aIDENTICAL aCONTAINMENT aPARTIAL aA_TO_B aB_TO_A aBOTH aNONE aMIRROR aTEMPLATE_OR_PLAGIARISM aARCHIVE_PAGE aLINK_LIST_PART aSAME_SITE_RELATED aCITATION_OR_SPAM aSHARED_TEXT_OR_PLAGIARISM aSW kSW) (a3 : Addr) (h0 : Heap) (n0 : Nat) (O0 : Old Z n0 h0) :
    MetFree l (⟨"com/example/page_copy_finder/pagecopyfinder/copies/PairLabel", "of", "(Lcom/example/page_copy_finder/pagecopyfinder/copies/PairKind;ZLcom/example/page_copy_finder/pagecopyfinder/copies/PairLinks;)Lcom/example/page_copy_finder/pagecopyfinder/copies/PairLabel;"⟩ : MethodName) (head1 (Jvm.Cond.code (⟨"com/example/page_copy_finder/pagecopyfinder/copies/PairLabel", "of", "(Lcom/example/page_copy_finder/pagecopyfinder/copies/PairKind;ZLcom/example/page_copy_finder/pagecopyfinder/copies/PairLinks;)Lcom/example/page_copy_finder/pagecopyfinder/copies/PairLabel;"⟩ : MethodName) prog_4_method_4_code 3 (some (.object "com/example/page_copy_finder/pagecopyfinder/copies/PairLabel")) :: ws) ({ frames := 1, cells := 4, slots := 44, locals := 13 } : Room)) (fun a U => a = #[(.ref aCONTAINMENT), (.int (0 : Int32)), (.ref a3)] ∧ Z.Warmed39 U.vm ∧ U.heap = h0) (fun _ _ _ _ _ => True) (fun _ U o U' => ∃ v L, o = .returned v ∧ Q_of10 Z aIDENTICAL aCONTAINMENT aPARTIAL aA_TO_B aB_TO_A aBOTH aNONE aMIRROR aTEMPLATE_OR_PLAGIARISM aARCHIVE_PAGE aLINK_LIST_PART aSAME_SITE_RELATED aCITATION_OR_SPAM aSHARED_TEXT_OR_PLAGIARISM aSW kSW a3 h0 n0 v U'.heap L ∧ ReturnedEndW U o U' L ({ frames := 1, cells := 4, slots := 44, locals := 13 } : Room).cells ({ frames := 1, cells := 4, slots := 44, locals := 13 } : Room).slots) := by
  refine MetFree.of_bodySF (plainFor_of_name pn_com_example_page_copy_finder_pagecopyfinder_copies_PairLabel) hisR ?_
  intro p e s m args below meth c s₁ Bd hml0 hP hK
  obtain ⟨rfl, hZ, hh⟩ := hP
  have hx := Bd.exec
  have hby := Bd.bytes
  have hml : c.maxLocals = 3 := hml0
  have hown : s.vm.findClass "com/example/page_copy_finder/pagecopyfinder/copies/PairLabel" = some m.cls := findClass_of_methodNamed Bd.named
  have hnm := (name_of_methodNamed Bd.named Bd.method).1
  have X0 : Stand p l e ({ frames := 1, cells := 4, slots := 44, locals := 13 } : Room) s m #[(.ref aCONTAINMENT), (.int (0 : Int32)), (.ref a3)] below meth c s₁ [] 0 0 := Stand.of_body Bd
  have e0 : s₁.heap = h0 := by rw [← hh, Bd.state]; rfl
  have N0 := Fr.nil n0
  refine own_go (Q := fun o U' => ∃ v L, o = .returned v ∧ Q_of10 Z aIDENTICAL aCONTAINMENT aPARTIAL aA_TO_B aB_TO_A aBOTH aNONE aMIRROR aTEMPLATE_OR_PLAGIARISM aARCHIVE_PAGE aLINK_LIST_PART aSAME_SITE_RELATED aCITATION_OR_SPAM aSHARED_TEXT_OR_PLAGIARISM aSW kSW a3 h0 n0 v U'.heap L ∧ ReturnedEndW s o U' L ({ frames := 1, cells := 4, slots := 44, locals := 13 } : Room).cells ({ frames := 1, cells := 4, slots := 44, locals := 13 } : Room).slots) (fun t k => castTop (ef_of10 m aCONTAINMENT (0 : Int32) a3) k) ?_
  have wS : ∀ a ∈ Bundle.stringAtoms, a.before a0 Z = true := by
    intro a ha
    simp only [Bundle.stringAtoms, List.mem_cons, List.not_mem_nil, or_false] at ha
    rcases ha with rfl | rfl | rfl | rfl | rfl | rfl | rfl
    · exact (hw _ (List.mem_of_getElem? (i := 45) rfl))
    · exact (hw _ (List.mem_of_getElem? (i := 46) rfl))
    · exact (hw _ (List.mem_of_getElem? (i := 47) rfl))
    · exact (hw _ (List.mem_of_getElem? (i := 48) rfl))
    · exact (hw _ (List.mem_of_getElem? (i := 49) rfl))
    · exact (hw _ (List.mem_of_getElem? (i := 50) rfl))
    · exact (hw _ (List.mem_of_getElem? (i := 51) rfl))
  show OwnGo p e below _ (s₁.setTop (mkF m 0 #[.val (.ref aCONTAINMENT), .val (.int (0 : Int32)), .val (.ref a3)] []))
  refine own_go (fun _ k => XS.aloadN X0.here hx rfl (hb hby d_prog_4_method_4_0) rfl rfl k) ?_
  show OwnGo p e below _ (s₁.setTop (mkF m 1 #[.val (.ref aCONTAINMENT), .val (.int (0 : Int32)), .val (.ref a3)] [(.ref aCONTAINMENT)]))
  obtain ⟨a24, T24, h24, k24, X24, e24, E24, hS24, kk24, hZ, hown, st24⟩ := ldcS (s := s) (vm0 := s.vm) X0 hx hZ hown (hw _ (List.mem_of_getElem? (i := 44) rfl)) wS e0 ((State.WarmedH.refl s).since 0) (Nat.zero_le _) (g := (mkF m 1 #[.val (.ref aCONTAINMENT), .val (.int (0 : Int32)), .val (.ref a3)] [(.ref aCONTAINMENT)])) rfl (hb hby d_prog_4_method_4_1) (n := 16) (by decide) (by decide) (by decide) (by decide)
  have O24 := O0.ext E24
  have z25 : h0.size ≤ h24.size := Nat.le_trans (Nat.le_refl _) E24.1
  refine own_go st24 ?_
  show OwnGo p e below _ (T24.setTop (mkF m 3 #[.val (.ref aCONTAINMENT), .val (.int (0 : Int32)), .val (.ref a3)] [(.ref a24), (.ref aCONTAINMENT)]))
  obtain ⟨_, _, ⟨T26, L26, k26, n26⟩, -, X26, ⟨Lc26, hQ26, l26, y26, z26⟩, st26⟩ := Jvm.LawKit.callS X24 hx (y := (⟨"java/util/Objects", "requireNonNull", "(Ljava/lang/Object;Ljava/lang/String;)Ljava/lang/Object;"⟩ : MethodName)) hown (mvT hZ (hw _ (List.mem_of_getElem? (i := 52) rfl))) (mvT hZ (hw _ (List.mem_of_getElem? (i := 53) rfl))) (mvT hZ (hw _ (List.mem_of_getElem? (i := 54) rfl))) (mvT hZ (hw _ (List.mem_of_getElem? (i := 55) rfl))) (by decide) (backOf (W := 0) (rm_rn l Z a0 hw [] aIDENTICAL aCONTAINMENT aPARTIAL aA_TO_B aB_TO_A aBOTH aNONE aMIRROR aTEMPLATE_OR_PLAGIARISM aARCHIVE_PAGE aLINK_LIST_PART aSAME_SITE_RELATED aCITATION_OR_SPAM aSHARED_TEXT_OR_PLAGIARISM aSW kSW F0 aCONTAINMENT a24 h24 n0 O24) hZ (hw _ (List.mem_of_getElem? (i := 55) rfl)) (hw _ (List.mem_of_getElem? (i := 54) rfl)) (by decide) (by decide)) (g := (mkF m 3 #[.val (.ref aCONTAINMENT), .val (.int (0 : Int32)), .val (.ref a3)] [(.ref a24), (.ref aCONTAINMENT)])) rfl (by rw [hml]; rfl) (argsL := [(.ref aCONTAINMENT), (.ref a24)]) (rest := []) (lenOf pd_Ljava_lang_Object__Ljava_lang_String___Ljava_lang_Object_ rfl) rfl (by show 2 * 0 + _ ≤ _; exact Nat.le_of_eq rfl) (hb hby d_prog_4_method_4_3) (fun _ _ => ⟨rfl, e24, (by decide : 2 + 0 ≤ _), (by decide : 20 + 0 ≤ _)⟩)
  dsimp only [Pt.U, Pt.locs, Pt.cells, Pt.slots] at X26 l26 y26 z26 st26 hQ26
  subst l26 y26 z26
  obtain ⟨rfl, Nq26, K26⟩ := hQ26
  have N26 := Fr.app N0 Nq26
  refine own_go st26 ?_
  show OwnGo p e below _ (T26.setTop (mkF m 6 #[.val (.ref aCONTAINMENT), .val (.int (0 : Int32)), .val (.ref a3)] [(.ref aCONTAINMENT)]))
  refine own_go (fun _ k => XS.pop X26.here hx rfl (hb hby d_prog_4_method_4_6) rfl rfl k) ?_
  show OwnGo p e below _ (T26.setTop (mkF m 7 #[.val (.ref aCONTAINMENT), .val (.int (0 : Int32)), .val (.ref a3)] []))
  refine own_go (fun _ k => XS.aloadN X26.here hx rfl (hb hby d_prog_4_method_4_7) rfl rfl k) ?_
  show OwnGo p e below _ (T26.setTop (mkF m 8 #[.val (.ref aCONTAINMENT), .val (.int (0 : Int32)), .val (.ref a3)] [(.ref a3)]))
  obtain ⟨a27, T27, h27, k27, X27, e27, E27, hS27, kk27, hZ, hown, st27⟩ := ldcS (s := s) (vm0 := T24.vm) X26 hx hZ hown (hw _ (List.mem_of_getElem? (i := 56) rfl)) wS K26 hS24 kk24 (g := (mkF m 8 #[.val (.ref aCONTAINMENT), .val (.int (0 : Int32)), .val (.ref a3)] [(.ref a3)])) rfl (hb hby d_prog_4_method_4_8) (n := 20) (by decide) (by decide) (by decide) (by decide)
  have O27 := O24.ext E27
  have z28 : h0.size ≤ h27.size := Nat.le_trans z25 E27.1
  refine own_go st27 ?_
  show OwnGo p e below _ (T27.setTop (mkF m 10 #[.val (.ref aCONTAINMENT), .val (.int (0 : Int32)), .val (.ref a3)] [(.ref a27), (.ref a3)]))
  obtain ⟨_, _, ⟨T29, L29, k29, n29⟩, -, X29, ⟨Lc29, hQ29, l29, y29, z29⟩, st29⟩ := Jvm.LawKit.callS X27 hx (y := (⟨"java/util/Objects", "requireNonNull", "(Ljava/lang/Object;Ljava/lang/String;)Ljava/lang/Object;"⟩ : MethodName)) hown (mvT hZ (hw _ (List.mem_of_getElem? (i := 52) rfl))) (mvT hZ (hw _ (List.mem_of_getElem? (i := 53) rfl))) (mvT hZ (hw _ (List.mem_of_getElem? (i := 54) rfl))) (mvT hZ (hw _ (List.mem_of_getElem? (i := 55) rfl))) (by decide) (backOf (W := 0) (rm_rn l Z a0 hw [] aIDENTICAL aCONTAINMENT aPARTIAL aA_TO_B aB_TO_A aBOTH aNONE aMIRROR aTEMPLATE_OR_PLAGIARISM aARCHIVE_PAGE aLINK_LIST_PART aSAME_SITE_RELATED aCITATION_OR_SPAM aSHARED_TEXT_OR_PLAGIARISM aSW kSW F0 a3 a27 h27 n0 O27) hZ (hw _ (List.mem_of_getElem? (i := 55) rfl)) (hw _ (List.mem_of_getElem? (i := 54) rfl)) (by decide) (by decide)) (g := (mkF m 10 #[.val (.ref aCONTAINMENT), .val (.int (0 : Int32)), .val (.ref a3)] [(.ref a27), (.ref a3)])) rfl (by rw [hml]; rfl) (argsL := [(.ref a3), (.ref a27)]) (rest := []) (lenOf pd_Ljava_lang_Object__Ljava_lang_String___Ljava_lang_Object_ rfl) rfl (by show 2 * 0 + _ ≤ _; exact Nat.le_of_eq rfl) (hb hby d_prog_4_method_4_10) (fun _ _ => ⟨rfl, e27, (by decide : 4 + 0 ≤ _), (by decide : 44 + 0 ≤ _)⟩)
  dsimp only [Pt.U, Pt.locs, Pt.cells, Pt.slots] at X29 l29 y29 z29 st29 hQ29
  subst l29 y29 z29
  obtain ⟨rfl, Nq29, K29⟩ := hQ29
  have N29 := Fr.app N26 Nq29
  refine own_go st29 ?_
  show OwnGo p e below _ (T29.setTop (mkF m 13 #[.val (.ref aCONTAINMENT), .val (.int (0 : Int32)), .val (.ref a3)] [(.ref a3)]))
  refine own_go (fun _ k => XS.pop X29.here hx rfl (hb hby d_prog_4_method_4_13) rfl rfl k) ?_
  show OwnGo p e below _ (T29.setTop (mkF m 14 #[.val (.ref aCONTAINMENT), .val (.int (0 : Int32)), .val (.ref a3)] []))
  obtain ⟨T30, X30, e30, st30⟩ := getS X29 hx hZ hown (host := "") (hw _ (List.mem_of_getElem? (i := 57) rfl)) Via.refl K29 (F0.2.2.2.2.2.2.2.2.2.2.2.2.2.2.2.2.2.2.2.2.2.2.2.2.2.2.2.2.2.2.2.2.2.2.2.1.ext O27.2) (g := (mkF m 14 #[.val (.ref aCONTAINMENT), .val (.int (0 : Int32)), .val (.ref a3)] [])) rfl (hb hby d_prog_4_method_4_14)
  refine own_go st30 ?_
  show OwnGo p e below _ (T30.setTop (mkF m 17 #[.val (.ref aCONTAINMENT), .val (.int (0 : Int32)), .val (.ref a3)] [(.ref aSW)]))
  refine own_go (fun _ k => XS.aloadN X30.here hx rfl (hb hby d_prog_4_method_4_17) rfl rfl k) ?_
  show OwnGo p e below _ (T30.setTop (mkF m 18 #[.val (.ref aCONTAINMENT), .val (.int (0 : Int32)), .val (.ref a3)] [(.ref aCONTAINMENT), (.ref aSW)]))
  obtain ⟨cq31, kq31, qa31, qb31, qc31⟩ := isOf hZ e30 (F0.2.2.2.1.ext O27.2)
  obtain ⟨_, _, ⟨T31, L31, k31, n31⟩, -, X31, ⟨Lc31, hQ31, l31, y31, z31⟩, st31⟩ := X30.virtualBackUp hx (x := (⟨"com/example/page_copy_finder/pagecopyfinder/copies/PairKind", "ordinal", "()I"⟩ : MethodName)) (y := (⟨"java/lang/Enum", "ordinal", "()I"⟩ : MethodName)) (owner := "java/lang/Enum") hown (mvT hZ (hw _ (List.mem_of_getElem? (i := 60) rfl))) (mvT hZ (hw _ (List.mem_of_getElem? (i := 61) rfl))) (mvT hZ (hw _ (List.mem_of_getElem? (i := 62) rfl))) (by decide) (mvT hZ (hw _ (List.mem_of_getElem? (i := 64) rfl))) (mvT hZ (hw _ (List.mem_of_getElem? (i := 63) rfl))) (backOf (W := 1) (rm_ord1 l Z a0 hw [] aIDENTICAL aCONTAINMENT aPARTIAL aA_TO_B aB_TO_A aBOTH aNONE aMIRROR aTEMPLATE_OR_PLAGIARISM aARCHIVE_PAGE aLINK_LIST_PART aSAME_SITE_RELATED aCITATION_OR_SPAM aSHARED_TEXT_OR_PLAGIARISM aSW kSW F0 h27 n0 O27) hZ (hw _ (List.mem_of_getElem? (i := 66) rfl)) (hw _ (List.mem_of_getElem? (i := 65) rfl)) (by decide) (by decide)) qa31 qc31 (g := (mkF m 18 #[.val (.ref aCONTAINMENT), .val (.int (0 : Int32)), .val (.ref a3)] [(.ref aCONTAINMENT), (.ref aSW)])) rfl (by rw [hml]; rfl) (Steps.refl _) (argsL := []) (rest := [(.ref aSW)]) (lenOf pd___I rfl) rfl (by show 2 * 0 + _ ≤ _; exact Nat.le_of_eq rfl) (hb hby d_prog_4_method_4_18) (fun _ _ => ⟨rfl, e30, (by decide : 4 + 0 ≤ _), (by decide : 44 + 0 ≤ _)⟩)
  dsimp only [Pt.U, Pt.locs, Pt.cells, Pt.slots] at X31 l31 y31 z31 st31 hQ31
  subst l31 y31 z31
  obtain ⟨rfl, Nq31, K31⟩ := hQ31
  have N31 := Fr.app N29 Nq31
  refine own_go (fun _ k => st31.trans k) ?_
  show OwnGo p e below _ (T31.setTop (mkF m 21 #[.val (.ref aCONTAINMENT), .val (.int (0 : Int32)), .val (.ref a3)] [(.int (1 : Int32)), (.ref aSW)]))
  obtain ⟨c32, Ar32, q32, S32, M32, H32, G32⟩ := (id (F0.2.2.2.2.2.2.2.2.2.2.2.2.2.2.2.2.2.2.2.2.2.2.2.2.2.2.2.2.2.2.2.2.2.2.2.2.ext O27.2))
  refine own_go (fun _ k => X31.iaload hx (j := (1 : Int32)) (v := (.int (2 : Int32))) (by rw [K31]; exact Ar32.1) (State.isArrayOf_alike hZ.alike Ar32.2.1) Ar32.2.2 (inb_of S32 ⟨by decide, by decide⟩) (Has.at H32 (inb_of S32 ⟨by decide, by decide⟩) rfl) (g := (mkF m 21 #[.val (.ref aCONTAINMENT), .val (.int (0 : Int32)), .val (.ref a3)] [(.int (1 : Int32)), (.ref aSW)])) rfl rfl (hb hby d_prog_4_method_4_21) _ k) ?_
  show OwnGo p e below _ (T31.setTop (mkF m 22 #[.val (.ref aCONTAINMENT), .val (.int (0 : Int32)), .val (.ref a3)] [(.int (2 : Int32))]))
  refine own_go (fun _ k => XS.tswIn X31.here hx rfl (pc0 := 22) (pc' := 74) (o := 52) rfl (hb hby d_prog_4_method_4_22) rfl (by decide) (by decide) (by decide) (by decide) k) ?_
  show OwnGo p e below _ (T31.setTop (mkF m 74 #[.val (.ref aCONTAINMENT), .val (.int (0 : Int32)), .val (.ref a3)] []))
  refine own_go (fun _ k => XS.iloadN X31.here hx rfl (hb hby d_prog_4_method_4_74) rfl k) ?_
  show OwnGo p e below _ (T31.setTop (mkF m 75 #[.val (.ref aCONTAINMENT), .val (.int (0 : Int32)), .val (.ref a3)] [(.int (0 : Int32))]))
  refine own_go (fun _ k => XS.ifYes X31.here hx rfl (pc0 := 75) (pc' := 84) rfl (hb hby d_prog_4_method_4_75) rfl (by decide) (by decide) (by decide) k) ?_
  show OwnGo p e below _ (T31.setTop (mkF m 84 #[.val (.ref aCONTAINMENT), .val (.int (0 : Int32)), .val (.ref a3)] []))
  obtain ⟨T33, X33, e33, st33⟩ := getS X31 hx hZ hown (host := "") (hw _ (List.mem_of_getElem? (i := 70) rfl)) Via.refl K31 (F0.2.2.2.2.2.2.2.2.2.2.2.2.2.2.2.2.2.2.2.2.1.ext O27.2) (g := (mkF m 84 #[.val (.ref aCONTAINMENT), .val (.int (0 : Int32)), .val (.ref a3)] [])) rfl (hb hby d_prog_4_method_4_84)
  refine own_go st33 ?_
  show OwnGo p e below _ (T33.setTop (mkF m 87 #[.val (.ref aCONTAINMENT), .val (.int (0 : Int32)), .val (.ref a3)] [(.ref aLINK_LIST_PART)]))
  refine own_go (fun _ k => XS.goto X33.here hx rfl (pc0 := 87) (pc' := 116) rfl (hb hby d_prog_4_method_4_87) (by decide) (by decide) k) ?_
  show OwnGo p e below _ (T33.setTop (mkF m 116 #[.val (.ref aCONTAINMENT), .val (.int (0 : Int32)), .val (.ref a3)] [(.ref aLINK_LIST_PART)]))
  obtain ⟨fs, hr, hrun, hended, hEnd⟩ := Jvm.Stand.leaveW (s := s) (vm₁ := T27.vm) X33 hS27 (by rw [e33]; exact kk27) (v := some (.ref aLINK_LIST_PART)) (fun h => by rw [Bd.returns] at h; cases h)
  refine ⟨_, _, retOut X33 hx Bd.returns rfl (Or.inr (Or.inr (Or.inr (Or.inr ⟨rfl, rfl, rfl⟩)))) (hb hby d_prog_4_method_4_116) hr, hrun, hended, _, _, rfl, ?_, own_monoW hEnd (by decide) (by decide)⟩
  show Q_of10 Z aIDENTICAL aCONTAINMENT aPARTIAL aA_TO_B aB_TO_A aBOTH aNONE aMIRROR aTEMPLATE_OR_PLAGIARISM aARCHIVE_PAGE aLINK_LIST_PART aSAME_SITE_RELATED aCITATION_OR_SPAM aSHARED_TEXT_OR_PLAGIARISM aSW kSW a3 h0 n0 _ T33.heap _
  rw [e33]
  exact ⟨rfl, N31, (((Keep.refl _ []).ext E24).ext E27)⟩
theorem d_prog_4_method_4_78 : decode prog_4_method_4_code 78 = .ok (.getstatic 10, 3) := by decide +kernel
theorem d_prog_4_method_4_81 : decode prog_4_method_4_code 81 = .ok (.goto 35, 3) := by decide +kernel
def Q_of11 (Z : State) (aIDENTICAL aCONTAINMENT aPARTIAL aA_TO_B aB_TO_A aBOTH aNONE aMIRROR aTEMPLATE_OR_PLAGIARISM aARCHIVE_PAGE aLINK_LIST_PART aSAME_SITE_RELATED aCITATION_OR_SPAM aSHARED_TEXT_OR_PLAGIARISM aSW : Addr) (kSW : ClassId) (a3 : Addr) (h0 : Heap) (n0 : Nat) (v : Option Value) (h : Heap) (L : List Loc) : Prop := v = some (.ref aARCHIVE_PAGE) ∧ Fr n0 L ∧ Keep h0 h []
theorem ef_of11 (m : MethodId) (x0 : Addr) (x1 : Int32) (x2 : Addr) : entryFrame m #[(.ref x0), (.int x1), (.ref x2)] 3 = mkF m 0 #[.val (.ref x0), .val (.int x1), .val (.ref x2)] [] := by first | (simp [entryFrame, mkF, argsToLocals, Value.category]; done) | rfl
set_option maxRecDepth 65536 in
set_option maxHeartbeats 40000000 in
theorem rm_of11 (l : Launch) (Z : State) (a0 : Array Value) (hw : ∀ d ∈ tables_1, d.before a0 Z = true) (ws : List Jvm.Cond) (aIDENTICAL aCONTAINMENT aPARTIAL aA_TO_B aB_TO_A aBOTH aNONE aMIRROR aTEMPLATE_OR_PLAGIARISM aARCHIVE_PAGE aLINK_LIST_PART aSAME_SITE_RELATED aCITATION_OR_SPAM aSHARED_TEXT_OR_PLAGIARISM aSW : Addr) (kSW : ClassId) (F0 : OwnFacts Z aIDENTICAL aCONTAINMENT aPARTIAL aA_TO_B aB_TO_A aBOTH aNONE aMIRROR aTEMPLATE_OR_PLAGIARISM aARCHIVE_PAGE aLINK_LIST_PART aSAME_SITE_RELATED aCITATION_OR_SPAM aSHARED_TEXT_OR_PLAGIARISM aSW kSW) (a3 : Addr) (h0 : Heap) (n0 : Nat) (O0 : Old Z n0 h0) :
    MetFree l (⟨"com/example/page_copy_finder/pagecopyfinder/copies/PairLabel", "of", "(Lcom/example/page_copy_finder/pagecopyfinder/copies/PairKind;ZLcom/example/page_copy_finder/pagecopyfinder/copies/PairLinks;)Lcom/example/page_copy_finder/pagecopyfinder/copies/PairLabel;"⟩ : MethodName) (head1 (Jvm.Cond.code (⟨"com/example/page_copy_finder/pagecopyfinder/copies/PairLabel", "of", "(Lcom/example/page_copy_finder/pagecopyfinder/copies/PairKind;ZLcom/example/page_copy_finder/pagecopyfinder/copies/PairLinks;)Lcom/example/page_copy_finder/pagecopyfinder/copies/PairLabel;"⟩ : MethodName) prog_4_method_4_code 3 (some (.object "com/example/page_copy_finder/pagecopyfinder/copies/PairLabel")) :: ws) ({ frames := 1, cells := 4, slots := 44, locals := 13 } : Room)) (fun a U => a = #[(.ref aCONTAINMENT), (.int (1 : Int32)), (.ref a3)] ∧ Z.Warmed39 U.vm ∧ U.heap = h0) (fun _ _ _ _ _ => True) (fun _ U o U' => ∃ v L, o = .returned v ∧ Q_of11 Z aIDENTICAL aCONTAINMENT aPARTIAL aA_TO_B aB_TO_A aBOTH aNONE aMIRROR aTEMPLATE_OR_PLAGIARISM aARCHIVE_PAGE aLINK_LIST_PART aSAME_SITE_RELATED aCITATION_OR_SPAM aSHARED_TEXT_OR_PLAGIARISM aSW kSW a3 h0 n0 v U'.heap L ∧ ReturnedEndW U o U' L ({ frames := 1, cells := 4, slots := 44, locals := 13 } : Room).cells ({ frames := 1, cells := 4, slots := 44, locals := 13 } : Room).slots) := by
  refine MetFree.of_bodySF (plainFor_of_name pn_com_example_page_copy_finder_pagecopyfinder_copies_PairLabel) hisR ?_
  intro p e s m args below meth c s₁ Bd hml0 hP hK
  obtain ⟨rfl, hZ, hh⟩ := hP
  have hx := Bd.exec
  have hby := Bd.bytes
  have hml : c.maxLocals = 3 := hml0
  have hown : s.vm.findClass "com/example/page_copy_finder/pagecopyfinder/copies/PairLabel" = some m.cls := findClass_of_methodNamed Bd.named
  have hnm := (name_of_methodNamed Bd.named Bd.method).1
  have X0 : Stand p l e ({ frames := 1, cells := 4, slots := 44, locals := 13 } : Room) s m #[(.ref aCONTAINMENT), (.int (1 : Int32)), (.ref a3)] below meth c s₁ [] 0 0 := Stand.of_body Bd
  have e0 : s₁.heap = h0 := by rw [← hh, Bd.state]; rfl
  have N0 := Fr.nil n0
  refine own_go (Q := fun o U' => ∃ v L, o = .returned v ∧ Q_of11 Z aIDENTICAL aCONTAINMENT aPARTIAL aA_TO_B aB_TO_A aBOTH aNONE aMIRROR aTEMPLATE_OR_PLAGIARISM aARCHIVE_PAGE aLINK_LIST_PART aSAME_SITE_RELATED aCITATION_OR_SPAM aSHARED_TEXT_OR_PLAGIARISM aSW kSW a3 h0 n0 v U'.heap L ∧ ReturnedEndW s o U' L ({ frames := 1, cells := 4, slots := 44, locals := 13 } : Room).cells ({ frames := 1, cells := 4, slots := 44, locals := 13 } : Room).slots) (fun t k => castTop (ef_of11 m aCONTAINMENT (1 : Int32) a3) k) ?_
  have wS : ∀ a ∈ Bundle.stringAtoms, a.before a0 Z = true := by
    intro a ha
    simp only [Bundle.stringAtoms, List.mem_cons, List.not_mem_nil, or_false] at ha
    rcases ha with rfl | rfl | rfl | rfl | rfl | rfl | rfl
    · exact (hw _ (List.mem_of_getElem? (i := 45) rfl))
    · exact (hw _ (List.mem_of_getElem? (i := 46) rfl))
    · exact (hw _ (List.mem_of_getElem? (i := 47) rfl))
    · exact (hw _ (List.mem_of_getElem? (i := 48) rfl))
    · exact (hw _ (List.mem_of_getElem? (i := 49) rfl))
    · exact (hw _ (List.mem_of_getElem? (i := 50) rfl))
    · exact (hw _ (List.mem_of_getElem? (i := 51) rfl))
  show OwnGo p e below _ (s₁.setTop (mkF m 0 #[.val (.ref aCONTAINMENT), .val (.int (1 : Int32)), .val (.ref a3)] []))
  refine own_go (fun _ k => XS.aloadN X0.here hx rfl (hb hby d_prog_4_method_4_0) rfl rfl k) ?_
  show OwnGo p e below _ (s₁.setTop (mkF m 1 #[.val (.ref aCONTAINMENT), .val (.int (1 : Int32)), .val (.ref a3)] [(.ref aCONTAINMENT)]))
  obtain ⟨a34, T34, h34, k34, X34, e34, E34, hS34, kk34, hZ, hown, st34⟩ := ldcS (s := s) (vm0 := s.vm) X0 hx hZ hown (hw _ (List.mem_of_getElem? (i := 44) rfl)) wS e0 ((State.WarmedH.refl s).since 0) (Nat.zero_le _) (g := (mkF m 1 #[.val (.ref aCONTAINMENT), .val (.int (1 : Int32)), .val (.ref a3)] [(.ref aCONTAINMENT)])) rfl (hb hby d_prog_4_method_4_1) (n := 16) (by decide) (by decide) (by decide) (by decide)
  have O34 := O0.ext E34
  have z35 : h0.size ≤ h34.size := Nat.le_trans (Nat.le_refl _) E34.1
  refine own_go st34 ?_
  show OwnGo p e below _ (T34.setTop (mkF m 3 #[.val (.ref aCONTAINMENT), .val (.int (1 : Int32)), .val (.ref a3)] [(.ref a34), (.ref aCONTAINMENT)]))
  obtain ⟨_, _, ⟨T36, L36, k36, n36⟩, -, X36, ⟨Lc36, hQ36, l36, y36, z36⟩, st36⟩ := Jvm.LawKit.callS X34 hx (y := (⟨"java/util/Objects", "requireNonNull", "(Ljava/lang/Object;Ljava/lang/String;)Ljava/lang/Object;"⟩ : MethodName)) hown (mvT hZ (hw _ (List.mem_of_getElem? (i := 52) rfl))) (mvT hZ (hw _ (List.mem_of_getElem? (i := 53) rfl))) (mvT hZ (hw _ (List.mem_of_getElem? (i := 54) rfl))) (mvT hZ (hw _ (List.mem_of_getElem? (i := 55) rfl))) (by decide) (backOf (W := 0) (rm_rn l Z a0 hw [] aIDENTICAL aCONTAINMENT aPARTIAL aA_TO_B aB_TO_A aBOTH aNONE aMIRROR aTEMPLATE_OR_PLAGIARISM aARCHIVE_PAGE aLINK_LIST_PART aSAME_SITE_RELATED aCITATION_OR_SPAM aSHARED_TEXT_OR_PLAGIARISM aSW kSW F0 aCONTAINMENT a34 h34 n0 O34) hZ (hw _ (List.mem_of_getElem? (i := 55) rfl)) (hw _ (List.mem_of_getElem? (i := 54) rfl)) (by decide) (by decide)) (g := (mkF m 3 #[.val (.ref aCONTAINMENT), .val (.int (1 : Int32)), .val (.ref a3)] [(.ref a34), (.ref aCONTAINMENT)])) rfl (by rw [hml]; rfl) (argsL := [(.ref aCONTAINMENT), (.ref a34)]) (rest := []) (lenOf pd_Ljava_lang_Object__Ljava_lang_String___Ljava_lang_Object_ rfl) rfl (by show 2 * 0 + _ ≤ _; exact Nat.le_of_eq rfl) (hb hby d_prog_4_method_4_3) (fun _ _ => ⟨rfl, e34, (by decide : 2 + 0 ≤ _), (by decide : 20 + 0 ≤ _)⟩)
  dsimp only [Pt.U, Pt.locs, Pt.cells, Pt.slots] at X36 l36 y36 z36 st36 hQ36
  subst l36 y36 z36
  obtain ⟨rfl, Nq36, K36⟩ := hQ36
  have N36 := Fr.app N0 Nq36
  refine own_go st36 ?_
  show OwnGo p e below _ (T36.setTop (mkF m 6 #[.val (.ref aCONTAINMENT), .val (.int (1 : Int32)), .val (.ref a3)] [(.ref aCONTAINMENT)]))
  refine own_go (fun _ k => XS.pop X36.here hx rfl (hb hby d_prog_4_method_4_6) rfl rfl k) ?_
  show OwnGo p e below _ (T36.setTop (mkF m 7 #[.val (.ref aCONTAINMENT), .val (.int (1 : Int32)), .val (.ref a3)] []))
  refine own_go (fun _ k => XS.aloadN X36.here hx rfl (hb hby d_prog_4_method_4_7) rfl rfl k) ?_
  show OwnGo p e below _ (T36.setTop (mkF m 8 #[.val (.ref aCONTAINMENT), .val (.int (1 : Int32)), .val (.ref a3)] [(.ref a3)]))
  obtain ⟨a37, T37, h37, k37, X37, e37, E37, hS37, kk37, hZ, hown, st37⟩ := ldcS (s := s) (vm0 := T34.vm) X36 hx hZ hown (hw _ (List.mem_of_getElem? (i := 56) rfl)) wS K36 hS34 kk34 (g := (mkF m 8 #[.val (.ref aCONTAINMENT), .val (.int (1 : Int32)), .val (.ref a3)] [(.ref a3)])) rfl (hb hby d_prog_4_method_4_8) (n := 20) (by decide) (by decide) (by decide) (by decide)
  have O37 := O34.ext E37
  have z38 : h0.size ≤ h37.size := Nat.le_trans z35 E37.1
  refine own_go st37 ?_
  show OwnGo p e below _ (T37.setTop (mkF m 10 #[.val (.ref aCONTAINMENT), .val (.int (1 : Int32)), .val (.ref a3)] [(.ref a37), (.ref a3)]))
  obtain ⟨_, _, ⟨T39, L39, k39, n39⟩, -, X39, ⟨Lc39, hQ39, l39, y39, z39⟩, st39⟩ := Jvm.LawKit.callS X37 hx (y := (⟨"java/util/Objects", "requireNonNull", "(Ljava/lang/Object;Ljava/lang/String;)Ljava/lang/Object;"⟩ : MethodName)) hown (mvT hZ (hw _ (List.mem_of_getElem? (i := 52) rfl))) (mvT hZ (hw _ (List.mem_of_getElem? (i := 53) rfl))) (mvT hZ (hw _ (List.mem_of_getElem? (i := 54) rfl))) (mvT hZ (hw _ (List.mem_of_getElem? (i := 55) rfl))) (by decide) (backOf (W := 0) (rm_rn l Z a0 hw [] aIDENTICAL aCONTAINMENT aPARTIAL aA_TO_B aB_TO_A aBOTH aNONE aMIRROR aTEMPLATE_OR_PLAGIARISM aARCHIVE_PAGE aLINK_LIST_PART aSAME_SITE_RELATED aCITATION_OR_SPAM aSHARED_TEXT_OR_PLAGIARISM aSW kSW F0 a3 a37 h37 n0 O37) hZ (hw _ (List.mem_of_getElem? (i := 55) rfl)) (hw _ (List.mem_of_getElem? (i := 54) rfl)) (by decide) (by decide)) (g := (mkF m 10 #[.val (.ref aCONTAINMENT), .val (.int (1 : Int32)), .val (.ref a3)] [(.ref a37), (.ref a3)])) rfl (by rw [hml]; rfl) (argsL := [(.ref a3), (.ref a37)]) (rest := []) (lenOf pd_Ljava_lang_Object__Ljava_lang_String___Ljava_lang_Object_ rfl) rfl (by show 2 * 0 + _ ≤ _; exact Nat.le_of_eq rfl) (hb hby d_prog_4_method_4_10) (fun _ _ => ⟨rfl, e37, (by decide : 4 + 0 ≤ _), (by decide : 44 + 0 ≤ _)⟩)
  dsimp only [Pt.U, Pt.locs, Pt.cells, Pt.slots] at X39 l39 y39 z39 st39 hQ39
  subst l39 y39 z39
  obtain ⟨rfl, Nq39, K39⟩ := hQ39
  have N39 := Fr.app N36 Nq39
  refine own_go st39 ?_
  show OwnGo p e below _ (T39.setTop (mkF m 13 #[.val (.ref aCONTAINMENT), .val (.int (1 : Int32)), .val (.ref a3)] [(.ref a3)]))
  refine own_go (fun _ k => XS.pop X39.here hx rfl (hb hby d_prog_4_method_4_13) rfl rfl k) ?_
  show OwnGo p e below _ (T39.setTop (mkF m 14 #[.val (.ref aCONTAINMENT), .val (.int (1 : Int32)), .val (.ref a3)] []))
  obtain ⟨T40, X40, e40, st40⟩ := getS X39 hx hZ hown (host := "") (hw _ (List.mem_of_getElem? (i := 57) rfl)) Via.refl K39 (F0.2.2.2.2.2.2.2.2.2.2.2.2.2.2.2.2.2.2.2.2.2.2.2.2.2.2.2.2.2.2.2.2.2.2.2.1.ext O37.2) (g := (mkF m 14 #[.val (.ref aCONTAINMENT), .val (.int (1 : Int32)), .val (.ref a3)] [])) rfl (hb hby d_prog_4_method_4_14)
  refine own_go st40 ?_
  show OwnGo p e below _ (T40.setTop (mkF m 17 #[.val (.ref aCONTAINMENT), .val (.int (1 : Int32)), .val (.ref a3)] [(.ref aSW)]))
  refine own_go (fun _ k => XS.aloadN X40.here hx rfl (hb hby d_prog_4_method_4_17) rfl rfl k) ?_
  show OwnGo p e below _ (T40.setTop (mkF m 18 #[.val (.ref aCONTAINMENT), .val (.int (1 : Int32)), .val (.ref a3)] [(.ref aCONTAINMENT), (.ref aSW)]))
  obtain ⟨cq41, kq41, qa41, qb41, qc41⟩ := isOf hZ e40 (F0.2.2.2.1.ext O37.2)
  obtain ⟨_, _, ⟨T41, L41, k41, n41⟩, -, X41, ⟨Lc41, hQ41, l41, y41, z41⟩, st41⟩ := X40.virtualBackUp hx (x := (⟨"com/example/page_copy_finder/pagecopyfinder/copies/PairKind", "ordinal", "()I"⟩ : MethodName)) (y := (⟨"java/lang/Enum", "ordinal", "()I"⟩ : MethodName)) (owner := "java/lang/Enum") hown (mvT hZ (hw _ (List.mem_of_getElem? (i := 60) rfl))) (mvT hZ (hw _ (List.mem_of_getElem? (i := 61) rfl))) (mvT hZ (hw _ (List.mem_of_getElem? (i := 62) rfl))) (by decide) (mvT hZ (hw _ (List.mem_of_getElem? (i := 64) rfl))) (mvT hZ (hw _ (List.mem_of_getElem? (i := 63) rfl))) (backOf (W := 1) (rm_ord1 l Z a0 hw [] aIDENTICAL aCONTAINMENT aPARTIAL aA_TO_B aB_TO_A aBOTH aNONE aMIRROR aTEMPLATE_OR_PLAGIARISM aARCHIVE_PAGE aLINK_LIST_PART aSAME_SITE_RELATED aCITATION_OR_SPAM aSHARED_TEXT_OR_PLAGIARISM aSW kSW F0 h37 n0 O37) hZ (hw _ (List.mem_of_getElem? (i := 66) rfl)) (hw _ (List.mem_of_getElem? (i := 65) rfl)) (by decide) (by decide)) qa41 qc41 (g := (mkF m 18 #[.val (.ref aCONTAINMENT), .val (.int (1 : Int32)), .val (.ref a3)] [(.ref aCONTAINMENT), (.ref aSW)])) rfl (by rw [hml]; rfl) (Steps.refl _) (argsL := []) (rest := [(.ref aSW)]) (lenOf pd___I rfl) rfl (by show 2 * 0 + _ ≤ _; exact Nat.le_of_eq rfl) (hb hby d_prog_4_method_4_18) (fun _ _ => ⟨rfl, e40, (by decide : 4 + 0 ≤ _), (by decide : 44 + 0 ≤ _)⟩)
  dsimp only [Pt.U, Pt.locs, Pt.cells, Pt.slots] at X41 l41 y41 z41 st41 hQ41
  subst l41 y41 z41
  obtain ⟨rfl, Nq41, K41⟩ := hQ41
  have N41 := Fr.app N39 Nq41
  refine own_go (fun _ k => st41.trans k) ?_
  show OwnGo p e below _ (T41.setTop (mkF m 21 #[.val (.ref aCONTAINMENT), .val (.int (1 : Int32)), .val (.ref a3)] [(.int (1 : Int32)), (.ref aSW)]))
  obtain ⟨c42, Ar42, q42, S42, M42, H42, G42⟩ := (id (F0.2.2.2.2.2.2.2.2.2.2.2.2.2.2.2.2.2.2.2.2.2.2.2.2.2.2.2.2.2.2.2.2.2.2.2.2.ext O37.2))
  refine own_go (fun _ k => X41.iaload hx (j := (1 : Int32)) (v := (.int (2 : Int32))) (by rw [K41]; exact Ar42.1) (State.isArrayOf_alike hZ.alike Ar42.2.1) Ar42.2.2 (inb_of S42 ⟨by decide, by decide⟩) (Has.at H42 (inb_of S42 ⟨by decide, by decide⟩) rfl) (g := (mkF m 21 #[.val (.ref aCONTAINMENT), .val (.int (1 : Int32)), .val (.ref a3)] [(.int (1 : Int32)), (.ref aSW)])) rfl rfl (hb hby d_prog_4_method_4_21) _ k) ?_
  show OwnGo p e below _ (T41.setTop (mkF m 22 #[.val (.ref aCONTAINMENT), .val (.int (1 : Int32)), .val (.ref a3)] [(.int (2 : Int32))]))
  refine own_go (fun _ k => XS.tswIn X41.here hx rfl (pc0 := 22) (pc' := 74) (o := 52) rfl (hb hby d_prog_4_method_4_22) rfl (by decide) (by decide) (by decide) (by decide) k) ?_
  show OwnGo p e below _ (T41.setTop (mkF m 74 #[.val (.ref aCONTAINMENT), .val (.int (1 : Int32)), .val (.ref a3)] []))
  refine own_go (fun _ k => XS.iloadN X41.here hx rfl (hb hby d_prog_4_method_4_74) rfl k) ?_
  show OwnGo p e below _ (T41.setTop (mkF m 75 #[.val (.ref aCONTAINMENT), .val (.int (1 : Int32)), .val (.ref a3)] [(.int (1 : Int32))]))
  refine own_go (fun _ k => XS.ifNo X41.here hx rfl (hb hby d_prog_4_method_4_75) rfl (by decide) k) ?_
  show OwnGo p e below _ (T41.setTop (mkF m 78 #[.val (.ref aCONTAINMENT), .val (.int (1 : Int32)), .val (.ref a3)] []))
  obtain ⟨T43, X43, e43, st43⟩ := getS X41 hx hZ hown (host := "") (hw _ (List.mem_of_getElem? (i := 75) rfl)) Via.refl K41 (F0.2.2.2.2.2.2.2.2.2.2.2.2.2.2.2.2.2.2.1.ext O37.2) (g := (mkF m 78 #[.val (.ref aCONTAINMENT), .val (.int (1 : Int32)), .val (.ref a3)] [])) rfl (hb hby d_prog_4_method_4_78)
  refine own_go st43 ?_
  show OwnGo p e below _ (T43.setTop (mkF m 81 #[.val (.ref aCONTAINMENT), .val (.int (1 : Int32)), .val (.ref a3)] [(.ref aARCHIVE_PAGE)]))
  refine own_go (fun _ k => XS.goto X43.here hx rfl (pc0 := 81) (pc' := 116) rfl (hb hby d_prog_4_method_4_81) (by decide) (by decide) k) ?_
  show OwnGo p e below _ (T43.setTop (mkF m 116 #[.val (.ref aCONTAINMENT), .val (.int (1 : Int32)), .val (.ref a3)] [(.ref aARCHIVE_PAGE)]))
  obtain ⟨fs, hr, hrun, hended, hEnd⟩ := Jvm.Stand.leaveW (s := s) (vm₁ := T37.vm) X43 hS37 (by rw [e43]; exact kk37) (v := some (.ref aARCHIVE_PAGE)) (fun h => by rw [Bd.returns] at h; cases h)
  refine ⟨_, _, retOut X43 hx Bd.returns rfl (Or.inr (Or.inr (Or.inr (Or.inr ⟨rfl, rfl, rfl⟩)))) (hb hby d_prog_4_method_4_116) hr, hrun, hended, _, _, rfl, ?_, own_monoW hEnd (by decide) (by decide)⟩
  show Q_of11 Z aIDENTICAL aCONTAINMENT aPARTIAL aA_TO_B aB_TO_A aBOTH aNONE aMIRROR aTEMPLATE_OR_PLAGIARISM aARCHIVE_PAGE aLINK_LIST_PART aSAME_SITE_RELATED aCITATION_OR_SPAM aSHARED_TEXT_OR_PLAGIARISM aSW kSW a3 h0 n0 _ T43.heap _
  rw [e43]
  exact ⟨rfl, N41, (((Keep.refl _ []).ext E34).ext E37)⟩
theorem d_prog_4_method_4_90 : decode prog_4_method_4_code 90 = .ok (.iload_n 1, 1) := by decide +kernel
theorem d_prog_4_method_4_91 : decode prog_4_method_4_code 91 = .ok (.ifCond .eq 9, 3) := by decide +kernel
theorem d_prog_4_method_4_100 : decode prog_4_method_4_code 100 = .ok (.aload_n 2, 1) := by decide +kernel
theorem d_prog_4_method_4_101 : decode prog_4_method_4_code 101 = .ok (.getstatic 75, 3) := by decide +kernel
theorem d_prog_4_method_4_104 : decode prog_4_method_4_code 104 = .ok (.if_acmp .ne 9, 3) := by decide +kernel
theorem d_prog_4_method_4_113 : decode prog_4_method_4_code 113 = .ok (.getstatic 19, 3) := by decide +kernel
def Q_of20 (Z : State) (aIDENTICAL aCONTAINMENT aPARTIAL aA_TO_B aB_TO_A aBOTH aNONE aMIRROR aTEMPLATE_OR_PLAGIARISM aARCHIVE_PAGE aLINK_LIST_PART aSAME_SITE_RELATED aCITATION_OR_SPAM aSHARED_TEXT_OR_PLAGIARISM aSW : Addr) (kSW : ClassId) (a3 : Addr) (h0 : Heap) (n0 : Nat) (v : Option Value) (h : Heap) (L : List Loc) : Prop := v = some (.ref aCITATION_OR_SPAM) ∧ Fr n0 L ∧ Keep h0 h []
theorem ef_of20 (m : MethodId) (x0 : Addr) (x1 : Int32) (x2 : Addr) : entryFrame m #[(.ref x0), (.int x1), (.ref x2)] 3 = mkF m 0 #[.val (.ref x0), .val (.int x1), .val (.ref x2)] [] := by first | (simp [entryFrame, mkF, argsToLocals, Value.category]; done) | rfl
set_option maxRecDepth 65536 in
set_option maxHeartbeats 40000000 in
theorem rm_of20 (l : Launch) (Z : State) (a0 : Array Value) (hw : ∀ d ∈ tables_1, d.before a0 Z = true) (ws : List Jvm.Cond) (aIDENTICAL aCONTAINMENT aPARTIAL aA_TO_B aB_TO_A aBOTH aNONE aMIRROR aTEMPLATE_OR_PLAGIARISM aARCHIVE_PAGE aLINK_LIST_PART aSAME_SITE_RELATED aCITATION_OR_SPAM aSHARED_TEXT_OR_PLAGIARISM aSW : Addr) (kSW : ClassId) (F0 : OwnFacts Z aIDENTICAL aCONTAINMENT aPARTIAL aA_TO_B aB_TO_A aBOTH aNONE aMIRROR aTEMPLATE_OR_PLAGIARISM aARCHIVE_PAGE aLINK_LIST_PART aSAME_SITE_RELATED aCITATION_OR_SPAM aSHARED_TEXT_OR_PLAGIARISM aSW kSW) (a3 : Addr) (h0 : Heap) (n0 : Nat) (O0 : Old Z n0 h0) (nA : a3 ≠ aNONE) :
    MetFree l (⟨"com/example/page_copy_finder/pagecopyfinder/copies/PairLabel", "of", "(Lcom/example/page_copy_finder/pagecopyfinder/copies/PairKind;ZLcom/example/page_copy_finder/pagecopyfinder/copies/PairLinks;)Lcom/example/page_copy_finder/pagecopyfinder/copies/PairLabel;"⟩ : MethodName) (head1 (Jvm.Cond.code (⟨"com/example/page_copy_finder/pagecopyfinder/copies/PairLabel", "of", "(Lcom/example/page_copy_finder/pagecopyfinder/copies/PairKind;ZLcom/example/page_copy_finder/pagecopyfinder/copies/PairLinks;)Lcom/example/page_copy_finder/pagecopyfinder/copies/PairLabel;"⟩ : MethodName) prog_4_method_4_code 3 (some (.object "com/example/page_copy_finder/pagecopyfinder/copies/PairLabel")) :: ws) ({ frames := 1, cells := 4, slots := 44, locals := 13 } : Room)) (fun a U => a = #[(.ref aPARTIAL), (.int (0 : Int32)), (.ref a3)] ∧ Z.Warmed39 U.vm ∧ U.heap = h0) (fun _ _ _ _ _ => True) (fun _ U o U' => ∃ v L, o = .returned v ∧ Q_of20 Z aIDENTICAL aCONTAINMENT aPARTIAL aA_TO_B aB_TO_A aBOTH aNONE aMIRROR aTEMPLATE_OR_PLAGIARISM aARCHIVE_PAGE aLINK_LIST_PART aSAME_SITE_RELATED aCITATION_OR_SPAM aSHARED_TEXT_OR_PLAGIARISM aSW kSW a3 h0 n0 v U'.heap L ∧ ReturnedEndW U o U' L ({ frames := 1, cells := 4, slots := 44, locals := 13 } : Room).cells ({ frames := 1, cells := 4, slots := 44, locals := 13 } : Room).slots) := by
  refine MetFree.of_bodySF (plainFor_of_name pn_com_example_page_copy_finder_pagecopyfinder_copies_PairLabel) hisR ?_
  intro p e s m args below meth c s₁ Bd hml0 hP hK
  obtain ⟨rfl, hZ, hh⟩ := hP
  have hx := Bd.exec
  have hby := Bd.bytes
  have hml : c.maxLocals = 3 := hml0
  have hown : s.vm.findClass "com/example/page_copy_finder/pagecopyfinder/copies/PairLabel" = some m.cls := findClass_of_methodNamed Bd.named
  have hnm := (name_of_methodNamed Bd.named Bd.method).1
  have X0 : Stand p l e ({ frames := 1, cells := 4, slots := 44, locals := 13 } : Room) s m #[(.ref aPARTIAL), (.int (0 : Int32)), (.ref a3)] below meth c s₁ [] 0 0 := Stand.of_body Bd
  have e0 : s₁.heap = h0 := by rw [← hh, Bd.state]; rfl
  have N0 := Fr.nil n0
  refine own_go (Q := fun o U' => ∃ v L, o = .returned v ∧ Q_of20 Z aIDENTICAL aCONTAINMENT aPARTIAL aA_TO_B aB_TO_A aBOTH aNONE aMIRROR aTEMPLATE_OR_PLAGIARISM aARCHIVE_PAGE aLINK_LIST_PART aSAME_SITE_RELATED aCITATION_OR_SPAM aSHARED_TEXT_OR_PLAGIARISM aSW kSW a3 h0 n0 v U'.heap L ∧ ReturnedEndW s o U' L ({ frames := 1, cells := 4, slots := 44, locals := 13 } : Room).cells ({ frames := 1, cells := 4, slots := 44, locals := 13 } : Room).slots) (fun t k => castTop (ef_of20 m aPARTIAL (0 : Int32) a3) k) ?_
  have wS : ∀ a ∈ Bundle.stringAtoms, a.before a0 Z = true := by
    intro a ha
    simp only [Bundle.stringAtoms, List.mem_cons, List.not_mem_nil, or_false] at ha
    rcases ha with rfl | rfl | rfl | rfl | rfl | rfl | rfl
    · exact (hw _ (List.mem_of_getElem? (i := 45) rfl))
    · exact (hw _ (List.mem_of_getElem? (i := 46) rfl))
    · exact (hw _ (List.mem_of_getElem? (i := 47) rfl))
    · exact (hw _ (List.mem_of_getElem? (i := 48) rfl))
    · exact (hw _ (List.mem_of_getElem? (i := 49) rfl))
    · exact (hw _ (List.mem_of_getElem? (i := 50) rfl))
    · exact (hw _ (List.mem_of_getElem? (i := 51) rfl))
  show OwnGo p e below _ (s₁.setTop (mkF m 0 #[.val (.ref aPARTIAL), .val (.int (0 : Int32)), .val (.ref a3)] []))
  refine own_go (fun _ k => XS.aloadN X0.here hx rfl (hb hby d_prog_4_method_4_0) rfl rfl k) ?_
  show OwnGo p e below _ (s₁.setTop (mkF m 1 #[.val (.ref aPARTIAL), .val (.int (0 : Int32)), .val (.ref a3)] [(.ref aPARTIAL)]))
  obtain ⟨a44, T44, h44, k44, X44, e44, E44, hS44, kk44, hZ, hown, st44⟩ := ldcS (s := s) (vm0 := s.vm) X0 hx hZ hown (hw _ (List.mem_of_getElem? (i := 44) rfl)) wS e0 ((State.WarmedH.refl s).since 0) (Nat.zero_le _) (g := (mkF m 1 #[.val (.ref aPARTIAL), .val (.int (0 : Int32)), .val (.ref a3)] [(.ref aPARTIAL)])) rfl (hb hby d_prog_4_method_4_1) (n := 16) (by decide) (by decide) (by decide) (by decide)
  have O44 := O0.ext E44
  have z45 : h0.size ≤ h44.size := Nat.le_trans (Nat.le_refl _) E44.1
  refine own_go st44 ?_
  show OwnGo p e below _ (T44.setTop (mkF m 3 #[.val (.ref aPARTIAL), .val (.int (0 : Int32)), .val (.ref a3)] [(.ref a44), (.ref aPARTIAL)]))
  obtain ⟨_, _, ⟨T46, L46, k46, n46⟩, -, X46, ⟨Lc46, hQ46, l46, y46, z46⟩, st46⟩ := Jvm.LawKit.callS X44 hx (y := (⟨"java/util/Objects", "requireNonNull", "(Ljava/lang/Object;Ljava/lang/String;)Ljava/lang/Object;"⟩ : MethodName)) hown (mvT hZ (hw _ (List.mem_of_getElem? (i := 52) rfl))) (mvT hZ (hw _ (List.mem_of_getElem? (i := 53) rfl))) (mvT hZ (hw _ (List.mem_of_getElem? (i := 54) rfl))) (mvT hZ (hw _ (List.mem_of_getElem? (i := 55) rfl))) (by decide) (backOf (W := 0) (rm_rn l Z a0 hw [] aIDENTICAL aCONTAINMENT aPARTIAL aA_TO_B aB_TO_A aBOTH aNONE aMIRROR aTEMPLATE_OR_PLAGIARISM aARCHIVE_PAGE aLINK_LIST_PART aSAME_SITE_RELATED aCITATION_OR_SPAM aSHARED_TEXT_OR_PLAGIARISM aSW kSW F0 aPARTIAL a44 h44 n0 O44) hZ (hw _ (List.mem_of_getElem? (i := 55) rfl)) (hw _ (List.mem_of_getElem? (i := 54) rfl)) (by decide) (by decide)) (g := (mkF m 3 #[.val (.ref aPARTIAL), .val (.int (0 : Int32)), .val (.ref a3)] [(.ref a44), (.ref aPARTIAL)])) rfl (by rw [hml]; rfl) (argsL := [(.ref aPARTIAL), (.ref a44)]) (rest := []) (lenOf pd_Ljava_lang_Object__Ljava_lang_String___Ljava_lang_Object_ rfl) rfl (by show 2 * 0 + _ ≤ _; exact Nat.le_of_eq rfl) (hb hby d_prog_4_method_4_3) (fun _ _ => ⟨rfl, e44, (by decide : 2 + 0 ≤ _), (by decide : 20 + 0 ≤ _)⟩)
  dsimp only [Pt.U, Pt.locs, Pt.cells, Pt.slots] at X46 l46 y46 z46 st46 hQ46
  subst l46 y46 z46
  obtain ⟨rfl, Nq46, K46⟩ := hQ46
  have N46 := Fr.app N0 Nq46
  refine own_go st46 ?_
  show OwnGo p e below _ (T46.setTop (mkF m 6 #[.val (.ref aPARTIAL), .val (.int (0 : Int32)), .val (.ref a3)] [(.ref aPARTIAL)]))
  refine own_go (fun _ k => XS.pop X46.here hx rfl (hb hby d_prog_4_method_4_6) rfl rfl k) ?_
  show OwnGo p e below _ (T46.setTop (mkF m 7 #[.val (.ref aPARTIAL), .val (.int (0 : Int32)), .val (.ref a3)] []))
  refine own_go (fun _ k => XS.aloadN X46.here hx rfl (hb hby d_prog_4_method_4_7) rfl rfl k) ?_
  show OwnGo p e below _ (T46.setTop (mkF m 8 #[.val (.ref aPARTIAL), .val (.int (0 : Int32)), .val (.ref a3)] [(.ref a3)]))
  obtain ⟨a47, T47, h47, k47, X47, e47, E47, hS47, kk47, hZ, hown, st47⟩ := ldcS (s := s) (vm0 := T44.vm) X46 hx hZ hown (hw _ (List.mem_of_getElem? (i := 56) rfl)) wS K46 hS44 kk44 (g := (mkF m 8 #[.val (.ref aPARTIAL), .val (.int (0 : Int32)), .val (.ref a3)] [(.ref a3)])) rfl (hb hby d_prog_4_method_4_8) (n := 20) (by decide) (by decide) (by decide) (by decide)
  have O47 := O44.ext E47
  have z48 : h0.size ≤ h47.size := Nat.le_trans z45 E47.1
  refine own_go st47 ?_
  show OwnGo p e below _ (T47.setTop (mkF m 10 #[.val (.ref aPARTIAL), .val (.int (0 : Int32)), .val (.ref a3)] [(.ref a47), (.ref a3)]))
  obtain ⟨_, _, ⟨T49, L49, k49, n49⟩, -, X49, ⟨Lc49, hQ49, l49, y49, z49⟩, st49⟩ := Jvm.LawKit.callS X47 hx (y := (⟨"java/util/Objects", "requireNonNull", "(Ljava/lang/Object;Ljava/lang/String;)Ljava/lang/Object;"⟩ : MethodName)) hown (mvT hZ (hw _ (List.mem_of_getElem? (i := 52) rfl))) (mvT hZ (hw _ (List.mem_of_getElem? (i := 53) rfl))) (mvT hZ (hw _ (List.mem_of_getElem? (i := 54) rfl))) (mvT hZ (hw _ (List.mem_of_getElem? (i := 55) rfl))) (by decide) (backOf (W := 0) (rm_rn l Z a0 hw [] aIDENTICAL aCONTAINMENT aPARTIAL aA_TO_B aB_TO_A aBOTH aNONE aMIRROR aTEMPLATE_OR_PLAGIARISM aARCHIVE_PAGE aLINK_LIST_PART aSAME_SITE_RELATED aCITATION_OR_SPAM aSHARED_TEXT_OR_PLAGIARISM aSW kSW F0 a3 a47 h47 n0 O47) hZ (hw _ (List.mem_of_getElem? (i := 55) rfl)) (hw _ (List.mem_of_getElem? (i := 54) rfl)) (by decide) (by decide)) (g := (mkF m 10 #[.val (.ref aPARTIAL), .val (.int (0 : Int32)), .val (.ref a3)] [(.ref a47), (.ref a3)])) rfl (by rw [hml]; rfl) (argsL := [(.ref a3), (.ref a47)]) (rest := []) (lenOf pd_Ljava_lang_Object__Ljava_lang_String___Ljava_lang_Object_ rfl) rfl (by show 2 * 0 + _ ≤ _; exact Nat.le_of_eq rfl) (hb hby d_prog_4_method_4_10) (fun _ _ => ⟨rfl, e47, (by decide : 4 + 0 ≤ _), (by decide : 44 + 0 ≤ _)⟩)
  dsimp only [Pt.U, Pt.locs, Pt.cells, Pt.slots] at X49 l49 y49 z49 st49 hQ49
  subst l49 y49 z49
  obtain ⟨rfl, Nq49, K49⟩ := hQ49
  have N49 := Fr.app N46 Nq49
  refine own_go st49 ?_
  show OwnGo p e below _ (T49.setTop (mkF m 13 #[.val (.ref aPARTIAL), .val (.int (0 : Int32)), .val (.ref a3)] [(.ref a3)]))
  refine own_go (fun _ k => XS.pop X49.here hx rfl (hb hby d_prog_4_method_4_13) rfl rfl k) ?_
  show OwnGo p e below _ (T49.setTop (mkF m 14 #[.val (.ref aPARTIAL), .val (.int (0 : Int32)), .val (.ref a3)] []))
  obtain ⟨T50, X50, e50, st50⟩ := getS X49 hx hZ hown (host := "") (hw _ (List.mem_of_getElem? (i := 57) rfl)) Via.refl K49 (F0.2.2.2.2.2.2.2.2.2.2.2.2.2.2.2.2.2.2.2.2.2.2.2.2.2.2.2.2.2.2.2.2.2.2.2.1.ext O47.2) (g := (mkF m 14 #[.val (.ref aPARTIAL), .val (.int (0 : Int32)), .val (.ref a3)] [])) rfl (hb hby d_prog_4_method_4_14)
  refine own_go st50 ?_
  show OwnGo p e below _ (T50.setTop (mkF m 17 #[.val (.ref aPARTIAL), .val (.int (0 : Int32)), .val (.ref a3)] [(.ref aSW)]))
  refine own_go (fun _ k => XS.aloadN X50.here hx rfl (hb hby d_prog_4_method_4_17) rfl rfl k) ?_
  show OwnGo p e below _ (T50.setTop (mkF m 18 #[.val (.ref aPARTIAL), .val (.int (0 : Int32)), .val (.ref a3)] [(.ref aPARTIAL), (.ref aSW)]))
  obtain ⟨cq51, kq51, qa51, qb51, qc51⟩ := isOf hZ e50 (F0.2.2.2.2.2.1.ext O47.2)
  obtain ⟨_, _, ⟨T51, L51, k51, n51⟩, -, X51, ⟨Lc51, hQ51, l51, y51, z51⟩, st51⟩ := X50.virtualBackUp hx (x := (⟨"com/example/page_copy_finder/pagecopyfinder/copies/PairKind", "ordinal", "()I"⟩ : MethodName)) (y := (⟨"java/lang/Enum", "ordinal", "()I"⟩ : MethodName)) (owner := "java/lang/Enum") hown (mvT hZ (hw _ (List.mem_of_getElem? (i := 60) rfl))) (mvT hZ (hw _ (List.mem_of_getElem? (i := 61) rfl))) (mvT hZ (hw _ (List.mem_of_getElem? (i := 62) rfl))) (by decide) (mvT hZ (hw _ (List.mem_of_getElem? (i := 64) rfl))) (mvT hZ (hw _ (List.mem_of_getElem? (i := 63) rfl))) (backOf (W := 1) (rm_ord2 l Z a0 hw [] aIDENTICAL aCONTAINMENT aPARTIAL aA_TO_B aB_TO_A aBOTH aNONE aMIRROR aTEMPLATE_OR_PLAGIARISM aARCHIVE_PAGE aLINK_LIST_PART aSAME_SITE_RELATED aCITATION_OR_SPAM aSHARED_TEXT_OR_PLAGIARISM aSW kSW F0 h47 n0 O47) hZ (hw _ (List.mem_of_getElem? (i := 66) rfl)) (hw _ (List.mem_of_getElem? (i := 65) rfl)) (by decide) (by decide)) qa51 qc51 (g := (mkF m 18 #[.val (.ref aPARTIAL), .val (.int (0 : Int32)), .val (.ref a3)] [(.ref aPARTIAL), (.ref aSW)])) rfl (by rw [hml]; rfl) (Steps.refl _) (argsL := []) (rest := [(.ref aSW)]) (lenOf pd___I rfl) rfl (by show 2 * 0 + _ ≤ _; exact Nat.le_of_eq rfl) (hb hby d_prog_4_method_4_18) (fun _ _ => ⟨rfl, e50, (by decide : 4 + 0 ≤ _), (by decide : 44 + 0 ≤ _)⟩)
  dsimp only [Pt.U, Pt.locs, Pt.cells, Pt.slots] at X51 l51 y51 z51 st51 hQ51
  subst l51 y51 z51
  obtain ⟨rfl, Nq51, K51⟩ := hQ51
  have N51 := Fr.app N49 Nq51
  refine own_go (fun _ k => st51.trans k) ?_
  show OwnGo p e below _ (T51.setTop (mkF m 21 #[.val (.ref aPARTIAL), .val (.int (0 : Int32)), .val (.ref a3)] [(.int (2 : Int32)), (.ref aSW)]))
  obtain ⟨c52, Ar52, q52, S52, M52, H52, G52⟩ := (id (F0.2.2.2.2.2.2.2.2.2.2.2.2.2.2.2.2.2.2.2.2.2.2.2.2.2.2.2.2.2.2.2.2.2.2.2.2.ext O47.2))
  refine own_go (fun _ k => X51.iaload hx (j := (2 : Int32)) (v := (.int (3 : Int32))) (by rw [K51]; exact Ar52.1) (State.isArrayOf_alike hZ.alike Ar52.2.1) Ar52.2.2 (inb_of S52 ⟨by decide, by decide⟩) (Has.at H52 (inb_of S52 ⟨by decide, by decide⟩) rfl) (g := (mkF m 21 #[.val (.ref aPARTIAL), .val (.int (0 : Int32)), .val (.ref a3)] [(.int (2 : Int32)), (.ref aSW)])) rfl rfl (hb hby d_prog_4_method_4_21) _ k) ?_
  show OwnGo p e below _ (T51.setTop (mkF m 22 #[.val (.ref aPARTIAL), .val (.int (0 : Int32)), .val (.ref a3)] [(.int (3 : Int32))]))
  refine own_go (fun _ k => XS.tswIn X51.here hx rfl (pc0 := 22) (pc' := 90) (o := 68) rfl (hb hby d_prog_4_method_4_22) rfl (by decide) (by decide) (by decide) (by decide) k) ?_
  show OwnGo p e below _ (T51.setTop (mkF m 90 #[.val (.ref aPARTIAL), .val (.int (0 : Int32)), .val (.ref a3)] []))
  refine own_go (fun _ k => XS.iloadN X51.here hx rfl (hb hby d_prog_4_method_4_90) rfl k) ?_
  show OwnGo p e below _ (T51.setTop (mkF m 91 #[.val (.ref aPARTIAL), .val (.int (0 : Int32)), .val (.ref a3)] [(.int (0 : Int32))]))
  refine own_go (fun _ k => XS.ifYes X51.here hx rfl (pc0 := 91) (pc' := 100) rfl (hb hby d_prog_4_method_4_91) rfl (by decide) (by decide) (by decide) k) ?_
  show OwnGo p e below _ (T51.setTop (mkF m 100 #[.val (.ref aPARTIAL), .val (.int (0 : Int32)), .val (.ref a3)] []))
  refine own_go (fun _ k => XS.aloadN X51.here hx rfl (hb hby d_prog_4_method_4_100) rfl rfl k) ?_
  show OwnGo p e below _ (T51.setTop (mkF m 101 #[.val (.ref aPARTIAL), .val (.int (0 : Int32)), .val (.ref a3)] [(.ref a3)]))
  obtain ⟨T53, X53, e53, st53⟩ := getS X51 hx hZ hown (host := "") (hw _ (List.mem_of_getElem? (i := 71) rfl)) Via.refl K51 (F0.2.2.2.2.2.2.2.2.2.2.2.2.1.ext O47.2) (g := (mkF m 101 #[.val (.ref aPARTIAL), .val (.int (0 : Int32)), .val (.ref a3)] [(.ref a3)])) rfl (hb hby d_prog_4_method_4_101)
  refine own_go st53 ?_
  show OwnGo p e below _ (T53.setTop (mkF m 104 #[.val (.ref aPARTIAL), .val (.int (0 : Int32)), .val (.ref a3)] [(.ref aNONE), (.ref a3)]))
  refine own_go (fun _ k => acmp X53 hx rfl (cd := .ne) (o := 9) (x := (.ref a3)) (y := (.ref aNONE)) (pc0 := 104) (pc' := 113) rfl rfl rfl (hb hby d_prog_4_method_4_104) rfl (own_refne nA) (by decide) (by decide) k) ?_
  show OwnGo p e below _ (T53.setTop (mkF m 113 #[.val (.ref aPARTIAL), .val (.int (0 : Int32)), .val (.ref a3)] []))
  obtain ⟨T54, X54, e54, st54⟩ := getS X53 hx hZ hown (host := "") (hw _ (List.mem_of_getElem? (i := 73) rfl)) Via.refl e53 (F0.2.2.2.2.2.2.2.2.2.2.2.2.2.2.2.2.2.2.2.2.2.2.2.2.1.ext O47.2) (g := (mkF m 113 #[.val (.ref aPARTIAL), .val (.int (0 : Int32)), .val (.ref a3)] [])) rfl (hb hby d_prog_4_method_4_113)
  refine own_go st54 ?_
  show OwnGo p e below _ (T54.setTop (mkF m 116 #[.val (.ref aPARTIAL), .val (.int (0 : Int32)), .val (.ref a3)] [(.ref aCITATION_OR_SPAM)]))
  obtain ⟨fs, hr, hrun, hended, hEnd⟩ := Jvm.Stand.leaveW (s := s) (vm₁ := T47.vm) X54 hS47 (by rw [e54]; exact kk47) (v := some (.ref aCITATION_OR_SPAM)) (fun h => by rw [Bd.returns] at h; cases h)
  refine ⟨_, _, retOut X54 hx Bd.returns rfl (Or.inr (Or.inr (Or.inr (Or.inr ⟨rfl, rfl, rfl⟩)))) (hb hby d_prog_4_method_4_116) hr, hrun, hended, _, _, rfl, ?_, own_monoW hEnd (by decide) (by decide)⟩
  show Q_of20 Z aIDENTICAL aCONTAINMENT aPARTIAL aA_TO_B aB_TO_A aBOTH aNONE aMIRROR aTEMPLATE_OR_PLAGIARISM aARCHIVE_PAGE aLINK_LIST_PART aSAME_SITE_RELATED aCITATION_OR_SPAM aSHARED_TEXT_OR_PLAGIARISM aSW kSW a3 h0 n0 _ T54.heap _
  rw [e54]
  exact ⟨rfl, N51, (((Keep.refl _ []).ext E44).ext E47)⟩
theorem d_prog_4_method_4_107 : decode prog_4_method_4_code 107 = .ok (.getstatic 22, 3) := by decide +kernel
theorem d_prog_4_method_4_110 : decode prog_4_method_4_code 110 = .ok (.goto 6, 3) := by decide +kernel
def Q_of20N (Z : State) (aIDENTICAL aCONTAINMENT aPARTIAL aA_TO_B aB_TO_A aBOTH aNONE aMIRROR aTEMPLATE_OR_PLAGIARISM aARCHIVE_PAGE aLINK_LIST_PART aSAME_SITE_RELATED aCITATION_OR_SPAM aSHARED_TEXT_OR_PLAGIARISM aSW : Addr) (kSW : ClassId) (h0 : Heap) (n0 : Nat) (v : Option Value) (h : Heap) (L : List Loc) : Prop := v = some (.ref aSHARED_TEXT_OR_PLAGIARISM) ∧ Fr n0 L ∧ Keep h0 h []
theorem ef_of20N (m : MethodId) (x0 : Addr) (x1 : Int32) (x2 : Addr) : entryFrame m #[(.ref x0), (.int x1), (.ref x2)] 3 = mkF m 0 #[.val (.ref x0), .val (.int x1), .val (.ref x2)] [] := by first | (simp [entryFrame, mkF, argsToLocals, Value.category]; done) | rfl
set_option maxRecDepth 65536 in
set_option maxHeartbeats 40000000 in
theorem rm_of20N (l : Launch) (Z : State) (a0 : Array Value) (hw : ∀ d ∈ tables_1, d.before a0 Z = true) (ws : List Jvm.Cond) (aIDENTICAL aCONTAINMENT aPARTIAL aA_TO_B aB_TO_A aBOTH aNONE aMIRROR aTEMPLATE_OR_PLAGIARISM aARCHIVE_PAGE aLINK_LIST_PART aSAME_SITE_RELATED aCITATION_OR_SPAM aSHARED_TEXT_OR_PLAGIARISM aSW : Addr) (kSW : ClassId) (F0 : OwnFacts Z aIDENTICAL aCONTAINMENT aPARTIAL aA_TO_B aB_TO_A aBOTH aNONE aMIRROR aTEMPLATE_OR_PLAGIARISM aARCHIVE_PAGE aLINK_LIST_PART aSAME_SITE_RELATED aCITATION_OR_SPAM aSHARED_TEXT_OR_PLAGIARISM aSW kSW) (h0 : Heap) (n0 : Nat) (O0 : Old Z n0 h0) :
    MetFree l (⟨"com/example/page_copy_finder/pagecopyfinder/copies/PairLabel", "of", "(Lcom/example/page_copy_finder/pagecopyfinder/copies/PairKind;ZLcom/example/page_copy_finder/pagecopyfinder/copies/PairLinks;)Lcom/example/page_copy_finder/pagecopyfinder/copies/PairLabel;"⟩ : MethodName) (head1 (Jvm.Cond.code (⟨"com/example/page_copy_finder/pagecopyfinder/copies/PairLabel", "of", "(Lcom/example/page_copy_finder/pagecopyfinder/copies/PairKind;ZLcom/example/page_copy_finder/pagecopyfinder/copies/PairLinks;)Lcom/example/page_copy_finder/pagecopyfinder/copies/PairLabel;"⟩ : MethodName) prog_4_method_4_code 3 (some (.object "com/example/page_copy_finder/pagecopyfinder/copies/PairLabel")) :: ws) ({ frames := 1, cells := 4, slots := 44, locals := 13 } : Room)) (fun a U => a = #[(.ref aPARTIAL), (.int (0 : Int32)), (.ref aNONE)] ∧ Z.Warmed39 U.vm ∧ U.heap = h0) (fun _ _ _ _ _ => True) (fun _ U o U' => ∃ v L, o = .returned v ∧ Q_of20N Z aIDENTICAL aCONTAINMENT aPARTIAL aA_TO_B aB_TO_A aBOTH aNONE aMIRROR aTEMPLATE_OR_PLAGIARISM aARCHIVE_PAGE aLINK_LIST_PART aSAME_SITE_RELATED aCITATION_OR_SPAM aSHARED_TEXT_OR_PLAGIARISM aSW kSW h0 n0 v U'.heap L ∧ ReturnedEndW U o U' L ({ frames := 1, cells := 4, slots := 44, locals := 13 } : Room).cells ({ frames := 1, cells := 4, slots := 44, locals := 13 } : Room).slots) := by
  refine MetFree.of_bodySF (plainFor_of_name pn_com_example_page_copy_finder_pagecopyfinder_copies_PairLabel) hisR ?_
  intro p e s m args below meth c s₁ Bd hml0 hP hK
  obtain ⟨rfl, hZ, hh⟩ := hP
  have hx := Bd.exec
  have hby := Bd.bytes
  have hml : c.maxLocals = 3 := hml0
  have hown : s.vm.findClass "com/example/page_copy_finder/pagecopyfinder/copies/PairLabel" = some m.cls := findClass_of_methodNamed Bd.named
  have hnm := (name_of_methodNamed Bd.named Bd.method).1
  have X0 : Stand p l e ({ frames := 1, cells := 4, slots := 44, locals := 13 } : Room) s m #[(.ref aPARTIAL), (.int (0 : Int32)), (.ref aNONE)] below meth c s₁ [] 0 0 := Stand.of_body Bd
  have e0 : s₁.heap = h0 := by rw [← hh, Bd.state]; rfl
  have N0 := Fr.nil n0
  refine own_go (Q := fun o U' => ∃ v L, o = .returned v ∧ Q_of20N Z aIDENTICAL aCONTAINMENT aPARTIAL aA_TO_B aB_TO_A aBOTH aNONE aMIRROR aTEMPLATE_OR_PLAGIARISM aARCHIVE_PAGE aLINK_LIST_PART aSAME_SITE_RELATED aCITATION_OR_SPAM aSHARED_TEXT_OR_PLAGIARISM aSW kSW h0 n0 v U'.heap L ∧ ReturnedEndW s o U' L ({ frames := 1, cells := 4, slots := 44, locals := 13 } : Room).cells ({ frames := 1, cells := 4, slots := 44, locals := 13 } : Room).slots) (fun t k => castTop (ef_of20N m aPARTIAL (0 : Int32) aNONE) k) ?_
  have wS : ∀ a ∈ Bundle.stringAtoms, a.before a0 Z = true := by
    intro a ha
    simp only [Bundle.stringAtoms, List.mem_cons, List.not_mem_nil, or_false] at ha
    rcases ha with rfl | rfl | rfl | rfl | rfl | rfl | rfl
    · exact (hw _ (List.mem_of_getElem? (i := 45) rfl))
    · exact (hw _ (List.mem_of_getElem? (i := 46) rfl))
    · exact (hw _ (List.mem_of_getElem? (i := 47) rfl))
    · exact (hw _ (List.mem_of_getElem? (i := 48) rfl))
    · exact (hw _ (List.mem_of_getElem? (i := 49) rfl))
    · exact (hw _ (List.mem_of_getElem? (i := 50) rfl))
    · exact (hw _ (List.mem_of_getElem? (i := 51) rfl))
  show OwnGo p e below _ (s₁.setTop (mkF m 0 #[.val (.ref aPARTIAL), .val (.int (0 : Int32)), .val (.ref aNONE)] []))
  refine own_go (fun _ k => XS.aloadN X0.here hx rfl (hb hby d_prog_4_method_4_0) rfl rfl k) ?_
  show OwnGo p e below _ (s₁.setTop (mkF m 1 #[.val (.ref aPARTIAL), .val (.int (0 : Int32)), .val (.ref aNONE)] [(.ref aPARTIAL)]))
  obtain ⟨a55, T55, h55, k55, X55, e55, E55, hS55, kk55, hZ, hown, st55⟩ := ldcS (s := s) (vm0 := s.vm) X0 hx hZ hown (hw _ (List.mem_of_getElem? (i := 44) rfl)) wS e0 ((State.WarmedH.refl s).since 0) (Nat.zero_le _) (g := (mkF m 1 #[.val (.ref aPARTIAL), .val (.int (0 : Int32)), .val (.ref aNONE)] [(.ref aPARTIAL)])) rfl (hb hby d_prog_4_method_4_1) (n := 16) (by decide) (by decide) (by decide) (by decide)
  have O55 := O0.ext E55
  have z56 : h0.size ≤ h55.size := Nat.le_trans (Nat.le_refl _) E55.1
  refine own_go st55 ?_
  show OwnGo p e below _ (T55.setTop (mkF m 3 #[.val (.ref aPARTIAL), .val (.int (0 : Int32)), .val (.ref aNONE)] [(.ref a55), (.ref aPARTIAL)]))
  obtain ⟨_, _, ⟨T57, L57, k57, n57⟩, -, X57, ⟨Lc57, hQ57, l57, y57, z57⟩, st57⟩ := Jvm.LawKit.callS X55 hx (y := (⟨"java/util/Objects", "requireNonNull", "(Ljava/lang/Object;Ljava/lang/String;)Ljava/lang/Object;"⟩ : MethodName)) hown (mvT hZ (hw _ (List.mem_of_getElem? (i := 52) rfl))) (mvT hZ (hw _ (List.mem_of_getElem? (i := 53) rfl))) (mvT hZ (hw _ (List.mem_of_getElem? (i := 54) rfl))) (mvT hZ (hw _ (List.mem_of_getElem? (i := 55) rfl))) (by decide) (backOf (W := 0) (rm_rn l Z a0 hw [] aIDENTICAL aCONTAINMENT aPARTIAL aA_TO_B aB_TO_A aBOTH aNONE aMIRROR aTEMPLATE_OR_PLAGIARISM aARCHIVE_PAGE aLINK_LIST_PART aSAME_SITE_RELATED aCITATION_OR_SPAM aSHARED_TEXT_OR_PLAGIARISM aSW kSW F0 aPARTIAL a55 h55 n0 O55) hZ (hw _ (List.mem_of_getElem? (i := 55) rfl)) (hw _ (List.mem_of_getElem? (i := 54) rfl)) (by decide) (by decide)) (g := (mkF m 3 #[.val (.ref aPARTIAL), .val (.int (0 : Int32)), .val (.ref aNONE)] [(.ref a55), (.ref aPARTIAL)])) rfl (by rw [hml]; rfl) (argsL := [(.ref aPARTIAL), (.ref a55)]) (rest := []) (lenOf pd_Ljava_lang_Object__Ljava_lang_String___Ljava_lang_Object_ rfl) rfl (by show 2 * 0 + _ ≤ _; exact Nat.le_of_eq rfl) (hb hby d_prog_4_method_4_3) (fun _ _ => ⟨rfl, e55, (by decide : 2 + 0 ≤ _), (by decide : 20 + 0 ≤ _)⟩)
  dsimp only [Pt.U, Pt.locs, Pt.cells, Pt.slots] at X57 l57 y57 z57 st57 hQ57
  subst l57 y57 z57
  obtain ⟨rfl, Nq57, K57⟩ := hQ57
  have N57 := Fr.app N0 Nq57
  refine own_go st57 ?_
  show OwnGo p e below _ (T57.setTop (mkF m 6 #[.val (.ref aPARTIAL), .val (.int (0 : Int32)), .val (.ref aNONE)] [(.ref aPARTIAL)]))
  refine own_go (fun _ k => XS.pop X57.here hx rfl (hb hby d_prog_4_method_4_6) rfl rfl k) ?_
  show OwnGo p e below _ (T57.setTop (mkF m 7 #[.val (.ref aPARTIAL), .val (.int (0 : Int32)), .val (.ref aNONE)] []))
  refine own_go (fun _ k => XS.aloadN X57.here hx rfl (hb hby d_prog_4_method_4_7) rfl rfl k) ?_
  show OwnGo p e below _ (T57.setTop (mkF m 8 #[.val (.ref aPARTIAL), .val (.int (0 : Int32)), .val (.ref aNONE)] [(.ref aNONE)]))
  obtain ⟨a58, T58, h58, k58, X58, e58, E58, hS58, kk58, hZ, hown, st58⟩ := ldcS (s := s) (vm0 := T55.vm) X57 hx hZ hown (hw _ (List.mem_of_getElem? (i := 56) rfl)) wS K57 hS55 kk55 (g := (mkF m 8 #[.val (.ref aPARTIAL), .val (.int (0 : Int32)), .val (.ref aNONE)] [(.ref aNONE)])) rfl (hb hby d_prog_4_method_4_8) (n := 20) (by decide) (by decide) (by decide) (by decide)
  have O58 := O55.ext E58
  have z59 : h0.size ≤ h58.size := Nat.le_trans z56 E58.1
  refine own_go st58 ?_
  show OwnGo p e below _ (T58.setTop (mkF m 10 #[.val (.ref aPARTIAL), .val (.int (0 : Int32)), .val (.ref aNONE)] [(.ref a58), (.ref aNONE)]))
  obtain ⟨_, _, ⟨T60, L60, k60, n60⟩, -, X60, ⟨Lc60, hQ60, l60, y60, z60⟩, st60⟩ := Jvm.LawKit.callS X58 hx (y := (⟨"java/util/Objects", "requireNonNull", "(Ljava/lang/Object;Ljava/lang/String;)Ljava/lang/Object;"⟩ : MethodName)) hown (mvT hZ (hw _ (List.mem_of_getElem? (i := 52) rfl))) (mvT hZ (hw _ (List.mem_of_getElem? (i := 53) rfl))) (mvT hZ (hw _ (List.mem_of_getElem? (i := 54) rfl))) (mvT hZ (hw _ (List.mem_of_getElem? (i := 55) rfl))) (by decide) (backOf (W := 0) (rm_rn l Z a0 hw [] aIDENTICAL aCONTAINMENT aPARTIAL aA_TO_B aB_TO_A aBOTH aNONE aMIRROR aTEMPLATE_OR_PLAGIARISM aARCHIVE_PAGE aLINK_LIST_PART aSAME_SITE_RELATED aCITATION_OR_SPAM aSHARED_TEXT_OR_PLAGIARISM aSW kSW F0 aNONE a58 h58 n0 O58) hZ (hw _ (List.mem_of_getElem? (i := 55) rfl)) (hw _ (List.mem_of_getElem? (i := 54) rfl)) (by decide) (by decide)) (g := (mkF m 10 #[.val (.ref aPARTIAL), .val (.int (0 : Int32)), .val (.ref aNONE)] [(.ref a58), (.ref aNONE)])) rfl (by rw [hml]; rfl) (argsL := [(.ref aNONE), (.ref a58)]) (rest := []) (lenOf pd_Ljava_lang_Object__Ljava_lang_String___Ljava_lang_Object_ rfl) rfl (by show 2 * 0 + _ ≤ _; exact Nat.le_of_eq rfl) (hb hby d_prog_4_method_4_10) (fun _ _ => ⟨rfl, e58, (by decide : 4 + 0 ≤ _), (by decide : 44 + 0 ≤ _)⟩)
  dsimp only [Pt.U, Pt.locs, Pt.cells, Pt.slots] at X60 l60 y60 z60 st60 hQ60
  subst l60 y60 z60
  obtain ⟨rfl, Nq60, K60⟩ := hQ60
  have N60 := Fr.app N57 Nq60
  refine own_go st60 ?_
  show OwnGo p e below _ (T60.setTop (mkF m 13 #[.val (.ref aPARTIAL), .val (.int (0 : Int32)), .val (.ref aNONE)] [(.ref aNONE)]))
  refine own_go (fun _ k => XS.pop X60.here hx rfl (hb hby d_prog_4_method_4_13) rfl rfl k) ?_
  show OwnGo p e below _ (T60.setTop (mkF m 14 #[.val (.ref aPARTIAL), .val (.int (0 : Int32)), .val (.ref aNONE)] []))
  obtain ⟨T61, X61, e61, st61⟩ := getS X60 hx hZ hown (host := "") (hw _ (List.mem_of_getElem? (i := 57) rfl)) Via.refl K60 (F0.2.2.2.2.2.2.2.2.2.2.2.2.2.2.2.2.2.2.2.2.2.2.2.2.2.2.2.2.2.2.2.2.2.2.2.1.ext O58.2) (g := (mkF m 14 #[.val (.ref aPARTIAL), .val (.int (0 : Int32)), .val (.ref aNONE)] [])) rfl (hb hby d_prog_4_method_4_14)
  refine own_go st61 ?_
  show OwnGo p e below _ (T61.setTop (mkF m 17 #[.val (.ref aPARTIAL), .val (.int (0 : Int32)), .val (.ref aNONE)] [(.ref aSW)]))
  refine own_go (fun _ k => XS.aloadN X61.here hx rfl (hb hby d_prog_4_method_4_17) rfl rfl k) ?_
  show OwnGo p e below _ (T61.setTop (mkF m 18 #[.val (.ref aPARTIAL), .val (.int (0 : Int32)), .val (.ref aNONE)] [(.ref aPARTIAL), (.ref aSW)]))
  obtain ⟨cq62, kq62, qa62, qb62, qc62⟩ := isOf hZ e61 (F0.2.2.2.2.2.1.ext O58.2)
  obtain ⟨_, _, ⟨T62, L62, k62, n62⟩, -, X62, ⟨Lc62, hQ62, l62, y62, z62⟩, st62⟩ := X61.virtualBackUp hx (x := (⟨"com/example/page_copy_finder/pagecopyfinder/copies/PairKind", "ordinal", "()I"⟩ : MethodName)) (y := (⟨"java/lang/Enum", "ordinal", "()I"⟩ : MethodName)) (owner := "java/lang/Enum") hown (mvT hZ (hw _ (List.mem_of_getElem? (i := 60) rfl))) (mvT hZ (hw _ (List.mem_of_getElem? (i := 61) rfl))) (mvT hZ (hw _ (List.mem_of_getElem? (i := 62) rfl))) (by decide) (mvT hZ (hw _ (List.mem_of_getElem? (i := 64) rfl))) (mvT hZ (hw _ (List.mem_of_getElem? (i := 63) rfl))) (backOf (W := 1) (rm_ord2 l Z a0 hw [] aIDENTICAL aCONTAINMENT aPARTIAL aA_TO_B aB_TO_A aBOTH aNONE aMIRROR aTEMPLATE_OR_PLAGIARISM aARCHIVE_PAGE aLINK_LIST_PART aSAME_SITE_RELATED aCITATION_OR_SPAM aSHARED_TEXT_OR_PLAGIARISM aSW kSW F0 h58 n0 O58) hZ (hw _ (List.mem_of_getElem? (i := 66) rfl)) (hw _ (List.mem_of_getElem? (i := 65) rfl)) (by decide) (by decide)) qa62 qc62 (g := (mkF m 18 #[.val (.ref aPARTIAL), .val (.int (0 : Int32)), .val (.ref aNONE)] [(.ref aPARTIAL), (.ref aSW)])) rfl (by rw [hml]; rfl) (Steps.refl _) (argsL := []) (rest := [(.ref aSW)]) (lenOf pd___I rfl) rfl (by show 2 * 0 + _ ≤ _; exact Nat.le_of_eq rfl) (hb hby d_prog_4_method_4_18) (fun _ _ => ⟨rfl, e61, (by decide : 4 + 0 ≤ _), (by decide : 44 + 0 ≤ _)⟩)
  dsimp only [Pt.U, Pt.locs, Pt.cells, Pt.slots] at X62 l62 y62 z62 st62 hQ62
  subst l62 y62 z62
  obtain ⟨rfl, Nq62, K62⟩ := hQ62
  have N62 := Fr.app N60 Nq62
  refine own_go (fun _ k => st62.trans k) ?_
  show OwnGo p e below _ (T62.setTop (mkF m 21 #[.val (.ref aPARTIAL), .val (.int (0 : Int32)), .val (.ref aNONE)] [(.int (2 : Int32)), (.ref aSW)]))
  obtain ⟨c63, Ar63, q63, S63, M63, H63, G63⟩ := (id (F0.2.2.2.2.2.2.2.2.2.2.2.2.2.2.2.2.2.2.2.2.2.2.2.2.2.2.2.2.2.2.2.2.2.2.2.2.ext O58.2))
  refine own_go (fun _ k => X62.iaload hx (j := (2 : Int32)) (v := (.int (3 : Int32))) (by rw [K62]; exact Ar63.1) (State.isArrayOf_alike hZ.alike Ar63.2.1) Ar63.2.2 (inb_of S63 ⟨by decide, by decide⟩) (Has.at H63 (inb_of S63 ⟨by decide, by decide⟩) rfl) (g := (mkF m 21 #[.val (.ref aPARTIAL), .val (.int (0 : Int32)), .val (.ref aNONE)] [(.int (2 : Int32)), (.ref aSW)])) rfl rfl (hb hby d_prog_4_method_4_21) _ k) ?_
  show OwnGo p e below _ (T62.setTop (mkF m 22 #[.val (.ref aPARTIAL), .val (.int (0 : Int32)), .val (.ref aNONE)] [(.int (3 : Int32))]))
  refine own_go (fun _ k => XS.tswIn X62.here hx rfl (pc0 := 22) (pc' := 90) (o := 68) rfl (hb hby d_prog_4_method_4_22) rfl (by decide) (by decide) (by decide) (by decide) k) ?_
  show OwnGo p e below _ (T62.setTop (mkF m 90 #[.val (.ref aPARTIAL), .val (.int (0 : Int32)), .val (.ref aNONE)] []))
  refine own_go (fun _ k => XS.iloadN X62.here hx rfl (hb hby d_prog_4_method_4_90) rfl k) ?_
  show OwnGo p e below _ (T62.setTop (mkF m 91 #[.val (.ref aPARTIAL), .val (.int (0 : Int32)), .val (.ref aNONE)] [(.int (0 : Int32))]))
  refine own_go (fun _ k => XS.ifYes X62.here hx rfl (pc0 := 91) (pc' := 100) rfl (hb hby d_prog_4_method_4_91) rfl (by decide) (by decide) (by decide) k) ?_
  show OwnGo p e below _ (T62.setTop (mkF m 100 #[.val (.ref aPARTIAL), .val (.int (0 : Int32)), .val (.ref aNONE)] []))
  refine own_go (fun _ k => XS.aloadN X62.here hx rfl (hb hby d_prog_4_method_4_100) rfl rfl k) ?_
  show OwnGo p e below _ (T62.setTop (mkF m 101 #[.val (.ref aPARTIAL), .val (.int (0 : Int32)), .val (.ref aNONE)] [(.ref aNONE)]))
  obtain ⟨T64, X64, e64, st64⟩ := getS X62 hx hZ hown (host := "") (hw _ (List.mem_of_getElem? (i := 71) rfl)) Via.refl K62 (F0.2.2.2.2.2.2.2.2.2.2.2.2.1.ext O58.2) (g := (mkF m 101 #[.val (.ref aPARTIAL), .val (.int (0 : Int32)), .val (.ref aNONE)] [(.ref aNONE)])) rfl (hb hby d_prog_4_method_4_101)
  refine own_go st64 ?_
  show OwnGo p e below _ (T64.setTop (mkF m 104 #[.val (.ref aPARTIAL), .val (.int (0 : Int32)), .val (.ref aNONE)] [(.ref aNONE), (.ref aNONE)]))
  refine own_go (fun _ k => acmp X64 hx rfl (cd := .ne) (o := 9) (x := (.ref aNONE)) (y := (.ref aNONE)) (pc0 := 104) (pc' := 107) rfl rfl rfl (hb hby d_prog_4_method_4_104) rfl (own_refeq _) (by decide) (by decide) k) ?_
  show OwnGo p e below _ (T64.setTop (mkF m 107 #[.val (.ref aPARTIAL), .val (.int (0 : Int32)), .val (.ref aNONE)] []))
  obtain ⟨T65, X65, e65, st65⟩ := getS X64 hx hZ hown (host := "") (hw _ (List.mem_of_getElem? (i := 72) rfl)) Via.refl e64 (F0.2.2.2.2.2.2.2.2.2.2.2.2.2.2.2.2.2.2.2.2.2.2.2.2.2.2.1.ext O58.2) (g := (mkF m 107 #[.val (.ref aPARTIAL), .val (.int (0 : Int32)), .val (.ref aNONE)] [])) rfl (hb hby d_prog_4_method_4_107)
  refine own_go st65 ?_
  show OwnGo p e below _ (T65.setTop (mkF m 110 #[.val (.ref aPARTIAL), .val (.int (0 : Int32)), .val (.ref aNONE)] [(.ref aSHARED_TEXT_OR_PLAGIARISM)]))
  refine own_go (fun _ k => XS.goto X65.here hx rfl (pc0 := 110) (pc' := 116) rfl (hb hby d_prog_4_method_4_110) (by decide) (by decide) k) ?_
  show OwnGo p e below _ (T65.setTop (mkF m 116 #[.val (.ref aPARTIAL), .val (.int (0 : Int32)), .val (.ref aNONE)] [(.ref aSHARED_TEXT_OR_PLAGIARISM)]))
  obtain ⟨fs, hr, hrun, hended, hEnd⟩ := Jvm.Stand.leaveW (s := s) (vm₁ := T58.vm) X65 hS58 (by rw [e65]; exact kk58) (v := some (.ref aSHARED_TEXT_OR_PLAGIARISM)) (fun h => by rw [Bd.returns] at h; cases h)
  refine ⟨_, _, retOut X65 hx Bd.returns rfl (Or.inr (Or.inr (Or.inr (Or.inr ⟨rfl, rfl, rfl⟩)))) (hb hby d_prog_4_method_4_116) hr, hrun, hended, _, _, rfl, ?_, own_monoW hEnd (by decide) (by decide)⟩
  show Q_of20N Z aIDENTICAL aCONTAINMENT aPARTIAL aA_TO_B aB_TO_A aBOTH aNONE aMIRROR aTEMPLATE_OR_PLAGIARISM aARCHIVE_PAGE aLINK_LIST_PART aSAME_SITE_RELATED aCITATION_OR_SPAM aSHARED_TEXT_OR_PLAGIARISM aSW kSW h0 n0 _ T65.heap _
  rw [e65]
  exact ⟨rfl, N62, (((Keep.refl _ []).ext E55).ext E58)⟩
theorem d_prog_4_method_4_94 : decode prog_4_method_4_code 94 = .ok (.getstatic 16, 3) := by decide +kernel
theorem d_prog_4_method_4_97 : decode prog_4_method_4_code 97 = .ok (.goto 19, 3) := by decide +kernel
def Q_of21 (Z : State) (aIDENTICAL aCONTAINMENT aPARTIAL aA_TO_B aB_TO_A aBOTH aNONE aMIRROR aTEMPLATE_OR_PLAGIARISM aARCHIVE_PAGE aLINK_LIST_PART aSAME_SITE_RELATED aCITATION_OR_SPAM aSHARED_TEXT_OR_PLAGIARISM aSW : Addr) (kSW : ClassId) (a3 : Addr) (h0 : Heap) (n0 : Nat) (v : Option Value) (h : Heap) (L : List Loc) : Prop := v = some (.ref aSAME_SITE_RELATED) ∧ Fr n0 L ∧ Keep h0 h []
theorem ef_of21 (m : MethodId) (x0 : Addr) (x1 : Int32) (x2 : Addr) : entryFrame m #[(.ref x0), (.int x1), (.ref x2)] 3 = mkF m 0 #[.val (.ref x0), .val (.int x1), .val (.ref x2)] [] := by first | (simp [entryFrame, mkF, argsToLocals, Value.category]; done) | rfl
set_option maxRecDepth 65536 in
set_option maxHeartbeats 40000000 in
theorem rm_of21 (l : Launch) (Z : State) (a0 : Array Value) (hw : ∀ d ∈ tables_1, d.before a0 Z = true) (ws : List Jvm.Cond) (aIDENTICAL aCONTAINMENT aPARTIAL aA_TO_B aB_TO_A aBOTH aNONE aMIRROR aTEMPLATE_OR_PLAGIARISM aARCHIVE_PAGE aLINK_LIST_PART aSAME_SITE_RELATED aCITATION_OR_SPAM aSHARED_TEXT_OR_PLAGIARISM aSW : Addr) (kSW : ClassId) (F0 : OwnFacts Z aIDENTICAL aCONTAINMENT aPARTIAL aA_TO_B aB_TO_A aBOTH aNONE aMIRROR aTEMPLATE_OR_PLAGIARISM aARCHIVE_PAGE aLINK_LIST_PART aSAME_SITE_RELATED aCITATION_OR_SPAM aSHARED_TEXT_OR_PLAGIARISM aSW kSW) (a3 : Addr) (h0 : Heap) (n0 : Nat) (O0 : Old Z n0 h0) :
    MetFree l (⟨"com/example/page_copy_finder/pagecopyfinder/copies/PairLabel", "of", "(Lcom/example/page_copy_finder/pagecopyfinder/copies/PairKind;ZLcom/example/page_copy_finder/pagecopyfinder/copies/PairLinks;)Lcom/example/page_copy_finder/pagecopyfinder/copies/PairLabel;"⟩ : MethodName) (head1 (Jvm.Cond.code (⟨"com/example/page_copy_finder/pagecopyfinder/copies/PairLabel", "of", "(Lcom/example/page_copy_finder/pagecopyfinder/copies/PairKind;ZLcom/example/page_copy_finder/pagecopyfinder/copies/PairLinks;)Lcom/example/page_copy_finder/pagecopyfinder/copies/PairLabel;"⟩ : MethodName) prog_4_method_4_code 3 (some (.object "com/example/page_copy_finder/pagecopyfinder/copies/PairLabel")) :: ws) ({ frames := 1, cells := 4, slots := 44, locals := 13 } : Room)) (fun a U => a = #[(.ref aPARTIAL), (.int (1 : Int32)), (.ref a3)] ∧ Z.Warmed39 U.vm ∧ U.heap = h0) (fun _ _ _ _ _ => True) (fun _ U o U' => ∃ v L, o = .returned v ∧ Q_of21 Z aIDENTICAL aCONTAINMENT aPARTIAL aA_TO_B aB_TO_A aBOTH aNONE aMIRROR aTEMPLATE_OR_PLAGIARISM aARCHIVE_PAGE aLINK_LIST_PART aSAME_SITE_RELATED aCITATION_OR_SPAM aSHARED_TEXT_OR_PLAGIARISM aSW kSW a3 h0 n0 v U'.heap L ∧ ReturnedEndW U o U' L ({ frames := 1, cells := 4, slots := 44, locals := 13 } : Room).cells ({ frames := 1, cells := 4, slots := 44, locals := 13 } : Room).slots) := by
  refine MetFree.of_bodySF (plainFor_of_name pn_com_example_page_copy_finder_pagecopyfinder_copies_PairLabel) hisR ?_
  intro p e s m args below meth c s₁ Bd hml0 hP hK
  obtain ⟨rfl, hZ, hh⟩ := hP
  have hx := Bd.exec
  have hby := Bd.bytes
  have hml : c.maxLocals = 3 := hml0
  have hown : s.vm.findClass "com/example/page_copy_finder/pagecopyfinder/copies/PairLabel" = some m.cls := findClass_of_methodNamed Bd.named
  have hnm := (name_of_methodNamed Bd.named Bd.method).1
  have X0 : Stand p l e ({ frames := 1, cells := 4, slots := 44, locals := 13 } : Room) s m #[(.ref aPARTIAL), (.int (1 : Int32)), (.ref a3)] below meth c s₁ [] 0 0 := Stand.of_body Bd
  have e0 : s₁.heap = h0 := by rw [← hh, Bd.state]; rfl
  have N0 := Fr.nil n0
  refine own_go (Q := fun o U' => ∃ v L, o = .returned v ∧ Q_of21 Z aIDENTICAL aCONTAINMENT aPARTIAL aA_TO_B aB_TO_A aBOTH aNONE aMIRROR aTEMPLATE_OR_PLAGIARISM aARCHIVE_PAGE aLINK_LIST_PART aSAME_SITE_RELATED aCITATION_OR_SPAM aSHARED_TEXT_OR_PLAGIARISM aSW kSW a3 h0 n0 v U'.heap L ∧ ReturnedEndW s o U' L ({ frames := 1, cells := 4, slots := 44, locals := 13 } : Room).cells ({ frames := 1, cells := 4, slots := 44, locals := 13 } : Room).slots) (fun t k => castTop (ef_of21 m aPARTIAL (1 : Int32) a3) k) ?_
  have wS : ∀ a ∈ Bundle.stringAtoms, a.before a0 Z = true := by
    intro a ha
    simp only [Bundle.stringAtoms, List.mem_cons, List.not_mem_nil, or_false] at ha
    rcases ha with rfl | rfl | rfl | rfl | rfl | rfl | rfl
    · exact (hw _ (List.mem_of_getElem? (i := 45) rfl))
    · exact (hw _ (List.mem_of_getElem? (i := 46) rfl))
    · exact (hw _ (List.mem_of_getElem? (i := 47) rfl))
    · exact (hw _ (List.mem_of_getElem? (i := 48) rfl))
    · exact (hw _ (List.mem_of_getElem? (i := 49) rfl))
    · exact (hw _ (List.mem_of_getElem? (i := 50) rfl))
    · exact (hw _ (List.mem_of_getElem? (i := 51) rfl))
  show OwnGo p e below _ (s₁.setTop (mkF m 0 #[.val (.ref aPARTIAL), .val (.int (1 : Int32)), .val (.ref a3)] []))
  refine own_go (fun _ k => XS.aloadN X0.here hx rfl (hb hby d_prog_4_method_4_0) rfl rfl k) ?_
  show OwnGo p e below _ (s₁.setTop (mkF m 1 #[.val (.ref aPARTIAL), .val (.int (1 : Int32)), .val (.ref a3)] [(.ref aPARTIAL)]))
  obtain ⟨a66, T66, h66, k66, X66, e66, E66, hS66, kk66, hZ, hown, st66⟩ := ldcS (s := s) (vm0 := s.vm) X0 hx hZ hown (hw _ (List.mem_of_getElem? (i := 44) rfl)) wS e0 ((State.WarmedH.refl s).since 0) (Nat.zero_le _) (g := (mkF m 1 #[.val (.ref aPARTIAL), .val (.int (1 : Int32)), .val (.ref a3)] [(.ref aPARTIAL)])) rfl (hb hby d_prog_4_method_4_1) (n := 16) (by decide) (by decide) (by decide) (by decide)
  have O66 := O0.ext E66
  have z67 : h0.size ≤ h66.size := Nat.le_trans (Nat.le_refl _) E66.1
  refine own_go st66 ?_
  show OwnGo p e below _ (T66.setTop (mkF m 3 #[.val (.ref aPARTIAL), .val (.int (1 : Int32)), .val (.ref a3)] [(.ref a66), (.ref aPARTIAL)]))
  obtain ⟨_, _, ⟨T68, L68, k68, n68⟩, -, X68, ⟨Lc68, hQ68, l68, y68, z68⟩, st68⟩ := Jvm.LawKit.callS X66 hx (y := (⟨"java/util/Objects", "requireNonNull", "(Ljava/lang/Object;Ljava/lang/String;)Ljava/lang/Object;"⟩ : MethodName)) hown (mvT hZ (hw _ (List.mem_of_getElem? (i := 52) rfl))) (mvT hZ (hw _ (List.mem_of_getElem? (i := 53) rfl))) (mvT hZ (hw _ (List.mem_of_getElem? (i := 54) rfl))) (mvT hZ (hw _ (List.mem_of_getElem? (i := 55) rfl))) (by decide) (backOf (W := 0) (rm_rn l Z a0 hw [] aIDENTICAL aCONTAINMENT aPARTIAL aA_TO_B aB_TO_A aBOTH aNONE aMIRROR aTEMPLATE_OR_PLAGIARISM aARCHIVE_PAGE aLINK_LIST_PART aSAME_SITE_RELATED aCITATION_OR_SPAM aSHARED_TEXT_OR_PLAGIARISM aSW kSW F0 aPARTIAL a66 h66 n0 O66) hZ (hw _ (List.mem_of_getElem? (i := 55) rfl)) (hw _ (List.mem_of_getElem? (i := 54) rfl)) (by decide) (by decide)) (g := (mkF m 3 #[.val (.ref aPARTIAL), .val (.int (1 : Int32)), .val (.ref a3)] [(.ref a66), (.ref aPARTIAL)])) rfl (by rw [hml]; rfl) (argsL := [(.ref aPARTIAL), (.ref a66)]) (rest := []) (lenOf pd_Ljava_lang_Object__Ljava_lang_String___Ljava_lang_Object_ rfl) rfl (by show 2 * 0 + _ ≤ _; exact Nat.le_of_eq rfl) (hb hby d_prog_4_method_4_3) (fun _ _ => ⟨rfl, e66, (by decide : 2 + 0 ≤ _), (by decide : 20 + 0 ≤ _)⟩)
  dsimp only [Pt.U, Pt.locs, Pt.cells, Pt.slots] at X68 l68 y68 z68 st68 hQ68
  subst l68 y68 z68
  obtain ⟨rfl, Nq68, K68⟩ := hQ68
  have N68 := Fr.app N0 Nq68
  refine own_go st68 ?_
  show OwnGo p e below _ (T68.setTop (mkF m 6 #[.val (.ref aPARTIAL), .val (.int (1 : Int32)), .val (.ref a3)] [(.ref aPARTIAL)]))
  refine own_go (fun _ k => XS.pop X68.here hx rfl (hb hby d_prog_4_method_4_6) rfl rfl k) ?_
  show OwnGo p e below _ (T68.setTop (mkF m 7 #[.val (.ref aPARTIAL), .val (.int (1 : Int32)), .val (.ref a3)] []))
  refine own_go (fun _ k => XS.aloadN X68.here hx rfl (hb hby d_prog_4_method_4_7) rfl rfl k) ?_
  show OwnGo p e below _ (T68.setTop (mkF m 8 #[.val (.ref aPARTIAL), .val (.int (1 : Int32)), .val (.ref a3)] [(.ref a3)]))
  obtain ⟨a69, T69, h69, k69, X69, e69, E69, hS69, kk69, hZ, hown, st69⟩ := ldcS (s := s) (vm0 := T66.vm) X68 hx hZ hown (hw _ (List.mem_of_getElem? (i := 56) rfl)) wS K68 hS66 kk66 (g := (mkF m 8 #[.val (.ref aPARTIAL), .val (.int (1 : Int32)), .val (.ref a3)] [(.ref a3)])) rfl (hb hby d_prog_4_method_4_8) (n := 20) (by decide) (by decide) (by decide) (by decide)
  have O69 := O66.ext E69
  have z70 : h0.size ≤ h69.size := Nat.le_trans z67 E69.1
  refine own_go st69 ?_
  show OwnGo p e below _ (T69.setTop (mkF m 10 #[.val (.ref aPARTIAL), .val (.int (1 : Int32)), .val (.ref a3)] [(.ref a69), (.ref a3)]))
  obtain ⟨_, _, ⟨T71, L71, k71, n71⟩, -, X71, ⟨Lc71, hQ71, l71, y71, z71⟩, st71⟩ := Jvm.LawKit.callS X69 hx (y := (⟨"java/util/Objects", "requireNonNull", "(Ljava/lang/Object;Ljava/lang/String;)Ljava/lang/Object;"⟩ : MethodName)) hown (mvT hZ (hw _ (List.mem_of_getElem? (i := 52) rfl))) (mvT hZ (hw _ (List.mem_of_getElem? (i := 53) rfl))) (mvT hZ (hw _ (List.mem_of_getElem? (i := 54) rfl))) (mvT hZ (hw _ (List.mem_of_getElem? (i := 55) rfl))) (by decide) (backOf (W := 0) (rm_rn l Z a0 hw [] aIDENTICAL aCONTAINMENT aPARTIAL aA_TO_B aB_TO_A aBOTH aNONE aMIRROR aTEMPLATE_OR_PLAGIARISM aARCHIVE_PAGE aLINK_LIST_PART aSAME_SITE_RELATED aCITATION_OR_SPAM aSHARED_TEXT_OR_PLAGIARISM aSW kSW F0 a3 a69 h69 n0 O69) hZ (hw _ (List.mem_of_getElem? (i := 55) rfl)) (hw _ (List.mem_of_getElem? (i := 54) rfl)) (by decide) (by decide)) (g := (mkF m 10 #[.val (.ref aPARTIAL), .val (.int (1 : Int32)), .val (.ref a3)] [(.ref a69), (.ref a3)])) rfl (by rw [hml]; rfl) (argsL := [(.ref a3), (.ref a69)]) (rest := []) (lenOf pd_Ljava_lang_Object__Ljava_lang_String___Ljava_lang_Object_ rfl) rfl (by show 2 * 0 + _ ≤ _; exact Nat.le_of_eq rfl) (hb hby d_prog_4_method_4_10) (fun _ _ => ⟨rfl, e69, (by decide : 4 + 0 ≤ _), (by decide : 44 + 0 ≤ _)⟩)
  dsimp only [Pt.U, Pt.locs, Pt.cells, Pt.slots] at X71 l71 y71 z71 st71 hQ71
  subst l71 y71 z71
  obtain ⟨rfl, Nq71, K71⟩ := hQ71
  have N71 := Fr.app N68 Nq71
  refine own_go st71 ?_
  show OwnGo p e below _ (T71.setTop (mkF m 13 #[.val (.ref aPARTIAL), .val (.int (1 : Int32)), .val (.ref a3)] [(.ref a3)]))
  refine own_go (fun _ k => XS.pop X71.here hx rfl (hb hby d_prog_4_method_4_13) rfl rfl k) ?_
  show OwnGo p e below _ (T71.setTop (mkF m 14 #[.val (.ref aPARTIAL), .val (.int (1 : Int32)), .val (.ref a3)] []))
  obtain ⟨T72, X72, e72, st72⟩ := getS X71 hx hZ hown (host := "") (hw _ (List.mem_of_getElem? (i := 57) rfl)) Via.refl K71 (F0.2.2.2.2.2.2.2.2.2.2.2.2.2.2.2.2.2.2.2.2.2.2.2.2.2.2.2.2.2.2.2.2.2.2.2.1.ext O69.2) (g := (mkF m 14 #[.val (.ref aPARTIAL), .val (.int (1 : Int32)), .val (.ref a3)] [])) rfl (hb hby d_prog_4_method_4_14)
  refine own_go st72 ?_
  show OwnGo p e below _ (T72.setTop (mkF m 17 #[.val (.ref aPARTIAL), .val (.int (1 : Int32)), .val (.ref a3)] [(.ref aSW)]))
  refine own_go (fun _ k => XS.aloadN X72.here hx rfl (hb hby d_prog_4_method_4_17) rfl rfl k) ?_
  show OwnGo p e below _ (T72.setTop (mkF m 18 #[.val (.ref aPARTIAL), .val (.int (1 : Int32)), .val (.ref a3)] [(.ref aPARTIAL), (.ref aSW)]))
  obtain ⟨cq73, kq73, qa73, qb73, qc73⟩ := isOf hZ e72 (F0.2.2.2.2.2.1.ext O69.2)
  obtain ⟨_, _, ⟨T73, L73, k73, n73⟩, -, X73, ⟨Lc73, hQ73, l73, y73, z73⟩, st73⟩ := X72.virtualBackUp hx (x := (⟨"com/example/page_copy_finder/pagecopyfinder/copies/PairKind", "ordinal", "()I"⟩ : MethodName)) (y := (⟨"java/lang/Enum", "ordinal", "()I"⟩ : MethodName)) (owner := "java/lang/Enum") hown (mvT hZ (hw _ (List.mem_of_getElem? (i := 60) rfl))) (mvT hZ (hw _ (List.mem_of_getElem? (i := 61) rfl))) (mvT hZ (hw _ (List.mem_of_getElem? (i := 62) rfl))) (by decide) (mvT hZ (hw _ (List.mem_of_getElem? (i := 64) rfl))) (mvT hZ (hw _ (List.mem_of_getElem? (i := 63) rfl))) (backOf (W := 1) (rm_ord2 l Z a0 hw [] aIDENTICAL aCONTAINMENT aPARTIAL aA_TO_B aB_TO_A aBOTH aNONE aMIRROR aTEMPLATE_OR_PLAGIARISM aARCHIVE_PAGE aLINK_LIST_PART aSAME_SITE_RELATED aCITATION_OR_SPAM aSHARED_TEXT_OR_PLAGIARISM aSW kSW F0 h69 n0 O69) hZ (hw _ (List.mem_of_getElem? (i := 66) rfl)) (hw _ (List.mem_of_getElem? (i := 65) rfl)) (by decide) (by decide)) qa73 qc73 (g := (mkF m 18 #[.val (.ref aPARTIAL), .val (.int (1 : Int32)), .val (.ref a3)] [(.ref aPARTIAL), (.ref aSW)])) rfl (by rw [hml]; rfl) (Steps.refl _) (argsL := []) (rest := [(.ref aSW)]) (lenOf pd___I rfl) rfl (by show 2 * 0 + _ ≤ _; exact Nat.le_of_eq rfl) (hb hby d_prog_4_method_4_18) (fun _ _ => ⟨rfl, e72, (by decide : 4 + 0 ≤ _), (by decide : 44 + 0 ≤ _)⟩)
  dsimp only [Pt.U, Pt.locs, Pt.cells, Pt.slots] at X73 l73 y73 z73 st73 hQ73
  subst l73 y73 z73
  obtain ⟨rfl, Nq73, K73⟩ := hQ73
  have N73 := Fr.app N71 Nq73
  refine own_go (fun _ k => st73.trans k) ?_
  show OwnGo p e below _ (T73.setTop (mkF m 21 #[.val (.ref aPARTIAL), .val (.int (1 : Int32)), .val (.ref a3)] [(.int (2 : Int32)), (.ref aSW)]))
  obtain ⟨c74, Ar74, q74, S74, M74, H74, G74⟩ := (id (F0.2.2.2.2.2.2.2.2.2.2.2.2.2.2.2.2.2.2.2.2.2.2.2.2.2.2.2.2.2.2.2.2.2.2.2.2.ext O69.2))
  refine own_go (fun _ k => X73.iaload hx (j := (2 : Int32)) (v := (.int (3 : Int32))) (by rw [K73]; exact Ar74.1) (State.isArrayOf_alike hZ.alike Ar74.2.1) Ar74.2.2 (inb_of S74 ⟨by decide, by decide⟩) (Has.at H74 (inb_of S74 ⟨by decide, by decide⟩) rfl) (g := (mkF m 21 #[.val (.ref aPARTIAL), .val (.int (1 : Int32)), .val (.ref a3)] [(.int (2 : Int32)), (.ref aSW)])) rfl rfl (hb hby d_prog_4_method_4_21) _ k) ?_
  show OwnGo p e below _ (T73.setTop (mkF m 22 #[.val (.ref aPARTIAL), .val (.int (1 : Int32)), .val (.ref a3)] [(.int (3 : Int32))]))
  refine own_go (fun _ k => XS.tswIn X73.here hx rfl (pc0 := 22) (pc' := 90) (o := 68) rfl (hb hby d_prog_4_method_4_22) rfl (by decide) (by decide) (by decide) (by decide) k) ?_
  show OwnGo p e below _ (T73.setTop (mkF m 90 #[.val (.ref aPARTIAL), .val (.int (1 : Int32)), .val (.ref a3)] []))
  refine own_go (fun _ k => XS.iloadN X73.here hx rfl (hb hby d_prog_4_method_4_90) rfl k) ?_
  show OwnGo p e below _ (T73.setTop (mkF m 91 #[.val (.ref aPARTIAL), .val (.int (1 : Int32)), .val (.ref a3)] [(.int (1 : Int32))]))
  refine own_go (fun _ k => XS.ifNo X73.here hx rfl (hb hby d_prog_4_method_4_91) rfl (by decide) k) ?_
  show OwnGo p e below _ (T73.setTop (mkF m 94 #[.val (.ref aPARTIAL), .val (.int (1 : Int32)), .val (.ref a3)] []))
  obtain ⟨T75, X75, e75, st75⟩ := getS X73 hx hZ hown (host := "") (hw _ (List.mem_of_getElem? (i := 74) rfl)) Via.refl K73 (F0.2.2.2.2.2.2.2.2.2.2.2.2.2.2.2.2.2.2.2.2.2.2.1.ext O69.2) (g := (mkF m 94 #[.val (.ref aPARTIAL), .val (.int (1 : Int32)), .val (.ref a3)] [])) rfl (hb hby d_prog_4_method_4_94)
  refine own_go st75 ?_
  show OwnGo p e below _ (T75.setTop (mkF m 97 #[.val (.ref aPARTIAL), .val (.int (1 : Int32)), .val (.ref a3)] [(.ref aSAME_SITE_RELATED)]))
  refine own_go (fun _ k => XS.goto X75.here hx rfl (pc0 := 97) (pc' := 116) rfl (hb hby d_prog_4_method_4_97) (by decide) (by decide) k) ?_
  show OwnGo p e below _ (T75.setTop (mkF m 116 #[.val (.ref aPARTIAL), .val (.int (1 : Int32)), .val (.ref a3)] [(.ref aSAME_SITE_RELATED)]))
  obtain ⟨fs, hr, hrun, hended, hEnd⟩ := Jvm.Stand.leaveW (s := s) (vm₁ := T69.vm) X75 hS69 (by rw [e75]; exact kk69) (v := some (.ref aSAME_SITE_RELATED)) (fun h => by rw [Bd.returns] at h; cases h)
  refine ⟨_, _, retOut X75 hx Bd.returns rfl (Or.inr (Or.inr (Or.inr (Or.inr ⟨rfl, rfl, rfl⟩)))) (hb hby d_prog_4_method_4_116) hr, hrun, hended, _, _, rfl, ?_, own_monoW hEnd (by decide) (by decide)⟩
  show Q_of21 Z aIDENTICAL aCONTAINMENT aPARTIAL aA_TO_B aB_TO_A aBOTH aNONE aMIRROR aTEMPLATE_OR_PLAGIARISM aARCHIVE_PAGE aLINK_LIST_PART aSAME_SITE_RELATED aCITATION_OR_SPAM aSHARED_TEXT_OR_PLAGIARISM aSW kSW a3 h0 n0 _ T75.heap _
  rw [e75]
  exact ⟨rfl, N73, (((Keep.refl _ []).ext E66).ext E69)⟩
theorem pd_Lcom_example_page_copy_finder_pagecopyfinder_copies_PairKind__Z_Lcom_example_page_copy_finder_pagecopyfinder_copies_PairLinks___Lcom_example_page_copy_finder_pagecopyfinder_copies_PairLabel_ : parseMethodDescriptor "(Lcom/example/page_copy_finder/pagecopyfinder/copies/PairKind;ZLcom/example/page_copy_finder/pagecopyfinder/copies/PairLinks;)Lcom/example/page_copy_finder/pagecopyfinder/copies/PairLabel;" = some ⟨[(.object "com/example/page_copy_finder/pagecopyfinder/copies/PairKind"), .boolean, (.object "com/example/page_copy_finder/pagecopyfinder/copies/PairLinks")], some (.object "com/example/page_copy_finder/pagecopyfinder/copies/PairLabel")⟩ := by decide +kernel
theorem pn_com_example_page_copy_finder_pagecopyfinder_copies_PairLabelOfPinLaw : plainName "com/example/page_copy_finder/pagecopyfinder/copies/PairLabelOfPinLaw" = true := by first | (simp [plainName, overriddenIn]; done) | decide +kernel
def Q_law (Z : State) (aIDENTICAL aCONTAINMENT aPARTIAL aA_TO_B aB_TO_A aBOTH aNONE aMIRROR aTEMPLATE_OR_PLAGIARISM aARCHIVE_PAGE aLINK_LIST_PART aSAME_SITE_RELATED aCITATION_OR_SPAM aSHARED_TEXT_OR_PLAGIARISM aSW : Addr) (kSW : ClassId) (p1 : Int32) (p2 : Int32) (p3 : Int32) (h0 : Heap) (n0 : Nat) (v : Option Value) (h : Heap) (L : List Loc) : Prop := v = some (.int (1 : Int32)) ∧ Fr n0 L
theorem ef_law (m : MethodId) (x0 : Int32) (x1 : Int32) (x2 : Int32) : entryFrame m #[(.int x0), (.int x1), (.int x2)] maxLocals = mkF m 0 #[.val (.int x0), .val (.int x1), .val (.int x2), .unset, .unset, .unset, .unset, .unset, .unset, .unset] [] := by first | (simp [entryFrame, mkF, argsToLocals, Value.category, maxLocals]; done) | rfl
set_option maxRecDepth 65536 in
set_option maxHeartbeats 40000000 in
theorem rm_law (l : Launch) (Z : State) (a0 : Array Value) (hw : ∀ d ∈ tables_1, d.before a0 Z = true) (ws : List Jvm.Cond) (aIDENTICAL aCONTAINMENT aPARTIAL aA_TO_B aB_TO_A aBOTH aNONE aMIRROR aTEMPLATE_OR_PLAGIARISM aARCHIVE_PAGE aLINK_LIST_PART aSAME_SITE_RELATED aCITATION_OR_SPAM aSHARED_TEXT_OR_PLAGIARISM aSW : Addr) (kSW : ClassId) (F0 : OwnFacts Z aIDENTICAL aCONTAINMENT aPARTIAL aA_TO_B aB_TO_A aBOTH aNONE aMIRROR aTEMPLATE_OR_PLAGIARISM aARCHIVE_PAGE aLINK_LIST_PART aSAME_SITE_RELATED aCITATION_OR_SPAM aSHARED_TEXT_OR_PLAGIARISM aSW kSW) (p1 : Int32) (p2 : Int32) (p3 : Int32) (h0 : Heap) (n0 : Nat) (O0 : Old Z n0 h0) :
    MetFree l x (head1 (Jvm.Cond.code x code maxLocals ret :: ws) room_1) (fun a U => a = #[(.int p1), (.int p2), (.int p3)] ∧ Z.Warmed39 U.vm ∧ U.heap = h0) (fun _ _ _ _ _ => True) (fun _ U o U' => ∃ v L, o = .returned v ∧ Q_law Z aIDENTICAL aCONTAINMENT aPARTIAL aA_TO_B aB_TO_A aBOTH aNONE aMIRROR aTEMPLATE_OR_PLAGIARISM aARCHIVE_PAGE aLINK_LIST_PART aSAME_SITE_RELATED aCITATION_OR_SPAM aSHARED_TEXT_OR_PLAGIARISM aSW kSW p1 p2 p3 h0 n0 v U'.heap L ∧ ReturnedEndW U o U' L 7 58) := by
  refine MetFree.of_bodySF (plainFor_of_name pn_com_example_page_copy_finder_pagecopyfinder_copies_PairLabelOfPinLaw) hisR ?_
  intro p e s m args below meth c s₁ Bd hml0 hP hK
  obtain ⟨rfl, hZ, hh⟩ := hP
  have hx := Bd.exec
  have hby := Bd.bytes
  have hml : c.maxLocals = 10 := hml0
  have hown : s.vm.findClass "com/example/page_copy_finder/pagecopyfinder/copies/PairLabelOfPinLaw" = some m.cls := findClass_of_methodNamed Bd.named
  have hnm := (name_of_methodNamed Bd.named Bd.method).1
  have X0 : Stand p l e room_1 s m #[(.int p1), (.int p2), (.int p3)] below meth c s₁ [] 0 0 := Stand.of_body Bd
  have e0 : s₁.heap = h0 := by rw [← hh, Bd.state]; rfl
  have N0 := Fr.nil n0
  refine own_go (Q := fun o U' => ∃ v L, o = .returned v ∧ Q_law Z aIDENTICAL aCONTAINMENT aPARTIAL aA_TO_B aB_TO_A aBOTH aNONE aMIRROR aTEMPLATE_OR_PLAGIARISM aARCHIVE_PAGE aLINK_LIST_PART aSAME_SITE_RELATED aCITATION_OR_SPAM aSHARED_TEXT_OR_PLAGIARISM aSW kSW p1 p2 p3 h0 n0 v U'.heap L ∧ ReturnedEndW s o U' L 7 58) (fun t k => castTop (ef_law m p1 p2 p3) k) ?_
  have wS : ∀ a ∈ Bundle.stringAtoms, a.before a0 Z = true := by
    intro a ha
    simp only [Bundle.stringAtoms, List.mem_cons, List.not_mem_nil, or_false] at ha
    rcases ha with rfl | rfl | rfl | rfl | rfl | rfl | rfl
    · exact (hw _ (List.mem_of_getElem? (i := 45) rfl))
    · exact (hw _ (List.mem_of_getElem? (i := 46) rfl))
    · exact (hw _ (List.mem_of_getElem? (i := 47) rfl))
    · exact (hw _ (List.mem_of_getElem? (i := 48) rfl))
    · exact (hw _ (List.mem_of_getElem? (i := 49) rfl))
    · exact (hw _ (List.mem_of_getElem? (i := 50) rfl))
    · exact (hw _ (List.mem_of_getElem? (i := 51) rfl))
  show OwnGo p e below _ (s₁.setTop (mkF m 0 #[.val (.int p1), .val (.int p2), .val (.int p3), .unset, .unset, .unset, .unset, .unset, .unset, .unset] []))
  refine own_go (fun _ k => XS.iconst X0.here hx rfl (hb hby at_0) k) ?_
  show OwnGo p e below _ (s₁.setTop (mkF m 1 #[.val (.int p1), .val (.int p2), .val (.int p3), .unset, .unset, .unset, .unset, .unset, .unset, .unset] [(.int (3 : Int32))]))
  obtain ⟨T76, h76, k76, X76, e76, E76, A76, B76, st76⟩ := newR X0 hx hZ hown (hw _ (List.mem_of_getElem? (i := 0) rfl)) (hw _ (List.mem_of_getElem? (i := 1) rfl)) e0 (g := (mkF m 1 #[.val (.int p1), .val (.int p2), .val (.int p3), .unset, .unset, .unset, .unset, .unset, .unset, .unset] [(.int (3 : Int32))])) rfl (hb hby at_1) rfl (by decide) (cap := 3) (by decide) (by decide) (by decide) (by decide)
  obtain ⟨a76, g76⟩ : ∃ z, z = h0.size := ⟨_, rfl⟩
  rw [← g76] at A76 st76
  have ge76 : n0 ≤ a76 := Nat.le_trans (own_sz O0) (Nat.le_of_eq g76.symm)
  have gh76 : h0.size ≤ a76 := Nat.le_trans (Nat.le_refl _) (Nat.le_of_eq g76.symm)
  have O76 := O0.ext E76
  have z77 : h0.size ≤ h76.size := Nat.le_trans (Nat.le_refl _) E76.1
  have V76 : Arv Z h76 a76 k76 (.object "com/example/page_copy_finder/pagecopyfinder/copies/PairKind") (3 : Int32) [.null, .null, .null] .null := (Arv.new A76 (by decide)).pad (pad_rep [] _ 3)
  refine own_go st76 ?_
  show OwnGo p e below _ (T76.setTop (mkF m 4 #[.val (.int p1), .val (.int p2), .val (.int p3), .unset, .unset, .unset, .unset, .unset, .unset, .unset] [(.ref a76)]))
  refine own_go (fun _ k => XS.dup X76.here hx rfl (hb hby at_4) rfl rfl k) ?_
  show OwnGo p e below _ (T76.setTop (mkF m 5 #[.val (.int p1), .val (.int p2), .val (.int p3), .unset, .unset, .unset, .unset, .unset, .unset, .unset] [(.ref a76), (.ref a76)]))
  refine own_go (fun _ k => XS.iconst X76.here hx rfl (hb hby at_5) k) ?_
  show OwnGo p e below _ (T76.setTop (mkF m 6 #[.val (.int p1), .val (.int p2), .val (.int p3), .unset, .unset, .unset, .unset, .unset, .unset, .unset] [(.int (0 : Int32)), (.ref a76), (.ref a76)]))
  obtain ⟨T78, X78, e78, st78⟩ := getS X76 hx hZ hown (host := "") (hw _ (List.mem_of_getElem? (i := 2) rfl)) Via.refl e76 (F0.1.ext O76.2) (g := (mkF m 6 #[.val (.int p1), .val (.int p2), .val (.int p3), .unset, .unset, .unset, .unset, .unset, .unset, .unset] [(.int (0 : Int32)), (.ref a76), (.ref a76)])) rfl (hb hby at_6)
  refine own_go st78 ?_
  show OwnGo p e below _ (T78.setTop (mkF m 9 #[.val (.int p1), .val (.int p2), .val (.int p3), .unset, .unset, .unset, .unset, .unset, .unset, .unset] [(.ref aIDENTICAL), (.int (0 : Int32)), (.ref a76), (.ref a76)]))
  obtain ⟨c79, Ar79, q79, S79, M79, H79, G79⟩ := (id V76)
  obtain ⟨T79, h79, X79, e79, W79, st79⟩ := stR X78 hx hZ e78 Ar79 (j := (0 : Int32)) (v := (.ref aIDENTICAL)) (inb_of S79 ⟨by decide, by decide⟩) rfl (Sto.ofV Ar79 q79 B76 (Ins.self (F0.2.1.ext O76.2))) (g := (mkF m 9 #[.val (.int p1), .val (.int p2), .val (.int p3), .unset, .unset, .unset, .unset, .unset, .unset, .unset] [(.ref aIDENTICAL), (.int (0 : Int32)), (.ref a76), (.ref a76)])) rfl rfl (hb hby at_9)
  have N79 := Fr.snoc X79 N0 ge76
  have O79 := O76.wr W79 ge76
  have z80 : h0.size ≤ h79.size := Nat.le_trans z77 (Nat.le_of_eq W79.size.symm)
  have V79 : Arv Z h79 a76 k76 (.object "com/example/page_copy_finder/pagecopyfinder/copies/PairKind") (3 : Int32) [(.ref aIDENTICAL), .null, .null] .null := Arv.set Ar79 q79 S79 M79 H79 G79 rfl W79 0 (by decide) (Nat.le_of_ble_eq_true rfl)
  refine own_go st79 ?_
  show OwnGo p e below _ (T79.setTop (mkF m 10 #[.val (.int p1), .val (.int p2), .val (.int p3), .unset, .unset, .unset, .unset, .unset, .unset, .unset] [(.ref a76)]))
  refine own_go (fun _ k => XS.dup X79.here hx rfl (hb hby at_10) rfl rfl k) ?_
  show OwnGo p e below _ (T79.setTop (mkF m 11 #[.val (.int p1), .val (.int p2), .val (.int p3), .unset, .unset, .unset, .unset, .unset, .unset, .unset] [(.ref a76), (.ref a76)]))
  refine own_go (fun _ k => XS.iconst X79.here hx rfl (hb hby at_11) k) ?_
  show OwnGo p e below _ (T79.setTop (mkF m 12 #[.val (.int p1), .val (.int p2), .val (.int p3), .unset, .unset, .unset, .unset, .unset, .unset, .unset] [(.int (1 : Int32)), (.ref a76), (.ref a76)]))
  obtain ⟨T81, X81, e81, st81⟩ := getS X79 hx hZ hown (host := "") (hw _ (List.mem_of_getElem? (i := 6) rfl)) Via.refl e79 (F0.2.2.1.ext O79.2) (g := (mkF m 12 #[.val (.int p1), .val (.int p2), .val (.int p3), .unset, .unset, .unset, .unset, .unset, .unset, .unset] [(.int (1 : Int32)), (.ref a76), (.ref a76)])) rfl (hb hby at_12)
  refine own_go st81 ?_
  show OwnGo p e below _ (T81.setTop (mkF m 15 #[.val (.int p1), .val (.int p2), .val (.int p3), .unset, .unset, .unset, .unset, .unset, .unset, .unset] [(.ref aCONTAINMENT), (.int (1 : Int32)), (.ref a76), (.ref a76)]))
  obtain ⟨c82, Ar82, q82, S82, M82, H82, G82⟩ := (id V79)
  obtain ⟨T82, h82, X82, e82, W82, st82⟩ := stR X81 hx hZ e81 Ar82 (j := (1 : Int32)) (v := (.ref aCONTAINMENT)) (inb_of S82 ⟨by decide, by decide⟩) rfl (Sto.ofV Ar82 q82 B76 (Ins.self (F0.2.2.2.1.ext O79.2))) (g := (mkF m 15 #[.val (.int p1), .val (.int p2), .val (.int p3), .unset, .unset, .unset, .unset, .unset, .unset, .unset] [(.ref aCONTAINMENT), (.int (1 : Int32)), (.ref a76), (.ref a76)])) rfl rfl (hb hby at_15)
  have N82 := Fr.snoc X82 N79 ge76
  have O82 := O79.wr W82 ge76
  have z83 : h0.size ≤ h82.size := Nat.le_trans z80 (Nat.le_of_eq W82.size.symm)
  have V82 : Arv Z h82 a76 k76 (.object "com/example/page_copy_finder/pagecopyfinder/copies/PairKind") (3 : Int32) [(.ref aIDENTICAL), (.ref aCONTAINMENT), .null] .null := Arv.set Ar82 q82 S82 M82 H82 G82 rfl W82 1 (by decide) (Nat.le_of_ble_eq_true rfl)
  refine own_go st82 ?_
  show OwnGo p e below _ (T82.setTop (mkF m 16 #[.val (.int p1), .val (.int p2), .val (.int p3), .unset, .unset, .unset, .unset, .unset, .unset, .unset] [(.ref a76)]))
  refine own_go (fun _ k => XS.dup X82.here hx rfl (hb hby at_16) rfl rfl k) ?_
  show OwnGo p e below _ (T82.setTop (mkF m 17 #[.val (.int p1), .val (.int p2), .val (.int p3), .unset, .unset, .unset, .unset, .unset, .unset, .unset] [(.ref a76), (.ref a76)]))
  refine own_go (fun _ k => XS.iconst X82.here hx rfl (hb hby at_17) k) ?_
  show OwnGo p e below _ (T82.setTop (mkF m 18 #[.val (.int p1), .val (.int p2), .val (.int p3), .unset, .unset, .unset, .unset, .unset, .unset, .unset] [(.int (2 : Int32)), (.ref a76), (.ref a76)]))
  obtain ⟨T84, X84, e84, st84⟩ := getS X82 hx hZ hown (host := "") (hw _ (List.mem_of_getElem? (i := 8) rfl)) Via.refl e82 (F0.2.2.2.2.1.ext O82.2) (g := (mkF m 18 #[.val (.int p1), .val (.int p2), .val (.int p3), .unset, .unset, .unset, .unset, .unset, .unset, .unset] [(.int (2 : Int32)), (.ref a76), (.ref a76)])) rfl (hb hby at_18)
  refine own_go st84 ?_
  show OwnGo p e below _ (T84.setTop (mkF m 21 #[.val (.int p1), .val (.int p2), .val (.int p3), .unset, .unset, .unset, .unset, .unset, .unset, .unset] [(.ref aPARTIAL), (.int (2 : Int32)), (.ref a76), (.ref a76)]))
  obtain ⟨c85, Ar85, q85, S85, M85, H85, G85⟩ := (id V82)
  obtain ⟨T85, h85, X85, e85, W85, st85⟩ := stR X84 hx hZ e84 Ar85 (j := (2 : Int32)) (v := (.ref aPARTIAL)) (inb_of S85 ⟨by decide, by decide⟩) rfl (Sto.ofV Ar85 q85 B76 (Ins.self (F0.2.2.2.2.2.1.ext O82.2))) (g := (mkF m 21 #[.val (.int p1), .val (.int p2), .val (.int p3), .unset, .unset, .unset, .unset, .unset, .unset, .unset] [(.ref aPARTIAL), (.int (2 : Int32)), (.ref a76), (.ref a76)])) rfl rfl (hb hby at_21)
  have N85 := Fr.snoc X85 N82 ge76
  have O85 := O82.wr W85 ge76
  have z86 : h0.size ≤ h85.size := Nat.le_trans z83 (Nat.le_of_eq W85.size.symm)
  have V85 : Arv Z h85 a76 k76 (.object "com/example/page_copy_finder/pagecopyfinder/copies/PairKind") (3 : Int32) [(.ref aIDENTICAL), (.ref aCONTAINMENT), (.ref aPARTIAL)] .null := Arv.set Ar85 q85 S85 M85 H85 G85 rfl W85 2 (by decide) (Nat.le_of_ble_eq_true rfl)
  refine own_go st85 ?_
  show OwnGo p e below _ (T85.setTop (mkF m 22 #[.val (.int p1), .val (.int p2), .val (.int p3), .unset, .unset, .unset, .unset, .unset, .unset, .unset] [(.ref a76)]))
  refine own_go (fun _ k => XS.astoreN X85.here hx rfl (hb hby at_22) rfl rfl (l' := #[.val (.int p1), .val (.int p2), .val (.int p3), .val (.ref a76), .unset, .unset, .unset, .unset, .unset, .unset]) rfl k) ?_
  show OwnGo p e below _ (T85.setTop (mkF m 23 #[.val (.int p1), .val (.int p2), .val (.int p3), .val (.ref a76), .unset, .unset, .unset, .unset, .unset, .unset] []))
  refine own_go (fun _ k => XS.iconst X85.here hx rfl (hb hby at_23) k) ?_
  show OwnGo p e below _ (T85.setTop (mkF m 24 #[.val (.int p1), .val (.int p2), .val (.int p3), .val (.ref a76), .unset, .unset, .unset, .unset, .unset, .unset] [(.int (4 : Int32))]))
  obtain ⟨T87, h87, k87, X87, e87, E87, A87, B87, st87⟩ := newR X85 hx hZ hown (hw _ (List.mem_of_getElem? (i := 10) rfl)) (hw _ (List.mem_of_getElem? (i := 11) rfl)) e85 (g := (mkF m 24 #[.val (.int p1), .val (.int p2), .val (.int p3), .val (.ref a76), .unset, .unset, .unset, .unset, .unset, .unset] [(.int (4 : Int32))])) rfl (hb hby at_24) rfl (by decide) (cap := 4) (by decide) (by decide) (by decide) (by decide)
  obtain ⟨a87, g87⟩ : ∃ z, z = h85.size := ⟨_, rfl⟩
  rw [← g87] at A87 st87
  have ge87 : n0 ≤ a87 := Nat.le_trans (own_sz O85) (Nat.le_of_eq g87.symm)
  have gh87 : h0.size ≤ a87 := Nat.le_trans z86 (Nat.le_of_eq g87.symm)
  have ne88 : a76 ≠ a87 := own_newne g87 V85.lt
  have O87 := O85.ext E87
  have z89 : h0.size ≤ h87.size := Nat.le_trans z86 E87.1
  have V87 : Arv Z h87 a87 k87 (.object "com/example/page_copy_finder/pagecopyfinder/copies/PairLinks") (4 : Int32) [.null, .null, .null, .null] .null := (Arv.new A87 (by decide)).pad (pad_rep [] _ 4)
  refine own_go st87 ?_
  show OwnGo p e below _ (T87.setTop (mkF m 27 #[.val (.int p1), .val (.int p2), .val (.int p3), .val (.ref a76), .unset, .unset, .unset, .unset, .unset, .unset] [(.ref a87)]))
  refine own_go (fun _ k => XS.dup X87.here hx rfl (hb hby at_27) rfl rfl k) ?_
  show OwnGo p e below _ (T87.setTop (mkF m 28 #[.val (.int p1), .val (.int p2), .val (.int p3), .val (.ref a76), .unset, .unset, .unset, .unset, .unset, .unset] [(.ref a87), (.ref a87)]))
  refine own_go (fun _ k => XS.iconst X87.here hx rfl (hb hby at_28) k) ?_
  show OwnGo p e below _ (T87.setTop (mkF m 29 #[.val (.int p1), .val (.int p2), .val (.int p3), .val (.ref a76), .unset, .unset, .unset, .unset, .unset, .unset] [(.int (0 : Int32)), (.ref a87), (.ref a87)]))
  obtain ⟨T90, X90, e90, st90⟩ := getS X87 hx hZ hown (host := "") (hw _ (List.mem_of_getElem? (i := 12) rfl)) Via.refl e87 (F0.2.2.2.2.2.2.1.ext O87.2) (g := (mkF m 29 #[.val (.int p1), .val (.int p2), .val (.int p3), .val (.ref a76), .unset, .unset, .unset, .unset, .unset, .unset] [(.int (0 : Int32)), (.ref a87), (.ref a87)])) rfl (hb hby at_29)
  refine own_go st90 ?_
  show OwnGo p e below _ (T90.setTop (mkF m 32 #[.val (.int p1), .val (.int p2), .val (.int p3), .val (.ref a76), .unset, .unset, .unset, .unset, .unset, .unset] [(.ref aA_TO_B), (.int (0 : Int32)), (.ref a87), (.ref a87)]))
  obtain ⟨c91, Ar91, q91, S91, M91, H91, G91⟩ := (id V87)
  obtain ⟨T91, h91, X91, e91, W91, st91⟩ := stR X90 hx hZ e90 Ar91 (j := (0 : Int32)) (v := (.ref aA_TO_B)) (inb_of S91 ⟨by decide, by decide⟩) rfl (Sto.ofV Ar91 q91 B87 (Ins.self (F0.2.2.2.2.2.2.2.1.ext O87.2))) (g := (mkF m 32 #[.val (.int p1), .val (.int p2), .val (.int p3), .val (.ref a76), .unset, .unset, .unset, .unset, .unset, .unset] [(.ref aA_TO_B), (.int (0 : Int32)), (.ref a87), (.ref a87)])) rfl rfl (hb hby at_32)
  have N91 := Fr.snoc X91 N85 ge87
  have O91 := O87.wr W91 ge87
  have z92 : h0.size ≤ h91.size := Nat.le_trans z89 (Nat.le_of_eq W91.size.symm)
  have V91 : Arv Z h91 a87 k87 (.object "com/example/page_copy_finder/pagecopyfinder/copies/PairLinks") (4 : Int32) [(.ref aA_TO_B), .null, .null, .null] .null := Arv.set Ar91 q91 S91 M91 H91 G91 rfl W91 0 (by decide) (Nat.le_of_ble_eq_true rfl)
  refine own_go st91 ?_
  show OwnGo p e below _ (T91.setTop (mkF m 33 #[.val (.int p1), .val (.int p2), .val (.int p3), .val (.ref a76), .unset, .unset, .unset, .unset, .unset, .unset] [(.ref a87)]))
  refine own_go (fun _ k => XS.dup X91.here hx rfl (hb hby at_33) rfl rfl k) ?_
  show OwnGo p e below _ (T91.setTop (mkF m 34 #[.val (.int p1), .val (.int p2), .val (.int p3), .val (.ref a76), .unset, .unset, .unset, .unset, .unset, .unset] [(.ref a87), (.ref a87)]))
  refine own_go (fun _ k => XS.iconst X91.here hx rfl (hb hby at_34) k) ?_
  show OwnGo p e below _ (T91.setTop (mkF m 35 #[.val (.int p1), .val (.int p2), .val (.int p3), .val (.ref a76), .unset, .unset, .unset, .unset, .unset, .unset] [(.int (1 : Int32)), (.ref a87), (.ref a87)]))
  obtain ⟨T93, X93, e93, st93⟩ := getS X91 hx hZ hown (host := "") (hw _ (List.mem_of_getElem? (i := 16) rfl)) Via.refl e91 (F0.2.2.2.2.2.2.2.2.1.ext O91.2) (g := (mkF m 35 #[.val (.int p1), .val (.int p2), .val (.int p3), .val (.ref a76), .unset, .unset, .unset, .unset, .unset, .unset] [(.int (1 : Int32)), (.ref a87), (.ref a87)])) rfl (hb hby at_35)
  refine own_go st93 ?_
  show OwnGo p e below _ (T93.setTop (mkF m 38 #[.val (.int p1), .val (.int p2), .val (.int p3), .val (.ref a76), .unset, .unset, .unset, .unset, .unset, .unset] [(.ref aB_TO_A), (.int (1 : Int32)), (.ref a87), (.ref a87)]))
  obtain ⟨c94, Ar94, q94, S94, M94, H94, G94⟩ := (id V91)
  obtain ⟨T94, h94, X94, e94, W94, st94⟩ := stR X93 hx hZ e93 Ar94 (j := (1 : Int32)) (v := (.ref aB_TO_A)) (inb_of S94 ⟨by decide, by decide⟩) rfl (Sto.ofV Ar94 q94 B87 (Ins.self (F0.2.2.2.2.2.2.2.2.2.1.ext O91.2))) (g := (mkF m 38 #[.val (.int p1), .val (.int p2), .val (.int p3), .val (.ref a76), .unset, .unset, .unset, .unset, .unset, .unset] [(.ref aB_TO_A), (.int (1 : Int32)), (.ref a87), (.ref a87)])) rfl rfl (hb hby at_38)
  have N94 := Fr.snoc X94 N91 ge87
  have O94 := O91.wr W94 ge87
  have z95 : h0.size ≤ h94.size := Nat.le_trans z92 (Nat.le_of_eq W94.size.symm)
  have V94 : Arv Z h94 a87 k87 (.object "com/example/page_copy_finder/pagecopyfinder/copies/PairLinks") (4 : Int32) [(.ref aA_TO_B), (.ref aB_TO_A), .null, .null] .null := Arv.set Ar94 q94 S94 M94 H94 G94 rfl W94 1 (by decide) (Nat.le_of_ble_eq_true rfl)
  refine own_go st94 ?_
  show OwnGo p e below _ (T94.setTop (mkF m 39 #[.val (.int p1), .val (.int p2), .val (.int p3), .val (.ref a76), .unset, .unset, .unset, .unset, .unset, .unset] [(.ref a87)]))
  refine own_go (fun _ k => XS.dup X94.here hx rfl (hb hby at_39) rfl rfl k) ?_
  show OwnGo p e below _ (T94.setTop (mkF m 40 #[.val (.int p1), .val (.int p2), .val (.int p3), .val (.ref a76), .unset, .unset, .unset, .unset, .unset, .unset] [(.ref a87), (.ref a87)]))
  refine own_go (fun _ k => XS.iconst X94.here hx rfl (hb hby at_40) k) ?_
  show OwnGo p e below _ (T94.setTop (mkF m 41 #[.val (.int p1), .val (.int p2), .val (.int p3), .val (.ref a76), .unset, .unset, .unset, .unset, .unset, .unset] [(.int (2 : Int32)), (.ref a87), (.ref a87)]))
  obtain ⟨T96, X96, e96, st96⟩ := getS X94 hx hZ hown (host := "") (hw _ (List.mem_of_getElem? (i := 18) rfl)) Via.refl e94 (F0.2.2.2.2.2.2.2.2.2.2.1.ext O94.2) (g := (mkF m 41 #[.val (.int p1), .val (.int p2), .val (.int p3), .val (.ref a76), .unset, .unset, .unset, .unset, .unset, .unset] [(.int (2 : Int32)), (.ref a87), (.ref a87)])) rfl (hb hby at_41)
  refine own_go st96 ?_
  show OwnGo p e below _ (T96.setTop (mkF m 44 #[.val (.int p1), .val (.int p2), .val (.int p3), .val (.ref a76), .unset, .unset, .unset, .unset, .unset, .unset] [(.ref aBOTH), (.int (2 : Int32)), (.ref a87), (.ref a87)]))
  obtain ⟨c97, Ar97, q97, S97, M97, H97, G97⟩ := (id V94)
  obtain ⟨T97, h97, X97, e97, W97, st97⟩ := stR X96 hx hZ e96 Ar97 (j := (2 : Int32)) (v := (.ref aBOTH)) (inb_of S97 ⟨by decide, by decide⟩) rfl (Sto.ofV Ar97 q97 B87 (Ins.self (F0.2.2.2.2.2.2.2.2.2.2.2.1.ext O94.2))) (g := (mkF m 44 #[.val (.int p1), .val (.int p2), .val (.int p3), .val (.ref a76), .unset, .unset, .unset, .unset, .unset, .unset] [(.ref aBOTH), (.int (2 : Int32)), (.ref a87), (.ref a87)])) rfl rfl (hb hby at_44)
  have N97 := Fr.snoc X97 N94 ge87
  have O97 := O94.wr W97 ge87
  have z98 : h0.size ≤ h97.size := Nat.le_trans z95 (Nat.le_of_eq W97.size.symm)
  have V97 : Arv Z h97 a87 k87 (.object "com/example/page_copy_finder/pagecopyfinder/copies/PairLinks") (4 : Int32) [(.ref aA_TO_B), (.ref aB_TO_A), (.ref aBOTH), .null] .null := Arv.set Ar97 q97 S97 M97 H97 G97 rfl W97 2 (by decide) (Nat.le_of_ble_eq_true rfl)
  refine own_go st97 ?_
  show OwnGo p e below _ (T97.setTop (mkF m 45 #[.val (.int p1), .val (.int p2), .val (.int p3), .val (.ref a76), .unset, .unset, .unset, .unset, .unset, .unset] [(.ref a87)]))
  refine own_go (fun _ k => XS.dup X97.here hx rfl (hb hby at_45) rfl rfl k) ?_
  show OwnGo p e below _ (T97.setTop (mkF m 46 #[.val (.int p1), .val (.int p2), .val (.int p3), .val (.ref a76), .unset, .unset, .unset, .unset, .unset, .unset] [(.ref a87), (.ref a87)]))
  refine own_go (fun _ k => XS.iconst X97.here hx rfl (hb hby at_46) k) ?_
  show OwnGo p e below _ (T97.setTop (mkF m 47 #[.val (.int p1), .val (.int p2), .val (.int p3), .val (.ref a76), .unset, .unset, .unset, .unset, .unset, .unset] [(.int (3 : Int32)), (.ref a87), (.ref a87)]))
  obtain ⟨T99, X99, e99, st99⟩ := getS X97 hx hZ hown (host := "") (hw _ (List.mem_of_getElem? (i := 20) rfl)) Via.refl e97 (F0.2.2.2.2.2.2.2.2.2.2.2.2.1.ext O97.2) (g := (mkF m 47 #[.val (.int p1), .val (.int p2), .val (.int p3), .val (.ref a76), .unset, .unset, .unset, .unset, .unset, .unset] [(.int (3 : Int32)), (.ref a87), (.ref a87)])) rfl (hb hby at_47)
  refine own_go st99 ?_
  show OwnGo p e below _ (T99.setTop (mkF m 50 #[.val (.int p1), .val (.int p2), .val (.int p3), .val (.ref a76), .unset, .unset, .unset, .unset, .unset, .unset] [(.ref aNONE), (.int (3 : Int32)), (.ref a87), (.ref a87)]))
  obtain ⟨c100, Ar100, q100, S100, M100, H100, G100⟩ := (id V97)
  obtain ⟨T100, h100, X100, e100, W100, st100⟩ := stR X99 hx hZ e99 Ar100 (j := (3 : Int32)) (v := (.ref aNONE)) (inb_of S100 ⟨by decide, by decide⟩) rfl (Sto.ofV Ar100 q100 B87 (Ins.self (F0.2.2.2.2.2.2.2.2.2.2.2.2.2.1.ext O97.2))) (g := (mkF m 50 #[.val (.int p1), .val (.int p2), .val (.int p3), .val (.ref a76), .unset, .unset, .unset, .unset, .unset, .unset] [(.ref aNONE), (.int (3 : Int32)), (.ref a87), (.ref a87)])) rfl rfl (hb hby at_50)
  have N100 := Fr.snoc X100 N97 ge87
  have O100 := O97.wr W100 ge87
  have z101 : h0.size ≤ h100.size := Nat.le_trans z98 (Nat.le_of_eq W100.size.symm)
  have V100 : Arv Z h100 a87 k87 (.object "com/example/page_copy_finder/pagecopyfinder/copies/PairLinks") (4 : Int32) [(.ref aA_TO_B), (.ref aB_TO_A), (.ref aBOTH), (.ref aNONE)] .null := Arv.set Ar100 q100 S100 M100 H100 G100 rfl W100 3 (by decide) (Nat.le_of_ble_eq_true rfl)
  refine own_go st100 ?_
  show OwnGo p e below _ (T100.setTop (mkF m 51 #[.val (.int p1), .val (.int p2), .val (.int p3), .val (.ref a76), .unset, .unset, .unset, .unset, .unset, .unset] [(.ref a87)]))
  refine own_go (fun _ k => XS.astore X100.here hx rfl (hb hby at_51) rfl rfl (l' := #[.val (.int p1), .val (.int p2), .val (.int p3), .val (.ref a76), .val (.ref a87), .unset, .unset, .unset, .unset, .unset]) rfl k) ?_
  show OwnGo p e below _ (T100.setTop (mkF m 53 #[.val (.int p1), .val (.int p2), .val (.int p3), .val (.ref a76), .val (.ref a87), .unset, .unset, .unset, .unset, .unset] []))
  refine own_go (fun _ k => XS.bipush X100.here hx rfl (hb hby at_53) k) ?_
  show OwnGo p e below _ (T100.setTop (mkF m 55 #[.val (.int p1), .val (.int p2), .val (.int p3), .val (.ref a76), .val (.ref a87), .unset, .unset, .unset, .unset, .unset] [(.int (7 : Int32))]))
  obtain ⟨T102, h102, k102, X102, e102, E102, A102, B102, st102⟩ := newR X100 hx hZ hown (hw _ (List.mem_of_getElem? (i := 22) rfl)) (hw _ (List.mem_of_getElem? (i := 23) rfl)) e100 (g := (mkF m 55 #[.val (.int p1), .val (.int p2), .val (.int p3), .val (.ref a76), .val (.ref a87), .unset, .unset, .unset, .unset, .unset] [(.int (7 : Int32))])) rfl (hb hby at_55) rfl (by decide) (cap := 7) (by decide) (by decide) (by decide) (by decide)
  obtain ⟨a102, g102⟩ : ∃ z, z = h100.size := ⟨_, rfl⟩
  rw [← g102] at A102 st102
  have ge102 : n0 ≤ a102 := Nat.le_trans (own_sz O100) (Nat.le_of_eq g102.symm)
  have gh102 : h0.size ≤ a102 := Nat.le_trans z101 (Nat.le_of_eq g102.symm)
  have F103 := (((((V85.ext E87).other W91 ne88).other W94 ne88).other W97 ne88).other W100 ne88)
  have ne104 : a76 ≠ a102 := own_newne g102 F103.lt
  have ne105 : a87 ≠ a102 := own_newne g102 V100.lt
  have O102 := O100.ext E102
  have z106 : h0.size ≤ h102.size := Nat.le_trans z101 E102.1
  have V102 : Arv Z h102 a102 k102 (.object "com/example/page_copy_finder/pagecopyfinder/copies/PairLabel") (7 : Int32) [.null, .null, .null, .null, .null, .null, .null] .null := (Arv.new A102 (by decide)).pad (pad_rep [] _ 7)
  refine own_go st102 ?_
  show OwnGo p e below _ (T102.setTop (mkF m 58 #[.val (.int p1), .val (.int p2), .val (.int p3), .val (.ref a76), .val (.ref a87), .unset, .unset, .unset, .unset, .unset] [(.ref a102)]))
  refine own_go (fun _ k => XS.dup X102.here hx rfl (hb hby at_58) rfl rfl k) ?_
  show OwnGo p e below _ (T102.setTop (mkF m 59 #[.val (.int p1), .val (.int p2), .val (.int p3), .val (.ref a76), .val (.ref a87), .unset, .unset, .unset, .unset, .unset] [(.ref a102), (.ref a102)]))
  refine own_go (fun _ k => XS.iconst X102.here hx rfl (hb hby at_59) k) ?_
  show OwnGo p e below _ (T102.setTop (mkF m 60 #[.val (.int p1), .val (.int p2), .val (.int p3), .val (.ref a76), .val (.ref a87), .unset, .unset, .unset, .unset, .unset] [(.int (0 : Int32)), (.ref a102), (.ref a102)]))
  obtain ⟨T107, X107, e107, st107⟩ := getS X102 hx hZ hown (host := "") (hw _ (List.mem_of_getElem? (i := 24) rfl)) Via.refl e102 (F0.2.2.2.2.2.2.2.2.2.2.2.2.2.2.1.ext O102.2) (g := (mkF m 60 #[.val (.int p1), .val (.int p2), .val (.int p3), .val (.ref a76), .val (.ref a87), .unset, .unset, .unset, .unset, .unset] [(.int (0 : Int32)), (.ref a102), (.ref a102)])) rfl (hb hby at_60)
  refine own_go st107 ?_
  show OwnGo p e below _ (T107.setTop (mkF m 63 #[.val (.int p1), .val (.int p2), .val (.int p3), .val (.ref a76), .val (.ref a87), .unset, .unset, .unset, .unset, .unset] [(.ref aMIRROR), (.int (0 : Int32)), (.ref a102), (.ref a102)]))
  obtain ⟨c108, Ar108, q108, S108, M108, H108, G108⟩ := (id V102)
  obtain ⟨T108, h108, X108, e108, W108, st108⟩ := stR X107 hx hZ e107 Ar108 (j := (0 : Int32)) (v := (.ref aMIRROR)) (inb_of S108 ⟨by decide, by decide⟩) rfl (Sto.ofV Ar108 q108 B102 (Ins.self (F0.2.2.2.2.2.2.2.2.2.2.2.2.2.2.2.1.ext O102.2))) (g := (mkF m 63 #[.val (.int p1), .val (.int p2), .val (.int p3), .val (.ref a76), .val (.ref a87), .unset, .unset, .unset, .unset, .unset] [(.ref aMIRROR), (.int (0 : Int32)), (.ref a102), (.ref a102)])) rfl rfl (hb hby at_63)
  have N108 := Fr.snoc X108 N100 ge102
  have O108 := O102.wr W108 ge102
  have z109 : h0.size ≤ h108.size := Nat.le_trans z106 (Nat.le_of_eq W108.size.symm)
  have V108 : Arv Z h108 a102 k102 (.object "com/example/page_copy_finder/pagecopyfinder/copies/PairLabel") (7 : Int32) [(.ref aMIRROR), .null, .null, .null, .null, .null, .null] .null := Arv.set Ar108 q108 S108 M108 H108 G108 rfl W108 0 (by decide) (Nat.le_of_ble_eq_true rfl)
  refine own_go st108 ?_
  show OwnGo p e below _ (T108.setTop (mkF m 64 #[.val (.int p1), .val (.int p2), .val (.int p3), .val (.ref a76), .val (.ref a87), .unset, .unset, .unset, .unset, .unset] [(.ref a102)]))
  refine own_go (fun _ k => XS.dup X108.here hx rfl (hb hby at_64) rfl rfl k) ?_
  show OwnGo p e below _ (T108.setTop (mkF m 65 #[.val (.int p1), .val (.int p2), .val (.int p3), .val (.ref a76), .val (.ref a87), .unset, .unset, .unset, .unset, .unset] [(.ref a102), (.ref a102)]))
  refine own_go (fun _ k => XS.iconst X108.here hx rfl (hb hby at_65) k) ?_
  show OwnGo p e below _ (T108.setTop (mkF m 66 #[.val (.int p1), .val (.int p2), .val (.int p3), .val (.ref a76), .val (.ref a87), .unset, .unset, .unset, .unset, .unset] [(.int (1 : Int32)), (.ref a102), (.ref a102)]))
  obtain ⟨T110, X110, e110, st110⟩ := getS X108 hx hZ hown (host := "") (hw _ (List.mem_of_getElem? (i := 28) rfl)) Via.refl e108 (F0.2.2.2.2.2.2.2.2.2.2.2.2.2.2.2.2.1.ext O108.2) (g := (mkF m 66 #[.val (.int p1), .val (.int p2), .val (.int p3), .val (.ref a76), .val (.ref a87), .unset, .unset, .unset, .unset, .unset] [(.int (1 : Int32)), (.ref a102), (.ref a102)])) rfl (hb hby at_66)
  refine own_go st110 ?_
  show OwnGo p e below _ (T110.setTop (mkF m 69 #[.val (.int p1), .val (.int p2), .val (.int p3), .val (.ref a76), .val (.ref a87), .unset, .unset, .unset, .unset, .unset] [(.ref aTEMPLATE_OR_PLAGIARISM), (.int (1 : Int32)), (.ref a102), (.ref a102)]))
  obtain ⟨c111, Ar111, q111, S111, M111, H111, G111⟩ := (id V108)
  obtain ⟨T111, h111, X111, e111, W111, st111⟩ := stR X110 hx hZ e110 Ar111 (j := (1 : Int32)) (v := (.ref aTEMPLATE_OR_PLAGIARISM)) (inb_of S111 ⟨by decide, by decide⟩) rfl (Sto.ofV Ar111 q111 B102 (Ins.self (F0.2.2.2.2.2.2.2.2.2.2.2.2.2.2.2.2.2.1.ext O108.2))) (g := (mkF m 69 #[.val (.int p1), .val (.int p2), .val (.int p3), .val (.ref a76), .val (.ref a87), .unset, .unset, .unset, .unset, .unset] [(.ref aTEMPLATE_OR_PLAGIARISM), (.int (1 : Int32)), (.ref a102), (.ref a102)])) rfl rfl (hb hby at_69)
  have N111 := Fr.snoc X111 N108 ge102
  have O111 := O108.wr W111 ge102
  have z112 : h0.size ≤ h111.size := Nat.le_trans z109 (Nat.le_of_eq W111.size.symm)
  have V111 : Arv Z h111 a102 k102 (.object "com/example/page_copy_finder/pagecopyfinder/copies/PairLabel") (7 : Int32) [(.ref aMIRROR), (.ref aTEMPLATE_OR_PLAGIARISM), .null, .null, .null, .null, .null] .null := Arv.set Ar111 q111 S111 M111 H111 G111 rfl W111 1 (by decide) (Nat.le_of_ble_eq_true rfl)
  refine own_go st111 ?_
  show OwnGo p e below _ (T111.setTop (mkF m 70 #[.val (.int p1), .val (.int p2), .val (.int p3), .val (.ref a76), .val (.ref a87), .unset, .unset, .unset, .unset, .unset] [(.ref a102)]))
  refine own_go (fun _ k => XS.dup X111.here hx rfl (hb hby at_70) rfl rfl k) ?_
  show OwnGo p e below _ (T111.setTop (mkF m 71 #[.val (.int p1), .val (.int p2), .val (.int p3), .val (.ref a76), .val (.ref a87), .unset, .unset, .unset, .unset, .unset] [(.ref a102), (.ref a102)]))
  refine own_go (fun _ k => XS.iconst X111.here hx rfl (hb hby at_71) k) ?_
  show OwnGo p e below _ (T111.setTop (mkF m 72 #[.val (.int p1), .val (.int p2), .val (.int p3), .val (.ref a76), .val (.ref a87), .unset, .unset, .unset, .unset, .unset] [(.int (2 : Int32)), (.ref a102), (.ref a102)]))
  obtain ⟨T113, X113, e113, st113⟩ := getS X111 hx hZ hown (host := "") (hw _ (List.mem_of_getElem? (i := 30) rfl)) Via.refl e111 (F0.2.2.2.2.2.2.2.2.2.2.2.2.2.2.2.2.2.2.1.ext O111.2) (g := (mkF m 72 #[.val (.int p1), .val (.int p2), .val (.int p3), .val (.ref a76), .val (.ref a87), .unset, .unset, .unset, .unset, .unset] [(.int (2 : Int32)), (.ref a102), (.ref a102)])) rfl (hb hby at_72)
  refine own_go st113 ?_
  show OwnGo p e below _ (T113.setTop (mkF m 75 #[.val (.int p1), .val (.int p2), .val (.int p3), .val (.ref a76), .val (.ref a87), .unset, .unset, .unset, .unset, .unset] [(.ref aARCHIVE_PAGE), (.int (2 : Int32)), (.ref a102), (.ref a102)]))
  obtain ⟨c114, Ar114, q114, S114, M114, H114, G114⟩ := (id V111)
  obtain ⟨T114, h114, X114, e114, W114, st114⟩ := stR X113 hx hZ e113 Ar114 (j := (2 : Int32)) (v := (.ref aARCHIVE_PAGE)) (inb_of S114 ⟨by decide, by decide⟩) rfl (Sto.ofV Ar114 q114 B102 (Ins.self (F0.2.2.2.2.2.2.2.2.2.2.2.2.2.2.2.2.2.2.2.1.ext O111.2))) (g := (mkF m 75 #[.val (.int p1), .val (.int p2), .val (.int p3), .val (.ref a76), .val (.ref a87), .unset, .unset, .unset, .unset, .unset] [(.ref aARCHIVE_PAGE), (.int (2 : Int32)), (.ref a102), (.ref a102)])) rfl rfl (hb hby at_75)
  have N114 := Fr.snoc X114 N111 ge102
  have O114 := O111.wr W114 ge102
  have z115 : h0.size ≤ h114.size := Nat.le_trans z112 (Nat.le_of_eq W114.size.symm)
  have V114 : Arv Z h114 a102 k102 (.object "com/example/page_copy_finder/pagecopyfinder/copies/PairLabel") (7 : Int32) [(.ref aMIRROR), (.ref aTEMPLATE_OR_PLAGIARISM), (.ref aARCHIVE_PAGE), .null, .null, .null, .null] .null := Arv.set Ar114 q114 S114 M114 H114 G114 rfl W114 2 (by decide) (Nat.le_of_ble_eq_true rfl)
  refine own_go st114 ?_
  show OwnGo p e below _ (T114.setTop (mkF m 76 #[.val (.int p1), .val (.int p2), .val (.int p3), .val (.ref a76), .val (.ref a87), .unset, .unset, .unset, .unset, .unset] [(.ref a102)]))
  refine own_go (fun _ k => XS.dup X114.here hx rfl (hb hby at_76) rfl rfl k) ?_
  show OwnGo p e below _ (T114.setTop (mkF m 77 #[.val (.int p1), .val (.int p2), .val (.int p3), .val (.ref a76), .val (.ref a87), .unset, .unset, .unset, .unset, .unset] [(.ref a102), (.ref a102)]))
  refine own_go (fun _ k => XS.iconst X114.here hx rfl (hb hby at_77) k) ?_
  show OwnGo p e below _ (T114.setTop (mkF m 78 #[.val (.int p1), .val (.int p2), .val (.int p3), .val (.ref a76), .val (.ref a87), .unset, .unset, .unset, .unset, .unset] [(.int (3 : Int32)), (.ref a102), (.ref a102)]))
  obtain ⟨T116, X116, e116, st116⟩ := getS X114 hx hZ hown (host := "") (hw _ (List.mem_of_getElem? (i := 32) rfl)) Via.refl e114 (F0.2.2.2.2.2.2.2.2.2.2.2.2.2.2.2.2.2.2.2.2.1.ext O114.2) (g := (mkF m 78 #[.val (.int p1), .val (.int p2), .val (.int p3), .val (.ref a76), .val (.ref a87), .unset, .unset, .unset, .unset, .unset] [(.int (3 : Int32)), (.ref a102), (.ref a102)])) rfl (hb hby at_78)
  refine own_go st116 ?_
  show OwnGo p e below _ (T116.setTop (mkF m 81 #[.val (.int p1), .val (.int p2), .val (.int p3), .val (.ref a76), .val (.ref a87), .unset, .unset, .unset, .unset, .unset] [(.ref aLINK_LIST_PART), (.int (3 : Int32)), (.ref a102), (.ref a102)]))
  obtain ⟨c117, Ar117, q117, S117, M117, H117, G117⟩ := (id V114)
  obtain ⟨T117, h117, X117, e117, W117, st117⟩ := stR X116 hx hZ e116 Ar117 (j := (3 : Int32)) (v := (.ref aLINK_LIST_PART)) (inb_of S117 ⟨by decide, by decide⟩) rfl (Sto.ofV Ar117 q117 B102 (Ins.self (F0.2.2.2.2.2.2.2.2.2.2.2.2.2.2.2.2.2.2.2.2.2.1.ext O114.2))) (g := (mkF m 81 #[.val (.int p1), .val (.int p2), .val (.int p3), .val (.ref a76), .val (.ref a87), .unset, .unset, .unset, .unset, .unset] [(.ref aLINK_LIST_PART), (.int (3 : Int32)), (.ref a102), (.ref a102)])) rfl rfl (hb hby at_81)
  have N117 := Fr.snoc X117 N114 ge102
  have O117 := O114.wr W117 ge102
  have z118 : h0.size ≤ h117.size := Nat.le_trans z115 (Nat.le_of_eq W117.size.symm)
  have V117 : Arv Z h117 a102 k102 (.object "com/example/page_copy_finder/pagecopyfinder/copies/PairLabel") (7 : Int32) [(.ref aMIRROR), (.ref aTEMPLATE_OR_PLAGIARISM), (.ref aARCHIVE_PAGE), (.ref aLINK_LIST_PART), .null, .null, .null] .null := Arv.set Ar117 q117 S117 M117 H117 G117 rfl W117 3 (by decide) (Nat.le_of_ble_eq_true rfl)
  refine own_go st117 ?_
  show OwnGo p e below _ (T117.setTop (mkF m 82 #[.val (.int p1), .val (.int p2), .val (.int p3), .val (.ref a76), .val (.ref a87), .unset, .unset, .unset, .unset, .unset] [(.ref a102)]))
  refine own_go (fun _ k => XS.dup X117.here hx rfl (hb hby at_82) rfl rfl k) ?_
  show OwnGo p e below _ (T117.setTop (mkF m 83 #[.val (.int p1), .val (.int p2), .val (.int p3), .val (.ref a76), .val (.ref a87), .unset, .unset, .unset, .unset, .unset] [(.ref a102), (.ref a102)]))
  refine own_go (fun _ k => XS.iconst X117.here hx rfl (hb hby at_83) k) ?_
  show OwnGo p e below _ (T117.setTop (mkF m 84 #[.val (.int p1), .val (.int p2), .val (.int p3), .val (.ref a76), .val (.ref a87), .unset, .unset, .unset, .unset, .unset] [(.int (4 : Int32)), (.ref a102), (.ref a102)]))
  obtain ⟨T119, X119, e119, st119⟩ := getS X117 hx hZ hown (host := "") (hw _ (List.mem_of_getElem? (i := 34) rfl)) Via.refl e117 (F0.2.2.2.2.2.2.2.2.2.2.2.2.2.2.2.2.2.2.2.2.2.2.1.ext O117.2) (g := (mkF m 84 #[.val (.int p1), .val (.int p2), .val (.int p3), .val (.ref a76), .val (.ref a87), .unset, .unset, .unset, .unset, .unset] [(.int (4 : Int32)), (.ref a102), (.ref a102)])) rfl (hb hby at_84)
  refine own_go st119 ?_
  show OwnGo p e below _ (T119.setTop (mkF m 87 #[.val (.int p1), .val (.int p2), .val (.int p3), .val (.ref a76), .val (.ref a87), .unset, .unset, .unset, .unset, .unset] [(.ref aSAME_SITE_RELATED), (.int (4 : Int32)), (.ref a102), (.ref a102)]))
  obtain ⟨c120, Ar120, q120, S120, M120, H120, G120⟩ := (id V117)
  obtain ⟨T120, h120, X120, e120, W120, st120⟩ := stR X119 hx hZ e119 Ar120 (j := (4 : Int32)) (v := (.ref aSAME_SITE_RELATED)) (inb_of S120 ⟨by decide, by decide⟩) rfl (Sto.ofV Ar120 q120 B102 (Ins.self (F0.2.2.2.2.2.2.2.2.2.2.2.2.2.2.2.2.2.2.2.2.2.2.2.1.ext O117.2))) (g := (mkF m 87 #[.val (.int p1), .val (.int p2), .val (.int p3), .val (.ref a76), .val (.ref a87), .unset, .unset, .unset, .unset, .unset] [(.ref aSAME_SITE_RELATED), (.int (4 : Int32)), (.ref a102), (.ref a102)])) rfl rfl (hb hby at_87)
  have N120 := Fr.snoc X120 N117 ge102
  have O120 := O117.wr W120 ge102
  have z121 : h0.size ≤ h120.size := Nat.le_trans z118 (Nat.le_of_eq W120.size.symm)
  have V120 : Arv Z h120 a102 k102 (.object "com/example/page_copy_finder/pagecopyfinder/copies/PairLabel") (7 : Int32) [(.ref aMIRROR), (.ref aTEMPLATE_OR_PLAGIARISM), (.ref aARCHIVE_PAGE), (.ref aLINK_LIST_PART), (.ref aSAME_SITE_RELATED), .null, .null] .null := Arv.set Ar120 q120 S120 M120 H120 G120 rfl W120 4 (by decide) (Nat.le_of_ble_eq_true rfl)
  refine own_go st120 ?_
  show OwnGo p e below _ (T120.setTop (mkF m 88 #[.val (.int p1), .val (.int p2), .val (.int p3), .val (.ref a76), .val (.ref a87), .unset, .unset, .unset, .unset, .unset] [(.ref a102)]))
  refine own_go (fun _ k => XS.dup X120.here hx rfl (hb hby at_88) rfl rfl k) ?_
  show OwnGo p e below _ (T120.setTop (mkF m 89 #[.val (.int p1), .val (.int p2), .val (.int p3), .val (.ref a76), .val (.ref a87), .unset, .unset, .unset, .unset, .unset] [(.ref a102), (.ref a102)]))
  refine own_go (fun _ k => XS.iconst X120.here hx rfl (hb hby at_89) k) ?_
  show OwnGo p e below _ (T120.setTop (mkF m 90 #[.val (.int p1), .val (.int p2), .val (.int p3), .val (.ref a76), .val (.ref a87), .unset, .unset, .unset, .unset, .unset] [(.int (5 : Int32)), (.ref a102), (.ref a102)]))
  obtain ⟨T122, X122, e122, st122⟩ := getS X120 hx hZ hown (host := "") (hw _ (List.mem_of_getElem? (i := 36) rfl)) Via.refl e120 (F0.2.2.2.2.2.2.2.2.2.2.2.2.2.2.2.2.2.2.2.2.2.2.2.2.1.ext O120.2) (g := (mkF m 90 #[.val (.int p1), .val (.int p2), .val (.int p3), .val (.ref a76), .val (.ref a87), .unset, .unset, .unset, .unset, .unset] [(.int (5 : Int32)), (.ref a102), (.ref a102)])) rfl (hb hby at_90)
  refine own_go st122 ?_
  show OwnGo p e below _ (T122.setTop (mkF m 93 #[.val (.int p1), .val (.int p2), .val (.int p3), .val (.ref a76), .val (.ref a87), .unset, .unset, .unset, .unset, .unset] [(.ref aCITATION_OR_SPAM), (.int (5 : Int32)), (.ref a102), (.ref a102)]))
  obtain ⟨c123, Ar123, q123, S123, M123, H123, G123⟩ := (id V120)
  obtain ⟨T123, h123, X123, e123, W123, st123⟩ := stR X122 hx hZ e122 Ar123 (j := (5 : Int32)) (v := (.ref aCITATION_OR_SPAM)) (inb_of S123 ⟨by decide, by decide⟩) rfl (Sto.ofV Ar123 q123 B102 (Ins.self (F0.2.2.2.2.2.2.2.2.2.2.2.2.2.2.2.2.2.2.2.2.2.2.2.2.2.1.ext O120.2))) (g := (mkF m 93 #[.val (.int p1), .val (.int p2), .val (.int p3), .val (.ref a76), .val (.ref a87), .unset, .unset, .unset, .unset, .unset] [(.ref aCITATION_OR_SPAM), (.int (5 : Int32)), (.ref a102), (.ref a102)])) rfl rfl (hb hby at_93)
  have N123 := Fr.snoc X123 N120 ge102
  have O123 := O120.wr W123 ge102
  have z124 : h0.size ≤ h123.size := Nat.le_trans z121 (Nat.le_of_eq W123.size.symm)
  have V123 : Arv Z h123 a102 k102 (.object "com/example/page_copy_finder/pagecopyfinder/copies/PairLabel") (7 : Int32) [(.ref aMIRROR), (.ref aTEMPLATE_OR_PLAGIARISM), (.ref aARCHIVE_PAGE), (.ref aLINK_LIST_PART), (.ref aSAME_SITE_RELATED), (.ref aCITATION_OR_SPAM), .null] .null := Arv.set Ar123 q123 S123 M123 H123 G123 rfl W123 5 (by decide) (Nat.le_of_ble_eq_true rfl)
  refine own_go st123 ?_
  show OwnGo p e below _ (T123.setTop (mkF m 94 #[.val (.int p1), .val (.int p2), .val (.int p3), .val (.ref a76), .val (.ref a87), .unset, .unset, .unset, .unset, .unset] [(.ref a102)]))
  refine own_go (fun _ k => XS.dup X123.here hx rfl (hb hby at_94) rfl rfl k) ?_
  show OwnGo p e below _ (T123.setTop (mkF m 95 #[.val (.int p1), .val (.int p2), .val (.int p3), .val (.ref a76), .val (.ref a87), .unset, .unset, .unset, .unset, .unset] [(.ref a102), (.ref a102)]))
  refine own_go (fun _ k => XS.bipush X123.here hx rfl (hb hby at_95) k) ?_
  show OwnGo p e below _ (T123.setTop (mkF m 97 #[.val (.int p1), .val (.int p2), .val (.int p3), .val (.ref a76), .val (.ref a87), .unset, .unset, .unset, .unset, .unset] [(.int (6 : Int32)), (.ref a102), (.ref a102)]))
  obtain ⟨T125, X125, e125, st125⟩ := getS X123 hx hZ hown (host := "") (hw _ (List.mem_of_getElem? (i := 38) rfl)) Via.refl e123 (F0.2.2.2.2.2.2.2.2.2.2.2.2.2.2.2.2.2.2.2.2.2.2.2.2.2.2.1.ext O123.2) (g := (mkF m 97 #[.val (.int p1), .val (.int p2), .val (.int p3), .val (.ref a76), .val (.ref a87), .unset, .unset, .unset, .unset, .unset] [(.int (6 : Int32)), (.ref a102), (.ref a102)])) rfl (hb hby at_97)
  refine own_go st125 ?_
  show OwnGo p e below _ (T125.setTop (mkF m 100 #[.val (.int p1), .val (.int p2), .val (.int p3), .val (.ref a76), .val (.ref a87), .unset, .unset, .unset, .unset, .unset] [(.ref aSHARED_TEXT_OR_PLAGIARISM), (.int (6 : Int32)), (.ref a102), (.ref a102)]))
  obtain ⟨c126, Ar126, q126, S126, M126, H126, G126⟩ := (id V123)
  obtain ⟨T126, h126, X126, e126, W126, st126⟩ := stR X125 hx hZ e125 Ar126 (j := (6 : Int32)) (v := (.ref aSHARED_TEXT_OR_PLAGIARISM)) (inb_of S126 ⟨by decide, by decide⟩) rfl (Sto.ofV Ar126 q126 B102 (Ins.self (F0.2.2.2.2.2.2.2.2.2.2.2.2.2.2.2.2.2.2.2.2.2.2.2.2.2.2.2.1.ext O123.2))) (g := (mkF m 100 #[.val (.int p1), .val (.int p2), .val (.int p3), .val (.ref a76), .val (.ref a87), .unset, .unset, .unset, .unset, .unset] [(.ref aSHARED_TEXT_OR_PLAGIARISM), (.int (6 : Int32)), (.ref a102), (.ref a102)])) rfl rfl (hb hby at_100)
  have N126 := Fr.snoc X126 N123 ge102
  have O126 := O123.wr W126 ge102
  have z127 : h0.size ≤ h126.size := Nat.le_trans z124 (Nat.le_of_eq W126.size.symm)
  have V126 : Arv Z h126 a102 k102 (.object "com/example/page_copy_finder/pagecopyfinder/copies/PairLabel") (7 : Int32) [(.ref aMIRROR), (.ref aTEMPLATE_OR_PLAGIARISM), (.ref aARCHIVE_PAGE), (.ref aLINK_LIST_PART), (.ref aSAME_SITE_RELATED), (.ref aCITATION_OR_SPAM), (.ref aSHARED_TEXT_OR_PLAGIARISM)] .null := Arv.set Ar126 q126 S126 M126 H126 G126 rfl W126 6 (by decide) (Nat.le_of_ble_eq_true rfl)
  refine own_go st126 ?_
  show OwnGo p e below _ (T126.setTop (mkF m 101 #[.val (.int p1), .val (.int p2), .val (.int p3), .val (.ref a76), .val (.ref a87), .unset, .unset, .unset, .unset, .unset] [(.ref a102)]))
  refine own_go (fun _ k => XS.astore X126.here hx rfl (hb hby at_101) rfl rfl (l' := #[.val (.int p1), .val (.int p2), .val (.int p3), .val (.ref a76), .val (.ref a87), .val (.ref a102), .unset, .unset, .unset, .unset]) rfl k) ?_
  show OwnGo p e below _ (T126.setTop (mkF m 103 #[.val (.int p1), .val (.int p2), .val (.int p3), .val (.ref a76), .val (.ref a87), .val (.ref a102), .unset, .unset, .unset, .unset] []))
  refine own_go (fun _ k => XS.iloadN X126.here hx rfl (hb hby at_103) rfl k) ?_
  show OwnGo p e below _ (T126.setTop (mkF m 104 #[.val (.int p1), .val (.int p2), .val (.int p3), .val (.ref a76), .val (.ref a87), .val (.ref a102), .unset, .unset, .unset, .unset] [(.int p1)]))
  refine own_go (fun _ k => Jvm.Stand.ldcI X126 hx hown (mvT hZ (hw _ (List.mem_of_getElem? (i := 40) rfl))) rfl (hb hby at_104) k) ?_
  show OwnGo p e below _ (T126.setTop (mkF m 106 #[.val (.int p1), .val (.int p2), .val (.int p3), .val (.ref a76), .val (.ref a87), .val (.ref a102), .unset, .unset, .unset, .unset] [(.int (2147483647 : Int32)), (.int p1)]))
  refine own_go (fun _ k => XS.iand X126.here hx rfl (hb hby at_106) rfl k) ?_
  show OwnGo p e below _ (T126.setTop (mkF m 107 #[.val (.int p1), .val (.int p2), .val (.int p3), .val (.ref a76), .val (.ref a87), .val (.ref a102), .unset, .unset, .unset, .unset] [(.int (p1 &&& (2147483647 : Int32)))]))
  refine own_go (fun _ k => XS.iconst X126.here hx rfl (hb hby at_107) k) ?_
  show OwnGo p e below _ (T126.setTop (mkF m 108 #[.val (.int p1), .val (.int p2), .val (.int p3), .val (.ref a76), .val (.ref a87), .val (.ref a102), .unset, .unset, .unset, .unset] [(.int (3 : Int32)), (.int (p1 &&& (2147483647 : Int32)))]))
  refine own_go (fun _ k => iremM X126 hx rfl (hb hby at_108) rfl (by decide) k) ?_
  show OwnGo p e below _ (T126.setTop (mkF m 109 #[.val (.int p1), .val (.int p2), .val (.int p3), .val (.ref a76), .val (.ref a87), .val (.ref a102), .unset, .unset, .unset, .unset] [(.int ((p1 &&& (2147483647 : Int32)) % (3 : Int32)))]))
  rcases own_mod3 p1 with hv128 | hv128 | hv128
  · rw [hv128]
    show OwnGo p e below _ (T126.setTop (mkF m 109 #[.val (.int p1), .val (.int p2), .val (.int p3), .val (.ref a76), .val (.ref a87), .val (.ref a102), .unset, .unset, .unset, .unset] [(.int (0 : Int32))]))
    refine own_go (fun _ k => XS.istore X126.here hx rfl (hb hby at_109) rfl (l' := #[.val (.int p1), .val (.int p2), .val (.int p3), .val (.ref a76), .val (.ref a87), .val (.ref a102), .val (.int (0 : Int32)), .unset, .unset, .unset]) rfl k) ?_
    show OwnGo p e below _ (T126.setTop (mkF m 111 #[.val (.int p1), .val (.int p2), .val (.int p3), .val (.ref a76), .val (.ref a87), .val (.ref a102), .val (.int (0 : Int32)), .unset, .unset, .unset] []))
    refine own_go (fun _ k => XS.iloadN X126.here hx rfl (hb hby at_111) rfl k) ?_
    show OwnGo p e below _ (T126.setTop (mkF m 112 #[.val (.int p1), .val (.int p2), .val (.int p3), .val (.ref a76), .val (.ref a87), .val (.ref a102), .val (.int (0 : Int32)), .unset, .unset, .unset] [(.int p2)]))
    refine own_go (fun _ k => XS.iconst X126.here hx rfl (hb hby at_112) k) ?_
    show OwnGo p e below _ (T126.setTop (mkF m 113 #[.val (.int p1), .val (.int p2), .val (.int p3), .val (.ref a76), .val (.ref a87), .val (.ref a102), .val (.int (0 : Int32)), .unset, .unset, .unset] [(.int (1 : Int32)), (.int p2)]))
    refine own_go (fun _ k => XS.iand X126.here hx rfl (hb hby at_113) rfl k) ?_
    show OwnGo p e below _ (T126.setTop (mkF m 114 #[.val (.int p1), .val (.int p2), .val (.int p3), .val (.ref a76), .val (.ref a87), .val (.ref a102), .val (.int (0 : Int32)), .unset, .unset, .unset] [(.int (p2 &&& (1 : Int32)))]))
    by_cases hc129 : (p2 &&& (1 : Int32)) = (0 : Int32)
    · refine own_go (fun _ k => XS.ifYes X126.here hx rfl (pc0 := 114) (pc' := 121) rfl (hb hby at_114) rfl ((if0 _ _).trans (teq hc129).1) (by decide) (by decide) k) ?_
      show OwnGo p e below _ (T126.setTop (mkF m 121 #[.val (.int p1), .val (.int p2), .val (.int p3), .val (.ref a76), .val (.ref a87), .val (.ref a102), .val (.int (0 : Int32)), .unset, .unset, .unset] []))
      refine own_go (fun _ k => XS.iconst X126.here hx rfl (hb hby at_121) k) ?_
      show OwnGo p e below _ (T126.setTop (mkF m 122 #[.val (.int p1), .val (.int p2), .val (.int p3), .val (.ref a76), .val (.ref a87), .val (.ref a102), .val (.int (0 : Int32)), .unset, .unset, .unset] [(.int (0 : Int32))]))
      refine own_go (fun _ k => XS.istore X126.here hx rfl (hb hby at_122) rfl (l' := #[.val (.int p1), .val (.int p2), .val (.int p3), .val (.ref a76), .val (.ref a87), .val (.ref a102), .val (.int (0 : Int32)), .val (.int (0 : Int32)), .unset, .unset]) rfl k) ?_
      show OwnGo p e below _ (T126.setTop (mkF m 124 #[.val (.int p1), .val (.int p2), .val (.int p3), .val (.ref a76), .val (.ref a87), .val (.ref a102), .val (.int (0 : Int32)), .val (.int (0 : Int32)), .unset, .unset] []))
      refine own_go (fun _ k => XS.iloadN X126.here hx rfl (hb hby at_124) rfl k) ?_
      show OwnGo p e below _ (T126.setTop (mkF m 125 #[.val (.int p1), .val (.int p2), .val (.int p3), .val (.ref a76), .val (.ref a87), .val (.ref a102), .val (.int (0 : Int32)), .val (.int (0 : Int32)), .unset, .unset] [(.int p3)]))
      refine own_go (fun _ k => XS.iconst X126.here hx rfl (hb hby at_125) k) ?_
      show OwnGo p e below _ (T126.setTop (mkF m 126 #[.val (.int p1), .val (.int p2), .val (.int p3), .val (.ref a76), .val (.ref a87), .val (.ref a102), .val (.int (0 : Int32)), .val (.int (0 : Int32)), .unset, .unset] [(.int (3 : Int32)), (.int p3)]))
      refine own_go (fun _ k => XS.iand X126.here hx rfl (hb hby at_126) rfl k) ?_
      show OwnGo p e below _ (T126.setTop (mkF m 127 #[.val (.int p1), .val (.int p2), .val (.int p3), .val (.ref a76), .val (.ref a87), .val (.ref a102), .val (.int (0 : Int32)), .val (.int (0 : Int32)), .unset, .unset] [(.int (p3 &&& (3 : Int32)))]))
      rcases own_and3 p3 with hv130 | hv130 | hv130 | hv130
      · rw [hv130]
        show OwnGo p e below _ (T126.setTop (mkF m 127 #[.val (.int p1), .val (.int p2), .val (.int p3), .val (.ref a76), .val (.ref a87), .val (.ref a102), .val (.int (0 : Int32)), .val (.int (0 : Int32)), .unset, .unset] [(.int (0 : Int32))]))
        refine own_go (fun _ k => XS.istore X126.here hx rfl (hb hby at_127) rfl (l' := #[.val (.int p1), .val (.int p2), .val (.int p3), .val (.ref a76), .val (.ref a87), .val (.ref a102), .val (.int (0 : Int32)), .val (.int (0 : Int32)), .val (.int (0 : Int32)), .unset]) rfl k) ?_
        show OwnGo p e below _ (T126.setTop (mkF m 129 #[.val (.int p1), .val (.int p2), .val (.int p3), .val (.ref a76), .val (.ref a87), .val (.ref a102), .val (.int (0 : Int32)), .val (.int (0 : Int32)), .val (.int (0 : Int32)), .unset] []))
        refine own_go (fun _ k => XS.iconst X126.here hx rfl (hb hby at_129) k) ?_
        show OwnGo p e below _ (T126.setTop (mkF m 130 #[.val (.int p1), .val (.int p2), .val (.int p3), .val (.ref a76), .val (.ref a87), .val (.ref a102), .val (.int (0 : Int32)), .val (.int (0 : Int32)), .val (.int (0 : Int32)), .unset] [(.int (2 : Int32))]))
        refine own_go (fun _ k => XS.iload X126.here hx rfl (hb hby at_130) rfl k) ?_
        show OwnGo p e below _ (T126.setTop (mkF m 132 #[.val (.int p1), .val (.int p2), .val (.int p3), .val (.ref a76), .val (.ref a87), .val (.ref a102), .val (.int (0 : Int32)), .val (.int (0 : Int32)), .val (.int (0 : Int32)), .unset] [(.int (0 : Int32)), (.int (2 : Int32))]))
        refine own_go (fun _ k => XS.imul X126.here hx rfl (hb hby at_132) rfl k) ?_
        show OwnGo p e below _ (T126.setTop (mkF m 133 #[.val (.int p1), .val (.int p2), .val (.int p3), .val (.ref a76), .val (.ref a87), .val (.ref a102), .val (.int (0 : Int32)), .val (.int (0 : Int32)), .val (.int (0 : Int32)), .unset] [(.int ((2 : Int32) * (0 : Int32)))]))
        rw [show ((2 : Int32) * (0 : Int32)) = (0 : Int32) from by decide]
        show OwnGo p e below _ (T126.setTop (mkF m 133 #[.val (.int p1), .val (.int p2), .val (.int p3), .val (.ref a76), .val (.ref a87), .val (.ref a102), .val (.int (0 : Int32)), .val (.int (0 : Int32)), .val (.int (0 : Int32)), .unset] [(.int (0 : Int32))]))
        refine own_go (fun _ k => XS.iload X126.here hx rfl (hb hby at_133) rfl k) ?_
        show OwnGo p e below _ (T126.setTop (mkF m 135 #[.val (.int p1), .val (.int p2), .val (.int p3), .val (.ref a76), .val (.ref a87), .val (.ref a102), .val (.int (0 : Int32)), .val (.int (0 : Int32)), .val (.int (0 : Int32)), .unset] [(.int (0 : Int32)), (.int (0 : Int32))]))
        refine own_go (fun _ k => XS.ifYes X126.here hx rfl (pc0 := 135) (pc' := 142) rfl (hb hby at_135) rfl (by decide) (by decide) (by decide) k) ?_
        show OwnGo p e below _ (T126.setTop (mkF m 142 #[.val (.int p1), .val (.int p2), .val (.int p3), .val (.ref a76), .val (.ref a87), .val (.ref a102), .val (.int (0 : Int32)), .val (.int (0 : Int32)), .val (.int (0 : Int32)), .unset] [(.int (0 : Int32))]))
        refine own_go (fun _ k => XS.iconst X126.here hx rfl (hb hby at_142) k) ?_
        show OwnGo p e below _ (T126.setTop (mkF m 143 #[.val (.int p1), .val (.int p2), .val (.int p3), .val (.ref a76), .val (.ref a87), .val (.ref a102), .val (.int (0 : Int32)), .val (.int (0 : Int32)), .val (.int (0 : Int32)), .unset] [(.int (1 : Int32)), (.int (0 : Int32))]))
        refine own_go (fun _ k => XS.iadd X126.here hx rfl (hb hby at_143) rfl k) ?_
        show OwnGo p e below _ (T126.setTop (mkF m 144 #[.val (.int p1), .val (.int p2), .val (.int p3), .val (.ref a76), .val (.ref a87), .val (.ref a102), .val (.int (0 : Int32)), .val (.int (0 : Int32)), .val (.int (0 : Int32)), .unset] [(.int ((0 : Int32) + (1 : Int32)))]))
        rw [show ((0 : Int32) + (1 : Int32)) = (1 : Int32) from by decide]
        show OwnGo p e below _ (T126.setTop (mkF m 144 #[.val (.int p1), .val (.int p2), .val (.int p3), .val (.ref a76), .val (.ref a87), .val (.ref a102), .val (.int (0 : Int32)), .val (.int (0 : Int32)), .val (.int (0 : Int32)), .unset] [(.int (1 : Int32))]))
        refine own_go (fun _ k => XS.iload X126.here hx rfl (hb hby at_144) rfl k) ?_
        show OwnGo p e below _ (T126.setTop (mkF m 146 #[.val (.int p1), .val (.int p2), .val (.int p3), .val (.ref a76), .val (.ref a87), .val (.ref a102), .val (.int (0 : Int32)), .val (.int (0 : Int32)), .val (.int (0 : Int32)), .unset] [(.int (0 : Int32)), (.int (1 : Int32))]))
        refine own_go (fun _ k => XS.iconst X126.here hx rfl (hb hby at_146) k) ?_
        show OwnGo p e below _ (T126.setTop (mkF m 147 #[.val (.int p1), .val (.int p2), .val (.int p3), .val (.ref a76), .val (.ref a87), .val (.ref a102), .val (.int (0 : Int32)), .val (.int (0 : Int32)), .val (.int (0 : Int32)), .unset] [(.int (2 : Int32)), (.int (0 : Int32)), (.int (1 : Int32))]))
        refine own_go (fun _ k => XS.icmpYes X126.here hx rfl (pc0 := 147) (pc' := 165) rfl (hb hby at_147) rfl (by decide) (by decide) (by decide) k) ?_
        show OwnGo p e below _ (T126.setTop (mkF m 165 #[.val (.int p1), .val (.int p2), .val (.int p3), .val (.ref a76), .val (.ref a87), .val (.ref a102), .val (.int (0 : Int32)), .val (.int (0 : Int32)), .val (.int (0 : Int32)), .unset] [(.int (1 : Int32))]))
        refine own_go (fun _ k => XS.iconst X126.here hx rfl (hb hby at_165) k) ?_
        show OwnGo p e below _ (T126.setTop (mkF m 166 #[.val (.int p1), .val (.int p2), .val (.int p3), .val (.ref a76), .val (.ref a87), .val (.ref a102), .val (.int (0 : Int32)), .val (.int (0 : Int32)), .val (.int (0 : Int32)), .unset] [(.int (0 : Int32)), (.int (1 : Int32))]))
        refine own_go (fun _ k => XS.iadd X126.here hx rfl (hb hby at_166) rfl k) ?_
        show OwnGo p e below _ (T126.setTop (mkF m 167 #[.val (.int p1), .val (.int p2), .val (.int p3), .val (.ref a76), .val (.ref a87), .val (.ref a102), .val (.int (0 : Int32)), .val (.int (0 : Int32)), .val (.int (0 : Int32)), .unset] [(.int ((1 : Int32) + (0 : Int32)))]))
        rw [show ((1 : Int32) + (0 : Int32)) = (1 : Int32) from by decide]
        show OwnGo p e below _ (T126.setTop (mkF m 167 #[.val (.int p1), .val (.int p2), .val (.int p3), .val (.ref a76), .val (.ref a87), .val (.ref a102), .val (.int (0 : Int32)), .val (.int (0 : Int32)), .val (.int (0 : Int32)), .unset] [(.int (1 : Int32))]))
        refine own_go (fun _ k => XS.istore X126.here hx rfl (hb hby at_167) rfl (l' := #[.val (.int p1), .val (.int p2), .val (.int p3), .val (.ref a76), .val (.ref a87), .val (.ref a102), .val (.int (0 : Int32)), .val (.int (0 : Int32)), .val (.int (0 : Int32)), .val (.int (1 : Int32))]) rfl k) ?_
        show OwnGo p e below _ (T126.setTop (mkF m 169 #[.val (.int p1), .val (.int p2), .val (.int p3), .val (.ref a76), .val (.ref a87), .val (.ref a102), .val (.int (0 : Int32)), .val (.int (0 : Int32)), .val (.int (0 : Int32)), .val (.int (1 : Int32))] []))
        refine own_go (fun _ k => XS.aloadN X126.here hx rfl (hb hby at_169) rfl rfl k) ?_
        show OwnGo p e below _ (T126.setTop (mkF m 170 #[.val (.int p1), .val (.int p2), .val (.int p3), .val (.ref a76), .val (.ref a87), .val (.ref a102), .val (.int (0 : Int32)), .val (.int (0 : Int32)), .val (.int (0 : Int32)), .val (.int (1 : Int32))] [(.ref a76)]))
        refine own_go (fun _ k => XS.iload X126.here hx rfl (hb hby at_170) rfl k) ?_
        show OwnGo p e below _ (T126.setTop (mkF m 172 #[.val (.int p1), .val (.int p2), .val (.int p3), .val (.ref a76), .val (.ref a87), .val (.ref a102), .val (.int (0 : Int32)), .val (.int (0 : Int32)), .val (.int (0 : Int32)), .val (.int (1 : Int32))] [(.int (0 : Int32)), (.ref a76)]))
        have F131 := ((((((((F103.ext E102).other W108 ne104).other W111 ne104).other W114 ne104).other W117 ne104).other W120 ne104).other W123 ne104).other W126 ne104)
        obtain ⟨c132, Ar132, q132, S132, M132, H132, G132⟩ := (id F131)
        refine own_go (fun _ k => X126.aaload hx (j := (0 : Int32)) (v := (.ref aIDENTICAL)) (by rw [e126]; exact Ar132.1) (State.isArrayOf_alike hZ.alike Ar132.2.1) rfl Ar132.2.2 (inb_of S132 ⟨by decide, by decide⟩) (Has.at H132 (inb_of S132 ⟨by decide, by decide⟩) rfl) (g := (mkF m 172 #[.val (.int p1), .val (.int p2), .val (.int p3), .val (.ref a76), .val (.ref a87), .val (.ref a102), .val (.int (0 : Int32)), .val (.int (0 : Int32)), .val (.int (0 : Int32)), .val (.int (1 : Int32))] [(.int (0 : Int32)), (.ref a76)])) rfl rfl (hb hby at_172) _ k) ?_
        show OwnGo p e below _ (T126.setTop (mkF m 173 #[.val (.int p1), .val (.int p2), .val (.int p3), .val (.ref a76), .val (.ref a87), .val (.ref a102), .val (.int (0 : Int32)), .val (.int (0 : Int32)), .val (.int (0 : Int32)), .val (.int (1 : Int32))] [(.ref aIDENTICAL)]))
        refine own_go (fun _ k => XS.iload X126.here hx rfl (hb hby at_173) rfl k) ?_
        show OwnGo p e below _ (T126.setTop (mkF m 175 #[.val (.int p1), .val (.int p2), .val (.int p3), .val (.ref a76), .val (.ref a87), .val (.ref a102), .val (.int (0 : Int32)), .val (.int (0 : Int32)), .val (.int (0 : Int32)), .val (.int (1 : Int32))] [(.int (0 : Int32)), (.ref aIDENTICAL)]))
        refine own_go (fun _ k => XS.aload X126.here hx rfl (hb hby at_175) rfl rfl k) ?_
        show OwnGo p e below _ (T126.setTop (mkF m 177 #[.val (.int p1), .val (.int p2), .val (.int p3), .val (.ref a76), .val (.ref a87), .val (.ref a102), .val (.int (0 : Int32)), .val (.int (0 : Int32)), .val (.int (0 : Int32)), .val (.int (1 : Int32))] [(.ref a87), (.int (0 : Int32)), (.ref aIDENTICAL)]))
        refine own_go (fun _ k => XS.iload X126.here hx rfl (hb hby at_177) rfl k) ?_
        show OwnGo p e below _ (T126.setTop (mkF m 179 #[.val (.int p1), .val (.int p2), .val (.int p3), .val (.ref a76), .val (.ref a87), .val (.ref a102), .val (.int (0 : Int32)), .val (.int (0 : Int32)), .val (.int (0 : Int32)), .val (.int (1 : Int32))] [(.int (0 : Int32)), (.ref a87), (.int (0 : Int32)), (.ref aIDENTICAL)]))
        have F133 := ((((((((V100.ext E102).other W108 ne105).other W111 ne105).other W114 ne105).other W117 ne105).other W120 ne105).other W123 ne105).other W126 ne105)
        obtain ⟨c134, Ar134, q134, S134, M134, H134, G134⟩ := (id F133)
        refine own_go (fun _ k => X126.aaload hx (j := (0 : Int32)) (v := (.ref aA_TO_B)) (by rw [e126]; exact Ar134.1) (State.isArrayOf_alike hZ.alike Ar134.2.1) rfl Ar134.2.2 (inb_of S134 ⟨by decide, by decide⟩) (Has.at H134 (inb_of S134 ⟨by decide, by decide⟩) rfl) (g := (mkF m 179 #[.val (.int p1), .val (.int p2), .val (.int p3), .val (.ref a76), .val (.ref a87), .val (.ref a102), .val (.int (0 : Int32)), .val (.int (0 : Int32)), .val (.int (0 : Int32)), .val (.int (1 : Int32))] [(.int (0 : Int32)), (.ref a87), (.int (0 : Int32)), (.ref aIDENTICAL)])) rfl rfl (hb hby at_179) _ k) ?_
        show OwnGo p e below _ (T126.setTop (mkF m 180 #[.val (.int p1), .val (.int p2), .val (.int p3), .val (.ref a76), .val (.ref a87), .val (.ref a102), .val (.int (0 : Int32)), .val (.int (0 : Int32)), .val (.int (0 : Int32)), .val (.int (1 : Int32))] [(.ref aA_TO_B), (.int (0 : Int32)), (.ref aIDENTICAL)]))
        obtain ⟨_, _, ⟨T135, L135, k135, n135⟩, -, X135, hS135, hg135, ⟨Lc135, hQ135, l135, y135, z135⟩, st135⟩ := callSS X126 hx (y := (⟨"com/example/page_copy_finder/pagecopyfinder/copies/PairLabel", "of", "(Lcom/example/page_copy_finder/pagecopyfinder/copies/PairKind;ZLcom/example/page_copy_finder/pagecopyfinder/copies/PairLinks;)Lcom/example/page_copy_finder/pagecopyfinder/copies/PairLabel;"⟩ : MethodName)) hown (mvT hZ (hw _ (List.mem_of_getElem? (i := 41) rfl))) (mvT hZ (hw _ (List.mem_of_getElem? (i := 42) rfl))) (mvT hZ (hw _ (List.mem_of_getElem? (i := 25) rfl))) (mvT hZ (hw _ (List.mem_of_getElem? (i := 43) rfl))) (by decide) (backOfS (W := 0) (rm_of00 l Z a0 hw [] aIDENTICAL aCONTAINMENT aPARTIAL aA_TO_B aB_TO_A aBOTH aNONE aMIRROR aTEMPLATE_OR_PLAGIARISM aARCHIVE_PAGE aLINK_LIST_PART aSAME_SITE_RELATED aCITATION_OR_SPAM aSHARED_TEXT_OR_PLAGIARISM aSW kSW F0 aA_TO_B h126 n0 O126) hZ (hw _ (List.mem_of_getElem? (i := 43) rfl)) (hw _ (List.mem_of_getElem? (i := 25) rfl)) (by decide) (by decide)) (g := (mkF m 180 #[.val (.int p1), .val (.int p2), .val (.int p3), .val (.ref a76), .val (.ref a87), .val (.ref a102), .val (.int (0 : Int32)), .val (.int (0 : Int32)), .val (.int (0 : Int32)), .val (.int (1 : Int32))] [(.ref aA_TO_B), (.int (0 : Int32)), (.ref aIDENTICAL)])) rfl (by rw [hml]; rfl) (argsL := [(.ref aIDENTICAL), (.int (0 : Int32)), (.ref aA_TO_B)]) (rest := []) (lenOf pd_Lcom_example_page_copy_finder_pagecopyfinder_copies_PairKind__Z_Lcom_example_page_copy_finder_pagecopyfinder_copies_PairLinks___Lcom_example_page_copy_finder_pagecopyfinder_copies_PairLabel_ rfl) rfl (by show 2 * 0 + _ ≤ _; exact Nat.le_of_eq rfl) (hb hby at_180) (fun _ _ => ⟨rfl, e126, (by decide : 3 + 4 ≤ _), (by decide : 14 + 44 ≤ _)⟩)
        dsimp only [Pt.U, Pt.locs, Pt.cells, Pt.slots] at X135 l135 y135 z135 st135 hQ135 hS135 hg135
        subst l135 y135 z135
        obtain ⟨rfl, Nq135, K135⟩ := hQ135
        have N135 := Fr.app N126 Nq135
        have hZ : Z.Warmed39 (s.setVm T135.vm).vm := State.Warmed39.trans hZ hS135.1
        have hown : (s.setVm T135.vm).vm.findClass "com/example/page_copy_finder/pagecopyfinder/copies/PairLabelOfPinLaw" = some m.cls := (hS135.1.alike.findClass _ _).trans hown
        have O135 := O126.keep K135 all0
        have e135 : T135.heap = T135.heap := rfl
        have z136 : h0.size ≤ T135.heap.size := Nat.le_trans z127 K135.1
        refine own_go (fun _ k => st135.trans k) ?_
        show OwnGo p e below _ (T135.setTop (mkF m 183 #[.val (.int p1), .val (.int p2), .val (.int p3), .val (.ref a76), .val (.ref a87), .val (.ref a102), .val (.int (0 : Int32)), .val (.int (0 : Int32)), .val (.int (0 : Int32)), .val (.int (1 : Int32))] [(.ref aTEMPLATE_OR_PLAGIARISM)]))
        refine own_go (fun _ k => XS.aload X135.here hx rfl (hb hby at_183) rfl rfl k) ?_
        show OwnGo p e below _ (T135.setTop (mkF m 185 #[.val (.int p1), .val (.int p2), .val (.int p3), .val (.ref a76), .val (.ref a87), .val (.ref a102), .val (.int (0 : Int32)), .val (.int (0 : Int32)), .val (.int (0 : Int32)), .val (.int (1 : Int32))] [(.ref a102), (.ref aTEMPLATE_OR_PLAGIARISM)]))
        refine own_go (fun _ k => XS.iload X135.here hx rfl (hb hby at_185) rfl k) ?_
        show OwnGo p e below _ (T135.setTop (mkF m 187 #[.val (.int p1), .val (.int p2), .val (.int p3), .val (.ref a76), .val (.ref a87), .val (.ref a102), .val (.int (0 : Int32)), .val (.int (0 : Int32)), .val (.int (0 : Int32)), .val (.int (1 : Int32))] [(.int (1 : Int32)), (.ref a102), (.ref aTEMPLATE_OR_PLAGIARISM)]))
        have F137 := (V126.keep K135 nin0)
        obtain ⟨c138, Ar138, q138, S138, M138, H138, G138⟩ := (id F137)
        refine own_go (fun _ k => X135.aaload hx (j := (1 : Int32)) (v := (.ref aTEMPLATE_OR_PLAGIARISM)) (by rw [e135]; exact Ar138.1) (State.isArrayOf_alike hZ.alike Ar138.2.1) rfl Ar138.2.2 (inb_of S138 ⟨by decide, by decide⟩) (Has.at H138 (inb_of S138 ⟨by decide, by decide⟩) rfl) (g := (mkF m 187 #[.val (.int p1), .val (.int p2), .val (.int p3), .val (.ref a76), .val (.ref a87), .val (.ref a102), .val (.int (0 : Int32)), .val (.int (0 : Int32)), .val (.int (0 : Int32)), .val (.int (1 : Int32))] [(.int (1 : Int32)), (.ref a102), (.ref aTEMPLATE_OR_PLAGIARISM)])) rfl rfl (hb hby at_187) _ k) ?_
        show OwnGo p e below _ (T135.setTop (mkF m 188 #[.val (.int p1), .val (.int p2), .val (.int p3), .val (.ref a76), .val (.ref a87), .val (.ref a102), .val (.int (0 : Int32)), .val (.int (0 : Int32)), .val (.int (0 : Int32)), .val (.int (1 : Int32))] [(.ref aTEMPLATE_OR_PLAGIARISM), (.ref aTEMPLATE_OR_PLAGIARISM)]))
        refine own_go (fun _ k => acmp X135 hx rfl (cd := .ne) (o := 7) (x := (.ref aTEMPLATE_OR_PLAGIARISM)) (y := (.ref aTEMPLATE_OR_PLAGIARISM)) (pc0 := 188) (pc' := 191) rfl rfl rfl (hb hby at_188) rfl (own_refeq _) (by decide) (by decide) k) ?_
        show OwnGo p e below _ (T135.setTop (mkF m 191 #[.val (.int p1), .val (.int p2), .val (.int p3), .val (.ref a76), .val (.ref a87), .val (.ref a102), .val (.int (0 : Int32)), .val (.int (0 : Int32)), .val (.int (0 : Int32)), .val (.int (1 : Int32))] []))
        refine own_go (fun _ k => XS.iconst X135.here hx rfl (hb hby at_191) k) ?_
        show OwnGo p e below _ (T135.setTop (mkF m 192 #[.val (.int p1), .val (.int p2), .val (.int p3), .val (.ref a76), .val (.ref a87), .val (.ref a102), .val (.int (0 : Int32)), .val (.int (0 : Int32)), .val (.int (0 : Int32)), .val (.int (1 : Int32))] [(.int (1 : Int32))]))
        refine own_go (fun _ k => XS.goto X135.here hx rfl (pc0 := 192) (pc' := 196) rfl (hb hby at_192) (by decide) (by decide) k) ?_
        show OwnGo p e below _ (T135.setTop (mkF m 196 #[.val (.int p1), .val (.int p2), .val (.int p3), .val (.ref a76), .val (.ref a87), .val (.ref a102), .val (.int (0 : Int32)), .val (.int (0 : Int32)), .val (.int (0 : Int32)), .val (.int (1 : Int32))] [(.int (1 : Int32))]))
        obtain ⟨fs, hr, hrun, hended, hEnd⟩ := Jvm.Stand.leaveW (s := s) (vm₁ := T135.vm) X135 hS135 (by rw [e135]; exact (Nat.le_refl _)) (v := some (.int (1 : Int32))) (fun h => by rw [Bd.returns] at h; cases h)
        refine ⟨_, _, retOut X135 hx Bd.returns rfl (Or.inl ⟨rfl, Or.inr (Or.inl rfl), _, rfl⟩) (hb hby at_196) hr, hrun, hended, _, _, rfl, ?_, own_monoW hEnd (by decide) (by decide)⟩
        show Q_law Z aIDENTICAL aCONTAINMENT aPARTIAL aA_TO_B aB_TO_A aBOTH aNONE aMIRROR aTEMPLATE_OR_PLAGIARISM aARCHIVE_PAGE aLINK_LIST_PART aSAME_SITE_RELATED aCITATION_OR_SPAM aSHARED_TEXT_OR_PLAGIARISM aSW kSW p1 p2 p3 h0 n0 _ T135.heap _
        rw [e135]
        exact ⟨rfl, N135⟩
      · rw [hv130]
        show OwnGo p e below _ (T126.setTop (mkF m 127 #[.val (.int p1), .val (.int p2), .val (.int p3), .val (.ref a76), .val (.ref a87), .val (.ref a102), .val (.int (0 : Int32)), .val (.int (0 : Int32)), .unset, .unset] [(.int (1 : Int32))]))
        refine own_go (fun _ k => XS.istore X126.here hx rfl (hb hby at_127) rfl (l' := #[.val (.int p1), .val (.int p2), .val (.int p3), .val (.ref a76), .val (.ref a87), .val (.ref a102), .val (.int (0 : Int32)), .val (.int (0 : Int32)), .val (.int (1 : Int32)), .unset]) rfl k) ?_
        show OwnGo p e below _ (T126.setTop (mkF m 129 #[.val (.int p1), .val (.int p2), .val (.int p3), .val (.ref a76), .val (.ref a87), .val (.ref a102), .val (.int (0 : Int32)), .val (.int (0 : Int32)), .val (.int (1 : Int32)), .unset] []))
        refine own_go (fun _ k => XS.iconst X126.here hx rfl (hb hby at_129) k) ?_
        show OwnGo p e below _ (T126.setTop (mkF m 130 #[.val (.int p1), .val (.int p2), .val (.int p3), .val (.ref a76), .val (.ref a87), .val (.ref a102), .val (.int (0 : Int32)), .val (.int (0 : Int32)), .val (.int (1 : Int32)), .unset] [(.int (2 : Int32))]))
        refine own_go (fun _ k => XS.iload X126.here hx rfl (hb hby at_130) rfl k) ?_
        show OwnGo p e below _ (T126.setTop (mkF m 132 #[.val (.int p1), .val (.int p2), .val (.int p3), .val (.ref a76), .val (.ref a87), .val (.ref a102), .val (.int (0 : Int32)), .val (.int (0 : Int32)), .val (.int (1 : Int32)), .unset] [(.int (0 : Int32)), (.int (2 : Int32))]))
        refine own_go (fun _ k => XS.imul X126.here hx rfl (hb hby at_132) rfl k) ?_
        show OwnGo p e below _ (T126.setTop (mkF m 133 #[.val (.int p1), .val (.int p2), .val (.int p3), .val (.ref a76), .val (.ref a87), .val (.ref a102), .val (.int (0 : Int32)), .val (.int (0 : Int32)), .val (.int (1 : Int32)), .unset] [(.int ((2 : Int32) * (0 : Int32)))]))
        rw [show ((2 : Int32) * (0 : Int32)) = (0 : Int32) from by decide]
        show OwnGo p e below _ (T126.setTop (mkF m 133 #[.val (.int p1), .val (.int p2), .val (.int p3), .val (.ref a76), .val (.ref a87), .val (.ref a102), .val (.int (0 : Int32)), .val (.int (0 : Int32)), .val (.int (1 : Int32)), .unset] [(.int (0 : Int32))]))
        refine own_go (fun _ k => XS.iload X126.here hx rfl (hb hby at_133) rfl k) ?_
        show OwnGo p e below _ (T126.setTop (mkF m 135 #[.val (.int p1), .val (.int p2), .val (.int p3), .val (.ref a76), .val (.ref a87), .val (.ref a102), .val (.int (0 : Int32)), .val (.int (0 : Int32)), .val (.int (1 : Int32)), .unset] [(.int (0 : Int32)), (.int (0 : Int32))]))
        refine own_go (fun _ k => XS.ifYes X126.here hx rfl (pc0 := 135) (pc' := 142) rfl (hb hby at_135) rfl (by decide) (by decide) (by decide) k) ?_
        show OwnGo p e below _ (T126.setTop (mkF m 142 #[.val (.int p1), .val (.int p2), .val (.int p3), .val (.ref a76), .val (.ref a87), .val (.ref a102), .val (.int (0 : Int32)), .val (.int (0 : Int32)), .val (.int (1 : Int32)), .unset] [(.int (0 : Int32))]))
        refine own_go (fun _ k => XS.iconst X126.here hx rfl (hb hby at_142) k) ?_
        show OwnGo p e below _ (T126.setTop (mkF m 143 #[.val (.int p1), .val (.int p2), .val (.int p3), .val (.ref a76), .val (.ref a87), .val (.ref a102), .val (.int (0 : Int32)), .val (.int (0 : Int32)), .val (.int (1 : Int32)), .unset] [(.int (1 : Int32)), (.int (0 : Int32))]))
        refine own_go (fun _ k => XS.iadd X126.here hx rfl (hb hby at_143) rfl k) ?_
        show OwnGo p e below _ (T126.setTop (mkF m 144 #[.val (.int p1), .val (.int p2), .val (.int p3), .val (.ref a76), .val (.ref a87), .val (.ref a102), .val (.int (0 : Int32)), .val (.int (0 : Int32)), .val (.int (1 : Int32)), .unset] [(.int ((0 : Int32) + (1 : Int32)))]))
        rw [show ((0 : Int32) + (1 : Int32)) = (1 : Int32) from by decide]
        show OwnGo p e below _ (T126.setTop (mkF m 144 #[.val (.int p1), .val (.int p2), .val (.int p3), .val (.ref a76), .val (.ref a87), .val (.ref a102), .val (.int (0 : Int32)), .val (.int (0 : Int32)), .val (.int (1 : Int32)), .unset] [(.int (1 : Int32))]))
        refine own_go (fun _ k => XS.iload X126.here hx rfl (hb hby at_144) rfl k) ?_
        show OwnGo p e below _ (T126.setTop (mkF m 146 #[.val (.int p1), .val (.int p2), .val (.int p3), .val (.ref a76), .val (.ref a87), .val (.ref a102), .val (.int (0 : Int32)), .val (.int (0 : Int32)), .val (.int (1 : Int32)), .unset] [(.int (0 : Int32)), (.int (1 : Int32))]))
        refine own_go (fun _ k => XS.iconst X126.here hx rfl (hb hby at_146) k) ?_
        show OwnGo p e below _ (T126.setTop (mkF m 147 #[.val (.int p1), .val (.int p2), .val (.int p3), .val (.ref a76), .val (.ref a87), .val (.ref a102), .val (.int (0 : Int32)), .val (.int (0 : Int32)), .val (.int (1 : Int32)), .unset] [(.int (2 : Int32)), (.int (0 : Int32)), (.int (1 : Int32))]))
        refine own_go (fun _ k => XS.icmpYes X126.here hx rfl (pc0 := 147) (pc' := 165) rfl (hb hby at_147) rfl (by decide) (by decide) (by decide) k) ?_
        show OwnGo p e below _ (T126.setTop (mkF m 165 #[.val (.int p1), .val (.int p2), .val (.int p3), .val (.ref a76), .val (.ref a87), .val (.ref a102), .val (.int (0 : Int32)), .val (.int (0 : Int32)), .val (.int (1 : Int32)), .unset] [(.int (1 : Int32))]))
        refine own_go (fun _ k => XS.iconst X126.here hx rfl (hb hby at_165) k) ?_
        show OwnGo p e below _ (T126.setTop (mkF m 166 #[.val (.int p1), .val (.int p2), .val (.int p3), .val (.ref a76), .val (.ref a87), .val (.ref a102), .val (.int (0 : Int32)), .val (.int (0 : Int32)), .val (.int (1 : Int32)), .unset] [(.int (0 : Int32)), (.int (1 : Int32))]))
        refine own_go (fun _ k => XS.iadd X126.here hx rfl (hb hby at_166) rfl k) ?_
        show OwnGo p e below _ (T126.setTop (mkF m 167 #[.val (.int p1), .val (.int p2), .val (.int p3), .val (.ref a76), .val (.ref a87), .val (.ref a102), .val (.int (0 : Int32)), .val (.int (0 : Int32)), .val (.int (1 : Int32)), .unset] [(.int ((1 : Int32) + (0 : Int32)))]))
        rw [show ((1 : Int32) + (0 : Int32)) = (1 : Int32) from by decide]
        show OwnGo p e below _ (T126.setTop (mkF m 167 #[.val (.int p1), .val (.int p2), .val (.int p3), .val (.ref a76), .val (.ref a87), .val (.ref a102), .val (.int (0 : Int32)), .val (.int (0 : Int32)), .val (.int (1 : Int32)), .unset] [(.int (1 : Int32))]))
        refine own_go (fun _ k => XS.istore X126.here hx rfl (hb hby at_167) rfl (l' := #[.val (.int p1), .val (.int p2), .val (.int p3), .val (.ref a76), .val (.ref a87), .val (.ref a102), .val (.int (0 : Int32)), .val (.int (0 : Int32)), .val (.int (1 : Int32)), .val (.int (1 : Int32))]) rfl k) ?_
        show OwnGo p e below _ (T126.setTop (mkF m 169 #[.val (.int p1), .val (.int p2), .val (.int p3), .val (.ref a76), .val (.ref a87), .val (.ref a102), .val (.int (0 : Int32)), .val (.int (0 : Int32)), .val (.int (1 : Int32)), .val (.int (1 : Int32))] []))
        refine own_go (fun _ k => XS.aloadN X126.here hx rfl (hb hby at_169) rfl rfl k) ?_
        show OwnGo p e below _ (T126.setTop (mkF m 170 #[.val (.int p1), .val (.int p2), .val (.int p3), .val (.ref a76), .val (.ref a87), .val (.ref a102), .val (.int (0 : Int32)), .val (.int (0 : Int32)), .val (.int (1 : Int32)), .val (.int (1 : Int32))] [(.ref a76)]))
        refine own_go (fun _ k => XS.iload X126.here hx rfl (hb hby at_170) rfl k) ?_
        show OwnGo p e below _ (T126.setTop (mkF m 172 #[.val (.int p1), .val (.int p2), .val (.int p3), .val (.ref a76), .val (.ref a87), .val (.ref a102), .val (.int (0 : Int32)), .val (.int (0 : Int32)), .val (.int (1 : Int32)), .val (.int (1 : Int32))] [(.int (0 : Int32)), (.ref a76)]))
        have F139 := ((((((((F103.ext E102).other W108 ne104).other W111 ne104).other W114 ne104).other W117 ne104).other W120 ne104).other W123 ne104).other W126 ne104)
        obtain ⟨c140, Ar140, q140, S140, M140, H140, G140⟩ := (id F139)
        refine own_go (fun _ k => X126.aaload hx (j := (0 : Int32)) (v := (.ref aIDENTICAL)) (by rw [e126]; exact Ar140.1) (State.isArrayOf_alike hZ.alike Ar140.2.1) rfl Ar140.2.2 (inb_of S140 ⟨by decide, by decide⟩) (Has.at H140 (inb_of S140 ⟨by decide, by decide⟩) rfl) (g := (mkF m 172 #[.val (.int p1), .val (.int p2), .val (.int p3), .val (.ref a76), .val (.ref a87), .val (.ref a102), .val (.int (0 : Int32)), .val (.int (0 : Int32)), .val (.int (1 : Int32)), .val (.int (1 : Int32))] [(.int (0 : Int32)), (.ref a76)])) rfl rfl (hb hby at_172) _ k) ?_
        show OwnGo p e below _ (T126.setTop (mkF m 173 #[.val (.int p1), .val (.int p2), .val (.int p3), .val (.ref a76), .val (.ref a87), .val (.ref a102), .val (.int (0 : Int32)), .val (.int (0 : Int32)), .val (.int (1 : Int32)), .val (.int (1 : Int32))] [(.ref aIDENTICAL)]))
        refine own_go (fun _ k => XS.iload X126.here hx rfl (hb hby at_173) rfl k) ?_
        show OwnGo p e below _ (T126.setTop (mkF m 175 #[.val (.int p1), .val (.int p2), .val (.int p3), .val (.ref a76), .val (.ref a87), .val (.ref a102), .val (.int (0 : Int32)), .val (.int (0 : Int32)), .val (.int (1 : Int32)), .val (.int (1 : Int32))] [(.int (0 : Int32)), (.ref aIDENTICAL)]))
        refine own_go (fun _ k => XS.aload X126.here hx rfl (hb hby at_175) rfl rfl k) ?_
        show OwnGo p e below _ (T126.setTop (mkF m 177 #[.val (.int p1), .val (.int p2), .val (.int p3), .val (.ref a76), .val (.ref a87), .val (.ref a102), .val (.int (0 : Int32)), .val (.int (0 : Int32)), .val (.int (1 : Int32)), .val (.int (1 : Int32))] [(.ref a87), (.int (0 : Int32)), (.ref aIDENTICAL)]))
        refine own_go (fun _ k => XS.iload X126.here hx rfl (hb hby at_177) rfl k) ?_
        show OwnGo p e below _ (T126.setTop (mkF m 179 #[.val (.int p1), .val (.int p2), .val (.int p3), .val (.ref a76), .val (.ref a87), .val (.ref a102), .val (.int (0 : Int32)), .val (.int (0 : Int32)), .val (.int (1 : Int32)), .val (.int (1 : Int32))] [(.int (1 : Int32)), (.ref a87), (.int (0 : Int32)), (.ref aIDENTICAL)]))
        have F141 := ((((((((V100.ext E102).other W108 ne105).other W111 ne105).other W114 ne105).other W117 ne105).other W120 ne105).other W123 ne105).other W126 ne105)
        obtain ⟨c142, Ar142, q142, S142, M142, H142, G142⟩ := (id F141)
        refine own_go (fun _ k => X126.aaload hx (j := (1 : Int32)) (v := (.ref aB_TO_A)) (by rw [e126]; exact Ar142.1) (State.isArrayOf_alike hZ.alike Ar142.2.1) rfl Ar142.2.2 (inb_of S142 ⟨by decide, by decide⟩) (Has.at H142 (inb_of S142 ⟨by decide, by decide⟩) rfl) (g := (mkF m 179 #[.val (.int p1), .val (.int p2), .val (.int p3), .val (.ref a76), .val (.ref a87), .val (.ref a102), .val (.int (0 : Int32)), .val (.int (0 : Int32)), .val (.int (1 : Int32)), .val (.int (1 : Int32))] [(.int (1 : Int32)), (.ref a87), (.int (0 : Int32)), (.ref aIDENTICAL)])) rfl rfl (hb hby at_179) _ k) ?_
        show OwnGo p e below _ (T126.setTop (mkF m 180 #[.val (.int p1), .val (.int p2), .val (.int p3), .val (.ref a76), .val (.ref a87), .val (.ref a102), .val (.int (0 : Int32)), .val (.int (0 : Int32)), .val (.int (1 : Int32)), .val (.int (1 : Int32))] [(.ref aB_TO_A), (.int (0 : Int32)), (.ref aIDENTICAL)]))
        obtain ⟨_, _, ⟨T143, L143, k143, n143⟩, -, X143, hS143, hg143, ⟨Lc143, hQ143, l143, y143, z143⟩, st143⟩ := callSS X126 hx (y := (⟨"com/example/page_copy_finder/pagecopyfinder/copies/PairLabel", "of", "(Lcom/example/page_copy_finder/pagecopyfinder/copies/PairKind;ZLcom/example/page_copy_finder/pagecopyfinder/copies/PairLinks;)Lcom/example/page_copy_finder/pagecopyfinder/copies/PairLabel;"⟩ : MethodName)) hown (mvT hZ (hw _ (List.mem_of_getElem? (i := 41) rfl))) (mvT hZ (hw _ (List.mem_of_getElem? (i := 42) rfl))) (mvT hZ (hw _ (List.mem_of_getElem? (i := 25) rfl))) (mvT hZ (hw _ (List.mem_of_getElem? (i := 43) rfl))) (by decide) (backOfS (W := 0) (rm_of00 l Z a0 hw [] aIDENTICAL aCONTAINMENT aPARTIAL aA_TO_B aB_TO_A aBOTH aNONE aMIRROR aTEMPLATE_OR_PLAGIARISM aARCHIVE_PAGE aLINK_LIST_PART aSAME_SITE_RELATED aCITATION_OR_SPAM aSHARED_TEXT_OR_PLAGIARISM aSW kSW F0 aB_TO_A h126 n0 O126) hZ (hw _ (List.mem_of_getElem? (i := 43) rfl)) (hw _ (List.mem_of_getElem? (i := 25) rfl)) (by decide) (by decide)) (g := (mkF m 180 #[.val (.int p1), .val (.int p2), .val (.int p3), .val (.ref a76), .val (.ref a87), .val (.ref a102), .val (.int (0 : Int32)), .val (.int (0 : Int32)), .val (.int (1 : Int32)), .val (.int (1 : Int32))] [(.ref aB_TO_A), (.int (0 : Int32)), (.ref aIDENTICAL)])) rfl (by rw [hml]; rfl) (argsL := [(.ref aIDENTICAL), (.int (0 : Int32)), (.ref aB_TO_A)]) (rest := []) (lenOf pd_Lcom_example_page_copy_finder_pagecopyfinder_copies_PairKind__Z_Lcom_example_page_copy_finder_pagecopyfinder_copies_PairLinks___Lcom_example_page_copy_finder_pagecopyfinder_copies_PairLabel_ rfl) rfl (by show 2 * 0 + _ ≤ _; exact Nat.le_of_eq rfl) (hb hby at_180) (fun _ _ => ⟨rfl, e126, (by decide : 3 + 4 ≤ _), (by decide : 14 + 44 ≤ _)⟩)
        dsimp only [Pt.U, Pt.locs, Pt.cells, Pt.slots] at X143 l143 y143 z143 st143 hQ143 hS143 hg143
        subst l143 y143 z143
        obtain ⟨rfl, Nq143, K143⟩ := hQ143
        have N143 := Fr.app N126 Nq143
        have hZ : Z.Warmed39 (s.setVm T143.vm).vm := State.Warmed39.trans hZ hS143.1
        have hown : (s.setVm T143.vm).vm.findClass "com/example/page_copy_finder/pagecopyfinder/copies/PairLabelOfPinLaw" = some m.cls := (hS143.1.alike.findClass _ _).trans hown
        have O143 := O126.keep K143 all0
        have e143 : T143.heap = T143.heap := rfl
        have z144 : h0.size ≤ T143.heap.size := Nat.le_trans z127 K143.1
        refine own_go (fun _ k => st143.trans k) ?_
        show OwnGo p e below _ (T143.setTop (mkF m 183 #[.val (.int p1), .val (.int p2), .val (.int p3), .val (.ref a76), .val (.ref a87), .val (.ref a102), .val (.int (0 : Int32)), .val (.int (0 : Int32)), .val (.int (1 : Int32)), .val (.int (1 : Int32))] [(.ref aTEMPLATE_OR_PLAGIARISM)]))
        refine own_go (fun _ k => XS.aload X143.here hx rfl (hb hby at_183) rfl rfl k) ?_
        show OwnGo p e below _ (T143.setTop (mkF m 185 #[.val (.int p1), .val (.int p2), .val (.int p3), .val (.ref a76), .val (.ref a87), .val (.ref a102), .val (.int (0 : Int32)), .val (.int (0 : Int32)), .val (.int (1 : Int32)), .val (.int (1 : Int32))] [(.ref a102), (.ref aTEMPLATE_OR_PLAGIARISM)]))
        refine own_go (fun _ k => XS.iload X143.here hx rfl (hb hby at_185) rfl k) ?_
        show OwnGo p e below _ (T143.setTop (mkF m 187 #[.val (.int p1), .val (.int p2), .val (.int p3), .val (.ref a76), .val (.ref a87), .val (.ref a102), .val (.int (0 : Int32)), .val (.int (0 : Int32)), .val (.int (1 : Int32)), .val (.int (1 : Int32))] [(.int (1 : Int32)), (.ref a102), (.ref aTEMPLATE_OR_PLAGIARISM)]))
        have F145 := (V126.keep K143 nin0)
        obtain ⟨c146, Ar146, q146, S146, M146, H146, G146⟩ := (id F145)
        refine own_go (fun _ k => X143.aaload hx (j := (1 : Int32)) (v := (.ref aTEMPLATE_OR_PLAGIARISM)) (by rw [e143]; exact Ar146.1) (State.isArrayOf_alike hZ.alike Ar146.2.1) rfl Ar146.2.2 (inb_of S146 ⟨by decide, by decide⟩) (Has.at H146 (inb_of S146 ⟨by decide, by decide⟩) rfl) (g := (mkF m 187 #[.val (.int p1), .val (.int p2), .val (.int p3), .val (.ref a76), .val (.ref a87), .val (.ref a102), .val (.int (0 : Int32)), .val (.int (0 : Int32)), .val (.int (1 : Int32)), .val (.int (1 : Int32))] [(.int (1 : Int32)), (.ref a102), (.ref aTEMPLATE_OR_PLAGIARISM)])) rfl rfl (hb hby at_187) _ k) ?_
        show OwnGo p e below _ (T143.setTop (mkF m 188 #[.val (.int p1), .val (.int p2), .val (.int p3), .val (.ref a76), .val (.ref a87), .val (.ref a102), .val (.int (0 : Int32)), .val (.int (0 : Int32)), .val (.int (1 : Int32)), .val (.int (1 : Int32))] [(.ref aTEMPLATE_OR_PLAGIARISM), (.ref aTEMPLATE_OR_PLAGIARISM)]))
        refine own_go (fun _ k => acmp X143 hx rfl (cd := .ne) (o := 7) (x := (.ref aTEMPLATE_OR_PLAGIARISM)) (y := (.ref aTEMPLATE_OR_PLAGIARISM)) (pc0 := 188) (pc' := 191) rfl rfl rfl (hb hby at_188) rfl (own_refeq _) (by decide) (by decide) k) ?_
        show OwnGo p e below _ (T143.setTop (mkF m 191 #[.val (.int p1), .val (.int p2), .val (.int p3), .val (.ref a76), .val (.ref a87), .val (.ref a102), .val (.int (0 : Int32)), .val (.int (0 : Int32)), .val (.int (1 : Int32)), .val (.int (1 : Int32))] []))
        refine own_go (fun _ k => XS.iconst X143.here hx rfl (hb hby at_191) k) ?_
        show OwnGo p e below _ (T143.setTop (mkF m 192 #[.val (.int p1), .val (.int p2), .val (.int p3), .val (.ref a76), .val (.ref a87), .val (.ref a102), .val (.int (0 : Int32)), .val (.int (0 : Int32)), .val (.int (1 : Int32)), .val (.int (1 : Int32))] [(.int (1 : Int32))]))
        refine own_go (fun _ k => XS.goto X143.here hx rfl (pc0 := 192) (pc' := 196) rfl (hb hby at_192) (by decide) (by decide) k) ?_
        show OwnGo p e below _ (T143.setTop (mkF m 196 #[.val (.int p1), .val (.int p2), .val (.int p3), .val (.ref a76), .val (.ref a87), .val (.ref a102), .val (.int (0 : Int32)), .val (.int (0 : Int32)), .val (.int (1 : Int32)), .val (.int (1 : Int32))] [(.int (1 : Int32))]))
        obtain ⟨fs, hr, hrun, hended, hEnd⟩ := Jvm.Stand.leaveW (s := s) (vm₁ := T143.vm) X143 hS143 (by rw [e143]; exact (Nat.le_refl _)) (v := some (.int (1 : Int32))) (fun h => by rw [Bd.returns] at h; cases h)
        refine ⟨_, _, retOut X143 hx Bd.returns rfl (Or.inl ⟨rfl, Or.inr (Or.inl rfl), _, rfl⟩) (hb hby at_196) hr, hrun, hended, _, _, rfl, ?_, own_monoW hEnd (by decide) (by decide)⟩
        show Q_law Z aIDENTICAL aCONTAINMENT aPARTIAL aA_TO_B aB_TO_A aBOTH aNONE aMIRROR aTEMPLATE_OR_PLAGIARISM aARCHIVE_PAGE aLINK_LIST_PART aSAME_SITE_RELATED aCITATION_OR_SPAM aSHARED_TEXT_OR_PLAGIARISM aSW kSW p1 p2 p3 h0 n0 _ T143.heap _
        rw [e143]
        exact ⟨rfl, N143⟩
      · rw [hv130]
        show OwnGo p e below _ (T126.setTop (mkF m 127 #[.val (.int p1), .val (.int p2), .val (.int p3), .val (.ref a76), .val (.ref a87), .val (.ref a102), .val (.int (0 : Int32)), .val (.int (0 : Int32)), .unset, .unset] [(.int (2 : Int32))]))
        refine own_go (fun _ k => XS.istore X126.here hx rfl (hb hby at_127) rfl (l' := #[.val (.int p1), .val (.int p2), .val (.int p3), .val (.ref a76), .val (.ref a87), .val (.ref a102), .val (.int (0 : Int32)), .val (.int (0 : Int32)), .val (.int (2 : Int32)), .unset]) rfl k) ?_
        show OwnGo p e below _ (T126.setTop (mkF m 129 #[.val (.int p1), .val (.int p2), .val (.int p3), .val (.ref a76), .val (.ref a87), .val (.ref a102), .val (.int (0 : Int32)), .val (.int (0 : Int32)), .val (.int (2 : Int32)), .unset] []))
        refine own_go (fun _ k => XS.iconst X126.here hx rfl (hb hby at_129) k) ?_
        show OwnGo p e below _ (T126.setTop (mkF m 130 #[.val (.int p1), .val (.int p2), .val (.int p3), .val (.ref a76), .val (.ref a87), .val (.ref a102), .val (.int (0 : Int32)), .val (.int (0 : Int32)), .val (.int (2 : Int32)), .unset] [(.int (2 : Int32))]))
        refine own_go (fun _ k => XS.iload X126.here hx rfl (hb hby at_130) rfl k) ?_
        show OwnGo p e below _ (T126.setTop (mkF m 132 #[.val (.int p1), .val (.int p2), .val (.int p3), .val (.ref a76), .val (.ref a87), .val (.ref a102), .val (.int (0 : Int32)), .val (.int (0 : Int32)), .val (.int (2 : Int32)), .unset] [(.int (0 : Int32)), (.int (2 : Int32))]))
        refine own_go (fun _ k => XS.imul X126.here hx rfl (hb hby at_132) rfl k) ?_
        show OwnGo p e below _ (T126.setTop (mkF m 133 #[.val (.int p1), .val (.int p2), .val (.int p3), .val (.ref a76), .val (.ref a87), .val (.ref a102), .val (.int (0 : Int32)), .val (.int (0 : Int32)), .val (.int (2 : Int32)), .unset] [(.int ((2 : Int32) * (0 : Int32)))]))
        rw [show ((2 : Int32) * (0 : Int32)) = (0 : Int32) from by decide]
        show OwnGo p e below _ (T126.setTop (mkF m 133 #[.val (.int p1), .val (.int p2), .val (.int p3), .val (.ref a76), .val (.ref a87), .val (.ref a102), .val (.int (0 : Int32)), .val (.int (0 : Int32)), .val (.int (2 : Int32)), .unset] [(.int (0 : Int32))]))
        refine own_go (fun _ k => XS.iload X126.here hx rfl (hb hby at_133) rfl k) ?_
        show OwnGo p e below _ (T126.setTop (mkF m 135 #[.val (.int p1), .val (.int p2), .val (.int p3), .val (.ref a76), .val (.ref a87), .val (.ref a102), .val (.int (0 : Int32)), .val (.int (0 : Int32)), .val (.int (2 : Int32)), .unset] [(.int (0 : Int32)), (.int (0 : Int32))]))
        refine own_go (fun _ k => XS.ifYes X126.here hx rfl (pc0 := 135) (pc' := 142) rfl (hb hby at_135) rfl (by decide) (by decide) (by decide) k) ?_
        show OwnGo p e below _ (T126.setTop (mkF m 142 #[.val (.int p1), .val (.int p2), .val (.int p3), .val (.ref a76), .val (.ref a87), .val (.ref a102), .val (.int (0 : Int32)), .val (.int (0 : Int32)), .val (.int (2 : Int32)), .unset] [(.int (0 : Int32))]))
        refine own_go (fun _ k => XS.iconst X126.here hx rfl (hb hby at_142) k) ?_
        show OwnGo p e below _ (T126.setTop (mkF m 143 #[.val (.int p1), .val (.int p2), .val (.int p3), .val (.ref a76), .val (.ref a87), .val (.ref a102), .val (.int (0 : Int32)), .val (.int (0 : Int32)), .val (.int (2 : Int32)), .unset] [(.int (1 : Int32)), (.int (0 : Int32))]))
        refine own_go (fun _ k => XS.iadd X126.here hx rfl (hb hby at_143) rfl k) ?_
        show OwnGo p e below _ (T126.setTop (mkF m 144 #[.val (.int p1), .val (.int p2), .val (.int p3), .val (.ref a76), .val (.ref a87), .val (.ref a102), .val (.int (0 : Int32)), .val (.int (0 : Int32)), .val (.int (2 : Int32)), .unset] [(.int ((0 : Int32) + (1 : Int32)))]))
        rw [show ((0 : Int32) + (1 : Int32)) = (1 : Int32) from by decide]
        show OwnGo p e below _ (T126.setTop (mkF m 144 #[.val (.int p1), .val (.int p2), .val (.int p3), .val (.ref a76), .val (.ref a87), .val (.ref a102), .val (.int (0 : Int32)), .val (.int (0 : Int32)), .val (.int (2 : Int32)), .unset] [(.int (1 : Int32))]))
        refine own_go (fun _ k => XS.iload X126.here hx rfl (hb hby at_144) rfl k) ?_
        show OwnGo p e below _ (T126.setTop (mkF m 146 #[.val (.int p1), .val (.int p2), .val (.int p3), .val (.ref a76), .val (.ref a87), .val (.ref a102), .val (.int (0 : Int32)), .val (.int (0 : Int32)), .val (.int (2 : Int32)), .unset] [(.int (0 : Int32)), (.int (1 : Int32))]))
        refine own_go (fun _ k => XS.iconst X126.here hx rfl (hb hby at_146) k) ?_
        show OwnGo p e below _ (T126.setTop (mkF m 147 #[.val (.int p1), .val (.int p2), .val (.int p3), .val (.ref a76), .val (.ref a87), .val (.ref a102), .val (.int (0 : Int32)), .val (.int (0 : Int32)), .val (.int (2 : Int32)), .unset] [(.int (2 : Int32)), (.int (0 : Int32)), (.int (1 : Int32))]))
        refine own_go (fun _ k => XS.icmpYes X126.here hx rfl (pc0 := 147) (pc' := 165) rfl (hb hby at_147) rfl (by decide) (by decide) (by decide) k) ?_
        show OwnGo p e below _ (T126.setTop (mkF m 165 #[.val (.int p1), .val (.int p2), .val (.int p3), .val (.ref a76), .val (.ref a87), .val (.ref a102), .val (.int (0 : Int32)), .val (.int (0 : Int32)), .val (.int (2 : Int32)), .unset] [(.int (1 : Int32))]))
        refine own_go (fun _ k => XS.iconst X126.here hx rfl (hb hby at_165) k) ?_
        show OwnGo p e below _ (T126.setTop (mkF m 166 #[.val (.int p1), .val (.int p2), .val (.int p3), .val (.ref a76), .val (.ref a87), .val (.ref a102), .val (.int (0 : Int32)), .val (.int (0 : Int32)), .val (.int (2 : Int32)), .unset] [(.int (0 : Int32)), (.int (1 : Int32))]))
        refine own_go (fun _ k => XS.iadd X126.here hx rfl (hb hby at_166) rfl k) ?_
        show OwnGo p e below _ (T126.setTop (mkF m 167 #[.val (.int p1), .val (.int p2), .val (.int p3), .val (.ref a76), .val (.ref a87), .val (.ref a102), .val (.int (0 : Int32)), .val (.int (0 : Int32)), .val (.int (2 : Int32)), .unset] [(.int ((1 : Int32) + (0 : Int32)))]))
        rw [show ((1 : Int32) + (0 : Int32)) = (1 : Int32) from by decide]
        show OwnGo p e below _ (T126.setTop (mkF m 167 #[.val (.int p1), .val (.int p2), .val (.int p3), .val (.ref a76), .val (.ref a87), .val (.ref a102), .val (.int (0 : Int32)), .val (.int (0 : Int32)), .val (.int (2 : Int32)), .unset] [(.int (1 : Int32))]))
        refine own_go (fun _ k => XS.istore X126.here hx rfl (hb hby at_167) rfl (l' := #[.val (.int p1), .val (.int p2), .val (.int p3), .val (.ref a76), .val (.ref a87), .val (.ref a102), .val (.int (0 : Int32)), .val (.int (0 : Int32)), .val (.int (2 : Int32)), .val (.int (1 : Int32))]) rfl k) ?_
        show OwnGo p e below _ (T126.setTop (mkF m 169 #[.val (.int p1), .val (.int p2), .val (.int p3), .val (.ref a76), .val (.ref a87), .val (.ref a102), .val (.int (0 : Int32)), .val (.int (0 : Int32)), .val (.int (2 : Int32)), .val (.int (1 : Int32))] []))
        refine own_go (fun _ k => XS.aloadN X126.here hx rfl (hb hby at_169) rfl rfl k) ?_
        show OwnGo p e below _ (T126.setTop (mkF m 170 #[.val (.int p1), .val (.int p2), .val (.int p3), .val (.ref a76), .val (.ref a87), .val (.ref a102), .val (.int (0 : Int32)), .val (.int (0 : Int32)), .val (.int (2 : Int32)), .val (.int (1 : Int32))] [(.ref a76)]))
        refine own_go (fun _ k => XS.iload X126.here hx rfl (hb hby at_170) rfl k) ?_
        show OwnGo p e below _ (T126.setTop (mkF m 172 #[.val (.int p1), .val (.int p2), .val (.int p3), .val (.ref a76), .val (.ref a87), .val (.ref a102), .val (.int (0 : Int32)), .val (.int (0 : Int32)), .val (.int (2 : Int32)), .val (.int (1 : Int32))] [(.int (0 : Int32)), (.ref a76)]))
        have F147 := ((((((((F103.ext E102).other W108 ne104).other W111 ne104).other W114 ne104).other W117 ne104).other W120 ne104).other W123 ne104).other W126 ne104)
        obtain ⟨c148, Ar148, q148, S148, M148, H148, G148⟩ := (id F147)
        refine own_go (fun _ k => X126.aaload hx (j := (0 : Int32)) (v := (.ref aIDENTICAL)) (by rw [e126]; exact Ar148.1) (State.isArrayOf_alike hZ.alike Ar148.2.1) rfl Ar148.2.2 (inb_of S148 ⟨by decide, by decide⟩) (Has.at H148 (inb_of S148 ⟨by decide, by decide⟩) rfl) (g := (mkF m 172 #[.val (.int p1), .val (.int p2), .val (.int p3), .val (.ref a76), .val (.ref a87), .val (.ref a102), .val (.int (0 : Int32)), .val (.int (0 : Int32)), .val (.int (2 : Int32)), .val (.int (1 : Int32))] [(.int (0 : Int32)), (.ref a76)])) rfl rfl (hb hby at_172) _ k) ?_
        show OwnGo p e below _ (T126.setTop (mkF m 173 #[.val (.int p1), .val (.int p2), .val (.int p3), .val (.ref a76), .val (.ref a87), .val (.ref a102), .val (.int (0 : Int32)), .val (.int (0 : Int32)), .val (.int (2 : Int32)), .val (.int (1 : Int32))] [(.ref aIDENTICAL)]))
        refine own_go (fun _ k => XS.iload X126.here hx rfl (hb hby at_173) rfl k) ?_
        show OwnGo p e below _ (T126.setTop (mkF m 175 #[.val (.int p1), .val (.int p2), .val (.int p3), .val (.ref a76), .val (.ref a87), .val (.ref a102), .val (.int (0 : Int32)), .val (.int (0 : Int32)), .val (.int (2 : Int32)), .val (.int (1 : Int32))] [(.int (0 : Int32)), (.ref aIDENTICAL)]))
        refine own_go (fun _ k => XS.aload X126.here hx rfl (hb hby at_175) rfl rfl k) ?_
        show OwnGo p e below _ (T126.setTop (mkF m 177 #[.val (.int p1), .val (.int p2), .val (.int p3), .val (.ref a76), .val (.ref a87), .val (.ref a102), .val (.int (0 : Int32)), .val (.int (0 : Int32)), .val (.int (2 : Int32)), .val (.int (1 : Int32))] [(.ref a87), (.int (0 : Int32)), (.ref aIDENTICAL)]))
        refine own_go (fun _ k => XS.iload X126.here hx rfl (hb hby at_177) rfl k) ?_
        show OwnGo p e below _ (T126.setTop (mkF m 179 #[.val (.int p1), .val (.int p2), .val (.int p3), .val (.ref a76), .val (.ref a87), .val (.ref a102), .val (.int (0 : Int32)), .val (.int (0 : Int32)), .val (.int (2 : Int32)), .val (.int (1 : Int32))] [(.int (2 : Int32)), (.ref a87), (.int (0 : Int32)), (.ref aIDENTICAL)]))
        have F149 := ((((((((V100.ext E102).other W108 ne105).other W111 ne105).other W114 ne105).other W117 ne105).other W120 ne105).other W123 ne105).other W126 ne105)
        obtain ⟨c150, Ar150, q150, S150, M150, H150, G150⟩ := (id F149)
        refine own_go (fun _ k => X126.aaload hx (j := (2 : Int32)) (v := (.ref aBOTH)) (by rw [e126]; exact Ar150.1) (State.isArrayOf_alike hZ.alike Ar150.2.1) rfl Ar150.2.2 (inb_of S150 ⟨by decide, by decide⟩) (Has.at H150 (inb_of S150 ⟨by decide, by decide⟩) rfl) (g := (mkF m 179 #[.val (.int p1), .val (.int p2), .val (.int p3), .val (.ref a76), .val (.ref a87), .val (.ref a102), .val (.int (0 : Int32)), .val (.int (0 : Int32)), .val (.int (2 : Int32)), .val (.int (1 : Int32))] [(.int (2 : Int32)), (.ref a87), (.int (0 : Int32)), (.ref aIDENTICAL)])) rfl rfl (hb hby at_179) _ k) ?_
        show OwnGo p e below _ (T126.setTop (mkF m 180 #[.val (.int p1), .val (.int p2), .val (.int p3), .val (.ref a76), .val (.ref a87), .val (.ref a102), .val (.int (0 : Int32)), .val (.int (0 : Int32)), .val (.int (2 : Int32)), .val (.int (1 : Int32))] [(.ref aBOTH), (.int (0 : Int32)), (.ref aIDENTICAL)]))
        obtain ⟨_, _, ⟨T151, L151, k151, n151⟩, -, X151, hS151, hg151, ⟨Lc151, hQ151, l151, y151, z151⟩, st151⟩ := callSS X126 hx (y := (⟨"com/example/page_copy_finder/pagecopyfinder/copies/PairLabel", "of", "(Lcom/example/page_copy_finder/pagecopyfinder/copies/PairKind;ZLcom/example/page_copy_finder/pagecopyfinder/copies/PairLinks;)Lcom/example/page_copy_finder/pagecopyfinder/copies/PairLabel;"⟩ : MethodName)) hown (mvT hZ (hw _ (List.mem_of_getElem? (i := 41) rfl))) (mvT hZ (hw _ (List.mem_of_getElem? (i := 42) rfl))) (mvT hZ (hw _ (List.mem_of_getElem? (i := 25) rfl))) (mvT hZ (hw _ (List.mem_of_getElem? (i := 43) rfl))) (by decide) (backOfS (W := 0) (rm_of00 l Z a0 hw [] aIDENTICAL aCONTAINMENT aPARTIAL aA_TO_B aB_TO_A aBOTH aNONE aMIRROR aTEMPLATE_OR_PLAGIARISM aARCHIVE_PAGE aLINK_LIST_PART aSAME_SITE_RELATED aCITATION_OR_SPAM aSHARED_TEXT_OR_PLAGIARISM aSW kSW F0 aBOTH h126 n0 O126) hZ (hw _ (List.mem_of_getElem? (i := 43) rfl)) (hw _ (List.mem_of_getElem? (i := 25) rfl)) (by decide) (by decide)) (g := (mkF m 180 #[.val (.int p1), .val (.int p2), .val (.int p3), .val (.ref a76), .val (.ref a87), .val (.ref a102), .val (.int (0 : Int32)), .val (.int (0 : Int32)), .val (.int (2 : Int32)), .val (.int (1 : Int32))] [(.ref aBOTH), (.int (0 : Int32)), (.ref aIDENTICAL)])) rfl (by rw [hml]; rfl) (argsL := [(.ref aIDENTICAL), (.int (0 : Int32)), (.ref aBOTH)]) (rest := []) (lenOf pd_Lcom_example_page_copy_finder_pagecopyfinder_copies_PairKind__Z_Lcom_example_page_copy_finder_pagecopyfinder_copies_PairLinks___Lcom_example_page_copy_finder_pagecopyfinder_copies_PairLabel_ rfl) rfl (by show 2 * 0 + _ ≤ _; exact Nat.le_of_eq rfl) (hb hby at_180) (fun _ _ => ⟨rfl, e126, (by decide : 3 + 4 ≤ _), (by decide : 14 + 44 ≤ _)⟩)
        dsimp only [Pt.U, Pt.locs, Pt.cells, Pt.slots] at X151 l151 y151 z151 st151 hQ151 hS151 hg151
        subst l151 y151 z151
        obtain ⟨rfl, Nq151, K151⟩ := hQ151
        have N151 := Fr.app N126 Nq151
        have hZ : Z.Warmed39 (s.setVm T151.vm).vm := State.Warmed39.trans hZ hS151.1
        have hown : (s.setVm T151.vm).vm.findClass "com/example/page_copy_finder/pagecopyfinder/copies/PairLabelOfPinLaw" = some m.cls := (hS151.1.alike.findClass _ _).trans hown
        have O151 := O126.keep K151 all0
        have e151 : T151.heap = T151.heap := rfl
        have z152 : h0.size ≤ T151.heap.size := Nat.le_trans z127 K151.1
        refine own_go (fun _ k => st151.trans k) ?_
        show OwnGo p e below _ (T151.setTop (mkF m 183 #[.val (.int p1), .val (.int p2), .val (.int p3), .val (.ref a76), .val (.ref a87), .val (.ref a102), .val (.int (0 : Int32)), .val (.int (0 : Int32)), .val (.int (2 : Int32)), .val (.int (1 : Int32))] [(.ref aTEMPLATE_OR_PLAGIARISM)]))
        refine own_go (fun _ k => XS.aload X151.here hx rfl (hb hby at_183) rfl rfl k) ?_
        show OwnGo p e below _ (T151.setTop (mkF m 185 #[.val (.int p1), .val (.int p2), .val (.int p3), .val (.ref a76), .val (.ref a87), .val (.ref a102), .val (.int (0 : Int32)), .val (.int (0 : Int32)), .val (.int (2 : Int32)), .val (.int (1 : Int32))] [(.ref a102), (.ref aTEMPLATE_OR_PLAGIARISM)]))
        refine own_go (fun _ k => XS.iload X151.here hx rfl (hb hby at_185) rfl k) ?_
        show OwnGo p e below _ (T151.setTop (mkF m 187 #[.val (.int p1), .val (.int p2), .val (.int p3), .val (.ref a76), .val (.ref a87), .val (.ref a102), .val (.int (0 : Int32)), .val (.int (0 : Int32)), .val (.int (2 : Int32)), .val (.int (1 : Int32))] [(.int (1 : Int32)), (.ref a102), (.ref aTEMPLATE_OR_PLAGIARISM)]))
        have F153 := (V126.keep K151 nin0)
        obtain ⟨c154, Ar154, q154, S154, M154, H154, G154⟩ := (id F153)
        refine own_go (fun _ k => X151.aaload hx (j := (1 : Int32)) (v := (.ref aTEMPLATE_OR_PLAGIARISM)) (by rw [e151]; exact Ar154.1) (State.isArrayOf_alike hZ.alike Ar154.2.1) rfl Ar154.2.2 (inb_of S154 ⟨by decide, by decide⟩) (Has.at H154 (inb_of S154 ⟨by decide, by decide⟩) rfl) (g := (mkF m 187 #[.val (.int p1), .val (.int p2), .val (.int p3), .val (.ref a76), .val (.ref a87), .val (.ref a102), .val (.int (0 : Int32)), .val (.int (0 : Int32)), .val (.int (2 : Int32)), .val (.int (1 : Int32))] [(.int (1 : Int32)), (.ref a102), (.ref aTEMPLATE_OR_PLAGIARISM)])) rfl rfl (hb hby at_187) _ k) ?_
        show OwnGo p e below _ (T151.setTop (mkF m 188 #[.val (.int p1), .val (.int p2), .val (.int p3), .val (.ref a76), .val (.ref a87), .val (.ref a102), .val (.int (0 : Int32)), .val (.int (0 : Int32)), .val (.int (2 : Int32)), .val (.int (1 : Int32))] [(.ref aTEMPLATE_OR_PLAGIARISM), (.ref aTEMPLATE_OR_PLAGIARISM)]))
        refine own_go (fun _ k => acmp X151 hx rfl (cd := .ne) (o := 7) (x := (.ref aTEMPLATE_OR_PLAGIARISM)) (y := (.ref aTEMPLATE_OR_PLAGIARISM)) (pc0 := 188) (pc' := 191) rfl rfl rfl (hb hby at_188) rfl (own_refeq _) (by decide) (by decide) k) ?_
        show OwnGo p e below _ (T151.setTop (mkF m 191 #[.val (.int p1), .val (.int p2), .val (.int p3), .val (.ref a76), .val (.ref a87), .val (.ref a102), .val (.int (0 : Int32)), .val (.int (0 : Int32)), .val (.int (2 : Int32)), .val (.int (1 : Int32))] []))
        refine own_go (fun _ k => XS.iconst X151.here hx rfl (hb hby at_191) k) ?_
        show OwnGo p e below _ (T151.setTop (mkF m 192 #[.val (.int p1), .val (.int p2), .val (.int p3), .val (.ref a76), .val (.ref a87), .val (.ref a102), .val (.int (0 : Int32)), .val (.int (0 : Int32)), .val (.int (2 : Int32)), .val (.int (1 : Int32))] [(.int (1 : Int32))]))
        refine own_go (fun _ k => XS.goto X151.here hx rfl (pc0 := 192) (pc' := 196) rfl (hb hby at_192) (by decide) (by decide) k) ?_
        show OwnGo p e below _ (T151.setTop (mkF m 196 #[.val (.int p1), .val (.int p2), .val (.int p3), .val (.ref a76), .val (.ref a87), .val (.ref a102), .val (.int (0 : Int32)), .val (.int (0 : Int32)), .val (.int (2 : Int32)), .val (.int (1 : Int32))] [(.int (1 : Int32))]))
        obtain ⟨fs, hr, hrun, hended, hEnd⟩ := Jvm.Stand.leaveW (s := s) (vm₁ := T151.vm) X151 hS151 (by rw [e151]; exact (Nat.le_refl _)) (v := some (.int (1 : Int32))) (fun h => by rw [Bd.returns] at h; cases h)
        refine ⟨_, _, retOut X151 hx Bd.returns rfl (Or.inl ⟨rfl, Or.inr (Or.inl rfl), _, rfl⟩) (hb hby at_196) hr, hrun, hended, _, _, rfl, ?_, own_monoW hEnd (by decide) (by decide)⟩
        show Q_law Z aIDENTICAL aCONTAINMENT aPARTIAL aA_TO_B aB_TO_A aBOTH aNONE aMIRROR aTEMPLATE_OR_PLAGIARISM aARCHIVE_PAGE aLINK_LIST_PART aSAME_SITE_RELATED aCITATION_OR_SPAM aSHARED_TEXT_OR_PLAGIARISM aSW kSW p1 p2 p3 h0 n0 _ T151.heap _
        rw [e151]
        exact ⟨rfl, N151⟩
      · rw [hv130]
        show OwnGo p e below _ (T126.setTop (mkF m 127 #[.val (.int p1), .val (.int p2), .val (.int p3), .val (.ref a76), .val (.ref a87), .val (.ref a102), .val (.int (0 : Int32)), .val (.int (0 : Int32)), .unset, .unset] [(.int (3 : Int32))]))
        refine own_go (fun _ k => XS.istore X126.here hx rfl (hb hby at_127) rfl (l' := #[.val (.int p1), .val (.int p2), .val (.int p3), .val (.ref a76), .val (.ref a87), .val (.ref a102), .val (.int (0 : Int32)), .val (.int (0 : Int32)), .val (.int (3 : Int32)), .unset]) rfl k) ?_
        show OwnGo p e below _ (T126.setTop (mkF m 129 #[.val (.int p1), .val (.int p2), .val (.int p3), .val (.ref a76), .val (.ref a87), .val (.ref a102), .val (.int (0 : Int32)), .val (.int (0 : Int32)), .val (.int (3 : Int32)), .unset] []))
        refine own_go (fun _ k => XS.iconst X126.here hx rfl (hb hby at_129) k) ?_
        show OwnGo p e below _ (T126.setTop (mkF m 130 #[.val (.int p1), .val (.int p2), .val (.int p3), .val (.ref a76), .val (.ref a87), .val (.ref a102), .val (.int (0 : Int32)), .val (.int (0 : Int32)), .val (.int (3 : Int32)), .unset] [(.int (2 : Int32))]))
        refine own_go (fun _ k => XS.iload X126.here hx rfl (hb hby at_130) rfl k) ?_
        show OwnGo p e below _ (T126.setTop (mkF m 132 #[.val (.int p1), .val (.int p2), .val (.int p3), .val (.ref a76), .val (.ref a87), .val (.ref a102), .val (.int (0 : Int32)), .val (.int (0 : Int32)), .val (.int (3 : Int32)), .unset] [(.int (0 : Int32)), (.int (2 : Int32))]))
        refine own_go (fun _ k => XS.imul X126.here hx rfl (hb hby at_132) rfl k) ?_
        show OwnGo p e below _ (T126.setTop (mkF m 133 #[.val (.int p1), .val (.int p2), .val (.int p3), .val (.ref a76), .val (.ref a87), .val (.ref a102), .val (.int (0 : Int32)), .val (.int (0 : Int32)), .val (.int (3 : Int32)), .unset] [(.int ((2 : Int32) * (0 : Int32)))]))
        rw [show ((2 : Int32) * (0 : Int32)) = (0 : Int32) from by decide]
        show OwnGo p e below _ (T126.setTop (mkF m 133 #[.val (.int p1), .val (.int p2), .val (.int p3), .val (.ref a76), .val (.ref a87), .val (.ref a102), .val (.int (0 : Int32)), .val (.int (0 : Int32)), .val (.int (3 : Int32)), .unset] [(.int (0 : Int32))]))
        refine own_go (fun _ k => XS.iload X126.here hx rfl (hb hby at_133) rfl k) ?_
        show OwnGo p e below _ (T126.setTop (mkF m 135 #[.val (.int p1), .val (.int p2), .val (.int p3), .val (.ref a76), .val (.ref a87), .val (.ref a102), .val (.int (0 : Int32)), .val (.int (0 : Int32)), .val (.int (3 : Int32)), .unset] [(.int (0 : Int32)), (.int (0 : Int32))]))
        refine own_go (fun _ k => XS.ifYes X126.here hx rfl (pc0 := 135) (pc' := 142) rfl (hb hby at_135) rfl (by decide) (by decide) (by decide) k) ?_
        show OwnGo p e below _ (T126.setTop (mkF m 142 #[.val (.int p1), .val (.int p2), .val (.int p3), .val (.ref a76), .val (.ref a87), .val (.ref a102), .val (.int (0 : Int32)), .val (.int (0 : Int32)), .val (.int (3 : Int32)), .unset] [(.int (0 : Int32))]))
        refine own_go (fun _ k => XS.iconst X126.here hx rfl (hb hby at_142) k) ?_
        show OwnGo p e below _ (T126.setTop (mkF m 143 #[.val (.int p1), .val (.int p2), .val (.int p3), .val (.ref a76), .val (.ref a87), .val (.ref a102), .val (.int (0 : Int32)), .val (.int (0 : Int32)), .val (.int (3 : Int32)), .unset] [(.int (1 : Int32)), (.int (0 : Int32))]))
        refine own_go (fun _ k => XS.iadd X126.here hx rfl (hb hby at_143) rfl k) ?_
        show OwnGo p e below _ (T126.setTop (mkF m 144 #[.val (.int p1), .val (.int p2), .val (.int p3), .val (.ref a76), .val (.ref a87), .val (.ref a102), .val (.int (0 : Int32)), .val (.int (0 : Int32)), .val (.int (3 : Int32)), .unset] [(.int ((0 : Int32) + (1 : Int32)))]))
        rw [show ((0 : Int32) + (1 : Int32)) = (1 : Int32) from by decide]
        show OwnGo p e below _ (T126.setTop (mkF m 144 #[.val (.int p1), .val (.int p2), .val (.int p3), .val (.ref a76), .val (.ref a87), .val (.ref a102), .val (.int (0 : Int32)), .val (.int (0 : Int32)), .val (.int (3 : Int32)), .unset] [(.int (1 : Int32))]))
        refine own_go (fun _ k => XS.iload X126.here hx rfl (hb hby at_144) rfl k) ?_
        show OwnGo p e below _ (T126.setTop (mkF m 146 #[.val (.int p1), .val (.int p2), .val (.int p3), .val (.ref a76), .val (.ref a87), .val (.ref a102), .val (.int (0 : Int32)), .val (.int (0 : Int32)), .val (.int (3 : Int32)), .unset] [(.int (0 : Int32)), (.int (1 : Int32))]))
        refine own_go (fun _ k => XS.iconst X126.here hx rfl (hb hby at_146) k) ?_
        show OwnGo p e below _ (T126.setTop (mkF m 147 #[.val (.int p1), .val (.int p2), .val (.int p3), .val (.ref a76), .val (.ref a87), .val (.ref a102), .val (.int (0 : Int32)), .val (.int (0 : Int32)), .val (.int (3 : Int32)), .unset] [(.int (2 : Int32)), (.int (0 : Int32)), (.int (1 : Int32))]))
        refine own_go (fun _ k => XS.icmpYes X126.here hx rfl (pc0 := 147) (pc' := 165) rfl (hb hby at_147) rfl (by decide) (by decide) (by decide) k) ?_
        show OwnGo p e below _ (T126.setTop (mkF m 165 #[.val (.int p1), .val (.int p2), .val (.int p3), .val (.ref a76), .val (.ref a87), .val (.ref a102), .val (.int (0 : Int32)), .val (.int (0 : Int32)), .val (.int (3 : Int32)), .unset] [(.int (1 : Int32))]))
        refine own_go (fun _ k => XS.iconst X126.here hx rfl (hb hby at_165) k) ?_
        show OwnGo p e below _ (T126.setTop (mkF m 166 #[.val (.int p1), .val (.int p2), .val (.int p3), .val (.ref a76), .val (.ref a87), .val (.ref a102), .val (.int (0 : Int32)), .val (.int (0 : Int32)), .val (.int (3 : Int32)), .unset] [(.int (0 : Int32)), (.int (1 : Int32))]))
        refine own_go (fun _ k => XS.iadd X126.here hx rfl (hb hby at_166) rfl k) ?_
        show OwnGo p e below _ (T126.setTop (mkF m 167 #[.val (.int p1), .val (.int p2), .val (.int p3), .val (.ref a76), .val (.ref a87), .val (.ref a102), .val (.int (0 : Int32)), .val (.int (0 : Int32)), .val (.int (3 : Int32)), .unset] [(.int ((1 : Int32) + (0 : Int32)))]))
        rw [show ((1 : Int32) + (0 : Int32)) = (1 : Int32) from by decide]
        show OwnGo p e below _ (T126.setTop (mkF m 167 #[.val (.int p1), .val (.int p2), .val (.int p3), .val (.ref a76), .val (.ref a87), .val (.ref a102), .val (.int (0 : Int32)), .val (.int (0 : Int32)), .val (.int (3 : Int32)), .unset] [(.int (1 : Int32))]))
        refine own_go (fun _ k => XS.istore X126.here hx rfl (hb hby at_167) rfl (l' := #[.val (.int p1), .val (.int p2), .val (.int p3), .val (.ref a76), .val (.ref a87), .val (.ref a102), .val (.int (0 : Int32)), .val (.int (0 : Int32)), .val (.int (3 : Int32)), .val (.int (1 : Int32))]) rfl k) ?_
        show OwnGo p e below _ (T126.setTop (mkF m 169 #[.val (.int p1), .val (.int p2), .val (.int p3), .val (.ref a76), .val (.ref a87), .val (.ref a102), .val (.int (0 : Int32)), .val (.int (0 : Int32)), .val (.int (3 : Int32)), .val (.int (1 : Int32))] []))
        refine own_go (fun _ k => XS.aloadN X126.here hx rfl (hb hby at_169) rfl rfl k) ?_
        show OwnGo p e below _ (T126.setTop (mkF m 170 #[.val (.int p1), .val (.int p2), .val (.int p3), .val (.ref a76), .val (.ref a87), .val (.ref a102), .val (.int (0 : Int32)), .val (.int (0 : Int32)), .val (.int (3 : Int32)), .val (.int (1 : Int32))] [(.ref a76)]))
        refine own_go (fun _ k => XS.iload X126.here hx rfl (hb hby at_170) rfl k) ?_
        show OwnGo p e below _ (T126.setTop (mkF m 172 #[.val (.int p1), .val (.int p2), .val (.int p3), .val (.ref a76), .val (.ref a87), .val (.ref a102), .val (.int (0 : Int32)), .val (.int (0 : Int32)), .val (.int (3 : Int32)), .val (.int (1 : Int32))] [(.int (0 : Int32)), (.ref a76)]))
        have F155 := ((((((((F103.ext E102).other W108 ne104).other W111 ne104).other W114 ne104).other W117 ne104).other W120 ne104).other W123 ne104).other W126 ne104)
        obtain ⟨c156, Ar156, q156, S156, M156, H156, G156⟩ := (id F155)
        refine own_go (fun _ k => X126.aaload hx (j := (0 : Int32)) (v := (.ref aIDENTICAL)) (by rw [e126]; exact Ar156.1) (State.isArrayOf_alike hZ.alike Ar156.2.1) rfl Ar156.2.2 (inb_of S156 ⟨by decide, by decide⟩) (Has.at H156 (inb_of S156 ⟨by decide, by decide⟩) rfl) (g := (mkF m 172 #[.val (.int p1), .val (.int p2), .val (.int p3), .val (.ref a76), .val (.ref a87), .val (.ref a102), .val (.int (0 : Int32)), .val (.int (0 : Int32)), .val (.int (3 : Int32)), .val (.int (1 : Int32))] [(.int (0 : Int32)), (.ref a76)])) rfl rfl (hb hby at_172) _ k) ?_
        show OwnGo p e below _ (T126.setTop (mkF m 173 #[.val (.int p1), .val (.int p2), .val (.int p3), .val (.ref a76), .val (.ref a87), .val (.ref a102), .val (.int (0 : Int32)), .val (.int (0 : Int32)), .val (.int (3 : Int32)), .val (.int (1 : Int32))] [(.ref aIDENTICAL)]))
        refine own_go (fun _ k => XS.iload X126.here hx rfl (hb hby at_173) rfl k) ?_
        show OwnGo p e below _ (T126.setTop (mkF m 175 #[.val (.int p1), .val (.int p2), .val (.int p3), .val (.ref a76), .val (.ref a87), .val (.ref a102), .val (.int (0 : Int32)), .val (.int (0 : Int32)), .val (.int (3 : Int32)), .val (.int (1 : Int32))] [(.int (0 : Int32)), (.ref aIDENTICAL)]))
        refine own_go (fun _ k => XS.aload X126.here hx rfl (hb hby at_175) rfl rfl k) ?_
        show OwnGo p e below _ (T126.setTop (mkF m 177 #[.val (.int p1), .val (.int p2), .val (.int p3), .val (.ref a76), .val (.ref a87), .val (.ref a102), .val (.int (0 : Int32)), .val (.int (0 : Int32)), .val (.int (3 : Int32)), .val (.int (1 : Int32))] [(.ref a87), (.int (0 : Int32)), (.ref aIDENTICAL)]))
        refine own_go (fun _ k => XS.iload X126.here hx rfl (hb hby at_177) rfl k) ?_
        show OwnGo p e below _ (T126.setTop (mkF m 179 #[.val (.int p1), .val (.int p2), .val (.int p3), .val (.ref a76), .val (.ref a87), .val (.ref a102), .val (.int (0 : Int32)), .val (.int (0 : Int32)), .val (.int (3 : Int32)), .val (.int (1 : Int32))] [(.int (3 : Int32)), (.ref a87), (.int (0 : Int32)), (.ref aIDENTICAL)]))
        have F157 := ((((((((V100.ext E102).other W108 ne105).other W111 ne105).other W114 ne105).other W117 ne105).other W120 ne105).other W123 ne105).other W126 ne105)
        obtain ⟨c158, Ar158, q158, S158, M158, H158, G158⟩ := (id F157)
        refine own_go (fun _ k => X126.aaload hx (j := (3 : Int32)) (v := (.ref aNONE)) (by rw [e126]; exact Ar158.1) (State.isArrayOf_alike hZ.alike Ar158.2.1) rfl Ar158.2.2 (inb_of S158 ⟨by decide, by decide⟩) (Has.at H158 (inb_of S158 ⟨by decide, by decide⟩) rfl) (g := (mkF m 179 #[.val (.int p1), .val (.int p2), .val (.int p3), .val (.ref a76), .val (.ref a87), .val (.ref a102), .val (.int (0 : Int32)), .val (.int (0 : Int32)), .val (.int (3 : Int32)), .val (.int (1 : Int32))] [(.int (3 : Int32)), (.ref a87), (.int (0 : Int32)), (.ref aIDENTICAL)])) rfl rfl (hb hby at_179) _ k) ?_
        show OwnGo p e below _ (T126.setTop (mkF m 180 #[.val (.int p1), .val (.int p2), .val (.int p3), .val (.ref a76), .val (.ref a87), .val (.ref a102), .val (.int (0 : Int32)), .val (.int (0 : Int32)), .val (.int (3 : Int32)), .val (.int (1 : Int32))] [(.ref aNONE), (.int (0 : Int32)), (.ref aIDENTICAL)]))
        obtain ⟨_, _, ⟨T159, L159, k159, n159⟩, -, X159, hS159, hg159, ⟨Lc159, hQ159, l159, y159, z159⟩, st159⟩ := callSS X126 hx (y := (⟨"com/example/page_copy_finder/pagecopyfinder/copies/PairLabel", "of", "(Lcom/example/page_copy_finder/pagecopyfinder/copies/PairKind;ZLcom/example/page_copy_finder/pagecopyfinder/copies/PairLinks;)Lcom/example/page_copy_finder/pagecopyfinder/copies/PairLabel;"⟩ : MethodName)) hown (mvT hZ (hw _ (List.mem_of_getElem? (i := 41) rfl))) (mvT hZ (hw _ (List.mem_of_getElem? (i := 42) rfl))) (mvT hZ (hw _ (List.mem_of_getElem? (i := 25) rfl))) (mvT hZ (hw _ (List.mem_of_getElem? (i := 43) rfl))) (by decide) (backOfS (W := 0) (rm_of00 l Z a0 hw [] aIDENTICAL aCONTAINMENT aPARTIAL aA_TO_B aB_TO_A aBOTH aNONE aMIRROR aTEMPLATE_OR_PLAGIARISM aARCHIVE_PAGE aLINK_LIST_PART aSAME_SITE_RELATED aCITATION_OR_SPAM aSHARED_TEXT_OR_PLAGIARISM aSW kSW F0 aNONE h126 n0 O126) hZ (hw _ (List.mem_of_getElem? (i := 43) rfl)) (hw _ (List.mem_of_getElem? (i := 25) rfl)) (by decide) (by decide)) (g := (mkF m 180 #[.val (.int p1), .val (.int p2), .val (.int p3), .val (.ref a76), .val (.ref a87), .val (.ref a102), .val (.int (0 : Int32)), .val (.int (0 : Int32)), .val (.int (3 : Int32)), .val (.int (1 : Int32))] [(.ref aNONE), (.int (0 : Int32)), (.ref aIDENTICAL)])) rfl (by rw [hml]; rfl) (argsL := [(.ref aIDENTICAL), (.int (0 : Int32)), (.ref aNONE)]) (rest := []) (lenOf pd_Lcom_example_page_copy_finder_pagecopyfinder_copies_PairKind__Z_Lcom_example_page_copy_finder_pagecopyfinder_copies_PairLinks___Lcom_example_page_copy_finder_pagecopyfinder_copies_PairLabel_ rfl) rfl (by show 2 * 0 + _ ≤ _; exact Nat.le_of_eq rfl) (hb hby at_180) (fun _ _ => ⟨rfl, e126, (by decide : 3 + 4 ≤ _), (by decide : 14 + 44 ≤ _)⟩)
        dsimp only [Pt.U, Pt.locs, Pt.cells, Pt.slots] at X159 l159 y159 z159 st159 hQ159 hS159 hg159
        subst l159 y159 z159
        obtain ⟨rfl, Nq159, K159⟩ := hQ159
        have N159 := Fr.app N126 Nq159
        have hZ : Z.Warmed39 (s.setVm T159.vm).vm := State.Warmed39.trans hZ hS159.1
        have hown : (s.setVm T159.vm).vm.findClass "com/example/page_copy_finder/pagecopyfinder/copies/PairLabelOfPinLaw" = some m.cls := (hS159.1.alike.findClass _ _).trans hown
        have O159 := O126.keep K159 all0
        have e159 : T159.heap = T159.heap := rfl
        have z160 : h0.size ≤ T159.heap.size := Nat.le_trans z127 K159.1
        refine own_go (fun _ k => st159.trans k) ?_
        show OwnGo p e below _ (T159.setTop (mkF m 183 #[.val (.int p1), .val (.int p2), .val (.int p3), .val (.ref a76), .val (.ref a87), .val (.ref a102), .val (.int (0 : Int32)), .val (.int (0 : Int32)), .val (.int (3 : Int32)), .val (.int (1 : Int32))] [(.ref aTEMPLATE_OR_PLAGIARISM)]))
        refine own_go (fun _ k => XS.aload X159.here hx rfl (hb hby at_183) rfl rfl k) ?_
        show OwnGo p e below _ (T159.setTop (mkF m 185 #[.val (.int p1), .val (.int p2), .val (.int p3), .val (.ref a76), .val (.ref a87), .val (.ref a102), .val (.int (0 : Int32)), .val (.int (0 : Int32)), .val (.int (3 : Int32)), .val (.int (1 : Int32))] [(.ref a102), (.ref aTEMPLATE_OR_PLAGIARISM)]))
        refine own_go (fun _ k => XS.iload X159.here hx rfl (hb hby at_185) rfl k) ?_
        show OwnGo p e below _ (T159.setTop (mkF m 187 #[.val (.int p1), .val (.int p2), .val (.int p3), .val (.ref a76), .val (.ref a87), .val (.ref a102), .val (.int (0 : Int32)), .val (.int (0 : Int32)), .val (.int (3 : Int32)), .val (.int (1 : Int32))] [(.int (1 : Int32)), (.ref a102), (.ref aTEMPLATE_OR_PLAGIARISM)]))
        have F161 := (V126.keep K159 nin0)
        obtain ⟨c162, Ar162, q162, S162, M162, H162, G162⟩ := (id F161)
        refine own_go (fun _ k => X159.aaload hx (j := (1 : Int32)) (v := (.ref aTEMPLATE_OR_PLAGIARISM)) (by rw [e159]; exact Ar162.1) (State.isArrayOf_alike hZ.alike Ar162.2.1) rfl Ar162.2.2 (inb_of S162 ⟨by decide, by decide⟩) (Has.at H162 (inb_of S162 ⟨by decide, by decide⟩) rfl) (g := (mkF m 187 #[.val (.int p1), .val (.int p2), .val (.int p3), .val (.ref a76), .val (.ref a87), .val (.ref a102), .val (.int (0 : Int32)), .val (.int (0 : Int32)), .val (.int (3 : Int32)), .val (.int (1 : Int32))] [(.int (1 : Int32)), (.ref a102), (.ref aTEMPLATE_OR_PLAGIARISM)])) rfl rfl (hb hby at_187) _ k) ?_
        show OwnGo p e below _ (T159.setTop (mkF m 188 #[.val (.int p1), .val (.int p2), .val (.int p3), .val (.ref a76), .val (.ref a87), .val (.ref a102), .val (.int (0 : Int32)), .val (.int (0 : Int32)), .val (.int (3 : Int32)), .val (.int (1 : Int32))] [(.ref aTEMPLATE_OR_PLAGIARISM), (.ref aTEMPLATE_OR_PLAGIARISM)]))
        refine own_go (fun _ k => acmp X159 hx rfl (cd := .ne) (o := 7) (x := (.ref aTEMPLATE_OR_PLAGIARISM)) (y := (.ref aTEMPLATE_OR_PLAGIARISM)) (pc0 := 188) (pc' := 191) rfl rfl rfl (hb hby at_188) rfl (own_refeq _) (by decide) (by decide) k) ?_
        show OwnGo p e below _ (T159.setTop (mkF m 191 #[.val (.int p1), .val (.int p2), .val (.int p3), .val (.ref a76), .val (.ref a87), .val (.ref a102), .val (.int (0 : Int32)), .val (.int (0 : Int32)), .val (.int (3 : Int32)), .val (.int (1 : Int32))] []))
        refine own_go (fun _ k => XS.iconst X159.here hx rfl (hb hby at_191) k) ?_
        show OwnGo p e below _ (T159.setTop (mkF m 192 #[.val (.int p1), .val (.int p2), .val (.int p3), .val (.ref a76), .val (.ref a87), .val (.ref a102), .val (.int (0 : Int32)), .val (.int (0 : Int32)), .val (.int (3 : Int32)), .val (.int (1 : Int32))] [(.int (1 : Int32))]))
        refine own_go (fun _ k => XS.goto X159.here hx rfl (pc0 := 192) (pc' := 196) rfl (hb hby at_192) (by decide) (by decide) k) ?_
        show OwnGo p e below _ (T159.setTop (mkF m 196 #[.val (.int p1), .val (.int p2), .val (.int p3), .val (.ref a76), .val (.ref a87), .val (.ref a102), .val (.int (0 : Int32)), .val (.int (0 : Int32)), .val (.int (3 : Int32)), .val (.int (1 : Int32))] [(.int (1 : Int32))]))
        obtain ⟨fs, hr, hrun, hended, hEnd⟩ := Jvm.Stand.leaveW (s := s) (vm₁ := T159.vm) X159 hS159 (by rw [e159]; exact (Nat.le_refl _)) (v := some (.int (1 : Int32))) (fun h => by rw [Bd.returns] at h; cases h)
        refine ⟨_, _, retOut X159 hx Bd.returns rfl (Or.inl ⟨rfl, Or.inr (Or.inl rfl), _, rfl⟩) (hb hby at_196) hr, hrun, hended, _, _, rfl, ?_, own_monoW hEnd (by decide) (by decide)⟩
        show Q_law Z aIDENTICAL aCONTAINMENT aPARTIAL aA_TO_B aB_TO_A aBOTH aNONE aMIRROR aTEMPLATE_OR_PLAGIARISM aARCHIVE_PAGE aLINK_LIST_PART aSAME_SITE_RELATED aCITATION_OR_SPAM aSHARED_TEXT_OR_PLAGIARISM aSW kSW p1 p2 p3 h0 n0 _ T159.heap _
        rw [e159]
        exact ⟨rfl, N159⟩
    · refine own_go (fun _ k => XS.ifNo X126.here hx rfl (hb hby at_114) rfl ((if0 _ _).trans (feq hc129).1) k) ?_
      show OwnGo p e below _ (T126.setTop (mkF m 117 #[.val (.int p1), .val (.int p2), .val (.int p3), .val (.ref a76), .val (.ref a87), .val (.ref a102), .val (.int (0 : Int32)), .unset, .unset, .unset] []))
      refine own_go (fun _ k => XS.iconst X126.here hx rfl (hb hby at_117) k) ?_
      show OwnGo p e below _ (T126.setTop (mkF m 118 #[.val (.int p1), .val (.int p2), .val (.int p3), .val (.ref a76), .val (.ref a87), .val (.ref a102), .val (.int (0 : Int32)), .unset, .unset, .unset] [(.int (1 : Int32))]))
      refine own_go (fun _ k => XS.goto X126.here hx rfl (pc0 := 118) (pc' := 122) rfl (hb hby at_118) (by decide) (by decide) k) ?_
      show OwnGo p e below _ (T126.setTop (mkF m 122 #[.val (.int p1), .val (.int p2), .val (.int p3), .val (.ref a76), .val (.ref a87), .val (.ref a102), .val (.int (0 : Int32)), .unset, .unset, .unset] [(.int (1 : Int32))]))
      refine own_go (fun _ k => XS.istore X126.here hx rfl (hb hby at_122) rfl (l' := #[.val (.int p1), .val (.int p2), .val (.int p3), .val (.ref a76), .val (.ref a87), .val (.ref a102), .val (.int (0 : Int32)), .val (.int (1 : Int32)), .unset, .unset]) rfl k) ?_
      show OwnGo p e below _ (T126.setTop (mkF m 124 #[.val (.int p1), .val (.int p2), .val (.int p3), .val (.ref a76), .val (.ref a87), .val (.ref a102), .val (.int (0 : Int32)), .val (.int (1 : Int32)), .unset, .unset] []))
      refine own_go (fun _ k => XS.iloadN X126.here hx rfl (hb hby at_124) rfl k) ?_
      show OwnGo p e below _ (T126.setTop (mkF m 125 #[.val (.int p1), .val (.int p2), .val (.int p3), .val (.ref a76), .val (.ref a87), .val (.ref a102), .val (.int (0 : Int32)), .val (.int (1 : Int32)), .unset, .unset] [(.int p3)]))
      refine own_go (fun _ k => XS.iconst X126.here hx rfl (hb hby at_125) k) ?_
      show OwnGo p e below _ (T126.setTop (mkF m 126 #[.val (.int p1), .val (.int p2), .val (.int p3), .val (.ref a76), .val (.ref a87), .val (.ref a102), .val (.int (0 : Int32)), .val (.int (1 : Int32)), .unset, .unset] [(.int (3 : Int32)), (.int p3)]))
      refine own_go (fun _ k => XS.iand X126.here hx rfl (hb hby at_126) rfl k) ?_
      show OwnGo p e below _ (T126.setTop (mkF m 127 #[.val (.int p1), .val (.int p2), .val (.int p3), .val (.ref a76), .val (.ref a87), .val (.ref a102), .val (.int (0 : Int32)), .val (.int (1 : Int32)), .unset, .unset] [(.int (p3 &&& (3 : Int32)))]))
      rcases own_and3 p3 with hv163 | hv163 | hv163 | hv163
      · rw [hv163]
        show OwnGo p e below _ (T126.setTop (mkF m 127 #[.val (.int p1), .val (.int p2), .val (.int p3), .val (.ref a76), .val (.ref a87), .val (.ref a102), .val (.int (0 : Int32)), .val (.int (1 : Int32)), .unset, .unset] [(.int (0 : Int32))]))
        refine own_go (fun _ k => XS.istore X126.here hx rfl (hb hby at_127) rfl (l' := #[.val (.int p1), .val (.int p2), .val (.int p3), .val (.ref a76), .val (.ref a87), .val (.ref a102), .val (.int (0 : Int32)), .val (.int (1 : Int32)), .val (.int (0 : Int32)), .unset]) rfl k) ?_
        show OwnGo p e below _ (T126.setTop (mkF m 129 #[.val (.int p1), .val (.int p2), .val (.int p3), .val (.ref a76), .val (.ref a87), .val (.ref a102), .val (.int (0 : Int32)), .val (.int (1 : Int32)), .val (.int (0 : Int32)), .unset] []))
        refine own_go (fun _ k => XS.iconst X126.here hx rfl (hb hby at_129) k) ?_
        show OwnGo p e below _ (T126.setTop (mkF m 130 #[.val (.int p1), .val (.int p2), .val (.int p3), .val (.ref a76), .val (.ref a87), .val (.ref a102), .val (.int (0 : Int32)), .val (.int (1 : Int32)), .val (.int (0 : Int32)), .unset] [(.int (2 : Int32))]))
        refine own_go (fun _ k => XS.iload X126.here hx rfl (hb hby at_130) rfl k) ?_
        show OwnGo p e below _ (T126.setTop (mkF m 132 #[.val (.int p1), .val (.int p2), .val (.int p3), .val (.ref a76), .val (.ref a87), .val (.ref a102), .val (.int (0 : Int32)), .val (.int (1 : Int32)), .val (.int (0 : Int32)), .unset] [(.int (0 : Int32)), (.int (2 : Int32))]))
        refine own_go (fun _ k => XS.imul X126.here hx rfl (hb hby at_132) rfl k) ?_
        show OwnGo p e below _ (T126.setTop (mkF m 133 #[.val (.int p1), .val (.int p2), .val (.int p3), .val (.ref a76), .val (.ref a87), .val (.ref a102), .val (.int (0 : Int32)), .val (.int (1 : Int32)), .val (.int (0 : Int32)), .unset] [(.int ((2 : Int32) * (0 : Int32)))]))
        rw [show ((2 : Int32) * (0 : Int32)) = (0 : Int32) from by decide]
        show OwnGo p e below _ (T126.setTop (mkF m 133 #[.val (.int p1), .val (.int p2), .val (.int p3), .val (.ref a76), .val (.ref a87), .val (.ref a102), .val (.int (0 : Int32)), .val (.int (1 : Int32)), .val (.int (0 : Int32)), .unset] [(.int (0 : Int32))]))
        refine own_go (fun _ k => XS.iload X126.here hx rfl (hb hby at_133) rfl k) ?_
        show OwnGo p e below _ (T126.setTop (mkF m 135 #[.val (.int p1), .val (.int p2), .val (.int p3), .val (.ref a76), .val (.ref a87), .val (.ref a102), .val (.int (0 : Int32)), .val (.int (1 : Int32)), .val (.int (0 : Int32)), .unset] [(.int (1 : Int32)), (.int (0 : Int32))]))
        refine own_go (fun _ k => XS.ifNo X126.here hx rfl (hb hby at_135) rfl (by decide) k) ?_
        show OwnGo p e below _ (T126.setTop (mkF m 138 #[.val (.int p1), .val (.int p2), .val (.int p3), .val (.ref a76), .val (.ref a87), .val (.ref a102), .val (.int (0 : Int32)), .val (.int (1 : Int32)), .val (.int (0 : Int32)), .unset] [(.int (0 : Int32))]))
        refine own_go (fun _ k => XS.iconst X126.here hx rfl (hb hby at_138) k) ?_
        show OwnGo p e below _ (T126.setTop (mkF m 139 #[.val (.int p1), .val (.int p2), .val (.int p3), .val (.ref a76), .val (.ref a87), .val (.ref a102), .val (.int (0 : Int32)), .val (.int (1 : Int32)), .val (.int (0 : Int32)), .unset] [(.int (0 : Int32)), (.int (0 : Int32))]))
        refine own_go (fun _ k => XS.goto X126.here hx rfl (pc0 := 139) (pc' := 143) rfl (hb hby at_139) (by decide) (by decide) k) ?_
        show OwnGo p e below _ (T126.setTop (mkF m 143 #[.val (.int p1), .val (.int p2), .val (.int p3), .val (.ref a76), .val (.ref a87), .val (.ref a102), .val (.int (0 : Int32)), .val (.int (1 : Int32)), .val (.int (0 : Int32)), .unset] [(.int (0 : Int32)), (.int (0 : Int32))]))
        refine own_go (fun _ k => XS.iadd X126.here hx rfl (hb hby at_143) rfl k) ?_
        show OwnGo p e below _ (T126.setTop (mkF m 144 #[.val (.int p1), .val (.int p2), .val (.int p3), .val (.ref a76), .val (.ref a87), .val (.ref a102), .val (.int (0 : Int32)), .val (.int (1 : Int32)), .val (.int (0 : Int32)), .unset] [(.int ((0 : Int32) + (0 : Int32)))]))
        rw [show ((0 : Int32) + (0 : Int32)) = (0 : Int32) from by decide]
        show OwnGo p e below _ (T126.setTop (mkF m 144 #[.val (.int p1), .val (.int p2), .val (.int p3), .val (.ref a76), .val (.ref a87), .val (.ref a102), .val (.int (0 : Int32)), .val (.int (1 : Int32)), .val (.int (0 : Int32)), .unset] [(.int (0 : Int32))]))
        refine own_go (fun _ k => XS.iload X126.here hx rfl (hb hby at_144) rfl k) ?_
        show OwnGo p e below _ (T126.setTop (mkF m 146 #[.val (.int p1), .val (.int p2), .val (.int p3), .val (.ref a76), .val (.ref a87), .val (.ref a102), .val (.int (0 : Int32)), .val (.int (1 : Int32)), .val (.int (0 : Int32)), .unset] [(.int (0 : Int32)), (.int (0 : Int32))]))
        refine own_go (fun _ k => XS.iconst X126.here hx rfl (hb hby at_146) k) ?_
        show OwnGo p e below _ (T126.setTop (mkF m 147 #[.val (.int p1), .val (.int p2), .val (.int p3), .val (.ref a76), .val (.ref a87), .val (.ref a102), .val (.int (0 : Int32)), .val (.int (1 : Int32)), .val (.int (0 : Int32)), .unset] [(.int (2 : Int32)), (.int (0 : Int32)), (.int (0 : Int32))]))
        refine own_go (fun _ k => XS.icmpYes X126.here hx rfl (pc0 := 147) (pc' := 165) rfl (hb hby at_147) rfl (by decide) (by decide) (by decide) k) ?_
        show OwnGo p e below _ (T126.setTop (mkF m 165 #[.val (.int p1), .val (.int p2), .val (.int p3), .val (.ref a76), .val (.ref a87), .val (.ref a102), .val (.int (0 : Int32)), .val (.int (1 : Int32)), .val (.int (0 : Int32)), .unset] [(.int (0 : Int32))]))
        refine own_go (fun _ k => XS.iconst X126.here hx rfl (hb hby at_165) k) ?_
        show OwnGo p e below _ (T126.setTop (mkF m 166 #[.val (.int p1), .val (.int p2), .val (.int p3), .val (.ref a76), .val (.ref a87), .val (.ref a102), .val (.int (0 : Int32)), .val (.int (1 : Int32)), .val (.int (0 : Int32)), .unset] [(.int (0 : Int32)), (.int (0 : Int32))]))
        refine own_go (fun _ k => XS.iadd X126.here hx rfl (hb hby at_166) rfl k) ?_
        show OwnGo p e below _ (T126.setTop (mkF m 167 #[.val (.int p1), .val (.int p2), .val (.int p3), .val (.ref a76), .val (.ref a87), .val (.ref a102), .val (.int (0 : Int32)), .val (.int (1 : Int32)), .val (.int (0 : Int32)), .unset] [(.int ((0 : Int32) + (0 : Int32)))]))
        rw [show ((0 : Int32) + (0 : Int32)) = (0 : Int32) from by decide]
        show OwnGo p e below _ (T126.setTop (mkF m 167 #[.val (.int p1), .val (.int p2), .val (.int p3), .val (.ref a76), .val (.ref a87), .val (.ref a102), .val (.int (0 : Int32)), .val (.int (1 : Int32)), .val (.int (0 : Int32)), .unset] [(.int (0 : Int32))]))
        refine own_go (fun _ k => XS.istore X126.here hx rfl (hb hby at_167) rfl (l' := #[.val (.int p1), .val (.int p2), .val (.int p3), .val (.ref a76), .val (.ref a87), .val (.ref a102), .val (.int (0 : Int32)), .val (.int (1 : Int32)), .val (.int (0 : Int32)), .val (.int (0 : Int32))]) rfl k) ?_
        show OwnGo p e below _ (T126.setTop (mkF m 169 #[.val (.int p1), .val (.int p2), .val (.int p3), .val (.ref a76), .val (.ref a87), .val (.ref a102), .val (.int (0 : Int32)), .val (.int (1 : Int32)), .val (.int (0 : Int32)), .val (.int (0 : Int32))] []))
        refine own_go (fun _ k => XS.aloadN X126.here hx rfl (hb hby at_169) rfl rfl k) ?_
        show OwnGo p e below _ (T126.setTop (mkF m 170 #[.val (.int p1), .val (.int p2), .val (.int p3), .val (.ref a76), .val (.ref a87), .val (.ref a102), .val (.int (0 : Int32)), .val (.int (1 : Int32)), .val (.int (0 : Int32)), .val (.int (0 : Int32))] [(.ref a76)]))
        refine own_go (fun _ k => XS.iload X126.here hx rfl (hb hby at_170) rfl k) ?_
        show OwnGo p e below _ (T126.setTop (mkF m 172 #[.val (.int p1), .val (.int p2), .val (.int p3), .val (.ref a76), .val (.ref a87), .val (.ref a102), .val (.int (0 : Int32)), .val (.int (1 : Int32)), .val (.int (0 : Int32)), .val (.int (0 : Int32))] [(.int (0 : Int32)), (.ref a76)]))
        have F164 := ((((((((F103.ext E102).other W108 ne104).other W111 ne104).other W114 ne104).other W117 ne104).other W120 ne104).other W123 ne104).other W126 ne104)
        obtain ⟨c165, Ar165, q165, S165, M165, H165, G165⟩ := (id F164)
        refine own_go (fun _ k => X126.aaload hx (j := (0 : Int32)) (v := (.ref aIDENTICAL)) (by rw [e126]; exact Ar165.1) (State.isArrayOf_alike hZ.alike Ar165.2.1) rfl Ar165.2.2 (inb_of S165 ⟨by decide, by decide⟩) (Has.at H165 (inb_of S165 ⟨by decide, by decide⟩) rfl) (g := (mkF m 172 #[.val (.int p1), .val (.int p2), .val (.int p3), .val (.ref a76), .val (.ref a87), .val (.ref a102), .val (.int (0 : Int32)), .val (.int (1 : Int32)), .val (.int (0 : Int32)), .val (.int (0 : Int32))] [(.int (0 : Int32)), (.ref a76)])) rfl rfl (hb hby at_172) _ k) ?_
        show OwnGo p e below _ (T126.setTop (mkF m 173 #[.val (.int p1), .val (.int p2), .val (.int p3), .val (.ref a76), .val (.ref a87), .val (.ref a102), .val (.int (0 : Int32)), .val (.int (1 : Int32)), .val (.int (0 : Int32)), .val (.int (0 : Int32))] [(.ref aIDENTICAL)]))
        refine own_go (fun _ k => XS.iload X126.here hx rfl (hb hby at_173) rfl k) ?_
        show OwnGo p e below _ (T126.setTop (mkF m 175 #[.val (.int p1), .val (.int p2), .val (.int p3), .val (.ref a76), .val (.ref a87), .val (.ref a102), .val (.int (0 : Int32)), .val (.int (1 : Int32)), .val (.int (0 : Int32)), .val (.int (0 : Int32))] [(.int (1 : Int32)), (.ref aIDENTICAL)]))
        refine own_go (fun _ k => XS.aload X126.here hx rfl (hb hby at_175) rfl rfl k) ?_
        show OwnGo p e below _ (T126.setTop (mkF m 177 #[.val (.int p1), .val (.int p2), .val (.int p3), .val (.ref a76), .val (.ref a87), .val (.ref a102), .val (.int (0 : Int32)), .val (.int (1 : Int32)), .val (.int (0 : Int32)), .val (.int (0 : Int32))] [(.ref a87), (.int (1 : Int32)), (.ref aIDENTICAL)]))
        refine own_go (fun _ k => XS.iload X126.here hx rfl (hb hby at_177) rfl k) ?_
        show OwnGo p e below _ (T126.setTop (mkF m 179 #[.val (.int p1), .val (.int p2), .val (.int p3), .val (.ref a76), .val (.ref a87), .val (.ref a102), .val (.int (0 : Int32)), .val (.int (1 : Int32)), .val (.int (0 : Int32)), .val (.int (0 : Int32))] [(.int (0 : Int32)), (.ref a87), (.int (1 : Int32)), (.ref aIDENTICAL)]))
        have F166 := ((((((((V100.ext E102).other W108 ne105).other W111 ne105).other W114 ne105).other W117 ne105).other W120 ne105).other W123 ne105).other W126 ne105)
        obtain ⟨c167, Ar167, q167, S167, M167, H167, G167⟩ := (id F166)
        refine own_go (fun _ k => X126.aaload hx (j := (0 : Int32)) (v := (.ref aA_TO_B)) (by rw [e126]; exact Ar167.1) (State.isArrayOf_alike hZ.alike Ar167.2.1) rfl Ar167.2.2 (inb_of S167 ⟨by decide, by decide⟩) (Has.at H167 (inb_of S167 ⟨by decide, by decide⟩) rfl) (g := (mkF m 179 #[.val (.int p1), .val (.int p2), .val (.int p3), .val (.ref a76), .val (.ref a87), .val (.ref a102), .val (.int (0 : Int32)), .val (.int (1 : Int32)), .val (.int (0 : Int32)), .val (.int (0 : Int32))] [(.int (0 : Int32)), (.ref a87), (.int (1 : Int32)), (.ref aIDENTICAL)])) rfl rfl (hb hby at_179) _ k) ?_
        show OwnGo p e below _ (T126.setTop (mkF m 180 #[.val (.int p1), .val (.int p2), .val (.int p3), .val (.ref a76), .val (.ref a87), .val (.ref a102), .val (.int (0 : Int32)), .val (.int (1 : Int32)), .val (.int (0 : Int32)), .val (.int (0 : Int32))] [(.ref aA_TO_B), (.int (1 : Int32)), (.ref aIDENTICAL)]))
        obtain ⟨_, _, ⟨T168, L168, k168, n168⟩, -, X168, hS168, hg168, ⟨Lc168, hQ168, l168, y168, z168⟩, st168⟩ := callSS X126 hx (y := (⟨"com/example/page_copy_finder/pagecopyfinder/copies/PairLabel", "of", "(Lcom/example/page_copy_finder/pagecopyfinder/copies/PairKind;ZLcom/example/page_copy_finder/pagecopyfinder/copies/PairLinks;)Lcom/example/page_copy_finder/pagecopyfinder/copies/PairLabel;"⟩ : MethodName)) hown (mvT hZ (hw _ (List.mem_of_getElem? (i := 41) rfl))) (mvT hZ (hw _ (List.mem_of_getElem? (i := 42) rfl))) (mvT hZ (hw _ (List.mem_of_getElem? (i := 25) rfl))) (mvT hZ (hw _ (List.mem_of_getElem? (i := 43) rfl))) (by decide) (backOfS (W := 0) (rm_of01 l Z a0 hw [] aIDENTICAL aCONTAINMENT aPARTIAL aA_TO_B aB_TO_A aBOTH aNONE aMIRROR aTEMPLATE_OR_PLAGIARISM aARCHIVE_PAGE aLINK_LIST_PART aSAME_SITE_RELATED aCITATION_OR_SPAM aSHARED_TEXT_OR_PLAGIARISM aSW kSW F0 aA_TO_B h126 n0 O126) hZ (hw _ (List.mem_of_getElem? (i := 43) rfl)) (hw _ (List.mem_of_getElem? (i := 25) rfl)) (by decide) (by decide)) (g := (mkF m 180 #[.val (.int p1), .val (.int p2), .val (.int p3), .val (.ref a76), .val (.ref a87), .val (.ref a102), .val (.int (0 : Int32)), .val (.int (1 : Int32)), .val (.int (0 : Int32)), .val (.int (0 : Int32))] [(.ref aA_TO_B), (.int (1 : Int32)), (.ref aIDENTICAL)])) rfl (by rw [hml]; rfl) (argsL := [(.ref aIDENTICAL), (.int (1 : Int32)), (.ref aA_TO_B)]) (rest := []) (lenOf pd_Lcom_example_page_copy_finder_pagecopyfinder_copies_PairKind__Z_Lcom_example_page_copy_finder_pagecopyfinder_copies_PairLinks___Lcom_example_page_copy_finder_pagecopyfinder_copies_PairLabel_ rfl) rfl (by show 2 * 0 + _ ≤ _; exact Nat.le_of_eq rfl) (hb hby at_180) (fun _ _ => ⟨rfl, e126, (by decide : 3 + 4 ≤ _), (by decide : 14 + 44 ≤ _)⟩)
        dsimp only [Pt.U, Pt.locs, Pt.cells, Pt.slots] at X168 l168 y168 z168 st168 hQ168 hS168 hg168
        subst l168 y168 z168
        obtain ⟨rfl, Nq168, K168⟩ := hQ168
        have N168 := Fr.app N126 Nq168
        have hZ : Z.Warmed39 (s.setVm T168.vm).vm := State.Warmed39.trans hZ hS168.1
        have hown : (s.setVm T168.vm).vm.findClass "com/example/page_copy_finder/pagecopyfinder/copies/PairLabelOfPinLaw" = some m.cls := (hS168.1.alike.findClass _ _).trans hown
        have O168 := O126.keep K168 all0
        have e168 : T168.heap = T168.heap := rfl
        have z169 : h0.size ≤ T168.heap.size := Nat.le_trans z127 K168.1
        refine own_go (fun _ k => st168.trans k) ?_
        show OwnGo p e below _ (T168.setTop (mkF m 183 #[.val (.int p1), .val (.int p2), .val (.int p3), .val (.ref a76), .val (.ref a87), .val (.ref a102), .val (.int (0 : Int32)), .val (.int (1 : Int32)), .val (.int (0 : Int32)), .val (.int (0 : Int32))] [(.ref aMIRROR)]))
        refine own_go (fun _ k => XS.aload X168.here hx rfl (hb hby at_183) rfl rfl k) ?_
        show OwnGo p e below _ (T168.setTop (mkF m 185 #[.val (.int p1), .val (.int p2), .val (.int p3), .val (.ref a76), .val (.ref a87), .val (.ref a102), .val (.int (0 : Int32)), .val (.int (1 : Int32)), .val (.int (0 : Int32)), .val (.int (0 : Int32))] [(.ref a102), (.ref aMIRROR)]))
        refine own_go (fun _ k => XS.iload X168.here hx rfl (hb hby at_185) rfl k) ?_
        show OwnGo p e below _ (T168.setTop (mkF m 187 #[.val (.int p1), .val (.int p2), .val (.int p3), .val (.ref a76), .val (.ref a87), .val (.ref a102), .val (.int (0 : Int32)), .val (.int (1 : Int32)), .val (.int (0 : Int32)), .val (.int (0 : Int32))] [(.int (0 : Int32)), (.ref a102), (.ref aMIRROR)]))
        have F170 := (V126.keep K168 nin0)
        obtain ⟨c171, Ar171, q171, S171, M171, H171, G171⟩ := (id F170)
        refine own_go (fun _ k => X168.aaload hx (j := (0 : Int32)) (v := (.ref aMIRROR)) (by rw [e168]; exact Ar171.1) (State.isArrayOf_alike hZ.alike Ar171.2.1) rfl Ar171.2.2 (inb_of S171 ⟨by decide, by decide⟩) (Has.at H171 (inb_of S171 ⟨by decide, by decide⟩) rfl) (g := (mkF m 187 #[.val (.int p1), .val (.int p2), .val (.int p3), .val (.ref a76), .val (.ref a87), .val (.ref a102), .val (.int (0 : Int32)), .val (.int (1 : Int32)), .val (.int (0 : Int32)), .val (.int (0 : Int32))] [(.int (0 : Int32)), (.ref a102), (.ref aMIRROR)])) rfl rfl (hb hby at_187) _ k) ?_
        show OwnGo p e below _ (T168.setTop (mkF m 188 #[.val (.int p1), .val (.int p2), .val (.int p3), .val (.ref a76), .val (.ref a87), .val (.ref a102), .val (.int (0 : Int32)), .val (.int (1 : Int32)), .val (.int (0 : Int32)), .val (.int (0 : Int32))] [(.ref aMIRROR), (.ref aMIRROR)]))
        refine own_go (fun _ k => acmp X168 hx rfl (cd := .ne) (o := 7) (x := (.ref aMIRROR)) (y := (.ref aMIRROR)) (pc0 := 188) (pc' := 191) rfl rfl rfl (hb hby at_188) rfl (own_refeq _) (by decide) (by decide) k) ?_
        show OwnGo p e below _ (T168.setTop (mkF m 191 #[.val (.int p1), .val (.int p2), .val (.int p3), .val (.ref a76), .val (.ref a87), .val (.ref a102), .val (.int (0 : Int32)), .val (.int (1 : Int32)), .val (.int (0 : Int32)), .val (.int (0 : Int32))] []))
        refine own_go (fun _ k => XS.iconst X168.here hx rfl (hb hby at_191) k) ?_
        show OwnGo p e below _ (T168.setTop (mkF m 192 #[.val (.int p1), .val (.int p2), .val (.int p3), .val (.ref a76), .val (.ref a87), .val (.ref a102), .val (.int (0 : Int32)), .val (.int (1 : Int32)), .val (.int (0 : Int32)), .val (.int (0 : Int32))] [(.int (1 : Int32))]))
        refine own_go (fun _ k => XS.goto X168.here hx rfl (pc0 := 192) (pc' := 196) rfl (hb hby at_192) (by decide) (by decide) k) ?_
        show OwnGo p e below _ (T168.setTop (mkF m 196 #[.val (.int p1), .val (.int p2), .val (.int p3), .val (.ref a76), .val (.ref a87), .val (.ref a102), .val (.int (0 : Int32)), .val (.int (1 : Int32)), .val (.int (0 : Int32)), .val (.int (0 : Int32))] [(.int (1 : Int32))]))
        obtain ⟨fs, hr, hrun, hended, hEnd⟩ := Jvm.Stand.leaveW (s := s) (vm₁ := T168.vm) X168 hS168 (by rw [e168]; exact (Nat.le_refl _)) (v := some (.int (1 : Int32))) (fun h => by rw [Bd.returns] at h; cases h)
        refine ⟨_, _, retOut X168 hx Bd.returns rfl (Or.inl ⟨rfl, Or.inr (Or.inl rfl), _, rfl⟩) (hb hby at_196) hr, hrun, hended, _, _, rfl, ?_, own_monoW hEnd (by decide) (by decide)⟩
        show Q_law Z aIDENTICAL aCONTAINMENT aPARTIAL aA_TO_B aB_TO_A aBOTH aNONE aMIRROR aTEMPLATE_OR_PLAGIARISM aARCHIVE_PAGE aLINK_LIST_PART aSAME_SITE_RELATED aCITATION_OR_SPAM aSHARED_TEXT_OR_PLAGIARISM aSW kSW p1 p2 p3 h0 n0 _ T168.heap _
        rw [e168]
        exact ⟨rfl, N168⟩
      · rw [hv163]
        show OwnGo p e below _ (T126.setTop (mkF m 127 #[.val (.int p1), .val (.int p2), .val (.int p3), .val (.ref a76), .val (.ref a87), .val (.ref a102), .val (.int (0 : Int32)), .val (.int (1 : Int32)), .unset, .unset] [(.int (1 : Int32))]))
        refine own_go (fun _ k => XS.istore X126.here hx rfl (hb hby at_127) rfl (l' := #[.val (.int p1), .val (.int p2), .val (.int p3), .val (.ref a76), .val (.ref a87), .val (.ref a102), .val (.int (0 : Int32)), .val (.int (1 : Int32)), .val (.int (1 : Int32)), .unset]) rfl k) ?_
        show OwnGo p e below _ (T126.setTop (mkF m 129 #[.val (.int p1), .val (.int p2), .val (.int p3), .val (.ref a76), .val (.ref a87), .val (.ref a102), .val (.int (0 : Int32)), .val (.int (1 : Int32)), .val (.int (1 : Int32)), .unset] []))
        refine own_go (fun _ k => XS.iconst X126.here hx rfl (hb hby at_129) k) ?_
        show OwnGo p e below _ (T126.setTop (mkF m 130 #[.val (.int p1), .val (.int p2), .val (.int p3), .val (.ref a76), .val (.ref a87), .val (.ref a102), .val (.int (0 : Int32)), .val (.int (1 : Int32)), .val (.int (1 : Int32)), .unset] [(.int (2 : Int32))]))
        refine own_go (fun _ k => XS.iload X126.here hx rfl (hb hby at_130) rfl k) ?_
        show OwnGo p e below _ (T126.setTop (mkF m 132 #[.val (.int p1), .val (.int p2), .val (.int p3), .val (.ref a76), .val (.ref a87), .val (.ref a102), .val (.int (0 : Int32)), .val (.int (1 : Int32)), .val (.int (1 : Int32)), .unset] [(.int (0 : Int32)), (.int (2 : Int32))]))
        refine own_go (fun _ k => XS.imul X126.here hx rfl (hb hby at_132) rfl k) ?_
        show OwnGo p e below _ (T126.setTop (mkF m 133 #[.val (.int p1), .val (.int p2), .val (.int p3), .val (.ref a76), .val (.ref a87), .val (.ref a102), .val (.int (0 : Int32)), .val (.int (1 : Int32)), .val (.int (1 : Int32)), .unset] [(.int ((2 : Int32) * (0 : Int32)))]))
        rw [show ((2 : Int32) * (0 : Int32)) = (0 : Int32) from by decide]
        show OwnGo p e below _ (T126.setTop (mkF m 133 #[.val (.int p1), .val (.int p2), .val (.int p3), .val (.ref a76), .val (.ref a87), .val (.ref a102), .val (.int (0 : Int32)), .val (.int (1 : Int32)), .val (.int (1 : Int32)), .unset] [(.int (0 : Int32))]))
        refine own_go (fun _ k => XS.iload X126.here hx rfl (hb hby at_133) rfl k) ?_
        show OwnGo p e below _ (T126.setTop (mkF m 135 #[.val (.int p1), .val (.int p2), .val (.int p3), .val (.ref a76), .val (.ref a87), .val (.ref a102), .val (.int (0 : Int32)), .val (.int (1 : Int32)), .val (.int (1 : Int32)), .unset] [(.int (1 : Int32)), (.int (0 : Int32))]))
        refine own_go (fun _ k => XS.ifNo X126.here hx rfl (hb hby at_135) rfl (by decide) k) ?_
        show OwnGo p e below _ (T126.setTop (mkF m 138 #[.val (.int p1), .val (.int p2), .val (.int p3), .val (.ref a76), .val (.ref a87), .val (.ref a102), .val (.int (0 : Int32)), .val (.int (1 : Int32)), .val (.int (1 : Int32)), .unset] [(.int (0 : Int32))]))
        refine own_go (fun _ k => XS.iconst X126.here hx rfl (hb hby at_138) k) ?_
        show OwnGo p e below _ (T126.setTop (mkF m 139 #[.val (.int p1), .val (.int p2), .val (.int p3), .val (.ref a76), .val (.ref a87), .val (.ref a102), .val (.int (0 : Int32)), .val (.int (1 : Int32)), .val (.int (1 : Int32)), .unset] [(.int (0 : Int32)), (.int (0 : Int32))]))
        refine own_go (fun _ k => XS.goto X126.here hx rfl (pc0 := 139) (pc' := 143) rfl (hb hby at_139) (by decide) (by decide) k) ?_
        show OwnGo p e below _ (T126.setTop (mkF m 143 #[.val (.int p1), .val (.int p2), .val (.int p3), .val (.ref a76), .val (.ref a87), .val (.ref a102), .val (.int (0 : Int32)), .val (.int (1 : Int32)), .val (.int (1 : Int32)), .unset] [(.int (0 : Int32)), (.int (0 : Int32))]))
        refine own_go (fun _ k => XS.iadd X126.here hx rfl (hb hby at_143) rfl k) ?_
        show OwnGo p e below _ (T126.setTop (mkF m 144 #[.val (.int p1), .val (.int p2), .val (.int p3), .val (.ref a76), .val (.ref a87), .val (.ref a102), .val (.int (0 : Int32)), .val (.int (1 : Int32)), .val (.int (1 : Int32)), .unset] [(.int ((0 : Int32) + (0 : Int32)))]))
        rw [show ((0 : Int32) + (0 : Int32)) = (0 : Int32) from by decide]
        show OwnGo p e below _ (T126.setTop (mkF m 144 #[.val (.int p1), .val (.int p2), .val (.int p3), .val (.ref a76), .val (.ref a87), .val (.ref a102), .val (.int (0 : Int32)), .val (.int (1 : Int32)), .val (.int (1 : Int32)), .unset] [(.int (0 : Int32))]))
        refine own_go (fun _ k => XS.iload X126.here hx rfl (hb hby at_144) rfl k) ?_
        show OwnGo p e below _ (T126.setTop (mkF m 146 #[.val (.int p1), .val (.int p2), .val (.int p3), .val (.ref a76), .val (.ref a87), .val (.ref a102), .val (.int (0 : Int32)), .val (.int (1 : Int32)), .val (.int (1 : Int32)), .unset] [(.int (0 : Int32)), (.int (0 : Int32))]))
        refine own_go (fun _ k => XS.iconst X126.here hx rfl (hb hby at_146) k) ?_
        show OwnGo p e below _ (T126.setTop (mkF m 147 #[.val (.int p1), .val (.int p2), .val (.int p3), .val (.ref a76), .val (.ref a87), .val (.ref a102), .val (.int (0 : Int32)), .val (.int (1 : Int32)), .val (.int (1 : Int32)), .unset] [(.int (2 : Int32)), (.int (0 : Int32)), (.int (0 : Int32))]))
        refine own_go (fun _ k => XS.icmpYes X126.here hx rfl (pc0 := 147) (pc' := 165) rfl (hb hby at_147) rfl (by decide) (by decide) (by decide) k) ?_
        show OwnGo p e below _ (T126.setTop (mkF m 165 #[.val (.int p1), .val (.int p2), .val (.int p3), .val (.ref a76), .val (.ref a87), .val (.ref a102), .val (.int (0 : Int32)), .val (.int (1 : Int32)), .val (.int (1 : Int32)), .unset] [(.int (0 : Int32))]))
        refine own_go (fun _ k => XS.iconst X126.here hx rfl (hb hby at_165) k) ?_
        show OwnGo p e below _ (T126.setTop (mkF m 166 #[.val (.int p1), .val (.int p2), .val (.int p3), .val (.ref a76), .val (.ref a87), .val (.ref a102), .val (.int (0 : Int32)), .val (.int (1 : Int32)), .val (.int (1 : Int32)), .unset] [(.int (0 : Int32)), (.int (0 : Int32))]))
        refine own_go (fun _ k => XS.iadd X126.here hx rfl (hb hby at_166) rfl k) ?_
        show OwnGo p e below _ (T126.setTop (mkF m 167 #[.val (.int p1), .val (.int p2), .val (.int p3), .val (.ref a76), .val (.ref a87), .val (.ref a102), .val (.int (0 : Int32)), .val (.int (1 : Int32)), .val (.int (1 : Int32)), .unset] [(.int ((0 : Int32) + (0 : Int32)))]))
        rw [show ((0 : Int32) + (0 : Int32)) = (0 : Int32) from by decide]
        show OwnGo p e below _ (T126.setTop (mkF m 167 #[.val (.int p1), .val (.int p2), .val (.int p3), .val (.ref a76), .val (.ref a87), .val (.ref a102), .val (.int (0 : Int32)), .val (.int (1 : Int32)), .val (.int (1 : Int32)), .unset] [(.int (0 : Int32))]))
        refine own_go (fun _ k => XS.istore X126.here hx rfl (hb hby at_167) rfl (l' := #[.val (.int p1), .val (.int p2), .val (.int p3), .val (.ref a76), .val (.ref a87), .val (.ref a102), .val (.int (0 : Int32)), .val (.int (1 : Int32)), .val (.int (1 : Int32)), .val (.int (0 : Int32))]) rfl k) ?_
        show OwnGo p e below _ (T126.setTop (mkF m 169 #[.val (.int p1), .val (.int p2), .val (.int p3), .val (.ref a76), .val (.ref a87), .val (.ref a102), .val (.int (0 : Int32)), .val (.int (1 : Int32)), .val (.int (1 : Int32)), .val (.int (0 : Int32))] []))
        refine own_go (fun _ k => XS.aloadN X126.here hx rfl (hb hby at_169) rfl rfl k) ?_
        show OwnGo p e below _ (T126.setTop (mkF m 170 #[.val (.int p1), .val (.int p2), .val (.int p3), .val (.ref a76), .val (.ref a87), .val (.ref a102), .val (.int (0 : Int32)), .val (.int (1 : Int32)), .val (.int (1 : Int32)), .val (.int (0 : Int32))] [(.ref a76)]))
        refine own_go (fun _ k => XS.iload X126.here hx rfl (hb hby at_170) rfl k) ?_
        show OwnGo p e below _ (T126.setTop (mkF m 172 #[.val (.int p1), .val (.int p2), .val (.int p3), .val (.ref a76), .val (.ref a87), .val (.ref a102), .val (.int (0 : Int32)), .val (.int (1 : Int32)), .val (.int (1 : Int32)), .val (.int (0 : Int32))] [(.int (0 : Int32)), (.ref a76)]))
        have F172 := ((((((((F103.ext E102).other W108 ne104).other W111 ne104).other W114 ne104).other W117 ne104).other W120 ne104).other W123 ne104).other W126 ne104)
        obtain ⟨c173, Ar173, q173, S173, M173, H173, G173⟩ := (id F172)
        refine own_go (fun _ k => X126.aaload hx (j := (0 : Int32)) (v := (.ref aIDENTICAL)) (by rw [e126]; exact Ar173.1) (State.isArrayOf_alike hZ.alike Ar173.2.1) rfl Ar173.2.2 (inb_of S173 ⟨by decide, by decide⟩) (Has.at H173 (inb_of S173 ⟨by decide, by decide⟩) rfl) (g := (mkF m 172 #[.val (.int p1), .val (.int p2), .val (.int p3), .val (.ref a76), .val (.ref a87), .val (.ref a102), .val (.int (0 : Int32)), .val (.int (1 : Int32)), .val (.int (1 : Int32)), .val (.int (0 : Int32))] [(.int (0 : Int32)), (.ref a76)])) rfl rfl (hb hby at_172) _ k) ?_
        show OwnGo p e below _ (T126.setTop (mkF m 173 #[.val (.int p1), .val (.int p2), .val (.int p3), .val (.ref a76), .val (.ref a87), .val (.ref a102), .val (.int (0 : Int32)), .val (.int (1 : Int32)), .val (.int (1 : Int32)), .val (.int (0 : Int32))] [(.ref aIDENTICAL)]))
        refine own_go (fun _ k => XS.iload X126.here hx rfl (hb hby at_173) rfl k) ?_
        show OwnGo p e below _ (T126.setTop (mkF m 175 #[.val (.int p1), .val (.int p2), .val (.int p3), .val (.ref a76), .val (.ref a87), .val (.ref a102), .val (.int (0 : Int32)), .val (.int (1 : Int32)), .val (.int (1 : Int32)), .val (.int (0 : Int32))] [(.int (1 : Int32)), (.ref aIDENTICAL)]))
        refine own_go (fun _ k => XS.aload X126.here hx rfl (hb hby at_175) rfl rfl k) ?_
        show OwnGo p e below _ (T126.setTop (mkF m 177 #[.val (.int p1), .val (.int p2), .val (.int p3), .val (.ref a76), .val (.ref a87), .val (.ref a102), .val (.int (0 : Int32)), .val (.int (1 : Int32)), .val (.int (1 : Int32)), .val (.int (0 : Int32))] [(.ref a87), (.int (1 : Int32)), (.ref aIDENTICAL)]))
        refine own_go (fun _ k => XS.iload X126.here hx rfl (hb hby at_177) rfl k) ?_
        show OwnGo p e below _ (T126.setTop (mkF m 179 #[.val (.int p1), .val (.int p2), .val (.int p3), .val (.ref a76), .val (.ref a87), .val (.ref a102), .val (.int (0 : Int32)), .val (.int (1 : Int32)), .val (.int (1 : Int32)), .val (.int (0 : Int32))] [(.int (1 : Int32)), (.ref a87), (.int (1 : Int32)), (.ref aIDENTICAL)]))
        have F174 := ((((((((V100.ext E102).other W108 ne105).other W111 ne105).other W114 ne105).other W117 ne105).other W120 ne105).other W123 ne105).other W126 ne105)
        obtain ⟨c175, Ar175, q175, S175, M175, H175, G175⟩ := (id F174)
        refine own_go (fun _ k => X126.aaload hx (j := (1 : Int32)) (v := (.ref aB_TO_A)) (by rw [e126]; exact Ar175.1) (State.isArrayOf_alike hZ.alike Ar175.2.1) rfl Ar175.2.2 (inb_of S175 ⟨by decide, by decide⟩) (Has.at H175 (inb_of S175 ⟨by decide, by decide⟩) rfl) (g := (mkF m 179 #[.val (.int p1), .val (.int p2), .val (.int p3), .val (.ref a76), .val (.ref a87), .val (.ref a102), .val (.int (0 : Int32)), .val (.int (1 : Int32)), .val (.int (1 : Int32)), .val (.int (0 : Int32))] [(.int (1 : Int32)), (.ref a87), (.int (1 : Int32)), (.ref aIDENTICAL)])) rfl rfl (hb hby at_179) _ k) ?_
        show OwnGo p e below _ (T126.setTop (mkF m 180 #[.val (.int p1), .val (.int p2), .val (.int p3), .val (.ref a76), .val (.ref a87), .val (.ref a102), .val (.int (0 : Int32)), .val (.int (1 : Int32)), .val (.int (1 : Int32)), .val (.int (0 : Int32))] [(.ref aB_TO_A), (.int (1 : Int32)), (.ref aIDENTICAL)]))
        obtain ⟨_, _, ⟨T176, L176, k176, n176⟩, -, X176, hS176, hg176, ⟨Lc176, hQ176, l176, y176, z176⟩, st176⟩ := callSS X126 hx (y := (⟨"com/example/page_copy_finder/pagecopyfinder/copies/PairLabel", "of", "(Lcom/example/page_copy_finder/pagecopyfinder/copies/PairKind;ZLcom/example/page_copy_finder/pagecopyfinder/copies/PairLinks;)Lcom/example/page_copy_finder/pagecopyfinder/copies/PairLabel;"⟩ : MethodName)) hown (mvT hZ (hw _ (List.mem_of_getElem? (i := 41) rfl))) (mvT hZ (hw _ (List.mem_of_getElem? (i := 42) rfl))) (mvT hZ (hw _ (List.mem_of_getElem? (i := 25) rfl))) (mvT hZ (hw _ (List.mem_of_getElem? (i := 43) rfl))) (by decide) (backOfS (W := 0) (rm_of01 l Z a0 hw [] aIDENTICAL aCONTAINMENT aPARTIAL aA_TO_B aB_TO_A aBOTH aNONE aMIRROR aTEMPLATE_OR_PLAGIARISM aARCHIVE_PAGE aLINK_LIST_PART aSAME_SITE_RELATED aCITATION_OR_SPAM aSHARED_TEXT_OR_PLAGIARISM aSW kSW F0 aB_TO_A h126 n0 O126) hZ (hw _ (List.mem_of_getElem? (i := 43) rfl)) (hw _ (List.mem_of_getElem? (i := 25) rfl)) (by decide) (by decide)) (g := (mkF m 180 #[.val (.int p1), .val (.int p2), .val (.int p3), .val (.ref a76), .val (.ref a87), .val (.ref a102), .val (.int (0 : Int32)), .val (.int (1 : Int32)), .val (.int (1 : Int32)), .val (.int (0 : Int32))] [(.ref aB_TO_A), (.int (1 : Int32)), (.ref aIDENTICAL)])) rfl (by rw [hml]; rfl) (argsL := [(.ref aIDENTICAL), (.int (1 : Int32)), (.ref aB_TO_A)]) (rest := []) (lenOf pd_Lcom_example_page_copy_finder_pagecopyfinder_copies_PairKind__Z_Lcom_example_page_copy_finder_pagecopyfinder_copies_PairLinks___Lcom_example_page_copy_finder_pagecopyfinder_copies_PairLabel_ rfl) rfl (by show 2 * 0 + _ ≤ _; exact Nat.le_of_eq rfl) (hb hby at_180) (fun _ _ => ⟨rfl, e126, (by decide : 3 + 4 ≤ _), (by decide : 14 + 44 ≤ _)⟩)
        dsimp only [Pt.U, Pt.locs, Pt.cells, Pt.slots] at X176 l176 y176 z176 st176 hQ176 hS176 hg176
        subst l176 y176 z176
        obtain ⟨rfl, Nq176, K176⟩ := hQ176
        have N176 := Fr.app N126 Nq176
        have hZ : Z.Warmed39 (s.setVm T176.vm).vm := State.Warmed39.trans hZ hS176.1
        have hown : (s.setVm T176.vm).vm.findClass "com/example/page_copy_finder/pagecopyfinder/copies/PairLabelOfPinLaw" = some m.cls := (hS176.1.alike.findClass _ _).trans hown
        have O176 := O126.keep K176 all0
        have e176 : T176.heap = T176.heap := rfl
        have z177 : h0.size ≤ T176.heap.size := Nat.le_trans z127 K176.1
        refine own_go (fun _ k => st176.trans k) ?_
        show OwnGo p e below _ (T176.setTop (mkF m 183 #[.val (.int p1), .val (.int p2), .val (.int p3), .val (.ref a76), .val (.ref a87), .val (.ref a102), .val (.int (0 : Int32)), .val (.int (1 : Int32)), .val (.int (1 : Int32)), .val (.int (0 : Int32))] [(.ref aMIRROR)]))
        refine own_go (fun _ k => XS.aload X176.here hx rfl (hb hby at_183) rfl rfl k) ?_
        show OwnGo p e below _ (T176.setTop (mkF m 185 #[.val (.int p1), .val (.int p2), .val (.int p3), .val (.ref a76), .val (.ref a87), .val (.ref a102), .val (.int (0 : Int32)), .val (.int (1 : Int32)), .val (.int (1 : Int32)), .val (.int (0 : Int32))] [(.ref a102), (.ref aMIRROR)]))
        refine own_go (fun _ k => XS.iload X176.here hx rfl (hb hby at_185) rfl k) ?_
        show OwnGo p e below _ (T176.setTop (mkF m 187 #[.val (.int p1), .val (.int p2), .val (.int p3), .val (.ref a76), .val (.ref a87), .val (.ref a102), .val (.int (0 : Int32)), .val (.int (1 : Int32)), .val (.int (1 : Int32)), .val (.int (0 : Int32))] [(.int (0 : Int32)), (.ref a102), (.ref aMIRROR)]))
        have F178 := (V126.keep K176 nin0)
        obtain ⟨c179, Ar179, q179, S179, M179, H179, G179⟩ := (id F178)
        refine own_go (fun _ k => X176.aaload hx (j := (0 : Int32)) (v := (.ref aMIRROR)) (by rw [e176]; exact Ar179.1) (State.isArrayOf_alike hZ.alike Ar179.2.1) rfl Ar179.2.2 (inb_of S179 ⟨by decide, by decide⟩) (Has.at H179 (inb_of S179 ⟨by decide, by decide⟩) rfl) (g := (mkF m 187 #[.val (.int p1), .val (.int p2), .val (.int p3), .val (.ref a76), .val (.ref a87), .val (.ref a102), .val (.int (0 : Int32)), .val (.int (1 : Int32)), .val (.int (1 : Int32)), .val (.int (0 : Int32))] [(.int (0 : Int32)), (.ref a102), (.ref aMIRROR)])) rfl rfl (hb hby at_187) _ k) ?_
        show OwnGo p e below _ (T176.setTop (mkF m 188 #[.val (.int p1), .val (.int p2), .val (.int p3), .val (.ref a76), .val (.ref a87), .val (.ref a102), .val (.int (0 : Int32)), .val (.int (1 : Int32)), .val (.int (1 : Int32)), .val (.int (0 : Int32))] [(.ref aMIRROR), (.ref aMIRROR)]))
        refine own_go (fun _ k => acmp X176 hx rfl (cd := .ne) (o := 7) (x := (.ref aMIRROR)) (y := (.ref aMIRROR)) (pc0 := 188) (pc' := 191) rfl rfl rfl (hb hby at_188) rfl (own_refeq _) (by decide) (by decide) k) ?_
        show OwnGo p e below _ (T176.setTop (mkF m 191 #[.val (.int p1), .val (.int p2), .val (.int p3), .val (.ref a76), .val (.ref a87), .val (.ref a102), .val (.int (0 : Int32)), .val (.int (1 : Int32)), .val (.int (1 : Int32)), .val (.int (0 : Int32))] []))
        refine own_go (fun _ k => XS.iconst X176.here hx rfl (hb hby at_191) k) ?_
        show OwnGo p e below _ (T176.setTop (mkF m 192 #[.val (.int p1), .val (.int p2), .val (.int p3), .val (.ref a76), .val (.ref a87), .val (.ref a102), .val (.int (0 : Int32)), .val (.int (1 : Int32)), .val (.int (1 : Int32)), .val (.int (0 : Int32))] [(.int (1 : Int32))]))
        refine own_go (fun _ k => XS.goto X176.here hx rfl (pc0 := 192) (pc' := 196) rfl (hb hby at_192) (by decide) (by decide) k) ?_
        show OwnGo p e below _ (T176.setTop (mkF m 196 #[.val (.int p1), .val (.int p2), .val (.int p3), .val (.ref a76), .val (.ref a87), .val (.ref a102), .val (.int (0 : Int32)), .val (.int (1 : Int32)), .val (.int (1 : Int32)), .val (.int (0 : Int32))] [(.int (1 : Int32))]))
        obtain ⟨fs, hr, hrun, hended, hEnd⟩ := Jvm.Stand.leaveW (s := s) (vm₁ := T176.vm) X176 hS176 (by rw [e176]; exact (Nat.le_refl _)) (v := some (.int (1 : Int32))) (fun h => by rw [Bd.returns] at h; cases h)
        refine ⟨_, _, retOut X176 hx Bd.returns rfl (Or.inl ⟨rfl, Or.inr (Or.inl rfl), _, rfl⟩) (hb hby at_196) hr, hrun, hended, _, _, rfl, ?_, own_monoW hEnd (by decide) (by decide)⟩
        show Q_law Z aIDENTICAL aCONTAINMENT aPARTIAL aA_TO_B aB_TO_A aBOTH aNONE aMIRROR aTEMPLATE_OR_PLAGIARISM aARCHIVE_PAGE aLINK_LIST_PART aSAME_SITE_RELATED aCITATION_OR_SPAM aSHARED_TEXT_OR_PLAGIARISM aSW kSW p1 p2 p3 h0 n0 _ T176.heap _
        rw [e176]
        exact ⟨rfl, N176⟩
      · rw [hv163]
        show OwnGo p e below _ (T126.setTop (mkF m 127 #[.val (.int p1), .val (.int p2), .val (.int p3), .val (.ref a76), .val (.ref a87), .val (.ref a102), .val (.int (0 : Int32)), .val (.int (1 : Int32)), .unset, .unset] [(.int (2 : Int32))]))
        refine own_go (fun _ k => XS.istore X126.here hx rfl (hb hby at_127) rfl (l' := #[.val (.int p1), .val (.int p2), .val (.int p3), .val (.ref a76), .val (.ref a87), .val (.ref a102), .val (.int (0 : Int32)), .val (.int (1 : Int32)), .val (.int (2 : Int32)), .unset]) rfl k) ?_
        show OwnGo p e below _ (T126.setTop (mkF m 129 #[.val (.int p1), .val (.int p2), .val (.int p3), .val (.ref a76), .val (.ref a87), .val (.ref a102), .val (.int (0 : Int32)), .val (.int (1 : Int32)), .val (.int (2 : Int32)), .unset] []))
        refine own_go (fun _ k => XS.iconst X126.here hx rfl (hb hby at_129) k) ?_
        show OwnGo p e below _ (T126.setTop (mkF m 130 #[.val (.int p1), .val (.int p2), .val (.int p3), .val (.ref a76), .val (.ref a87), .val (.ref a102), .val (.int (0 : Int32)), .val (.int (1 : Int32)), .val (.int (2 : Int32)), .unset] [(.int (2 : Int32))]))
        refine own_go (fun _ k => XS.iload X126.here hx rfl (hb hby at_130) rfl k) ?_
        show OwnGo p e below _ (T126.setTop (mkF m 132 #[.val (.int p1), .val (.int p2), .val (.int p3), .val (.ref a76), .val (.ref a87), .val (.ref a102), .val (.int (0 : Int32)), .val (.int (1 : Int32)), .val (.int (2 : Int32)), .unset] [(.int (0 : Int32)), (.int (2 : Int32))]))
        refine own_go (fun _ k => XS.imul X126.here hx rfl (hb hby at_132) rfl k) ?_
        show OwnGo p e below _ (T126.setTop (mkF m 133 #[.val (.int p1), .val (.int p2), .val (.int p3), .val (.ref a76), .val (.ref a87), .val (.ref a102), .val (.int (0 : Int32)), .val (.int (1 : Int32)), .val (.int (2 : Int32)), .unset] [(.int ((2 : Int32) * (0 : Int32)))]))
        rw [show ((2 : Int32) * (0 : Int32)) = (0 : Int32) from by decide]
        show OwnGo p e below _ (T126.setTop (mkF m 133 #[.val (.int p1), .val (.int p2), .val (.int p3), .val (.ref a76), .val (.ref a87), .val (.ref a102), .val (.int (0 : Int32)), .val (.int (1 : Int32)), .val (.int (2 : Int32)), .unset] [(.int (0 : Int32))]))
        refine own_go (fun _ k => XS.iload X126.here hx rfl (hb hby at_133) rfl k) ?_
        show OwnGo p e below _ (T126.setTop (mkF m 135 #[.val (.int p1), .val (.int p2), .val (.int p3), .val (.ref a76), .val (.ref a87), .val (.ref a102), .val (.int (0 : Int32)), .val (.int (1 : Int32)), .val (.int (2 : Int32)), .unset] [(.int (1 : Int32)), (.int (0 : Int32))]))
        refine own_go (fun _ k => XS.ifNo X126.here hx rfl (hb hby at_135) rfl (by decide) k) ?_
        show OwnGo p e below _ (T126.setTop (mkF m 138 #[.val (.int p1), .val (.int p2), .val (.int p3), .val (.ref a76), .val (.ref a87), .val (.ref a102), .val (.int (0 : Int32)), .val (.int (1 : Int32)), .val (.int (2 : Int32)), .unset] [(.int (0 : Int32))]))
        refine own_go (fun _ k => XS.iconst X126.here hx rfl (hb hby at_138) k) ?_
        show OwnGo p e below _ (T126.setTop (mkF m 139 #[.val (.int p1), .val (.int p2), .val (.int p3), .val (.ref a76), .val (.ref a87), .val (.ref a102), .val (.int (0 : Int32)), .val (.int (1 : Int32)), .val (.int (2 : Int32)), .unset] [(.int (0 : Int32)), (.int (0 : Int32))]))
        refine own_go (fun _ k => XS.goto X126.here hx rfl (pc0 := 139) (pc' := 143) rfl (hb hby at_139) (by decide) (by decide) k) ?_
        show OwnGo p e below _ (T126.setTop (mkF m 143 #[.val (.int p1), .val (.int p2), .val (.int p3), .val (.ref a76), .val (.ref a87), .val (.ref a102), .val (.int (0 : Int32)), .val (.int (1 : Int32)), .val (.int (2 : Int32)), .unset] [(.int (0 : Int32)), (.int (0 : Int32))]))
        refine own_go (fun _ k => XS.iadd X126.here hx rfl (hb hby at_143) rfl k) ?_
        show OwnGo p e below _ (T126.setTop (mkF m 144 #[.val (.int p1), .val (.int p2), .val (.int p3), .val (.ref a76), .val (.ref a87), .val (.ref a102), .val (.int (0 : Int32)), .val (.int (1 : Int32)), .val (.int (2 : Int32)), .unset] [(.int ((0 : Int32) + (0 : Int32)))]))
        rw [show ((0 : Int32) + (0 : Int32)) = (0 : Int32) from by decide]
        show OwnGo p e below _ (T126.setTop (mkF m 144 #[.val (.int p1), .val (.int p2), .val (.int p3), .val (.ref a76), .val (.ref a87), .val (.ref a102), .val (.int (0 : Int32)), .val (.int (1 : Int32)), .val (.int (2 : Int32)), .unset] [(.int (0 : Int32))]))
        refine own_go (fun _ k => XS.iload X126.here hx rfl (hb hby at_144) rfl k) ?_
        show OwnGo p e below _ (T126.setTop (mkF m 146 #[.val (.int p1), .val (.int p2), .val (.int p3), .val (.ref a76), .val (.ref a87), .val (.ref a102), .val (.int (0 : Int32)), .val (.int (1 : Int32)), .val (.int (2 : Int32)), .unset] [(.int (0 : Int32)), (.int (0 : Int32))]))
        refine own_go (fun _ k => XS.iconst X126.here hx rfl (hb hby at_146) k) ?_
        show OwnGo p e below _ (T126.setTop (mkF m 147 #[.val (.int p1), .val (.int p2), .val (.int p3), .val (.ref a76), .val (.ref a87), .val (.ref a102), .val (.int (0 : Int32)), .val (.int (1 : Int32)), .val (.int (2 : Int32)), .unset] [(.int (2 : Int32)), (.int (0 : Int32)), (.int (0 : Int32))]))
        refine own_go (fun _ k => XS.icmpYes X126.here hx rfl (pc0 := 147) (pc' := 165) rfl (hb hby at_147) rfl (by decide) (by decide) (by decide) k) ?_
        show OwnGo p e below _ (T126.setTop (mkF m 165 #[.val (.int p1), .val (.int p2), .val (.int p3), .val (.ref a76), .val (.ref a87), .val (.ref a102), .val (.int (0 : Int32)), .val (.int (1 : Int32)), .val (.int (2 : Int32)), .unset] [(.int (0 : Int32))]))
        refine own_go (fun _ k => XS.iconst X126.here hx rfl (hb hby at_165) k) ?_
        show OwnGo p e below _ (T126.setTop (mkF m 166 #[.val (.int p1), .val (.int p2), .val (.int p3), .val (.ref a76), .val (.ref a87), .val (.ref a102), .val (.int (0 : Int32)), .val (.int (1 : Int32)), .val (.int (2 : Int32)), .unset] [(.int (0 : Int32)), (.int (0 : Int32))]))
        refine own_go (fun _ k => XS.iadd X126.here hx rfl (hb hby at_166) rfl k) ?_
        show OwnGo p e below _ (T126.setTop (mkF m 167 #[.val (.int p1), .val (.int p2), .val (.int p3), .val (.ref a76), .val (.ref a87), .val (.ref a102), .val (.int (0 : Int32)), .val (.int (1 : Int32)), .val (.int (2 : Int32)), .unset] [(.int ((0 : Int32) + (0 : Int32)))]))
        rw [show ((0 : Int32) + (0 : Int32)) = (0 : Int32) from by decide]
        show OwnGo p e below _ (T126.setTop (mkF m 167 #[.val (.int p1), .val (.int p2), .val (.int p3), .val (.ref a76), .val (.ref a87), .val (.ref a102), .val (.int (0 : Int32)), .val (.int (1 : Int32)), .val (.int (2 : Int32)), .unset] [(.int (0 : Int32))]))
        refine own_go (fun _ k => XS.istore X126.here hx rfl (hb hby at_167) rfl (l' := #[.val (.int p1), .val (.int p2), .val (.int p3), .val (.ref a76), .val (.ref a87), .val (.ref a102), .val (.int (0 : Int32)), .val (.int (1 : Int32)), .val (.int (2 : Int32)), .val (.int (0 : Int32))]) rfl k) ?_
        show OwnGo p e below _ (T126.setTop (mkF m 169 #[.val (.int p1), .val (.int p2), .val (.int p3), .val (.ref a76), .val (.ref a87), .val (.ref a102), .val (.int (0 : Int32)), .val (.int (1 : Int32)), .val (.int (2 : Int32)), .val (.int (0 : Int32))] []))
        refine own_go (fun _ k => XS.aloadN X126.here hx rfl (hb hby at_169) rfl rfl k) ?_
        show OwnGo p e below _ (T126.setTop (mkF m 170 #[.val (.int p1), .val (.int p2), .val (.int p3), .val (.ref a76), .val (.ref a87), .val (.ref a102), .val (.int (0 : Int32)), .val (.int (1 : Int32)), .val (.int (2 : Int32)), .val (.int (0 : Int32))] [(.ref a76)]))
        refine own_go (fun _ k => XS.iload X126.here hx rfl (hb hby at_170) rfl k) ?_
        show OwnGo p e below _ (T126.setTop (mkF m 172 #[.val (.int p1), .val (.int p2), .val (.int p3), .val (.ref a76), .val (.ref a87), .val (.ref a102), .val (.int (0 : Int32)), .val (.int (1 : Int32)), .val (.int (2 : Int32)), .val (.int (0 : Int32))] [(.int (0 : Int32)), (.ref a76)]))
        have F180 := ((((((((F103.ext E102).other W108 ne104).other W111 ne104).other W114 ne104).other W117 ne104).other W120 ne104).other W123 ne104).other W126 ne104)
        obtain ⟨c181, Ar181, q181, S181, M181, H181, G181⟩ := (id F180)
        refine own_go (fun _ k => X126.aaload hx (j := (0 : Int32)) (v := (.ref aIDENTICAL)) (by rw [e126]; exact Ar181.1) (State.isArrayOf_alike hZ.alike Ar181.2.1) rfl Ar181.2.2 (inb_of S181 ⟨by decide, by decide⟩) (Has.at H181 (inb_of S181 ⟨by decide, by decide⟩) rfl) (g := (mkF m 172 #[.val (.int p1), .val (.int p2), .val (.int p3), .val (.ref a76), .val (.ref a87), .val (.ref a102), .val (.int (0 : Int32)), .val (.int (1 : Int32)), .val (.int (2 : Int32)), .val (.int (0 : Int32))] [(.int (0 : Int32)), (.ref a76)])) rfl rfl (hb hby at_172) _ k) ?_
        show OwnGo p e below _ (T126.setTop (mkF m 173 #[.val (.int p1), .val (.int p2), .val (.int p3), .val (.ref a76), .val (.ref a87), .val (.ref a102), .val (.int (0 : Int32)), .val (.int (1 : Int32)), .val (.int (2 : Int32)), .val (.int (0 : Int32))] [(.ref aIDENTICAL)]))
        refine own_go (fun _ k => XS.iload X126.here hx rfl (hb hby at_173) rfl k) ?_
        show OwnGo p e below _ (T126.setTop (mkF m 175 #[.val (.int p1), .val (.int p2), .val (.int p3), .val (.ref a76), .val (.ref a87), .val (.ref a102), .val (.int (0 : Int32)), .val (.int (1 : Int32)), .val (.int (2 : Int32)), .val (.int (0 : Int32))] [(.int (1 : Int32)), (.ref aIDENTICAL)]))
        refine own_go (fun _ k => XS.aload X126.here hx rfl (hb hby at_175) rfl rfl k) ?_
        show OwnGo p e below _ (T126.setTop (mkF m 177 #[.val (.int p1), .val (.int p2), .val (.int p3), .val (.ref a76), .val (.ref a87), .val (.ref a102), .val (.int (0 : Int32)), .val (.int (1 : Int32)), .val (.int (2 : Int32)), .val (.int (0 : Int32))] [(.ref a87), (.int (1 : Int32)), (.ref aIDENTICAL)]))
        refine own_go (fun _ k => XS.iload X126.here hx rfl (hb hby at_177) rfl k) ?_
        show OwnGo p e below _ (T126.setTop (mkF m 179 #[.val (.int p1), .val (.int p2), .val (.int p3), .val (.ref a76), .val (.ref a87), .val (.ref a102), .val (.int (0 : Int32)), .val (.int (1 : Int32)), .val (.int (2 : Int32)), .val (.int (0 : Int32))] [(.int (2 : Int32)), (.ref a87), (.int (1 : Int32)), (.ref aIDENTICAL)]))
        have F182 := ((((((((V100.ext E102).other W108 ne105).other W111 ne105).other W114 ne105).other W117 ne105).other W120 ne105).other W123 ne105).other W126 ne105)
        obtain ⟨c183, Ar183, q183, S183, M183, H183, G183⟩ := (id F182)
        refine own_go (fun _ k => X126.aaload hx (j := (2 : Int32)) (v := (.ref aBOTH)) (by rw [e126]; exact Ar183.1) (State.isArrayOf_alike hZ.alike Ar183.2.1) rfl Ar183.2.2 (inb_of S183 ⟨by decide, by decide⟩) (Has.at H183 (inb_of S183 ⟨by decide, by decide⟩) rfl) (g := (mkF m 179 #[.val (.int p1), .val (.int p2), .val (.int p3), .val (.ref a76), .val (.ref a87), .val (.ref a102), .val (.int (0 : Int32)), .val (.int (1 : Int32)), .val (.int (2 : Int32)), .val (.int (0 : Int32))] [(.int (2 : Int32)), (.ref a87), (.int (1 : Int32)), (.ref aIDENTICAL)])) rfl rfl (hb hby at_179) _ k) ?_
        show OwnGo p e below _ (T126.setTop (mkF m 180 #[.val (.int p1), .val (.int p2), .val (.int p3), .val (.ref a76), .val (.ref a87), .val (.ref a102), .val (.int (0 : Int32)), .val (.int (1 : Int32)), .val (.int (2 : Int32)), .val (.int (0 : Int32))] [(.ref aBOTH), (.int (1 : Int32)), (.ref aIDENTICAL)]))
        obtain ⟨_, _, ⟨T184, L184, k184, n184⟩, -, X184, hS184, hg184, ⟨Lc184, hQ184, l184, y184, z184⟩, st184⟩ := callSS X126 hx (y := (⟨"com/example/page_copy_finder/pagecopyfinder/copies/PairLabel", "of", "(Lcom/example/page_copy_finder/pagecopyfinder/copies/PairKind;ZLcom/example/page_copy_finder/pagecopyfinder/copies/PairLinks;)Lcom/example/page_copy_finder/pagecopyfinder/copies/PairLabel;"⟩ : MethodName)) hown (mvT hZ (hw _ (List.mem_of_getElem? (i := 41) rfl))) (mvT hZ (hw _ (List.mem_of_getElem? (i := 42) rfl))) (mvT hZ (hw _ (List.mem_of_getElem? (i := 25) rfl))) (mvT hZ (hw _ (List.mem_of_getElem? (i := 43) rfl))) (by decide) (backOfS (W := 0) (rm_of01 l Z a0 hw [] aIDENTICAL aCONTAINMENT aPARTIAL aA_TO_B aB_TO_A aBOTH aNONE aMIRROR aTEMPLATE_OR_PLAGIARISM aARCHIVE_PAGE aLINK_LIST_PART aSAME_SITE_RELATED aCITATION_OR_SPAM aSHARED_TEXT_OR_PLAGIARISM aSW kSW F0 aBOTH h126 n0 O126) hZ (hw _ (List.mem_of_getElem? (i := 43) rfl)) (hw _ (List.mem_of_getElem? (i := 25) rfl)) (by decide) (by decide)) (g := (mkF m 180 #[.val (.int p1), .val (.int p2), .val (.int p3), .val (.ref a76), .val (.ref a87), .val (.ref a102), .val (.int (0 : Int32)), .val (.int (1 : Int32)), .val (.int (2 : Int32)), .val (.int (0 : Int32))] [(.ref aBOTH), (.int (1 : Int32)), (.ref aIDENTICAL)])) rfl (by rw [hml]; rfl) (argsL := [(.ref aIDENTICAL), (.int (1 : Int32)), (.ref aBOTH)]) (rest := []) (lenOf pd_Lcom_example_page_copy_finder_pagecopyfinder_copies_PairKind__Z_Lcom_example_page_copy_finder_pagecopyfinder_copies_PairLinks___Lcom_example_page_copy_finder_pagecopyfinder_copies_PairLabel_ rfl) rfl (by show 2 * 0 + _ ≤ _; exact Nat.le_of_eq rfl) (hb hby at_180) (fun _ _ => ⟨rfl, e126, (by decide : 3 + 4 ≤ _), (by decide : 14 + 44 ≤ _)⟩)
        dsimp only [Pt.U, Pt.locs, Pt.cells, Pt.slots] at X184 l184 y184 z184 st184 hQ184 hS184 hg184
        subst l184 y184 z184
        obtain ⟨rfl, Nq184, K184⟩ := hQ184
        have N184 := Fr.app N126 Nq184
        have hZ : Z.Warmed39 (s.setVm T184.vm).vm := State.Warmed39.trans hZ hS184.1
        have hown : (s.setVm T184.vm).vm.findClass "com/example/page_copy_finder/pagecopyfinder/copies/PairLabelOfPinLaw" = some m.cls := (hS184.1.alike.findClass _ _).trans hown
        have O184 := O126.keep K184 all0
        have e184 : T184.heap = T184.heap := rfl
        have z185 : h0.size ≤ T184.heap.size := Nat.le_trans z127 K184.1
        refine own_go (fun _ k => st184.trans k) ?_
        show OwnGo p e below _ (T184.setTop (mkF m 183 #[.val (.int p1), .val (.int p2), .val (.int p3), .val (.ref a76), .val (.ref a87), .val (.ref a102), .val (.int (0 : Int32)), .val (.int (1 : Int32)), .val (.int (2 : Int32)), .val (.int (0 : Int32))] [(.ref aMIRROR)]))
        refine own_go (fun _ k => XS.aload X184.here hx rfl (hb hby at_183) rfl rfl k) ?_
        show OwnGo p e below _ (T184.setTop (mkF m 185 #[.val (.int p1), .val (.int p2), .val (.int p3), .val (.ref a76), .val (.ref a87), .val (.ref a102), .val (.int (0 : Int32)), .val (.int (1 : Int32)), .val (.int (2 : Int32)), .val (.int (0 : Int32))] [(.ref a102), (.ref aMIRROR)]))
        refine own_go (fun _ k => XS.iload X184.here hx rfl (hb hby at_185) rfl k) ?_
        show OwnGo p e below _ (T184.setTop (mkF m 187 #[.val (.int p1), .val (.int p2), .val (.int p3), .val (.ref a76), .val (.ref a87), .val (.ref a102), .val (.int (0 : Int32)), .val (.int (1 : Int32)), .val (.int (2 : Int32)), .val (.int (0 : Int32))] [(.int (0 : Int32)), (.ref a102), (.ref aMIRROR)]))
        have F186 := (V126.keep K184 nin0)
        obtain ⟨c187, Ar187, q187, S187, M187, H187, G187⟩ := (id F186)
        refine own_go (fun _ k => X184.aaload hx (j := (0 : Int32)) (v := (.ref aMIRROR)) (by rw [e184]; exact Ar187.1) (State.isArrayOf_alike hZ.alike Ar187.2.1) rfl Ar187.2.2 (inb_of S187 ⟨by decide, by decide⟩) (Has.at H187 (inb_of S187 ⟨by decide, by decide⟩) rfl) (g := (mkF m 187 #[.val (.int p1), .val (.int p2), .val (.int p3), .val (.ref a76), .val (.ref a87), .val (.ref a102), .val (.int (0 : Int32)), .val (.int (1 : Int32)), .val (.int (2 : Int32)), .val (.int (0 : Int32))] [(.int (0 : Int32)), (.ref a102), (.ref aMIRROR)])) rfl rfl (hb hby at_187) _ k) ?_
        show OwnGo p e below _ (T184.setTop (mkF m 188 #[.val (.int p1), .val (.int p2), .val (.int p3), .val (.ref a76), .val (.ref a87), .val (.ref a102), .val (.int (0 : Int32)), .val (.int (1 : Int32)), .val (.int (2 : Int32)), .val (.int (0 : Int32))] [(.ref aMIRROR), (.ref aMIRROR)]))
        refine own_go (fun _ k => acmp X184 hx rfl (cd := .ne) (o := 7) (x := (.ref aMIRROR)) (y := (.ref aMIRROR)) (pc0 := 188) (pc' := 191) rfl rfl rfl (hb hby at_188) rfl (own_refeq _) (by decide) (by decide) k) ?_
        show OwnGo p e below _ (T184.setTop (mkF m 191 #[.val (.int p1), .val (.int p2), .val (.int p3), .val (.ref a76), .val (.ref a87), .val (.ref a102), .val (.int (0 : Int32)), .val (.int (1 : Int32)), .val (.int (2 : Int32)), .val (.int (0 : Int32))] []))
        refine own_go (fun _ k => XS.iconst X184.here hx rfl (hb hby at_191) k) ?_
        show OwnGo p e below _ (T184.setTop (mkF m 192 #[.val (.int p1), .val (.int p2), .val (.int p3), .val (.ref a76), .val (.ref a87), .val (.ref a102), .val (.int (0 : Int32)), .val (.int (1 : Int32)), .val (.int (2 : Int32)), .val (.int (0 : Int32))] [(.int (1 : Int32))]))
        refine own_go (fun _ k => XS.goto X184.here hx rfl (pc0 := 192) (pc' := 196) rfl (hb hby at_192) (by decide) (by decide) k) ?_
        show OwnGo p e below _ (T184.setTop (mkF m 196 #[.val (.int p1), .val (.int p2), .val (.int p3), .val (.ref a76), .val (.ref a87), .val (.ref a102), .val (.int (0 : Int32)), .val (.int (1 : Int32)), .val (.int (2 : Int32)), .val (.int (0 : Int32))] [(.int (1 : Int32))]))
        obtain ⟨fs, hr, hrun, hended, hEnd⟩ := Jvm.Stand.leaveW (s := s) (vm₁ := T184.vm) X184 hS184 (by rw [e184]; exact (Nat.le_refl _)) (v := some (.int (1 : Int32))) (fun h => by rw [Bd.returns] at h; cases h)
        refine ⟨_, _, retOut X184 hx Bd.returns rfl (Or.inl ⟨rfl, Or.inr (Or.inl rfl), _, rfl⟩) (hb hby at_196) hr, hrun, hended, _, _, rfl, ?_, own_monoW hEnd (by decide) (by decide)⟩
        show Q_law Z aIDENTICAL aCONTAINMENT aPARTIAL aA_TO_B aB_TO_A aBOTH aNONE aMIRROR aTEMPLATE_OR_PLAGIARISM aARCHIVE_PAGE aLINK_LIST_PART aSAME_SITE_RELATED aCITATION_OR_SPAM aSHARED_TEXT_OR_PLAGIARISM aSW kSW p1 p2 p3 h0 n0 _ T184.heap _
        rw [e184]
        exact ⟨rfl, N184⟩
      · rw [hv163]
        show OwnGo p e below _ (T126.setTop (mkF m 127 #[.val (.int p1), .val (.int p2), .val (.int p3), .val (.ref a76), .val (.ref a87), .val (.ref a102), .val (.int (0 : Int32)), .val (.int (1 : Int32)), .unset, .unset] [(.int (3 : Int32))]))
        refine own_go (fun _ k => XS.istore X126.here hx rfl (hb hby at_127) rfl (l' := #[.val (.int p1), .val (.int p2), .val (.int p3), .val (.ref a76), .val (.ref a87), .val (.ref a102), .val (.int (0 : Int32)), .val (.int (1 : Int32)), .val (.int (3 : Int32)), .unset]) rfl k) ?_
        show OwnGo p e below _ (T126.setTop (mkF m 129 #[.val (.int p1), .val (.int p2), .val (.int p3), .val (.ref a76), .val (.ref a87), .val (.ref a102), .val (.int (0 : Int32)), .val (.int (1 : Int32)), .val (.int (3 : Int32)), .unset] []))
        refine own_go (fun _ k => XS.iconst X126.here hx rfl (hb hby at_129) k) ?_
        show OwnGo p e below _ (T126.setTop (mkF m 130 #[.val (.int p1), .val (.int p2), .val (.int p3), .val (.ref a76), .val (.ref a87), .val (.ref a102), .val (.int (0 : Int32)), .val (.int (1 : Int32)), .val (.int (3 : Int32)), .unset] [(.int (2 : Int32))]))
        refine own_go (fun _ k => XS.iload X126.here hx rfl (hb hby at_130) rfl k) ?_
        show OwnGo p e below _ (T126.setTop (mkF m 132 #[.val (.int p1), .val (.int p2), .val (.int p3), .val (.ref a76), .val (.ref a87), .val (.ref a102), .val (.int (0 : Int32)), .val (.int (1 : Int32)), .val (.int (3 : Int32)), .unset] [(.int (0 : Int32)), (.int (2 : Int32))]))
        refine own_go (fun _ k => XS.imul X126.here hx rfl (hb hby at_132) rfl k) ?_
        show OwnGo p e below _ (T126.setTop (mkF m 133 #[.val (.int p1), .val (.int p2), .val (.int p3), .val (.ref a76), .val (.ref a87), .val (.ref a102), .val (.int (0 : Int32)), .val (.int (1 : Int32)), .val (.int (3 : Int32)), .unset] [(.int ((2 : Int32) * (0 : Int32)))]))
        rw [show ((2 : Int32) * (0 : Int32)) = (0 : Int32) from by decide]
        show OwnGo p e below _ (T126.setTop (mkF m 133 #[.val (.int p1), .val (.int p2), .val (.int p3), .val (.ref a76), .val (.ref a87), .val (.ref a102), .val (.int (0 : Int32)), .val (.int (1 : Int32)), .val (.int (3 : Int32)), .unset] [(.int (0 : Int32))]))
        refine own_go (fun _ k => XS.iload X126.here hx rfl (hb hby at_133) rfl k) ?_
        show OwnGo p e below _ (T126.setTop (mkF m 135 #[.val (.int p1), .val (.int p2), .val (.int p3), .val (.ref a76), .val (.ref a87), .val (.ref a102), .val (.int (0 : Int32)), .val (.int (1 : Int32)), .val (.int (3 : Int32)), .unset] [(.int (1 : Int32)), (.int (0 : Int32))]))
        refine own_go (fun _ k => XS.ifNo X126.here hx rfl (hb hby at_135) rfl (by decide) k) ?_
        show OwnGo p e below _ (T126.setTop (mkF m 138 #[.val (.int p1), .val (.int p2), .val (.int p3), .val (.ref a76), .val (.ref a87), .val (.ref a102), .val (.int (0 : Int32)), .val (.int (1 : Int32)), .val (.int (3 : Int32)), .unset] [(.int (0 : Int32))]))
        refine own_go (fun _ k => XS.iconst X126.here hx rfl (hb hby at_138) k) ?_
        show OwnGo p e below _ (T126.setTop (mkF m 139 #[.val (.int p1), .val (.int p2), .val (.int p3), .val (.ref a76), .val (.ref a87), .val (.ref a102), .val (.int (0 : Int32)), .val (.int (1 : Int32)), .val (.int (3 : Int32)), .unset] [(.int (0 : Int32)), (.int (0 : Int32))]))
        refine own_go (fun _ k => XS.goto X126.here hx rfl (pc0 := 139) (pc' := 143) rfl (hb hby at_139) (by decide) (by decide) k) ?_
        show OwnGo p e below _ (T126.setTop (mkF m 143 #[.val (.int p1), .val (.int p2), .val (.int p3), .val (.ref a76), .val (.ref a87), .val (.ref a102), .val (.int (0 : Int32)), .val (.int (1 : Int32)), .val (.int (3 : Int32)), .unset] [(.int (0 : Int32)), (.int (0 : Int32))]))
        refine own_go (fun _ k => XS.iadd X126.here hx rfl (hb hby at_143) rfl k) ?_
        show OwnGo p e below _ (T126.setTop (mkF m 144 #[.val (.int p1), .val (.int p2), .val (.int p3), .val (.ref a76), .val (.ref a87), .val (.ref a102), .val (.int (0 : Int32)), .val (.int (1 : Int32)), .val (.int (3 : Int32)), .unset] [(.int ((0 : Int32) + (0 : Int32)))]))
        rw [show ((0 : Int32) + (0 : Int32)) = (0 : Int32) from by decide]
        show OwnGo p e below _ (T126.setTop (mkF m 144 #[.val (.int p1), .val (.int p2), .val (.int p3), .val (.ref a76), .val (.ref a87), .val (.ref a102), .val (.int (0 : Int32)), .val (.int (1 : Int32)), .val (.int (3 : Int32)), .unset] [(.int (0 : Int32))]))
        refine own_go (fun _ k => XS.iload X126.here hx rfl (hb hby at_144) rfl k) ?_
        show OwnGo p e below _ (T126.setTop (mkF m 146 #[.val (.int p1), .val (.int p2), .val (.int p3), .val (.ref a76), .val (.ref a87), .val (.ref a102), .val (.int (0 : Int32)), .val (.int (1 : Int32)), .val (.int (3 : Int32)), .unset] [(.int (0 : Int32)), (.int (0 : Int32))]))
        refine own_go (fun _ k => XS.iconst X126.here hx rfl (hb hby at_146) k) ?_
        show OwnGo p e below _ (T126.setTop (mkF m 147 #[.val (.int p1), .val (.int p2), .val (.int p3), .val (.ref a76), .val (.ref a87), .val (.ref a102), .val (.int (0 : Int32)), .val (.int (1 : Int32)), .val (.int (3 : Int32)), .unset] [(.int (2 : Int32)), (.int (0 : Int32)), (.int (0 : Int32))]))
        refine own_go (fun _ k => XS.icmpYes X126.here hx rfl (pc0 := 147) (pc' := 165) rfl (hb hby at_147) rfl (by decide) (by decide) (by decide) k) ?_
        show OwnGo p e below _ (T126.setTop (mkF m 165 #[.val (.int p1), .val (.int p2), .val (.int p3), .val (.ref a76), .val (.ref a87), .val (.ref a102), .val (.int (0 : Int32)), .val (.int (1 : Int32)), .val (.int (3 : Int32)), .unset] [(.int (0 : Int32))]))
        refine own_go (fun _ k => XS.iconst X126.here hx rfl (hb hby at_165) k) ?_
        show OwnGo p e below _ (T126.setTop (mkF m 166 #[.val (.int p1), .val (.int p2), .val (.int p3), .val (.ref a76), .val (.ref a87), .val (.ref a102), .val (.int (0 : Int32)), .val (.int (1 : Int32)), .val (.int (3 : Int32)), .unset] [(.int (0 : Int32)), (.int (0 : Int32))]))
        refine own_go (fun _ k => XS.iadd X126.here hx rfl (hb hby at_166) rfl k) ?_
        show OwnGo p e below _ (T126.setTop (mkF m 167 #[.val (.int p1), .val (.int p2), .val (.int p3), .val (.ref a76), .val (.ref a87), .val (.ref a102), .val (.int (0 : Int32)), .val (.int (1 : Int32)), .val (.int (3 : Int32)), .unset] [(.int ((0 : Int32) + (0 : Int32)))]))
        rw [show ((0 : Int32) + (0 : Int32)) = (0 : Int32) from by decide]
        show OwnGo p e below _ (T126.setTop (mkF m 167 #[.val (.int p1), .val (.int p2), .val (.int p3), .val (.ref a76), .val (.ref a87), .val (.ref a102), .val (.int (0 : Int32)), .val (.int (1 : Int32)), .val (.int (3 : Int32)), .unset] [(.int (0 : Int32))]))
        refine own_go (fun _ k => XS.istore X126.here hx rfl (hb hby at_167) rfl (l' := #[.val (.int p1), .val (.int p2), .val (.int p3), .val (.ref a76), .val (.ref a87), .val (.ref a102), .val (.int (0 : Int32)), .val (.int (1 : Int32)), .val (.int (3 : Int32)), .val (.int (0 : Int32))]) rfl k) ?_
        show OwnGo p e below _ (T126.setTop (mkF m 169 #[.val (.int p1), .val (.int p2), .val (.int p3), .val (.ref a76), .val (.ref a87), .val (.ref a102), .val (.int (0 : Int32)), .val (.int (1 : Int32)), .val (.int (3 : Int32)), .val (.int (0 : Int32))] []))
        refine own_go (fun _ k => XS.aloadN X126.here hx rfl (hb hby at_169) rfl rfl k) ?_
        show OwnGo p e below _ (T126.setTop (mkF m 170 #[.val (.int p1), .val (.int p2), .val (.int p3), .val (.ref a76), .val (.ref a87), .val (.ref a102), .val (.int (0 : Int32)), .val (.int (1 : Int32)), .val (.int (3 : Int32)), .val (.int (0 : Int32))] [(.ref a76)]))
        refine own_go (fun _ k => XS.iload X126.here hx rfl (hb hby at_170) rfl k) ?_
        show OwnGo p e below _ (T126.setTop (mkF m 172 #[.val (.int p1), .val (.int p2), .val (.int p3), .val (.ref a76), .val (.ref a87), .val (.ref a102), .val (.int (0 : Int32)), .val (.int (1 : Int32)), .val (.int (3 : Int32)), .val (.int (0 : Int32))] [(.int (0 : Int32)), (.ref a76)]))
        have F188 := ((((((((F103.ext E102).other W108 ne104).other W111 ne104).other W114 ne104).other W117 ne104).other W120 ne104).other W123 ne104).other W126 ne104)
        obtain ⟨c189, Ar189, q189, S189, M189, H189, G189⟩ := (id F188)
        refine own_go (fun _ k => X126.aaload hx (j := (0 : Int32)) (v := (.ref aIDENTICAL)) (by rw [e126]; exact Ar189.1) (State.isArrayOf_alike hZ.alike Ar189.2.1) rfl Ar189.2.2 (inb_of S189 ⟨by decide, by decide⟩) (Has.at H189 (inb_of S189 ⟨by decide, by decide⟩) rfl) (g := (mkF m 172 #[.val (.int p1), .val (.int p2), .val (.int p3), .val (.ref a76), .val (.ref a87), .val (.ref a102), .val (.int (0 : Int32)), .val (.int (1 : Int32)), .val (.int (3 : Int32)), .val (.int (0 : Int32))] [(.int (0 : Int32)), (.ref a76)])) rfl rfl (hb hby at_172) _ k) ?_
        show OwnGo p e below _ (T126.setTop (mkF m 173 #[.val (.int p1), .val (.int p2), .val (.int p3), .val (.ref a76), .val (.ref a87), .val (.ref a102), .val (.int (0 : Int32)), .val (.int (1 : Int32)), .val (.int (3 : Int32)), .val (.int (0 : Int32))] [(.ref aIDENTICAL)]))
        refine own_go (fun _ k => XS.iload X126.here hx rfl (hb hby at_173) rfl k) ?_
        show OwnGo p e below _ (T126.setTop (mkF m 175 #[.val (.int p1), .val (.int p2), .val (.int p3), .val (.ref a76), .val (.ref a87), .val (.ref a102), .val (.int (0 : Int32)), .val (.int (1 : Int32)), .val (.int (3 : Int32)), .val (.int (0 : Int32))] [(.int (1 : Int32)), (.ref aIDENTICAL)]))
        refine own_go (fun _ k => XS.aload X126.here hx rfl (hb hby at_175) rfl rfl k) ?_
        show OwnGo p e below _ (T126.setTop (mkF m 177 #[.val (.int p1), .val (.int p2), .val (.int p3), .val (.ref a76), .val (.ref a87), .val (.ref a102), .val (.int (0 : Int32)), .val (.int (1 : Int32)), .val (.int (3 : Int32)), .val (.int (0 : Int32))] [(.ref a87), (.int (1 : Int32)), (.ref aIDENTICAL)]))
        refine own_go (fun _ k => XS.iload X126.here hx rfl (hb hby at_177) rfl k) ?_
        show OwnGo p e below _ (T126.setTop (mkF m 179 #[.val (.int p1), .val (.int p2), .val (.int p3), .val (.ref a76), .val (.ref a87), .val (.ref a102), .val (.int (0 : Int32)), .val (.int (1 : Int32)), .val (.int (3 : Int32)), .val (.int (0 : Int32))] [(.int (3 : Int32)), (.ref a87), (.int (1 : Int32)), (.ref aIDENTICAL)]))
        have F190 := ((((((((V100.ext E102).other W108 ne105).other W111 ne105).other W114 ne105).other W117 ne105).other W120 ne105).other W123 ne105).other W126 ne105)
        obtain ⟨c191, Ar191, q191, S191, M191, H191, G191⟩ := (id F190)
        refine own_go (fun _ k => X126.aaload hx (j := (3 : Int32)) (v := (.ref aNONE)) (by rw [e126]; exact Ar191.1) (State.isArrayOf_alike hZ.alike Ar191.2.1) rfl Ar191.2.2 (inb_of S191 ⟨by decide, by decide⟩) (Has.at H191 (inb_of S191 ⟨by decide, by decide⟩) rfl) (g := (mkF m 179 #[.val (.int p1), .val (.int p2), .val (.int p3), .val (.ref a76), .val (.ref a87), .val (.ref a102), .val (.int (0 : Int32)), .val (.int (1 : Int32)), .val (.int (3 : Int32)), .val (.int (0 : Int32))] [(.int (3 : Int32)), (.ref a87), (.int (1 : Int32)), (.ref aIDENTICAL)])) rfl rfl (hb hby at_179) _ k) ?_
        show OwnGo p e below _ (T126.setTop (mkF m 180 #[.val (.int p1), .val (.int p2), .val (.int p3), .val (.ref a76), .val (.ref a87), .val (.ref a102), .val (.int (0 : Int32)), .val (.int (1 : Int32)), .val (.int (3 : Int32)), .val (.int (0 : Int32))] [(.ref aNONE), (.int (1 : Int32)), (.ref aIDENTICAL)]))
        obtain ⟨_, _, ⟨T192, L192, k192, n192⟩, -, X192, hS192, hg192, ⟨Lc192, hQ192, l192, y192, z192⟩, st192⟩ := callSS X126 hx (y := (⟨"com/example/page_copy_finder/pagecopyfinder/copies/PairLabel", "of", "(Lcom/example/page_copy_finder/pagecopyfinder/copies/PairKind;ZLcom/example/page_copy_finder/pagecopyfinder/copies/PairLinks;)Lcom/example/page_copy_finder/pagecopyfinder/copies/PairLabel;"⟩ : MethodName)) hown (mvT hZ (hw _ (List.mem_of_getElem? (i := 41) rfl))) (mvT hZ (hw _ (List.mem_of_getElem? (i := 42) rfl))) (mvT hZ (hw _ (List.mem_of_getElem? (i := 25) rfl))) (mvT hZ (hw _ (List.mem_of_getElem? (i := 43) rfl))) (by decide) (backOfS (W := 0) (rm_of01 l Z a0 hw [] aIDENTICAL aCONTAINMENT aPARTIAL aA_TO_B aB_TO_A aBOTH aNONE aMIRROR aTEMPLATE_OR_PLAGIARISM aARCHIVE_PAGE aLINK_LIST_PART aSAME_SITE_RELATED aCITATION_OR_SPAM aSHARED_TEXT_OR_PLAGIARISM aSW kSW F0 aNONE h126 n0 O126) hZ (hw _ (List.mem_of_getElem? (i := 43) rfl)) (hw _ (List.mem_of_getElem? (i := 25) rfl)) (by decide) (by decide)) (g := (mkF m 180 #[.val (.int p1), .val (.int p2), .val (.int p3), .val (.ref a76), .val (.ref a87), .val (.ref a102), .val (.int (0 : Int32)), .val (.int (1 : Int32)), .val (.int (3 : Int32)), .val (.int (0 : Int32))] [(.ref aNONE), (.int (1 : Int32)), (.ref aIDENTICAL)])) rfl (by rw [hml]; rfl) (argsL := [(.ref aIDENTICAL), (.int (1 : Int32)), (.ref aNONE)]) (rest := []) (lenOf pd_Lcom_example_page_copy_finder_pagecopyfinder_copies_PairKind__Z_Lcom_example_page_copy_finder_pagecopyfinder_copies_PairLinks___Lcom_example_page_copy_finder_pagecopyfinder_copies_PairLabel_ rfl) rfl (by show 2 * 0 + _ ≤ _; exact Nat.le_of_eq rfl) (hb hby at_180) (fun _ _ => ⟨rfl, e126, (by decide : 3 + 4 ≤ _), (by decide : 14 + 44 ≤ _)⟩)
        dsimp only [Pt.U, Pt.locs, Pt.cells, Pt.slots] at X192 l192 y192 z192 st192 hQ192 hS192 hg192
        subst l192 y192 z192
        obtain ⟨rfl, Nq192, K192⟩ := hQ192
        have N192 := Fr.app N126 Nq192
        have hZ : Z.Warmed39 (s.setVm T192.vm).vm := State.Warmed39.trans hZ hS192.1
        have hown : (s.setVm T192.vm).vm.findClass "com/example/page_copy_finder/pagecopyfinder/copies/PairLabelOfPinLaw" = some m.cls := (hS192.1.alike.findClass _ _).trans hown
        have O192 := O126.keep K192 all0
        have e192 : T192.heap = T192.heap := rfl
        have z193 : h0.size ≤ T192.heap.size := Nat.le_trans z127 K192.1
        refine own_go (fun _ k => st192.trans k) ?_
        show OwnGo p e below _ (T192.setTop (mkF m 183 #[.val (.int p1), .val (.int p2), .val (.int p3), .val (.ref a76), .val (.ref a87), .val (.ref a102), .val (.int (0 : Int32)), .val (.int (1 : Int32)), .val (.int (3 : Int32)), .val (.int (0 : Int32))] [(.ref aMIRROR)]))
        refine own_go (fun _ k => XS.aload X192.here hx rfl (hb hby at_183) rfl rfl k) ?_
        show OwnGo p e below _ (T192.setTop (mkF m 185 #[.val (.int p1), .val (.int p2), .val (.int p3), .val (.ref a76), .val (.ref a87), .val (.ref a102), .val (.int (0 : Int32)), .val (.int (1 : Int32)), .val (.int (3 : Int32)), .val (.int (0 : Int32))] [(.ref a102), (.ref aMIRROR)]))
        refine own_go (fun _ k => XS.iload X192.here hx rfl (hb hby at_185) rfl k) ?_
        show OwnGo p e below _ (T192.setTop (mkF m 187 #[.val (.int p1), .val (.int p2), .val (.int p3), .val (.ref a76), .val (.ref a87), .val (.ref a102), .val (.int (0 : Int32)), .val (.int (1 : Int32)), .val (.int (3 : Int32)), .val (.int (0 : Int32))] [(.int (0 : Int32)), (.ref a102), (.ref aMIRROR)]))
        have F194 := (V126.keep K192 nin0)
        obtain ⟨c195, Ar195, q195, S195, M195, H195, G195⟩ := (id F194)
        refine own_go (fun _ k => X192.aaload hx (j := (0 : Int32)) (v := (.ref aMIRROR)) (by rw [e192]; exact Ar195.1) (State.isArrayOf_alike hZ.alike Ar195.2.1) rfl Ar195.2.2 (inb_of S195 ⟨by decide, by decide⟩) (Has.at H195 (inb_of S195 ⟨by decide, by decide⟩) rfl) (g := (mkF m 187 #[.val (.int p1), .val (.int p2), .val (.int p3), .val (.ref a76), .val (.ref a87), .val (.ref a102), .val (.int (0 : Int32)), .val (.int (1 : Int32)), .val (.int (3 : Int32)), .val (.int (0 : Int32))] [(.int (0 : Int32)), (.ref a102), (.ref aMIRROR)])) rfl rfl (hb hby at_187) _ k) ?_
        show OwnGo p e below _ (T192.setTop (mkF m 188 #[.val (.int p1), .val (.int p2), .val (.int p3), .val (.ref a76), .val (.ref a87), .val (.ref a102), .val (.int (0 : Int32)), .val (.int (1 : Int32)), .val (.int (3 : Int32)), .val (.int (0 : Int32))] [(.ref aMIRROR), (.ref aMIRROR)]))
        refine own_go (fun _ k => acmp X192 hx rfl (cd := .ne) (o := 7) (x := (.ref aMIRROR)) (y := (.ref aMIRROR)) (pc0 := 188) (pc' := 191) rfl rfl rfl (hb hby at_188) rfl (own_refeq _) (by decide) (by decide) k) ?_
        show OwnGo p e below _ (T192.setTop (mkF m 191 #[.val (.int p1), .val (.int p2), .val (.int p3), .val (.ref a76), .val (.ref a87), .val (.ref a102), .val (.int (0 : Int32)), .val (.int (1 : Int32)), .val (.int (3 : Int32)), .val (.int (0 : Int32))] []))
        refine own_go (fun _ k => XS.iconst X192.here hx rfl (hb hby at_191) k) ?_
        show OwnGo p e below _ (T192.setTop (mkF m 192 #[.val (.int p1), .val (.int p2), .val (.int p3), .val (.ref a76), .val (.ref a87), .val (.ref a102), .val (.int (0 : Int32)), .val (.int (1 : Int32)), .val (.int (3 : Int32)), .val (.int (0 : Int32))] [(.int (1 : Int32))]))
        refine own_go (fun _ k => XS.goto X192.here hx rfl (pc0 := 192) (pc' := 196) rfl (hb hby at_192) (by decide) (by decide) k) ?_
        show OwnGo p e below _ (T192.setTop (mkF m 196 #[.val (.int p1), .val (.int p2), .val (.int p3), .val (.ref a76), .val (.ref a87), .val (.ref a102), .val (.int (0 : Int32)), .val (.int (1 : Int32)), .val (.int (3 : Int32)), .val (.int (0 : Int32))] [(.int (1 : Int32))]))
        obtain ⟨fs, hr, hrun, hended, hEnd⟩ := Jvm.Stand.leaveW (s := s) (vm₁ := T192.vm) X192 hS192 (by rw [e192]; exact (Nat.le_refl _)) (v := some (.int (1 : Int32))) (fun h => by rw [Bd.returns] at h; cases h)
        refine ⟨_, _, retOut X192 hx Bd.returns rfl (Or.inl ⟨rfl, Or.inr (Or.inl rfl), _, rfl⟩) (hb hby at_196) hr, hrun, hended, _, _, rfl, ?_, own_monoW hEnd (by decide) (by decide)⟩
        show Q_law Z aIDENTICAL aCONTAINMENT aPARTIAL aA_TO_B aB_TO_A aBOTH aNONE aMIRROR aTEMPLATE_OR_PLAGIARISM aARCHIVE_PAGE aLINK_LIST_PART aSAME_SITE_RELATED aCITATION_OR_SPAM aSHARED_TEXT_OR_PLAGIARISM aSW kSW p1 p2 p3 h0 n0 _ T192.heap _
        rw [e192]
        exact ⟨rfl, N192⟩
  · rw [hv128]
    show OwnGo p e below _ (T126.setTop (mkF m 109 #[.val (.int p1), .val (.int p2), .val (.int p3), .val (.ref a76), .val (.ref a87), .val (.ref a102), .unset, .unset, .unset, .unset] [(.int (1 : Int32))]))
    refine own_go (fun _ k => XS.istore X126.here hx rfl (hb hby at_109) rfl (l' := #[.val (.int p1), .val (.int p2), .val (.int p3), .val (.ref a76), .val (.ref a87), .val (.ref a102), .val (.int (1 : Int32)), .unset, .unset, .unset]) rfl k) ?_
    show OwnGo p e below _ (T126.setTop (mkF m 111 #[.val (.int p1), .val (.int p2), .val (.int p3), .val (.ref a76), .val (.ref a87), .val (.ref a102), .val (.int (1 : Int32)), .unset, .unset, .unset] []))
    refine own_go (fun _ k => XS.iloadN X126.here hx rfl (hb hby at_111) rfl k) ?_
    show OwnGo p e below _ (T126.setTop (mkF m 112 #[.val (.int p1), .val (.int p2), .val (.int p3), .val (.ref a76), .val (.ref a87), .val (.ref a102), .val (.int (1 : Int32)), .unset, .unset, .unset] [(.int p2)]))
    refine own_go (fun _ k => XS.iconst X126.here hx rfl (hb hby at_112) k) ?_
    show OwnGo p e below _ (T126.setTop (mkF m 113 #[.val (.int p1), .val (.int p2), .val (.int p3), .val (.ref a76), .val (.ref a87), .val (.ref a102), .val (.int (1 : Int32)), .unset, .unset, .unset] [(.int (1 : Int32)), (.int p2)]))
    refine own_go (fun _ k => XS.iand X126.here hx rfl (hb hby at_113) rfl k) ?_
    show OwnGo p e below _ (T126.setTop (mkF m 114 #[.val (.int p1), .val (.int p2), .val (.int p3), .val (.ref a76), .val (.ref a87), .val (.ref a102), .val (.int (1 : Int32)), .unset, .unset, .unset] [(.int (p2 &&& (1 : Int32)))]))
    by_cases hc196 : (p2 &&& (1 : Int32)) = (0 : Int32)
    · refine own_go (fun _ k => XS.ifYes X126.here hx rfl (pc0 := 114) (pc' := 121) rfl (hb hby at_114) rfl ((if0 _ _).trans (teq hc196).1) (by decide) (by decide) k) ?_
      show OwnGo p e below _ (T126.setTop (mkF m 121 #[.val (.int p1), .val (.int p2), .val (.int p3), .val (.ref a76), .val (.ref a87), .val (.ref a102), .val (.int (1 : Int32)), .unset, .unset, .unset] []))
      refine own_go (fun _ k => XS.iconst X126.here hx rfl (hb hby at_121) k) ?_
      show OwnGo p e below _ (T126.setTop (mkF m 122 #[.val (.int p1), .val (.int p2), .val (.int p3), .val (.ref a76), .val (.ref a87), .val (.ref a102), .val (.int (1 : Int32)), .unset, .unset, .unset] [(.int (0 : Int32))]))
      refine own_go (fun _ k => XS.istore X126.here hx rfl (hb hby at_122) rfl (l' := #[.val (.int p1), .val (.int p2), .val (.int p3), .val (.ref a76), .val (.ref a87), .val (.ref a102), .val (.int (1 : Int32)), .val (.int (0 : Int32)), .unset, .unset]) rfl k) ?_
      show OwnGo p e below _ (T126.setTop (mkF m 124 #[.val (.int p1), .val (.int p2), .val (.int p3), .val (.ref a76), .val (.ref a87), .val (.ref a102), .val (.int (1 : Int32)), .val (.int (0 : Int32)), .unset, .unset] []))
      refine own_go (fun _ k => XS.iloadN X126.here hx rfl (hb hby at_124) rfl k) ?_
      show OwnGo p e below _ (T126.setTop (mkF m 125 #[.val (.int p1), .val (.int p2), .val (.int p3), .val (.ref a76), .val (.ref a87), .val (.ref a102), .val (.int (1 : Int32)), .val (.int (0 : Int32)), .unset, .unset] [(.int p3)]))
      refine own_go (fun _ k => XS.iconst X126.here hx rfl (hb hby at_125) k) ?_
      show OwnGo p e below _ (T126.setTop (mkF m 126 #[.val (.int p1), .val (.int p2), .val (.int p3), .val (.ref a76), .val (.ref a87), .val (.ref a102), .val (.int (1 : Int32)), .val (.int (0 : Int32)), .unset, .unset] [(.int (3 : Int32)), (.int p3)]))
      refine own_go (fun _ k => XS.iand X126.here hx rfl (hb hby at_126) rfl k) ?_
      show OwnGo p e below _ (T126.setTop (mkF m 127 #[.val (.int p1), .val (.int p2), .val (.int p3), .val (.ref a76), .val (.ref a87), .val (.ref a102), .val (.int (1 : Int32)), .val (.int (0 : Int32)), .unset, .unset] [(.int (p3 &&& (3 : Int32)))]))
      rcases own_and3 p3 with hv197 | hv197 | hv197 | hv197
      · rw [hv197]
        show OwnGo p e below _ (T126.setTop (mkF m 127 #[.val (.int p1), .val (.int p2), .val (.int p3), .val (.ref a76), .val (.ref a87), .val (.ref a102), .val (.int (1 : Int32)), .val (.int (0 : Int32)), .unset, .unset] [(.int (0 : Int32))]))
        refine own_go (fun _ k => XS.istore X126.here hx rfl (hb hby at_127) rfl (l' := #[.val (.int p1), .val (.int p2), .val (.int p3), .val (.ref a76), .val (.ref a87), .val (.ref a102), .val (.int (1 : Int32)), .val (.int (0 : Int32)), .val (.int (0 : Int32)), .unset]) rfl k) ?_
        show OwnGo p e below _ (T126.setTop (mkF m 129 #[.val (.int p1), .val (.int p2), .val (.int p3), .val (.ref a76), .val (.ref a87), .val (.ref a102), .val (.int (1 : Int32)), .val (.int (0 : Int32)), .val (.int (0 : Int32)), .unset] []))
        refine own_go (fun _ k => XS.iconst X126.here hx rfl (hb hby at_129) k) ?_
        show OwnGo p e below _ (T126.setTop (mkF m 130 #[.val (.int p1), .val (.int p2), .val (.int p3), .val (.ref a76), .val (.ref a87), .val (.ref a102), .val (.int (1 : Int32)), .val (.int (0 : Int32)), .val (.int (0 : Int32)), .unset] [(.int (2 : Int32))]))
        refine own_go (fun _ k => XS.iload X126.here hx rfl (hb hby at_130) rfl k) ?_
        show OwnGo p e below _ (T126.setTop (mkF m 132 #[.val (.int p1), .val (.int p2), .val (.int p3), .val (.ref a76), .val (.ref a87), .val (.ref a102), .val (.int (1 : Int32)), .val (.int (0 : Int32)), .val (.int (0 : Int32)), .unset] [(.int (1 : Int32)), (.int (2 : Int32))]))
        refine own_go (fun _ k => XS.imul X126.here hx rfl (hb hby at_132) rfl k) ?_
        show OwnGo p e below _ (T126.setTop (mkF m 133 #[.val (.int p1), .val (.int p2), .val (.int p3), .val (.ref a76), .val (.ref a87), .val (.ref a102), .val (.int (1 : Int32)), .val (.int (0 : Int32)), .val (.int (0 : Int32)), .unset] [(.int ((2 : Int32) * (1 : Int32)))]))
        rw [show ((2 : Int32) * (1 : Int32)) = (2 : Int32) from by decide]
        show OwnGo p e below _ (T126.setTop (mkF m 133 #[.val (.int p1), .val (.int p2), .val (.int p3), .val (.ref a76), .val (.ref a87), .val (.ref a102), .val (.int (1 : Int32)), .val (.int (0 : Int32)), .val (.int (0 : Int32)), .unset] [(.int (2 : Int32))]))
        refine own_go (fun _ k => XS.iload X126.here hx rfl (hb hby at_133) rfl k) ?_
        show OwnGo p e below _ (T126.setTop (mkF m 135 #[.val (.int p1), .val (.int p2), .val (.int p3), .val (.ref a76), .val (.ref a87), .val (.ref a102), .val (.int (1 : Int32)), .val (.int (0 : Int32)), .val (.int (0 : Int32)), .unset] [(.int (0 : Int32)), (.int (2 : Int32))]))
        refine own_go (fun _ k => XS.ifYes X126.here hx rfl (pc0 := 135) (pc' := 142) rfl (hb hby at_135) rfl (by decide) (by decide) (by decide) k) ?_
        show OwnGo p e below _ (T126.setTop (mkF m 142 #[.val (.int p1), .val (.int p2), .val (.int p3), .val (.ref a76), .val (.ref a87), .val (.ref a102), .val (.int (1 : Int32)), .val (.int (0 : Int32)), .val (.int (0 : Int32)), .unset] [(.int (2 : Int32))]))
        refine own_go (fun _ k => XS.iconst X126.here hx rfl (hb hby at_142) k) ?_
        show OwnGo p e below _ (T126.setTop (mkF m 143 #[.val (.int p1), .val (.int p2), .val (.int p3), .val (.ref a76), .val (.ref a87), .val (.ref a102), .val (.int (1 : Int32)), .val (.int (0 : Int32)), .val (.int (0 : Int32)), .unset] [(.int (1 : Int32)), (.int (2 : Int32))]))
        refine own_go (fun _ k => XS.iadd X126.here hx rfl (hb hby at_143) rfl k) ?_
        show OwnGo p e below _ (T126.setTop (mkF m 144 #[.val (.int p1), .val (.int p2), .val (.int p3), .val (.ref a76), .val (.ref a87), .val (.ref a102), .val (.int (1 : Int32)), .val (.int (0 : Int32)), .val (.int (0 : Int32)), .unset] [(.int ((2 : Int32) + (1 : Int32)))]))
        rw [show ((2 : Int32) + (1 : Int32)) = (3 : Int32) from by decide]
        show OwnGo p e below _ (T126.setTop (mkF m 144 #[.val (.int p1), .val (.int p2), .val (.int p3), .val (.ref a76), .val (.ref a87), .val (.ref a102), .val (.int (1 : Int32)), .val (.int (0 : Int32)), .val (.int (0 : Int32)), .unset] [(.int (3 : Int32))]))
        refine own_go (fun _ k => XS.iload X126.here hx rfl (hb hby at_144) rfl k) ?_
        show OwnGo p e below _ (T126.setTop (mkF m 146 #[.val (.int p1), .val (.int p2), .val (.int p3), .val (.ref a76), .val (.ref a87), .val (.ref a102), .val (.int (1 : Int32)), .val (.int (0 : Int32)), .val (.int (0 : Int32)), .unset] [(.int (1 : Int32)), (.int (3 : Int32))]))
        refine own_go (fun _ k => XS.iconst X126.here hx rfl (hb hby at_146) k) ?_
        show OwnGo p e below _ (T126.setTop (mkF m 147 #[.val (.int p1), .val (.int p2), .val (.int p3), .val (.ref a76), .val (.ref a87), .val (.ref a102), .val (.int (1 : Int32)), .val (.int (0 : Int32)), .val (.int (0 : Int32)), .unset] [(.int (2 : Int32)), (.int (1 : Int32)), (.int (3 : Int32))]))
        refine own_go (fun _ k => XS.icmpYes X126.here hx rfl (pc0 := 147) (pc' := 165) rfl (hb hby at_147) rfl (by decide) (by decide) (by decide) k) ?_
        show OwnGo p e below _ (T126.setTop (mkF m 165 #[.val (.int p1), .val (.int p2), .val (.int p3), .val (.ref a76), .val (.ref a87), .val (.ref a102), .val (.int (1 : Int32)), .val (.int (0 : Int32)), .val (.int (0 : Int32)), .unset] [(.int (3 : Int32))]))
        refine own_go (fun _ k => XS.iconst X126.here hx rfl (hb hby at_165) k) ?_
        show OwnGo p e below _ (T126.setTop (mkF m 166 #[.val (.int p1), .val (.int p2), .val (.int p3), .val (.ref a76), .val (.ref a87), .val (.ref a102), .val (.int (1 : Int32)), .val (.int (0 : Int32)), .val (.int (0 : Int32)), .unset] [(.int (0 : Int32)), (.int (3 : Int32))]))
        refine own_go (fun _ k => XS.iadd X126.here hx rfl (hb hby at_166) rfl k) ?_
        show OwnGo p e below _ (T126.setTop (mkF m 167 #[.val (.int p1), .val (.int p2), .val (.int p3), .val (.ref a76), .val (.ref a87), .val (.ref a102), .val (.int (1 : Int32)), .val (.int (0 : Int32)), .val (.int (0 : Int32)), .unset] [(.int ((3 : Int32) + (0 : Int32)))]))
        rw [show ((3 : Int32) + (0 : Int32)) = (3 : Int32) from by decide]
        show OwnGo p e below _ (T126.setTop (mkF m 167 #[.val (.int p1), .val (.int p2), .val (.int p3), .val (.ref a76), .val (.ref a87), .val (.ref a102), .val (.int (1 : Int32)), .val (.int (0 : Int32)), .val (.int (0 : Int32)), .unset] [(.int (3 : Int32))]))
        refine own_go (fun _ k => XS.istore X126.here hx rfl (hb hby at_167) rfl (l' := #[.val (.int p1), .val (.int p2), .val (.int p3), .val (.ref a76), .val (.ref a87), .val (.ref a102), .val (.int (1 : Int32)), .val (.int (0 : Int32)), .val (.int (0 : Int32)), .val (.int (3 : Int32))]) rfl k) ?_
        show OwnGo p e below _ (T126.setTop (mkF m 169 #[.val (.int p1), .val (.int p2), .val (.int p3), .val (.ref a76), .val (.ref a87), .val (.ref a102), .val (.int (1 : Int32)), .val (.int (0 : Int32)), .val (.int (0 : Int32)), .val (.int (3 : Int32))] []))
        refine own_go (fun _ k => XS.aloadN X126.here hx rfl (hb hby at_169) rfl rfl k) ?_
        show OwnGo p e below _ (T126.setTop (mkF m 170 #[.val (.int p1), .val (.int p2), .val (.int p3), .val (.ref a76), .val (.ref a87), .val (.ref a102), .val (.int (1 : Int32)), .val (.int (0 : Int32)), .val (.int (0 : Int32)), .val (.int (3 : Int32))] [(.ref a76)]))
        refine own_go (fun _ k => XS.iload X126.here hx rfl (hb hby at_170) rfl k) ?_
        show OwnGo p e below _ (T126.setTop (mkF m 172 #[.val (.int p1), .val (.int p2), .val (.int p3), .val (.ref a76), .val (.ref a87), .val (.ref a102), .val (.int (1 : Int32)), .val (.int (0 : Int32)), .val (.int (0 : Int32)), .val (.int (3 : Int32))] [(.int (1 : Int32)), (.ref a76)]))
        have F198 := ((((((((F103.ext E102).other W108 ne104).other W111 ne104).other W114 ne104).other W117 ne104).other W120 ne104).other W123 ne104).other W126 ne104)
        obtain ⟨c199, Ar199, q199, S199, M199, H199, G199⟩ := (id F198)
        refine own_go (fun _ k => X126.aaload hx (j := (1 : Int32)) (v := (.ref aCONTAINMENT)) (by rw [e126]; exact Ar199.1) (State.isArrayOf_alike hZ.alike Ar199.2.1) rfl Ar199.2.2 (inb_of S199 ⟨by decide, by decide⟩) (Has.at H199 (inb_of S199 ⟨by decide, by decide⟩) rfl) (g := (mkF m 172 #[.val (.int p1), .val (.int p2), .val (.int p3), .val (.ref a76), .val (.ref a87), .val (.ref a102), .val (.int (1 : Int32)), .val (.int (0 : Int32)), .val (.int (0 : Int32)), .val (.int (3 : Int32))] [(.int (1 : Int32)), (.ref a76)])) rfl rfl (hb hby at_172) _ k) ?_
        show OwnGo p e below _ (T126.setTop (mkF m 173 #[.val (.int p1), .val (.int p2), .val (.int p3), .val (.ref a76), .val (.ref a87), .val (.ref a102), .val (.int (1 : Int32)), .val (.int (0 : Int32)), .val (.int (0 : Int32)), .val (.int (3 : Int32))] [(.ref aCONTAINMENT)]))
        refine own_go (fun _ k => XS.iload X126.here hx rfl (hb hby at_173) rfl k) ?_
        show OwnGo p e below _ (T126.setTop (mkF m 175 #[.val (.int p1), .val (.int p2), .val (.int p3), .val (.ref a76), .val (.ref a87), .val (.ref a102), .val (.int (1 : Int32)), .val (.int (0 : Int32)), .val (.int (0 : Int32)), .val (.int (3 : Int32))] [(.int (0 : Int32)), (.ref aCONTAINMENT)]))
        refine own_go (fun _ k => XS.aload X126.here hx rfl (hb hby at_175) rfl rfl k) ?_
        show OwnGo p e below _ (T126.setTop (mkF m 177 #[.val (.int p1), .val (.int p2), .val (.int p3), .val (.ref a76), .val (.ref a87), .val (.ref a102), .val (.int (1 : Int32)), .val (.int (0 : Int32)), .val (.int (0 : Int32)), .val (.int (3 : Int32))] [(.ref a87), (.int (0 : Int32)), (.ref aCONTAINMENT)]))
        refine own_go (fun _ k => XS.iload X126.here hx rfl (hb hby at_177) rfl k) ?_
        show OwnGo p e below _ (T126.setTop (mkF m 179 #[.val (.int p1), .val (.int p2), .val (.int p3), .val (.ref a76), .val (.ref a87), .val (.ref a102), .val (.int (1 : Int32)), .val (.int (0 : Int32)), .val (.int (0 : Int32)), .val (.int (3 : Int32))] [(.int (0 : Int32)), (.ref a87), (.int (0 : Int32)), (.ref aCONTAINMENT)]))
        have F200 := ((((((((V100.ext E102).other W108 ne105).other W111 ne105).other W114 ne105).other W117 ne105).other W120 ne105).other W123 ne105).other W126 ne105)
        obtain ⟨c201, Ar201, q201, S201, M201, H201, G201⟩ := (id F200)
        refine own_go (fun _ k => X126.aaload hx (j := (0 : Int32)) (v := (.ref aA_TO_B)) (by rw [e126]; exact Ar201.1) (State.isArrayOf_alike hZ.alike Ar201.2.1) rfl Ar201.2.2 (inb_of S201 ⟨by decide, by decide⟩) (Has.at H201 (inb_of S201 ⟨by decide, by decide⟩) rfl) (g := (mkF m 179 #[.val (.int p1), .val (.int p2), .val (.int p3), .val (.ref a76), .val (.ref a87), .val (.ref a102), .val (.int (1 : Int32)), .val (.int (0 : Int32)), .val (.int (0 : Int32)), .val (.int (3 : Int32))] [(.int (0 : Int32)), (.ref a87), (.int (0 : Int32)), (.ref aCONTAINMENT)])) rfl rfl (hb hby at_179) _ k) ?_
        show OwnGo p e below _ (T126.setTop (mkF m 180 #[.val (.int p1), .val (.int p2), .val (.int p3), .val (.ref a76), .val (.ref a87), .val (.ref a102), .val (.int (1 : Int32)), .val (.int (0 : Int32)), .val (.int (0 : Int32)), .val (.int (3 : Int32))] [(.ref aA_TO_B), (.int (0 : Int32)), (.ref aCONTAINMENT)]))
        obtain ⟨_, _, ⟨T202, L202, k202, n202⟩, -, X202, hS202, hg202, ⟨Lc202, hQ202, l202, y202, z202⟩, st202⟩ := callSS X126 hx (y := (⟨"com/example/page_copy_finder/pagecopyfinder/copies/PairLabel", "of", "(Lcom/example/page_copy_finder/pagecopyfinder/copies/PairKind;ZLcom/example/page_copy_finder/pagecopyfinder/copies/PairLinks;)Lcom/example/page_copy_finder/pagecopyfinder/copies/PairLabel;"⟩ : MethodName)) hown (mvT hZ (hw _ (List.mem_of_getElem? (i := 41) rfl))) (mvT hZ (hw _ (List.mem_of_getElem? (i := 42) rfl))) (mvT hZ (hw _ (List.mem_of_getElem? (i := 25) rfl))) (mvT hZ (hw _ (List.mem_of_getElem? (i := 43) rfl))) (by decide) (backOfS (W := 0) (rm_of10 l Z a0 hw [] aIDENTICAL aCONTAINMENT aPARTIAL aA_TO_B aB_TO_A aBOTH aNONE aMIRROR aTEMPLATE_OR_PLAGIARISM aARCHIVE_PAGE aLINK_LIST_PART aSAME_SITE_RELATED aCITATION_OR_SPAM aSHARED_TEXT_OR_PLAGIARISM aSW kSW F0 aA_TO_B h126 n0 O126) hZ (hw _ (List.mem_of_getElem? (i := 43) rfl)) (hw _ (List.mem_of_getElem? (i := 25) rfl)) (by decide) (by decide)) (g := (mkF m 180 #[.val (.int p1), .val (.int p2), .val (.int p3), .val (.ref a76), .val (.ref a87), .val (.ref a102), .val (.int (1 : Int32)), .val (.int (0 : Int32)), .val (.int (0 : Int32)), .val (.int (3 : Int32))] [(.ref aA_TO_B), (.int (0 : Int32)), (.ref aCONTAINMENT)])) rfl (by rw [hml]; rfl) (argsL := [(.ref aCONTAINMENT), (.int (0 : Int32)), (.ref aA_TO_B)]) (rest := []) (lenOf pd_Lcom_example_page_copy_finder_pagecopyfinder_copies_PairKind__Z_Lcom_example_page_copy_finder_pagecopyfinder_copies_PairLinks___Lcom_example_page_copy_finder_pagecopyfinder_copies_PairLabel_ rfl) rfl (by show 2 * 0 + _ ≤ _; exact Nat.le_of_eq rfl) (hb hby at_180) (fun _ _ => ⟨rfl, e126, (by decide : 3 + 4 ≤ _), (by decide : 14 + 44 ≤ _)⟩)
        dsimp only [Pt.U, Pt.locs, Pt.cells, Pt.slots] at X202 l202 y202 z202 st202 hQ202 hS202 hg202
        subst l202 y202 z202
        obtain ⟨rfl, Nq202, K202⟩ := hQ202
        have N202 := Fr.app N126 Nq202
        have hZ : Z.Warmed39 (s.setVm T202.vm).vm := State.Warmed39.trans hZ hS202.1
        have hown : (s.setVm T202.vm).vm.findClass "com/example/page_copy_finder/pagecopyfinder/copies/PairLabelOfPinLaw" = some m.cls := (hS202.1.alike.findClass _ _).trans hown
        have O202 := O126.keep K202 all0
        have e202 : T202.heap = T202.heap := rfl
        have z203 : h0.size ≤ T202.heap.size := Nat.le_trans z127 K202.1
        refine own_go (fun _ k => st202.trans k) ?_
        show OwnGo p e below _ (T202.setTop (mkF m 183 #[.val (.int p1), .val (.int p2), .val (.int p3), .val (.ref a76), .val (.ref a87), .val (.ref a102), .val (.int (1 : Int32)), .val (.int (0 : Int32)), .val (.int (0 : Int32)), .val (.int (3 : Int32))] [(.ref aLINK_LIST_PART)]))
        refine own_go (fun _ k => XS.aload X202.here hx rfl (hb hby at_183) rfl rfl k) ?_
        show OwnGo p e below _ (T202.setTop (mkF m 185 #[.val (.int p1), .val (.int p2), .val (.int p3), .val (.ref a76), .val (.ref a87), .val (.ref a102), .val (.int (1 : Int32)), .val (.int (0 : Int32)), .val (.int (0 : Int32)), .val (.int (3 : Int32))] [(.ref a102), (.ref aLINK_LIST_PART)]))
        refine own_go (fun _ k => XS.iload X202.here hx rfl (hb hby at_185) rfl k) ?_
        show OwnGo p e below _ (T202.setTop (mkF m 187 #[.val (.int p1), .val (.int p2), .val (.int p3), .val (.ref a76), .val (.ref a87), .val (.ref a102), .val (.int (1 : Int32)), .val (.int (0 : Int32)), .val (.int (0 : Int32)), .val (.int (3 : Int32))] [(.int (3 : Int32)), (.ref a102), (.ref aLINK_LIST_PART)]))
        have F204 := (V126.keep K202 nin0)
        obtain ⟨c205, Ar205, q205, S205, M205, H205, G205⟩ := (id F204)
        refine own_go (fun _ k => X202.aaload hx (j := (3 : Int32)) (v := (.ref aLINK_LIST_PART)) (by rw [e202]; exact Ar205.1) (State.isArrayOf_alike hZ.alike Ar205.2.1) rfl Ar205.2.2 (inb_of S205 ⟨by decide, by decide⟩) (Has.at H205 (inb_of S205 ⟨by decide, by decide⟩) rfl) (g := (mkF m 187 #[.val (.int p1), .val (.int p2), .val (.int p3), .val (.ref a76), .val (.ref a87), .val (.ref a102), .val (.int (1 : Int32)), .val (.int (0 : Int32)), .val (.int (0 : Int32)), .val (.int (3 : Int32))] [(.int (3 : Int32)), (.ref a102), (.ref aLINK_LIST_PART)])) rfl rfl (hb hby at_187) _ k) ?_
        show OwnGo p e below _ (T202.setTop (mkF m 188 #[.val (.int p1), .val (.int p2), .val (.int p3), .val (.ref a76), .val (.ref a87), .val (.ref a102), .val (.int (1 : Int32)), .val (.int (0 : Int32)), .val (.int (0 : Int32)), .val (.int (3 : Int32))] [(.ref aLINK_LIST_PART), (.ref aLINK_LIST_PART)]))
        refine own_go (fun _ k => acmp X202 hx rfl (cd := .ne) (o := 7) (x := (.ref aLINK_LIST_PART)) (y := (.ref aLINK_LIST_PART)) (pc0 := 188) (pc' := 191) rfl rfl rfl (hb hby at_188) rfl (own_refeq _) (by decide) (by decide) k) ?_
        show OwnGo p e below _ (T202.setTop (mkF m 191 #[.val (.int p1), .val (.int p2), .val (.int p3), .val (.ref a76), .val (.ref a87), .val (.ref a102), .val (.int (1 : Int32)), .val (.int (0 : Int32)), .val (.int (0 : Int32)), .val (.int (3 : Int32))] []))
        refine own_go (fun _ k => XS.iconst X202.here hx rfl (hb hby at_191) k) ?_
        show OwnGo p e below _ (T202.setTop (mkF m 192 #[.val (.int p1), .val (.int p2), .val (.int p3), .val (.ref a76), .val (.ref a87), .val (.ref a102), .val (.int (1 : Int32)), .val (.int (0 : Int32)), .val (.int (0 : Int32)), .val (.int (3 : Int32))] [(.int (1 : Int32))]))
        refine own_go (fun _ k => XS.goto X202.here hx rfl (pc0 := 192) (pc' := 196) rfl (hb hby at_192) (by decide) (by decide) k) ?_
        show OwnGo p e below _ (T202.setTop (mkF m 196 #[.val (.int p1), .val (.int p2), .val (.int p3), .val (.ref a76), .val (.ref a87), .val (.ref a102), .val (.int (1 : Int32)), .val (.int (0 : Int32)), .val (.int (0 : Int32)), .val (.int (3 : Int32))] [(.int (1 : Int32))]))
        obtain ⟨fs, hr, hrun, hended, hEnd⟩ := Jvm.Stand.leaveW (s := s) (vm₁ := T202.vm) X202 hS202 (by rw [e202]; exact (Nat.le_refl _)) (v := some (.int (1 : Int32))) (fun h => by rw [Bd.returns] at h; cases h)
        refine ⟨_, _, retOut X202 hx Bd.returns rfl (Or.inl ⟨rfl, Or.inr (Or.inl rfl), _, rfl⟩) (hb hby at_196) hr, hrun, hended, _, _, rfl, ?_, own_monoW hEnd (by decide) (by decide)⟩
        show Q_law Z aIDENTICAL aCONTAINMENT aPARTIAL aA_TO_B aB_TO_A aBOTH aNONE aMIRROR aTEMPLATE_OR_PLAGIARISM aARCHIVE_PAGE aLINK_LIST_PART aSAME_SITE_RELATED aCITATION_OR_SPAM aSHARED_TEXT_OR_PLAGIARISM aSW kSW p1 p2 p3 h0 n0 _ T202.heap _
        rw [e202]
        exact ⟨rfl, N202⟩
      · rw [hv197]
        show OwnGo p e below _ (T126.setTop (mkF m 127 #[.val (.int p1), .val (.int p2), .val (.int p3), .val (.ref a76), .val (.ref a87), .val (.ref a102), .val (.int (1 : Int32)), .val (.int (0 : Int32)), .unset, .unset] [(.int (1 : Int32))]))
        refine own_go (fun _ k => XS.istore X126.here hx rfl (hb hby at_127) rfl (l' := #[.val (.int p1), .val (.int p2), .val (.int p3), .val (.ref a76), .val (.ref a87), .val (.ref a102), .val (.int (1 : Int32)), .val (.int (0 : Int32)), .val (.int (1 : Int32)), .unset]) rfl k) ?_
        show OwnGo p e below _ (T126.setTop (mkF m 129 #[.val (.int p1), .val (.int p2), .val (.int p3), .val (.ref a76), .val (.ref a87), .val (.ref a102), .val (.int (1 : Int32)), .val (.int (0 : Int32)), .val (.int (1 : Int32)), .unset] []))
        refine own_go (fun _ k => XS.iconst X126.here hx rfl (hb hby at_129) k) ?_
        show OwnGo p e below _ (T126.setTop (mkF m 130 #[.val (.int p1), .val (.int p2), .val (.int p3), .val (.ref a76), .val (.ref a87), .val (.ref a102), .val (.int (1 : Int32)), .val (.int (0 : Int32)), .val (.int (1 : Int32)), .unset] [(.int (2 : Int32))]))
        refine own_go (fun _ k => XS.iload X126.here hx rfl (hb hby at_130) rfl k) ?_
        show OwnGo p e below _ (T126.setTop (mkF m 132 #[.val (.int p1), .val (.int p2), .val (.int p3), .val (.ref a76), .val (.ref a87), .val (.ref a102), .val (.int (1 : Int32)), .val (.int (0 : Int32)), .val (.int (1 : Int32)), .unset] [(.int (1 : Int32)), (.int (2 : Int32))]))
        refine own_go (fun _ k => XS.imul X126.here hx rfl (hb hby at_132) rfl k) ?_
        show OwnGo p e below _ (T126.setTop (mkF m 133 #[.val (.int p1), .val (.int p2), .val (.int p3), .val (.ref a76), .val (.ref a87), .val (.ref a102), .val (.int (1 : Int32)), .val (.int (0 : Int32)), .val (.int (1 : Int32)), .unset] [(.int ((2 : Int32) * (1 : Int32)))]))
        rw [show ((2 : Int32) * (1 : Int32)) = (2 : Int32) from by decide]
        show OwnGo p e below _ (T126.setTop (mkF m 133 #[.val (.int p1), .val (.int p2), .val (.int p3), .val (.ref a76), .val (.ref a87), .val (.ref a102), .val (.int (1 : Int32)), .val (.int (0 : Int32)), .val (.int (1 : Int32)), .unset] [(.int (2 : Int32))]))
        refine own_go (fun _ k => XS.iload X126.here hx rfl (hb hby at_133) rfl k) ?_
        show OwnGo p e below _ (T126.setTop (mkF m 135 #[.val (.int p1), .val (.int p2), .val (.int p3), .val (.ref a76), .val (.ref a87), .val (.ref a102), .val (.int (1 : Int32)), .val (.int (0 : Int32)), .val (.int (1 : Int32)), .unset] [(.int (0 : Int32)), (.int (2 : Int32))]))
        refine own_go (fun _ k => XS.ifYes X126.here hx rfl (pc0 := 135) (pc' := 142) rfl (hb hby at_135) rfl (by decide) (by decide) (by decide) k) ?_
        show OwnGo p e below _ (T126.setTop (mkF m 142 #[.val (.int p1), .val (.int p2), .val (.int p3), .val (.ref a76), .val (.ref a87), .val (.ref a102), .val (.int (1 : Int32)), .val (.int (0 : Int32)), .val (.int (1 : Int32)), .unset] [(.int (2 : Int32))]))
        refine own_go (fun _ k => XS.iconst X126.here hx rfl (hb hby at_142) k) ?_
        show OwnGo p e below _ (T126.setTop (mkF m 143 #[.val (.int p1), .val (.int p2), .val (.int p3), .val (.ref a76), .val (.ref a87), .val (.ref a102), .val (.int (1 : Int32)), .val (.int (0 : Int32)), .val (.int (1 : Int32)), .unset] [(.int (1 : Int32)), (.int (2 : Int32))]))
        refine own_go (fun _ k => XS.iadd X126.here hx rfl (hb hby at_143) rfl k) ?_
        show OwnGo p e below _ (T126.setTop (mkF m 144 #[.val (.int p1), .val (.int p2), .val (.int p3), .val (.ref a76), .val (.ref a87), .val (.ref a102), .val (.int (1 : Int32)), .val (.int (0 : Int32)), .val (.int (1 : Int32)), .unset] [(.int ((2 : Int32) + (1 : Int32)))]))
        rw [show ((2 : Int32) + (1 : Int32)) = (3 : Int32) from by decide]
        show OwnGo p e below _ (T126.setTop (mkF m 144 #[.val (.int p1), .val (.int p2), .val (.int p3), .val (.ref a76), .val (.ref a87), .val (.ref a102), .val (.int (1 : Int32)), .val (.int (0 : Int32)), .val (.int (1 : Int32)), .unset] [(.int (3 : Int32))]))
        refine own_go (fun _ k => XS.iload X126.here hx rfl (hb hby at_144) rfl k) ?_
        show OwnGo p e below _ (T126.setTop (mkF m 146 #[.val (.int p1), .val (.int p2), .val (.int p3), .val (.ref a76), .val (.ref a87), .val (.ref a102), .val (.int (1 : Int32)), .val (.int (0 : Int32)), .val (.int (1 : Int32)), .unset] [(.int (1 : Int32)), (.int (3 : Int32))]))
        refine own_go (fun _ k => XS.iconst X126.here hx rfl (hb hby at_146) k) ?_
        show OwnGo p e below _ (T126.setTop (mkF m 147 #[.val (.int p1), .val (.int p2), .val (.int p3), .val (.ref a76), .val (.ref a87), .val (.ref a102), .val (.int (1 : Int32)), .val (.int (0 : Int32)), .val (.int (1 : Int32)), .unset] [(.int (2 : Int32)), (.int (1 : Int32)), (.int (3 : Int32))]))
        refine own_go (fun _ k => XS.icmpYes X126.here hx rfl (pc0 := 147) (pc' := 165) rfl (hb hby at_147) rfl (by decide) (by decide) (by decide) k) ?_
        show OwnGo p e below _ (T126.setTop (mkF m 165 #[.val (.int p1), .val (.int p2), .val (.int p3), .val (.ref a76), .val (.ref a87), .val (.ref a102), .val (.int (1 : Int32)), .val (.int (0 : Int32)), .val (.int (1 : Int32)), .unset] [(.int (3 : Int32))]))
        refine own_go (fun _ k => XS.iconst X126.here hx rfl (hb hby at_165) k) ?_
        show OwnGo p e below _ (T126.setTop (mkF m 166 #[.val (.int p1), .val (.int p2), .val (.int p3), .val (.ref a76), .val (.ref a87), .val (.ref a102), .val (.int (1 : Int32)), .val (.int (0 : Int32)), .val (.int (1 : Int32)), .unset] [(.int (0 : Int32)), (.int (3 : Int32))]))
        refine own_go (fun _ k => XS.iadd X126.here hx rfl (hb hby at_166) rfl k) ?_
        show OwnGo p e below _ (T126.setTop (mkF m 167 #[.val (.int p1), .val (.int p2), .val (.int p3), .val (.ref a76), .val (.ref a87), .val (.ref a102), .val (.int (1 : Int32)), .val (.int (0 : Int32)), .val (.int (1 : Int32)), .unset] [(.int ((3 : Int32) + (0 : Int32)))]))
        rw [show ((3 : Int32) + (0 : Int32)) = (3 : Int32) from by decide]
        show OwnGo p e below _ (T126.setTop (mkF m 167 #[.val (.int p1), .val (.int p2), .val (.int p3), .val (.ref a76), .val (.ref a87), .val (.ref a102), .val (.int (1 : Int32)), .val (.int (0 : Int32)), .val (.int (1 : Int32)), .unset] [(.int (3 : Int32))]))
        refine own_go (fun _ k => XS.istore X126.here hx rfl (hb hby at_167) rfl (l' := #[.val (.int p1), .val (.int p2), .val (.int p3), .val (.ref a76), .val (.ref a87), .val (.ref a102), .val (.int (1 : Int32)), .val (.int (0 : Int32)), .val (.int (1 : Int32)), .val (.int (3 : Int32))]) rfl k) ?_
        show OwnGo p e below _ (T126.setTop (mkF m 169 #[.val (.int p1), .val (.int p2), .val (.int p3), .val (.ref a76), .val (.ref a87), .val (.ref a102), .val (.int (1 : Int32)), .val (.int (0 : Int32)), .val (.int (1 : Int32)), .val (.int (3 : Int32))] []))
        refine own_go (fun _ k => XS.aloadN X126.here hx rfl (hb hby at_169) rfl rfl k) ?_
        show OwnGo p e below _ (T126.setTop (mkF m 170 #[.val (.int p1), .val (.int p2), .val (.int p3), .val (.ref a76), .val (.ref a87), .val (.ref a102), .val (.int (1 : Int32)), .val (.int (0 : Int32)), .val (.int (1 : Int32)), .val (.int (3 : Int32))] [(.ref a76)]))
        refine own_go (fun _ k => XS.iload X126.here hx rfl (hb hby at_170) rfl k) ?_
        show OwnGo p e below _ (T126.setTop (mkF m 172 #[.val (.int p1), .val (.int p2), .val (.int p3), .val (.ref a76), .val (.ref a87), .val (.ref a102), .val (.int (1 : Int32)), .val (.int (0 : Int32)), .val (.int (1 : Int32)), .val (.int (3 : Int32))] [(.int (1 : Int32)), (.ref a76)]))
        have F206 := ((((((((F103.ext E102).other W108 ne104).other W111 ne104).other W114 ne104).other W117 ne104).other W120 ne104).other W123 ne104).other W126 ne104)
        obtain ⟨c207, Ar207, q207, S207, M207, H207, G207⟩ := (id F206)
        refine own_go (fun _ k => X126.aaload hx (j := (1 : Int32)) (v := (.ref aCONTAINMENT)) (by rw [e126]; exact Ar207.1) (State.isArrayOf_alike hZ.alike Ar207.2.1) rfl Ar207.2.2 (inb_of S207 ⟨by decide, by decide⟩) (Has.at H207 (inb_of S207 ⟨by decide, by decide⟩) rfl) (g := (mkF m 172 #[.val (.int p1), .val (.int p2), .val (.int p3), .val (.ref a76), .val (.ref a87), .val (.ref a102), .val (.int (1 : Int32)), .val (.int (0 : Int32)), .val (.int (1 : Int32)), .val (.int (3 : Int32))] [(.int (1 : Int32)), (.ref a76)])) rfl rfl (hb hby at_172) _ k) ?_
        show OwnGo p e below _ (T126.setTop (mkF m 173 #[.val (.int p1), .val (.int p2), .val (.int p3), .val (.ref a76), .val (.ref a87), .val (.ref a102), .val (.int (1 : Int32)), .val (.int (0 : Int32)), .val (.int (1 : Int32)), .val (.int (3 : Int32))] [(.ref aCONTAINMENT)]))
        refine own_go (fun _ k => XS.iload X126.here hx rfl (hb hby at_173) rfl k) ?_
        show OwnGo p e below _ (T126.setTop (mkF m 175 #[.val (.int p1), .val (.int p2), .val (.int p3), .val (.ref a76), .val (.ref a87), .val (.ref a102), .val (.int (1 : Int32)), .val (.int (0 : Int32)), .val (.int (1 : Int32)), .val (.int (3 : Int32))] [(.int (0 : Int32)), (.ref aCONTAINMENT)]))
        refine own_go (fun _ k => XS.aload X126.here hx rfl (hb hby at_175) rfl rfl k) ?_
        show OwnGo p e below _ (T126.setTop (mkF m 177 #[.val (.int p1), .val (.int p2), .val (.int p3), .val (.ref a76), .val (.ref a87), .val (.ref a102), .val (.int (1 : Int32)), .val (.int (0 : Int32)), .val (.int (1 : Int32)), .val (.int (3 : Int32))] [(.ref a87), (.int (0 : Int32)), (.ref aCONTAINMENT)]))
        refine own_go (fun _ k => XS.iload X126.here hx rfl (hb hby at_177) rfl k) ?_
        show OwnGo p e below _ (T126.setTop (mkF m 179 #[.val (.int p1), .val (.int p2), .val (.int p3), .val (.ref a76), .val (.ref a87), .val (.ref a102), .val (.int (1 : Int32)), .val (.int (0 : Int32)), .val (.int (1 : Int32)), .val (.int (3 : Int32))] [(.int (1 : Int32)), (.ref a87), (.int (0 : Int32)), (.ref aCONTAINMENT)]))
        have F208 := ((((((((V100.ext E102).other W108 ne105).other W111 ne105).other W114 ne105).other W117 ne105).other W120 ne105).other W123 ne105).other W126 ne105)
        obtain ⟨c209, Ar209, q209, S209, M209, H209, G209⟩ := (id F208)
        refine own_go (fun _ k => X126.aaload hx (j := (1 : Int32)) (v := (.ref aB_TO_A)) (by rw [e126]; exact Ar209.1) (State.isArrayOf_alike hZ.alike Ar209.2.1) rfl Ar209.2.2 (inb_of S209 ⟨by decide, by decide⟩) (Has.at H209 (inb_of S209 ⟨by decide, by decide⟩) rfl) (g := (mkF m 179 #[.val (.int p1), .val (.int p2), .val (.int p3), .val (.ref a76), .val (.ref a87), .val (.ref a102), .val (.int (1 : Int32)), .val (.int (0 : Int32)), .val (.int (1 : Int32)), .val (.int (3 : Int32))] [(.int (1 : Int32)), (.ref a87), (.int (0 : Int32)), (.ref aCONTAINMENT)])) rfl rfl (hb hby at_179) _ k) ?_
        show OwnGo p e below _ (T126.setTop (mkF m 180 #[.val (.int p1), .val (.int p2), .val (.int p3), .val (.ref a76), .val (.ref a87), .val (.ref a102), .val (.int (1 : Int32)), .val (.int (0 : Int32)), .val (.int (1 : Int32)), .val (.int (3 : Int32))] [(.ref aB_TO_A), (.int (0 : Int32)), (.ref aCONTAINMENT)]))
        obtain ⟨_, _, ⟨T210, L210, k210, n210⟩, -, X210, hS210, hg210, ⟨Lc210, hQ210, l210, y210, z210⟩, st210⟩ := callSS X126 hx (y := (⟨"com/example/page_copy_finder/pagecopyfinder/copies/PairLabel", "of", "(Lcom/example/page_copy_finder/pagecopyfinder/copies/PairKind;ZLcom/example/page_copy_finder/pagecopyfinder/copies/PairLinks;)Lcom/example/page_copy_finder/pagecopyfinder/copies/PairLabel;"⟩ : MethodName)) hown (mvT hZ (hw _ (List.mem_of_getElem? (i := 41) rfl))) (mvT hZ (hw _ (List.mem_of_getElem? (i := 42) rfl))) (mvT hZ (hw _ (List.mem_of_getElem? (i := 25) rfl))) (mvT hZ (hw _ (List.mem_of_getElem? (i := 43) rfl))) (by decide) (backOfS (W := 0) (rm_of10 l Z a0 hw [] aIDENTICAL aCONTAINMENT aPARTIAL aA_TO_B aB_TO_A aBOTH aNONE aMIRROR aTEMPLATE_OR_PLAGIARISM aARCHIVE_PAGE aLINK_LIST_PART aSAME_SITE_RELATED aCITATION_OR_SPAM aSHARED_TEXT_OR_PLAGIARISM aSW kSW F0 aB_TO_A h126 n0 O126) hZ (hw _ (List.mem_of_getElem? (i := 43) rfl)) (hw _ (List.mem_of_getElem? (i := 25) rfl)) (by decide) (by decide)) (g := (mkF m 180 #[.val (.int p1), .val (.int p2), .val (.int p3), .val (.ref a76), .val (.ref a87), .val (.ref a102), .val (.int (1 : Int32)), .val (.int (0 : Int32)), .val (.int (1 : Int32)), .val (.int (3 : Int32))] [(.ref aB_TO_A), (.int (0 : Int32)), (.ref aCONTAINMENT)])) rfl (by rw [hml]; rfl) (argsL := [(.ref aCONTAINMENT), (.int (0 : Int32)), (.ref aB_TO_A)]) (rest := []) (lenOf pd_Lcom_example_page_copy_finder_pagecopyfinder_copies_PairKind__Z_Lcom_example_page_copy_finder_pagecopyfinder_copies_PairLinks___Lcom_example_page_copy_finder_pagecopyfinder_copies_PairLabel_ rfl) rfl (by show 2 * 0 + _ ≤ _; exact Nat.le_of_eq rfl) (hb hby at_180) (fun _ _ => ⟨rfl, e126, (by decide : 3 + 4 ≤ _), (by decide : 14 + 44 ≤ _)⟩)
        dsimp only [Pt.U, Pt.locs, Pt.cells, Pt.slots] at X210 l210 y210 z210 st210 hQ210 hS210 hg210
        subst l210 y210 z210
        obtain ⟨rfl, Nq210, K210⟩ := hQ210
        have N210 := Fr.app N126 Nq210
        have hZ : Z.Warmed39 (s.setVm T210.vm).vm := State.Warmed39.trans hZ hS210.1
        have hown : (s.setVm T210.vm).vm.findClass "com/example/page_copy_finder/pagecopyfinder/copies/PairLabelOfPinLaw" = some m.cls := (hS210.1.alike.findClass _ _).trans hown
        have O210 := O126.keep K210 all0
        have e210 : T210.heap = T210.heap := rfl
        have z211 : h0.size ≤ T210.heap.size := Nat.le_trans z127 K210.1
        refine own_go (fun _ k => st210.trans k) ?_
        show OwnGo p e below _ (T210.setTop (mkF m 183 #[.val (.int p1), .val (.int p2), .val (.int p3), .val (.ref a76), .val (.ref a87), .val (.ref a102), .val (.int (1 : Int32)), .val (.int (0 : Int32)), .val (.int (1 : Int32)), .val (.int (3 : Int32))] [(.ref aLINK_LIST_PART)]))
        refine own_go (fun _ k => XS.aload X210.here hx rfl (hb hby at_183) rfl rfl k) ?_
        show OwnGo p e below _ (T210.setTop (mkF m 185 #[.val (.int p1), .val (.int p2), .val (.int p3), .val (.ref a76), .val (.ref a87), .val (.ref a102), .val (.int (1 : Int32)), .val (.int (0 : Int32)), .val (.int (1 : Int32)), .val (.int (3 : Int32))] [(.ref a102), (.ref aLINK_LIST_PART)]))
        refine own_go (fun _ k => XS.iload X210.here hx rfl (hb hby at_185) rfl k) ?_
        show OwnGo p e below _ (T210.setTop (mkF m 187 #[.val (.int p1), .val (.int p2), .val (.int p3), .val (.ref a76), .val (.ref a87), .val (.ref a102), .val (.int (1 : Int32)), .val (.int (0 : Int32)), .val (.int (1 : Int32)), .val (.int (3 : Int32))] [(.int (3 : Int32)), (.ref a102), (.ref aLINK_LIST_PART)]))
        have F212 := (V126.keep K210 nin0)
        obtain ⟨c213, Ar213, q213, S213, M213, H213, G213⟩ := (id F212)
        refine own_go (fun _ k => X210.aaload hx (j := (3 : Int32)) (v := (.ref aLINK_LIST_PART)) (by rw [e210]; exact Ar213.1) (State.isArrayOf_alike hZ.alike Ar213.2.1) rfl Ar213.2.2 (inb_of S213 ⟨by decide, by decide⟩) (Has.at H213 (inb_of S213 ⟨by decide, by decide⟩) rfl) (g := (mkF m 187 #[.val (.int p1), .val (.int p2), .val (.int p3), .val (.ref a76), .val (.ref a87), .val (.ref a102), .val (.int (1 : Int32)), .val (.int (0 : Int32)), .val (.int (1 : Int32)), .val (.int (3 : Int32))] [(.int (3 : Int32)), (.ref a102), (.ref aLINK_LIST_PART)])) rfl rfl (hb hby at_187) _ k) ?_
        show OwnGo p e below _ (T210.setTop (mkF m 188 #[.val (.int p1), .val (.int p2), .val (.int p3), .val (.ref a76), .val (.ref a87), .val (.ref a102), .val (.int (1 : Int32)), .val (.int (0 : Int32)), .val (.int (1 : Int32)), .val (.int (3 : Int32))] [(.ref aLINK_LIST_PART), (.ref aLINK_LIST_PART)]))
        refine own_go (fun _ k => acmp X210 hx rfl (cd := .ne) (o := 7) (x := (.ref aLINK_LIST_PART)) (y := (.ref aLINK_LIST_PART)) (pc0 := 188) (pc' := 191) rfl rfl rfl (hb hby at_188) rfl (own_refeq _) (by decide) (by decide) k) ?_
        show OwnGo p e below _ (T210.setTop (mkF m 191 #[.val (.int p1), .val (.int p2), .val (.int p3), .val (.ref a76), .val (.ref a87), .val (.ref a102), .val (.int (1 : Int32)), .val (.int (0 : Int32)), .val (.int (1 : Int32)), .val (.int (3 : Int32))] []))
        refine own_go (fun _ k => XS.iconst X210.here hx rfl (hb hby at_191) k) ?_
        show OwnGo p e below _ (T210.setTop (mkF m 192 #[.val (.int p1), .val (.int p2), .val (.int p3), .val (.ref a76), .val (.ref a87), .val (.ref a102), .val (.int (1 : Int32)), .val (.int (0 : Int32)), .val (.int (1 : Int32)), .val (.int (3 : Int32))] [(.int (1 : Int32))]))
        refine own_go (fun _ k => XS.goto X210.here hx rfl (pc0 := 192) (pc' := 196) rfl (hb hby at_192) (by decide) (by decide) k) ?_
        show OwnGo p e below _ (T210.setTop (mkF m 196 #[.val (.int p1), .val (.int p2), .val (.int p3), .val (.ref a76), .val (.ref a87), .val (.ref a102), .val (.int (1 : Int32)), .val (.int (0 : Int32)), .val (.int (1 : Int32)), .val (.int (3 : Int32))] [(.int (1 : Int32))]))
        obtain ⟨fs, hr, hrun, hended, hEnd⟩ := Jvm.Stand.leaveW (s := s) (vm₁ := T210.vm) X210 hS210 (by rw [e210]; exact (Nat.le_refl _)) (v := some (.int (1 : Int32))) (fun h => by rw [Bd.returns] at h; cases h)
        refine ⟨_, _, retOut X210 hx Bd.returns rfl (Or.inl ⟨rfl, Or.inr (Or.inl rfl), _, rfl⟩) (hb hby at_196) hr, hrun, hended, _, _, rfl, ?_, own_monoW hEnd (by decide) (by decide)⟩
        show Q_law Z aIDENTICAL aCONTAINMENT aPARTIAL aA_TO_B aB_TO_A aBOTH aNONE aMIRROR aTEMPLATE_OR_PLAGIARISM aARCHIVE_PAGE aLINK_LIST_PART aSAME_SITE_RELATED aCITATION_OR_SPAM aSHARED_TEXT_OR_PLAGIARISM aSW kSW p1 p2 p3 h0 n0 _ T210.heap _
        rw [e210]
        exact ⟨rfl, N210⟩
      · rw [hv197]
        show OwnGo p e below _ (T126.setTop (mkF m 127 #[.val (.int p1), .val (.int p2), .val (.int p3), .val (.ref a76), .val (.ref a87), .val (.ref a102), .val (.int (1 : Int32)), .val (.int (0 : Int32)), .unset, .unset] [(.int (2 : Int32))]))
        refine own_go (fun _ k => XS.istore X126.here hx rfl (hb hby at_127) rfl (l' := #[.val (.int p1), .val (.int p2), .val (.int p3), .val (.ref a76), .val (.ref a87), .val (.ref a102), .val (.int (1 : Int32)), .val (.int (0 : Int32)), .val (.int (2 : Int32)), .unset]) rfl k) ?_
        show OwnGo p e below _ (T126.setTop (mkF m 129 #[.val (.int p1), .val (.int p2), .val (.int p3), .val (.ref a76), .val (.ref a87), .val (.ref a102), .val (.int (1 : Int32)), .val (.int (0 : Int32)), .val (.int (2 : Int32)), .unset] []))
        refine own_go (fun _ k => XS.iconst X126.here hx rfl (hb hby at_129) k) ?_
        show OwnGo p e below _ (T126.setTop (mkF m 130 #[.val (.int p1), .val (.int p2), .val (.int p3), .val (.ref a76), .val (.ref a87), .val (.ref a102), .val (.int (1 : Int32)), .val (.int (0 : Int32)), .val (.int (2 : Int32)), .unset] [(.int (2 : Int32))]))
        refine own_go (fun _ k => XS.iload X126.here hx rfl (hb hby at_130) rfl k) ?_
        show OwnGo p e below _ (T126.setTop (mkF m 132 #[.val (.int p1), .val (.int p2), .val (.int p3), .val (.ref a76), .val (.ref a87), .val (.ref a102), .val (.int (1 : Int32)), .val (.int (0 : Int32)), .val (.int (2 : Int32)), .unset] [(.int (1 : Int32)), (.int (2 : Int32))]))
        refine own_go (fun _ k => XS.imul X126.here hx rfl (hb hby at_132) rfl k) ?_
        show OwnGo p e below _ (T126.setTop (mkF m 133 #[.val (.int p1), .val (.int p2), .val (.int p3), .val (.ref a76), .val (.ref a87), .val (.ref a102), .val (.int (1 : Int32)), .val (.int (0 : Int32)), .val (.int (2 : Int32)), .unset] [(.int ((2 : Int32) * (1 : Int32)))]))
        rw [show ((2 : Int32) * (1 : Int32)) = (2 : Int32) from by decide]
        show OwnGo p e below _ (T126.setTop (mkF m 133 #[.val (.int p1), .val (.int p2), .val (.int p3), .val (.ref a76), .val (.ref a87), .val (.ref a102), .val (.int (1 : Int32)), .val (.int (0 : Int32)), .val (.int (2 : Int32)), .unset] [(.int (2 : Int32))]))
        refine own_go (fun _ k => XS.iload X126.here hx rfl (hb hby at_133) rfl k) ?_
        show OwnGo p e below _ (T126.setTop (mkF m 135 #[.val (.int p1), .val (.int p2), .val (.int p3), .val (.ref a76), .val (.ref a87), .val (.ref a102), .val (.int (1 : Int32)), .val (.int (0 : Int32)), .val (.int (2 : Int32)), .unset] [(.int (0 : Int32)), (.int (2 : Int32))]))
        refine own_go (fun _ k => XS.ifYes X126.here hx rfl (pc0 := 135) (pc' := 142) rfl (hb hby at_135) rfl (by decide) (by decide) (by decide) k) ?_
        show OwnGo p e below _ (T126.setTop (mkF m 142 #[.val (.int p1), .val (.int p2), .val (.int p3), .val (.ref a76), .val (.ref a87), .val (.ref a102), .val (.int (1 : Int32)), .val (.int (0 : Int32)), .val (.int (2 : Int32)), .unset] [(.int (2 : Int32))]))
        refine own_go (fun _ k => XS.iconst X126.here hx rfl (hb hby at_142) k) ?_
        show OwnGo p e below _ (T126.setTop (mkF m 143 #[.val (.int p1), .val (.int p2), .val (.int p3), .val (.ref a76), .val (.ref a87), .val (.ref a102), .val (.int (1 : Int32)), .val (.int (0 : Int32)), .val (.int (2 : Int32)), .unset] [(.int (1 : Int32)), (.int (2 : Int32))]))
        refine own_go (fun _ k => XS.iadd X126.here hx rfl (hb hby at_143) rfl k) ?_
        show OwnGo p e below _ (T126.setTop (mkF m 144 #[.val (.int p1), .val (.int p2), .val (.int p3), .val (.ref a76), .val (.ref a87), .val (.ref a102), .val (.int (1 : Int32)), .val (.int (0 : Int32)), .val (.int (2 : Int32)), .unset] [(.int ((2 : Int32) + (1 : Int32)))]))
        rw [show ((2 : Int32) + (1 : Int32)) = (3 : Int32) from by decide]
        show OwnGo p e below _ (T126.setTop (mkF m 144 #[.val (.int p1), .val (.int p2), .val (.int p3), .val (.ref a76), .val (.ref a87), .val (.ref a102), .val (.int (1 : Int32)), .val (.int (0 : Int32)), .val (.int (2 : Int32)), .unset] [(.int (3 : Int32))]))
        refine own_go (fun _ k => XS.iload X126.here hx rfl (hb hby at_144) rfl k) ?_
        show OwnGo p e below _ (T126.setTop (mkF m 146 #[.val (.int p1), .val (.int p2), .val (.int p3), .val (.ref a76), .val (.ref a87), .val (.ref a102), .val (.int (1 : Int32)), .val (.int (0 : Int32)), .val (.int (2 : Int32)), .unset] [(.int (1 : Int32)), (.int (3 : Int32))]))
        refine own_go (fun _ k => XS.iconst X126.here hx rfl (hb hby at_146) k) ?_
        show OwnGo p e below _ (T126.setTop (mkF m 147 #[.val (.int p1), .val (.int p2), .val (.int p3), .val (.ref a76), .val (.ref a87), .val (.ref a102), .val (.int (1 : Int32)), .val (.int (0 : Int32)), .val (.int (2 : Int32)), .unset] [(.int (2 : Int32)), (.int (1 : Int32)), (.int (3 : Int32))]))
        refine own_go (fun _ k => XS.icmpYes X126.here hx rfl (pc0 := 147) (pc' := 165) rfl (hb hby at_147) rfl (by decide) (by decide) (by decide) k) ?_
        show OwnGo p e below _ (T126.setTop (mkF m 165 #[.val (.int p1), .val (.int p2), .val (.int p3), .val (.ref a76), .val (.ref a87), .val (.ref a102), .val (.int (1 : Int32)), .val (.int (0 : Int32)), .val (.int (2 : Int32)), .unset] [(.int (3 : Int32))]))
        refine own_go (fun _ k => XS.iconst X126.here hx rfl (hb hby at_165) k) ?_
        show OwnGo p e below _ (T126.setTop (mkF m 166 #[.val (.int p1), .val (.int p2), .val (.int p3), .val (.ref a76), .val (.ref a87), .val (.ref a102), .val (.int (1 : Int32)), .val (.int (0 : Int32)), .val (.int (2 : Int32)), .unset] [(.int (0 : Int32)), (.int (3 : Int32))]))
        refine own_go (fun _ k => XS.iadd X126.here hx rfl (hb hby at_166) rfl k) ?_
        show OwnGo p e below _ (T126.setTop (mkF m 167 #[.val (.int p1), .val (.int p2), .val (.int p3), .val (.ref a76), .val (.ref a87), .val (.ref a102), .val (.int (1 : Int32)), .val (.int (0 : Int32)), .val (.int (2 : Int32)), .unset] [(.int ((3 : Int32) + (0 : Int32)))]))
        rw [show ((3 : Int32) + (0 : Int32)) = (3 : Int32) from by decide]
        show OwnGo p e below _ (T126.setTop (mkF m 167 #[.val (.int p1), .val (.int p2), .val (.int p3), .val (.ref a76), .val (.ref a87), .val (.ref a102), .val (.int (1 : Int32)), .val (.int (0 : Int32)), .val (.int (2 : Int32)), .unset] [(.int (3 : Int32))]))
        refine own_go (fun _ k => XS.istore X126.here hx rfl (hb hby at_167) rfl (l' := #[.val (.int p1), .val (.int p2), .val (.int p3), .val (.ref a76), .val (.ref a87), .val (.ref a102), .val (.int (1 : Int32)), .val (.int (0 : Int32)), .val (.int (2 : Int32)), .val (.int (3 : Int32))]) rfl k) ?_
        show OwnGo p e below _ (T126.setTop (mkF m 169 #[.val (.int p1), .val (.int p2), .val (.int p3), .val (.ref a76), .val (.ref a87), .val (.ref a102), .val (.int (1 : Int32)), .val (.int (0 : Int32)), .val (.int (2 : Int32)), .val (.int (3 : Int32))] []))
        refine own_go (fun _ k => XS.aloadN X126.here hx rfl (hb hby at_169) rfl rfl k) ?_
        show OwnGo p e below _ (T126.setTop (mkF m 170 #[.val (.int p1), .val (.int p2), .val (.int p3), .val (.ref a76), .val (.ref a87), .val (.ref a102), .val (.int (1 : Int32)), .val (.int (0 : Int32)), .val (.int (2 : Int32)), .val (.int (3 : Int32))] [(.ref a76)]))
        refine own_go (fun _ k => XS.iload X126.here hx rfl (hb hby at_170) rfl k) ?_
        show OwnGo p e below _ (T126.setTop (mkF m 172 #[.val (.int p1), .val (.int p2), .val (.int p3), .val (.ref a76), .val (.ref a87), .val (.ref a102), .val (.int (1 : Int32)), .val (.int (0 : Int32)), .val (.int (2 : Int32)), .val (.int (3 : Int32))] [(.int (1 : Int32)), (.ref a76)]))
        have F214 := ((((((((F103.ext E102).other W108 ne104).other W111 ne104).other W114 ne104).other W117 ne104).other W120 ne104).other W123 ne104).other W126 ne104)
        obtain ⟨c215, Ar215, q215, S215, M215, H215, G215⟩ := (id F214)
        refine own_go (fun _ k => X126.aaload hx (j := (1 : Int32)) (v := (.ref aCONTAINMENT)) (by rw [e126]; exact Ar215.1) (State.isArrayOf_alike hZ.alike Ar215.2.1) rfl Ar215.2.2 (inb_of S215 ⟨by decide, by decide⟩) (Has.at H215 (inb_of S215 ⟨by decide, by decide⟩) rfl) (g := (mkF m 172 #[.val (.int p1), .val (.int p2), .val (.int p3), .val (.ref a76), .val (.ref a87), .val (.ref a102), .val (.int (1 : Int32)), .val (.int (0 : Int32)), .val (.int (2 : Int32)), .val (.int (3 : Int32))] [(.int (1 : Int32)), (.ref a76)])) rfl rfl (hb hby at_172) _ k) ?_
        show OwnGo p e below _ (T126.setTop (mkF m 173 #[.val (.int p1), .val (.int p2), .val (.int p3), .val (.ref a76), .val (.ref a87), .val (.ref a102), .val (.int (1 : Int32)), .val (.int (0 : Int32)), .val (.int (2 : Int32)), .val (.int (3 : Int32))] [(.ref aCONTAINMENT)]))
        refine own_go (fun _ k => XS.iload X126.here hx rfl (hb hby at_173) rfl k) ?_
        show OwnGo p e below _ (T126.setTop (mkF m 175 #[.val (.int p1), .val (.int p2), .val (.int p3), .val (.ref a76), .val (.ref a87), .val (.ref a102), .val (.int (1 : Int32)), .val (.int (0 : Int32)), .val (.int (2 : Int32)), .val (.int (3 : Int32))] [(.int (0 : Int32)), (.ref aCONTAINMENT)]))
        refine own_go (fun _ k => XS.aload X126.here hx rfl (hb hby at_175) rfl rfl k) ?_
        show OwnGo p e below _ (T126.setTop (mkF m 177 #[.val (.int p1), .val (.int p2), .val (.int p3), .val (.ref a76), .val (.ref a87), .val (.ref a102), .val (.int (1 : Int32)), .val (.int (0 : Int32)), .val (.int (2 : Int32)), .val (.int (3 : Int32))] [(.ref a87), (.int (0 : Int32)), (.ref aCONTAINMENT)]))
        refine own_go (fun _ k => XS.iload X126.here hx rfl (hb hby at_177) rfl k) ?_
        show OwnGo p e below _ (T126.setTop (mkF m 179 #[.val (.int p1), .val (.int p2), .val (.int p3), .val (.ref a76), .val (.ref a87), .val (.ref a102), .val (.int (1 : Int32)), .val (.int (0 : Int32)), .val (.int (2 : Int32)), .val (.int (3 : Int32))] [(.int (2 : Int32)), (.ref a87), (.int (0 : Int32)), (.ref aCONTAINMENT)]))
        have F216 := ((((((((V100.ext E102).other W108 ne105).other W111 ne105).other W114 ne105).other W117 ne105).other W120 ne105).other W123 ne105).other W126 ne105)
        obtain ⟨c217, Ar217, q217, S217, M217, H217, G217⟩ := (id F216)
        refine own_go (fun _ k => X126.aaload hx (j := (2 : Int32)) (v := (.ref aBOTH)) (by rw [e126]; exact Ar217.1) (State.isArrayOf_alike hZ.alike Ar217.2.1) rfl Ar217.2.2 (inb_of S217 ⟨by decide, by decide⟩) (Has.at H217 (inb_of S217 ⟨by decide, by decide⟩) rfl) (g := (mkF m 179 #[.val (.int p1), .val (.int p2), .val (.int p3), .val (.ref a76), .val (.ref a87), .val (.ref a102), .val (.int (1 : Int32)), .val (.int (0 : Int32)), .val (.int (2 : Int32)), .val (.int (3 : Int32))] [(.int (2 : Int32)), (.ref a87), (.int (0 : Int32)), (.ref aCONTAINMENT)])) rfl rfl (hb hby at_179) _ k) ?_
        show OwnGo p e below _ (T126.setTop (mkF m 180 #[.val (.int p1), .val (.int p2), .val (.int p3), .val (.ref a76), .val (.ref a87), .val (.ref a102), .val (.int (1 : Int32)), .val (.int (0 : Int32)), .val (.int (2 : Int32)), .val (.int (3 : Int32))] [(.ref aBOTH), (.int (0 : Int32)), (.ref aCONTAINMENT)]))
        obtain ⟨_, _, ⟨T218, L218, k218, n218⟩, -, X218, hS218, hg218, ⟨Lc218, hQ218, l218, y218, z218⟩, st218⟩ := callSS X126 hx (y := (⟨"com/example/page_copy_finder/pagecopyfinder/copies/PairLabel", "of", "(Lcom/example/page_copy_finder/pagecopyfinder/copies/PairKind;ZLcom/example/page_copy_finder/pagecopyfinder/copies/PairLinks;)Lcom/example/page_copy_finder/pagecopyfinder/copies/PairLabel;"⟩ : MethodName)) hown (mvT hZ (hw _ (List.mem_of_getElem? (i := 41) rfl))) (mvT hZ (hw _ (List.mem_of_getElem? (i := 42) rfl))) (mvT hZ (hw _ (List.mem_of_getElem? (i := 25) rfl))) (mvT hZ (hw _ (List.mem_of_getElem? (i := 43) rfl))) (by decide) (backOfS (W := 0) (rm_of10 l Z a0 hw [] aIDENTICAL aCONTAINMENT aPARTIAL aA_TO_B aB_TO_A aBOTH aNONE aMIRROR aTEMPLATE_OR_PLAGIARISM aARCHIVE_PAGE aLINK_LIST_PART aSAME_SITE_RELATED aCITATION_OR_SPAM aSHARED_TEXT_OR_PLAGIARISM aSW kSW F0 aBOTH h126 n0 O126) hZ (hw _ (List.mem_of_getElem? (i := 43) rfl)) (hw _ (List.mem_of_getElem? (i := 25) rfl)) (by decide) (by decide)) (g := (mkF m 180 #[.val (.int p1), .val (.int p2), .val (.int p3), .val (.ref a76), .val (.ref a87), .val (.ref a102), .val (.int (1 : Int32)), .val (.int (0 : Int32)), .val (.int (2 : Int32)), .val (.int (3 : Int32))] [(.ref aBOTH), (.int (0 : Int32)), (.ref aCONTAINMENT)])) rfl (by rw [hml]; rfl) (argsL := [(.ref aCONTAINMENT), (.int (0 : Int32)), (.ref aBOTH)]) (rest := []) (lenOf pd_Lcom_example_page_copy_finder_pagecopyfinder_copies_PairKind__Z_Lcom_example_page_copy_finder_pagecopyfinder_copies_PairLinks___Lcom_example_page_copy_finder_pagecopyfinder_copies_PairLabel_ rfl) rfl (by show 2 * 0 + _ ≤ _; exact Nat.le_of_eq rfl) (hb hby at_180) (fun _ _ => ⟨rfl, e126, (by decide : 3 + 4 ≤ _), (by decide : 14 + 44 ≤ _)⟩)
        dsimp only [Pt.U, Pt.locs, Pt.cells, Pt.slots] at X218 l218 y218 z218 st218 hQ218 hS218 hg218
        subst l218 y218 z218
        obtain ⟨rfl, Nq218, K218⟩ := hQ218
        have N218 := Fr.app N126 Nq218
        have hZ : Z.Warmed39 (s.setVm T218.vm).vm := State.Warmed39.trans hZ hS218.1
        have hown : (s.setVm T218.vm).vm.findClass "com/example/page_copy_finder/pagecopyfinder/copies/PairLabelOfPinLaw" = some m.cls := (hS218.1.alike.findClass _ _).trans hown
        have O218 := O126.keep K218 all0
        have e218 : T218.heap = T218.heap := rfl
        have z219 : h0.size ≤ T218.heap.size := Nat.le_trans z127 K218.1
        refine own_go (fun _ k => st218.trans k) ?_
        show OwnGo p e below _ (T218.setTop (mkF m 183 #[.val (.int p1), .val (.int p2), .val (.int p3), .val (.ref a76), .val (.ref a87), .val (.ref a102), .val (.int (1 : Int32)), .val (.int (0 : Int32)), .val (.int (2 : Int32)), .val (.int (3 : Int32))] [(.ref aLINK_LIST_PART)]))
        refine own_go (fun _ k => XS.aload X218.here hx rfl (hb hby at_183) rfl rfl k) ?_
        show OwnGo p e below _ (T218.setTop (mkF m 185 #[.val (.int p1), .val (.int p2), .val (.int p3), .val (.ref a76), .val (.ref a87), .val (.ref a102), .val (.int (1 : Int32)), .val (.int (0 : Int32)), .val (.int (2 : Int32)), .val (.int (3 : Int32))] [(.ref a102), (.ref aLINK_LIST_PART)]))
        refine own_go (fun _ k => XS.iload X218.here hx rfl (hb hby at_185) rfl k) ?_
        show OwnGo p e below _ (T218.setTop (mkF m 187 #[.val (.int p1), .val (.int p2), .val (.int p3), .val (.ref a76), .val (.ref a87), .val (.ref a102), .val (.int (1 : Int32)), .val (.int (0 : Int32)), .val (.int (2 : Int32)), .val (.int (3 : Int32))] [(.int (3 : Int32)), (.ref a102), (.ref aLINK_LIST_PART)]))
        have F220 := (V126.keep K218 nin0)
        obtain ⟨c221, Ar221, q221, S221, M221, H221, G221⟩ := (id F220)
        refine own_go (fun _ k => X218.aaload hx (j := (3 : Int32)) (v := (.ref aLINK_LIST_PART)) (by rw [e218]; exact Ar221.1) (State.isArrayOf_alike hZ.alike Ar221.2.1) rfl Ar221.2.2 (inb_of S221 ⟨by decide, by decide⟩) (Has.at H221 (inb_of S221 ⟨by decide, by decide⟩) rfl) (g := (mkF m 187 #[.val (.int p1), .val (.int p2), .val (.int p3), .val (.ref a76), .val (.ref a87), .val (.ref a102), .val (.int (1 : Int32)), .val (.int (0 : Int32)), .val (.int (2 : Int32)), .val (.int (3 : Int32))] [(.int (3 : Int32)), (.ref a102), (.ref aLINK_LIST_PART)])) rfl rfl (hb hby at_187) _ k) ?_
        show OwnGo p e below _ (T218.setTop (mkF m 188 #[.val (.int p1), .val (.int p2), .val (.int p3), .val (.ref a76), .val (.ref a87), .val (.ref a102), .val (.int (1 : Int32)), .val (.int (0 : Int32)), .val (.int (2 : Int32)), .val (.int (3 : Int32))] [(.ref aLINK_LIST_PART), (.ref aLINK_LIST_PART)]))
        refine own_go (fun _ k => acmp X218 hx rfl (cd := .ne) (o := 7) (x := (.ref aLINK_LIST_PART)) (y := (.ref aLINK_LIST_PART)) (pc0 := 188) (pc' := 191) rfl rfl rfl (hb hby at_188) rfl (own_refeq _) (by decide) (by decide) k) ?_
        show OwnGo p e below _ (T218.setTop (mkF m 191 #[.val (.int p1), .val (.int p2), .val (.int p3), .val (.ref a76), .val (.ref a87), .val (.ref a102), .val (.int (1 : Int32)), .val (.int (0 : Int32)), .val (.int (2 : Int32)), .val (.int (3 : Int32))] []))
        refine own_go (fun _ k => XS.iconst X218.here hx rfl (hb hby at_191) k) ?_
        show OwnGo p e below _ (T218.setTop (mkF m 192 #[.val (.int p1), .val (.int p2), .val (.int p3), .val (.ref a76), .val (.ref a87), .val (.ref a102), .val (.int (1 : Int32)), .val (.int (0 : Int32)), .val (.int (2 : Int32)), .val (.int (3 : Int32))] [(.int (1 : Int32))]))
        refine own_go (fun _ k => XS.goto X218.here hx rfl (pc0 := 192) (pc' := 196) rfl (hb hby at_192) (by decide) (by decide) k) ?_
        show OwnGo p e below _ (T218.setTop (mkF m 196 #[.val (.int p1), .val (.int p2), .val (.int p3), .val (.ref a76), .val (.ref a87), .val (.ref a102), .val (.int (1 : Int32)), .val (.int (0 : Int32)), .val (.int (2 : Int32)), .val (.int (3 : Int32))] [(.int (1 : Int32))]))
        obtain ⟨fs, hr, hrun, hended, hEnd⟩ := Jvm.Stand.leaveW (s := s) (vm₁ := T218.vm) X218 hS218 (by rw [e218]; exact (Nat.le_refl _)) (v := some (.int (1 : Int32))) (fun h => by rw [Bd.returns] at h; cases h)
        refine ⟨_, _, retOut X218 hx Bd.returns rfl (Or.inl ⟨rfl, Or.inr (Or.inl rfl), _, rfl⟩) (hb hby at_196) hr, hrun, hended, _, _, rfl, ?_, own_monoW hEnd (by decide) (by decide)⟩
        show Q_law Z aIDENTICAL aCONTAINMENT aPARTIAL aA_TO_B aB_TO_A aBOTH aNONE aMIRROR aTEMPLATE_OR_PLAGIARISM aARCHIVE_PAGE aLINK_LIST_PART aSAME_SITE_RELATED aCITATION_OR_SPAM aSHARED_TEXT_OR_PLAGIARISM aSW kSW p1 p2 p3 h0 n0 _ T218.heap _
        rw [e218]
        exact ⟨rfl, N218⟩
      · rw [hv197]
        show OwnGo p e below _ (T126.setTop (mkF m 127 #[.val (.int p1), .val (.int p2), .val (.int p3), .val (.ref a76), .val (.ref a87), .val (.ref a102), .val (.int (1 : Int32)), .val (.int (0 : Int32)), .unset, .unset] [(.int (3 : Int32))]))
        refine own_go (fun _ k => XS.istore X126.here hx rfl (hb hby at_127) rfl (l' := #[.val (.int p1), .val (.int p2), .val (.int p3), .val (.ref a76), .val (.ref a87), .val (.ref a102), .val (.int (1 : Int32)), .val (.int (0 : Int32)), .val (.int (3 : Int32)), .unset]) rfl k) ?_
        show OwnGo p e below _ (T126.setTop (mkF m 129 #[.val (.int p1), .val (.int p2), .val (.int p3), .val (.ref a76), .val (.ref a87), .val (.ref a102), .val (.int (1 : Int32)), .val (.int (0 : Int32)), .val (.int (3 : Int32)), .unset] []))
        refine own_go (fun _ k => XS.iconst X126.here hx rfl (hb hby at_129) k) ?_
        show OwnGo p e below _ (T126.setTop (mkF m 130 #[.val (.int p1), .val (.int p2), .val (.int p3), .val (.ref a76), .val (.ref a87), .val (.ref a102), .val (.int (1 : Int32)), .val (.int (0 : Int32)), .val (.int (3 : Int32)), .unset] [(.int (2 : Int32))]))
        refine own_go (fun _ k => XS.iload X126.here hx rfl (hb hby at_130) rfl k) ?_
        show OwnGo p e below _ (T126.setTop (mkF m 132 #[.val (.int p1), .val (.int p2), .val (.int p3), .val (.ref a76), .val (.ref a87), .val (.ref a102), .val (.int (1 : Int32)), .val (.int (0 : Int32)), .val (.int (3 : Int32)), .unset] [(.int (1 : Int32)), (.int (2 : Int32))]))
        refine own_go (fun _ k => XS.imul X126.here hx rfl (hb hby at_132) rfl k) ?_
        show OwnGo p e below _ (T126.setTop (mkF m 133 #[.val (.int p1), .val (.int p2), .val (.int p3), .val (.ref a76), .val (.ref a87), .val (.ref a102), .val (.int (1 : Int32)), .val (.int (0 : Int32)), .val (.int (3 : Int32)), .unset] [(.int ((2 : Int32) * (1 : Int32)))]))
        rw [show ((2 : Int32) * (1 : Int32)) = (2 : Int32) from by decide]
        show OwnGo p e below _ (T126.setTop (mkF m 133 #[.val (.int p1), .val (.int p2), .val (.int p3), .val (.ref a76), .val (.ref a87), .val (.ref a102), .val (.int (1 : Int32)), .val (.int (0 : Int32)), .val (.int (3 : Int32)), .unset] [(.int (2 : Int32))]))
        refine own_go (fun _ k => XS.iload X126.here hx rfl (hb hby at_133) rfl k) ?_
        show OwnGo p e below _ (T126.setTop (mkF m 135 #[.val (.int p1), .val (.int p2), .val (.int p3), .val (.ref a76), .val (.ref a87), .val (.ref a102), .val (.int (1 : Int32)), .val (.int (0 : Int32)), .val (.int (3 : Int32)), .unset] [(.int (0 : Int32)), (.int (2 : Int32))]))
        refine own_go (fun _ k => XS.ifYes X126.here hx rfl (pc0 := 135) (pc' := 142) rfl (hb hby at_135) rfl (by decide) (by decide) (by decide) k) ?_
        show OwnGo p e below _ (T126.setTop (mkF m 142 #[.val (.int p1), .val (.int p2), .val (.int p3), .val (.ref a76), .val (.ref a87), .val (.ref a102), .val (.int (1 : Int32)), .val (.int (0 : Int32)), .val (.int (3 : Int32)), .unset] [(.int (2 : Int32))]))
        refine own_go (fun _ k => XS.iconst X126.here hx rfl (hb hby at_142) k) ?_
        show OwnGo p e below _ (T126.setTop (mkF m 143 #[.val (.int p1), .val (.int p2), .val (.int p3), .val (.ref a76), .val (.ref a87), .val (.ref a102), .val (.int (1 : Int32)), .val (.int (0 : Int32)), .val (.int (3 : Int32)), .unset] [(.int (1 : Int32)), (.int (2 : Int32))]))
        refine own_go (fun _ k => XS.iadd X126.here hx rfl (hb hby at_143) rfl k) ?_
        show OwnGo p e below _ (T126.setTop (mkF m 144 #[.val (.int p1), .val (.int p2), .val (.int p3), .val (.ref a76), .val (.ref a87), .val (.ref a102), .val (.int (1 : Int32)), .val (.int (0 : Int32)), .val (.int (3 : Int32)), .unset] [(.int ((2 : Int32) + (1 : Int32)))]))
        rw [show ((2 : Int32) + (1 : Int32)) = (3 : Int32) from by decide]
        show OwnGo p e below _ (T126.setTop (mkF m 144 #[.val (.int p1), .val (.int p2), .val (.int p3), .val (.ref a76), .val (.ref a87), .val (.ref a102), .val (.int (1 : Int32)), .val (.int (0 : Int32)), .val (.int (3 : Int32)), .unset] [(.int (3 : Int32))]))
        refine own_go (fun _ k => XS.iload X126.here hx rfl (hb hby at_144) rfl k) ?_
        show OwnGo p e below _ (T126.setTop (mkF m 146 #[.val (.int p1), .val (.int p2), .val (.int p3), .val (.ref a76), .val (.ref a87), .val (.ref a102), .val (.int (1 : Int32)), .val (.int (0 : Int32)), .val (.int (3 : Int32)), .unset] [(.int (1 : Int32)), (.int (3 : Int32))]))
        refine own_go (fun _ k => XS.iconst X126.here hx rfl (hb hby at_146) k) ?_
        show OwnGo p e below _ (T126.setTop (mkF m 147 #[.val (.int p1), .val (.int p2), .val (.int p3), .val (.ref a76), .val (.ref a87), .val (.ref a102), .val (.int (1 : Int32)), .val (.int (0 : Int32)), .val (.int (3 : Int32)), .unset] [(.int (2 : Int32)), (.int (1 : Int32)), (.int (3 : Int32))]))
        refine own_go (fun _ k => XS.icmpYes X126.here hx rfl (pc0 := 147) (pc' := 165) rfl (hb hby at_147) rfl (by decide) (by decide) (by decide) k) ?_
        show OwnGo p e below _ (T126.setTop (mkF m 165 #[.val (.int p1), .val (.int p2), .val (.int p3), .val (.ref a76), .val (.ref a87), .val (.ref a102), .val (.int (1 : Int32)), .val (.int (0 : Int32)), .val (.int (3 : Int32)), .unset] [(.int (3 : Int32))]))
        refine own_go (fun _ k => XS.iconst X126.here hx rfl (hb hby at_165) k) ?_
        show OwnGo p e below _ (T126.setTop (mkF m 166 #[.val (.int p1), .val (.int p2), .val (.int p3), .val (.ref a76), .val (.ref a87), .val (.ref a102), .val (.int (1 : Int32)), .val (.int (0 : Int32)), .val (.int (3 : Int32)), .unset] [(.int (0 : Int32)), (.int (3 : Int32))]))
        refine own_go (fun _ k => XS.iadd X126.here hx rfl (hb hby at_166) rfl k) ?_
        show OwnGo p e below _ (T126.setTop (mkF m 167 #[.val (.int p1), .val (.int p2), .val (.int p3), .val (.ref a76), .val (.ref a87), .val (.ref a102), .val (.int (1 : Int32)), .val (.int (0 : Int32)), .val (.int (3 : Int32)), .unset] [(.int ((3 : Int32) + (0 : Int32)))]))
        rw [show ((3 : Int32) + (0 : Int32)) = (3 : Int32) from by decide]
        show OwnGo p e below _ (T126.setTop (mkF m 167 #[.val (.int p1), .val (.int p2), .val (.int p3), .val (.ref a76), .val (.ref a87), .val (.ref a102), .val (.int (1 : Int32)), .val (.int (0 : Int32)), .val (.int (3 : Int32)), .unset] [(.int (3 : Int32))]))
        refine own_go (fun _ k => XS.istore X126.here hx rfl (hb hby at_167) rfl (l' := #[.val (.int p1), .val (.int p2), .val (.int p3), .val (.ref a76), .val (.ref a87), .val (.ref a102), .val (.int (1 : Int32)), .val (.int (0 : Int32)), .val (.int (3 : Int32)), .val (.int (3 : Int32))]) rfl k) ?_
        show OwnGo p e below _ (T126.setTop (mkF m 169 #[.val (.int p1), .val (.int p2), .val (.int p3), .val (.ref a76), .val (.ref a87), .val (.ref a102), .val (.int (1 : Int32)), .val (.int (0 : Int32)), .val (.int (3 : Int32)), .val (.int (3 : Int32))] []))
        refine own_go (fun _ k => XS.aloadN X126.here hx rfl (hb hby at_169) rfl rfl k) ?_
        show OwnGo p e below _ (T126.setTop (mkF m 170 #[.val (.int p1), .val (.int p2), .val (.int p3), .val (.ref a76), .val (.ref a87), .val (.ref a102), .val (.int (1 : Int32)), .val (.int (0 : Int32)), .val (.int (3 : Int32)), .val (.int (3 : Int32))] [(.ref a76)]))
        refine own_go (fun _ k => XS.iload X126.here hx rfl (hb hby at_170) rfl k) ?_
        show OwnGo p e below _ (T126.setTop (mkF m 172 #[.val (.int p1), .val (.int p2), .val (.int p3), .val (.ref a76), .val (.ref a87), .val (.ref a102), .val (.int (1 : Int32)), .val (.int (0 : Int32)), .val (.int (3 : Int32)), .val (.int (3 : Int32))] [(.int (1 : Int32)), (.ref a76)]))
        have F222 := ((((((((F103.ext E102).other W108 ne104).other W111 ne104).other W114 ne104).other W117 ne104).other W120 ne104).other W123 ne104).other W126 ne104)
        obtain ⟨c223, Ar223, q223, S223, M223, H223, G223⟩ := (id F222)
        refine own_go (fun _ k => X126.aaload hx (j := (1 : Int32)) (v := (.ref aCONTAINMENT)) (by rw [e126]; exact Ar223.1) (State.isArrayOf_alike hZ.alike Ar223.2.1) rfl Ar223.2.2 (inb_of S223 ⟨by decide, by decide⟩) (Has.at H223 (inb_of S223 ⟨by decide, by decide⟩) rfl) (g := (mkF m 172 #[.val (.int p1), .val (.int p2), .val (.int p3), .val (.ref a76), .val (.ref a87), .val (.ref a102), .val (.int (1 : Int32)), .val (.int (0 : Int32)), .val (.int (3 : Int32)), .val (.int (3 : Int32))] [(.int (1 : Int32)), (.ref a76)])) rfl rfl (hb hby at_172) _ k) ?_
        show OwnGo p e below _ (T126.setTop (mkF m 173 #[.val (.int p1), .val (.int p2), .val (.int p3), .val (.ref a76), .val (.ref a87), .val (.ref a102), .val (.int (1 : Int32)), .val (.int (0 : Int32)), .val (.int (3 : Int32)), .val (.int (3 : Int32))] [(.ref aCONTAINMENT)]))
        refine own_go (fun _ k => XS.iload X126.here hx rfl (hb hby at_173) rfl k) ?_
        show OwnGo p e below _ (T126.setTop (mkF m 175 #[.val (.int p1), .val (.int p2), .val (.int p3), .val (.ref a76), .val (.ref a87), .val (.ref a102), .val (.int (1 : Int32)), .val (.int (0 : Int32)), .val (.int (3 : Int32)), .val (.int (3 : Int32))] [(.int (0 : Int32)), (.ref aCONTAINMENT)]))
        refine own_go (fun _ k => XS.aload X126.here hx rfl (hb hby at_175) rfl rfl k) ?_
        show OwnGo p e below _ (T126.setTop (mkF m 177 #[.val (.int p1), .val (.int p2), .val (.int p3), .val (.ref a76), .val (.ref a87), .val (.ref a102), .val (.int (1 : Int32)), .val (.int (0 : Int32)), .val (.int (3 : Int32)), .val (.int (3 : Int32))] [(.ref a87), (.int (0 : Int32)), (.ref aCONTAINMENT)]))
        refine own_go (fun _ k => XS.iload X126.here hx rfl (hb hby at_177) rfl k) ?_
        show OwnGo p e below _ (T126.setTop (mkF m 179 #[.val (.int p1), .val (.int p2), .val (.int p3), .val (.ref a76), .val (.ref a87), .val (.ref a102), .val (.int (1 : Int32)), .val (.int (0 : Int32)), .val (.int (3 : Int32)), .val (.int (3 : Int32))] [(.int (3 : Int32)), (.ref a87), (.int (0 : Int32)), (.ref aCONTAINMENT)]))
        have F224 := ((((((((V100.ext E102).other W108 ne105).other W111 ne105).other W114 ne105).other W117 ne105).other W120 ne105).other W123 ne105).other W126 ne105)
        obtain ⟨c225, Ar225, q225, S225, M225, H225, G225⟩ := (id F224)
        refine own_go (fun _ k => X126.aaload hx (j := (3 : Int32)) (v := (.ref aNONE)) (by rw [e126]; exact Ar225.1) (State.isArrayOf_alike hZ.alike Ar225.2.1) rfl Ar225.2.2 (inb_of S225 ⟨by decide, by decide⟩) (Has.at H225 (inb_of S225 ⟨by decide, by decide⟩) rfl) (g := (mkF m 179 #[.val (.int p1), .val (.int p2), .val (.int p3), .val (.ref a76), .val (.ref a87), .val (.ref a102), .val (.int (1 : Int32)), .val (.int (0 : Int32)), .val (.int (3 : Int32)), .val (.int (3 : Int32))] [(.int (3 : Int32)), (.ref a87), (.int (0 : Int32)), (.ref aCONTAINMENT)])) rfl rfl (hb hby at_179) _ k) ?_
        show OwnGo p e below _ (T126.setTop (mkF m 180 #[.val (.int p1), .val (.int p2), .val (.int p3), .val (.ref a76), .val (.ref a87), .val (.ref a102), .val (.int (1 : Int32)), .val (.int (0 : Int32)), .val (.int (3 : Int32)), .val (.int (3 : Int32))] [(.ref aNONE), (.int (0 : Int32)), (.ref aCONTAINMENT)]))
        obtain ⟨_, _, ⟨T226, L226, k226, n226⟩, -, X226, hS226, hg226, ⟨Lc226, hQ226, l226, y226, z226⟩, st226⟩ := callSS X126 hx (y := (⟨"com/example/page_copy_finder/pagecopyfinder/copies/PairLabel", "of", "(Lcom/example/page_copy_finder/pagecopyfinder/copies/PairKind;ZLcom/example/page_copy_finder/pagecopyfinder/copies/PairLinks;)Lcom/example/page_copy_finder/pagecopyfinder/copies/PairLabel;"⟩ : MethodName)) hown (mvT hZ (hw _ (List.mem_of_getElem? (i := 41) rfl))) (mvT hZ (hw _ (List.mem_of_getElem? (i := 42) rfl))) (mvT hZ (hw _ (List.mem_of_getElem? (i := 25) rfl))) (mvT hZ (hw _ (List.mem_of_getElem? (i := 43) rfl))) (by decide) (backOfS (W := 0) (rm_of10 l Z a0 hw [] aIDENTICAL aCONTAINMENT aPARTIAL aA_TO_B aB_TO_A aBOTH aNONE aMIRROR aTEMPLATE_OR_PLAGIARISM aARCHIVE_PAGE aLINK_LIST_PART aSAME_SITE_RELATED aCITATION_OR_SPAM aSHARED_TEXT_OR_PLAGIARISM aSW kSW F0 aNONE h126 n0 O126) hZ (hw _ (List.mem_of_getElem? (i := 43) rfl)) (hw _ (List.mem_of_getElem? (i := 25) rfl)) (by decide) (by decide)) (g := (mkF m 180 #[.val (.int p1), .val (.int p2), .val (.int p3), .val (.ref a76), .val (.ref a87), .val (.ref a102), .val (.int (1 : Int32)), .val (.int (0 : Int32)), .val (.int (3 : Int32)), .val (.int (3 : Int32))] [(.ref aNONE), (.int (0 : Int32)), (.ref aCONTAINMENT)])) rfl (by rw [hml]; rfl) (argsL := [(.ref aCONTAINMENT), (.int (0 : Int32)), (.ref aNONE)]) (rest := []) (lenOf pd_Lcom_example_page_copy_finder_pagecopyfinder_copies_PairKind__Z_Lcom_example_page_copy_finder_pagecopyfinder_copies_PairLinks___Lcom_example_page_copy_finder_pagecopyfinder_copies_PairLabel_ rfl) rfl (by show 2 * 0 + _ ≤ _; exact Nat.le_of_eq rfl) (hb hby at_180) (fun _ _ => ⟨rfl, e126, (by decide : 3 + 4 ≤ _), (by decide : 14 + 44 ≤ _)⟩)
        dsimp only [Pt.U, Pt.locs, Pt.cells, Pt.slots] at X226 l226 y226 z226 st226 hQ226 hS226 hg226
        subst l226 y226 z226
        obtain ⟨rfl, Nq226, K226⟩ := hQ226
        have N226 := Fr.app N126 Nq226
        have hZ : Z.Warmed39 (s.setVm T226.vm).vm := State.Warmed39.trans hZ hS226.1
        have hown : (s.setVm T226.vm).vm.findClass "com/example/page_copy_finder/pagecopyfinder/copies/PairLabelOfPinLaw" = some m.cls := (hS226.1.alike.findClass _ _).trans hown
        have O226 := O126.keep K226 all0
        have e226 : T226.heap = T226.heap := rfl
        have z227 : h0.size ≤ T226.heap.size := Nat.le_trans z127 K226.1
        refine own_go (fun _ k => st226.trans k) ?_
        show OwnGo p e below _ (T226.setTop (mkF m 183 #[.val (.int p1), .val (.int p2), .val (.int p3), .val (.ref a76), .val (.ref a87), .val (.ref a102), .val (.int (1 : Int32)), .val (.int (0 : Int32)), .val (.int (3 : Int32)), .val (.int (3 : Int32))] [(.ref aLINK_LIST_PART)]))
        refine own_go (fun _ k => XS.aload X226.here hx rfl (hb hby at_183) rfl rfl k) ?_
        show OwnGo p e below _ (T226.setTop (mkF m 185 #[.val (.int p1), .val (.int p2), .val (.int p3), .val (.ref a76), .val (.ref a87), .val (.ref a102), .val (.int (1 : Int32)), .val (.int (0 : Int32)), .val (.int (3 : Int32)), .val (.int (3 : Int32))] [(.ref a102), (.ref aLINK_LIST_PART)]))
        refine own_go (fun _ k => XS.iload X226.here hx rfl (hb hby at_185) rfl k) ?_
        show OwnGo p e below _ (T226.setTop (mkF m 187 #[.val (.int p1), .val (.int p2), .val (.int p3), .val (.ref a76), .val (.ref a87), .val (.ref a102), .val (.int (1 : Int32)), .val (.int (0 : Int32)), .val (.int (3 : Int32)), .val (.int (3 : Int32))] [(.int (3 : Int32)), (.ref a102), (.ref aLINK_LIST_PART)]))
        have F228 := (V126.keep K226 nin0)
        obtain ⟨c229, Ar229, q229, S229, M229, H229, G229⟩ := (id F228)
        refine own_go (fun _ k => X226.aaload hx (j := (3 : Int32)) (v := (.ref aLINK_LIST_PART)) (by rw [e226]; exact Ar229.1) (State.isArrayOf_alike hZ.alike Ar229.2.1) rfl Ar229.2.2 (inb_of S229 ⟨by decide, by decide⟩) (Has.at H229 (inb_of S229 ⟨by decide, by decide⟩) rfl) (g := (mkF m 187 #[.val (.int p1), .val (.int p2), .val (.int p3), .val (.ref a76), .val (.ref a87), .val (.ref a102), .val (.int (1 : Int32)), .val (.int (0 : Int32)), .val (.int (3 : Int32)), .val (.int (3 : Int32))] [(.int (3 : Int32)), (.ref a102), (.ref aLINK_LIST_PART)])) rfl rfl (hb hby at_187) _ k) ?_
        show OwnGo p e below _ (T226.setTop (mkF m 188 #[.val (.int p1), .val (.int p2), .val (.int p3), .val (.ref a76), .val (.ref a87), .val (.ref a102), .val (.int (1 : Int32)), .val (.int (0 : Int32)), .val (.int (3 : Int32)), .val (.int (3 : Int32))] [(.ref aLINK_LIST_PART), (.ref aLINK_LIST_PART)]))
        refine own_go (fun _ k => acmp X226 hx rfl (cd := .ne) (o := 7) (x := (.ref aLINK_LIST_PART)) (y := (.ref aLINK_LIST_PART)) (pc0 := 188) (pc' := 191) rfl rfl rfl (hb hby at_188) rfl (own_refeq _) (by decide) (by decide) k) ?_
        show OwnGo p e below _ (T226.setTop (mkF m 191 #[.val (.int p1), .val (.int p2), .val (.int p3), .val (.ref a76), .val (.ref a87), .val (.ref a102), .val (.int (1 : Int32)), .val (.int (0 : Int32)), .val (.int (3 : Int32)), .val (.int (3 : Int32))] []))
        refine own_go (fun _ k => XS.iconst X226.here hx rfl (hb hby at_191) k) ?_
        show OwnGo p e below _ (T226.setTop (mkF m 192 #[.val (.int p1), .val (.int p2), .val (.int p3), .val (.ref a76), .val (.ref a87), .val (.ref a102), .val (.int (1 : Int32)), .val (.int (0 : Int32)), .val (.int (3 : Int32)), .val (.int (3 : Int32))] [(.int (1 : Int32))]))
        refine own_go (fun _ k => XS.goto X226.here hx rfl (pc0 := 192) (pc' := 196) rfl (hb hby at_192) (by decide) (by decide) k) ?_
        show OwnGo p e below _ (T226.setTop (mkF m 196 #[.val (.int p1), .val (.int p2), .val (.int p3), .val (.ref a76), .val (.ref a87), .val (.ref a102), .val (.int (1 : Int32)), .val (.int (0 : Int32)), .val (.int (3 : Int32)), .val (.int (3 : Int32))] [(.int (1 : Int32))]))
        obtain ⟨fs, hr, hrun, hended, hEnd⟩ := Jvm.Stand.leaveW (s := s) (vm₁ := T226.vm) X226 hS226 (by rw [e226]; exact (Nat.le_refl _)) (v := some (.int (1 : Int32))) (fun h => by rw [Bd.returns] at h; cases h)
        refine ⟨_, _, retOut X226 hx Bd.returns rfl (Or.inl ⟨rfl, Or.inr (Or.inl rfl), _, rfl⟩) (hb hby at_196) hr, hrun, hended, _, _, rfl, ?_, own_monoW hEnd (by decide) (by decide)⟩
        show Q_law Z aIDENTICAL aCONTAINMENT aPARTIAL aA_TO_B aB_TO_A aBOTH aNONE aMIRROR aTEMPLATE_OR_PLAGIARISM aARCHIVE_PAGE aLINK_LIST_PART aSAME_SITE_RELATED aCITATION_OR_SPAM aSHARED_TEXT_OR_PLAGIARISM aSW kSW p1 p2 p3 h0 n0 _ T226.heap _
        rw [e226]
        exact ⟨rfl, N226⟩
    · refine own_go (fun _ k => XS.ifNo X126.here hx rfl (hb hby at_114) rfl ((if0 _ _).trans (feq hc196).1) k) ?_
      show OwnGo p e below _ (T126.setTop (mkF m 117 #[.val (.int p1), .val (.int p2), .val (.int p3), .val (.ref a76), .val (.ref a87), .val (.ref a102), .val (.int (1 : Int32)), .unset, .unset, .unset] []))
      refine own_go (fun _ k => XS.iconst X126.here hx rfl (hb hby at_117) k) ?_
      show OwnGo p e below _ (T126.setTop (mkF m 118 #[.val (.int p1), .val (.int p2), .val (.int p3), .val (.ref a76), .val (.ref a87), .val (.ref a102), .val (.int (1 : Int32)), .unset, .unset, .unset] [(.int (1 : Int32))]))
      refine own_go (fun _ k => XS.goto X126.here hx rfl (pc0 := 118) (pc' := 122) rfl (hb hby at_118) (by decide) (by decide) k) ?_
      show OwnGo p e below _ (T126.setTop (mkF m 122 #[.val (.int p1), .val (.int p2), .val (.int p3), .val (.ref a76), .val (.ref a87), .val (.ref a102), .val (.int (1 : Int32)), .unset, .unset, .unset] [(.int (1 : Int32))]))
      refine own_go (fun _ k => XS.istore X126.here hx rfl (hb hby at_122) rfl (l' := #[.val (.int p1), .val (.int p2), .val (.int p3), .val (.ref a76), .val (.ref a87), .val (.ref a102), .val (.int (1 : Int32)), .val (.int (1 : Int32)), .unset, .unset]) rfl k) ?_
      show OwnGo p e below _ (T126.setTop (mkF m 124 #[.val (.int p1), .val (.int p2), .val (.int p3), .val (.ref a76), .val (.ref a87), .val (.ref a102), .val (.int (1 : Int32)), .val (.int (1 : Int32)), .unset, .unset] []))
      refine own_go (fun _ k => XS.iloadN X126.here hx rfl (hb hby at_124) rfl k) ?_
      show OwnGo p e below _ (T126.setTop (mkF m 125 #[.val (.int p1), .val (.int p2), .val (.int p3), .val (.ref a76), .val (.ref a87), .val (.ref a102), .val (.int (1 : Int32)), .val (.int (1 : Int32)), .unset, .unset] [(.int p3)]))
      refine own_go (fun _ k => XS.iconst X126.here hx rfl (hb hby at_125) k) ?_
      show OwnGo p e below _ (T126.setTop (mkF m 126 #[.val (.int p1), .val (.int p2), .val (.int p3), .val (.ref a76), .val (.ref a87), .val (.ref a102), .val (.int (1 : Int32)), .val (.int (1 : Int32)), .unset, .unset] [(.int (3 : Int32)), (.int p3)]))
      refine own_go (fun _ k => XS.iand X126.here hx rfl (hb hby at_126) rfl k) ?_
      show OwnGo p e below _ (T126.setTop (mkF m 127 #[.val (.int p1), .val (.int p2), .val (.int p3), .val (.ref a76), .val (.ref a87), .val (.ref a102), .val (.int (1 : Int32)), .val (.int (1 : Int32)), .unset, .unset] [(.int (p3 &&& (3 : Int32)))]))
      rcases own_and3 p3 with hv230 | hv230 | hv230 | hv230
      · rw [hv230]
        show OwnGo p e below _ (T126.setTop (mkF m 127 #[.val (.int p1), .val (.int p2), .val (.int p3), .val (.ref a76), .val (.ref a87), .val (.ref a102), .val (.int (1 : Int32)), .val (.int (1 : Int32)), .unset, .unset] [(.int (0 : Int32))]))
        refine own_go (fun _ k => XS.istore X126.here hx rfl (hb hby at_127) rfl (l' := #[.val (.int p1), .val (.int p2), .val (.int p3), .val (.ref a76), .val (.ref a87), .val (.ref a102), .val (.int (1 : Int32)), .val (.int (1 : Int32)), .val (.int (0 : Int32)), .unset]) rfl k) ?_
        show OwnGo p e below _ (T126.setTop (mkF m 129 #[.val (.int p1), .val (.int p2), .val (.int p3), .val (.ref a76), .val (.ref a87), .val (.ref a102), .val (.int (1 : Int32)), .val (.int (1 : Int32)), .val (.int (0 : Int32)), .unset] []))
        refine own_go (fun _ k => XS.iconst X126.here hx rfl (hb hby at_129) k) ?_
        show OwnGo p e below _ (T126.setTop (mkF m 130 #[.val (.int p1), .val (.int p2), .val (.int p3), .val (.ref a76), .val (.ref a87), .val (.ref a102), .val (.int (1 : Int32)), .val (.int (1 : Int32)), .val (.int (0 : Int32)), .unset] [(.int (2 : Int32))]))
        refine own_go (fun _ k => XS.iload X126.here hx rfl (hb hby at_130) rfl k) ?_
        show OwnGo p e below _ (T126.setTop (mkF m 132 #[.val (.int p1), .val (.int p2), .val (.int p3), .val (.ref a76), .val (.ref a87), .val (.ref a102), .val (.int (1 : Int32)), .val (.int (1 : Int32)), .val (.int (0 : Int32)), .unset] [(.int (1 : Int32)), (.int (2 : Int32))]))
        refine own_go (fun _ k => XS.imul X126.here hx rfl (hb hby at_132) rfl k) ?_
        show OwnGo p e below _ (T126.setTop (mkF m 133 #[.val (.int p1), .val (.int p2), .val (.int p3), .val (.ref a76), .val (.ref a87), .val (.ref a102), .val (.int (1 : Int32)), .val (.int (1 : Int32)), .val (.int (0 : Int32)), .unset] [(.int ((2 : Int32) * (1 : Int32)))]))
        rw [show ((2 : Int32) * (1 : Int32)) = (2 : Int32) from by decide]
        show OwnGo p e below _ (T126.setTop (mkF m 133 #[.val (.int p1), .val (.int p2), .val (.int p3), .val (.ref a76), .val (.ref a87), .val (.ref a102), .val (.int (1 : Int32)), .val (.int (1 : Int32)), .val (.int (0 : Int32)), .unset] [(.int (2 : Int32))]))
        refine own_go (fun _ k => XS.iload X126.here hx rfl (hb hby at_133) rfl k) ?_
        show OwnGo p e below _ (T126.setTop (mkF m 135 #[.val (.int p1), .val (.int p2), .val (.int p3), .val (.ref a76), .val (.ref a87), .val (.ref a102), .val (.int (1 : Int32)), .val (.int (1 : Int32)), .val (.int (0 : Int32)), .unset] [(.int (1 : Int32)), (.int (2 : Int32))]))
        refine own_go (fun _ k => XS.ifNo X126.here hx rfl (hb hby at_135) rfl (by decide) k) ?_
        show OwnGo p e below _ (T126.setTop (mkF m 138 #[.val (.int p1), .val (.int p2), .val (.int p3), .val (.ref a76), .val (.ref a87), .val (.ref a102), .val (.int (1 : Int32)), .val (.int (1 : Int32)), .val (.int (0 : Int32)), .unset] [(.int (2 : Int32))]))
        refine own_go (fun _ k => XS.iconst X126.here hx rfl (hb hby at_138) k) ?_
        show OwnGo p e below _ (T126.setTop (mkF m 139 #[.val (.int p1), .val (.int p2), .val (.int p3), .val (.ref a76), .val (.ref a87), .val (.ref a102), .val (.int (1 : Int32)), .val (.int (1 : Int32)), .val (.int (0 : Int32)), .unset] [(.int (0 : Int32)), (.int (2 : Int32))]))
        refine own_go (fun _ k => XS.goto X126.here hx rfl (pc0 := 139) (pc' := 143) rfl (hb hby at_139) (by decide) (by decide) k) ?_
        show OwnGo p e below _ (T126.setTop (mkF m 143 #[.val (.int p1), .val (.int p2), .val (.int p3), .val (.ref a76), .val (.ref a87), .val (.ref a102), .val (.int (1 : Int32)), .val (.int (1 : Int32)), .val (.int (0 : Int32)), .unset] [(.int (0 : Int32)), (.int (2 : Int32))]))
        refine own_go (fun _ k => XS.iadd X126.here hx rfl (hb hby at_143) rfl k) ?_
        show OwnGo p e below _ (T126.setTop (mkF m 144 #[.val (.int p1), .val (.int p2), .val (.int p3), .val (.ref a76), .val (.ref a87), .val (.ref a102), .val (.int (1 : Int32)), .val (.int (1 : Int32)), .val (.int (0 : Int32)), .unset] [(.int ((2 : Int32) + (0 : Int32)))]))
        rw [show ((2 : Int32) + (0 : Int32)) = (2 : Int32) from by decide]
        show OwnGo p e below _ (T126.setTop (mkF m 144 #[.val (.int p1), .val (.int p2), .val (.int p3), .val (.ref a76), .val (.ref a87), .val (.ref a102), .val (.int (1 : Int32)), .val (.int (1 : Int32)), .val (.int (0 : Int32)), .unset] [(.int (2 : Int32))]))
        refine own_go (fun _ k => XS.iload X126.here hx rfl (hb hby at_144) rfl k) ?_
        show OwnGo p e below _ (T126.setTop (mkF m 146 #[.val (.int p1), .val (.int p2), .val (.int p3), .val (.ref a76), .val (.ref a87), .val (.ref a102), .val (.int (1 : Int32)), .val (.int (1 : Int32)), .val (.int (0 : Int32)), .unset] [(.int (1 : Int32)), (.int (2 : Int32))]))
        refine own_go (fun _ k => XS.iconst X126.here hx rfl (hb hby at_146) k) ?_
        show OwnGo p e below _ (T126.setTop (mkF m 147 #[.val (.int p1), .val (.int p2), .val (.int p3), .val (.ref a76), .val (.ref a87), .val (.ref a102), .val (.int (1 : Int32)), .val (.int (1 : Int32)), .val (.int (0 : Int32)), .unset] [(.int (2 : Int32)), (.int (1 : Int32)), (.int (2 : Int32))]))
        refine own_go (fun _ k => XS.icmpYes X126.here hx rfl (pc0 := 147) (pc' := 165) rfl (hb hby at_147) rfl (by decide) (by decide) (by decide) k) ?_
        show OwnGo p e below _ (T126.setTop (mkF m 165 #[.val (.int p1), .val (.int p2), .val (.int p3), .val (.ref a76), .val (.ref a87), .val (.ref a102), .val (.int (1 : Int32)), .val (.int (1 : Int32)), .val (.int (0 : Int32)), .unset] [(.int (2 : Int32))]))
        refine own_go (fun _ k => XS.iconst X126.here hx rfl (hb hby at_165) k) ?_
        show OwnGo p e below _ (T126.setTop (mkF m 166 #[.val (.int p1), .val (.int p2), .val (.int p3), .val (.ref a76), .val (.ref a87), .val (.ref a102), .val (.int (1 : Int32)), .val (.int (1 : Int32)), .val (.int (0 : Int32)), .unset] [(.int (0 : Int32)), (.int (2 : Int32))]))
        refine own_go (fun _ k => XS.iadd X126.here hx rfl (hb hby at_166) rfl k) ?_
        show OwnGo p e below _ (T126.setTop (mkF m 167 #[.val (.int p1), .val (.int p2), .val (.int p3), .val (.ref a76), .val (.ref a87), .val (.ref a102), .val (.int (1 : Int32)), .val (.int (1 : Int32)), .val (.int (0 : Int32)), .unset] [(.int ((2 : Int32) + (0 : Int32)))]))
        rw [show ((2 : Int32) + (0 : Int32)) = (2 : Int32) from by decide]
        show OwnGo p e below _ (T126.setTop (mkF m 167 #[.val (.int p1), .val (.int p2), .val (.int p3), .val (.ref a76), .val (.ref a87), .val (.ref a102), .val (.int (1 : Int32)), .val (.int (1 : Int32)), .val (.int (0 : Int32)), .unset] [(.int (2 : Int32))]))
        refine own_go (fun _ k => XS.istore X126.here hx rfl (hb hby at_167) rfl (l' := #[.val (.int p1), .val (.int p2), .val (.int p3), .val (.ref a76), .val (.ref a87), .val (.ref a102), .val (.int (1 : Int32)), .val (.int (1 : Int32)), .val (.int (0 : Int32)), .val (.int (2 : Int32))]) rfl k) ?_
        show OwnGo p e below _ (T126.setTop (mkF m 169 #[.val (.int p1), .val (.int p2), .val (.int p3), .val (.ref a76), .val (.ref a87), .val (.ref a102), .val (.int (1 : Int32)), .val (.int (1 : Int32)), .val (.int (0 : Int32)), .val (.int (2 : Int32))] []))
        refine own_go (fun _ k => XS.aloadN X126.here hx rfl (hb hby at_169) rfl rfl k) ?_
        show OwnGo p e below _ (T126.setTop (mkF m 170 #[.val (.int p1), .val (.int p2), .val (.int p3), .val (.ref a76), .val (.ref a87), .val (.ref a102), .val (.int (1 : Int32)), .val (.int (1 : Int32)), .val (.int (0 : Int32)), .val (.int (2 : Int32))] [(.ref a76)]))
        refine own_go (fun _ k => XS.iload X126.here hx rfl (hb hby at_170) rfl k) ?_
        show OwnGo p e below _ (T126.setTop (mkF m 172 #[.val (.int p1), .val (.int p2), .val (.int p3), .val (.ref a76), .val (.ref a87), .val (.ref a102), .val (.int (1 : Int32)), .val (.int (1 : Int32)), .val (.int (0 : Int32)), .val (.int (2 : Int32))] [(.int (1 : Int32)), (.ref a76)]))
        have F231 := ((((((((F103.ext E102).other W108 ne104).other W111 ne104).other W114 ne104).other W117 ne104).other W120 ne104).other W123 ne104).other W126 ne104)
        obtain ⟨c232, Ar232, q232, S232, M232, H232, G232⟩ := (id F231)
        refine own_go (fun _ k => X126.aaload hx (j := (1 : Int32)) (v := (.ref aCONTAINMENT)) (by rw [e126]; exact Ar232.1) (State.isArrayOf_alike hZ.alike Ar232.2.1) rfl Ar232.2.2 (inb_of S232 ⟨by decide, by decide⟩) (Has.at H232 (inb_of S232 ⟨by decide, by decide⟩) rfl) (g := (mkF m 172 #[.val (.int p1), .val (.int p2), .val (.int p3), .val (.ref a76), .val (.ref a87), .val (.ref a102), .val (.int (1 : Int32)), .val (.int (1 : Int32)), .val (.int (0 : Int32)), .val (.int (2 : Int32))] [(.int (1 : Int32)), (.ref a76)])) rfl rfl (hb hby at_172) _ k) ?_
        show OwnGo p e below _ (T126.setTop (mkF m 173 #[.val (.int p1), .val (.int p2), .val (.int p3), .val (.ref a76), .val (.ref a87), .val (.ref a102), .val (.int (1 : Int32)), .val (.int (1 : Int32)), .val (.int (0 : Int32)), .val (.int (2 : Int32))] [(.ref aCONTAINMENT)]))
        refine own_go (fun _ k => XS.iload X126.here hx rfl (hb hby at_173) rfl k) ?_
        show OwnGo p e below _ (T126.setTop (mkF m 175 #[.val (.int p1), .val (.int p2), .val (.int p3), .val (.ref a76), .val (.ref a87), .val (.ref a102), .val (.int (1 : Int32)), .val (.int (1 : Int32)), .val (.int (0 : Int32)), .val (.int (2 : Int32))] [(.int (1 : Int32)), (.ref aCONTAINMENT)]))
        refine own_go (fun _ k => XS.aload X126.here hx rfl (hb hby at_175) rfl rfl k) ?_
        show OwnGo p e below _ (T126.setTop (mkF m 177 #[.val (.int p1), .val (.int p2), .val (.int p3), .val (.ref a76), .val (.ref a87), .val (.ref a102), .val (.int (1 : Int32)), .val (.int (1 : Int32)), .val (.int (0 : Int32)), .val (.int (2 : Int32))] [(.ref a87), (.int (1 : Int32)), (.ref aCONTAINMENT)]))
        refine own_go (fun _ k => XS.iload X126.here hx rfl (hb hby at_177) rfl k) ?_
        show OwnGo p e below _ (T126.setTop (mkF m 179 #[.val (.int p1), .val (.int p2), .val (.int p3), .val (.ref a76), .val (.ref a87), .val (.ref a102), .val (.int (1 : Int32)), .val (.int (1 : Int32)), .val (.int (0 : Int32)), .val (.int (2 : Int32))] [(.int (0 : Int32)), (.ref a87), (.int (1 : Int32)), (.ref aCONTAINMENT)]))
        have F233 := ((((((((V100.ext E102).other W108 ne105).other W111 ne105).other W114 ne105).other W117 ne105).other W120 ne105).other W123 ne105).other W126 ne105)
        obtain ⟨c234, Ar234, q234, S234, M234, H234, G234⟩ := (id F233)
        refine own_go (fun _ k => X126.aaload hx (j := (0 : Int32)) (v := (.ref aA_TO_B)) (by rw [e126]; exact Ar234.1) (State.isArrayOf_alike hZ.alike Ar234.2.1) rfl Ar234.2.2 (inb_of S234 ⟨by decide, by decide⟩) (Has.at H234 (inb_of S234 ⟨by decide, by decide⟩) rfl) (g := (mkF m 179 #[.val (.int p1), .val (.int p2), .val (.int p3), .val (.ref a76), .val (.ref a87), .val (.ref a102), .val (.int (1 : Int32)), .val (.int (1 : Int32)), .val (.int (0 : Int32)), .val (.int (2 : Int32))] [(.int (0 : Int32)), (.ref a87), (.int (1 : Int32)), (.ref aCONTAINMENT)])) rfl rfl (hb hby at_179) _ k) ?_
        show OwnGo p e below _ (T126.setTop (mkF m 180 #[.val (.int p1), .val (.int p2), .val (.int p3), .val (.ref a76), .val (.ref a87), .val (.ref a102), .val (.int (1 : Int32)), .val (.int (1 : Int32)), .val (.int (0 : Int32)), .val (.int (2 : Int32))] [(.ref aA_TO_B), (.int (1 : Int32)), (.ref aCONTAINMENT)]))
        obtain ⟨_, _, ⟨T235, L235, k235, n235⟩, -, X235, hS235, hg235, ⟨Lc235, hQ235, l235, y235, z235⟩, st235⟩ := callSS X126 hx (y := (⟨"com/example/page_copy_finder/pagecopyfinder/copies/PairLabel", "of", "(Lcom/example/page_copy_finder/pagecopyfinder/copies/PairKind;ZLcom/example/page_copy_finder/pagecopyfinder/copies/PairLinks;)Lcom/example/page_copy_finder/pagecopyfinder/copies/PairLabel;"⟩ : MethodName)) hown (mvT hZ (hw _ (List.mem_of_getElem? (i := 41) rfl))) (mvT hZ (hw _ (List.mem_of_getElem? (i := 42) rfl))) (mvT hZ (hw _ (List.mem_of_getElem? (i := 25) rfl))) (mvT hZ (hw _ (List.mem_of_getElem? (i := 43) rfl))) (by decide) (backOfS (W := 0) (rm_of11 l Z a0 hw [] aIDENTICAL aCONTAINMENT aPARTIAL aA_TO_B aB_TO_A aBOTH aNONE aMIRROR aTEMPLATE_OR_PLAGIARISM aARCHIVE_PAGE aLINK_LIST_PART aSAME_SITE_RELATED aCITATION_OR_SPAM aSHARED_TEXT_OR_PLAGIARISM aSW kSW F0 aA_TO_B h126 n0 O126) hZ (hw _ (List.mem_of_getElem? (i := 43) rfl)) (hw _ (List.mem_of_getElem? (i := 25) rfl)) (by decide) (by decide)) (g := (mkF m 180 #[.val (.int p1), .val (.int p2), .val (.int p3), .val (.ref a76), .val (.ref a87), .val (.ref a102), .val (.int (1 : Int32)), .val (.int (1 : Int32)), .val (.int (0 : Int32)), .val (.int (2 : Int32))] [(.ref aA_TO_B), (.int (1 : Int32)), (.ref aCONTAINMENT)])) rfl (by rw [hml]; rfl) (argsL := [(.ref aCONTAINMENT), (.int (1 : Int32)), (.ref aA_TO_B)]) (rest := []) (lenOf pd_Lcom_example_page_copy_finder_pagecopyfinder_copies_PairKind__Z_Lcom_example_page_copy_finder_pagecopyfinder_copies_PairLinks___Lcom_example_page_copy_finder_pagecopyfinder_copies_PairLabel_ rfl) rfl (by show 2 * 0 + _ ≤ _; exact Nat.le_of_eq rfl) (hb hby at_180) (fun _ _ => ⟨rfl, e126, (by decide : 3 + 4 ≤ _), (by decide : 14 + 44 ≤ _)⟩)
        dsimp only [Pt.U, Pt.locs, Pt.cells, Pt.slots] at X235 l235 y235 z235 st235 hQ235 hS235 hg235
        subst l235 y235 z235
        obtain ⟨rfl, Nq235, K235⟩ := hQ235
        have N235 := Fr.app N126 Nq235
        have hZ : Z.Warmed39 (s.setVm T235.vm).vm := State.Warmed39.trans hZ hS235.1
        have hown : (s.setVm T235.vm).vm.findClass "com/example/page_copy_finder/pagecopyfinder/copies/PairLabelOfPinLaw" = some m.cls := (hS235.1.alike.findClass _ _).trans hown
        have O235 := O126.keep K235 all0
        have e235 : T235.heap = T235.heap := rfl
        have z236 : h0.size ≤ T235.heap.size := Nat.le_trans z127 K235.1
        refine own_go (fun _ k => st235.trans k) ?_
        show OwnGo p e below _ (T235.setTop (mkF m 183 #[.val (.int p1), .val (.int p2), .val (.int p3), .val (.ref a76), .val (.ref a87), .val (.ref a102), .val (.int (1 : Int32)), .val (.int (1 : Int32)), .val (.int (0 : Int32)), .val (.int (2 : Int32))] [(.ref aARCHIVE_PAGE)]))
        refine own_go (fun _ k => XS.aload X235.here hx rfl (hb hby at_183) rfl rfl k) ?_
        show OwnGo p e below _ (T235.setTop (mkF m 185 #[.val (.int p1), .val (.int p2), .val (.int p3), .val (.ref a76), .val (.ref a87), .val (.ref a102), .val (.int (1 : Int32)), .val (.int (1 : Int32)), .val (.int (0 : Int32)), .val (.int (2 : Int32))] [(.ref a102), (.ref aARCHIVE_PAGE)]))
        refine own_go (fun _ k => XS.iload X235.here hx rfl (hb hby at_185) rfl k) ?_
        show OwnGo p e below _ (T235.setTop (mkF m 187 #[.val (.int p1), .val (.int p2), .val (.int p3), .val (.ref a76), .val (.ref a87), .val (.ref a102), .val (.int (1 : Int32)), .val (.int (1 : Int32)), .val (.int (0 : Int32)), .val (.int (2 : Int32))] [(.int (2 : Int32)), (.ref a102), (.ref aARCHIVE_PAGE)]))
        have F237 := (V126.keep K235 nin0)
        obtain ⟨c238, Ar238, q238, S238, M238, H238, G238⟩ := (id F237)
        refine own_go (fun _ k => X235.aaload hx (j := (2 : Int32)) (v := (.ref aARCHIVE_PAGE)) (by rw [e235]; exact Ar238.1) (State.isArrayOf_alike hZ.alike Ar238.2.1) rfl Ar238.2.2 (inb_of S238 ⟨by decide, by decide⟩) (Has.at H238 (inb_of S238 ⟨by decide, by decide⟩) rfl) (g := (mkF m 187 #[.val (.int p1), .val (.int p2), .val (.int p3), .val (.ref a76), .val (.ref a87), .val (.ref a102), .val (.int (1 : Int32)), .val (.int (1 : Int32)), .val (.int (0 : Int32)), .val (.int (2 : Int32))] [(.int (2 : Int32)), (.ref a102), (.ref aARCHIVE_PAGE)])) rfl rfl (hb hby at_187) _ k) ?_
        show OwnGo p e below _ (T235.setTop (mkF m 188 #[.val (.int p1), .val (.int p2), .val (.int p3), .val (.ref a76), .val (.ref a87), .val (.ref a102), .val (.int (1 : Int32)), .val (.int (1 : Int32)), .val (.int (0 : Int32)), .val (.int (2 : Int32))] [(.ref aARCHIVE_PAGE), (.ref aARCHIVE_PAGE)]))
        refine own_go (fun _ k => acmp X235 hx rfl (cd := .ne) (o := 7) (x := (.ref aARCHIVE_PAGE)) (y := (.ref aARCHIVE_PAGE)) (pc0 := 188) (pc' := 191) rfl rfl rfl (hb hby at_188) rfl (own_refeq _) (by decide) (by decide) k) ?_
        show OwnGo p e below _ (T235.setTop (mkF m 191 #[.val (.int p1), .val (.int p2), .val (.int p3), .val (.ref a76), .val (.ref a87), .val (.ref a102), .val (.int (1 : Int32)), .val (.int (1 : Int32)), .val (.int (0 : Int32)), .val (.int (2 : Int32))] []))
        refine own_go (fun _ k => XS.iconst X235.here hx rfl (hb hby at_191) k) ?_
        show OwnGo p e below _ (T235.setTop (mkF m 192 #[.val (.int p1), .val (.int p2), .val (.int p3), .val (.ref a76), .val (.ref a87), .val (.ref a102), .val (.int (1 : Int32)), .val (.int (1 : Int32)), .val (.int (0 : Int32)), .val (.int (2 : Int32))] [(.int (1 : Int32))]))
        refine own_go (fun _ k => XS.goto X235.here hx rfl (pc0 := 192) (pc' := 196) rfl (hb hby at_192) (by decide) (by decide) k) ?_
        show OwnGo p e below _ (T235.setTop (mkF m 196 #[.val (.int p1), .val (.int p2), .val (.int p3), .val (.ref a76), .val (.ref a87), .val (.ref a102), .val (.int (1 : Int32)), .val (.int (1 : Int32)), .val (.int (0 : Int32)), .val (.int (2 : Int32))] [(.int (1 : Int32))]))
        obtain ⟨fs, hr, hrun, hended, hEnd⟩ := Jvm.Stand.leaveW (s := s) (vm₁ := T235.vm) X235 hS235 (by rw [e235]; exact (Nat.le_refl _)) (v := some (.int (1 : Int32))) (fun h => by rw [Bd.returns] at h; cases h)
        refine ⟨_, _, retOut X235 hx Bd.returns rfl (Or.inl ⟨rfl, Or.inr (Or.inl rfl), _, rfl⟩) (hb hby at_196) hr, hrun, hended, _, _, rfl, ?_, own_monoW hEnd (by decide) (by decide)⟩
        show Q_law Z aIDENTICAL aCONTAINMENT aPARTIAL aA_TO_B aB_TO_A aBOTH aNONE aMIRROR aTEMPLATE_OR_PLAGIARISM aARCHIVE_PAGE aLINK_LIST_PART aSAME_SITE_RELATED aCITATION_OR_SPAM aSHARED_TEXT_OR_PLAGIARISM aSW kSW p1 p2 p3 h0 n0 _ T235.heap _
        rw [e235]
        exact ⟨rfl, N235⟩
      · rw [hv230]
        show OwnGo p e below _ (T126.setTop (mkF m 127 #[.val (.int p1), .val (.int p2), .val (.int p3), .val (.ref a76), .val (.ref a87), .val (.ref a102), .val (.int (1 : Int32)), .val (.int (1 : Int32)), .unset, .unset] [(.int (1 : Int32))]))
        refine own_go (fun _ k => XS.istore X126.here hx rfl (hb hby at_127) rfl (l' := #[.val (.int p1), .val (.int p2), .val (.int p3), .val (.ref a76), .val (.ref a87), .val (.ref a102), .val (.int (1 : Int32)), .val (.int (1 : Int32)), .val (.int (1 : Int32)), .unset]) rfl k) ?_
        show OwnGo p e below _ (T126.setTop (mkF m 129 #[.val (.int p1), .val (.int p2), .val (.int p3), .val (.ref a76), .val (.ref a87), .val (.ref a102), .val (.int (1 : Int32)), .val (.int (1 : Int32)), .val (.int (1 : Int32)), .unset] []))
        refine own_go (fun _ k => XS.iconst X126.here hx rfl (hb hby at_129) k) ?_
        show OwnGo p e below _ (T126.setTop (mkF m 130 #[.val (.int p1), .val (.int p2), .val (.int p3), .val (.ref a76), .val (.ref a87), .val (.ref a102), .val (.int (1 : Int32)), .val (.int (1 : Int32)), .val (.int (1 : Int32)), .unset] [(.int (2 : Int32))]))
        refine own_go (fun _ k => XS.iload X126.here hx rfl (hb hby at_130) rfl k) ?_
        show OwnGo p e below _ (T126.setTop (mkF m 132 #[.val (.int p1), .val (.int p2), .val (.int p3), .val (.ref a76), .val (.ref a87), .val (.ref a102), .val (.int (1 : Int32)), .val (.int (1 : Int32)), .val (.int (1 : Int32)), .unset] [(.int (1 : Int32)), (.int (2 : Int32))]))
        refine own_go (fun _ k => XS.imul X126.here hx rfl (hb hby at_132) rfl k) ?_
        show OwnGo p e below _ (T126.setTop (mkF m 133 #[.val (.int p1), .val (.int p2), .val (.int p3), .val (.ref a76), .val (.ref a87), .val (.ref a102), .val (.int (1 : Int32)), .val (.int (1 : Int32)), .val (.int (1 : Int32)), .unset] [(.int ((2 : Int32) * (1 : Int32)))]))
        rw [show ((2 : Int32) * (1 : Int32)) = (2 : Int32) from by decide]
        show OwnGo p e below _ (T126.setTop (mkF m 133 #[.val (.int p1), .val (.int p2), .val (.int p3), .val (.ref a76), .val (.ref a87), .val (.ref a102), .val (.int (1 : Int32)), .val (.int (1 : Int32)), .val (.int (1 : Int32)), .unset] [(.int (2 : Int32))]))
        refine own_go (fun _ k => XS.iload X126.here hx rfl (hb hby at_133) rfl k) ?_
        show OwnGo p e below _ (T126.setTop (mkF m 135 #[.val (.int p1), .val (.int p2), .val (.int p3), .val (.ref a76), .val (.ref a87), .val (.ref a102), .val (.int (1 : Int32)), .val (.int (1 : Int32)), .val (.int (1 : Int32)), .unset] [(.int (1 : Int32)), (.int (2 : Int32))]))
        refine own_go (fun _ k => XS.ifNo X126.here hx rfl (hb hby at_135) rfl (by decide) k) ?_
        show OwnGo p e below _ (T126.setTop (mkF m 138 #[.val (.int p1), .val (.int p2), .val (.int p3), .val (.ref a76), .val (.ref a87), .val (.ref a102), .val (.int (1 : Int32)), .val (.int (1 : Int32)), .val (.int (1 : Int32)), .unset] [(.int (2 : Int32))]))
        refine own_go (fun _ k => XS.iconst X126.here hx rfl (hb hby at_138) k) ?_
        show OwnGo p e below _ (T126.setTop (mkF m 139 #[.val (.int p1), .val (.int p2), .val (.int p3), .val (.ref a76), .val (.ref a87), .val (.ref a102), .val (.int (1 : Int32)), .val (.int (1 : Int32)), .val (.int (1 : Int32)), .unset] [(.int (0 : Int32)), (.int (2 : Int32))]))
        refine own_go (fun _ k => XS.goto X126.here hx rfl (pc0 := 139) (pc' := 143) rfl (hb hby at_139) (by decide) (by decide) k) ?_
        show OwnGo p e below _ (T126.setTop (mkF m 143 #[.val (.int p1), .val (.int p2), .val (.int p3), .val (.ref a76), .val (.ref a87), .val (.ref a102), .val (.int (1 : Int32)), .val (.int (1 : Int32)), .val (.int (1 : Int32)), .unset] [(.int (0 : Int32)), (.int (2 : Int32))]))
        refine own_go (fun _ k => XS.iadd X126.here hx rfl (hb hby at_143) rfl k) ?_
        show OwnGo p e below _ (T126.setTop (mkF m 144 #[.val (.int p1), .val (.int p2), .val (.int p3), .val (.ref a76), .val (.ref a87), .val (.ref a102), .val (.int (1 : Int32)), .val (.int (1 : Int32)), .val (.int (1 : Int32)), .unset] [(.int ((2 : Int32) + (0 : Int32)))]))
        rw [show ((2 : Int32) + (0 : Int32)) = (2 : Int32) from by decide]
        show OwnGo p e below _ (T126.setTop (mkF m 144 #[.val (.int p1), .val (.int p2), .val (.int p3), .val (.ref a76), .val (.ref a87), .val (.ref a102), .val (.int (1 : Int32)), .val (.int (1 : Int32)), .val (.int (1 : Int32)), .unset] [(.int (2 : Int32))]))
        refine own_go (fun _ k => XS.iload X126.here hx rfl (hb hby at_144) rfl k) ?_
        show OwnGo p e below _ (T126.setTop (mkF m 146 #[.val (.int p1), .val (.int p2), .val (.int p3), .val (.ref a76), .val (.ref a87), .val (.ref a102), .val (.int (1 : Int32)), .val (.int (1 : Int32)), .val (.int (1 : Int32)), .unset] [(.int (1 : Int32)), (.int (2 : Int32))]))
        refine own_go (fun _ k => XS.iconst X126.here hx rfl (hb hby at_146) k) ?_
        show OwnGo p e below _ (T126.setTop (mkF m 147 #[.val (.int p1), .val (.int p2), .val (.int p3), .val (.ref a76), .val (.ref a87), .val (.ref a102), .val (.int (1 : Int32)), .val (.int (1 : Int32)), .val (.int (1 : Int32)), .unset] [(.int (2 : Int32)), (.int (1 : Int32)), (.int (2 : Int32))]))
        refine own_go (fun _ k => XS.icmpYes X126.here hx rfl (pc0 := 147) (pc' := 165) rfl (hb hby at_147) rfl (by decide) (by decide) (by decide) k) ?_
        show OwnGo p e below _ (T126.setTop (mkF m 165 #[.val (.int p1), .val (.int p2), .val (.int p3), .val (.ref a76), .val (.ref a87), .val (.ref a102), .val (.int (1 : Int32)), .val (.int (1 : Int32)), .val (.int (1 : Int32)), .unset] [(.int (2 : Int32))]))
        refine own_go (fun _ k => XS.iconst X126.here hx rfl (hb hby at_165) k) ?_
        show OwnGo p e below _ (T126.setTop (mkF m 166 #[.val (.int p1), .val (.int p2), .val (.int p3), .val (.ref a76), .val (.ref a87), .val (.ref a102), .val (.int (1 : Int32)), .val (.int (1 : Int32)), .val (.int (1 : Int32)), .unset] [(.int (0 : Int32)), (.int (2 : Int32))]))
        refine own_go (fun _ k => XS.iadd X126.here hx rfl (hb hby at_166) rfl k) ?_
        show OwnGo p e below _ (T126.setTop (mkF m 167 #[.val (.int p1), .val (.int p2), .val (.int p3), .val (.ref a76), .val (.ref a87), .val (.ref a102), .val (.int (1 : Int32)), .val (.int (1 : Int32)), .val (.int (1 : Int32)), .unset] [(.int ((2 : Int32) + (0 : Int32)))]))
        rw [show ((2 : Int32) + (0 : Int32)) = (2 : Int32) from by decide]
        show OwnGo p e below _ (T126.setTop (mkF m 167 #[.val (.int p1), .val (.int p2), .val (.int p3), .val (.ref a76), .val (.ref a87), .val (.ref a102), .val (.int (1 : Int32)), .val (.int (1 : Int32)), .val (.int (1 : Int32)), .unset] [(.int (2 : Int32))]))
        refine own_go (fun _ k => XS.istore X126.here hx rfl (hb hby at_167) rfl (l' := #[.val (.int p1), .val (.int p2), .val (.int p3), .val (.ref a76), .val (.ref a87), .val (.ref a102), .val (.int (1 : Int32)), .val (.int (1 : Int32)), .val (.int (1 : Int32)), .val (.int (2 : Int32))]) rfl k) ?_
        show OwnGo p e below _ (T126.setTop (mkF m 169 #[.val (.int p1), .val (.int p2), .val (.int p3), .val (.ref a76), .val (.ref a87), .val (.ref a102), .val (.int (1 : Int32)), .val (.int (1 : Int32)), .val (.int (1 : Int32)), .val (.int (2 : Int32))] []))
        refine own_go (fun _ k => XS.aloadN X126.here hx rfl (hb hby at_169) rfl rfl k) ?_
        show OwnGo p e below _ (T126.setTop (mkF m 170 #[.val (.int p1), .val (.int p2), .val (.int p3), .val (.ref a76), .val (.ref a87), .val (.ref a102), .val (.int (1 : Int32)), .val (.int (1 : Int32)), .val (.int (1 : Int32)), .val (.int (2 : Int32))] [(.ref a76)]))
        refine own_go (fun _ k => XS.iload X126.here hx rfl (hb hby at_170) rfl k) ?_
        show OwnGo p e below _ (T126.setTop (mkF m 172 #[.val (.int p1), .val (.int p2), .val (.int p3), .val (.ref a76), .val (.ref a87), .val (.ref a102), .val (.int (1 : Int32)), .val (.int (1 : Int32)), .val (.int (1 : Int32)), .val (.int (2 : Int32))] [(.int (1 : Int32)), (.ref a76)]))
        have F239 := ((((((((F103.ext E102).other W108 ne104).other W111 ne104).other W114 ne104).other W117 ne104).other W120 ne104).other W123 ne104).other W126 ne104)
        obtain ⟨c240, Ar240, q240, S240, M240, H240, G240⟩ := (id F239)
        refine own_go (fun _ k => X126.aaload hx (j := (1 : Int32)) (v := (.ref aCONTAINMENT)) (by rw [e126]; exact Ar240.1) (State.isArrayOf_alike hZ.alike Ar240.2.1) rfl Ar240.2.2 (inb_of S240 ⟨by decide, by decide⟩) (Has.at H240 (inb_of S240 ⟨by decide, by decide⟩) rfl) (g := (mkF m 172 #[.val (.int p1), .val (.int p2), .val (.int p3), .val (.ref a76), .val (.ref a87), .val (.ref a102), .val (.int (1 : Int32)), .val (.int (1 : Int32)), .val (.int (1 : Int32)), .val (.int (2 : Int32))] [(.int (1 : Int32)), (.ref a76)])) rfl rfl (hb hby at_172) _ k) ?_
        show OwnGo p e below _ (T126.setTop (mkF m 173 #[.val (.int p1), .val (.int p2), .val (.int p3), .val (.ref a76), .val (.ref a87), .val (.ref a102), .val (.int (1 : Int32)), .val (.int (1 : Int32)), .val (.int (1 : Int32)), .val (.int (2 : Int32))] [(.ref aCONTAINMENT)]))
        refine own_go (fun _ k => XS.iload X126.here hx rfl (hb hby at_173) rfl k) ?_
        show OwnGo p e below _ (T126.setTop (mkF m 175 #[.val (.int p1), .val (.int p2), .val (.int p3), .val (.ref a76), .val (.ref a87), .val (.ref a102), .val (.int (1 : Int32)), .val (.int (1 : Int32)), .val (.int (1 : Int32)), .val (.int (2 : Int32))] [(.int (1 : Int32)), (.ref aCONTAINMENT)]))
        refine own_go (fun _ k => XS.aload X126.here hx rfl (hb hby at_175) rfl rfl k) ?_
        show OwnGo p e below _ (T126.setTop (mkF m 177 #[.val (.int p1), .val (.int p2), .val (.int p3), .val (.ref a76), .val (.ref a87), .val (.ref a102), .val (.int (1 : Int32)), .val (.int (1 : Int32)), .val (.int (1 : Int32)), .val (.int (2 : Int32))] [(.ref a87), (.int (1 : Int32)), (.ref aCONTAINMENT)]))
        refine own_go (fun _ k => XS.iload X126.here hx rfl (hb hby at_177) rfl k) ?_
        show OwnGo p e below _ (T126.setTop (mkF m 179 #[.val (.int p1), .val (.int p2), .val (.int p3), .val (.ref a76), .val (.ref a87), .val (.ref a102), .val (.int (1 : Int32)), .val (.int (1 : Int32)), .val (.int (1 : Int32)), .val (.int (2 : Int32))] [(.int (1 : Int32)), (.ref a87), (.int (1 : Int32)), (.ref aCONTAINMENT)]))
        have F241 := ((((((((V100.ext E102).other W108 ne105).other W111 ne105).other W114 ne105).other W117 ne105).other W120 ne105).other W123 ne105).other W126 ne105)
        obtain ⟨c242, Ar242, q242, S242, M242, H242, G242⟩ := (id F241)
        refine own_go (fun _ k => X126.aaload hx (j := (1 : Int32)) (v := (.ref aB_TO_A)) (by rw [e126]; exact Ar242.1) (State.isArrayOf_alike hZ.alike Ar242.2.1) rfl Ar242.2.2 (inb_of S242 ⟨by decide, by decide⟩) (Has.at H242 (inb_of S242 ⟨by decide, by decide⟩) rfl) (g := (mkF m 179 #[.val (.int p1), .val (.int p2), .val (.int p3), .val (.ref a76), .val (.ref a87), .val (.ref a102), .val (.int (1 : Int32)), .val (.int (1 : Int32)), .val (.int (1 : Int32)), .val (.int (2 : Int32))] [(.int (1 : Int32)), (.ref a87), (.int (1 : Int32)), (.ref aCONTAINMENT)])) rfl rfl (hb hby at_179) _ k) ?_
        show OwnGo p e below _ (T126.setTop (mkF m 180 #[.val (.int p1), .val (.int p2), .val (.int p3), .val (.ref a76), .val (.ref a87), .val (.ref a102), .val (.int (1 : Int32)), .val (.int (1 : Int32)), .val (.int (1 : Int32)), .val (.int (2 : Int32))] [(.ref aB_TO_A), (.int (1 : Int32)), (.ref aCONTAINMENT)]))
        obtain ⟨_, _, ⟨T243, L243, k243, n243⟩, -, X243, hS243, hg243, ⟨Lc243, hQ243, l243, y243, z243⟩, st243⟩ := callSS X126 hx (y := (⟨"com/example/page_copy_finder/pagecopyfinder/copies/PairLabel", "of", "(Lcom/example/page_copy_finder/pagecopyfinder/copies/PairKind;ZLcom/example/page_copy_finder/pagecopyfinder/copies/PairLinks;)Lcom/example/page_copy_finder/pagecopyfinder/copies/PairLabel;"⟩ : MethodName)) hown (mvT hZ (hw _ (List.mem_of_getElem? (i := 41) rfl))) (mvT hZ (hw _ (List.mem_of_getElem? (i := 42) rfl))) (mvT hZ (hw _ (List.mem_of_getElem? (i := 25) rfl))) (mvT hZ (hw _ (List.mem_of_getElem? (i := 43) rfl))) (by decide) (backOfS (W := 0) (rm_of11 l Z a0 hw [] aIDENTICAL aCONTAINMENT aPARTIAL aA_TO_B aB_TO_A aBOTH aNONE aMIRROR aTEMPLATE_OR_PLAGIARISM aARCHIVE_PAGE aLINK_LIST_PART aSAME_SITE_RELATED aCITATION_OR_SPAM aSHARED_TEXT_OR_PLAGIARISM aSW kSW F0 aB_TO_A h126 n0 O126) hZ (hw _ (List.mem_of_getElem? (i := 43) rfl)) (hw _ (List.mem_of_getElem? (i := 25) rfl)) (by decide) (by decide)) (g := (mkF m 180 #[.val (.int p1), .val (.int p2), .val (.int p3), .val (.ref a76), .val (.ref a87), .val (.ref a102), .val (.int (1 : Int32)), .val (.int (1 : Int32)), .val (.int (1 : Int32)), .val (.int (2 : Int32))] [(.ref aB_TO_A), (.int (1 : Int32)), (.ref aCONTAINMENT)])) rfl (by rw [hml]; rfl) (argsL := [(.ref aCONTAINMENT), (.int (1 : Int32)), (.ref aB_TO_A)]) (rest := []) (lenOf pd_Lcom_example_page_copy_finder_pagecopyfinder_copies_PairKind__Z_Lcom_example_page_copy_finder_pagecopyfinder_copies_PairLinks___Lcom_example_page_copy_finder_pagecopyfinder_copies_PairLabel_ rfl) rfl (by show 2 * 0 + _ ≤ _; exact Nat.le_of_eq rfl) (hb hby at_180) (fun _ _ => ⟨rfl, e126, (by decide : 3 + 4 ≤ _), (by decide : 14 + 44 ≤ _)⟩)
        dsimp only [Pt.U, Pt.locs, Pt.cells, Pt.slots] at X243 l243 y243 z243 st243 hQ243 hS243 hg243
        subst l243 y243 z243
        obtain ⟨rfl, Nq243, K243⟩ := hQ243
        have N243 := Fr.app N126 Nq243
        have hZ : Z.Warmed39 (s.setVm T243.vm).vm := State.Warmed39.trans hZ hS243.1
        have hown : (s.setVm T243.vm).vm.findClass "com/example/page_copy_finder/pagecopyfinder/copies/PairLabelOfPinLaw" = some m.cls := (hS243.1.alike.findClass _ _).trans hown
        have O243 := O126.keep K243 all0
        have e243 : T243.heap = T243.heap := rfl
        have z244 : h0.size ≤ T243.heap.size := Nat.le_trans z127 K243.1
        refine own_go (fun _ k => st243.trans k) ?_
        show OwnGo p e below _ (T243.setTop (mkF m 183 #[.val (.int p1), .val (.int p2), .val (.int p3), .val (.ref a76), .val (.ref a87), .val (.ref a102), .val (.int (1 : Int32)), .val (.int (1 : Int32)), .val (.int (1 : Int32)), .val (.int (2 : Int32))] [(.ref aARCHIVE_PAGE)]))
        refine own_go (fun _ k => XS.aload X243.here hx rfl (hb hby at_183) rfl rfl k) ?_
        show OwnGo p e below _ (T243.setTop (mkF m 185 #[.val (.int p1), .val (.int p2), .val (.int p3), .val (.ref a76), .val (.ref a87), .val (.ref a102), .val (.int (1 : Int32)), .val (.int (1 : Int32)), .val (.int (1 : Int32)), .val (.int (2 : Int32))] [(.ref a102), (.ref aARCHIVE_PAGE)]))
        refine own_go (fun _ k => XS.iload X243.here hx rfl (hb hby at_185) rfl k) ?_
        show OwnGo p e below _ (T243.setTop (mkF m 187 #[.val (.int p1), .val (.int p2), .val (.int p3), .val (.ref a76), .val (.ref a87), .val (.ref a102), .val (.int (1 : Int32)), .val (.int (1 : Int32)), .val (.int (1 : Int32)), .val (.int (2 : Int32))] [(.int (2 : Int32)), (.ref a102), (.ref aARCHIVE_PAGE)]))
        have F245 := (V126.keep K243 nin0)
        obtain ⟨c246, Ar246, q246, S246, M246, H246, G246⟩ := (id F245)
        refine own_go (fun _ k => X243.aaload hx (j := (2 : Int32)) (v := (.ref aARCHIVE_PAGE)) (by rw [e243]; exact Ar246.1) (State.isArrayOf_alike hZ.alike Ar246.2.1) rfl Ar246.2.2 (inb_of S246 ⟨by decide, by decide⟩) (Has.at H246 (inb_of S246 ⟨by decide, by decide⟩) rfl) (g := (mkF m 187 #[.val (.int p1), .val (.int p2), .val (.int p3), .val (.ref a76), .val (.ref a87), .val (.ref a102), .val (.int (1 : Int32)), .val (.int (1 : Int32)), .val (.int (1 : Int32)), .val (.int (2 : Int32))] [(.int (2 : Int32)), (.ref a102), (.ref aARCHIVE_PAGE)])) rfl rfl (hb hby at_187) _ k) ?_
        show OwnGo p e below _ (T243.setTop (mkF m 188 #[.val (.int p1), .val (.int p2), .val (.int p3), .val (.ref a76), .val (.ref a87), .val (.ref a102), .val (.int (1 : Int32)), .val (.int (1 : Int32)), .val (.int (1 : Int32)), .val (.int (2 : Int32))] [(.ref aARCHIVE_PAGE), (.ref aARCHIVE_PAGE)]))
        refine own_go (fun _ k => acmp X243 hx rfl (cd := .ne) (o := 7) (x := (.ref aARCHIVE_PAGE)) (y := (.ref aARCHIVE_PAGE)) (pc0 := 188) (pc' := 191) rfl rfl rfl (hb hby at_188) rfl (own_refeq _) (by decide) (by decide) k) ?_
        show OwnGo p e below _ (T243.setTop (mkF m 191 #[.val (.int p1), .val (.int p2), .val (.int p3), .val (.ref a76), .val (.ref a87), .val (.ref a102), .val (.int (1 : Int32)), .val (.int (1 : Int32)), .val (.int (1 : Int32)), .val (.int (2 : Int32))] []))
        refine own_go (fun _ k => XS.iconst X243.here hx rfl (hb hby at_191) k) ?_
        show OwnGo p e below _ (T243.setTop (mkF m 192 #[.val (.int p1), .val (.int p2), .val (.int p3), .val (.ref a76), .val (.ref a87), .val (.ref a102), .val (.int (1 : Int32)), .val (.int (1 : Int32)), .val (.int (1 : Int32)), .val (.int (2 : Int32))] [(.int (1 : Int32))]))
        refine own_go (fun _ k => XS.goto X243.here hx rfl (pc0 := 192) (pc' := 196) rfl (hb hby at_192) (by decide) (by decide) k) ?_
        show OwnGo p e below _ (T243.setTop (mkF m 196 #[.val (.int p1), .val (.int p2), .val (.int p3), .val (.ref a76), .val (.ref a87), .val (.ref a102), .val (.int (1 : Int32)), .val (.int (1 : Int32)), .val (.int (1 : Int32)), .val (.int (2 : Int32))] [(.int (1 : Int32))]))
        obtain ⟨fs, hr, hrun, hended, hEnd⟩ := Jvm.Stand.leaveW (s := s) (vm₁ := T243.vm) X243 hS243 (by rw [e243]; exact (Nat.le_refl _)) (v := some (.int (1 : Int32))) (fun h => by rw [Bd.returns] at h; cases h)
        refine ⟨_, _, retOut X243 hx Bd.returns rfl (Or.inl ⟨rfl, Or.inr (Or.inl rfl), _, rfl⟩) (hb hby at_196) hr, hrun, hended, _, _, rfl, ?_, own_monoW hEnd (by decide) (by decide)⟩
        show Q_law Z aIDENTICAL aCONTAINMENT aPARTIAL aA_TO_B aB_TO_A aBOTH aNONE aMIRROR aTEMPLATE_OR_PLAGIARISM aARCHIVE_PAGE aLINK_LIST_PART aSAME_SITE_RELATED aCITATION_OR_SPAM aSHARED_TEXT_OR_PLAGIARISM aSW kSW p1 p2 p3 h0 n0 _ T243.heap _
        rw [e243]
        exact ⟨rfl, N243⟩
      · rw [hv230]
        show OwnGo p e below _ (T126.setTop (mkF m 127 #[.val (.int p1), .val (.int p2), .val (.int p3), .val (.ref a76), .val (.ref a87), .val (.ref a102), .val (.int (1 : Int32)), .val (.int (1 : Int32)), .unset, .unset] [(.int (2 : Int32))]))
        refine own_go (fun _ k => XS.istore X126.here hx rfl (hb hby at_127) rfl (l' := #[.val (.int p1), .val (.int p2), .val (.int p3), .val (.ref a76), .val (.ref a87), .val (.ref a102), .val (.int (1 : Int32)), .val (.int (1 : Int32)), .val (.int (2 : Int32)), .unset]) rfl k) ?_
        show OwnGo p e below _ (T126.setTop (mkF m 129 #[.val (.int p1), .val (.int p2), .val (.int p3), .val (.ref a76), .val (.ref a87), .val (.ref a102), .val (.int (1 : Int32)), .val (.int (1 : Int32)), .val (.int (2 : Int32)), .unset] []))
        refine own_go (fun _ k => XS.iconst X126.here hx rfl (hb hby at_129) k) ?_
        show OwnGo p e below _ (T126.setTop (mkF m 130 #[.val (.int p1), .val (.int p2), .val (.int p3), .val (.ref a76), .val (.ref a87), .val (.ref a102), .val (.int (1 : Int32)), .val (.int (1 : Int32)), .val (.int (2 : Int32)), .unset] [(.int (2 : Int32))]))
        refine own_go (fun _ k => XS.iload X126.here hx rfl (hb hby at_130) rfl k) ?_
        show OwnGo p e below _ (T126.setTop (mkF m 132 #[.val (.int p1), .val (.int p2), .val (.int p3), .val (.ref a76), .val (.ref a87), .val (.ref a102), .val (.int (1 : Int32)), .val (.int (1 : Int32)), .val (.int (2 : Int32)), .unset] [(.int (1 : Int32)), (.int (2 : Int32))]))
        refine own_go (fun _ k => XS.imul X126.here hx rfl (hb hby at_132) rfl k) ?_
        show OwnGo p e below _ (T126.setTop (mkF m 133 #[.val (.int p1), .val (.int p2), .val (.int p3), .val (.ref a76), .val (.ref a87), .val (.ref a102), .val (.int (1 : Int32)), .val (.int (1 : Int32)), .val (.int (2 : Int32)), .unset] [(.int ((2 : Int32) * (1 : Int32)))]))
        rw [show ((2 : Int32) * (1 : Int32)) = (2 : Int32) from by decide]
        show OwnGo p e below _ (T126.setTop (mkF m 133 #[.val (.int p1), .val (.int p2), .val (.int p3), .val (.ref a76), .val (.ref a87), .val (.ref a102), .val (.int (1 : Int32)), .val (.int (1 : Int32)), .val (.int (2 : Int32)), .unset] [(.int (2 : Int32))]))
        refine own_go (fun _ k => XS.iload X126.here hx rfl (hb hby at_133) rfl k) ?_
        show OwnGo p e below _ (T126.setTop (mkF m 135 #[.val (.int p1), .val (.int p2), .val (.int p3), .val (.ref a76), .val (.ref a87), .val (.ref a102), .val (.int (1 : Int32)), .val (.int (1 : Int32)), .val (.int (2 : Int32)), .unset] [(.int (1 : Int32)), (.int (2 : Int32))]))
        refine own_go (fun _ k => XS.ifNo X126.here hx rfl (hb hby at_135) rfl (by decide) k) ?_
        show OwnGo p e below _ (T126.setTop (mkF m 138 #[.val (.int p1), .val (.int p2), .val (.int p3), .val (.ref a76), .val (.ref a87), .val (.ref a102), .val (.int (1 : Int32)), .val (.int (1 : Int32)), .val (.int (2 : Int32)), .unset] [(.int (2 : Int32))]))
        refine own_go (fun _ k => XS.iconst X126.here hx rfl (hb hby at_138) k) ?_
        show OwnGo p e below _ (T126.setTop (mkF m 139 #[.val (.int p1), .val (.int p2), .val (.int p3), .val (.ref a76), .val (.ref a87), .val (.ref a102), .val (.int (1 : Int32)), .val (.int (1 : Int32)), .val (.int (2 : Int32)), .unset] [(.int (0 : Int32)), (.int (2 : Int32))]))
        refine own_go (fun _ k => XS.goto X126.here hx rfl (pc0 := 139) (pc' := 143) rfl (hb hby at_139) (by decide) (by decide) k) ?_
        show OwnGo p e below _ (T126.setTop (mkF m 143 #[.val (.int p1), .val (.int p2), .val (.int p3), .val (.ref a76), .val (.ref a87), .val (.ref a102), .val (.int (1 : Int32)), .val (.int (1 : Int32)), .val (.int (2 : Int32)), .unset] [(.int (0 : Int32)), (.int (2 : Int32))]))
        refine own_go (fun _ k => XS.iadd X126.here hx rfl (hb hby at_143) rfl k) ?_
        show OwnGo p e below _ (T126.setTop (mkF m 144 #[.val (.int p1), .val (.int p2), .val (.int p3), .val (.ref a76), .val (.ref a87), .val (.ref a102), .val (.int (1 : Int32)), .val (.int (1 : Int32)), .val (.int (2 : Int32)), .unset] [(.int ((2 : Int32) + (0 : Int32)))]))
        rw [show ((2 : Int32) + (0 : Int32)) = (2 : Int32) from by decide]
        show OwnGo p e below _ (T126.setTop (mkF m 144 #[.val (.int p1), .val (.int p2), .val (.int p3), .val (.ref a76), .val (.ref a87), .val (.ref a102), .val (.int (1 : Int32)), .val (.int (1 : Int32)), .val (.int (2 : Int32)), .unset] [(.int (2 : Int32))]))
        refine own_go (fun _ k => XS.iload X126.here hx rfl (hb hby at_144) rfl k) ?_
        show OwnGo p e below _ (T126.setTop (mkF m 146 #[.val (.int p1), .val (.int p2), .val (.int p3), .val (.ref a76), .val (.ref a87), .val (.ref a102), .val (.int (1 : Int32)), .val (.int (1 : Int32)), .val (.int (2 : Int32)), .unset] [(.int (1 : Int32)), (.int (2 : Int32))]))
        refine own_go (fun _ k => XS.iconst X126.here hx rfl (hb hby at_146) k) ?_
        show OwnGo p e below _ (T126.setTop (mkF m 147 #[.val (.int p1), .val (.int p2), .val (.int p3), .val (.ref a76), .val (.ref a87), .val (.ref a102), .val (.int (1 : Int32)), .val (.int (1 : Int32)), .val (.int (2 : Int32)), .unset] [(.int (2 : Int32)), (.int (1 : Int32)), (.int (2 : Int32))]))
        refine own_go (fun _ k => XS.icmpYes X126.here hx rfl (pc0 := 147) (pc' := 165) rfl (hb hby at_147) rfl (by decide) (by decide) (by decide) k) ?_
        show OwnGo p e below _ (T126.setTop (mkF m 165 #[.val (.int p1), .val (.int p2), .val (.int p3), .val (.ref a76), .val (.ref a87), .val (.ref a102), .val (.int (1 : Int32)), .val (.int (1 : Int32)), .val (.int (2 : Int32)), .unset] [(.int (2 : Int32))]))
        refine own_go (fun _ k => XS.iconst X126.here hx rfl (hb hby at_165) k) ?_
        show OwnGo p e below _ (T126.setTop (mkF m 166 #[.val (.int p1), .val (.int p2), .val (.int p3), .val (.ref a76), .val (.ref a87), .val (.ref a102), .val (.int (1 : Int32)), .val (.int (1 : Int32)), .val (.int (2 : Int32)), .unset] [(.int (0 : Int32)), (.int (2 : Int32))]))
        refine own_go (fun _ k => XS.iadd X126.here hx rfl (hb hby at_166) rfl k) ?_
        show OwnGo p e below _ (T126.setTop (mkF m 167 #[.val (.int p1), .val (.int p2), .val (.int p3), .val (.ref a76), .val (.ref a87), .val (.ref a102), .val (.int (1 : Int32)), .val (.int (1 : Int32)), .val (.int (2 : Int32)), .unset] [(.int ((2 : Int32) + (0 : Int32)))]))
        rw [show ((2 : Int32) + (0 : Int32)) = (2 : Int32) from by decide]
        show OwnGo p e below _ (T126.setTop (mkF m 167 #[.val (.int p1), .val (.int p2), .val (.int p3), .val (.ref a76), .val (.ref a87), .val (.ref a102), .val (.int (1 : Int32)), .val (.int (1 : Int32)), .val (.int (2 : Int32)), .unset] [(.int (2 : Int32))]))
        refine own_go (fun _ k => XS.istore X126.here hx rfl (hb hby at_167) rfl (l' := #[.val (.int p1), .val (.int p2), .val (.int p3), .val (.ref a76), .val (.ref a87), .val (.ref a102), .val (.int (1 : Int32)), .val (.int (1 : Int32)), .val (.int (2 : Int32)), .val (.int (2 : Int32))]) rfl k) ?_
        show OwnGo p e below _ (T126.setTop (mkF m 169 #[.val (.int p1), .val (.int p2), .val (.int p3), .val (.ref a76), .val (.ref a87), .val (.ref a102), .val (.int (1 : Int32)), .val (.int (1 : Int32)), .val (.int (2 : Int32)), .val (.int (2 : Int32))] []))
        refine own_go (fun _ k => XS.aloadN X126.here hx rfl (hb hby at_169) rfl rfl k) ?_
        show OwnGo p e below _ (T126.setTop (mkF m 170 #[.val (.int p1), .val (.int p2), .val (.int p3), .val (.ref a76), .val (.ref a87), .val (.ref a102), .val (.int (1 : Int32)), .val (.int (1 : Int32)), .val (.int (2 : Int32)), .val (.int (2 : Int32))] [(.ref a76)]))
        refine own_go (fun _ k => XS.iload X126.here hx rfl (hb hby at_170) rfl k) ?_
        show OwnGo p e below _ (T126.setTop (mkF m 172 #[.val (.int p1), .val (.int p2), .val (.int p3), .val (.ref a76), .val (.ref a87), .val (.ref a102), .val (.int (1 : Int32)), .val (.int (1 : Int32)), .val (.int (2 : Int32)), .val (.int (2 : Int32))] [(.int (1 : Int32)), (.ref a76)]))
        have F247 := ((((((((F103.ext E102).other W108 ne104).other W111 ne104).other W114 ne104).other W117 ne104).other W120 ne104).other W123 ne104).other W126 ne104)
        obtain ⟨c248, Ar248, q248, S248, M248, H248, G248⟩ := (id F247)
        refine own_go (fun _ k => X126.aaload hx (j := (1 : Int32)) (v := (.ref aCONTAINMENT)) (by rw [e126]; exact Ar248.1) (State.isArrayOf_alike hZ.alike Ar248.2.1) rfl Ar248.2.2 (inb_of S248 ⟨by decide, by decide⟩) (Has.at H248 (inb_of S248 ⟨by decide, by decide⟩) rfl) (g := (mkF m 172 #[.val (.int p1), .val (.int p2), .val (.int p3), .val (.ref a76), .val (.ref a87), .val (.ref a102), .val (.int (1 : Int32)), .val (.int (1 : Int32)), .val (.int (2 : Int32)), .val (.int (2 : Int32))] [(.int (1 : Int32)), (.ref a76)])) rfl rfl (hb hby at_172) _ k) ?_
        show OwnGo p e below _ (T126.setTop (mkF m 173 #[.val (.int p1), .val (.int p2), .val (.int p3), .val (.ref a76), .val (.ref a87), .val (.ref a102), .val (.int (1 : Int32)), .val (.int (1 : Int32)), .val (.int (2 : Int32)), .val (.int (2 : Int32))] [(.ref aCONTAINMENT)]))
        refine own_go (fun _ k => XS.iload X126.here hx rfl (hb hby at_173) rfl k) ?_
        show OwnGo p e below _ (T126.setTop (mkF m 175 #[.val (.int p1), .val (.int p2), .val (.int p3), .val (.ref a76), .val (.ref a87), .val (.ref a102), .val (.int (1 : Int32)), .val (.int (1 : Int32)), .val (.int (2 : Int32)), .val (.int (2 : Int32))] [(.int (1 : Int32)), (.ref aCONTAINMENT)]))
        refine own_go (fun _ k => XS.aload X126.here hx rfl (hb hby at_175) rfl rfl k) ?_
        show OwnGo p e below _ (T126.setTop (mkF m 177 #[.val (.int p1), .val (.int p2), .val (.int p3), .val (.ref a76), .val (.ref a87), .val (.ref a102), .val (.int (1 : Int32)), .val (.int (1 : Int32)), .val (.int (2 : Int32)), .val (.int (2 : Int32))] [(.ref a87), (.int (1 : Int32)), (.ref aCONTAINMENT)]))
        refine own_go (fun _ k => XS.iload X126.here hx rfl (hb hby at_177) rfl k) ?_
        show OwnGo p e below _ (T126.setTop (mkF m 179 #[.val (.int p1), .val (.int p2), .val (.int p3), .val (.ref a76), .val (.ref a87), .val (.ref a102), .val (.int (1 : Int32)), .val (.int (1 : Int32)), .val (.int (2 : Int32)), .val (.int (2 : Int32))] [(.int (2 : Int32)), (.ref a87), (.int (1 : Int32)), (.ref aCONTAINMENT)]))
        have F249 := ((((((((V100.ext E102).other W108 ne105).other W111 ne105).other W114 ne105).other W117 ne105).other W120 ne105).other W123 ne105).other W126 ne105)
        obtain ⟨c250, Ar250, q250, S250, M250, H250, G250⟩ := (id F249)
        refine own_go (fun _ k => X126.aaload hx (j := (2 : Int32)) (v := (.ref aBOTH)) (by rw [e126]; exact Ar250.1) (State.isArrayOf_alike hZ.alike Ar250.2.1) rfl Ar250.2.2 (inb_of S250 ⟨by decide, by decide⟩) (Has.at H250 (inb_of S250 ⟨by decide, by decide⟩) rfl) (g := (mkF m 179 #[.val (.int p1), .val (.int p2), .val (.int p3), .val (.ref a76), .val (.ref a87), .val (.ref a102), .val (.int (1 : Int32)), .val (.int (1 : Int32)), .val (.int (2 : Int32)), .val (.int (2 : Int32))] [(.int (2 : Int32)), (.ref a87), (.int (1 : Int32)), (.ref aCONTAINMENT)])) rfl rfl (hb hby at_179) _ k) ?_
        show OwnGo p e below _ (T126.setTop (mkF m 180 #[.val (.int p1), .val (.int p2), .val (.int p3), .val (.ref a76), .val (.ref a87), .val (.ref a102), .val (.int (1 : Int32)), .val (.int (1 : Int32)), .val (.int (2 : Int32)), .val (.int (2 : Int32))] [(.ref aBOTH), (.int (1 : Int32)), (.ref aCONTAINMENT)]))
        obtain ⟨_, _, ⟨T251, L251, k251, n251⟩, -, X251, hS251, hg251, ⟨Lc251, hQ251, l251, y251, z251⟩, st251⟩ := callSS X126 hx (y := (⟨"com/example/page_copy_finder/pagecopyfinder/copies/PairLabel", "of", "(Lcom/example/page_copy_finder/pagecopyfinder/copies/PairKind;ZLcom/example/page_copy_finder/pagecopyfinder/copies/PairLinks;)Lcom/example/page_copy_finder/pagecopyfinder/copies/PairLabel;"⟩ : MethodName)) hown (mvT hZ (hw _ (List.mem_of_getElem? (i := 41) rfl))) (mvT hZ (hw _ (List.mem_of_getElem? (i := 42) rfl))) (mvT hZ (hw _ (List.mem_of_getElem? (i := 25) rfl))) (mvT hZ (hw _ (List.mem_of_getElem? (i := 43) rfl))) (by decide) (backOfS (W := 0) (rm_of11 l Z a0 hw [] aIDENTICAL aCONTAINMENT aPARTIAL aA_TO_B aB_TO_A aBOTH aNONE aMIRROR aTEMPLATE_OR_PLAGIARISM aARCHIVE_PAGE aLINK_LIST_PART aSAME_SITE_RELATED aCITATION_OR_SPAM aSHARED_TEXT_OR_PLAGIARISM aSW kSW F0 aBOTH h126 n0 O126) hZ (hw _ (List.mem_of_getElem? (i := 43) rfl)) (hw _ (List.mem_of_getElem? (i := 25) rfl)) (by decide) (by decide)) (g := (mkF m 180 #[.val (.int p1), .val (.int p2), .val (.int p3), .val (.ref a76), .val (.ref a87), .val (.ref a102), .val (.int (1 : Int32)), .val (.int (1 : Int32)), .val (.int (2 : Int32)), .val (.int (2 : Int32))] [(.ref aBOTH), (.int (1 : Int32)), (.ref aCONTAINMENT)])) rfl (by rw [hml]; rfl) (argsL := [(.ref aCONTAINMENT), (.int (1 : Int32)), (.ref aBOTH)]) (rest := []) (lenOf pd_Lcom_example_page_copy_finder_pagecopyfinder_copies_PairKind__Z_Lcom_example_page_copy_finder_pagecopyfinder_copies_PairLinks___Lcom_example_page_copy_finder_pagecopyfinder_copies_PairLabel_ rfl) rfl (by show 2 * 0 + _ ≤ _; exact Nat.le_of_eq rfl) (hb hby at_180) (fun _ _ => ⟨rfl, e126, (by decide : 3 + 4 ≤ _), (by decide : 14 + 44 ≤ _)⟩)
        dsimp only [Pt.U, Pt.locs, Pt.cells, Pt.slots] at X251 l251 y251 z251 st251 hQ251 hS251 hg251
        subst l251 y251 z251
        obtain ⟨rfl, Nq251, K251⟩ := hQ251
        have N251 := Fr.app N126 Nq251
        have hZ : Z.Warmed39 (s.setVm T251.vm).vm := State.Warmed39.trans hZ hS251.1
        have hown : (s.setVm T251.vm).vm.findClass "com/example/page_copy_finder/pagecopyfinder/copies/PairLabelOfPinLaw" = some m.cls := (hS251.1.alike.findClass _ _).trans hown
        have O251 := O126.keep K251 all0
        have e251 : T251.heap = T251.heap := rfl
        have z252 : h0.size ≤ T251.heap.size := Nat.le_trans z127 K251.1
        refine own_go (fun _ k => st251.trans k) ?_
        show OwnGo p e below _ (T251.setTop (mkF m 183 #[.val (.int p1), .val (.int p2), .val (.int p3), .val (.ref a76), .val (.ref a87), .val (.ref a102), .val (.int (1 : Int32)), .val (.int (1 : Int32)), .val (.int (2 : Int32)), .val (.int (2 : Int32))] [(.ref aARCHIVE_PAGE)]))
        refine own_go (fun _ k => XS.aload X251.here hx rfl (hb hby at_183) rfl rfl k) ?_
        show OwnGo p e below _ (T251.setTop (mkF m 185 #[.val (.int p1), .val (.int p2), .val (.int p3), .val (.ref a76), .val (.ref a87), .val (.ref a102), .val (.int (1 : Int32)), .val (.int (1 : Int32)), .val (.int (2 : Int32)), .val (.int (2 : Int32))] [(.ref a102), (.ref aARCHIVE_PAGE)]))
        refine own_go (fun _ k => XS.iload X251.here hx rfl (hb hby at_185) rfl k) ?_
        show OwnGo p e below _ (T251.setTop (mkF m 187 #[.val (.int p1), .val (.int p2), .val (.int p3), .val (.ref a76), .val (.ref a87), .val (.ref a102), .val (.int (1 : Int32)), .val (.int (1 : Int32)), .val (.int (2 : Int32)), .val (.int (2 : Int32))] [(.int (2 : Int32)), (.ref a102), (.ref aARCHIVE_PAGE)]))
        have F253 := (V126.keep K251 nin0)
        obtain ⟨c254, Ar254, q254, S254, M254, H254, G254⟩ := (id F253)
        refine own_go (fun _ k => X251.aaload hx (j := (2 : Int32)) (v := (.ref aARCHIVE_PAGE)) (by rw [e251]; exact Ar254.1) (State.isArrayOf_alike hZ.alike Ar254.2.1) rfl Ar254.2.2 (inb_of S254 ⟨by decide, by decide⟩) (Has.at H254 (inb_of S254 ⟨by decide, by decide⟩) rfl) (g := (mkF m 187 #[.val (.int p1), .val (.int p2), .val (.int p3), .val (.ref a76), .val (.ref a87), .val (.ref a102), .val (.int (1 : Int32)), .val (.int (1 : Int32)), .val (.int (2 : Int32)), .val (.int (2 : Int32))] [(.int (2 : Int32)), (.ref a102), (.ref aARCHIVE_PAGE)])) rfl rfl (hb hby at_187) _ k) ?_
        show OwnGo p e below _ (T251.setTop (mkF m 188 #[.val (.int p1), .val (.int p2), .val (.int p3), .val (.ref a76), .val (.ref a87), .val (.ref a102), .val (.int (1 : Int32)), .val (.int (1 : Int32)), .val (.int (2 : Int32)), .val (.int (2 : Int32))] [(.ref aARCHIVE_PAGE), (.ref aARCHIVE_PAGE)]))
        refine own_go (fun _ k => acmp X251 hx rfl (cd := .ne) (o := 7) (x := (.ref aARCHIVE_PAGE)) (y := (.ref aARCHIVE_PAGE)) (pc0 := 188) (pc' := 191) rfl rfl rfl (hb hby at_188) rfl (own_refeq _) (by decide) (by decide) k) ?_
        show OwnGo p e below _ (T251.setTop (mkF m 191 #[.val (.int p1), .val (.int p2), .val (.int p3), .val (.ref a76), .val (.ref a87), .val (.ref a102), .val (.int (1 : Int32)), .val (.int (1 : Int32)), .val (.int (2 : Int32)), .val (.int (2 : Int32))] []))
        refine own_go (fun _ k => XS.iconst X251.here hx rfl (hb hby at_191) k) ?_
        show OwnGo p e below _ (T251.setTop (mkF m 192 #[.val (.int p1), .val (.int p2), .val (.int p3), .val (.ref a76), .val (.ref a87), .val (.ref a102), .val (.int (1 : Int32)), .val (.int (1 : Int32)), .val (.int (2 : Int32)), .val (.int (2 : Int32))] [(.int (1 : Int32))]))
        refine own_go (fun _ k => XS.goto X251.here hx rfl (pc0 := 192) (pc' := 196) rfl (hb hby at_192) (by decide) (by decide) k) ?_
        show OwnGo p e below _ (T251.setTop (mkF m 196 #[.val (.int p1), .val (.int p2), .val (.int p3), .val (.ref a76), .val (.ref a87), .val (.ref a102), .val (.int (1 : Int32)), .val (.int (1 : Int32)), .val (.int (2 : Int32)), .val (.int (2 : Int32))] [(.int (1 : Int32))]))
        obtain ⟨fs, hr, hrun, hended, hEnd⟩ := Jvm.Stand.leaveW (s := s) (vm₁ := T251.vm) X251 hS251 (by rw [e251]; exact (Nat.le_refl _)) (v := some (.int (1 : Int32))) (fun h => by rw [Bd.returns] at h; cases h)
        refine ⟨_, _, retOut X251 hx Bd.returns rfl (Or.inl ⟨rfl, Or.inr (Or.inl rfl), _, rfl⟩) (hb hby at_196) hr, hrun, hended, _, _, rfl, ?_, own_monoW hEnd (by decide) (by decide)⟩
        show Q_law Z aIDENTICAL aCONTAINMENT aPARTIAL aA_TO_B aB_TO_A aBOTH aNONE aMIRROR aTEMPLATE_OR_PLAGIARISM aARCHIVE_PAGE aLINK_LIST_PART aSAME_SITE_RELATED aCITATION_OR_SPAM aSHARED_TEXT_OR_PLAGIARISM aSW kSW p1 p2 p3 h0 n0 _ T251.heap _
        rw [e251]
        exact ⟨rfl, N251⟩
      · rw [hv230]
        show OwnGo p e below _ (T126.setTop (mkF m 127 #[.val (.int p1), .val (.int p2), .val (.int p3), .val (.ref a76), .val (.ref a87), .val (.ref a102), .val (.int (1 : Int32)), .val (.int (1 : Int32)), .unset, .unset] [(.int (3 : Int32))]))
        refine own_go (fun _ k => XS.istore X126.here hx rfl (hb hby at_127) rfl (l' := #[.val (.int p1), .val (.int p2), .val (.int p3), .val (.ref a76), .val (.ref a87), .val (.ref a102), .val (.int (1 : Int32)), .val (.int (1 : Int32)), .val (.int (3 : Int32)), .unset]) rfl k) ?_
        show OwnGo p e below _ (T126.setTop (mkF m 129 #[.val (.int p1), .val (.int p2), .val (.int p3), .val (.ref a76), .val (.ref a87), .val (.ref a102), .val (.int (1 : Int32)), .val (.int (1 : Int32)), .val (.int (3 : Int32)), .unset] []))
        refine own_go (fun _ k => XS.iconst X126.here hx rfl (hb hby at_129) k) ?_
        show OwnGo p e below _ (T126.setTop (mkF m 130 #[.val (.int p1), .val (.int p2), .val (.int p3), .val (.ref a76), .val (.ref a87), .val (.ref a102), .val (.int (1 : Int32)), .val (.int (1 : Int32)), .val (.int (3 : Int32)), .unset] [(.int (2 : Int32))]))
        refine own_go (fun _ k => XS.iload X126.here hx rfl (hb hby at_130) rfl k) ?_
        show OwnGo p e below _ (T126.setTop (mkF m 132 #[.val (.int p1), .val (.int p2), .val (.int p3), .val (.ref a76), .val (.ref a87), .val (.ref a102), .val (.int (1 : Int32)), .val (.int (1 : Int32)), .val (.int (3 : Int32)), .unset] [(.int (1 : Int32)), (.int (2 : Int32))]))
        refine own_go (fun _ k => XS.imul X126.here hx rfl (hb hby at_132) rfl k) ?_
        show OwnGo p e below _ (T126.setTop (mkF m 133 #[.val (.int p1), .val (.int p2), .val (.int p3), .val (.ref a76), .val (.ref a87), .val (.ref a102), .val (.int (1 : Int32)), .val (.int (1 : Int32)), .val (.int (3 : Int32)), .unset] [(.int ((2 : Int32) * (1 : Int32)))]))
        rw [show ((2 : Int32) * (1 : Int32)) = (2 : Int32) from by decide]
        show OwnGo p e below _ (T126.setTop (mkF m 133 #[.val (.int p1), .val (.int p2), .val (.int p3), .val (.ref a76), .val (.ref a87), .val (.ref a102), .val (.int (1 : Int32)), .val (.int (1 : Int32)), .val (.int (3 : Int32)), .unset] [(.int (2 : Int32))]))
        refine own_go (fun _ k => XS.iload X126.here hx rfl (hb hby at_133) rfl k) ?_
        show OwnGo p e below _ (T126.setTop (mkF m 135 #[.val (.int p1), .val (.int p2), .val (.int p3), .val (.ref a76), .val (.ref a87), .val (.ref a102), .val (.int (1 : Int32)), .val (.int (1 : Int32)), .val (.int (3 : Int32)), .unset] [(.int (1 : Int32)), (.int (2 : Int32))]))
        refine own_go (fun _ k => XS.ifNo X126.here hx rfl (hb hby at_135) rfl (by decide) k) ?_
        show OwnGo p e below _ (T126.setTop (mkF m 138 #[.val (.int p1), .val (.int p2), .val (.int p3), .val (.ref a76), .val (.ref a87), .val (.ref a102), .val (.int (1 : Int32)), .val (.int (1 : Int32)), .val (.int (3 : Int32)), .unset] [(.int (2 : Int32))]))
        refine own_go (fun _ k => XS.iconst X126.here hx rfl (hb hby at_138) k) ?_
        show OwnGo p e below _ (T126.setTop (mkF m 139 #[.val (.int p1), .val (.int p2), .val (.int p3), .val (.ref a76), .val (.ref a87), .val (.ref a102), .val (.int (1 : Int32)), .val (.int (1 : Int32)), .val (.int (3 : Int32)), .unset] [(.int (0 : Int32)), (.int (2 : Int32))]))
        refine own_go (fun _ k => XS.goto X126.here hx rfl (pc0 := 139) (pc' := 143) rfl (hb hby at_139) (by decide) (by decide) k) ?_
        show OwnGo p e below _ (T126.setTop (mkF m 143 #[.val (.int p1), .val (.int p2), .val (.int p3), .val (.ref a76), .val (.ref a87), .val (.ref a102), .val (.int (1 : Int32)), .val (.int (1 : Int32)), .val (.int (3 : Int32)), .unset] [(.int (0 : Int32)), (.int (2 : Int32))]))
        refine own_go (fun _ k => XS.iadd X126.here hx rfl (hb hby at_143) rfl k) ?_
        show OwnGo p e below _ (T126.setTop (mkF m 144 #[.val (.int p1), .val (.int p2), .val (.int p3), .val (.ref a76), .val (.ref a87), .val (.ref a102), .val (.int (1 : Int32)), .val (.int (1 : Int32)), .val (.int (3 : Int32)), .unset] [(.int ((2 : Int32) + (0 : Int32)))]))
        rw [show ((2 : Int32) + (0 : Int32)) = (2 : Int32) from by decide]
        show OwnGo p e below _ (T126.setTop (mkF m 144 #[.val (.int p1), .val (.int p2), .val (.int p3), .val (.ref a76), .val (.ref a87), .val (.ref a102), .val (.int (1 : Int32)), .val (.int (1 : Int32)), .val (.int (3 : Int32)), .unset] [(.int (2 : Int32))]))
        refine own_go (fun _ k => XS.iload X126.here hx rfl (hb hby at_144) rfl k) ?_
        show OwnGo p e below _ (T126.setTop (mkF m 146 #[.val (.int p1), .val (.int p2), .val (.int p3), .val (.ref a76), .val (.ref a87), .val (.ref a102), .val (.int (1 : Int32)), .val (.int (1 : Int32)), .val (.int (3 : Int32)), .unset] [(.int (1 : Int32)), (.int (2 : Int32))]))
        refine own_go (fun _ k => XS.iconst X126.here hx rfl (hb hby at_146) k) ?_
        show OwnGo p e below _ (T126.setTop (mkF m 147 #[.val (.int p1), .val (.int p2), .val (.int p3), .val (.ref a76), .val (.ref a87), .val (.ref a102), .val (.int (1 : Int32)), .val (.int (1 : Int32)), .val (.int (3 : Int32)), .unset] [(.int (2 : Int32)), (.int (1 : Int32)), (.int (2 : Int32))]))
        refine own_go (fun _ k => XS.icmpYes X126.here hx rfl (pc0 := 147) (pc' := 165) rfl (hb hby at_147) rfl (by decide) (by decide) (by decide) k) ?_
        show OwnGo p e below _ (T126.setTop (mkF m 165 #[.val (.int p1), .val (.int p2), .val (.int p3), .val (.ref a76), .val (.ref a87), .val (.ref a102), .val (.int (1 : Int32)), .val (.int (1 : Int32)), .val (.int (3 : Int32)), .unset] [(.int (2 : Int32))]))
        refine own_go (fun _ k => XS.iconst X126.here hx rfl (hb hby at_165) k) ?_
        show OwnGo p e below _ (T126.setTop (mkF m 166 #[.val (.int p1), .val (.int p2), .val (.int p3), .val (.ref a76), .val (.ref a87), .val (.ref a102), .val (.int (1 : Int32)), .val (.int (1 : Int32)), .val (.int (3 : Int32)), .unset] [(.int (0 : Int32)), (.int (2 : Int32))]))
        refine own_go (fun _ k => XS.iadd X126.here hx rfl (hb hby at_166) rfl k) ?_
        show OwnGo p e below _ (T126.setTop (mkF m 167 #[.val (.int p1), .val (.int p2), .val (.int p3), .val (.ref a76), .val (.ref a87), .val (.ref a102), .val (.int (1 : Int32)), .val (.int (1 : Int32)), .val (.int (3 : Int32)), .unset] [(.int ((2 : Int32) + (0 : Int32)))]))
        rw [show ((2 : Int32) + (0 : Int32)) = (2 : Int32) from by decide]
        show OwnGo p e below _ (T126.setTop (mkF m 167 #[.val (.int p1), .val (.int p2), .val (.int p3), .val (.ref a76), .val (.ref a87), .val (.ref a102), .val (.int (1 : Int32)), .val (.int (1 : Int32)), .val (.int (3 : Int32)), .unset] [(.int (2 : Int32))]))
        refine own_go (fun _ k => XS.istore X126.here hx rfl (hb hby at_167) rfl (l' := #[.val (.int p1), .val (.int p2), .val (.int p3), .val (.ref a76), .val (.ref a87), .val (.ref a102), .val (.int (1 : Int32)), .val (.int (1 : Int32)), .val (.int (3 : Int32)), .val (.int (2 : Int32))]) rfl k) ?_
        show OwnGo p e below _ (T126.setTop (mkF m 169 #[.val (.int p1), .val (.int p2), .val (.int p3), .val (.ref a76), .val (.ref a87), .val (.ref a102), .val (.int (1 : Int32)), .val (.int (1 : Int32)), .val (.int (3 : Int32)), .val (.int (2 : Int32))] []))
        refine own_go (fun _ k => XS.aloadN X126.here hx rfl (hb hby at_169) rfl rfl k) ?_
        show OwnGo p e below _ (T126.setTop (mkF m 170 #[.val (.int p1), .val (.int p2), .val (.int p3), .val (.ref a76), .val (.ref a87), .val (.ref a102), .val (.int (1 : Int32)), .val (.int (1 : Int32)), .val (.int (3 : Int32)), .val (.int (2 : Int32))] [(.ref a76)]))
        refine own_go (fun _ k => XS.iload X126.here hx rfl (hb hby at_170) rfl k) ?_
        show OwnGo p e below _ (T126.setTop (mkF m 172 #[.val (.int p1), .val (.int p2), .val (.int p3), .val (.ref a76), .val (.ref a87), .val (.ref a102), .val (.int (1 : Int32)), .val (.int (1 : Int32)), .val (.int (3 : Int32)), .val (.int (2 : Int32))] [(.int (1 : Int32)), (.ref a76)]))
        have F255 := ((((((((F103.ext E102).other W108 ne104).other W111 ne104).other W114 ne104).other W117 ne104).other W120 ne104).other W123 ne104).other W126 ne104)
        obtain ⟨c256, Ar256, q256, S256, M256, H256, G256⟩ := (id F255)
        refine own_go (fun _ k => X126.aaload hx (j := (1 : Int32)) (v := (.ref aCONTAINMENT)) (by rw [e126]; exact Ar256.1) (State.isArrayOf_alike hZ.alike Ar256.2.1) rfl Ar256.2.2 (inb_of S256 ⟨by decide, by decide⟩) (Has.at H256 (inb_of S256 ⟨by decide, by decide⟩) rfl) (g := (mkF m 172 #[.val (.int p1), .val (.int p2), .val (.int p3), .val (.ref a76), .val (.ref a87), .val (.ref a102), .val (.int (1 : Int32)), .val (.int (1 : Int32)), .val (.int (3 : Int32)), .val (.int (2 : Int32))] [(.int (1 : Int32)), (.ref a76)])) rfl rfl (hb hby at_172) _ k) ?_
        show OwnGo p e below _ (T126.setTop (mkF m 173 #[.val (.int p1), .val (.int p2), .val (.int p3), .val (.ref a76), .val (.ref a87), .val (.ref a102), .val (.int (1 : Int32)), .val (.int (1 : Int32)), .val (.int (3 : Int32)), .val (.int (2 : Int32))] [(.ref aCONTAINMENT)]))
        refine own_go (fun _ k => XS.iload X126.here hx rfl (hb hby at_173) rfl k) ?_
        show OwnGo p e below _ (T126.setTop (mkF m 175 #[.val (.int p1), .val (.int p2), .val (.int p3), .val (.ref a76), .val (.ref a87), .val (.ref a102), .val (.int (1 : Int32)), .val (.int (1 : Int32)), .val (.int (3 : Int32)), .val (.int (2 : Int32))] [(.int (1 : Int32)), (.ref aCONTAINMENT)]))
        refine own_go (fun _ k => XS.aload X126.here hx rfl (hb hby at_175) rfl rfl k) ?_
        show OwnGo p e below _ (T126.setTop (mkF m 177 #[.val (.int p1), .val (.int p2), .val (.int p3), .val (.ref a76), .val (.ref a87), .val (.ref a102), .val (.int (1 : Int32)), .val (.int (1 : Int32)), .val (.int (3 : Int32)), .val (.int (2 : Int32))] [(.ref a87), (.int (1 : Int32)), (.ref aCONTAINMENT)]))
        refine own_go (fun _ k => XS.iload X126.here hx rfl (hb hby at_177) rfl k) ?_
        show OwnGo p e below _ (T126.setTop (mkF m 179 #[.val (.int p1), .val (.int p2), .val (.int p3), .val (.ref a76), .val (.ref a87), .val (.ref a102), .val (.int (1 : Int32)), .val (.int (1 : Int32)), .val (.int (3 : Int32)), .val (.int (2 : Int32))] [(.int (3 : Int32)), (.ref a87), (.int (1 : Int32)), (.ref aCONTAINMENT)]))
        have F257 := ((((((((V100.ext E102).other W108 ne105).other W111 ne105).other W114 ne105).other W117 ne105).other W120 ne105).other W123 ne105).other W126 ne105)
        obtain ⟨c258, Ar258, q258, S258, M258, H258, G258⟩ := (id F257)
        refine own_go (fun _ k => X126.aaload hx (j := (3 : Int32)) (v := (.ref aNONE)) (by rw [e126]; exact Ar258.1) (State.isArrayOf_alike hZ.alike Ar258.2.1) rfl Ar258.2.2 (inb_of S258 ⟨by decide, by decide⟩) (Has.at H258 (inb_of S258 ⟨by decide, by decide⟩) rfl) (g := (mkF m 179 #[.val (.int p1), .val (.int p2), .val (.int p3), .val (.ref a76), .val (.ref a87), .val (.ref a102), .val (.int (1 : Int32)), .val (.int (1 : Int32)), .val (.int (3 : Int32)), .val (.int (2 : Int32))] [(.int (3 : Int32)), (.ref a87), (.int (1 : Int32)), (.ref aCONTAINMENT)])) rfl rfl (hb hby at_179) _ k) ?_
        show OwnGo p e below _ (T126.setTop (mkF m 180 #[.val (.int p1), .val (.int p2), .val (.int p3), .val (.ref a76), .val (.ref a87), .val (.ref a102), .val (.int (1 : Int32)), .val (.int (1 : Int32)), .val (.int (3 : Int32)), .val (.int (2 : Int32))] [(.ref aNONE), (.int (1 : Int32)), (.ref aCONTAINMENT)]))
        obtain ⟨_, _, ⟨T259, L259, k259, n259⟩, -, X259, hS259, hg259, ⟨Lc259, hQ259, l259, y259, z259⟩, st259⟩ := callSS X126 hx (y := (⟨"com/example/page_copy_finder/pagecopyfinder/copies/PairLabel", "of", "(Lcom/example/page_copy_finder/pagecopyfinder/copies/PairKind;ZLcom/example/page_copy_finder/pagecopyfinder/copies/PairLinks;)Lcom/example/page_copy_finder/pagecopyfinder/copies/PairLabel;"⟩ : MethodName)) hown (mvT hZ (hw _ (List.mem_of_getElem? (i := 41) rfl))) (mvT hZ (hw _ (List.mem_of_getElem? (i := 42) rfl))) (mvT hZ (hw _ (List.mem_of_getElem? (i := 25) rfl))) (mvT hZ (hw _ (List.mem_of_getElem? (i := 43) rfl))) (by decide) (backOfS (W := 0) (rm_of11 l Z a0 hw [] aIDENTICAL aCONTAINMENT aPARTIAL aA_TO_B aB_TO_A aBOTH aNONE aMIRROR aTEMPLATE_OR_PLAGIARISM aARCHIVE_PAGE aLINK_LIST_PART aSAME_SITE_RELATED aCITATION_OR_SPAM aSHARED_TEXT_OR_PLAGIARISM aSW kSW F0 aNONE h126 n0 O126) hZ (hw _ (List.mem_of_getElem? (i := 43) rfl)) (hw _ (List.mem_of_getElem? (i := 25) rfl)) (by decide) (by decide)) (g := (mkF m 180 #[.val (.int p1), .val (.int p2), .val (.int p3), .val (.ref a76), .val (.ref a87), .val (.ref a102), .val (.int (1 : Int32)), .val (.int (1 : Int32)), .val (.int (3 : Int32)), .val (.int (2 : Int32))] [(.ref aNONE), (.int (1 : Int32)), (.ref aCONTAINMENT)])) rfl (by rw [hml]; rfl) (argsL := [(.ref aCONTAINMENT), (.int (1 : Int32)), (.ref aNONE)]) (rest := []) (lenOf pd_Lcom_example_page_copy_finder_pagecopyfinder_copies_PairKind__Z_Lcom_example_page_copy_finder_pagecopyfinder_copies_PairLinks___Lcom_example_page_copy_finder_pagecopyfinder_copies_PairLabel_ rfl) rfl (by show 2 * 0 + _ ≤ _; exact Nat.le_of_eq rfl) (hb hby at_180) (fun _ _ => ⟨rfl, e126, (by decide : 3 + 4 ≤ _), (by decide : 14 + 44 ≤ _)⟩)
        dsimp only [Pt.U, Pt.locs, Pt.cells, Pt.slots] at X259 l259 y259 z259 st259 hQ259 hS259 hg259
        subst l259 y259 z259
        obtain ⟨rfl, Nq259, K259⟩ := hQ259
        have N259 := Fr.app N126 Nq259
        have hZ : Z.Warmed39 (s.setVm T259.vm).vm := State.Warmed39.trans hZ hS259.1
        have hown : (s.setVm T259.vm).vm.findClass "com/example/page_copy_finder/pagecopyfinder/copies/PairLabelOfPinLaw" = some m.cls := (hS259.1.alike.findClass _ _).trans hown
        have O259 := O126.keep K259 all0
        have e259 : T259.heap = T259.heap := rfl
        have z260 : h0.size ≤ T259.heap.size := Nat.le_trans z127 K259.1
        refine own_go (fun _ k => st259.trans k) ?_
        show OwnGo p e below _ (T259.setTop (mkF m 183 #[.val (.int p1), .val (.int p2), .val (.int p3), .val (.ref a76), .val (.ref a87), .val (.ref a102), .val (.int (1 : Int32)), .val (.int (1 : Int32)), .val (.int (3 : Int32)), .val (.int (2 : Int32))] [(.ref aARCHIVE_PAGE)]))
        refine own_go (fun _ k => XS.aload X259.here hx rfl (hb hby at_183) rfl rfl k) ?_
        show OwnGo p e below _ (T259.setTop (mkF m 185 #[.val (.int p1), .val (.int p2), .val (.int p3), .val (.ref a76), .val (.ref a87), .val (.ref a102), .val (.int (1 : Int32)), .val (.int (1 : Int32)), .val (.int (3 : Int32)), .val (.int (2 : Int32))] [(.ref a102), (.ref aARCHIVE_PAGE)]))
        refine own_go (fun _ k => XS.iload X259.here hx rfl (hb hby at_185) rfl k) ?_
        show OwnGo p e below _ (T259.setTop (mkF m 187 #[.val (.int p1), .val (.int p2), .val (.int p3), .val (.ref a76), .val (.ref a87), .val (.ref a102), .val (.int (1 : Int32)), .val (.int (1 : Int32)), .val (.int (3 : Int32)), .val (.int (2 : Int32))] [(.int (2 : Int32)), (.ref a102), (.ref aARCHIVE_PAGE)]))
        have F261 := (V126.keep K259 nin0)
        obtain ⟨c262, Ar262, q262, S262, M262, H262, G262⟩ := (id F261)
        refine own_go (fun _ k => X259.aaload hx (j := (2 : Int32)) (v := (.ref aARCHIVE_PAGE)) (by rw [e259]; exact Ar262.1) (State.isArrayOf_alike hZ.alike Ar262.2.1) rfl Ar262.2.2 (inb_of S262 ⟨by decide, by decide⟩) (Has.at H262 (inb_of S262 ⟨by decide, by decide⟩) rfl) (g := (mkF m 187 #[.val (.int p1), .val (.int p2), .val (.int p3), .val (.ref a76), .val (.ref a87), .val (.ref a102), .val (.int (1 : Int32)), .val (.int (1 : Int32)), .val (.int (3 : Int32)), .val (.int (2 : Int32))] [(.int (2 : Int32)), (.ref a102), (.ref aARCHIVE_PAGE)])) rfl rfl (hb hby at_187) _ k) ?_
        show OwnGo p e below _ (T259.setTop (mkF m 188 #[.val (.int p1), .val (.int p2), .val (.int p3), .val (.ref a76), .val (.ref a87), .val (.ref a102), .val (.int (1 : Int32)), .val (.int (1 : Int32)), .val (.int (3 : Int32)), .val (.int (2 : Int32))] [(.ref aARCHIVE_PAGE), (.ref aARCHIVE_PAGE)]))
        refine own_go (fun _ k => acmp X259 hx rfl (cd := .ne) (o := 7) (x := (.ref aARCHIVE_PAGE)) (y := (.ref aARCHIVE_PAGE)) (pc0 := 188) (pc' := 191) rfl rfl rfl (hb hby at_188) rfl (own_refeq _) (by decide) (by decide) k) ?_
        show OwnGo p e below _ (T259.setTop (mkF m 191 #[.val (.int p1), .val (.int p2), .val (.int p3), .val (.ref a76), .val (.ref a87), .val (.ref a102), .val (.int (1 : Int32)), .val (.int (1 : Int32)), .val (.int (3 : Int32)), .val (.int (2 : Int32))] []))
        refine own_go (fun _ k => XS.iconst X259.here hx rfl (hb hby at_191) k) ?_
        show OwnGo p e below _ (T259.setTop (mkF m 192 #[.val (.int p1), .val (.int p2), .val (.int p3), .val (.ref a76), .val (.ref a87), .val (.ref a102), .val (.int (1 : Int32)), .val (.int (1 : Int32)), .val (.int (3 : Int32)), .val (.int (2 : Int32))] [(.int (1 : Int32))]))
        refine own_go (fun _ k => XS.goto X259.here hx rfl (pc0 := 192) (pc' := 196) rfl (hb hby at_192) (by decide) (by decide) k) ?_
        show OwnGo p e below _ (T259.setTop (mkF m 196 #[.val (.int p1), .val (.int p2), .val (.int p3), .val (.ref a76), .val (.ref a87), .val (.ref a102), .val (.int (1 : Int32)), .val (.int (1 : Int32)), .val (.int (3 : Int32)), .val (.int (2 : Int32))] [(.int (1 : Int32))]))
        obtain ⟨fs, hr, hrun, hended, hEnd⟩ := Jvm.Stand.leaveW (s := s) (vm₁ := T259.vm) X259 hS259 (by rw [e259]; exact (Nat.le_refl _)) (v := some (.int (1 : Int32))) (fun h => by rw [Bd.returns] at h; cases h)
        refine ⟨_, _, retOut X259 hx Bd.returns rfl (Or.inl ⟨rfl, Or.inr (Or.inl rfl), _, rfl⟩) (hb hby at_196) hr, hrun, hended, _, _, rfl, ?_, own_monoW hEnd (by decide) (by decide)⟩
        show Q_law Z aIDENTICAL aCONTAINMENT aPARTIAL aA_TO_B aB_TO_A aBOTH aNONE aMIRROR aTEMPLATE_OR_PLAGIARISM aARCHIVE_PAGE aLINK_LIST_PART aSAME_SITE_RELATED aCITATION_OR_SPAM aSHARED_TEXT_OR_PLAGIARISM aSW kSW p1 p2 p3 h0 n0 _ T259.heap _
        rw [e259]
        exact ⟨rfl, N259⟩
  · rw [hv128]
    show OwnGo p e below _ (T126.setTop (mkF m 109 #[.val (.int p1), .val (.int p2), .val (.int p3), .val (.ref a76), .val (.ref a87), .val (.ref a102), .unset, .unset, .unset, .unset] [(.int (2 : Int32))]))
    refine own_go (fun _ k => XS.istore X126.here hx rfl (hb hby at_109) rfl (l' := #[.val (.int p1), .val (.int p2), .val (.int p3), .val (.ref a76), .val (.ref a87), .val (.ref a102), .val (.int (2 : Int32)), .unset, .unset, .unset]) rfl k) ?_
    show OwnGo p e below _ (T126.setTop (mkF m 111 #[.val (.int p1), .val (.int p2), .val (.int p3), .val (.ref a76), .val (.ref a87), .val (.ref a102), .val (.int (2 : Int32)), .unset, .unset, .unset] []))
    refine own_go (fun _ k => XS.iloadN X126.here hx rfl (hb hby at_111) rfl k) ?_
    show OwnGo p e below _ (T126.setTop (mkF m 112 #[.val (.int p1), .val (.int p2), .val (.int p3), .val (.ref a76), .val (.ref a87), .val (.ref a102), .val (.int (2 : Int32)), .unset, .unset, .unset] [(.int p2)]))
    refine own_go (fun _ k => XS.iconst X126.here hx rfl (hb hby at_112) k) ?_
    show OwnGo p e below _ (T126.setTop (mkF m 113 #[.val (.int p1), .val (.int p2), .val (.int p3), .val (.ref a76), .val (.ref a87), .val (.ref a102), .val (.int (2 : Int32)), .unset, .unset, .unset] [(.int (1 : Int32)), (.int p2)]))
    refine own_go (fun _ k => XS.iand X126.here hx rfl (hb hby at_113) rfl k) ?_
    show OwnGo p e below _ (T126.setTop (mkF m 114 #[.val (.int p1), .val (.int p2), .val (.int p3), .val (.ref a76), .val (.ref a87), .val (.ref a102), .val (.int (2 : Int32)), .unset, .unset, .unset] [(.int (p2 &&& (1 : Int32)))]))
    by_cases hc263 : (p2 &&& (1 : Int32)) = (0 : Int32)
    · refine own_go (fun _ k => XS.ifYes X126.here hx rfl (pc0 := 114) (pc' := 121) rfl (hb hby at_114) rfl ((if0 _ _).trans (teq hc263).1) (by decide) (by decide) k) ?_
      show OwnGo p e below _ (T126.setTop (mkF m 121 #[.val (.int p1), .val (.int p2), .val (.int p3), .val (.ref a76), .val (.ref a87), .val (.ref a102), .val (.int (2 : Int32)), .unset, .unset, .unset] []))
      refine own_go (fun _ k => XS.iconst X126.here hx rfl (hb hby at_121) k) ?_
      show OwnGo p e below _ (T126.setTop (mkF m 122 #[.val (.int p1), .val (.int p2), .val (.int p3), .val (.ref a76), .val (.ref a87), .val (.ref a102), .val (.int (2 : Int32)), .unset, .unset, .unset] [(.int (0 : Int32))]))
      refine own_go (fun _ k => XS.istore X126.here hx rfl (hb hby at_122) rfl (l' := #[.val (.int p1), .val (.int p2), .val (.int p3), .val (.ref a76), .val (.ref a87), .val (.ref a102), .val (.int (2 : Int32)), .val (.int (0 : Int32)), .unset, .unset]) rfl k) ?_
      show OwnGo p e below _ (T126.setTop (mkF m 124 #[.val (.int p1), .val (.int p2), .val (.int p3), .val (.ref a76), .val (.ref a87), .val (.ref a102), .val (.int (2 : Int32)), .val (.int (0 : Int32)), .unset, .unset] []))
      refine own_go (fun _ k => XS.iloadN X126.here hx rfl (hb hby at_124) rfl k) ?_
      show OwnGo p e below _ (T126.setTop (mkF m 125 #[.val (.int p1), .val (.int p2), .val (.int p3), .val (.ref a76), .val (.ref a87), .val (.ref a102), .val (.int (2 : Int32)), .val (.int (0 : Int32)), .unset, .unset] [(.int p3)]))
      refine own_go (fun _ k => XS.iconst X126.here hx rfl (hb hby at_125) k) ?_
      show OwnGo p e below _ (T126.setTop (mkF m 126 #[.val (.int p1), .val (.int p2), .val (.int p3), .val (.ref a76), .val (.ref a87), .val (.ref a102), .val (.int (2 : Int32)), .val (.int (0 : Int32)), .unset, .unset] [(.int (3 : Int32)), (.int p3)]))
      refine own_go (fun _ k => XS.iand X126.here hx rfl (hb hby at_126) rfl k) ?_
      show OwnGo p e below _ (T126.setTop (mkF m 127 #[.val (.int p1), .val (.int p2), .val (.int p3), .val (.ref a76), .val (.ref a87), .val (.ref a102), .val (.int (2 : Int32)), .val (.int (0 : Int32)), .unset, .unset] [(.int (p3 &&& (3 : Int32)))]))
      rcases own_and3 p3 with hv264 | hv264 | hv264 | hv264
      · rw [hv264]
        show OwnGo p e below _ (T126.setTop (mkF m 127 #[.val (.int p1), .val (.int p2), .val (.int p3), .val (.ref a76), .val (.ref a87), .val (.ref a102), .val (.int (2 : Int32)), .val (.int (0 : Int32)), .unset, .unset] [(.int (0 : Int32))]))
        refine own_go (fun _ k => XS.istore X126.here hx rfl (hb hby at_127) rfl (l' := #[.val (.int p1), .val (.int p2), .val (.int p3), .val (.ref a76), .val (.ref a87), .val (.ref a102), .val (.int (2 : Int32)), .val (.int (0 : Int32)), .val (.int (0 : Int32)), .unset]) rfl k) ?_
        show OwnGo p e below _ (T126.setTop (mkF m 129 #[.val (.int p1), .val (.int p2), .val (.int p3), .val (.ref a76), .val (.ref a87), .val (.ref a102), .val (.int (2 : Int32)), .val (.int (0 : Int32)), .val (.int (0 : Int32)), .unset] []))
        refine own_go (fun _ k => XS.iconst X126.here hx rfl (hb hby at_129) k) ?_
        show OwnGo p e below _ (T126.setTop (mkF m 130 #[.val (.int p1), .val (.int p2), .val (.int p3), .val (.ref a76), .val (.ref a87), .val (.ref a102), .val (.int (2 : Int32)), .val (.int (0 : Int32)), .val (.int (0 : Int32)), .unset] [(.int (2 : Int32))]))
        refine own_go (fun _ k => XS.iload X126.here hx rfl (hb hby at_130) rfl k) ?_
        show OwnGo p e below _ (T126.setTop (mkF m 132 #[.val (.int p1), .val (.int p2), .val (.int p3), .val (.ref a76), .val (.ref a87), .val (.ref a102), .val (.int (2 : Int32)), .val (.int (0 : Int32)), .val (.int (0 : Int32)), .unset] [(.int (2 : Int32)), (.int (2 : Int32))]))
        refine own_go (fun _ k => XS.imul X126.here hx rfl (hb hby at_132) rfl k) ?_
        show OwnGo p e below _ (T126.setTop (mkF m 133 #[.val (.int p1), .val (.int p2), .val (.int p3), .val (.ref a76), .val (.ref a87), .val (.ref a102), .val (.int (2 : Int32)), .val (.int (0 : Int32)), .val (.int (0 : Int32)), .unset] [(.int ((2 : Int32) * (2 : Int32)))]))
        rw [show ((2 : Int32) * (2 : Int32)) = (4 : Int32) from by decide]
        show OwnGo p e below _ (T126.setTop (mkF m 133 #[.val (.int p1), .val (.int p2), .val (.int p3), .val (.ref a76), .val (.ref a87), .val (.ref a102), .val (.int (2 : Int32)), .val (.int (0 : Int32)), .val (.int (0 : Int32)), .unset] [(.int (4 : Int32))]))
        refine own_go (fun _ k => XS.iload X126.here hx rfl (hb hby at_133) rfl k) ?_
        show OwnGo p e below _ (T126.setTop (mkF m 135 #[.val (.int p1), .val (.int p2), .val (.int p3), .val (.ref a76), .val (.ref a87), .val (.ref a102), .val (.int (2 : Int32)), .val (.int (0 : Int32)), .val (.int (0 : Int32)), .unset] [(.int (0 : Int32)), (.int (4 : Int32))]))
        refine own_go (fun _ k => XS.ifYes X126.here hx rfl (pc0 := 135) (pc' := 142) rfl (hb hby at_135) rfl (by decide) (by decide) (by decide) k) ?_
        show OwnGo p e below _ (T126.setTop (mkF m 142 #[.val (.int p1), .val (.int p2), .val (.int p3), .val (.ref a76), .val (.ref a87), .val (.ref a102), .val (.int (2 : Int32)), .val (.int (0 : Int32)), .val (.int (0 : Int32)), .unset] [(.int (4 : Int32))]))
        refine own_go (fun _ k => XS.iconst X126.here hx rfl (hb hby at_142) k) ?_
        show OwnGo p e below _ (T126.setTop (mkF m 143 #[.val (.int p1), .val (.int p2), .val (.int p3), .val (.ref a76), .val (.ref a87), .val (.ref a102), .val (.int (2 : Int32)), .val (.int (0 : Int32)), .val (.int (0 : Int32)), .unset] [(.int (1 : Int32)), (.int (4 : Int32))]))
        refine own_go (fun _ k => XS.iadd X126.here hx rfl (hb hby at_143) rfl k) ?_
        show OwnGo p e below _ (T126.setTop (mkF m 144 #[.val (.int p1), .val (.int p2), .val (.int p3), .val (.ref a76), .val (.ref a87), .val (.ref a102), .val (.int (2 : Int32)), .val (.int (0 : Int32)), .val (.int (0 : Int32)), .unset] [(.int ((4 : Int32) + (1 : Int32)))]))
        rw [show ((4 : Int32) + (1 : Int32)) = (5 : Int32) from by decide]
        show OwnGo p e below _ (T126.setTop (mkF m 144 #[.val (.int p1), .val (.int p2), .val (.int p3), .val (.ref a76), .val (.ref a87), .val (.ref a102), .val (.int (2 : Int32)), .val (.int (0 : Int32)), .val (.int (0 : Int32)), .unset] [(.int (5 : Int32))]))
        refine own_go (fun _ k => XS.iload X126.here hx rfl (hb hby at_144) rfl k) ?_
        show OwnGo p e below _ (T126.setTop (mkF m 146 #[.val (.int p1), .val (.int p2), .val (.int p3), .val (.ref a76), .val (.ref a87), .val (.ref a102), .val (.int (2 : Int32)), .val (.int (0 : Int32)), .val (.int (0 : Int32)), .unset] [(.int (2 : Int32)), (.int (5 : Int32))]))
        refine own_go (fun _ k => XS.iconst X126.here hx rfl (hb hby at_146) k) ?_
        show OwnGo p e below _ (T126.setTop (mkF m 147 #[.val (.int p1), .val (.int p2), .val (.int p3), .val (.ref a76), .val (.ref a87), .val (.ref a102), .val (.int (2 : Int32)), .val (.int (0 : Int32)), .val (.int (0 : Int32)), .unset] [(.int (2 : Int32)), (.int (2 : Int32)), (.int (5 : Int32))]))
        refine own_go (fun _ k => XS.icmpNo X126.here hx rfl (hb hby at_147) rfl (by decide) k) ?_
        show OwnGo p e below _ (T126.setTop (mkF m 150 #[.val (.int p1), .val (.int p2), .val (.int p3), .val (.ref a76), .val (.ref a87), .val (.ref a102), .val (.int (2 : Int32)), .val (.int (0 : Int32)), .val (.int (0 : Int32)), .unset] [(.int (5 : Int32))]))
        refine own_go (fun _ k => XS.iload X126.here hx rfl (hb hby at_150) rfl k) ?_
        show OwnGo p e below _ (T126.setTop (mkF m 152 #[.val (.int p1), .val (.int p2), .val (.int p3), .val (.ref a76), .val (.ref a87), .val (.ref a102), .val (.int (2 : Int32)), .val (.int (0 : Int32)), .val (.int (0 : Int32)), .unset] [(.int (0 : Int32)), (.int (5 : Int32))]))
        refine own_go (fun _ k => XS.ifNo X126.here hx rfl (hb hby at_152) rfl (by decide) k) ?_
        show OwnGo p e below _ (T126.setTop (mkF m 155 #[.val (.int p1), .val (.int p2), .val (.int p3), .val (.ref a76), .val (.ref a87), .val (.ref a102), .val (.int (2 : Int32)), .val (.int (0 : Int32)), .val (.int (0 : Int32)), .unset] [(.int (5 : Int32))]))
        refine own_go (fun _ k => XS.iload X126.here hx rfl (hb hby at_155) rfl k) ?_
        show OwnGo p e below _ (T126.setTop (mkF m 157 #[.val (.int p1), .val (.int p2), .val (.int p3), .val (.ref a76), .val (.ref a87), .val (.ref a102), .val (.int (2 : Int32)), .val (.int (0 : Int32)), .val (.int (0 : Int32)), .unset] [(.int (0 : Int32)), (.int (5 : Int32))]))
        refine own_go (fun _ k => XS.iconst X126.here hx rfl (hb hby at_157) k) ?_
        show OwnGo p e below _ (T126.setTop (mkF m 158 #[.val (.int p1), .val (.int p2), .val (.int p3), .val (.ref a76), .val (.ref a87), .val (.ref a102), .val (.int (2 : Int32)), .val (.int (0 : Int32)), .val (.int (0 : Int32)), .unset] [(.int (3 : Int32)), (.int (0 : Int32)), (.int (5 : Int32))]))
        refine own_go (fun _ k => XS.icmpYes X126.here hx rfl (pc0 := 158) (pc' := 165) rfl (hb hby at_158) rfl (by decide) (by decide) (by decide) k) ?_
        show OwnGo p e below _ (T126.setTop (mkF m 165 #[.val (.int p1), .val (.int p2), .val (.int p3), .val (.ref a76), .val (.ref a87), .val (.ref a102), .val (.int (2 : Int32)), .val (.int (0 : Int32)), .val (.int (0 : Int32)), .unset] [(.int (5 : Int32))]))
        refine own_go (fun _ k => XS.iconst X126.here hx rfl (hb hby at_165) k) ?_
        show OwnGo p e below _ (T126.setTop (mkF m 166 #[.val (.int p1), .val (.int p2), .val (.int p3), .val (.ref a76), .val (.ref a87), .val (.ref a102), .val (.int (2 : Int32)), .val (.int (0 : Int32)), .val (.int (0 : Int32)), .unset] [(.int (0 : Int32)), (.int (5 : Int32))]))
        refine own_go (fun _ k => XS.iadd X126.here hx rfl (hb hby at_166) rfl k) ?_
        show OwnGo p e below _ (T126.setTop (mkF m 167 #[.val (.int p1), .val (.int p2), .val (.int p3), .val (.ref a76), .val (.ref a87), .val (.ref a102), .val (.int (2 : Int32)), .val (.int (0 : Int32)), .val (.int (0 : Int32)), .unset] [(.int ((5 : Int32) + (0 : Int32)))]))
        rw [show ((5 : Int32) + (0 : Int32)) = (5 : Int32) from by decide]
        show OwnGo p e below _ (T126.setTop (mkF m 167 #[.val (.int p1), .val (.int p2), .val (.int p3), .val (.ref a76), .val (.ref a87), .val (.ref a102), .val (.int (2 : Int32)), .val (.int (0 : Int32)), .val (.int (0 : Int32)), .unset] [(.int (5 : Int32))]))
        refine own_go (fun _ k => XS.istore X126.here hx rfl (hb hby at_167) rfl (l' := #[.val (.int p1), .val (.int p2), .val (.int p3), .val (.ref a76), .val (.ref a87), .val (.ref a102), .val (.int (2 : Int32)), .val (.int (0 : Int32)), .val (.int (0 : Int32)), .val (.int (5 : Int32))]) rfl k) ?_
        show OwnGo p e below _ (T126.setTop (mkF m 169 #[.val (.int p1), .val (.int p2), .val (.int p3), .val (.ref a76), .val (.ref a87), .val (.ref a102), .val (.int (2 : Int32)), .val (.int (0 : Int32)), .val (.int (0 : Int32)), .val (.int (5 : Int32))] []))
        refine own_go (fun _ k => XS.aloadN X126.here hx rfl (hb hby at_169) rfl rfl k) ?_
        show OwnGo p e below _ (T126.setTop (mkF m 170 #[.val (.int p1), .val (.int p2), .val (.int p3), .val (.ref a76), .val (.ref a87), .val (.ref a102), .val (.int (2 : Int32)), .val (.int (0 : Int32)), .val (.int (0 : Int32)), .val (.int (5 : Int32))] [(.ref a76)]))
        refine own_go (fun _ k => XS.iload X126.here hx rfl (hb hby at_170) rfl k) ?_
        show OwnGo p e below _ (T126.setTop (mkF m 172 #[.val (.int p1), .val (.int p2), .val (.int p3), .val (.ref a76), .val (.ref a87), .val (.ref a102), .val (.int (2 : Int32)), .val (.int (0 : Int32)), .val (.int (0 : Int32)), .val (.int (5 : Int32))] [(.int (2 : Int32)), (.ref a76)]))
        have F265 := ((((((((F103.ext E102).other W108 ne104).other W111 ne104).other W114 ne104).other W117 ne104).other W120 ne104).other W123 ne104).other W126 ne104)
        obtain ⟨c266, Ar266, q266, S266, M266, H266, G266⟩ := (id F265)
        refine own_go (fun _ k => X126.aaload hx (j := (2 : Int32)) (v := (.ref aPARTIAL)) (by rw [e126]; exact Ar266.1) (State.isArrayOf_alike hZ.alike Ar266.2.1) rfl Ar266.2.2 (inb_of S266 ⟨by decide, by decide⟩) (Has.at H266 (inb_of S266 ⟨by decide, by decide⟩) rfl) (g := (mkF m 172 #[.val (.int p1), .val (.int p2), .val (.int p3), .val (.ref a76), .val (.ref a87), .val (.ref a102), .val (.int (2 : Int32)), .val (.int (0 : Int32)), .val (.int (0 : Int32)), .val (.int (5 : Int32))] [(.int (2 : Int32)), (.ref a76)])) rfl rfl (hb hby at_172) _ k) ?_
        show OwnGo p e below _ (T126.setTop (mkF m 173 #[.val (.int p1), .val (.int p2), .val (.int p3), .val (.ref a76), .val (.ref a87), .val (.ref a102), .val (.int (2 : Int32)), .val (.int (0 : Int32)), .val (.int (0 : Int32)), .val (.int (5 : Int32))] [(.ref aPARTIAL)]))
        refine own_go (fun _ k => XS.iload X126.here hx rfl (hb hby at_173) rfl k) ?_
        show OwnGo p e below _ (T126.setTop (mkF m 175 #[.val (.int p1), .val (.int p2), .val (.int p3), .val (.ref a76), .val (.ref a87), .val (.ref a102), .val (.int (2 : Int32)), .val (.int (0 : Int32)), .val (.int (0 : Int32)), .val (.int (5 : Int32))] [(.int (0 : Int32)), (.ref aPARTIAL)]))
        refine own_go (fun _ k => XS.aload X126.here hx rfl (hb hby at_175) rfl rfl k) ?_
        show OwnGo p e below _ (T126.setTop (mkF m 177 #[.val (.int p1), .val (.int p2), .val (.int p3), .val (.ref a76), .val (.ref a87), .val (.ref a102), .val (.int (2 : Int32)), .val (.int (0 : Int32)), .val (.int (0 : Int32)), .val (.int (5 : Int32))] [(.ref a87), (.int (0 : Int32)), (.ref aPARTIAL)]))
        refine own_go (fun _ k => XS.iload X126.here hx rfl (hb hby at_177) rfl k) ?_
        show OwnGo p e below _ (T126.setTop (mkF m 179 #[.val (.int p1), .val (.int p2), .val (.int p3), .val (.ref a76), .val (.ref a87), .val (.ref a102), .val (.int (2 : Int32)), .val (.int (0 : Int32)), .val (.int (0 : Int32)), .val (.int (5 : Int32))] [(.int (0 : Int32)), (.ref a87), (.int (0 : Int32)), (.ref aPARTIAL)]))
        have F267 := ((((((((V100.ext E102).other W108 ne105).other W111 ne105).other W114 ne105).other W117 ne105).other W120 ne105).other W123 ne105).other W126 ne105)
        obtain ⟨c268, Ar268, q268, S268, M268, H268, G268⟩ := (id F267)
        refine own_go (fun _ k => X126.aaload hx (j := (0 : Int32)) (v := (.ref aA_TO_B)) (by rw [e126]; exact Ar268.1) (State.isArrayOf_alike hZ.alike Ar268.2.1) rfl Ar268.2.2 (inb_of S268 ⟨by decide, by decide⟩) (Has.at H268 (inb_of S268 ⟨by decide, by decide⟩) rfl) (g := (mkF m 179 #[.val (.int p1), .val (.int p2), .val (.int p3), .val (.ref a76), .val (.ref a87), .val (.ref a102), .val (.int (2 : Int32)), .val (.int (0 : Int32)), .val (.int (0 : Int32)), .val (.int (5 : Int32))] [(.int (0 : Int32)), (.ref a87), (.int (0 : Int32)), (.ref aPARTIAL)])) rfl rfl (hb hby at_179) _ k) ?_
        show OwnGo p e below _ (T126.setTop (mkF m 180 #[.val (.int p1), .val (.int p2), .val (.int p3), .val (.ref a76), .val (.ref a87), .val (.ref a102), .val (.int (2 : Int32)), .val (.int (0 : Int32)), .val (.int (0 : Int32)), .val (.int (5 : Int32))] [(.ref aA_TO_B), (.int (0 : Int32)), (.ref aPARTIAL)]))
        obtain ⟨_, _, ⟨T269, L269, k269, n269⟩, -, X269, hS269, hg269, ⟨Lc269, hQ269, l269, y269, z269⟩, st269⟩ := callSS X126 hx (y := (⟨"com/example/page_copy_finder/pagecopyfinder/copies/PairLabel", "of", "(Lcom/example/page_copy_finder/pagecopyfinder/copies/PairKind;ZLcom/example/page_copy_finder/pagecopyfinder/copies/PairLinks;)Lcom/example/page_copy_finder/pagecopyfinder/copies/PairLabel;"⟩ : MethodName)) hown (mvT hZ (hw _ (List.mem_of_getElem? (i := 41) rfl))) (mvT hZ (hw _ (List.mem_of_getElem? (i := 42) rfl))) (mvT hZ (hw _ (List.mem_of_getElem? (i := 25) rfl))) (mvT hZ (hw _ (List.mem_of_getElem? (i := 43) rfl))) (by decide) (backOfS (W := 0) (rm_of20 l Z a0 hw [] aIDENTICAL aCONTAINMENT aPARTIAL aA_TO_B aB_TO_A aBOTH aNONE aMIRROR aTEMPLATE_OR_PLAGIARISM aARCHIVE_PAGE aLINK_LIST_PART aSAME_SITE_RELATED aCITATION_OR_SPAM aSHARED_TEXT_OR_PLAGIARISM aSW kSW F0 aA_TO_B h126 n0 O126 (Fld.ne F0.2.2.2.2.2.2.2.2.2.2.2.2.2.2.2.2.2.2.2.2.2.2.2.2.2.2.2.2.2.2.2.2.2.1 F0.2.2.2.2.2.2.2.2.2.2.2.2.2.2.2.2.2.2.2.2.2.2.2.2.2.2.2.2.2.2.2.2.1 (by simp))) hZ (hw _ (List.mem_of_getElem? (i := 43) rfl)) (hw _ (List.mem_of_getElem? (i := 25) rfl)) (by decide) (by decide)) (g := (mkF m 180 #[.val (.int p1), .val (.int p2), .val (.int p3), .val (.ref a76), .val (.ref a87), .val (.ref a102), .val (.int (2 : Int32)), .val (.int (0 : Int32)), .val (.int (0 : Int32)), .val (.int (5 : Int32))] [(.ref aA_TO_B), (.int (0 : Int32)), (.ref aPARTIAL)])) rfl (by rw [hml]; rfl) (argsL := [(.ref aPARTIAL), (.int (0 : Int32)), (.ref aA_TO_B)]) (rest := []) (lenOf pd_Lcom_example_page_copy_finder_pagecopyfinder_copies_PairKind__Z_Lcom_example_page_copy_finder_pagecopyfinder_copies_PairLinks___Lcom_example_page_copy_finder_pagecopyfinder_copies_PairLabel_ rfl) rfl (by show 2 * 0 + _ ≤ _; exact Nat.le_of_eq rfl) (hb hby at_180) (fun _ _ => ⟨rfl, e126, (by decide : 3 + 4 ≤ _), (by decide : 14 + 44 ≤ _)⟩)
        dsimp only [Pt.U, Pt.locs, Pt.cells, Pt.slots] at X269 l269 y269 z269 st269 hQ269 hS269 hg269
        subst l269 y269 z269
        obtain ⟨rfl, Nq269, K269⟩ := hQ269
        have N269 := Fr.app N126 Nq269
        have hZ : Z.Warmed39 (s.setVm T269.vm).vm := State.Warmed39.trans hZ hS269.1
        have hown : (s.setVm T269.vm).vm.findClass "com/example/page_copy_finder/pagecopyfinder/copies/PairLabelOfPinLaw" = some m.cls := (hS269.1.alike.findClass _ _).trans hown
        have O269 := O126.keep K269 all0
        have e269 : T269.heap = T269.heap := rfl
        have z270 : h0.size ≤ T269.heap.size := Nat.le_trans z127 K269.1
        refine own_go (fun _ k => st269.trans k) ?_
        show OwnGo p e below _ (T269.setTop (mkF m 183 #[.val (.int p1), .val (.int p2), .val (.int p3), .val (.ref a76), .val (.ref a87), .val (.ref a102), .val (.int (2 : Int32)), .val (.int (0 : Int32)), .val (.int (0 : Int32)), .val (.int (5 : Int32))] [(.ref aCITATION_OR_SPAM)]))
        refine own_go (fun _ k => XS.aload X269.here hx rfl (hb hby at_183) rfl rfl k) ?_
        show OwnGo p e below _ (T269.setTop (mkF m 185 #[.val (.int p1), .val (.int p2), .val (.int p3), .val (.ref a76), .val (.ref a87), .val (.ref a102), .val (.int (2 : Int32)), .val (.int (0 : Int32)), .val (.int (0 : Int32)), .val (.int (5 : Int32))] [(.ref a102), (.ref aCITATION_OR_SPAM)]))
        refine own_go (fun _ k => XS.iload X269.here hx rfl (hb hby at_185) rfl k) ?_
        show OwnGo p e below _ (T269.setTop (mkF m 187 #[.val (.int p1), .val (.int p2), .val (.int p3), .val (.ref a76), .val (.ref a87), .val (.ref a102), .val (.int (2 : Int32)), .val (.int (0 : Int32)), .val (.int (0 : Int32)), .val (.int (5 : Int32))] [(.int (5 : Int32)), (.ref a102), (.ref aCITATION_OR_SPAM)]))
        have F271 := (V126.keep K269 nin0)
        obtain ⟨c272, Ar272, q272, S272, M272, H272, G272⟩ := (id F271)
        refine own_go (fun _ k => X269.aaload hx (j := (5 : Int32)) (v := (.ref aCITATION_OR_SPAM)) (by rw [e269]; exact Ar272.1) (State.isArrayOf_alike hZ.alike Ar272.2.1) rfl Ar272.2.2 (inb_of S272 ⟨by decide, by decide⟩) (Has.at H272 (inb_of S272 ⟨by decide, by decide⟩) rfl) (g := (mkF m 187 #[.val (.int p1), .val (.int p2), .val (.int p3), .val (.ref a76), .val (.ref a87), .val (.ref a102), .val (.int (2 : Int32)), .val (.int (0 : Int32)), .val (.int (0 : Int32)), .val (.int (5 : Int32))] [(.int (5 : Int32)), (.ref a102), (.ref aCITATION_OR_SPAM)])) rfl rfl (hb hby at_187) _ k) ?_
        show OwnGo p e below _ (T269.setTop (mkF m 188 #[.val (.int p1), .val (.int p2), .val (.int p3), .val (.ref a76), .val (.ref a87), .val (.ref a102), .val (.int (2 : Int32)), .val (.int (0 : Int32)), .val (.int (0 : Int32)), .val (.int (5 : Int32))] [(.ref aCITATION_OR_SPAM), (.ref aCITATION_OR_SPAM)]))
        refine own_go (fun _ k => acmp X269 hx rfl (cd := .ne) (o := 7) (x := (.ref aCITATION_OR_SPAM)) (y := (.ref aCITATION_OR_SPAM)) (pc0 := 188) (pc' := 191) rfl rfl rfl (hb hby at_188) rfl (own_refeq _) (by decide) (by decide) k) ?_
        show OwnGo p e below _ (T269.setTop (mkF m 191 #[.val (.int p1), .val (.int p2), .val (.int p3), .val (.ref a76), .val (.ref a87), .val (.ref a102), .val (.int (2 : Int32)), .val (.int (0 : Int32)), .val (.int (0 : Int32)), .val (.int (5 : Int32))] []))
        refine own_go (fun _ k => XS.iconst X269.here hx rfl (hb hby at_191) k) ?_
        show OwnGo p e below _ (T269.setTop (mkF m 192 #[.val (.int p1), .val (.int p2), .val (.int p3), .val (.ref a76), .val (.ref a87), .val (.ref a102), .val (.int (2 : Int32)), .val (.int (0 : Int32)), .val (.int (0 : Int32)), .val (.int (5 : Int32))] [(.int (1 : Int32))]))
        refine own_go (fun _ k => XS.goto X269.here hx rfl (pc0 := 192) (pc' := 196) rfl (hb hby at_192) (by decide) (by decide) k) ?_
        show OwnGo p e below _ (T269.setTop (mkF m 196 #[.val (.int p1), .val (.int p2), .val (.int p3), .val (.ref a76), .val (.ref a87), .val (.ref a102), .val (.int (2 : Int32)), .val (.int (0 : Int32)), .val (.int (0 : Int32)), .val (.int (5 : Int32))] [(.int (1 : Int32))]))
        obtain ⟨fs, hr, hrun, hended, hEnd⟩ := Jvm.Stand.leaveW (s := s) (vm₁ := T269.vm) X269 hS269 (by rw [e269]; exact (Nat.le_refl _)) (v := some (.int (1 : Int32))) (fun h => by rw [Bd.returns] at h; cases h)
        refine ⟨_, _, retOut X269 hx Bd.returns rfl (Or.inl ⟨rfl, Or.inr (Or.inl rfl), _, rfl⟩) (hb hby at_196) hr, hrun, hended, _, _, rfl, ?_, own_monoW hEnd (by decide) (by decide)⟩
        show Q_law Z aIDENTICAL aCONTAINMENT aPARTIAL aA_TO_B aB_TO_A aBOTH aNONE aMIRROR aTEMPLATE_OR_PLAGIARISM aARCHIVE_PAGE aLINK_LIST_PART aSAME_SITE_RELATED aCITATION_OR_SPAM aSHARED_TEXT_OR_PLAGIARISM aSW kSW p1 p2 p3 h0 n0 _ T269.heap _
        rw [e269]
        exact ⟨rfl, N269⟩
      · rw [hv264]
        show OwnGo p e below _ (T126.setTop (mkF m 127 #[.val (.int p1), .val (.int p2), .val (.int p3), .val (.ref a76), .val (.ref a87), .val (.ref a102), .val (.int (2 : Int32)), .val (.int (0 : Int32)), .unset, .unset] [(.int (1 : Int32))]))
        refine own_go (fun _ k => XS.istore X126.here hx rfl (hb hby at_127) rfl (l' := #[.val (.int p1), .val (.int p2), .val (.int p3), .val (.ref a76), .val (.ref a87), .val (.ref a102), .val (.int (2 : Int32)), .val (.int (0 : Int32)), .val (.int (1 : Int32)), .unset]) rfl k) ?_
        show OwnGo p e below _ (T126.setTop (mkF m 129 #[.val (.int p1), .val (.int p2), .val (.int p3), .val (.ref a76), .val (.ref a87), .val (.ref a102), .val (.int (2 : Int32)), .val (.int (0 : Int32)), .val (.int (1 : Int32)), .unset] []))
        refine own_go (fun _ k => XS.iconst X126.here hx rfl (hb hby at_129) k) ?_
        show OwnGo p e below _ (T126.setTop (mkF m 130 #[.val (.int p1), .val (.int p2), .val (.int p3), .val (.ref a76), .val (.ref a87), .val (.ref a102), .val (.int (2 : Int32)), .val (.int (0 : Int32)), .val (.int (1 : Int32)), .unset] [(.int (2 : Int32))]))
        refine own_go (fun _ k => XS.iload X126.here hx rfl (hb hby at_130) rfl k) ?_
        show OwnGo p e below _ (T126.setTop (mkF m 132 #[.val (.int p1), .val (.int p2), .val (.int p3), .val (.ref a76), .val (.ref a87), .val (.ref a102), .val (.int (2 : Int32)), .val (.int (0 : Int32)), .val (.int (1 : Int32)), .unset] [(.int (2 : Int32)), (.int (2 : Int32))]))
        refine own_go (fun _ k => XS.imul X126.here hx rfl (hb hby at_132) rfl k) ?_
        show OwnGo p e below _ (T126.setTop (mkF m 133 #[.val (.int p1), .val (.int p2), .val (.int p3), .val (.ref a76), .val (.ref a87), .val (.ref a102), .val (.int (2 : Int32)), .val (.int (0 : Int32)), .val (.int (1 : Int32)), .unset] [(.int ((2 : Int32) * (2 : Int32)))]))
        rw [show ((2 : Int32) * (2 : Int32)) = (4 : Int32) from by decide]
        show OwnGo p e below _ (T126.setTop (mkF m 133 #[.val (.int p1), .val (.int p2), .val (.int p3), .val (.ref a76), .val (.ref a87), .val (.ref a102), .val (.int (2 : Int32)), .val (.int (0 : Int32)), .val (.int (1 : Int32)), .unset] [(.int (4 : Int32))]))
        refine own_go (fun _ k => XS.iload X126.here hx rfl (hb hby at_133) rfl k) ?_
        show OwnGo p e below _ (T126.setTop (mkF m 135 #[.val (.int p1), .val (.int p2), .val (.int p3), .val (.ref a76), .val (.ref a87), .val (.ref a102), .val (.int (2 : Int32)), .val (.int (0 : Int32)), .val (.int (1 : Int32)), .unset] [(.int (0 : Int32)), (.int (4 : Int32))]))
        refine own_go (fun _ k => XS.ifYes X126.here hx rfl (pc0 := 135) (pc' := 142) rfl (hb hby at_135) rfl (by decide) (by decide) (by decide) k) ?_
        show OwnGo p e below _ (T126.setTop (mkF m 142 #[.val (.int p1), .val (.int p2), .val (.int p3), .val (.ref a76), .val (.ref a87), .val (.ref a102), .val (.int (2 : Int32)), .val (.int (0 : Int32)), .val (.int (1 : Int32)), .unset] [(.int (4 : Int32))]))
        refine own_go (fun _ k => XS.iconst X126.here hx rfl (hb hby at_142) k) ?_
        show OwnGo p e below _ (T126.setTop (mkF m 143 #[.val (.int p1), .val (.int p2), .val (.int p3), .val (.ref a76), .val (.ref a87), .val (.ref a102), .val (.int (2 : Int32)), .val (.int (0 : Int32)), .val (.int (1 : Int32)), .unset] [(.int (1 : Int32)), (.int (4 : Int32))]))
        refine own_go (fun _ k => XS.iadd X126.here hx rfl (hb hby at_143) rfl k) ?_
        show OwnGo p e below _ (T126.setTop (mkF m 144 #[.val (.int p1), .val (.int p2), .val (.int p3), .val (.ref a76), .val (.ref a87), .val (.ref a102), .val (.int (2 : Int32)), .val (.int (0 : Int32)), .val (.int (1 : Int32)), .unset] [(.int ((4 : Int32) + (1 : Int32)))]))
        rw [show ((4 : Int32) + (1 : Int32)) = (5 : Int32) from by decide]
        show OwnGo p e below _ (T126.setTop (mkF m 144 #[.val (.int p1), .val (.int p2), .val (.int p3), .val (.ref a76), .val (.ref a87), .val (.ref a102), .val (.int (2 : Int32)), .val (.int (0 : Int32)), .val (.int (1 : Int32)), .unset] [(.int (5 : Int32))]))
        refine own_go (fun _ k => XS.iload X126.here hx rfl (hb hby at_144) rfl k) ?_
        show OwnGo p e below _ (T126.setTop (mkF m 146 #[.val (.int p1), .val (.int p2), .val (.int p3), .val (.ref a76), .val (.ref a87), .val (.ref a102), .val (.int (2 : Int32)), .val (.int (0 : Int32)), .val (.int (1 : Int32)), .unset] [(.int (2 : Int32)), (.int (5 : Int32))]))
        refine own_go (fun _ k => XS.iconst X126.here hx rfl (hb hby at_146) k) ?_
        show OwnGo p e below _ (T126.setTop (mkF m 147 #[.val (.int p1), .val (.int p2), .val (.int p3), .val (.ref a76), .val (.ref a87), .val (.ref a102), .val (.int (2 : Int32)), .val (.int (0 : Int32)), .val (.int (1 : Int32)), .unset] [(.int (2 : Int32)), (.int (2 : Int32)), (.int (5 : Int32))]))
        refine own_go (fun _ k => XS.icmpNo X126.here hx rfl (hb hby at_147) rfl (by decide) k) ?_
        show OwnGo p e below _ (T126.setTop (mkF m 150 #[.val (.int p1), .val (.int p2), .val (.int p3), .val (.ref a76), .val (.ref a87), .val (.ref a102), .val (.int (2 : Int32)), .val (.int (0 : Int32)), .val (.int (1 : Int32)), .unset] [(.int (5 : Int32))]))
        refine own_go (fun _ k => XS.iload X126.here hx rfl (hb hby at_150) rfl k) ?_
        show OwnGo p e below _ (T126.setTop (mkF m 152 #[.val (.int p1), .val (.int p2), .val (.int p3), .val (.ref a76), .val (.ref a87), .val (.ref a102), .val (.int (2 : Int32)), .val (.int (0 : Int32)), .val (.int (1 : Int32)), .unset] [(.int (0 : Int32)), (.int (5 : Int32))]))
        refine own_go (fun _ k => XS.ifNo X126.here hx rfl (hb hby at_152) rfl (by decide) k) ?_
        show OwnGo p e below _ (T126.setTop (mkF m 155 #[.val (.int p1), .val (.int p2), .val (.int p3), .val (.ref a76), .val (.ref a87), .val (.ref a102), .val (.int (2 : Int32)), .val (.int (0 : Int32)), .val (.int (1 : Int32)), .unset] [(.int (5 : Int32))]))
        refine own_go (fun _ k => XS.iload X126.here hx rfl (hb hby at_155) rfl k) ?_
        show OwnGo p e below _ (T126.setTop (mkF m 157 #[.val (.int p1), .val (.int p2), .val (.int p3), .val (.ref a76), .val (.ref a87), .val (.ref a102), .val (.int (2 : Int32)), .val (.int (0 : Int32)), .val (.int (1 : Int32)), .unset] [(.int (1 : Int32)), (.int (5 : Int32))]))
        refine own_go (fun _ k => XS.iconst X126.here hx rfl (hb hby at_157) k) ?_
        show OwnGo p e below _ (T126.setTop (mkF m 158 #[.val (.int p1), .val (.int p2), .val (.int p3), .val (.ref a76), .val (.ref a87), .val (.ref a102), .val (.int (2 : Int32)), .val (.int (0 : Int32)), .val (.int (1 : Int32)), .unset] [(.int (3 : Int32)), (.int (1 : Int32)), (.int (5 : Int32))]))
        refine own_go (fun _ k => XS.icmpYes X126.here hx rfl (pc0 := 158) (pc' := 165) rfl (hb hby at_158) rfl (by decide) (by decide) (by decide) k) ?_
        show OwnGo p e below _ (T126.setTop (mkF m 165 #[.val (.int p1), .val (.int p2), .val (.int p3), .val (.ref a76), .val (.ref a87), .val (.ref a102), .val (.int (2 : Int32)), .val (.int (0 : Int32)), .val (.int (1 : Int32)), .unset] [(.int (5 : Int32))]))
        refine own_go (fun _ k => XS.iconst X126.here hx rfl (hb hby at_165) k) ?_
        show OwnGo p e below _ (T126.setTop (mkF m 166 #[.val (.int p1), .val (.int p2), .val (.int p3), .val (.ref a76), .val (.ref a87), .val (.ref a102), .val (.int (2 : Int32)), .val (.int (0 : Int32)), .val (.int (1 : Int32)), .unset] [(.int (0 : Int32)), (.int (5 : Int32))]))
        refine own_go (fun _ k => XS.iadd X126.here hx rfl (hb hby at_166) rfl k) ?_
        show OwnGo p e below _ (T126.setTop (mkF m 167 #[.val (.int p1), .val (.int p2), .val (.int p3), .val (.ref a76), .val (.ref a87), .val (.ref a102), .val (.int (2 : Int32)), .val (.int (0 : Int32)), .val (.int (1 : Int32)), .unset] [(.int ((5 : Int32) + (0 : Int32)))]))
        rw [show ((5 : Int32) + (0 : Int32)) = (5 : Int32) from by decide]
        show OwnGo p e below _ (T126.setTop (mkF m 167 #[.val (.int p1), .val (.int p2), .val (.int p3), .val (.ref a76), .val (.ref a87), .val (.ref a102), .val (.int (2 : Int32)), .val (.int (0 : Int32)), .val (.int (1 : Int32)), .unset] [(.int (5 : Int32))]))
        refine own_go (fun _ k => XS.istore X126.here hx rfl (hb hby at_167) rfl (l' := #[.val (.int p1), .val (.int p2), .val (.int p3), .val (.ref a76), .val (.ref a87), .val (.ref a102), .val (.int (2 : Int32)), .val (.int (0 : Int32)), .val (.int (1 : Int32)), .val (.int (5 : Int32))]) rfl k) ?_
        show OwnGo p e below _ (T126.setTop (mkF m 169 #[.val (.int p1), .val (.int p2), .val (.int p3), .val (.ref a76), .val (.ref a87), .val (.ref a102), .val (.int (2 : Int32)), .val (.int (0 : Int32)), .val (.int (1 : Int32)), .val (.int (5 : Int32))] []))
        refine own_go (fun _ k => XS.aloadN X126.here hx rfl (hb hby at_169) rfl rfl k) ?_
        show OwnGo p e below _ (T126.setTop (mkF m 170 #[.val (.int p1), .val (.int p2), .val (.int p3), .val (.ref a76), .val (.ref a87), .val (.ref a102), .val (.int (2 : Int32)), .val (.int (0 : Int32)), .val (.int (1 : Int32)), .val (.int (5 : Int32))] [(.ref a76)]))
        refine own_go (fun _ k => XS.iload X126.here hx rfl (hb hby at_170) rfl k) ?_
        show OwnGo p e below _ (T126.setTop (mkF m 172 #[.val (.int p1), .val (.int p2), .val (.int p3), .val (.ref a76), .val (.ref a87), .val (.ref a102), .val (.int (2 : Int32)), .val (.int (0 : Int32)), .val (.int (1 : Int32)), .val (.int (5 : Int32))] [(.int (2 : Int32)), (.ref a76)]))
        have F273 := ((((((((F103.ext E102).other W108 ne104).other W111 ne104).other W114 ne104).other W117 ne104).other W120 ne104).other W123 ne104).other W126 ne104)
        obtain ⟨c274, Ar274, q274, S274, M274, H274, G274⟩ := (id F273)
        refine own_go (fun _ k => X126.aaload hx (j := (2 : Int32)) (v := (.ref aPARTIAL)) (by rw [e126]; exact Ar274.1) (State.isArrayOf_alike hZ.alike Ar274.2.1) rfl Ar274.2.2 (inb_of S274 ⟨by decide, by decide⟩) (Has.at H274 (inb_of S274 ⟨by decide, by decide⟩) rfl) (g := (mkF m 172 #[.val (.int p1), .val (.int p2), .val (.int p3), .val (.ref a76), .val (.ref a87), .val (.ref a102), .val (.int (2 : Int32)), .val (.int (0 : Int32)), .val (.int (1 : Int32)), .val (.int (5 : Int32))] [(.int (2 : Int32)), (.ref a76)])) rfl rfl (hb hby at_172) _ k) ?_
        show OwnGo p e below _ (T126.setTop (mkF m 173 #[.val (.int p1), .val (.int p2), .val (.int p3), .val (.ref a76), .val (.ref a87), .val (.ref a102), .val (.int (2 : Int32)), .val (.int (0 : Int32)), .val (.int (1 : Int32)), .val (.int (5 : Int32))] [(.ref aPARTIAL)]))
        refine own_go (fun _ k => XS.iload X126.here hx rfl (hb hby at_173) rfl k) ?_
        show OwnGo p e below _ (T126.setTop (mkF m 175 #[.val (.int p1), .val (.int p2), .val (.int p3), .val (.ref a76), .val (.ref a87), .val (.ref a102), .val (.int (2 : Int32)), .val (.int (0 : Int32)), .val (.int (1 : Int32)), .val (.int (5 : Int32))] [(.int (0 : Int32)), (.ref aPARTIAL)]))
        refine own_go (fun _ k => XS.aload X126.here hx rfl (hb hby at_175) rfl rfl k) ?_
        show OwnGo p e below _ (T126.setTop (mkF m 177 #[.val (.int p1), .val (.int p2), .val (.int p3), .val (.ref a76), .val (.ref a87), .val (.ref a102), .val (.int (2 : Int32)), .val (.int (0 : Int32)), .val (.int (1 : Int32)), .val (.int (5 : Int32))] [(.ref a87), (.int (0 : Int32)), (.ref aPARTIAL)]))
        refine own_go (fun _ k => XS.iload X126.here hx rfl (hb hby at_177) rfl k) ?_
        show OwnGo p e below _ (T126.setTop (mkF m 179 #[.val (.int p1), .val (.int p2), .val (.int p3), .val (.ref a76), .val (.ref a87), .val (.ref a102), .val (.int (2 : Int32)), .val (.int (0 : Int32)), .val (.int (1 : Int32)), .val (.int (5 : Int32))] [(.int (1 : Int32)), (.ref a87), (.int (0 : Int32)), (.ref aPARTIAL)]))
        have F275 := ((((((((V100.ext E102).other W108 ne105).other W111 ne105).other W114 ne105).other W117 ne105).other W120 ne105).other W123 ne105).other W126 ne105)
        obtain ⟨c276, Ar276, q276, S276, M276, H276, G276⟩ := (id F275)
        refine own_go (fun _ k => X126.aaload hx (j := (1 : Int32)) (v := (.ref aB_TO_A)) (by rw [e126]; exact Ar276.1) (State.isArrayOf_alike hZ.alike Ar276.2.1) rfl Ar276.2.2 (inb_of S276 ⟨by decide, by decide⟩) (Has.at H276 (inb_of S276 ⟨by decide, by decide⟩) rfl) (g := (mkF m 179 #[.val (.int p1), .val (.int p2), .val (.int p3), .val (.ref a76), .val (.ref a87), .val (.ref a102), .val (.int (2 : Int32)), .val (.int (0 : Int32)), .val (.int (1 : Int32)), .val (.int (5 : Int32))] [(.int (1 : Int32)), (.ref a87), (.int (0 : Int32)), (.ref aPARTIAL)])) rfl rfl (hb hby at_179) _ k) ?_
        show OwnGo p e below _ (T126.setTop (mkF m 180 #[.val (.int p1), .val (.int p2), .val (.int p3), .val (.ref a76), .val (.ref a87), .val (.ref a102), .val (.int (2 : Int32)), .val (.int (0 : Int32)), .val (.int (1 : Int32)), .val (.int (5 : Int32))] [(.ref aB_TO_A), (.int (0 : Int32)), (.ref aPARTIAL)]))
        obtain ⟨_, _, ⟨T277, L277, k277, n277⟩, -, X277, hS277, hg277, ⟨Lc277, hQ277, l277, y277, z277⟩, st277⟩ := callSS X126 hx (y := (⟨"com/example/page_copy_finder/pagecopyfinder/copies/PairLabel", "of", "(Lcom/example/page_copy_finder/pagecopyfinder/copies/PairKind;ZLcom/example/page_copy_finder/pagecopyfinder/copies/PairLinks;)Lcom/example/page_copy_finder/pagecopyfinder/copies/PairLabel;"⟩ : MethodName)) hown (mvT hZ (hw _ (List.mem_of_getElem? (i := 41) rfl))) (mvT hZ (hw _ (List.mem_of_getElem? (i := 42) rfl))) (mvT hZ (hw _ (List.mem_of_getElem? (i := 25) rfl))) (mvT hZ (hw _ (List.mem_of_getElem? (i := 43) rfl))) (by decide) (backOfS (W := 0) (rm_of20 l Z a0 hw [] aIDENTICAL aCONTAINMENT aPARTIAL aA_TO_B aB_TO_A aBOTH aNONE aMIRROR aTEMPLATE_OR_PLAGIARISM aARCHIVE_PAGE aLINK_LIST_PART aSAME_SITE_RELATED aCITATION_OR_SPAM aSHARED_TEXT_OR_PLAGIARISM aSW kSW F0 aB_TO_A h126 n0 O126 (Fld.ne F0.2.2.2.2.2.2.2.2.2.2.2.2.2.2.2.2.2.2.2.2.2.2.2.2.2.2.2.2.2.2.2.1 F0.2.2.2.2.2.2.2.2.2.2.2.2.2.2.2.2.2.2.2.2.2.2.2.2.2.2.2.2.2.2.2.2.1 (by simp))) hZ (hw _ (List.mem_of_getElem? (i := 43) rfl)) (hw _ (List.mem_of_getElem? (i := 25) rfl)) (by decide) (by decide)) (g := (mkF m 180 #[.val (.int p1), .val (.int p2), .val (.int p3), .val (.ref a76), .val (.ref a87), .val (.ref a102), .val (.int (2 : Int32)), .val (.int (0 : Int32)), .val (.int (1 : Int32)), .val (.int (5 : Int32))] [(.ref aB_TO_A), (.int (0 : Int32)), (.ref aPARTIAL)])) rfl (by rw [hml]; rfl) (argsL := [(.ref aPARTIAL), (.int (0 : Int32)), (.ref aB_TO_A)]) (rest := []) (lenOf pd_Lcom_example_page_copy_finder_pagecopyfinder_copies_PairKind__Z_Lcom_example_page_copy_finder_pagecopyfinder_copies_PairLinks___Lcom_example_page_copy_finder_pagecopyfinder_copies_PairLabel_ rfl) rfl (by show 2 * 0 + _ ≤ _; exact Nat.le_of_eq rfl) (hb hby at_180) (fun _ _ => ⟨rfl, e126, (by decide : 3 + 4 ≤ _), (by decide : 14 + 44 ≤ _)⟩)
        dsimp only [Pt.U, Pt.locs, Pt.cells, Pt.slots] at X277 l277 y277 z277 st277 hQ277 hS277 hg277
        subst l277 y277 z277
        obtain ⟨rfl, Nq277, K277⟩ := hQ277
        have N277 := Fr.app N126 Nq277
        have hZ : Z.Warmed39 (s.setVm T277.vm).vm := State.Warmed39.trans hZ hS277.1
        have hown : (s.setVm T277.vm).vm.findClass "com/example/page_copy_finder/pagecopyfinder/copies/PairLabelOfPinLaw" = some m.cls := (hS277.1.alike.findClass _ _).trans hown
        have O277 := O126.keep K277 all0
        have e277 : T277.heap = T277.heap := rfl
        have z278 : h0.size ≤ T277.heap.size := Nat.le_trans z127 K277.1
        refine own_go (fun _ k => st277.trans k) ?_
        show OwnGo p e below _ (T277.setTop (mkF m 183 #[.val (.int p1), .val (.int p2), .val (.int p3), .val (.ref a76), .val (.ref a87), .val (.ref a102), .val (.int (2 : Int32)), .val (.int (0 : Int32)), .val (.int (1 : Int32)), .val (.int (5 : Int32))] [(.ref aCITATION_OR_SPAM)]))
        refine own_go (fun _ k => XS.aload X277.here hx rfl (hb hby at_183) rfl rfl k) ?_
        show OwnGo p e below _ (T277.setTop (mkF m 185 #[.val (.int p1), .val (.int p2), .val (.int p3), .val (.ref a76), .val (.ref a87), .val (.ref a102), .val (.int (2 : Int32)), .val (.int (0 : Int32)), .val (.int (1 : Int32)), .val (.int (5 : Int32))] [(.ref a102), (.ref aCITATION_OR_SPAM)]))
        refine own_go (fun _ k => XS.iload X277.here hx rfl (hb hby at_185) rfl k) ?_
        show OwnGo p e below _ (T277.setTop (mkF m 187 #[.val (.int p1), .val (.int p2), .val (.int p3), .val (.ref a76), .val (.ref a87), .val (.ref a102), .val (.int (2 : Int32)), .val (.int (0 : Int32)), .val (.int (1 : Int32)), .val (.int (5 : Int32))] [(.int (5 : Int32)), (.ref a102), (.ref aCITATION_OR_SPAM)]))
        have F279 := (V126.keep K277 nin0)
        obtain ⟨c280, Ar280, q280, S280, M280, H280, G280⟩ := (id F279)
        refine own_go (fun _ k => X277.aaload hx (j := (5 : Int32)) (v := (.ref aCITATION_OR_SPAM)) (by rw [e277]; exact Ar280.1) (State.isArrayOf_alike hZ.alike Ar280.2.1) rfl Ar280.2.2 (inb_of S280 ⟨by decide, by decide⟩) (Has.at H280 (inb_of S280 ⟨by decide, by decide⟩) rfl) (g := (mkF m 187 #[.val (.int p1), .val (.int p2), .val (.int p3), .val (.ref a76), .val (.ref a87), .val (.ref a102), .val (.int (2 : Int32)), .val (.int (0 : Int32)), .val (.int (1 : Int32)), .val (.int (5 : Int32))] [(.int (5 : Int32)), (.ref a102), (.ref aCITATION_OR_SPAM)])) rfl rfl (hb hby at_187) _ k) ?_
        show OwnGo p e below _ (T277.setTop (mkF m 188 #[.val (.int p1), .val (.int p2), .val (.int p3), .val (.ref a76), .val (.ref a87), .val (.ref a102), .val (.int (2 : Int32)), .val (.int (0 : Int32)), .val (.int (1 : Int32)), .val (.int (5 : Int32))] [(.ref aCITATION_OR_SPAM), (.ref aCITATION_OR_SPAM)]))
        refine own_go (fun _ k => acmp X277 hx rfl (cd := .ne) (o := 7) (x := (.ref aCITATION_OR_SPAM)) (y := (.ref aCITATION_OR_SPAM)) (pc0 := 188) (pc' := 191) rfl rfl rfl (hb hby at_188) rfl (own_refeq _) (by decide) (by decide) k) ?_
        show OwnGo p e below _ (T277.setTop (mkF m 191 #[.val (.int p1), .val (.int p2), .val (.int p3), .val (.ref a76), .val (.ref a87), .val (.ref a102), .val (.int (2 : Int32)), .val (.int (0 : Int32)), .val (.int (1 : Int32)), .val (.int (5 : Int32))] []))
        refine own_go (fun _ k => XS.iconst X277.here hx rfl (hb hby at_191) k) ?_
        show OwnGo p e below _ (T277.setTop (mkF m 192 #[.val (.int p1), .val (.int p2), .val (.int p3), .val (.ref a76), .val (.ref a87), .val (.ref a102), .val (.int (2 : Int32)), .val (.int (0 : Int32)), .val (.int (1 : Int32)), .val (.int (5 : Int32))] [(.int (1 : Int32))]))
        refine own_go (fun _ k => XS.goto X277.here hx rfl (pc0 := 192) (pc' := 196) rfl (hb hby at_192) (by decide) (by decide) k) ?_
        show OwnGo p e below _ (T277.setTop (mkF m 196 #[.val (.int p1), .val (.int p2), .val (.int p3), .val (.ref a76), .val (.ref a87), .val (.ref a102), .val (.int (2 : Int32)), .val (.int (0 : Int32)), .val (.int (1 : Int32)), .val (.int (5 : Int32))] [(.int (1 : Int32))]))
        obtain ⟨fs, hr, hrun, hended, hEnd⟩ := Jvm.Stand.leaveW (s := s) (vm₁ := T277.vm) X277 hS277 (by rw [e277]; exact (Nat.le_refl _)) (v := some (.int (1 : Int32))) (fun h => by rw [Bd.returns] at h; cases h)
        refine ⟨_, _, retOut X277 hx Bd.returns rfl (Or.inl ⟨rfl, Or.inr (Or.inl rfl), _, rfl⟩) (hb hby at_196) hr, hrun, hended, _, _, rfl, ?_, own_monoW hEnd (by decide) (by decide)⟩
        show Q_law Z aIDENTICAL aCONTAINMENT aPARTIAL aA_TO_B aB_TO_A aBOTH aNONE aMIRROR aTEMPLATE_OR_PLAGIARISM aARCHIVE_PAGE aLINK_LIST_PART aSAME_SITE_RELATED aCITATION_OR_SPAM aSHARED_TEXT_OR_PLAGIARISM aSW kSW p1 p2 p3 h0 n0 _ T277.heap _
        rw [e277]
        exact ⟨rfl, N277⟩
      · rw [hv264]
        show OwnGo p e below _ (T126.setTop (mkF m 127 #[.val (.int p1), .val (.int p2), .val (.int p3), .val (.ref a76), .val (.ref a87), .val (.ref a102), .val (.int (2 : Int32)), .val (.int (0 : Int32)), .unset, .unset] [(.int (2 : Int32))]))
        refine own_go (fun _ k => XS.istore X126.here hx rfl (hb hby at_127) rfl (l' := #[.val (.int p1), .val (.int p2), .val (.int p3), .val (.ref a76), .val (.ref a87), .val (.ref a102), .val (.int (2 : Int32)), .val (.int (0 : Int32)), .val (.int (2 : Int32)), .unset]) rfl k) ?_
        show OwnGo p e below _ (T126.setTop (mkF m 129 #[.val (.int p1), .val (.int p2), .val (.int p3), .val (.ref a76), .val (.ref a87), .val (.ref a102), .val (.int (2 : Int32)), .val (.int (0 : Int32)), .val (.int (2 : Int32)), .unset] []))
        refine own_go (fun _ k => XS.iconst X126.here hx rfl (hb hby at_129) k) ?_
        show OwnGo p e below _ (T126.setTop (mkF m 130 #[.val (.int p1), .val (.int p2), .val (.int p3), .val (.ref a76), .val (.ref a87), .val (.ref a102), .val (.int (2 : Int32)), .val (.int (0 : Int32)), .val (.int (2 : Int32)), .unset] [(.int (2 : Int32))]))
        refine own_go (fun _ k => XS.iload X126.here hx rfl (hb hby at_130) rfl k) ?_
        show OwnGo p e below _ (T126.setTop (mkF m 132 #[.val (.int p1), .val (.int p2), .val (.int p3), .val (.ref a76), .val (.ref a87), .val (.ref a102), .val (.int (2 : Int32)), .val (.int (0 : Int32)), .val (.int (2 : Int32)), .unset] [(.int (2 : Int32)), (.int (2 : Int32))]))
        refine own_go (fun _ k => XS.imul X126.here hx rfl (hb hby at_132) rfl k) ?_
        show OwnGo p e below _ (T126.setTop (mkF m 133 #[.val (.int p1), .val (.int p2), .val (.int p3), .val (.ref a76), .val (.ref a87), .val (.ref a102), .val (.int (2 : Int32)), .val (.int (0 : Int32)), .val (.int (2 : Int32)), .unset] [(.int ((2 : Int32) * (2 : Int32)))]))
        rw [show ((2 : Int32) * (2 : Int32)) = (4 : Int32) from by decide]
        show OwnGo p e below _ (T126.setTop (mkF m 133 #[.val (.int p1), .val (.int p2), .val (.int p3), .val (.ref a76), .val (.ref a87), .val (.ref a102), .val (.int (2 : Int32)), .val (.int (0 : Int32)), .val (.int (2 : Int32)), .unset] [(.int (4 : Int32))]))
        refine own_go (fun _ k => XS.iload X126.here hx rfl (hb hby at_133) rfl k) ?_
        show OwnGo p e below _ (T126.setTop (mkF m 135 #[.val (.int p1), .val (.int p2), .val (.int p3), .val (.ref a76), .val (.ref a87), .val (.ref a102), .val (.int (2 : Int32)), .val (.int (0 : Int32)), .val (.int (2 : Int32)), .unset] [(.int (0 : Int32)), (.int (4 : Int32))]))
        refine own_go (fun _ k => XS.ifYes X126.here hx rfl (pc0 := 135) (pc' := 142) rfl (hb hby at_135) rfl (by decide) (by decide) (by decide) k) ?_
        show OwnGo p e below _ (T126.setTop (mkF m 142 #[.val (.int p1), .val (.int p2), .val (.int p3), .val (.ref a76), .val (.ref a87), .val (.ref a102), .val (.int (2 : Int32)), .val (.int (0 : Int32)), .val (.int (2 : Int32)), .unset] [(.int (4 : Int32))]))
        refine own_go (fun _ k => XS.iconst X126.here hx rfl (hb hby at_142) k) ?_
        show OwnGo p e below _ (T126.setTop (mkF m 143 #[.val (.int p1), .val (.int p2), .val (.int p3), .val (.ref a76), .val (.ref a87), .val (.ref a102), .val (.int (2 : Int32)), .val (.int (0 : Int32)), .val (.int (2 : Int32)), .unset] [(.int (1 : Int32)), (.int (4 : Int32))]))
        refine own_go (fun _ k => XS.iadd X126.here hx rfl (hb hby at_143) rfl k) ?_
        show OwnGo p e below _ (T126.setTop (mkF m 144 #[.val (.int p1), .val (.int p2), .val (.int p3), .val (.ref a76), .val (.ref a87), .val (.ref a102), .val (.int (2 : Int32)), .val (.int (0 : Int32)), .val (.int (2 : Int32)), .unset] [(.int ((4 : Int32) + (1 : Int32)))]))
        rw [show ((4 : Int32) + (1 : Int32)) = (5 : Int32) from by decide]
        show OwnGo p e below _ (T126.setTop (mkF m 144 #[.val (.int p1), .val (.int p2), .val (.int p3), .val (.ref a76), .val (.ref a87), .val (.ref a102), .val (.int (2 : Int32)), .val (.int (0 : Int32)), .val (.int (2 : Int32)), .unset] [(.int (5 : Int32))]))
        refine own_go (fun _ k => XS.iload X126.here hx rfl (hb hby at_144) rfl k) ?_
        show OwnGo p e below _ (T126.setTop (mkF m 146 #[.val (.int p1), .val (.int p2), .val (.int p3), .val (.ref a76), .val (.ref a87), .val (.ref a102), .val (.int (2 : Int32)), .val (.int (0 : Int32)), .val (.int (2 : Int32)), .unset] [(.int (2 : Int32)), (.int (5 : Int32))]))
        refine own_go (fun _ k => XS.iconst X126.here hx rfl (hb hby at_146) k) ?_
        show OwnGo p e below _ (T126.setTop (mkF m 147 #[.val (.int p1), .val (.int p2), .val (.int p3), .val (.ref a76), .val (.ref a87), .val (.ref a102), .val (.int (2 : Int32)), .val (.int (0 : Int32)), .val (.int (2 : Int32)), .unset] [(.int (2 : Int32)), (.int (2 : Int32)), (.int (5 : Int32))]))
        refine own_go (fun _ k => XS.icmpNo X126.here hx rfl (hb hby at_147) rfl (by decide) k) ?_
        show OwnGo p e below _ (T126.setTop (mkF m 150 #[.val (.int p1), .val (.int p2), .val (.int p3), .val (.ref a76), .val (.ref a87), .val (.ref a102), .val (.int (2 : Int32)), .val (.int (0 : Int32)), .val (.int (2 : Int32)), .unset] [(.int (5 : Int32))]))
        refine own_go (fun _ k => XS.iload X126.here hx rfl (hb hby at_150) rfl k) ?_
        show OwnGo p e below _ (T126.setTop (mkF m 152 #[.val (.int p1), .val (.int p2), .val (.int p3), .val (.ref a76), .val (.ref a87), .val (.ref a102), .val (.int (2 : Int32)), .val (.int (0 : Int32)), .val (.int (2 : Int32)), .unset] [(.int (0 : Int32)), (.int (5 : Int32))]))
        refine own_go (fun _ k => XS.ifNo X126.here hx rfl (hb hby at_152) rfl (by decide) k) ?_
        show OwnGo p e below _ (T126.setTop (mkF m 155 #[.val (.int p1), .val (.int p2), .val (.int p3), .val (.ref a76), .val (.ref a87), .val (.ref a102), .val (.int (2 : Int32)), .val (.int (0 : Int32)), .val (.int (2 : Int32)), .unset] [(.int (5 : Int32))]))
        refine own_go (fun _ k => XS.iload X126.here hx rfl (hb hby at_155) rfl k) ?_
        show OwnGo p e below _ (T126.setTop (mkF m 157 #[.val (.int p1), .val (.int p2), .val (.int p3), .val (.ref a76), .val (.ref a87), .val (.ref a102), .val (.int (2 : Int32)), .val (.int (0 : Int32)), .val (.int (2 : Int32)), .unset] [(.int (2 : Int32)), (.int (5 : Int32))]))
        refine own_go (fun _ k => XS.iconst X126.here hx rfl (hb hby at_157) k) ?_
        show OwnGo p e below _ (T126.setTop (mkF m 158 #[.val (.int p1), .val (.int p2), .val (.int p3), .val (.ref a76), .val (.ref a87), .val (.ref a102), .val (.int (2 : Int32)), .val (.int (0 : Int32)), .val (.int (2 : Int32)), .unset] [(.int (3 : Int32)), (.int (2 : Int32)), (.int (5 : Int32))]))
        refine own_go (fun _ k => XS.icmpYes X126.here hx rfl (pc0 := 158) (pc' := 165) rfl (hb hby at_158) rfl (by decide) (by decide) (by decide) k) ?_
        show OwnGo p e below _ (T126.setTop (mkF m 165 #[.val (.int p1), .val (.int p2), .val (.int p3), .val (.ref a76), .val (.ref a87), .val (.ref a102), .val (.int (2 : Int32)), .val (.int (0 : Int32)), .val (.int (2 : Int32)), .unset] [(.int (5 : Int32))]))
        refine own_go (fun _ k => XS.iconst X126.here hx rfl (hb hby at_165) k) ?_
        show OwnGo p e below _ (T126.setTop (mkF m 166 #[.val (.int p1), .val (.int p2), .val (.int p3), .val (.ref a76), .val (.ref a87), .val (.ref a102), .val (.int (2 : Int32)), .val (.int (0 : Int32)), .val (.int (2 : Int32)), .unset] [(.int (0 : Int32)), (.int (5 : Int32))]))
        refine own_go (fun _ k => XS.iadd X126.here hx rfl (hb hby at_166) rfl k) ?_
        show OwnGo p e below _ (T126.setTop (mkF m 167 #[.val (.int p1), .val (.int p2), .val (.int p3), .val (.ref a76), .val (.ref a87), .val (.ref a102), .val (.int (2 : Int32)), .val (.int (0 : Int32)), .val (.int (2 : Int32)), .unset] [(.int ((5 : Int32) + (0 : Int32)))]))
        rw [show ((5 : Int32) + (0 : Int32)) = (5 : Int32) from by decide]
        show OwnGo p e below _ (T126.setTop (mkF m 167 #[.val (.int p1), .val (.int p2), .val (.int p3), .val (.ref a76), .val (.ref a87), .val (.ref a102), .val (.int (2 : Int32)), .val (.int (0 : Int32)), .val (.int (2 : Int32)), .unset] [(.int (5 : Int32))]))
        refine own_go (fun _ k => XS.istore X126.here hx rfl (hb hby at_167) rfl (l' := #[.val (.int p1), .val (.int p2), .val (.int p3), .val (.ref a76), .val (.ref a87), .val (.ref a102), .val (.int (2 : Int32)), .val (.int (0 : Int32)), .val (.int (2 : Int32)), .val (.int (5 : Int32))]) rfl k) ?_
        show OwnGo p e below _ (T126.setTop (mkF m 169 #[.val (.int p1), .val (.int p2), .val (.int p3), .val (.ref a76), .val (.ref a87), .val (.ref a102), .val (.int (2 : Int32)), .val (.int (0 : Int32)), .val (.int (2 : Int32)), .val (.int (5 : Int32))] []))
        refine own_go (fun _ k => XS.aloadN X126.here hx rfl (hb hby at_169) rfl rfl k) ?_
        show OwnGo p e below _ (T126.setTop (mkF m 170 #[.val (.int p1), .val (.int p2), .val (.int p3), .val (.ref a76), .val (.ref a87), .val (.ref a102), .val (.int (2 : Int32)), .val (.int (0 : Int32)), .val (.int (2 : Int32)), .val (.int (5 : Int32))] [(.ref a76)]))
        refine own_go (fun _ k => XS.iload X126.here hx rfl (hb hby at_170) rfl k) ?_
        show OwnGo p e below _ (T126.setTop (mkF m 172 #[.val (.int p1), .val (.int p2), .val (.int p3), .val (.ref a76), .val (.ref a87), .val (.ref a102), .val (.int (2 : Int32)), .val (.int (0 : Int32)), .val (.int (2 : Int32)), .val (.int (5 : Int32))] [(.int (2 : Int32)), (.ref a76)]))
        have F281 := ((((((((F103.ext E102).other W108 ne104).other W111 ne104).other W114 ne104).other W117 ne104).other W120 ne104).other W123 ne104).other W126 ne104)
        obtain ⟨c282, Ar282, q282, S282, M282, H282, G282⟩ := (id F281)
        refine own_go (fun _ k => X126.aaload hx (j := (2 : Int32)) (v := (.ref aPARTIAL)) (by rw [e126]; exact Ar282.1) (State.isArrayOf_alike hZ.alike Ar282.2.1) rfl Ar282.2.2 (inb_of S282 ⟨by decide, by decide⟩) (Has.at H282 (inb_of S282 ⟨by decide, by decide⟩) rfl) (g := (mkF m 172 #[.val (.int p1), .val (.int p2), .val (.int p3), .val (.ref a76), .val (.ref a87), .val (.ref a102), .val (.int (2 : Int32)), .val (.int (0 : Int32)), .val (.int (2 : Int32)), .val (.int (5 : Int32))] [(.int (2 : Int32)), (.ref a76)])) rfl rfl (hb hby at_172) _ k) ?_
        show OwnGo p e below _ (T126.setTop (mkF m 173 #[.val (.int p1), .val (.int p2), .val (.int p3), .val (.ref a76), .val (.ref a87), .val (.ref a102), .val (.int (2 : Int32)), .val (.int (0 : Int32)), .val (.int (2 : Int32)), .val (.int (5 : Int32))] [(.ref aPARTIAL)]))
        refine own_go (fun _ k => XS.iload X126.here hx rfl (hb hby at_173) rfl k) ?_
        show OwnGo p e below _ (T126.setTop (mkF m 175 #[.val (.int p1), .val (.int p2), .val (.int p3), .val (.ref a76), .val (.ref a87), .val (.ref a102), .val (.int (2 : Int32)), .val (.int (0 : Int32)), .val (.int (2 : Int32)), .val (.int (5 : Int32))] [(.int (0 : Int32)), (.ref aPARTIAL)]))
        refine own_go (fun _ k => XS.aload X126.here hx rfl (hb hby at_175) rfl rfl k) ?_
        show OwnGo p e below _ (T126.setTop (mkF m 177 #[.val (.int p1), .val (.int p2), .val (.int p3), .val (.ref a76), .val (.ref a87), .val (.ref a102), .val (.int (2 : Int32)), .val (.int (0 : Int32)), .val (.int (2 : Int32)), .val (.int (5 : Int32))] [(.ref a87), (.int (0 : Int32)), (.ref aPARTIAL)]))
        refine own_go (fun _ k => XS.iload X126.here hx rfl (hb hby at_177) rfl k) ?_
        show OwnGo p e below _ (T126.setTop (mkF m 179 #[.val (.int p1), .val (.int p2), .val (.int p3), .val (.ref a76), .val (.ref a87), .val (.ref a102), .val (.int (2 : Int32)), .val (.int (0 : Int32)), .val (.int (2 : Int32)), .val (.int (5 : Int32))] [(.int (2 : Int32)), (.ref a87), (.int (0 : Int32)), (.ref aPARTIAL)]))
        have F283 := ((((((((V100.ext E102).other W108 ne105).other W111 ne105).other W114 ne105).other W117 ne105).other W120 ne105).other W123 ne105).other W126 ne105)
        obtain ⟨c284, Ar284, q284, S284, M284, H284, G284⟩ := (id F283)
        refine own_go (fun _ k => X126.aaload hx (j := (2 : Int32)) (v := (.ref aBOTH)) (by rw [e126]; exact Ar284.1) (State.isArrayOf_alike hZ.alike Ar284.2.1) rfl Ar284.2.2 (inb_of S284 ⟨by decide, by decide⟩) (Has.at H284 (inb_of S284 ⟨by decide, by decide⟩) rfl) (g := (mkF m 179 #[.val (.int p1), .val (.int p2), .val (.int p3), .val (.ref a76), .val (.ref a87), .val (.ref a102), .val (.int (2 : Int32)), .val (.int (0 : Int32)), .val (.int (2 : Int32)), .val (.int (5 : Int32))] [(.int (2 : Int32)), (.ref a87), (.int (0 : Int32)), (.ref aPARTIAL)])) rfl rfl (hb hby at_179) _ k) ?_
        show OwnGo p e below _ (T126.setTop (mkF m 180 #[.val (.int p1), .val (.int p2), .val (.int p3), .val (.ref a76), .val (.ref a87), .val (.ref a102), .val (.int (2 : Int32)), .val (.int (0 : Int32)), .val (.int (2 : Int32)), .val (.int (5 : Int32))] [(.ref aBOTH), (.int (0 : Int32)), (.ref aPARTIAL)]))
        obtain ⟨_, _, ⟨T285, L285, k285, n285⟩, -, X285, hS285, hg285, ⟨Lc285, hQ285, l285, y285, z285⟩, st285⟩ := callSS X126 hx (y := (⟨"com/example/page_copy_finder/pagecopyfinder/copies/PairLabel", "of", "(Lcom/example/page_copy_finder/pagecopyfinder/copies/PairKind;ZLcom/example/page_copy_finder/pagecopyfinder/copies/PairLinks;)Lcom/example/page_copy_finder/pagecopyfinder/copies/PairLabel;"⟩ : MethodName)) hown (mvT hZ (hw _ (List.mem_of_getElem? (i := 41) rfl))) (mvT hZ (hw _ (List.mem_of_getElem? (i := 42) rfl))) (mvT hZ (hw _ (List.mem_of_getElem? (i := 25) rfl))) (mvT hZ (hw _ (List.mem_of_getElem? (i := 43) rfl))) (by decide) (backOfS (W := 0) (rm_of20 l Z a0 hw [] aIDENTICAL aCONTAINMENT aPARTIAL aA_TO_B aB_TO_A aBOTH aNONE aMIRROR aTEMPLATE_OR_PLAGIARISM aARCHIVE_PAGE aLINK_LIST_PART aSAME_SITE_RELATED aCITATION_OR_SPAM aSHARED_TEXT_OR_PLAGIARISM aSW kSW F0 aBOTH h126 n0 O126 (Fld.ne F0.2.2.2.2.2.2.2.2.2.2.2.2.2.2.2.2.2.2.2.2.2.2.2.2.2.2.2.2.2.2.2.2.2.2.1 F0.2.2.2.2.2.2.2.2.2.2.2.2.2.2.2.2.2.2.2.2.2.2.2.2.2.2.2.2.2.2.2.2.1 (by simp))) hZ (hw _ (List.mem_of_getElem? (i := 43) rfl)) (hw _ (List.mem_of_getElem? (i := 25) rfl)) (by decide) (by decide)) (g := (mkF m 180 #[.val (.int p1), .val (.int p2), .val (.int p3), .val (.ref a76), .val (.ref a87), .val (.ref a102), .val (.int (2 : Int32)), .val (.int (0 : Int32)), .val (.int (2 : Int32)), .val (.int (5 : Int32))] [(.ref aBOTH), (.int (0 : Int32)), (.ref aPARTIAL)])) rfl (by rw [hml]; rfl) (argsL := [(.ref aPARTIAL), (.int (0 : Int32)), (.ref aBOTH)]) (rest := []) (lenOf pd_Lcom_example_page_copy_finder_pagecopyfinder_copies_PairKind__Z_Lcom_example_page_copy_finder_pagecopyfinder_copies_PairLinks___Lcom_example_page_copy_finder_pagecopyfinder_copies_PairLabel_ rfl) rfl (by show 2 * 0 + _ ≤ _; exact Nat.le_of_eq rfl) (hb hby at_180) (fun _ _ => ⟨rfl, e126, (by decide : 3 + 4 ≤ _), (by decide : 14 + 44 ≤ _)⟩)
        dsimp only [Pt.U, Pt.locs, Pt.cells, Pt.slots] at X285 l285 y285 z285 st285 hQ285 hS285 hg285
        subst l285 y285 z285
        obtain ⟨rfl, Nq285, K285⟩ := hQ285
        have N285 := Fr.app N126 Nq285
        have hZ : Z.Warmed39 (s.setVm T285.vm).vm := State.Warmed39.trans hZ hS285.1
        have hown : (s.setVm T285.vm).vm.findClass "com/example/page_copy_finder/pagecopyfinder/copies/PairLabelOfPinLaw" = some m.cls := (hS285.1.alike.findClass _ _).trans hown
        have O285 := O126.keep K285 all0
        have e285 : T285.heap = T285.heap := rfl
        have z286 : h0.size ≤ T285.heap.size := Nat.le_trans z127 K285.1
        refine own_go (fun _ k => st285.trans k) ?_
        show OwnGo p e below _ (T285.setTop (mkF m 183 #[.val (.int p1), .val (.int p2), .val (.int p3), .val (.ref a76), .val (.ref a87), .val (.ref a102), .val (.int (2 : Int32)), .val (.int (0 : Int32)), .val (.int (2 : Int32)), .val (.int (5 : Int32))] [(.ref aCITATION_OR_SPAM)]))
        refine own_go (fun _ k => XS.aload X285.here hx rfl (hb hby at_183) rfl rfl k) ?_
        show OwnGo p e below _ (T285.setTop (mkF m 185 #[.val (.int p1), .val (.int p2), .val (.int p3), .val (.ref a76), .val (.ref a87), .val (.ref a102), .val (.int (2 : Int32)), .val (.int (0 : Int32)), .val (.int (2 : Int32)), .val (.int (5 : Int32))] [(.ref a102), (.ref aCITATION_OR_SPAM)]))
        refine own_go (fun _ k => XS.iload X285.here hx rfl (hb hby at_185) rfl k) ?_
        show OwnGo p e below _ (T285.setTop (mkF m 187 #[.val (.int p1), .val (.int p2), .val (.int p3), .val (.ref a76), .val (.ref a87), .val (.ref a102), .val (.int (2 : Int32)), .val (.int (0 : Int32)), .val (.int (2 : Int32)), .val (.int (5 : Int32))] [(.int (5 : Int32)), (.ref a102), (.ref aCITATION_OR_SPAM)]))
        have F287 := (V126.keep K285 nin0)
        obtain ⟨c288, Ar288, q288, S288, M288, H288, G288⟩ := (id F287)
        refine own_go (fun _ k => X285.aaload hx (j := (5 : Int32)) (v := (.ref aCITATION_OR_SPAM)) (by rw [e285]; exact Ar288.1) (State.isArrayOf_alike hZ.alike Ar288.2.1) rfl Ar288.2.2 (inb_of S288 ⟨by decide, by decide⟩) (Has.at H288 (inb_of S288 ⟨by decide, by decide⟩) rfl) (g := (mkF m 187 #[.val (.int p1), .val (.int p2), .val (.int p3), .val (.ref a76), .val (.ref a87), .val (.ref a102), .val (.int (2 : Int32)), .val (.int (0 : Int32)), .val (.int (2 : Int32)), .val (.int (5 : Int32))] [(.int (5 : Int32)), (.ref a102), (.ref aCITATION_OR_SPAM)])) rfl rfl (hb hby at_187) _ k) ?_
        show OwnGo p e below _ (T285.setTop (mkF m 188 #[.val (.int p1), .val (.int p2), .val (.int p3), .val (.ref a76), .val (.ref a87), .val (.ref a102), .val (.int (2 : Int32)), .val (.int (0 : Int32)), .val (.int (2 : Int32)), .val (.int (5 : Int32))] [(.ref aCITATION_OR_SPAM), (.ref aCITATION_OR_SPAM)]))
        refine own_go (fun _ k => acmp X285 hx rfl (cd := .ne) (o := 7) (x := (.ref aCITATION_OR_SPAM)) (y := (.ref aCITATION_OR_SPAM)) (pc0 := 188) (pc' := 191) rfl rfl rfl (hb hby at_188) rfl (own_refeq _) (by decide) (by decide) k) ?_
        show OwnGo p e below _ (T285.setTop (mkF m 191 #[.val (.int p1), .val (.int p2), .val (.int p3), .val (.ref a76), .val (.ref a87), .val (.ref a102), .val (.int (2 : Int32)), .val (.int (0 : Int32)), .val (.int (2 : Int32)), .val (.int (5 : Int32))] []))
        refine own_go (fun _ k => XS.iconst X285.here hx rfl (hb hby at_191) k) ?_
        show OwnGo p e below _ (T285.setTop (mkF m 192 #[.val (.int p1), .val (.int p2), .val (.int p3), .val (.ref a76), .val (.ref a87), .val (.ref a102), .val (.int (2 : Int32)), .val (.int (0 : Int32)), .val (.int (2 : Int32)), .val (.int (5 : Int32))] [(.int (1 : Int32))]))
        refine own_go (fun _ k => XS.goto X285.here hx rfl (pc0 := 192) (pc' := 196) rfl (hb hby at_192) (by decide) (by decide) k) ?_
        show OwnGo p e below _ (T285.setTop (mkF m 196 #[.val (.int p1), .val (.int p2), .val (.int p3), .val (.ref a76), .val (.ref a87), .val (.ref a102), .val (.int (2 : Int32)), .val (.int (0 : Int32)), .val (.int (2 : Int32)), .val (.int (5 : Int32))] [(.int (1 : Int32))]))
        obtain ⟨fs, hr, hrun, hended, hEnd⟩ := Jvm.Stand.leaveW (s := s) (vm₁ := T285.vm) X285 hS285 (by rw [e285]; exact (Nat.le_refl _)) (v := some (.int (1 : Int32))) (fun h => by rw [Bd.returns] at h; cases h)
        refine ⟨_, _, retOut X285 hx Bd.returns rfl (Or.inl ⟨rfl, Or.inr (Or.inl rfl), _, rfl⟩) (hb hby at_196) hr, hrun, hended, _, _, rfl, ?_, own_monoW hEnd (by decide) (by decide)⟩
        show Q_law Z aIDENTICAL aCONTAINMENT aPARTIAL aA_TO_B aB_TO_A aBOTH aNONE aMIRROR aTEMPLATE_OR_PLAGIARISM aARCHIVE_PAGE aLINK_LIST_PART aSAME_SITE_RELATED aCITATION_OR_SPAM aSHARED_TEXT_OR_PLAGIARISM aSW kSW p1 p2 p3 h0 n0 _ T285.heap _
        rw [e285]
        exact ⟨rfl, N285⟩
      · rw [hv264]
        show OwnGo p e below _ (T126.setTop (mkF m 127 #[.val (.int p1), .val (.int p2), .val (.int p3), .val (.ref a76), .val (.ref a87), .val (.ref a102), .val (.int (2 : Int32)), .val (.int (0 : Int32)), .unset, .unset] [(.int (3 : Int32))]))
        refine own_go (fun _ k => XS.istore X126.here hx rfl (hb hby at_127) rfl (l' := #[.val (.int p1), .val (.int p2), .val (.int p3), .val (.ref a76), .val (.ref a87), .val (.ref a102), .val (.int (2 : Int32)), .val (.int (0 : Int32)), .val (.int (3 : Int32)), .unset]) rfl k) ?_
        show OwnGo p e below _ (T126.setTop (mkF m 129 #[.val (.int p1), .val (.int p2), .val (.int p3), .val (.ref a76), .val (.ref a87), .val (.ref a102), .val (.int (2 : Int32)), .val (.int (0 : Int32)), .val (.int (3 : Int32)), .unset] []))
        refine own_go (fun _ k => XS.iconst X126.here hx rfl (hb hby at_129) k) ?_
        show OwnGo p e below _ (T126.setTop (mkF m 130 #[.val (.int p1), .val (.int p2), .val (.int p3), .val (.ref a76), .val (.ref a87), .val (.ref a102), .val (.int (2 : Int32)), .val (.int (0 : Int32)), .val (.int (3 : Int32)), .unset] [(.int (2 : Int32))]))
        refine own_go (fun _ k => XS.iload X126.here hx rfl (hb hby at_130) rfl k) ?_
        show OwnGo p e below _ (T126.setTop (mkF m 132 #[.val (.int p1), .val (.int p2), .val (.int p3), .val (.ref a76), .val (.ref a87), .val (.ref a102), .val (.int (2 : Int32)), .val (.int (0 : Int32)), .val (.int (3 : Int32)), .unset] [(.int (2 : Int32)), (.int (2 : Int32))]))
        refine own_go (fun _ k => XS.imul X126.here hx rfl (hb hby at_132) rfl k) ?_
        show OwnGo p e below _ (T126.setTop (mkF m 133 #[.val (.int p1), .val (.int p2), .val (.int p3), .val (.ref a76), .val (.ref a87), .val (.ref a102), .val (.int (2 : Int32)), .val (.int (0 : Int32)), .val (.int (3 : Int32)), .unset] [(.int ((2 : Int32) * (2 : Int32)))]))
        rw [show ((2 : Int32) * (2 : Int32)) = (4 : Int32) from by decide]
        show OwnGo p e below _ (T126.setTop (mkF m 133 #[.val (.int p1), .val (.int p2), .val (.int p3), .val (.ref a76), .val (.ref a87), .val (.ref a102), .val (.int (2 : Int32)), .val (.int (0 : Int32)), .val (.int (3 : Int32)), .unset] [(.int (4 : Int32))]))
        refine own_go (fun _ k => XS.iload X126.here hx rfl (hb hby at_133) rfl k) ?_
        show OwnGo p e below _ (T126.setTop (mkF m 135 #[.val (.int p1), .val (.int p2), .val (.int p3), .val (.ref a76), .val (.ref a87), .val (.ref a102), .val (.int (2 : Int32)), .val (.int (0 : Int32)), .val (.int (3 : Int32)), .unset] [(.int (0 : Int32)), (.int (4 : Int32))]))
        refine own_go (fun _ k => XS.ifYes X126.here hx rfl (pc0 := 135) (pc' := 142) rfl (hb hby at_135) rfl (by decide) (by decide) (by decide) k) ?_
        show OwnGo p e below _ (T126.setTop (mkF m 142 #[.val (.int p1), .val (.int p2), .val (.int p3), .val (.ref a76), .val (.ref a87), .val (.ref a102), .val (.int (2 : Int32)), .val (.int (0 : Int32)), .val (.int (3 : Int32)), .unset] [(.int (4 : Int32))]))
        refine own_go (fun _ k => XS.iconst X126.here hx rfl (hb hby at_142) k) ?_
        show OwnGo p e below _ (T126.setTop (mkF m 143 #[.val (.int p1), .val (.int p2), .val (.int p3), .val (.ref a76), .val (.ref a87), .val (.ref a102), .val (.int (2 : Int32)), .val (.int (0 : Int32)), .val (.int (3 : Int32)), .unset] [(.int (1 : Int32)), (.int (4 : Int32))]))
        refine own_go (fun _ k => XS.iadd X126.here hx rfl (hb hby at_143) rfl k) ?_
        show OwnGo p e below _ (T126.setTop (mkF m 144 #[.val (.int p1), .val (.int p2), .val (.int p3), .val (.ref a76), .val (.ref a87), .val (.ref a102), .val (.int (2 : Int32)), .val (.int (0 : Int32)), .val (.int (3 : Int32)), .unset] [(.int ((4 : Int32) + (1 : Int32)))]))
        rw [show ((4 : Int32) + (1 : Int32)) = (5 : Int32) from by decide]
        show OwnGo p e below _ (T126.setTop (mkF m 144 #[.val (.int p1), .val (.int p2), .val (.int p3), .val (.ref a76), .val (.ref a87), .val (.ref a102), .val (.int (2 : Int32)), .val (.int (0 : Int32)), .val (.int (3 : Int32)), .unset] [(.int (5 : Int32))]))
        refine own_go (fun _ k => XS.iload X126.here hx rfl (hb hby at_144) rfl k) ?_
        show OwnGo p e below _ (T126.setTop (mkF m 146 #[.val (.int p1), .val (.int p2), .val (.int p3), .val (.ref a76), .val (.ref a87), .val (.ref a102), .val (.int (2 : Int32)), .val (.int (0 : Int32)), .val (.int (3 : Int32)), .unset] [(.int (2 : Int32)), (.int (5 : Int32))]))
        refine own_go (fun _ k => XS.iconst X126.here hx rfl (hb hby at_146) k) ?_
        show OwnGo p e below _ (T126.setTop (mkF m 147 #[.val (.int p1), .val (.int p2), .val (.int p3), .val (.ref a76), .val (.ref a87), .val (.ref a102), .val (.int (2 : Int32)), .val (.int (0 : Int32)), .val (.int (3 : Int32)), .unset] [(.int (2 : Int32)), (.int (2 : Int32)), (.int (5 : Int32))]))
        refine own_go (fun _ k => XS.icmpNo X126.here hx rfl (hb hby at_147) rfl (by decide) k) ?_
        show OwnGo p e below _ (T126.setTop (mkF m 150 #[.val (.int p1), .val (.int p2), .val (.int p3), .val (.ref a76), .val (.ref a87), .val (.ref a102), .val (.int (2 : Int32)), .val (.int (0 : Int32)), .val (.int (3 : Int32)), .unset] [(.int (5 : Int32))]))
        refine own_go (fun _ k => XS.iload X126.here hx rfl (hb hby at_150) rfl k) ?_
        show OwnGo p e below _ (T126.setTop (mkF m 152 #[.val (.int p1), .val (.int p2), .val (.int p3), .val (.ref a76), .val (.ref a87), .val (.ref a102), .val (.int (2 : Int32)), .val (.int (0 : Int32)), .val (.int (3 : Int32)), .unset] [(.int (0 : Int32)), (.int (5 : Int32))]))
        refine own_go (fun _ k => XS.ifNo X126.here hx rfl (hb hby at_152) rfl (by decide) k) ?_
        show OwnGo p e below _ (T126.setTop (mkF m 155 #[.val (.int p1), .val (.int p2), .val (.int p3), .val (.ref a76), .val (.ref a87), .val (.ref a102), .val (.int (2 : Int32)), .val (.int (0 : Int32)), .val (.int (3 : Int32)), .unset] [(.int (5 : Int32))]))
        refine own_go (fun _ k => XS.iload X126.here hx rfl (hb hby at_155) rfl k) ?_
        show OwnGo p e below _ (T126.setTop (mkF m 157 #[.val (.int p1), .val (.int p2), .val (.int p3), .val (.ref a76), .val (.ref a87), .val (.ref a102), .val (.int (2 : Int32)), .val (.int (0 : Int32)), .val (.int (3 : Int32)), .unset] [(.int (3 : Int32)), (.int (5 : Int32))]))
        refine own_go (fun _ k => XS.iconst X126.here hx rfl (hb hby at_157) k) ?_
        show OwnGo p e below _ (T126.setTop (mkF m 158 #[.val (.int p1), .val (.int p2), .val (.int p3), .val (.ref a76), .val (.ref a87), .val (.ref a102), .val (.int (2 : Int32)), .val (.int (0 : Int32)), .val (.int (3 : Int32)), .unset] [(.int (3 : Int32)), (.int (3 : Int32)), (.int (5 : Int32))]))
        refine own_go (fun _ k => XS.icmpNo X126.here hx rfl (hb hby at_158) rfl (by decide) k) ?_
        show OwnGo p e below _ (T126.setTop (mkF m 161 #[.val (.int p1), .val (.int p2), .val (.int p3), .val (.ref a76), .val (.ref a87), .val (.ref a102), .val (.int (2 : Int32)), .val (.int (0 : Int32)), .val (.int (3 : Int32)), .unset] [(.int (5 : Int32))]))
        refine own_go (fun _ k => XS.iconst X126.here hx rfl (hb hby at_161) k) ?_
        show OwnGo p e below _ (T126.setTop (mkF m 162 #[.val (.int p1), .val (.int p2), .val (.int p3), .val (.ref a76), .val (.ref a87), .val (.ref a102), .val (.int (2 : Int32)), .val (.int (0 : Int32)), .val (.int (3 : Int32)), .unset] [(.int (1 : Int32)), (.int (5 : Int32))]))
        refine own_go (fun _ k => XS.goto X126.here hx rfl (pc0 := 162) (pc' := 166) rfl (hb hby at_162) (by decide) (by decide) k) ?_
        show OwnGo p e below _ (T126.setTop (mkF m 166 #[.val (.int p1), .val (.int p2), .val (.int p3), .val (.ref a76), .val (.ref a87), .val (.ref a102), .val (.int (2 : Int32)), .val (.int (0 : Int32)), .val (.int (3 : Int32)), .unset] [(.int (1 : Int32)), (.int (5 : Int32))]))
        refine own_go (fun _ k => XS.iadd X126.here hx rfl (hb hby at_166) rfl k) ?_
        show OwnGo p e below _ (T126.setTop (mkF m 167 #[.val (.int p1), .val (.int p2), .val (.int p3), .val (.ref a76), .val (.ref a87), .val (.ref a102), .val (.int (2 : Int32)), .val (.int (0 : Int32)), .val (.int (3 : Int32)), .unset] [(.int ((5 : Int32) + (1 : Int32)))]))
        rw [show ((5 : Int32) + (1 : Int32)) = (6 : Int32) from by decide]
        show OwnGo p e below _ (T126.setTop (mkF m 167 #[.val (.int p1), .val (.int p2), .val (.int p3), .val (.ref a76), .val (.ref a87), .val (.ref a102), .val (.int (2 : Int32)), .val (.int (0 : Int32)), .val (.int (3 : Int32)), .unset] [(.int (6 : Int32))]))
        refine own_go (fun _ k => XS.istore X126.here hx rfl (hb hby at_167) rfl (l' := #[.val (.int p1), .val (.int p2), .val (.int p3), .val (.ref a76), .val (.ref a87), .val (.ref a102), .val (.int (2 : Int32)), .val (.int (0 : Int32)), .val (.int (3 : Int32)), .val (.int (6 : Int32))]) rfl k) ?_
        show OwnGo p e below _ (T126.setTop (mkF m 169 #[.val (.int p1), .val (.int p2), .val (.int p3), .val (.ref a76), .val (.ref a87), .val (.ref a102), .val (.int (2 : Int32)), .val (.int (0 : Int32)), .val (.int (3 : Int32)), .val (.int (6 : Int32))] []))
        refine own_go (fun _ k => XS.aloadN X126.here hx rfl (hb hby at_169) rfl rfl k) ?_
        show OwnGo p e below _ (T126.setTop (mkF m 170 #[.val (.int p1), .val (.int p2), .val (.int p3), .val (.ref a76), .val (.ref a87), .val (.ref a102), .val (.int (2 : Int32)), .val (.int (0 : Int32)), .val (.int (3 : Int32)), .val (.int (6 : Int32))] [(.ref a76)]))
        refine own_go (fun _ k => XS.iload X126.here hx rfl (hb hby at_170) rfl k) ?_
        show OwnGo p e below _ (T126.setTop (mkF m 172 #[.val (.int p1), .val (.int p2), .val (.int p3), .val (.ref a76), .val (.ref a87), .val (.ref a102), .val (.int (2 : Int32)), .val (.int (0 : Int32)), .val (.int (3 : Int32)), .val (.int (6 : Int32))] [(.int (2 : Int32)), (.ref a76)]))
        have F289 := ((((((((F103.ext E102).other W108 ne104).other W111 ne104).other W114 ne104).other W117 ne104).other W120 ne104).other W123 ne104).other W126 ne104)
        obtain ⟨c290, Ar290, q290, S290, M290, H290, G290⟩ := (id F289)
        refine own_go (fun _ k => X126.aaload hx (j := (2 : Int32)) (v := (.ref aPARTIAL)) (by rw [e126]; exact Ar290.1) (State.isArrayOf_alike hZ.alike Ar290.2.1) rfl Ar290.2.2 (inb_of S290 ⟨by decide, by decide⟩) (Has.at H290 (inb_of S290 ⟨by decide, by decide⟩) rfl) (g := (mkF m 172 #[.val (.int p1), .val (.int p2), .val (.int p3), .val (.ref a76), .val (.ref a87), .val (.ref a102), .val (.int (2 : Int32)), .val (.int (0 : Int32)), .val (.int (3 : Int32)), .val (.int (6 : Int32))] [(.int (2 : Int32)), (.ref a76)])) rfl rfl (hb hby at_172) _ k) ?_
        show OwnGo p e below _ (T126.setTop (mkF m 173 #[.val (.int p1), .val (.int p2), .val (.int p3), .val (.ref a76), .val (.ref a87), .val (.ref a102), .val (.int (2 : Int32)), .val (.int (0 : Int32)), .val (.int (3 : Int32)), .val (.int (6 : Int32))] [(.ref aPARTIAL)]))
        refine own_go (fun _ k => XS.iload X126.here hx rfl (hb hby at_173) rfl k) ?_
        show OwnGo p e below _ (T126.setTop (mkF m 175 #[.val (.int p1), .val (.int p2), .val (.int p3), .val (.ref a76), .val (.ref a87), .val (.ref a102), .val (.int (2 : Int32)), .val (.int (0 : Int32)), .val (.int (3 : Int32)), .val (.int (6 : Int32))] [(.int (0 : Int32)), (.ref aPARTIAL)]))
        refine own_go (fun _ k => XS.aload X126.here hx rfl (hb hby at_175) rfl rfl k) ?_
        show OwnGo p e below _ (T126.setTop (mkF m 177 #[.val (.int p1), .val (.int p2), .val (.int p3), .val (.ref a76), .val (.ref a87), .val (.ref a102), .val (.int (2 : Int32)), .val (.int (0 : Int32)), .val (.int (3 : Int32)), .val (.int (6 : Int32))] [(.ref a87), (.int (0 : Int32)), (.ref aPARTIAL)]))
        refine own_go (fun _ k => XS.iload X126.here hx rfl (hb hby at_177) rfl k) ?_
        show OwnGo p e below _ (T126.setTop (mkF m 179 #[.val (.int p1), .val (.int p2), .val (.int p3), .val (.ref a76), .val (.ref a87), .val (.ref a102), .val (.int (2 : Int32)), .val (.int (0 : Int32)), .val (.int (3 : Int32)), .val (.int (6 : Int32))] [(.int (3 : Int32)), (.ref a87), (.int (0 : Int32)), (.ref aPARTIAL)]))
        have F291 := ((((((((V100.ext E102).other W108 ne105).other W111 ne105).other W114 ne105).other W117 ne105).other W120 ne105).other W123 ne105).other W126 ne105)
        obtain ⟨c292, Ar292, q292, S292, M292, H292, G292⟩ := (id F291)
        refine own_go (fun _ k => X126.aaload hx (j := (3 : Int32)) (v := (.ref aNONE)) (by rw [e126]; exact Ar292.1) (State.isArrayOf_alike hZ.alike Ar292.2.1) rfl Ar292.2.2 (inb_of S292 ⟨by decide, by decide⟩) (Has.at H292 (inb_of S292 ⟨by decide, by decide⟩) rfl) (g := (mkF m 179 #[.val (.int p1), .val (.int p2), .val (.int p3), .val (.ref a76), .val (.ref a87), .val (.ref a102), .val (.int (2 : Int32)), .val (.int (0 : Int32)), .val (.int (3 : Int32)), .val (.int (6 : Int32))] [(.int (3 : Int32)), (.ref a87), (.int (0 : Int32)), (.ref aPARTIAL)])) rfl rfl (hb hby at_179) _ k) ?_
        show OwnGo p e below _ (T126.setTop (mkF m 180 #[.val (.int p1), .val (.int p2), .val (.int p3), .val (.ref a76), .val (.ref a87), .val (.ref a102), .val (.int (2 : Int32)), .val (.int (0 : Int32)), .val (.int (3 : Int32)), .val (.int (6 : Int32))] [(.ref aNONE), (.int (0 : Int32)), (.ref aPARTIAL)]))
        obtain ⟨_, _, ⟨T293, L293, k293, n293⟩, -, X293, hS293, hg293, ⟨Lc293, hQ293, l293, y293, z293⟩, st293⟩ := callSS X126 hx (y := (⟨"com/example/page_copy_finder/pagecopyfinder/copies/PairLabel", "of", "(Lcom/example/page_copy_finder/pagecopyfinder/copies/PairKind;ZLcom/example/page_copy_finder/pagecopyfinder/copies/PairLinks;)Lcom/example/page_copy_finder/pagecopyfinder/copies/PairLabel;"⟩ : MethodName)) hown (mvT hZ (hw _ (List.mem_of_getElem? (i := 41) rfl))) (mvT hZ (hw _ (List.mem_of_getElem? (i := 42) rfl))) (mvT hZ (hw _ (List.mem_of_getElem? (i := 25) rfl))) (mvT hZ (hw _ (List.mem_of_getElem? (i := 43) rfl))) (by decide) (backOfS (W := 0) (rm_of20N l Z a0 hw [] aIDENTICAL aCONTAINMENT aPARTIAL aA_TO_B aB_TO_A aBOTH aNONE aMIRROR aTEMPLATE_OR_PLAGIARISM aARCHIVE_PAGE aLINK_LIST_PART aSAME_SITE_RELATED aCITATION_OR_SPAM aSHARED_TEXT_OR_PLAGIARISM aSW kSW F0 h126 n0 O126) hZ (hw _ (List.mem_of_getElem? (i := 43) rfl)) (hw _ (List.mem_of_getElem? (i := 25) rfl)) (by decide) (by decide)) (g := (mkF m 180 #[.val (.int p1), .val (.int p2), .val (.int p3), .val (.ref a76), .val (.ref a87), .val (.ref a102), .val (.int (2 : Int32)), .val (.int (0 : Int32)), .val (.int (3 : Int32)), .val (.int (6 : Int32))] [(.ref aNONE), (.int (0 : Int32)), (.ref aPARTIAL)])) rfl (by rw [hml]; rfl) (argsL := [(.ref aPARTIAL), (.int (0 : Int32)), (.ref aNONE)]) (rest := []) (lenOf pd_Lcom_example_page_copy_finder_pagecopyfinder_copies_PairKind__Z_Lcom_example_page_copy_finder_pagecopyfinder_copies_PairLinks___Lcom_example_page_copy_finder_pagecopyfinder_copies_PairLabel_ rfl) rfl (by show 2 * 0 + _ ≤ _; exact Nat.le_of_eq rfl) (hb hby at_180) (fun _ _ => ⟨rfl, e126, (by decide : 3 + 4 ≤ _), (by decide : 14 + 44 ≤ _)⟩)
        dsimp only [Pt.U, Pt.locs, Pt.cells, Pt.slots] at X293 l293 y293 z293 st293 hQ293 hS293 hg293
        subst l293 y293 z293
        obtain ⟨rfl, Nq293, K293⟩ := hQ293
        have N293 := Fr.app N126 Nq293
        have hZ : Z.Warmed39 (s.setVm T293.vm).vm := State.Warmed39.trans hZ hS293.1
        have hown : (s.setVm T293.vm).vm.findClass "com/example/page_copy_finder/pagecopyfinder/copies/PairLabelOfPinLaw" = some m.cls := (hS293.1.alike.findClass _ _).trans hown
        have O293 := O126.keep K293 all0
        have e293 : T293.heap = T293.heap := rfl
        have z294 : h0.size ≤ T293.heap.size := Nat.le_trans z127 K293.1
        refine own_go (fun _ k => st293.trans k) ?_
        show OwnGo p e below _ (T293.setTop (mkF m 183 #[.val (.int p1), .val (.int p2), .val (.int p3), .val (.ref a76), .val (.ref a87), .val (.ref a102), .val (.int (2 : Int32)), .val (.int (0 : Int32)), .val (.int (3 : Int32)), .val (.int (6 : Int32))] [(.ref aSHARED_TEXT_OR_PLAGIARISM)]))
        refine own_go (fun _ k => XS.aload X293.here hx rfl (hb hby at_183) rfl rfl k) ?_
        show OwnGo p e below _ (T293.setTop (mkF m 185 #[.val (.int p1), .val (.int p2), .val (.int p3), .val (.ref a76), .val (.ref a87), .val (.ref a102), .val (.int (2 : Int32)), .val (.int (0 : Int32)), .val (.int (3 : Int32)), .val (.int (6 : Int32))] [(.ref a102), (.ref aSHARED_TEXT_OR_PLAGIARISM)]))
        refine own_go (fun _ k => XS.iload X293.here hx rfl (hb hby at_185) rfl k) ?_
        show OwnGo p e below _ (T293.setTop (mkF m 187 #[.val (.int p1), .val (.int p2), .val (.int p3), .val (.ref a76), .val (.ref a87), .val (.ref a102), .val (.int (2 : Int32)), .val (.int (0 : Int32)), .val (.int (3 : Int32)), .val (.int (6 : Int32))] [(.int (6 : Int32)), (.ref a102), (.ref aSHARED_TEXT_OR_PLAGIARISM)]))
        have F295 := (V126.keep K293 nin0)
        obtain ⟨c296, Ar296, q296, S296, M296, H296, G296⟩ := (id F295)
        refine own_go (fun _ k => X293.aaload hx (j := (6 : Int32)) (v := (.ref aSHARED_TEXT_OR_PLAGIARISM)) (by rw [e293]; exact Ar296.1) (State.isArrayOf_alike hZ.alike Ar296.2.1) rfl Ar296.2.2 (inb_of S296 ⟨by decide, by decide⟩) (Has.at H296 (inb_of S296 ⟨by decide, by decide⟩) rfl) (g := (mkF m 187 #[.val (.int p1), .val (.int p2), .val (.int p3), .val (.ref a76), .val (.ref a87), .val (.ref a102), .val (.int (2 : Int32)), .val (.int (0 : Int32)), .val (.int (3 : Int32)), .val (.int (6 : Int32))] [(.int (6 : Int32)), (.ref a102), (.ref aSHARED_TEXT_OR_PLAGIARISM)])) rfl rfl (hb hby at_187) _ k) ?_
        show OwnGo p e below _ (T293.setTop (mkF m 188 #[.val (.int p1), .val (.int p2), .val (.int p3), .val (.ref a76), .val (.ref a87), .val (.ref a102), .val (.int (2 : Int32)), .val (.int (0 : Int32)), .val (.int (3 : Int32)), .val (.int (6 : Int32))] [(.ref aSHARED_TEXT_OR_PLAGIARISM), (.ref aSHARED_TEXT_OR_PLAGIARISM)]))
        refine own_go (fun _ k => acmp X293 hx rfl (cd := .ne) (o := 7) (x := (.ref aSHARED_TEXT_OR_PLAGIARISM)) (y := (.ref aSHARED_TEXT_OR_PLAGIARISM)) (pc0 := 188) (pc' := 191) rfl rfl rfl (hb hby at_188) rfl (own_refeq _) (by decide) (by decide) k) ?_
        show OwnGo p e below _ (T293.setTop (mkF m 191 #[.val (.int p1), .val (.int p2), .val (.int p3), .val (.ref a76), .val (.ref a87), .val (.ref a102), .val (.int (2 : Int32)), .val (.int (0 : Int32)), .val (.int (3 : Int32)), .val (.int (6 : Int32))] []))
        refine own_go (fun _ k => XS.iconst X293.here hx rfl (hb hby at_191) k) ?_
        show OwnGo p e below _ (T293.setTop (mkF m 192 #[.val (.int p1), .val (.int p2), .val (.int p3), .val (.ref a76), .val (.ref a87), .val (.ref a102), .val (.int (2 : Int32)), .val (.int (0 : Int32)), .val (.int (3 : Int32)), .val (.int (6 : Int32))] [(.int (1 : Int32))]))
        refine own_go (fun _ k => XS.goto X293.here hx rfl (pc0 := 192) (pc' := 196) rfl (hb hby at_192) (by decide) (by decide) k) ?_
        show OwnGo p e below _ (T293.setTop (mkF m 196 #[.val (.int p1), .val (.int p2), .val (.int p3), .val (.ref a76), .val (.ref a87), .val (.ref a102), .val (.int (2 : Int32)), .val (.int (0 : Int32)), .val (.int (3 : Int32)), .val (.int (6 : Int32))] [(.int (1 : Int32))]))
        obtain ⟨fs, hr, hrun, hended, hEnd⟩ := Jvm.Stand.leaveW (s := s) (vm₁ := T293.vm) X293 hS293 (by rw [e293]; exact (Nat.le_refl _)) (v := some (.int (1 : Int32))) (fun h => by rw [Bd.returns] at h; cases h)
        refine ⟨_, _, retOut X293 hx Bd.returns rfl (Or.inl ⟨rfl, Or.inr (Or.inl rfl), _, rfl⟩) (hb hby at_196) hr, hrun, hended, _, _, rfl, ?_, own_monoW hEnd (by decide) (by decide)⟩
        show Q_law Z aIDENTICAL aCONTAINMENT aPARTIAL aA_TO_B aB_TO_A aBOTH aNONE aMIRROR aTEMPLATE_OR_PLAGIARISM aARCHIVE_PAGE aLINK_LIST_PART aSAME_SITE_RELATED aCITATION_OR_SPAM aSHARED_TEXT_OR_PLAGIARISM aSW kSW p1 p2 p3 h0 n0 _ T293.heap _
        rw [e293]
        exact ⟨rfl, N293⟩
    · refine own_go (fun _ k => XS.ifNo X126.here hx rfl (hb hby at_114) rfl ((if0 _ _).trans (feq hc263).1) k) ?_
      show OwnGo p e below _ (T126.setTop (mkF m 117 #[.val (.int p1), .val (.int p2), .val (.int p3), .val (.ref a76), .val (.ref a87), .val (.ref a102), .val (.int (2 : Int32)), .unset, .unset, .unset] []))
      refine own_go (fun _ k => XS.iconst X126.here hx rfl (hb hby at_117) k) ?_
      show OwnGo p e below _ (T126.setTop (mkF m 118 #[.val (.int p1), .val (.int p2), .val (.int p3), .val (.ref a76), .val (.ref a87), .val (.ref a102), .val (.int (2 : Int32)), .unset, .unset, .unset] [(.int (1 : Int32))]))
      refine own_go (fun _ k => XS.goto X126.here hx rfl (pc0 := 118) (pc' := 122) rfl (hb hby at_118) (by decide) (by decide) k) ?_
      show OwnGo p e below _ (T126.setTop (mkF m 122 #[.val (.int p1), .val (.int p2), .val (.int p3), .val (.ref a76), .val (.ref a87), .val (.ref a102), .val (.int (2 : Int32)), .unset, .unset, .unset] [(.int (1 : Int32))]))
      refine own_go (fun _ k => XS.istore X126.here hx rfl (hb hby at_122) rfl (l' := #[.val (.int p1), .val (.int p2), .val (.int p3), .val (.ref a76), .val (.ref a87), .val (.ref a102), .val (.int (2 : Int32)), .val (.int (1 : Int32)), .unset, .unset]) rfl k) ?_
      show OwnGo p e below _ (T126.setTop (mkF m 124 #[.val (.int p1), .val (.int p2), .val (.int p3), .val (.ref a76), .val (.ref a87), .val (.ref a102), .val (.int (2 : Int32)), .val (.int (1 : Int32)), .unset, .unset] []))
      refine own_go (fun _ k => XS.iloadN X126.here hx rfl (hb hby at_124) rfl k) ?_
      show OwnGo p e below _ (T126.setTop (mkF m 125 #[.val (.int p1), .val (.int p2), .val (.int p3), .val (.ref a76), .val (.ref a87), .val (.ref a102), .val (.int (2 : Int32)), .val (.int (1 : Int32)), .unset, .unset] [(.int p3)]))
      refine own_go (fun _ k => XS.iconst X126.here hx rfl (hb hby at_125) k) ?_
      show OwnGo p e below _ (T126.setTop (mkF m 126 #[.val (.int p1), .val (.int p2), .val (.int p3), .val (.ref a76), .val (.ref a87), .val (.ref a102), .val (.int (2 : Int32)), .val (.int (1 : Int32)), .unset, .unset] [(.int (3 : Int32)), (.int p3)]))
      refine own_go (fun _ k => XS.iand X126.here hx rfl (hb hby at_126) rfl k) ?_
      show OwnGo p e below _ (T126.setTop (mkF m 127 #[.val (.int p1), .val (.int p2), .val (.int p3), .val (.ref a76), .val (.ref a87), .val (.ref a102), .val (.int (2 : Int32)), .val (.int (1 : Int32)), .unset, .unset] [(.int (p3 &&& (3 : Int32)))]))
      rcases own_and3 p3 with hv297 | hv297 | hv297 | hv297
      · rw [hv297]
        show OwnGo p e below _ (T126.setTop (mkF m 127 #[.val (.int p1), .val (.int p2), .val (.int p3), .val (.ref a76), .val (.ref a87), .val (.ref a102), .val (.int (2 : Int32)), .val (.int (1 : Int32)), .unset, .unset] [(.int (0 : Int32))]))
        refine own_go (fun _ k => XS.istore X126.here hx rfl (hb hby at_127) rfl (l' := #[.val (.int p1), .val (.int p2), .val (.int p3), .val (.ref a76), .val (.ref a87), .val (.ref a102), .val (.int (2 : Int32)), .val (.int (1 : Int32)), .val (.int (0 : Int32)), .unset]) rfl k) ?_
        show OwnGo p e below _ (T126.setTop (mkF m 129 #[.val (.int p1), .val (.int p2), .val (.int p3), .val (.ref a76), .val (.ref a87), .val (.ref a102), .val (.int (2 : Int32)), .val (.int (1 : Int32)), .val (.int (0 : Int32)), .unset] []))
        refine own_go (fun _ k => XS.iconst X126.here hx rfl (hb hby at_129) k) ?_
        show OwnGo p e below _ (T126.setTop (mkF m 130 #[.val (.int p1), .val (.int p2), .val (.int p3), .val (.ref a76), .val (.ref a87), .val (.ref a102), .val (.int (2 : Int32)), .val (.int (1 : Int32)), .val (.int (0 : Int32)), .unset] [(.int (2 : Int32))]))
        refine own_go (fun _ k => XS.iload X126.here hx rfl (hb hby at_130) rfl k) ?_
        show OwnGo p e below _ (T126.setTop (mkF m 132 #[.val (.int p1), .val (.int p2), .val (.int p3), .val (.ref a76), .val (.ref a87), .val (.ref a102), .val (.int (2 : Int32)), .val (.int (1 : Int32)), .val (.int (0 : Int32)), .unset] [(.int (2 : Int32)), (.int (2 : Int32))]))
        refine own_go (fun _ k => XS.imul X126.here hx rfl (hb hby at_132) rfl k) ?_
        show OwnGo p e below _ (T126.setTop (mkF m 133 #[.val (.int p1), .val (.int p2), .val (.int p3), .val (.ref a76), .val (.ref a87), .val (.ref a102), .val (.int (2 : Int32)), .val (.int (1 : Int32)), .val (.int (0 : Int32)), .unset] [(.int ((2 : Int32) * (2 : Int32)))]))
        rw [show ((2 : Int32) * (2 : Int32)) = (4 : Int32) from by decide]
        show OwnGo p e below _ (T126.setTop (mkF m 133 #[.val (.int p1), .val (.int p2), .val (.int p3), .val (.ref a76), .val (.ref a87), .val (.ref a102), .val (.int (2 : Int32)), .val (.int (1 : Int32)), .val (.int (0 : Int32)), .unset] [(.int (4 : Int32))]))
        refine own_go (fun _ k => XS.iload X126.here hx rfl (hb hby at_133) rfl k) ?_
        show OwnGo p e below _ (T126.setTop (mkF m 135 #[.val (.int p1), .val (.int p2), .val (.int p3), .val (.ref a76), .val (.ref a87), .val (.ref a102), .val (.int (2 : Int32)), .val (.int (1 : Int32)), .val (.int (0 : Int32)), .unset] [(.int (1 : Int32)), (.int (4 : Int32))]))
        refine own_go (fun _ k => XS.ifNo X126.here hx rfl (hb hby at_135) rfl (by decide) k) ?_
        show OwnGo p e below _ (T126.setTop (mkF m 138 #[.val (.int p1), .val (.int p2), .val (.int p3), .val (.ref a76), .val (.ref a87), .val (.ref a102), .val (.int (2 : Int32)), .val (.int (1 : Int32)), .val (.int (0 : Int32)), .unset] [(.int (4 : Int32))]))
        refine own_go (fun _ k => XS.iconst X126.here hx rfl (hb hby at_138) k) ?_
        show OwnGo p e below _ (T126.setTop (mkF m 139 #[.val (.int p1), .val (.int p2), .val (.int p3), .val (.ref a76), .val (.ref a87), .val (.ref a102), .val (.int (2 : Int32)), .val (.int (1 : Int32)), .val (.int (0 : Int32)), .unset] [(.int (0 : Int32)), (.int (4 : Int32))]))
        refine own_go (fun _ k => XS.goto X126.here hx rfl (pc0 := 139) (pc' := 143) rfl (hb hby at_139) (by decide) (by decide) k) ?_
        show OwnGo p e below _ (T126.setTop (mkF m 143 #[.val (.int p1), .val (.int p2), .val (.int p3), .val (.ref a76), .val (.ref a87), .val (.ref a102), .val (.int (2 : Int32)), .val (.int (1 : Int32)), .val (.int (0 : Int32)), .unset] [(.int (0 : Int32)), (.int (4 : Int32))]))
        refine own_go (fun _ k => XS.iadd X126.here hx rfl (hb hby at_143) rfl k) ?_
        show OwnGo p e below _ (T126.setTop (mkF m 144 #[.val (.int p1), .val (.int p2), .val (.int p3), .val (.ref a76), .val (.ref a87), .val (.ref a102), .val (.int (2 : Int32)), .val (.int (1 : Int32)), .val (.int (0 : Int32)), .unset] [(.int ((4 : Int32) + (0 : Int32)))]))
        rw [show ((4 : Int32) + (0 : Int32)) = (4 : Int32) from by decide]
        show OwnGo p e below _ (T126.setTop (mkF m 144 #[.val (.int p1), .val (.int p2), .val (.int p3), .val (.ref a76), .val (.ref a87), .val (.ref a102), .val (.int (2 : Int32)), .val (.int (1 : Int32)), .val (.int (0 : Int32)), .unset] [(.int (4 : Int32))]))
        refine own_go (fun _ k => XS.iload X126.here hx rfl (hb hby at_144) rfl k) ?_
        show OwnGo p e below _ (T126.setTop (mkF m 146 #[.val (.int p1), .val (.int p2), .val (.int p3), .val (.ref a76), .val (.ref a87), .val (.ref a102), .val (.int (2 : Int32)), .val (.int (1 : Int32)), .val (.int (0 : Int32)), .unset] [(.int (2 : Int32)), (.int (4 : Int32))]))
        refine own_go (fun _ k => XS.iconst X126.here hx rfl (hb hby at_146) k) ?_
        show OwnGo p e below _ (T126.setTop (mkF m 147 #[.val (.int p1), .val (.int p2), .val (.int p3), .val (.ref a76), .val (.ref a87), .val (.ref a102), .val (.int (2 : Int32)), .val (.int (1 : Int32)), .val (.int (0 : Int32)), .unset] [(.int (2 : Int32)), (.int (2 : Int32)), (.int (4 : Int32))]))
        refine own_go (fun _ k => XS.icmpNo X126.here hx rfl (hb hby at_147) rfl (by decide) k) ?_
        show OwnGo p e below _ (T126.setTop (mkF m 150 #[.val (.int p1), .val (.int p2), .val (.int p3), .val (.ref a76), .val (.ref a87), .val (.ref a102), .val (.int (2 : Int32)), .val (.int (1 : Int32)), .val (.int (0 : Int32)), .unset] [(.int (4 : Int32))]))
        refine own_go (fun _ k => XS.iload X126.here hx rfl (hb hby at_150) rfl k) ?_
        show OwnGo p e below _ (T126.setTop (mkF m 152 #[.val (.int p1), .val (.int p2), .val (.int p3), .val (.ref a76), .val (.ref a87), .val (.ref a102), .val (.int (2 : Int32)), .val (.int (1 : Int32)), .val (.int (0 : Int32)), .unset] [(.int (1 : Int32)), (.int (4 : Int32))]))
        refine own_go (fun _ k => XS.ifYes X126.here hx rfl (pc0 := 152) (pc' := 165) rfl (hb hby at_152) rfl (by decide) (by decide) (by decide) k) ?_
        show OwnGo p e below _ (T126.setTop (mkF m 165 #[.val (.int p1), .val (.int p2), .val (.int p3), .val (.ref a76), .val (.ref a87), .val (.ref a102), .val (.int (2 : Int32)), .val (.int (1 : Int32)), .val (.int (0 : Int32)), .unset] [(.int (4 : Int32))]))
        refine own_go (fun _ k => XS.iconst X126.here hx rfl (hb hby at_165) k) ?_
        show OwnGo p e below _ (T126.setTop (mkF m 166 #[.val (.int p1), .val (.int p2), .val (.int p3), .val (.ref a76), .val (.ref a87), .val (.ref a102), .val (.int (2 : Int32)), .val (.int (1 : Int32)), .val (.int (0 : Int32)), .unset] [(.int (0 : Int32)), (.int (4 : Int32))]))
        refine own_go (fun _ k => XS.iadd X126.here hx rfl (hb hby at_166) rfl k) ?_
        show OwnGo p e below _ (T126.setTop (mkF m 167 #[.val (.int p1), .val (.int p2), .val (.int p3), .val (.ref a76), .val (.ref a87), .val (.ref a102), .val (.int (2 : Int32)), .val (.int (1 : Int32)), .val (.int (0 : Int32)), .unset] [(.int ((4 : Int32) + (0 : Int32)))]))
        rw [show ((4 : Int32) + (0 : Int32)) = (4 : Int32) from by decide]
        show OwnGo p e below _ (T126.setTop (mkF m 167 #[.val (.int p1), .val (.int p2), .val (.int p3), .val (.ref a76), .val (.ref a87), .val (.ref a102), .val (.int (2 : Int32)), .val (.int (1 : Int32)), .val (.int (0 : Int32)), .unset] [(.int (4 : Int32))]))
        refine own_go (fun _ k => XS.istore X126.here hx rfl (hb hby at_167) rfl (l' := #[.val (.int p1), .val (.int p2), .val (.int p3), .val (.ref a76), .val (.ref a87), .val (.ref a102), .val (.int (2 : Int32)), .val (.int (1 : Int32)), .val (.int (0 : Int32)), .val (.int (4 : Int32))]) rfl k) ?_
        show OwnGo p e below _ (T126.setTop (mkF m 169 #[.val (.int p1), .val (.int p2), .val (.int p3), .val (.ref a76), .val (.ref a87), .val (.ref a102), .val (.int (2 : Int32)), .val (.int (1 : Int32)), .val (.int (0 : Int32)), .val (.int (4 : Int32))] []))
        refine own_go (fun _ k => XS.aloadN X126.here hx rfl (hb hby at_169) rfl rfl k) ?_
        show OwnGo p e below _ (T126.setTop (mkF m 170 #[.val (.int p1), .val (.int p2), .val (.int p3), .val (.ref a76), .val (.ref a87), .val (.ref a102), .val (.int (2 : Int32)), .val (.int (1 : Int32)), .val (.int (0 : Int32)), .val (.int (4 : Int32))] [(.ref a76)]))
        refine own_go (fun _ k => XS.iload X126.here hx rfl (hb hby at_170) rfl k) ?_
        show OwnGo p e below _ (T126.setTop (mkF m 172 #[.val (.int p1), .val (.int p2), .val (.int p3), .val (.ref a76), .val (.ref a87), .val (.ref a102), .val (.int (2 : Int32)), .val (.int (1 : Int32)), .val (.int (0 : Int32)), .val (.int (4 : Int32))] [(.int (2 : Int32)), (.ref a76)]))
        have F298 := ((((((((F103.ext E102).other W108 ne104).other W111 ne104).other W114 ne104).other W117 ne104).other W120 ne104).other W123 ne104).other W126 ne104)
        obtain ⟨c299, Ar299, q299, S299, M299, H299, G299⟩ := (id F298)
        refine own_go (fun _ k => X126.aaload hx (j := (2 : Int32)) (v := (.ref aPARTIAL)) (by rw [e126]; exact Ar299.1) (State.isArrayOf_alike hZ.alike Ar299.2.1) rfl Ar299.2.2 (inb_of S299 ⟨by decide, by decide⟩) (Has.at H299 (inb_of S299 ⟨by decide, by decide⟩) rfl) (g := (mkF m 172 #[.val (.int p1), .val (.int p2), .val (.int p3), .val (.ref a76), .val (.ref a87), .val (.ref a102), .val (.int (2 : Int32)), .val (.int (1 : Int32)), .val (.int (0 : Int32)), .val (.int (4 : Int32))] [(.int (2 : Int32)), (.ref a76)])) rfl rfl (hb hby at_172) _ k) ?_
        show OwnGo p e below _ (T126.setTop (mkF m 173 #[.val (.int p1), .val (.int p2), .val (.int p3), .val (.ref a76), .val (.ref a87), .val (.ref a102), .val (.int (2 : Int32)), .val (.int (1 : Int32)), .val (.int (0 : Int32)), .val (.int (4 : Int32))] [(.ref aPARTIAL)]))
        refine own_go (fun _ k => XS.iload X126.here hx rfl (hb hby at_173) rfl k) ?_
        show OwnGo p e below _ (T126.setTop (mkF m 175 #[.val (.int p1), .val (.int p2), .val (.int p3), .val (.ref a76), .val (.ref a87), .val (.ref a102), .val (.int (2 : Int32)), .val (.int (1 : Int32)), .val (.int (0 : Int32)), .val (.int (4 : Int32))] [(.int (1 : Int32)), (.ref aPARTIAL)]))
        refine own_go (fun _ k => XS.aload X126.here hx rfl (hb hby at_175) rfl rfl k) ?_
        show OwnGo p e below _ (T126.setTop (mkF m 177 #[.val (.int p1), .val (.int p2), .val (.int p3), .val (.ref a76), .val (.ref a87), .val (.ref a102), .val (.int (2 : Int32)), .val (.int (1 : Int32)), .val (.int (0 : Int32)), .val (.int (4 : Int32))] [(.ref a87), (.int (1 : Int32)), (.ref aPARTIAL)]))
        refine own_go (fun _ k => XS.iload X126.here hx rfl (hb hby at_177) rfl k) ?_
        show OwnGo p e below _ (T126.setTop (mkF m 179 #[.val (.int p1), .val (.int p2), .val (.int p3), .val (.ref a76), .val (.ref a87), .val (.ref a102), .val (.int (2 : Int32)), .val (.int (1 : Int32)), .val (.int (0 : Int32)), .val (.int (4 : Int32))] [(.int (0 : Int32)), (.ref a87), (.int (1 : Int32)), (.ref aPARTIAL)]))
        have F300 := ((((((((V100.ext E102).other W108 ne105).other W111 ne105).other W114 ne105).other W117 ne105).other W120 ne105).other W123 ne105).other W126 ne105)
        obtain ⟨c301, Ar301, q301, S301, M301, H301, G301⟩ := (id F300)
        refine own_go (fun _ k => X126.aaload hx (j := (0 : Int32)) (v := (.ref aA_TO_B)) (by rw [e126]; exact Ar301.1) (State.isArrayOf_alike hZ.alike Ar301.2.1) rfl Ar301.2.2 (inb_of S301 ⟨by decide, by decide⟩) (Has.at H301 (inb_of S301 ⟨by decide, by decide⟩) rfl) (g := (mkF m 179 #[.val (.int p1), .val (.int p2), .val (.int p3), .val (.ref a76), .val (.ref a87), .val (.ref a102), .val (.int (2 : Int32)), .val (.int (1 : Int32)), .val (.int (0 : Int32)), .val (.int (4 : Int32))] [(.int (0 : Int32)), (.ref a87), (.int (1 : Int32)), (.ref aPARTIAL)])) rfl rfl (hb hby at_179) _ k) ?_
        show OwnGo p e below _ (T126.setTop (mkF m 180 #[.val (.int p1), .val (.int p2), .val (.int p3), .val (.ref a76), .val (.ref a87), .val (.ref a102), .val (.int (2 : Int32)), .val (.int (1 : Int32)), .val (.int (0 : Int32)), .val (.int (4 : Int32))] [(.ref aA_TO_B), (.int (1 : Int32)), (.ref aPARTIAL)]))
        obtain ⟨_, _, ⟨T302, L302, k302, n302⟩, -, X302, hS302, hg302, ⟨Lc302, hQ302, l302, y302, z302⟩, st302⟩ := callSS X126 hx (y := (⟨"com/example/page_copy_finder/pagecopyfinder/copies/PairLabel", "of", "(Lcom/example/page_copy_finder/pagecopyfinder/copies/PairKind;ZLcom/example/page_copy_finder/pagecopyfinder/copies/PairLinks;)Lcom/example/page_copy_finder/pagecopyfinder/copies/PairLabel;"⟩ : MethodName)) hown (mvT hZ (hw _ (List.mem_of_getElem? (i := 41) rfl))) (mvT hZ (hw _ (List.mem_of_getElem? (i := 42) rfl))) (mvT hZ (hw _ (List.mem_of_getElem? (i := 25) rfl))) (mvT hZ (hw _ (List.mem_of_getElem? (i := 43) rfl))) (by decide) (backOfS (W := 0) (rm_of21 l Z a0 hw [] aIDENTICAL aCONTAINMENT aPARTIAL aA_TO_B aB_TO_A aBOTH aNONE aMIRROR aTEMPLATE_OR_PLAGIARISM aARCHIVE_PAGE aLINK_LIST_PART aSAME_SITE_RELATED aCITATION_OR_SPAM aSHARED_TEXT_OR_PLAGIARISM aSW kSW F0 aA_TO_B h126 n0 O126) hZ (hw _ (List.mem_of_getElem? (i := 43) rfl)) (hw _ (List.mem_of_getElem? (i := 25) rfl)) (by decide) (by decide)) (g := (mkF m 180 #[.val (.int p1), .val (.int p2), .val (.int p3), .val (.ref a76), .val (.ref a87), .val (.ref a102), .val (.int (2 : Int32)), .val (.int (1 : Int32)), .val (.int (0 : Int32)), .val (.int (4 : Int32))] [(.ref aA_TO_B), (.int (1 : Int32)), (.ref aPARTIAL)])) rfl (by rw [hml]; rfl) (argsL := [(.ref aPARTIAL), (.int (1 : Int32)), (.ref aA_TO_B)]) (rest := []) (lenOf pd_Lcom_example_page_copy_finder_pagecopyfinder_copies_PairKind__Z_Lcom_example_page_copy_finder_pagecopyfinder_copies_PairLinks___Lcom_example_page_copy_finder_pagecopyfinder_copies_PairLabel_ rfl) rfl (by show 2 * 0 + _ ≤ _; exact Nat.le_of_eq rfl) (hb hby at_180) (fun _ _ => ⟨rfl, e126, (by decide : 3 + 4 ≤ _), (by decide : 14 + 44 ≤ _)⟩)
        dsimp only [Pt.U, Pt.locs, Pt.cells, Pt.slots] at X302 l302 y302 z302 st302 hQ302 hS302 hg302
        subst l302 y302 z302
        obtain ⟨rfl, Nq302, K302⟩ := hQ302
        have N302 := Fr.app N126 Nq302
        have hZ : Z.Warmed39 (s.setVm T302.vm).vm := State.Warmed39.trans hZ hS302.1
        have hown : (s.setVm T302.vm).vm.findClass "com/example/page_copy_finder/pagecopyfinder/copies/PairLabelOfPinLaw" = some m.cls := (hS302.1.alike.findClass _ _).trans hown
        have O302 := O126.keep K302 all0
        have e302 : T302.heap = T302.heap := rfl
        have z303 : h0.size ≤ T302.heap.size := Nat.le_trans z127 K302.1
        refine own_go (fun _ k => st302.trans k) ?_
        show OwnGo p e below _ (T302.setTop (mkF m 183 #[.val (.int p1), .val (.int p2), .val (.int p3), .val (.ref a76), .val (.ref a87), .val (.ref a102), .val (.int (2 : Int32)), .val (.int (1 : Int32)), .val (.int (0 : Int32)), .val (.int (4 : Int32))] [(.ref aSAME_SITE_RELATED)]))
        refine own_go (fun _ k => XS.aload X302.here hx rfl (hb hby at_183) rfl rfl k) ?_
        show OwnGo p e below _ (T302.setTop (mkF m 185 #[.val (.int p1), .val (.int p2), .val (.int p3), .val (.ref a76), .val (.ref a87), .val (.ref a102), .val (.int (2 : Int32)), .val (.int (1 : Int32)), .val (.int (0 : Int32)), .val (.int (4 : Int32))] [(.ref a102), (.ref aSAME_SITE_RELATED)]))
        refine own_go (fun _ k => XS.iload X302.here hx rfl (hb hby at_185) rfl k) ?_
        show OwnGo p e below _ (T302.setTop (mkF m 187 #[.val (.int p1), .val (.int p2), .val (.int p3), .val (.ref a76), .val (.ref a87), .val (.ref a102), .val (.int (2 : Int32)), .val (.int (1 : Int32)), .val (.int (0 : Int32)), .val (.int (4 : Int32))] [(.int (4 : Int32)), (.ref a102), (.ref aSAME_SITE_RELATED)]))
        have F304 := (V126.keep K302 nin0)
        obtain ⟨c305, Ar305, q305, S305, M305, H305, G305⟩ := (id F304)
        refine own_go (fun _ k => X302.aaload hx (j := (4 : Int32)) (v := (.ref aSAME_SITE_RELATED)) (by rw [e302]; exact Ar305.1) (State.isArrayOf_alike hZ.alike Ar305.2.1) rfl Ar305.2.2 (inb_of S305 ⟨by decide, by decide⟩) (Has.at H305 (inb_of S305 ⟨by decide, by decide⟩) rfl) (g := (mkF m 187 #[.val (.int p1), .val (.int p2), .val (.int p3), .val (.ref a76), .val (.ref a87), .val (.ref a102), .val (.int (2 : Int32)), .val (.int (1 : Int32)), .val (.int (0 : Int32)), .val (.int (4 : Int32))] [(.int (4 : Int32)), (.ref a102), (.ref aSAME_SITE_RELATED)])) rfl rfl (hb hby at_187) _ k) ?_
        show OwnGo p e below _ (T302.setTop (mkF m 188 #[.val (.int p1), .val (.int p2), .val (.int p3), .val (.ref a76), .val (.ref a87), .val (.ref a102), .val (.int (2 : Int32)), .val (.int (1 : Int32)), .val (.int (0 : Int32)), .val (.int (4 : Int32))] [(.ref aSAME_SITE_RELATED), (.ref aSAME_SITE_RELATED)]))
        refine own_go (fun _ k => acmp X302 hx rfl (cd := .ne) (o := 7) (x := (.ref aSAME_SITE_RELATED)) (y := (.ref aSAME_SITE_RELATED)) (pc0 := 188) (pc' := 191) rfl rfl rfl (hb hby at_188) rfl (own_refeq _) (by decide) (by decide) k) ?_
        show OwnGo p e below _ (T302.setTop (mkF m 191 #[.val (.int p1), .val (.int p2), .val (.int p3), .val (.ref a76), .val (.ref a87), .val (.ref a102), .val (.int (2 : Int32)), .val (.int (1 : Int32)), .val (.int (0 : Int32)), .val (.int (4 : Int32))] []))
        refine own_go (fun _ k => XS.iconst X302.here hx rfl (hb hby at_191) k) ?_
        show OwnGo p e below _ (T302.setTop (mkF m 192 #[.val (.int p1), .val (.int p2), .val (.int p3), .val (.ref a76), .val (.ref a87), .val (.ref a102), .val (.int (2 : Int32)), .val (.int (1 : Int32)), .val (.int (0 : Int32)), .val (.int (4 : Int32))] [(.int (1 : Int32))]))
        refine own_go (fun _ k => XS.goto X302.here hx rfl (pc0 := 192) (pc' := 196) rfl (hb hby at_192) (by decide) (by decide) k) ?_
        show OwnGo p e below _ (T302.setTop (mkF m 196 #[.val (.int p1), .val (.int p2), .val (.int p3), .val (.ref a76), .val (.ref a87), .val (.ref a102), .val (.int (2 : Int32)), .val (.int (1 : Int32)), .val (.int (0 : Int32)), .val (.int (4 : Int32))] [(.int (1 : Int32))]))
        obtain ⟨fs, hr, hrun, hended, hEnd⟩ := Jvm.Stand.leaveW (s := s) (vm₁ := T302.vm) X302 hS302 (by rw [e302]; exact (Nat.le_refl _)) (v := some (.int (1 : Int32))) (fun h => by rw [Bd.returns] at h; cases h)
        refine ⟨_, _, retOut X302 hx Bd.returns rfl (Or.inl ⟨rfl, Or.inr (Or.inl rfl), _, rfl⟩) (hb hby at_196) hr, hrun, hended, _, _, rfl, ?_, own_monoW hEnd (by decide) (by decide)⟩
        show Q_law Z aIDENTICAL aCONTAINMENT aPARTIAL aA_TO_B aB_TO_A aBOTH aNONE aMIRROR aTEMPLATE_OR_PLAGIARISM aARCHIVE_PAGE aLINK_LIST_PART aSAME_SITE_RELATED aCITATION_OR_SPAM aSHARED_TEXT_OR_PLAGIARISM aSW kSW p1 p2 p3 h0 n0 _ T302.heap _
        rw [e302]
        exact ⟨rfl, N302⟩
      · rw [hv297]
        show OwnGo p e below _ (T126.setTop (mkF m 127 #[.val (.int p1), .val (.int p2), .val (.int p3), .val (.ref a76), .val (.ref a87), .val (.ref a102), .val (.int (2 : Int32)), .val (.int (1 : Int32)), .unset, .unset] [(.int (1 : Int32))]))
        refine own_go (fun _ k => XS.istore X126.here hx rfl (hb hby at_127) rfl (l' := #[.val (.int p1), .val (.int p2), .val (.int p3), .val (.ref a76), .val (.ref a87), .val (.ref a102), .val (.int (2 : Int32)), .val (.int (1 : Int32)), .val (.int (1 : Int32)), .unset]) rfl k) ?_
        show OwnGo p e below _ (T126.setTop (mkF m 129 #[.val (.int p1), .val (.int p2), .val (.int p3), .val (.ref a76), .val (.ref a87), .val (.ref a102), .val (.int (2 : Int32)), .val (.int (1 : Int32)), .val (.int (1 : Int32)), .unset] []))
        refine own_go (fun _ k => XS.iconst X126.here hx rfl (hb hby at_129) k) ?_
        show OwnGo p e below _ (T126.setTop (mkF m 130 #[.val (.int p1), .val (.int p2), .val (.int p3), .val (.ref a76), .val (.ref a87), .val (.ref a102), .val (.int (2 : Int32)), .val (.int (1 : Int32)), .val (.int (1 : Int32)), .unset] [(.int (2 : Int32))]))
        refine own_go (fun _ k => XS.iload X126.here hx rfl (hb hby at_130) rfl k) ?_
        show OwnGo p e below _ (T126.setTop (mkF m 132 #[.val (.int p1), .val (.int p2), .val (.int p3), .val (.ref a76), .val (.ref a87), .val (.ref a102), .val (.int (2 : Int32)), .val (.int (1 : Int32)), .val (.int (1 : Int32)), .unset] [(.int (2 : Int32)), (.int (2 : Int32))]))
        refine own_go (fun _ k => XS.imul X126.here hx rfl (hb hby at_132) rfl k) ?_
        show OwnGo p e below _ (T126.setTop (mkF m 133 #[.val (.int p1), .val (.int p2), .val (.int p3), .val (.ref a76), .val (.ref a87), .val (.ref a102), .val (.int (2 : Int32)), .val (.int (1 : Int32)), .val (.int (1 : Int32)), .unset] [(.int ((2 : Int32) * (2 : Int32)))]))
        rw [show ((2 : Int32) * (2 : Int32)) = (4 : Int32) from by decide]
        show OwnGo p e below _ (T126.setTop (mkF m 133 #[.val (.int p1), .val (.int p2), .val (.int p3), .val (.ref a76), .val (.ref a87), .val (.ref a102), .val (.int (2 : Int32)), .val (.int (1 : Int32)), .val (.int (1 : Int32)), .unset] [(.int (4 : Int32))]))
        refine own_go (fun _ k => XS.iload X126.here hx rfl (hb hby at_133) rfl k) ?_
        show OwnGo p e below _ (T126.setTop (mkF m 135 #[.val (.int p1), .val (.int p2), .val (.int p3), .val (.ref a76), .val (.ref a87), .val (.ref a102), .val (.int (2 : Int32)), .val (.int (1 : Int32)), .val (.int (1 : Int32)), .unset] [(.int (1 : Int32)), (.int (4 : Int32))]))
        refine own_go (fun _ k => XS.ifNo X126.here hx rfl (hb hby at_135) rfl (by decide) k) ?_
        show OwnGo p e below _ (T126.setTop (mkF m 138 #[.val (.int p1), .val (.int p2), .val (.int p3), .val (.ref a76), .val (.ref a87), .val (.ref a102), .val (.int (2 : Int32)), .val (.int (1 : Int32)), .val (.int (1 : Int32)), .unset] [(.int (4 : Int32))]))
        refine own_go (fun _ k => XS.iconst X126.here hx rfl (hb hby at_138) k) ?_
        show OwnGo p e below _ (T126.setTop (mkF m 139 #[.val (.int p1), .val (.int p2), .val (.int p3), .val (.ref a76), .val (.ref a87), .val (.ref a102), .val (.int (2 : Int32)), .val (.int (1 : Int32)), .val (.int (1 : Int32)), .unset] [(.int (0 : Int32)), (.int (4 : Int32))]))
        refine own_go (fun _ k => XS.goto X126.here hx rfl (pc0 := 139) (pc' := 143) rfl (hb hby at_139) (by decide) (by decide) k) ?_
        show OwnGo p e below _ (T126.setTop (mkF m 143 #[.val (.int p1), .val (.int p2), .val (.int p3), .val (.ref a76), .val (.ref a87), .val (.ref a102), .val (.int (2 : Int32)), .val (.int (1 : Int32)), .val (.int (1 : Int32)), .unset] [(.int (0 : Int32)), (.int (4 : Int32))]))
        refine own_go (fun _ k => XS.iadd X126.here hx rfl (hb hby at_143) rfl k) ?_
        show OwnGo p e below _ (T126.setTop (mkF m 144 #[.val (.int p1), .val (.int p2), .val (.int p3), .val (.ref a76), .val (.ref a87), .val (.ref a102), .val (.int (2 : Int32)), .val (.int (1 : Int32)), .val (.int (1 : Int32)), .unset] [(.int ((4 : Int32) + (0 : Int32)))]))
        rw [show ((4 : Int32) + (0 : Int32)) = (4 : Int32) from by decide]
        show OwnGo p e below _ (T126.setTop (mkF m 144 #[.val (.int p1), .val (.int p2), .val (.int p3), .val (.ref a76), .val (.ref a87), .val (.ref a102), .val (.int (2 : Int32)), .val (.int (1 : Int32)), .val (.int (1 : Int32)), .unset] [(.int (4 : Int32))]))
        refine own_go (fun _ k => XS.iload X126.here hx rfl (hb hby at_144) rfl k) ?_
        show OwnGo p e below _ (T126.setTop (mkF m 146 #[.val (.int p1), .val (.int p2), .val (.int p3), .val (.ref a76), .val (.ref a87), .val (.ref a102), .val (.int (2 : Int32)), .val (.int (1 : Int32)), .val (.int (1 : Int32)), .unset] [(.int (2 : Int32)), (.int (4 : Int32))]))
        refine own_go (fun _ k => XS.iconst X126.here hx rfl (hb hby at_146) k) ?_
        show OwnGo p e below _ (T126.setTop (mkF m 147 #[.val (.int p1), .val (.int p2), .val (.int p3), .val (.ref a76), .val (.ref a87), .val (.ref a102), .val (.int (2 : Int32)), .val (.int (1 : Int32)), .val (.int (1 : Int32)), .unset] [(.int (2 : Int32)), (.int (2 : Int32)), (.int (4 : Int32))]))
        refine own_go (fun _ k => XS.icmpNo X126.here hx rfl (hb hby at_147) rfl (by decide) k) ?_
        show OwnGo p e below _ (T126.setTop (mkF m 150 #[.val (.int p1), .val (.int p2), .val (.int p3), .val (.ref a76), .val (.ref a87), .val (.ref a102), .val (.int (2 : Int32)), .val (.int (1 : Int32)), .val (.int (1 : Int32)), .unset] [(.int (4 : Int32))]))
        refine own_go (fun _ k => XS.iload X126.here hx rfl (hb hby at_150) rfl k) ?_
        show OwnGo p e below _ (T126.setTop (mkF m 152 #[.val (.int p1), .val (.int p2), .val (.int p3), .val (.ref a76), .val (.ref a87), .val (.ref a102), .val (.int (2 : Int32)), .val (.int (1 : Int32)), .val (.int (1 : Int32)), .unset] [(.int (1 : Int32)), (.int (4 : Int32))]))
        refine own_go (fun _ k => XS.ifYes X126.here hx rfl (pc0 := 152) (pc' := 165) rfl (hb hby at_152) rfl (by decide) (by decide) (by decide) k) ?_
        show OwnGo p e below _ (T126.setTop (mkF m 165 #[.val (.int p1), .val (.int p2), .val (.int p3), .val (.ref a76), .val (.ref a87), .val (.ref a102), .val (.int (2 : Int32)), .val (.int (1 : Int32)), .val (.int (1 : Int32)), .unset] [(.int (4 : Int32))]))
        refine own_go (fun _ k => XS.iconst X126.here hx rfl (hb hby at_165) k) ?_
        show OwnGo p e below _ (T126.setTop (mkF m 166 #[.val (.int p1), .val (.int p2), .val (.int p3), .val (.ref a76), .val (.ref a87), .val (.ref a102), .val (.int (2 : Int32)), .val (.int (1 : Int32)), .val (.int (1 : Int32)), .unset] [(.int (0 : Int32)), (.int (4 : Int32))]))
        refine own_go (fun _ k => XS.iadd X126.here hx rfl (hb hby at_166) rfl k) ?_
        show OwnGo p e below _ (T126.setTop (mkF m 167 #[.val (.int p1), .val (.int p2), .val (.int p3), .val (.ref a76), .val (.ref a87), .val (.ref a102), .val (.int (2 : Int32)), .val (.int (1 : Int32)), .val (.int (1 : Int32)), .unset] [(.int ((4 : Int32) + (0 : Int32)))]))
        rw [show ((4 : Int32) + (0 : Int32)) = (4 : Int32) from by decide]
        show OwnGo p e below _ (T126.setTop (mkF m 167 #[.val (.int p1), .val (.int p2), .val (.int p3), .val (.ref a76), .val (.ref a87), .val (.ref a102), .val (.int (2 : Int32)), .val (.int (1 : Int32)), .val (.int (1 : Int32)), .unset] [(.int (4 : Int32))]))
        refine own_go (fun _ k => XS.istore X126.here hx rfl (hb hby at_167) rfl (l' := #[.val (.int p1), .val (.int p2), .val (.int p3), .val (.ref a76), .val (.ref a87), .val (.ref a102), .val (.int (2 : Int32)), .val (.int (1 : Int32)), .val (.int (1 : Int32)), .val (.int (4 : Int32))]) rfl k) ?_
        show OwnGo p e below _ (T126.setTop (mkF m 169 #[.val (.int p1), .val (.int p2), .val (.int p3), .val (.ref a76), .val (.ref a87), .val (.ref a102), .val (.int (2 : Int32)), .val (.int (1 : Int32)), .val (.int (1 : Int32)), .val (.int (4 : Int32))] []))
        refine own_go (fun _ k => XS.aloadN X126.here hx rfl (hb hby at_169) rfl rfl k) ?_
        show OwnGo p e below _ (T126.setTop (mkF m 170 #[.val (.int p1), .val (.int p2), .val (.int p3), .val (.ref a76), .val (.ref a87), .val (.ref a102), .val (.int (2 : Int32)), .val (.int (1 : Int32)), .val (.int (1 : Int32)), .val (.int (4 : Int32))] [(.ref a76)]))
        refine own_go (fun _ k => XS.iload X126.here hx rfl (hb hby at_170) rfl k) ?_
        show OwnGo p e below _ (T126.setTop (mkF m 172 #[.val (.int p1), .val (.int p2), .val (.int p3), .val (.ref a76), .val (.ref a87), .val (.ref a102), .val (.int (2 : Int32)), .val (.int (1 : Int32)), .val (.int (1 : Int32)), .val (.int (4 : Int32))] [(.int (2 : Int32)), (.ref a76)]))
        have F306 := ((((((((F103.ext E102).other W108 ne104).other W111 ne104).other W114 ne104).other W117 ne104).other W120 ne104).other W123 ne104).other W126 ne104)
        obtain ⟨c307, Ar307, q307, S307, M307, H307, G307⟩ := (id F306)
        refine own_go (fun _ k => X126.aaload hx (j := (2 : Int32)) (v := (.ref aPARTIAL)) (by rw [e126]; exact Ar307.1) (State.isArrayOf_alike hZ.alike Ar307.2.1) rfl Ar307.2.2 (inb_of S307 ⟨by decide, by decide⟩) (Has.at H307 (inb_of S307 ⟨by decide, by decide⟩) rfl) (g := (mkF m 172 #[.val (.int p1), .val (.int p2), .val (.int p3), .val (.ref a76), .val (.ref a87), .val (.ref a102), .val (.int (2 : Int32)), .val (.int (1 : Int32)), .val (.int (1 : Int32)), .val (.int (4 : Int32))] [(.int (2 : Int32)), (.ref a76)])) rfl rfl (hb hby at_172) _ k) ?_
        show OwnGo p e below _ (T126.setTop (mkF m 173 #[.val (.int p1), .val (.int p2), .val (.int p3), .val (.ref a76), .val (.ref a87), .val (.ref a102), .val (.int (2 : Int32)), .val (.int (1 : Int32)), .val (.int (1 : Int32)), .val (.int (4 : Int32))] [(.ref aPARTIAL)]))
        refine own_go (fun _ k => XS.iload X126.here hx rfl (hb hby at_173) rfl k) ?_
        show OwnGo p e below _ (T126.setTop (mkF m 175 #[.val (.int p1), .val (.int p2), .val (.int p3), .val (.ref a76), .val (.ref a87), .val (.ref a102), .val (.int (2 : Int32)), .val (.int (1 : Int32)), .val (.int (1 : Int32)), .val (.int (4 : Int32))] [(.int (1 : Int32)), (.ref aPARTIAL)]))
        refine own_go (fun _ k => XS.aload X126.here hx rfl (hb hby at_175) rfl rfl k) ?_
        show OwnGo p e below _ (T126.setTop (mkF m 177 #[.val (.int p1), .val (.int p2), .val (.int p3), .val (.ref a76), .val (.ref a87), .val (.ref a102), .val (.int (2 : Int32)), .val (.int (1 : Int32)), .val (.int (1 : Int32)), .val (.int (4 : Int32))] [(.ref a87), (.int (1 : Int32)), (.ref aPARTIAL)]))
        refine own_go (fun _ k => XS.iload X126.here hx rfl (hb hby at_177) rfl k) ?_
        show OwnGo p e below _ (T126.setTop (mkF m 179 #[.val (.int p1), .val (.int p2), .val (.int p3), .val (.ref a76), .val (.ref a87), .val (.ref a102), .val (.int (2 : Int32)), .val (.int (1 : Int32)), .val (.int (1 : Int32)), .val (.int (4 : Int32))] [(.int (1 : Int32)), (.ref a87), (.int (1 : Int32)), (.ref aPARTIAL)]))
        have F308 := ((((((((V100.ext E102).other W108 ne105).other W111 ne105).other W114 ne105).other W117 ne105).other W120 ne105).other W123 ne105).other W126 ne105)
        obtain ⟨c309, Ar309, q309, S309, M309, H309, G309⟩ := (id F308)
        refine own_go (fun _ k => X126.aaload hx (j := (1 : Int32)) (v := (.ref aB_TO_A)) (by rw [e126]; exact Ar309.1) (State.isArrayOf_alike hZ.alike Ar309.2.1) rfl Ar309.2.2 (inb_of S309 ⟨by decide, by decide⟩) (Has.at H309 (inb_of S309 ⟨by decide, by decide⟩) rfl) (g := (mkF m 179 #[.val (.int p1), .val (.int p2), .val (.int p3), .val (.ref a76), .val (.ref a87), .val (.ref a102), .val (.int (2 : Int32)), .val (.int (1 : Int32)), .val (.int (1 : Int32)), .val (.int (4 : Int32))] [(.int (1 : Int32)), (.ref a87), (.int (1 : Int32)), (.ref aPARTIAL)])) rfl rfl (hb hby at_179) _ k) ?_
        show OwnGo p e below _ (T126.setTop (mkF m 180 #[.val (.int p1), .val (.int p2), .val (.int p3), .val (.ref a76), .val (.ref a87), .val (.ref a102), .val (.int (2 : Int32)), .val (.int (1 : Int32)), .val (.int (1 : Int32)), .val (.int (4 : Int32))] [(.ref aB_TO_A), (.int (1 : Int32)), (.ref aPARTIAL)]))
        obtain ⟨_, _, ⟨T310, L310, k310, n310⟩, -, X310, hS310, hg310, ⟨Lc310, hQ310, l310, y310, z310⟩, st310⟩ := callSS X126 hx (y := (⟨"com/example/page_copy_finder/pagecopyfinder/copies/PairLabel", "of", "(Lcom/example/page_copy_finder/pagecopyfinder/copies/PairKind;ZLcom/example/page_copy_finder/pagecopyfinder/copies/PairLinks;)Lcom/example/page_copy_finder/pagecopyfinder/copies/PairLabel;"⟩ : MethodName)) hown (mvT hZ (hw _ (List.mem_of_getElem? (i := 41) rfl))) (mvT hZ (hw _ (List.mem_of_getElem? (i := 42) rfl))) (mvT hZ (hw _ (List.mem_of_getElem? (i := 25) rfl))) (mvT hZ (hw _ (List.mem_of_getElem? (i := 43) rfl))) (by decide) (backOfS (W := 0) (rm_of21 l Z a0 hw [] aIDENTICAL aCONTAINMENT aPARTIAL aA_TO_B aB_TO_A aBOTH aNONE aMIRROR aTEMPLATE_OR_PLAGIARISM aARCHIVE_PAGE aLINK_LIST_PART aSAME_SITE_RELATED aCITATION_OR_SPAM aSHARED_TEXT_OR_PLAGIARISM aSW kSW F0 aB_TO_A h126 n0 O126) hZ (hw _ (List.mem_of_getElem? (i := 43) rfl)) (hw _ (List.mem_of_getElem? (i := 25) rfl)) (by decide) (by decide)) (g := (mkF m 180 #[.val (.int p1), .val (.int p2), .val (.int p3), .val (.ref a76), .val (.ref a87), .val (.ref a102), .val (.int (2 : Int32)), .val (.int (1 : Int32)), .val (.int (1 : Int32)), .val (.int (4 : Int32))] [(.ref aB_TO_A), (.int (1 : Int32)), (.ref aPARTIAL)])) rfl (by rw [hml]; rfl) (argsL := [(.ref aPARTIAL), (.int (1 : Int32)), (.ref aB_TO_A)]) (rest := []) (lenOf pd_Lcom_example_page_copy_finder_pagecopyfinder_copies_PairKind__Z_Lcom_example_page_copy_finder_pagecopyfinder_copies_PairLinks___Lcom_example_page_copy_finder_pagecopyfinder_copies_PairLabel_ rfl) rfl (by show 2 * 0 + _ ≤ _; exact Nat.le_of_eq rfl) (hb hby at_180) (fun _ _ => ⟨rfl, e126, (by decide : 3 + 4 ≤ _), (by decide : 14 + 44 ≤ _)⟩)
        dsimp only [Pt.U, Pt.locs, Pt.cells, Pt.slots] at X310 l310 y310 z310 st310 hQ310 hS310 hg310
        subst l310 y310 z310
        obtain ⟨rfl, Nq310, K310⟩ := hQ310
        have N310 := Fr.app N126 Nq310
        have hZ : Z.Warmed39 (s.setVm T310.vm).vm := State.Warmed39.trans hZ hS310.1
        have hown : (s.setVm T310.vm).vm.findClass "com/example/page_copy_finder/pagecopyfinder/copies/PairLabelOfPinLaw" = some m.cls := (hS310.1.alike.findClass _ _).trans hown
        have O310 := O126.keep K310 all0
        have e310 : T310.heap = T310.heap := rfl
        have z311 : h0.size ≤ T310.heap.size := Nat.le_trans z127 K310.1
        refine own_go (fun _ k => st310.trans k) ?_
        show OwnGo p e below _ (T310.setTop (mkF m 183 #[.val (.int p1), .val (.int p2), .val (.int p3), .val (.ref a76), .val (.ref a87), .val (.ref a102), .val (.int (2 : Int32)), .val (.int (1 : Int32)), .val (.int (1 : Int32)), .val (.int (4 : Int32))] [(.ref aSAME_SITE_RELATED)]))
        refine own_go (fun _ k => XS.aload X310.here hx rfl (hb hby at_183) rfl rfl k) ?_
        show OwnGo p e below _ (T310.setTop (mkF m 185 #[.val (.int p1), .val (.int p2), .val (.int p3), .val (.ref a76), .val (.ref a87), .val (.ref a102), .val (.int (2 : Int32)), .val (.int (1 : Int32)), .val (.int (1 : Int32)), .val (.int (4 : Int32))] [(.ref a102), (.ref aSAME_SITE_RELATED)]))
        refine own_go (fun _ k => XS.iload X310.here hx rfl (hb hby at_185) rfl k) ?_
        show OwnGo p e below _ (T310.setTop (mkF m 187 #[.val (.int p1), .val (.int p2), .val (.int p3), .val (.ref a76), .val (.ref a87), .val (.ref a102), .val (.int (2 : Int32)), .val (.int (1 : Int32)), .val (.int (1 : Int32)), .val (.int (4 : Int32))] [(.int (4 : Int32)), (.ref a102), (.ref aSAME_SITE_RELATED)]))
        have F312 := (V126.keep K310 nin0)
        obtain ⟨c313, Ar313, q313, S313, M313, H313, G313⟩ := (id F312)
        refine own_go (fun _ k => X310.aaload hx (j := (4 : Int32)) (v := (.ref aSAME_SITE_RELATED)) (by rw [e310]; exact Ar313.1) (State.isArrayOf_alike hZ.alike Ar313.2.1) rfl Ar313.2.2 (inb_of S313 ⟨by decide, by decide⟩) (Has.at H313 (inb_of S313 ⟨by decide, by decide⟩) rfl) (g := (mkF m 187 #[.val (.int p1), .val (.int p2), .val (.int p3), .val (.ref a76), .val (.ref a87), .val (.ref a102), .val (.int (2 : Int32)), .val (.int (1 : Int32)), .val (.int (1 : Int32)), .val (.int (4 : Int32))] [(.int (4 : Int32)), (.ref a102), (.ref aSAME_SITE_RELATED)])) rfl rfl (hb hby at_187) _ k) ?_
        show OwnGo p e below _ (T310.setTop (mkF m 188 #[.val (.int p1), .val (.int p2), .val (.int p3), .val (.ref a76), .val (.ref a87), .val (.ref a102), .val (.int (2 : Int32)), .val (.int (1 : Int32)), .val (.int (1 : Int32)), .val (.int (4 : Int32))] [(.ref aSAME_SITE_RELATED), (.ref aSAME_SITE_RELATED)]))
        refine own_go (fun _ k => acmp X310 hx rfl (cd := .ne) (o := 7) (x := (.ref aSAME_SITE_RELATED)) (y := (.ref aSAME_SITE_RELATED)) (pc0 := 188) (pc' := 191) rfl rfl rfl (hb hby at_188) rfl (own_refeq _) (by decide) (by decide) k) ?_
        show OwnGo p e below _ (T310.setTop (mkF m 191 #[.val (.int p1), .val (.int p2), .val (.int p3), .val (.ref a76), .val (.ref a87), .val (.ref a102), .val (.int (2 : Int32)), .val (.int (1 : Int32)), .val (.int (1 : Int32)), .val (.int (4 : Int32))] []))
        refine own_go (fun _ k => XS.iconst X310.here hx rfl (hb hby at_191) k) ?_
        show OwnGo p e below _ (T310.setTop (mkF m 192 #[.val (.int p1), .val (.int p2), .val (.int p3), .val (.ref a76), .val (.ref a87), .val (.ref a102), .val (.int (2 : Int32)), .val (.int (1 : Int32)), .val (.int (1 : Int32)), .val (.int (4 : Int32))] [(.int (1 : Int32))]))
        refine own_go (fun _ k => XS.goto X310.here hx rfl (pc0 := 192) (pc' := 196) rfl (hb hby at_192) (by decide) (by decide) k) ?_
        show OwnGo p e below _ (T310.setTop (mkF m 196 #[.val (.int p1), .val (.int p2), .val (.int p3), .val (.ref a76), .val (.ref a87), .val (.ref a102), .val (.int (2 : Int32)), .val (.int (1 : Int32)), .val (.int (1 : Int32)), .val (.int (4 : Int32))] [(.int (1 : Int32))]))
        obtain ⟨fs, hr, hrun, hended, hEnd⟩ := Jvm.Stand.leaveW (s := s) (vm₁ := T310.vm) X310 hS310 (by rw [e310]; exact (Nat.le_refl _)) (v := some (.int (1 : Int32))) (fun h => by rw [Bd.returns] at h; cases h)
        refine ⟨_, _, retOut X310 hx Bd.returns rfl (Or.inl ⟨rfl, Or.inr (Or.inl rfl), _, rfl⟩) (hb hby at_196) hr, hrun, hended, _, _, rfl, ?_, own_monoW hEnd (by decide) (by decide)⟩
        show Q_law Z aIDENTICAL aCONTAINMENT aPARTIAL aA_TO_B aB_TO_A aBOTH aNONE aMIRROR aTEMPLATE_OR_PLAGIARISM aARCHIVE_PAGE aLINK_LIST_PART aSAME_SITE_RELATED aCITATION_OR_SPAM aSHARED_TEXT_OR_PLAGIARISM aSW kSW p1 p2 p3 h0 n0 _ T310.heap _
        rw [e310]
        exact ⟨rfl, N310⟩
      · rw [hv297]
        show OwnGo p e below _ (T126.setTop (mkF m 127 #[.val (.int p1), .val (.int p2), .val (.int p3), .val (.ref a76), .val (.ref a87), .val (.ref a102), .val (.int (2 : Int32)), .val (.int (1 : Int32)), .unset, .unset] [(.int (2 : Int32))]))
        refine own_go (fun _ k => XS.istore X126.here hx rfl (hb hby at_127) rfl (l' := #[.val (.int p1), .val (.int p2), .val (.int p3), .val (.ref a76), .val (.ref a87), .val (.ref a102), .val (.int (2 : Int32)), .val (.int (1 : Int32)), .val (.int (2 : Int32)), .unset]) rfl k) ?_
        show OwnGo p e below _ (T126.setTop (mkF m 129 #[.val (.int p1), .val (.int p2), .val (.int p3), .val (.ref a76), .val (.ref a87), .val (.ref a102), .val (.int (2 : Int32)), .val (.int (1 : Int32)), .val (.int (2 : Int32)), .unset] []))
        refine own_go (fun _ k => XS.iconst X126.here hx rfl (hb hby at_129) k) ?_
        show OwnGo p e below _ (T126.setTop (mkF m 130 #[.val (.int p1), .val (.int p2), .val (.int p3), .val (.ref a76), .val (.ref a87), .val (.ref a102), .val (.int (2 : Int32)), .val (.int (1 : Int32)), .val (.int (2 : Int32)), .unset] [(.int (2 : Int32))]))
        refine own_go (fun _ k => XS.iload X126.here hx rfl (hb hby at_130) rfl k) ?_
        show OwnGo p e below _ (T126.setTop (mkF m 132 #[.val (.int p1), .val (.int p2), .val (.int p3), .val (.ref a76), .val (.ref a87), .val (.ref a102), .val (.int (2 : Int32)), .val (.int (1 : Int32)), .val (.int (2 : Int32)), .unset] [(.int (2 : Int32)), (.int (2 : Int32))]))
        refine own_go (fun _ k => XS.imul X126.here hx rfl (hb hby at_132) rfl k) ?_
        show OwnGo p e below _ (T126.setTop (mkF m 133 #[.val (.int p1), .val (.int p2), .val (.int p3), .val (.ref a76), .val (.ref a87), .val (.ref a102), .val (.int (2 : Int32)), .val (.int (1 : Int32)), .val (.int (2 : Int32)), .unset] [(.int ((2 : Int32) * (2 : Int32)))]))
        rw [show ((2 : Int32) * (2 : Int32)) = (4 : Int32) from by decide]
        show OwnGo p e below _ (T126.setTop (mkF m 133 #[.val (.int p1), .val (.int p2), .val (.int p3), .val (.ref a76), .val (.ref a87), .val (.ref a102), .val (.int (2 : Int32)), .val (.int (1 : Int32)), .val (.int (2 : Int32)), .unset] [(.int (4 : Int32))]))
        refine own_go (fun _ k => XS.iload X126.here hx rfl (hb hby at_133) rfl k) ?_
        show OwnGo p e below _ (T126.setTop (mkF m 135 #[.val (.int p1), .val (.int p2), .val (.int p3), .val (.ref a76), .val (.ref a87), .val (.ref a102), .val (.int (2 : Int32)), .val (.int (1 : Int32)), .val (.int (2 : Int32)), .unset] [(.int (1 : Int32)), (.int (4 : Int32))]))
        refine own_go (fun _ k => XS.ifNo X126.here hx rfl (hb hby at_135) rfl (by decide) k) ?_
        show OwnGo p e below _ (T126.setTop (mkF m 138 #[.val (.int p1), .val (.int p2), .val (.int p3), .val (.ref a76), .val (.ref a87), .val (.ref a102), .val (.int (2 : Int32)), .val (.int (1 : Int32)), .val (.int (2 : Int32)), .unset] [(.int (4 : Int32))]))
        refine own_go (fun _ k => XS.iconst X126.here hx rfl (hb hby at_138) k) ?_
        show OwnGo p e below _ (T126.setTop (mkF m 139 #[.val (.int p1), .val (.int p2), .val (.int p3), .val (.ref a76), .val (.ref a87), .val (.ref a102), .val (.int (2 : Int32)), .val (.int (1 : Int32)), .val (.int (2 : Int32)), .unset] [(.int (0 : Int32)), (.int (4 : Int32))]))
        refine own_go (fun _ k => XS.goto X126.here hx rfl (pc0 := 139) (pc' := 143) rfl (hb hby at_139) (by decide) (by decide) k) ?_
        show OwnGo p e below _ (T126.setTop (mkF m 143 #[.val (.int p1), .val (.int p2), .val (.int p3), .val (.ref a76), .val (.ref a87), .val (.ref a102), .val (.int (2 : Int32)), .val (.int (1 : Int32)), .val (.int (2 : Int32)), .unset] [(.int (0 : Int32)), (.int (4 : Int32))]))
        refine own_go (fun _ k => XS.iadd X126.here hx rfl (hb hby at_143) rfl k) ?_
        show OwnGo p e below _ (T126.setTop (mkF m 144 #[.val (.int p1), .val (.int p2), .val (.int p3), .val (.ref a76), .val (.ref a87), .val (.ref a102), .val (.int (2 : Int32)), .val (.int (1 : Int32)), .val (.int (2 : Int32)), .unset] [(.int ((4 : Int32) + (0 : Int32)))]))
        rw [show ((4 : Int32) + (0 : Int32)) = (4 : Int32) from by decide]
        show OwnGo p e below _ (T126.setTop (mkF m 144 #[.val (.int p1), .val (.int p2), .val (.int p3), .val (.ref a76), .val (.ref a87), .val (.ref a102), .val (.int (2 : Int32)), .val (.int (1 : Int32)), .val (.int (2 : Int32)), .unset] [(.int (4 : Int32))]))
        refine own_go (fun _ k => XS.iload X126.here hx rfl (hb hby at_144) rfl k) ?_
        show OwnGo p e below _ (T126.setTop (mkF m 146 #[.val (.int p1), .val (.int p2), .val (.int p3), .val (.ref a76), .val (.ref a87), .val (.ref a102), .val (.int (2 : Int32)), .val (.int (1 : Int32)), .val (.int (2 : Int32)), .unset] [(.int (2 : Int32)), (.int (4 : Int32))]))
        refine own_go (fun _ k => XS.iconst X126.here hx rfl (hb hby at_146) k) ?_
        show OwnGo p e below _ (T126.setTop (mkF m 147 #[.val (.int p1), .val (.int p2), .val (.int p3), .val (.ref a76), .val (.ref a87), .val (.ref a102), .val (.int (2 : Int32)), .val (.int (1 : Int32)), .val (.int (2 : Int32)), .unset] [(.int (2 : Int32)), (.int (2 : Int32)), (.int (4 : Int32))]))
        refine own_go (fun _ k => XS.icmpNo X126.here hx rfl (hb hby at_147) rfl (by decide) k) ?_
        show OwnGo p e below _ (T126.setTop (mkF m 150 #[.val (.int p1), .val (.int p2), .val (.int p3), .val (.ref a76), .val (.ref a87), .val (.ref a102), .val (.int (2 : Int32)), .val (.int (1 : Int32)), .val (.int (2 : Int32)), .unset] [(.int (4 : Int32))]))
        refine own_go (fun _ k => XS.iload X126.here hx rfl (hb hby at_150) rfl k) ?_
        show OwnGo p e below _ (T126.setTop (mkF m 152 #[.val (.int p1), .val (.int p2), .val (.int p3), .val (.ref a76), .val (.ref a87), .val (.ref a102), .val (.int (2 : Int32)), .val (.int (1 : Int32)), .val (.int (2 : Int32)), .unset] [(.int (1 : Int32)), (.int (4 : Int32))]))
        refine own_go (fun _ k => XS.ifYes X126.here hx rfl (pc0 := 152) (pc' := 165) rfl (hb hby at_152) rfl (by decide) (by decide) (by decide) k) ?_
        show OwnGo p e below _ (T126.setTop (mkF m 165 #[.val (.int p1), .val (.int p2), .val (.int p3), .val (.ref a76), .val (.ref a87), .val (.ref a102), .val (.int (2 : Int32)), .val (.int (1 : Int32)), .val (.int (2 : Int32)), .unset] [(.int (4 : Int32))]))
        refine own_go (fun _ k => XS.iconst X126.here hx rfl (hb hby at_165) k) ?_
        show OwnGo p e below _ (T126.setTop (mkF m 166 #[.val (.int p1), .val (.int p2), .val (.int p3), .val (.ref a76), .val (.ref a87), .val (.ref a102), .val (.int (2 : Int32)), .val (.int (1 : Int32)), .val (.int (2 : Int32)), .unset] [(.int (0 : Int32)), (.int (4 : Int32))]))
        refine own_go (fun _ k => XS.iadd X126.here hx rfl (hb hby at_166) rfl k) ?_
        show OwnGo p e below _ (T126.setTop (mkF m 167 #[.val (.int p1), .val (.int p2), .val (.int p3), .val (.ref a76), .val (.ref a87), .val (.ref a102), .val (.int (2 : Int32)), .val (.int (1 : Int32)), .val (.int (2 : Int32)), .unset] [(.int ((4 : Int32) + (0 : Int32)))]))
        rw [show ((4 : Int32) + (0 : Int32)) = (4 : Int32) from by decide]
        show OwnGo p e below _ (T126.setTop (mkF m 167 #[.val (.int p1), .val (.int p2), .val (.int p3), .val (.ref a76), .val (.ref a87), .val (.ref a102), .val (.int (2 : Int32)), .val (.int (1 : Int32)), .val (.int (2 : Int32)), .unset] [(.int (4 : Int32))]))
        refine own_go (fun _ k => XS.istore X126.here hx rfl (hb hby at_167) rfl (l' := #[.val (.int p1), .val (.int p2), .val (.int p3), .val (.ref a76), .val (.ref a87), .val (.ref a102), .val (.int (2 : Int32)), .val (.int (1 : Int32)), .val (.int (2 : Int32)), .val (.int (4 : Int32))]) rfl k) ?_
        show OwnGo p e below _ (T126.setTop (mkF m 169 #[.val (.int p1), .val (.int p2), .val (.int p3), .val (.ref a76), .val (.ref a87), .val (.ref a102), .val (.int (2 : Int32)), .val (.int (1 : Int32)), .val (.int (2 : Int32)), .val (.int (4 : Int32))] []))
        refine own_go (fun _ k => XS.aloadN X126.here hx rfl (hb hby at_169) rfl rfl k) ?_
        show OwnGo p e below _ (T126.setTop (mkF m 170 #[.val (.int p1), .val (.int p2), .val (.int p3), .val (.ref a76), .val (.ref a87), .val (.ref a102), .val (.int (2 : Int32)), .val (.int (1 : Int32)), .val (.int (2 : Int32)), .val (.int (4 : Int32))] [(.ref a76)]))
        refine own_go (fun _ k => XS.iload X126.here hx rfl (hb hby at_170) rfl k) ?_
        show OwnGo p e below _ (T126.setTop (mkF m 172 #[.val (.int p1), .val (.int p2), .val (.int p3), .val (.ref a76), .val (.ref a87), .val (.ref a102), .val (.int (2 : Int32)), .val (.int (1 : Int32)), .val (.int (2 : Int32)), .val (.int (4 : Int32))] [(.int (2 : Int32)), (.ref a76)]))
        have F314 := ((((((((F103.ext E102).other W108 ne104).other W111 ne104).other W114 ne104).other W117 ne104).other W120 ne104).other W123 ne104).other W126 ne104)
        obtain ⟨c315, Ar315, q315, S315, M315, H315, G315⟩ := (id F314)
        refine own_go (fun _ k => X126.aaload hx (j := (2 : Int32)) (v := (.ref aPARTIAL)) (by rw [e126]; exact Ar315.1) (State.isArrayOf_alike hZ.alike Ar315.2.1) rfl Ar315.2.2 (inb_of S315 ⟨by decide, by decide⟩) (Has.at H315 (inb_of S315 ⟨by decide, by decide⟩) rfl) (g := (mkF m 172 #[.val (.int p1), .val (.int p2), .val (.int p3), .val (.ref a76), .val (.ref a87), .val (.ref a102), .val (.int (2 : Int32)), .val (.int (1 : Int32)), .val (.int (2 : Int32)), .val (.int (4 : Int32))] [(.int (2 : Int32)), (.ref a76)])) rfl rfl (hb hby at_172) _ k) ?_
        show OwnGo p e below _ (T126.setTop (mkF m 173 #[.val (.int p1), .val (.int p2), .val (.int p3), .val (.ref a76), .val (.ref a87), .val (.ref a102), .val (.int (2 : Int32)), .val (.int (1 : Int32)), .val (.int (2 : Int32)), .val (.int (4 : Int32))] [(.ref aPARTIAL)]))
        refine own_go (fun _ k => XS.iload X126.here hx rfl (hb hby at_173) rfl k) ?_
        show OwnGo p e below _ (T126.setTop (mkF m 175 #[.val (.int p1), .val (.int p2), .val (.int p3), .val (.ref a76), .val (.ref a87), .val (.ref a102), .val (.int (2 : Int32)), .val (.int (1 : Int32)), .val (.int (2 : Int32)), .val (.int (4 : Int32))] [(.int (1 : Int32)), (.ref aPARTIAL)]))
        refine own_go (fun _ k => XS.aload X126.here hx rfl (hb hby at_175) rfl rfl k) ?_
        show OwnGo p e below _ (T126.setTop (mkF m 177 #[.val (.int p1), .val (.int p2), .val (.int p3), .val (.ref a76), .val (.ref a87), .val (.ref a102), .val (.int (2 : Int32)), .val (.int (1 : Int32)), .val (.int (2 : Int32)), .val (.int (4 : Int32))] [(.ref a87), (.int (1 : Int32)), (.ref aPARTIAL)]))
        refine own_go (fun _ k => XS.iload X126.here hx rfl (hb hby at_177) rfl k) ?_
        show OwnGo p e below _ (T126.setTop (mkF m 179 #[.val (.int p1), .val (.int p2), .val (.int p3), .val (.ref a76), .val (.ref a87), .val (.ref a102), .val (.int (2 : Int32)), .val (.int (1 : Int32)), .val (.int (2 : Int32)), .val (.int (4 : Int32))] [(.int (2 : Int32)), (.ref a87), (.int (1 : Int32)), (.ref aPARTIAL)]))
        have F316 := ((((((((V100.ext E102).other W108 ne105).other W111 ne105).other W114 ne105).other W117 ne105).other W120 ne105).other W123 ne105).other W126 ne105)
        obtain ⟨c317, Ar317, q317, S317, M317, H317, G317⟩ := (id F316)
        refine own_go (fun _ k => X126.aaload hx (j := (2 : Int32)) (v := (.ref aBOTH)) (by rw [e126]; exact Ar317.1) (State.isArrayOf_alike hZ.alike Ar317.2.1) rfl Ar317.2.2 (inb_of S317 ⟨by decide, by decide⟩) (Has.at H317 (inb_of S317 ⟨by decide, by decide⟩) rfl) (g := (mkF m 179 #[.val (.int p1), .val (.int p2), .val (.int p3), .val (.ref a76), .val (.ref a87), .val (.ref a102), .val (.int (2 : Int32)), .val (.int (1 : Int32)), .val (.int (2 : Int32)), .val (.int (4 : Int32))] [(.int (2 : Int32)), (.ref a87), (.int (1 : Int32)), (.ref aPARTIAL)])) rfl rfl (hb hby at_179) _ k) ?_
        show OwnGo p e below _ (T126.setTop (mkF m 180 #[.val (.int p1), .val (.int p2), .val (.int p3), .val (.ref a76), .val (.ref a87), .val (.ref a102), .val (.int (2 : Int32)), .val (.int (1 : Int32)), .val (.int (2 : Int32)), .val (.int (4 : Int32))] [(.ref aBOTH), (.int (1 : Int32)), (.ref aPARTIAL)]))
        obtain ⟨_, _, ⟨T318, L318, k318, n318⟩, -, X318, hS318, hg318, ⟨Lc318, hQ318, l318, y318, z318⟩, st318⟩ := callSS X126 hx (y := (⟨"com/example/page_copy_finder/pagecopyfinder/copies/PairLabel", "of", "(Lcom/example/page_copy_finder/pagecopyfinder/copies/PairKind;ZLcom/example/page_copy_finder/pagecopyfinder/copies/PairLinks;)Lcom/example/page_copy_finder/pagecopyfinder/copies/PairLabel;"⟩ : MethodName)) hown (mvT hZ (hw _ (List.mem_of_getElem? (i := 41) rfl))) (mvT hZ (hw _ (List.mem_of_getElem? (i := 42) rfl))) (mvT hZ (hw _ (List.mem_of_getElem? (i := 25) rfl))) (mvT hZ (hw _ (List.mem_of_getElem? (i := 43) rfl))) (by decide) (backOfS (W := 0) (rm_of21 l Z a0 hw [] aIDENTICAL aCONTAINMENT aPARTIAL aA_TO_B aB_TO_A aBOTH aNONE aMIRROR aTEMPLATE_OR_PLAGIARISM aARCHIVE_PAGE aLINK_LIST_PART aSAME_SITE_RELATED aCITATION_OR_SPAM aSHARED_TEXT_OR_PLAGIARISM aSW kSW F0 aBOTH h126 n0 O126) hZ (hw _ (List.mem_of_getElem? (i := 43) rfl)) (hw _ (List.mem_of_getElem? (i := 25) rfl)) (by decide) (by decide)) (g := (mkF m 180 #[.val (.int p1), .val (.int p2), .val (.int p3), .val (.ref a76), .val (.ref a87), .val (.ref a102), .val (.int (2 : Int32)), .val (.int (1 : Int32)), .val (.int (2 : Int32)), .val (.int (4 : Int32))] [(.ref aBOTH), (.int (1 : Int32)), (.ref aPARTIAL)])) rfl (by rw [hml]; rfl) (argsL := [(.ref aPARTIAL), (.int (1 : Int32)), (.ref aBOTH)]) (rest := []) (lenOf pd_Lcom_example_page_copy_finder_pagecopyfinder_copies_PairKind__Z_Lcom_example_page_copy_finder_pagecopyfinder_copies_PairLinks___Lcom_example_page_copy_finder_pagecopyfinder_copies_PairLabel_ rfl) rfl (by show 2 * 0 + _ ≤ _; exact Nat.le_of_eq rfl) (hb hby at_180) (fun _ _ => ⟨rfl, e126, (by decide : 3 + 4 ≤ _), (by decide : 14 + 44 ≤ _)⟩)
        dsimp only [Pt.U, Pt.locs, Pt.cells, Pt.slots] at X318 l318 y318 z318 st318 hQ318 hS318 hg318
        subst l318 y318 z318
        obtain ⟨rfl, Nq318, K318⟩ := hQ318
        have N318 := Fr.app N126 Nq318
        have hZ : Z.Warmed39 (s.setVm T318.vm).vm := State.Warmed39.trans hZ hS318.1
        have hown : (s.setVm T318.vm).vm.findClass "com/example/page_copy_finder/pagecopyfinder/copies/PairLabelOfPinLaw" = some m.cls := (hS318.1.alike.findClass _ _).trans hown
        have O318 := O126.keep K318 all0
        have e318 : T318.heap = T318.heap := rfl
        have z319 : h0.size ≤ T318.heap.size := Nat.le_trans z127 K318.1
        refine own_go (fun _ k => st318.trans k) ?_
        show OwnGo p e below _ (T318.setTop (mkF m 183 #[.val (.int p1), .val (.int p2), .val (.int p3), .val (.ref a76), .val (.ref a87), .val (.ref a102), .val (.int (2 : Int32)), .val (.int (1 : Int32)), .val (.int (2 : Int32)), .val (.int (4 : Int32))] [(.ref aSAME_SITE_RELATED)]))
        refine own_go (fun _ k => XS.aload X318.here hx rfl (hb hby at_183) rfl rfl k) ?_
        show OwnGo p e below _ (T318.setTop (mkF m 185 #[.val (.int p1), .val (.int p2), .val (.int p3), .val (.ref a76), .val (.ref a87), .val (.ref a102), .val (.int (2 : Int32)), .val (.int (1 : Int32)), .val (.int (2 : Int32)), .val (.int (4 : Int32))] [(.ref a102), (.ref aSAME_SITE_RELATED)]))
        refine own_go (fun _ k => XS.iload X318.here hx rfl (hb hby at_185) rfl k) ?_
        show OwnGo p e below _ (T318.setTop (mkF m 187 #[.val (.int p1), .val (.int p2), .val (.int p3), .val (.ref a76), .val (.ref a87), .val (.ref a102), .val (.int (2 : Int32)), .val (.int (1 : Int32)), .val (.int (2 : Int32)), .val (.int (4 : Int32))] [(.int (4 : Int32)), (.ref a102), (.ref aSAME_SITE_RELATED)]))
        have F320 := (V126.keep K318 nin0)
        obtain ⟨c321, Ar321, q321, S321, M321, H321, G321⟩ := (id F320)
        refine own_go (fun _ k => X318.aaload hx (j := (4 : Int32)) (v := (.ref aSAME_SITE_RELATED)) (by rw [e318]; exact Ar321.1) (State.isArrayOf_alike hZ.alike Ar321.2.1) rfl Ar321.2.2 (inb_of S321 ⟨by decide, by decide⟩) (Has.at H321 (inb_of S321 ⟨by decide, by decide⟩) rfl) (g := (mkF m 187 #[.val (.int p1), .val (.int p2), .val (.int p3), .val (.ref a76), .val (.ref a87), .val (.ref a102), .val (.int (2 : Int32)), .val (.int (1 : Int32)), .val (.int (2 : Int32)), .val (.int (4 : Int32))] [(.int (4 : Int32)), (.ref a102), (.ref aSAME_SITE_RELATED)])) rfl rfl (hb hby at_187) _ k) ?_
        show OwnGo p e below _ (T318.setTop (mkF m 188 #[.val (.int p1), .val (.int p2), .val (.int p3), .val (.ref a76), .val (.ref a87), .val (.ref a102), .val (.int (2 : Int32)), .val (.int (1 : Int32)), .val (.int (2 : Int32)), .val (.int (4 : Int32))] [(.ref aSAME_SITE_RELATED), (.ref aSAME_SITE_RELATED)]))
        refine own_go (fun _ k => acmp X318 hx rfl (cd := .ne) (o := 7) (x := (.ref aSAME_SITE_RELATED)) (y := (.ref aSAME_SITE_RELATED)) (pc0 := 188) (pc' := 191) rfl rfl rfl (hb hby at_188) rfl (own_refeq _) (by decide) (by decide) k) ?_
        show OwnGo p e below _ (T318.setTop (mkF m 191 #[.val (.int p1), .val (.int p2), .val (.int p3), .val (.ref a76), .val (.ref a87), .val (.ref a102), .val (.int (2 : Int32)), .val (.int (1 : Int32)), .val (.int (2 : Int32)), .val (.int (4 : Int32))] []))
        refine own_go (fun _ k => XS.iconst X318.here hx rfl (hb hby at_191) k) ?_
        show OwnGo p e below _ (T318.setTop (mkF m 192 #[.val (.int p1), .val (.int p2), .val (.int p3), .val (.ref a76), .val (.ref a87), .val (.ref a102), .val (.int (2 : Int32)), .val (.int (1 : Int32)), .val (.int (2 : Int32)), .val (.int (4 : Int32))] [(.int (1 : Int32))]))
        refine own_go (fun _ k => XS.goto X318.here hx rfl (pc0 := 192) (pc' := 196) rfl (hb hby at_192) (by decide) (by decide) k) ?_
        show OwnGo p e below _ (T318.setTop (mkF m 196 #[.val (.int p1), .val (.int p2), .val (.int p3), .val (.ref a76), .val (.ref a87), .val (.ref a102), .val (.int (2 : Int32)), .val (.int (1 : Int32)), .val (.int (2 : Int32)), .val (.int (4 : Int32))] [(.int (1 : Int32))]))
        obtain ⟨fs, hr, hrun, hended, hEnd⟩ := Jvm.Stand.leaveW (s := s) (vm₁ := T318.vm) X318 hS318 (by rw [e318]; exact (Nat.le_refl _)) (v := some (.int (1 : Int32))) (fun h => by rw [Bd.returns] at h; cases h)
        refine ⟨_, _, retOut X318 hx Bd.returns rfl (Or.inl ⟨rfl, Or.inr (Or.inl rfl), _, rfl⟩) (hb hby at_196) hr, hrun, hended, _, _, rfl, ?_, own_monoW hEnd (by decide) (by decide)⟩
        show Q_law Z aIDENTICAL aCONTAINMENT aPARTIAL aA_TO_B aB_TO_A aBOTH aNONE aMIRROR aTEMPLATE_OR_PLAGIARISM aARCHIVE_PAGE aLINK_LIST_PART aSAME_SITE_RELATED aCITATION_OR_SPAM aSHARED_TEXT_OR_PLAGIARISM aSW kSW p1 p2 p3 h0 n0 _ T318.heap _
        rw [e318]
        exact ⟨rfl, N318⟩
      · rw [hv297]
        show OwnGo p e below _ (T126.setTop (mkF m 127 #[.val (.int p1), .val (.int p2), .val (.int p3), .val (.ref a76), .val (.ref a87), .val (.ref a102), .val (.int (2 : Int32)), .val (.int (1 : Int32)), .unset, .unset] [(.int (3 : Int32))]))
        refine own_go (fun _ k => XS.istore X126.here hx rfl (hb hby at_127) rfl (l' := #[.val (.int p1), .val (.int p2), .val (.int p3), .val (.ref a76), .val (.ref a87), .val (.ref a102), .val (.int (2 : Int32)), .val (.int (1 : Int32)), .val (.int (3 : Int32)), .unset]) rfl k) ?_
        show OwnGo p e below _ (T126.setTop (mkF m 129 #[.val (.int p1), .val (.int p2), .val (.int p3), .val (.ref a76), .val (.ref a87), .val (.ref a102), .val (.int (2 : Int32)), .val (.int (1 : Int32)), .val (.int (3 : Int32)), .unset] []))
        refine own_go (fun _ k => XS.iconst X126.here hx rfl (hb hby at_129) k) ?_
        show OwnGo p e below _ (T126.setTop (mkF m 130 #[.val (.int p1), .val (.int p2), .val (.int p3), .val (.ref a76), .val (.ref a87), .val (.ref a102), .val (.int (2 : Int32)), .val (.int (1 : Int32)), .val (.int (3 : Int32)), .unset] [(.int (2 : Int32))]))
        refine own_go (fun _ k => XS.iload X126.here hx rfl (hb hby at_130) rfl k) ?_
        show OwnGo p e below _ (T126.setTop (mkF m 132 #[.val (.int p1), .val (.int p2), .val (.int p3), .val (.ref a76), .val (.ref a87), .val (.ref a102), .val (.int (2 : Int32)), .val (.int (1 : Int32)), .val (.int (3 : Int32)), .unset] [(.int (2 : Int32)), (.int (2 : Int32))]))
        refine own_go (fun _ k => XS.imul X126.here hx rfl (hb hby at_132) rfl k) ?_
        show OwnGo p e below _ (T126.setTop (mkF m 133 #[.val (.int p1), .val (.int p2), .val (.int p3), .val (.ref a76), .val (.ref a87), .val (.ref a102), .val (.int (2 : Int32)), .val (.int (1 : Int32)), .val (.int (3 : Int32)), .unset] [(.int ((2 : Int32) * (2 : Int32)))]))
        rw [show ((2 : Int32) * (2 : Int32)) = (4 : Int32) from by decide]
        show OwnGo p e below _ (T126.setTop (mkF m 133 #[.val (.int p1), .val (.int p2), .val (.int p3), .val (.ref a76), .val (.ref a87), .val (.ref a102), .val (.int (2 : Int32)), .val (.int (1 : Int32)), .val (.int (3 : Int32)), .unset] [(.int (4 : Int32))]))
        refine own_go (fun _ k => XS.iload X126.here hx rfl (hb hby at_133) rfl k) ?_
        show OwnGo p e below _ (T126.setTop (mkF m 135 #[.val (.int p1), .val (.int p2), .val (.int p3), .val (.ref a76), .val (.ref a87), .val (.ref a102), .val (.int (2 : Int32)), .val (.int (1 : Int32)), .val (.int (3 : Int32)), .unset] [(.int (1 : Int32)), (.int (4 : Int32))]))
        refine own_go (fun _ k => XS.ifNo X126.here hx rfl (hb hby at_135) rfl (by decide) k) ?_
        show OwnGo p e below _ (T126.setTop (mkF m 138 #[.val (.int p1), .val (.int p2), .val (.int p3), .val (.ref a76), .val (.ref a87), .val (.ref a102), .val (.int (2 : Int32)), .val (.int (1 : Int32)), .val (.int (3 : Int32)), .unset] [(.int (4 : Int32))]))
        refine own_go (fun _ k => XS.iconst X126.here hx rfl (hb hby at_138) k) ?_
        show OwnGo p e below _ (T126.setTop (mkF m 139 #[.val (.int p1), .val (.int p2), .val (.int p3), .val (.ref a76), .val (.ref a87), .val (.ref a102), .val (.int (2 : Int32)), .val (.int (1 : Int32)), .val (.int (3 : Int32)), .unset] [(.int (0 : Int32)), (.int (4 : Int32))]))
        refine own_go (fun _ k => XS.goto X126.here hx rfl (pc0 := 139) (pc' := 143) rfl (hb hby at_139) (by decide) (by decide) k) ?_
        show OwnGo p e below _ (T126.setTop (mkF m 143 #[.val (.int p1), .val (.int p2), .val (.int p3), .val (.ref a76), .val (.ref a87), .val (.ref a102), .val (.int (2 : Int32)), .val (.int (1 : Int32)), .val (.int (3 : Int32)), .unset] [(.int (0 : Int32)), (.int (4 : Int32))]))
        refine own_go (fun _ k => XS.iadd X126.here hx rfl (hb hby at_143) rfl k) ?_
        show OwnGo p e below _ (T126.setTop (mkF m 144 #[.val (.int p1), .val (.int p2), .val (.int p3), .val (.ref a76), .val (.ref a87), .val (.ref a102), .val (.int (2 : Int32)), .val (.int (1 : Int32)), .val (.int (3 : Int32)), .unset] [(.int ((4 : Int32) + (0 : Int32)))]))
        rw [show ((4 : Int32) + (0 : Int32)) = (4 : Int32) from by decide]
        show OwnGo p e below _ (T126.setTop (mkF m 144 #[.val (.int p1), .val (.int p2), .val (.int p3), .val (.ref a76), .val (.ref a87), .val (.ref a102), .val (.int (2 : Int32)), .val (.int (1 : Int32)), .val (.int (3 : Int32)), .unset] [(.int (4 : Int32))]))
        refine own_go (fun _ k => XS.iload X126.here hx rfl (hb hby at_144) rfl k) ?_
        show OwnGo p e below _ (T126.setTop (mkF m 146 #[.val (.int p1), .val (.int p2), .val (.int p3), .val (.ref a76), .val (.ref a87), .val (.ref a102), .val (.int (2 : Int32)), .val (.int (1 : Int32)), .val (.int (3 : Int32)), .unset] [(.int (2 : Int32)), (.int (4 : Int32))]))
        refine own_go (fun _ k => XS.iconst X126.here hx rfl (hb hby at_146) k) ?_
        show OwnGo p e below _ (T126.setTop (mkF m 147 #[.val (.int p1), .val (.int p2), .val (.int p3), .val (.ref a76), .val (.ref a87), .val (.ref a102), .val (.int (2 : Int32)), .val (.int (1 : Int32)), .val (.int (3 : Int32)), .unset] [(.int (2 : Int32)), (.int (2 : Int32)), (.int (4 : Int32))]))
        refine own_go (fun _ k => XS.icmpNo X126.here hx rfl (hb hby at_147) rfl (by decide) k) ?_
        show OwnGo p e below _ (T126.setTop (mkF m 150 #[.val (.int p1), .val (.int p2), .val (.int p3), .val (.ref a76), .val (.ref a87), .val (.ref a102), .val (.int (2 : Int32)), .val (.int (1 : Int32)), .val (.int (3 : Int32)), .unset] [(.int (4 : Int32))]))
        refine own_go (fun _ k => XS.iload X126.here hx rfl (hb hby at_150) rfl k) ?_
        show OwnGo p e below _ (T126.setTop (mkF m 152 #[.val (.int p1), .val (.int p2), .val (.int p3), .val (.ref a76), .val (.ref a87), .val (.ref a102), .val (.int (2 : Int32)), .val (.int (1 : Int32)), .val (.int (3 : Int32)), .unset] [(.int (1 : Int32)), (.int (4 : Int32))]))
        refine own_go (fun _ k => XS.ifYes X126.here hx rfl (pc0 := 152) (pc' := 165) rfl (hb hby at_152) rfl (by decide) (by decide) (by decide) k) ?_
        show OwnGo p e below _ (T126.setTop (mkF m 165 #[.val (.int p1), .val (.int p2), .val (.int p3), .val (.ref a76), .val (.ref a87), .val (.ref a102), .val (.int (2 : Int32)), .val (.int (1 : Int32)), .val (.int (3 : Int32)), .unset] [(.int (4 : Int32))]))
        refine own_go (fun _ k => XS.iconst X126.here hx rfl (hb hby at_165) k) ?_
        show OwnGo p e below _ (T126.setTop (mkF m 166 #[.val (.int p1), .val (.int p2), .val (.int p3), .val (.ref a76), .val (.ref a87), .val (.ref a102), .val (.int (2 : Int32)), .val (.int (1 : Int32)), .val (.int (3 : Int32)), .unset] [(.int (0 : Int32)), (.int (4 : Int32))]))
        refine own_go (fun _ k => XS.iadd X126.here hx rfl (hb hby at_166) rfl k) ?_
        show OwnGo p e below _ (T126.setTop (mkF m 167 #[.val (.int p1), .val (.int p2), .val (.int p3), .val (.ref a76), .val (.ref a87), .val (.ref a102), .val (.int (2 : Int32)), .val (.int (1 : Int32)), .val (.int (3 : Int32)), .unset] [(.int ((4 : Int32) + (0 : Int32)))]))
        rw [show ((4 : Int32) + (0 : Int32)) = (4 : Int32) from by decide]
        show OwnGo p e below _ (T126.setTop (mkF m 167 #[.val (.int p1), .val (.int p2), .val (.int p3), .val (.ref a76), .val (.ref a87), .val (.ref a102), .val (.int (2 : Int32)), .val (.int (1 : Int32)), .val (.int (3 : Int32)), .unset] [(.int (4 : Int32))]))
        refine own_go (fun _ k => XS.istore X126.here hx rfl (hb hby at_167) rfl (l' := #[.val (.int p1), .val (.int p2), .val (.int p3), .val (.ref a76), .val (.ref a87), .val (.ref a102), .val (.int (2 : Int32)), .val (.int (1 : Int32)), .val (.int (3 : Int32)), .val (.int (4 : Int32))]) rfl k) ?_
        show OwnGo p e below _ (T126.setTop (mkF m 169 #[.val (.int p1), .val (.int p2), .val (.int p3), .val (.ref a76), .val (.ref a87), .val (.ref a102), .val (.int (2 : Int32)), .val (.int (1 : Int32)), .val (.int (3 : Int32)), .val (.int (4 : Int32))] []))
        refine own_go (fun _ k => XS.aloadN X126.here hx rfl (hb hby at_169) rfl rfl k) ?_
        show OwnGo p e below _ (T126.setTop (mkF m 170 #[.val (.int p1), .val (.int p2), .val (.int p3), .val (.ref a76), .val (.ref a87), .val (.ref a102), .val (.int (2 : Int32)), .val (.int (1 : Int32)), .val (.int (3 : Int32)), .val (.int (4 : Int32))] [(.ref a76)]))
        refine own_go (fun _ k => XS.iload X126.here hx rfl (hb hby at_170) rfl k) ?_
        show OwnGo p e below _ (T126.setTop (mkF m 172 #[.val (.int p1), .val (.int p2), .val (.int p3), .val (.ref a76), .val (.ref a87), .val (.ref a102), .val (.int (2 : Int32)), .val (.int (1 : Int32)), .val (.int (3 : Int32)), .val (.int (4 : Int32))] [(.int (2 : Int32)), (.ref a76)]))
        have F322 := ((((((((F103.ext E102).other W108 ne104).other W111 ne104).other W114 ne104).other W117 ne104).other W120 ne104).other W123 ne104).other W126 ne104)
        obtain ⟨c323, Ar323, q323, S323, M323, H323, G323⟩ := (id F322)
        refine own_go (fun _ k => X126.aaload hx (j := (2 : Int32)) (v := (.ref aPARTIAL)) (by rw [e126]; exact Ar323.1) (State.isArrayOf_alike hZ.alike Ar323.2.1) rfl Ar323.2.2 (inb_of S323 ⟨by decide, by decide⟩) (Has.at H323 (inb_of S323 ⟨by decide, by decide⟩) rfl) (g := (mkF m 172 #[.val (.int p1), .val (.int p2), .val (.int p3), .val (.ref a76), .val (.ref a87), .val (.ref a102), .val (.int (2 : Int32)), .val (.int (1 : Int32)), .val (.int (3 : Int32)), .val (.int (4 : Int32))] [(.int (2 : Int32)), (.ref a76)])) rfl rfl (hb hby at_172) _ k) ?_
        show OwnGo p e below _ (T126.setTop (mkF m 173 #[.val (.int p1), .val (.int p2), .val (.int p3), .val (.ref a76), .val (.ref a87), .val (.ref a102), .val (.int (2 : Int32)), .val (.int (1 : Int32)), .val (.int (3 : Int32)), .val (.int (4 : Int32))] [(.ref aPARTIAL)]))
        refine own_go (fun _ k => XS.iload X126.here hx rfl (hb hby at_173) rfl k) ?_
        show OwnGo p e below _ (T126.setTop (mkF m 175 #[.val (.int p1), .val (.int p2), .val (.int p3), .val (.ref a76), .val (.ref a87), .val (.ref a102), .val (.int (2 : Int32)), .val (.int (1 : Int32)), .val (.int (3 : Int32)), .val (.int (4 : Int32))] [(.int (1 : Int32)), (.ref aPARTIAL)]))
        refine own_go (fun _ k => XS.aload X126.here hx rfl (hb hby at_175) rfl rfl k) ?_
        show OwnGo p e below _ (T126.setTop (mkF m 177 #[.val (.int p1), .val (.int p2), .val (.int p3), .val (.ref a76), .val (.ref a87), .val (.ref a102), .val (.int (2 : Int32)), .val (.int (1 : Int32)), .val (.int (3 : Int32)), .val (.int (4 : Int32))] [(.ref a87), (.int (1 : Int32)), (.ref aPARTIAL)]))
        refine own_go (fun _ k => XS.iload X126.here hx rfl (hb hby at_177) rfl k) ?_
        show OwnGo p e below _ (T126.setTop (mkF m 179 #[.val (.int p1), .val (.int p2), .val (.int p3), .val (.ref a76), .val (.ref a87), .val (.ref a102), .val (.int (2 : Int32)), .val (.int (1 : Int32)), .val (.int (3 : Int32)), .val (.int (4 : Int32))] [(.int (3 : Int32)), (.ref a87), (.int (1 : Int32)), (.ref aPARTIAL)]))
        have F324 := ((((((((V100.ext E102).other W108 ne105).other W111 ne105).other W114 ne105).other W117 ne105).other W120 ne105).other W123 ne105).other W126 ne105)
        obtain ⟨c325, Ar325, q325, S325, M325, H325, G325⟩ := (id F324)
        refine own_go (fun _ k => X126.aaload hx (j := (3 : Int32)) (v := (.ref aNONE)) (by rw [e126]; exact Ar325.1) (State.isArrayOf_alike hZ.alike Ar325.2.1) rfl Ar325.2.2 (inb_of S325 ⟨by decide, by decide⟩) (Has.at H325 (inb_of S325 ⟨by decide, by decide⟩) rfl) (g := (mkF m 179 #[.val (.int p1), .val (.int p2), .val (.int p3), .val (.ref a76), .val (.ref a87), .val (.ref a102), .val (.int (2 : Int32)), .val (.int (1 : Int32)), .val (.int (3 : Int32)), .val (.int (4 : Int32))] [(.int (3 : Int32)), (.ref a87), (.int (1 : Int32)), (.ref aPARTIAL)])) rfl rfl (hb hby at_179) _ k) ?_
        show OwnGo p e below _ (T126.setTop (mkF m 180 #[.val (.int p1), .val (.int p2), .val (.int p3), .val (.ref a76), .val (.ref a87), .val (.ref a102), .val (.int (2 : Int32)), .val (.int (1 : Int32)), .val (.int (3 : Int32)), .val (.int (4 : Int32))] [(.ref aNONE), (.int (1 : Int32)), (.ref aPARTIAL)]))
        obtain ⟨_, _, ⟨T326, L326, k326, n326⟩, -, X326, hS326, hg326, ⟨Lc326, hQ326, l326, y326, z326⟩, st326⟩ := callSS X126 hx (y := (⟨"com/example/page_copy_finder/pagecopyfinder/copies/PairLabel", "of", "(Lcom/example/page_copy_finder/pagecopyfinder/copies/PairKind;ZLcom/example/page_copy_finder/pagecopyfinder/copies/PairLinks;)Lcom/example/page_copy_finder/pagecopyfinder/copies/PairLabel;"⟩ : MethodName)) hown (mvT hZ (hw _ (List.mem_of_getElem? (i := 41) rfl))) (mvT hZ (hw _ (List.mem_of_getElem? (i := 42) rfl))) (mvT hZ (hw _ (List.mem_of_getElem? (i := 25) rfl))) (mvT hZ (hw _ (List.mem_of_getElem? (i := 43) rfl))) (by decide) (backOfS (W := 0) (rm_of21 l Z a0 hw [] aIDENTICAL aCONTAINMENT aPARTIAL aA_TO_B aB_TO_A aBOTH aNONE aMIRROR aTEMPLATE_OR_PLAGIARISM aARCHIVE_PAGE aLINK_LIST_PART aSAME_SITE_RELATED aCITATION_OR_SPAM aSHARED_TEXT_OR_PLAGIARISM aSW kSW F0 aNONE h126 n0 O126) hZ (hw _ (List.mem_of_getElem? (i := 43) rfl)) (hw _ (List.mem_of_getElem? (i := 25) rfl)) (by decide) (by decide)) (g := (mkF m 180 #[.val (.int p1), .val (.int p2), .val (.int p3), .val (.ref a76), .val (.ref a87), .val (.ref a102), .val (.int (2 : Int32)), .val (.int (1 : Int32)), .val (.int (3 : Int32)), .val (.int (4 : Int32))] [(.ref aNONE), (.int (1 : Int32)), (.ref aPARTIAL)])) rfl (by rw [hml]; rfl) (argsL := [(.ref aPARTIAL), (.int (1 : Int32)), (.ref aNONE)]) (rest := []) (lenOf pd_Lcom_example_page_copy_finder_pagecopyfinder_copies_PairKind__Z_Lcom_example_page_copy_finder_pagecopyfinder_copies_PairLinks___Lcom_example_page_copy_finder_pagecopyfinder_copies_PairLabel_ rfl) rfl (by show 2 * 0 + _ ≤ _; exact Nat.le_of_eq rfl) (hb hby at_180) (fun _ _ => ⟨rfl, e126, (by decide : 3 + 4 ≤ _), (by decide : 14 + 44 ≤ _)⟩)
        dsimp only [Pt.U, Pt.locs, Pt.cells, Pt.slots] at X326 l326 y326 z326 st326 hQ326 hS326 hg326
        subst l326 y326 z326
        obtain ⟨rfl, Nq326, K326⟩ := hQ326
        have N326 := Fr.app N126 Nq326
        have hZ : Z.Warmed39 (s.setVm T326.vm).vm := State.Warmed39.trans hZ hS326.1
        have hown : (s.setVm T326.vm).vm.findClass "com/example/page_copy_finder/pagecopyfinder/copies/PairLabelOfPinLaw" = some m.cls := (hS326.1.alike.findClass _ _).trans hown
        have O326 := O126.keep K326 all0
        have e326 : T326.heap = T326.heap := rfl
        have z327 : h0.size ≤ T326.heap.size := Nat.le_trans z127 K326.1
        refine own_go (fun _ k => st326.trans k) ?_
        show OwnGo p e below _ (T326.setTop (mkF m 183 #[.val (.int p1), .val (.int p2), .val (.int p3), .val (.ref a76), .val (.ref a87), .val (.ref a102), .val (.int (2 : Int32)), .val (.int (1 : Int32)), .val (.int (3 : Int32)), .val (.int (4 : Int32))] [(.ref aSAME_SITE_RELATED)]))
        refine own_go (fun _ k => XS.aload X326.here hx rfl (hb hby at_183) rfl rfl k) ?_
        show OwnGo p e below _ (T326.setTop (mkF m 185 #[.val (.int p1), .val (.int p2), .val (.int p3), .val (.ref a76), .val (.ref a87), .val (.ref a102), .val (.int (2 : Int32)), .val (.int (1 : Int32)), .val (.int (3 : Int32)), .val (.int (4 : Int32))] [(.ref a102), (.ref aSAME_SITE_RELATED)]))
        refine own_go (fun _ k => XS.iload X326.here hx rfl (hb hby at_185) rfl k) ?_
        show OwnGo p e below _ (T326.setTop (mkF m 187 #[.val (.int p1), .val (.int p2), .val (.int p3), .val (.ref a76), .val (.ref a87), .val (.ref a102), .val (.int (2 : Int32)), .val (.int (1 : Int32)), .val (.int (3 : Int32)), .val (.int (4 : Int32))] [(.int (4 : Int32)), (.ref a102), (.ref aSAME_SITE_RELATED)]))
        have F328 := (V126.keep K326 nin0)
        obtain ⟨c329, Ar329, q329, S329, M329, H329, G329⟩ := (id F328)
        refine own_go (fun _ k => X326.aaload hx (j := (4 : Int32)) (v := (.ref aSAME_SITE_RELATED)) (by rw [e326]; exact Ar329.1) (State.isArrayOf_alike hZ.alike Ar329.2.1) rfl Ar329.2.2 (inb_of S329 ⟨by decide, by decide⟩) (Has.at H329 (inb_of S329 ⟨by decide, by decide⟩) rfl) (g := (mkF m 187 #[.val (.int p1), .val (.int p2), .val (.int p3), .val (.ref a76), .val (.ref a87), .val (.ref a102), .val (.int (2 : Int32)), .val (.int (1 : Int32)), .val (.int (3 : Int32)), .val (.int (4 : Int32))] [(.int (4 : Int32)), (.ref a102), (.ref aSAME_SITE_RELATED)])) rfl rfl (hb hby at_187) _ k) ?_
        show OwnGo p e below _ (T326.setTop (mkF m 188 #[.val (.int p1), .val (.int p2), .val (.int p3), .val (.ref a76), .val (.ref a87), .val (.ref a102), .val (.int (2 : Int32)), .val (.int (1 : Int32)), .val (.int (3 : Int32)), .val (.int (4 : Int32))] [(.ref aSAME_SITE_RELATED), (.ref aSAME_SITE_RELATED)]))
        refine own_go (fun _ k => acmp X326 hx rfl (cd := .ne) (o := 7) (x := (.ref aSAME_SITE_RELATED)) (y := (.ref aSAME_SITE_RELATED)) (pc0 := 188) (pc' := 191) rfl rfl rfl (hb hby at_188) rfl (own_refeq _) (by decide) (by decide) k) ?_
        show OwnGo p e below _ (T326.setTop (mkF m 191 #[.val (.int p1), .val (.int p2), .val (.int p3), .val (.ref a76), .val (.ref a87), .val (.ref a102), .val (.int (2 : Int32)), .val (.int (1 : Int32)), .val (.int (3 : Int32)), .val (.int (4 : Int32))] []))
        refine own_go (fun _ k => XS.iconst X326.here hx rfl (hb hby at_191) k) ?_
        show OwnGo p e below _ (T326.setTop (mkF m 192 #[.val (.int p1), .val (.int p2), .val (.int p3), .val (.ref a76), .val (.ref a87), .val (.ref a102), .val (.int (2 : Int32)), .val (.int (1 : Int32)), .val (.int (3 : Int32)), .val (.int (4 : Int32))] [(.int (1 : Int32))]))
        refine own_go (fun _ k => XS.goto X326.here hx rfl (pc0 := 192) (pc' := 196) rfl (hb hby at_192) (by decide) (by decide) k) ?_
        show OwnGo p e below _ (T326.setTop (mkF m 196 #[.val (.int p1), .val (.int p2), .val (.int p3), .val (.ref a76), .val (.ref a87), .val (.ref a102), .val (.int (2 : Int32)), .val (.int (1 : Int32)), .val (.int (3 : Int32)), .val (.int (4 : Int32))] [(.int (1 : Int32))]))
        obtain ⟨fs, hr, hrun, hended, hEnd⟩ := Jvm.Stand.leaveW (s := s) (vm₁ := T326.vm) X326 hS326 (by rw [e326]; exact (Nat.le_refl _)) (v := some (.int (1 : Int32))) (fun h => by rw [Bd.returns] at h; cases h)
        refine ⟨_, _, retOut X326 hx Bd.returns rfl (Or.inl ⟨rfl, Or.inr (Or.inl rfl), _, rfl⟩) (hb hby at_196) hr, hrun, hended, _, _, rfl, ?_, own_monoW hEnd (by decide) (by decide)⟩
        show Q_law Z aIDENTICAL aCONTAINMENT aPARTIAL aA_TO_B aB_TO_A aBOTH aNONE aMIRROR aTEMPLATE_OR_PLAGIARISM aARCHIVE_PAGE aLINK_LIST_PART aSAME_SITE_RELATED aCITATION_OR_SPAM aSHARED_TEXT_OR_PLAGIARISM aSW kSW p1 p2 p3 h0 n0 _ T326.heap _
        rw [e326]
        exact ⟨rfl, N326⟩
set_option maxRecDepth 65536 in
set_option maxHeartbeats 40000000 in
theorem comes_1 {Post : Tables → Env → Array Value → State → Outcome → State → Prop} (hpost : ∀ tb e args s v u, (limb_1_1.after args s (.returned v) u = true ∧ limb_1_2.after args s (.returned v) u = true ∧ True) → ReturnedEndW s (.returned v) u (Jvm.fieldLocs frame_1_writes args s ++ Jvm.arrayLocs frame_1_arrays args s ++ Jvm.staticLocs frame_1_statics s) 24 2176 → Post tb e args s (.returned v) u) :
    ArmFor flags0 classFile x code maxLocals ret World_1 tables_1 room_1 Calls_1 rest_1 Pre_1 Post := by
  intro l hfl _ _ p e ha hc hk s m args below hf hA hF happ hP
  obtain ⟨hcalls, hrest, hpre⟩ := hP
  obtain ⟨-, -, -, hnamed, -, -, -, hat⟩ := (Spec.applies_iff hf).mp happ
  obtain ⟨hg, hn0⟩ := and_e (Cond.before_iff.mp (show (Jvm.Cond.and given_1 narrow_1).before args s = true from hpre))
  obtain ⟨h1, g0⟩ := and_e hg
  obtain ⟨t0, g1⟩ := and_e g0
  obtain ⟨t1, g2⟩ := and_e g1
  obtain ⟨w0, w1, w2, rfl⟩ : ∃ w0 w1 w2 : Value, args = #[w0, w1, w2] := by
    have hs : args.size = 3 := by simpa [Cond.value, given_1] using h1
    obtain ⟨L⟩ := args
    match L, hs with
    | [w0, w1, w2], _ => exact ⟨w0, w1, w2, rfl⟩
  have hw := fun d (hd : d ∈ tables_1) => atoms_spec (ws := Jvm.Cond.code x code maxLocals ret :: tables_1) hat d (List.mem_cons_of_mem _ hd)
  have hfit : Fit s := fun {y c} hc i hi => by
    obtain ⟨ha, rfl⟩ := Array.getElem?_eq_some_iff.mp hc
    have q := List.all_eq_true.mp ((Array.all_eq_true_iff_forall_mem.mp hF) _ (Array.getElem_mem ha)) i (List.mem_range.mpr hi)
    simpa [Array.getElem?_eq_getElem hi] using q
  obtain ⟨i0, ev0⟩ := is_v t0
  obtain rfl : w0 = (.int i0) := Option.some.inj ev0
  obtain ⟨i1, ev1⟩ := is_v t1
  obtain rfl : w1 = (.int i1) := Option.some.inj ev1
  obtain ⟨i2, ev2⟩ := is_v g2
  obtain rfl : w2 = (.int i2) := Option.some.inj ev2
  obtain ⟨c0, hn1⟩ := and_e hn0
  obtain ⟨aIDENTICAL, ev_aIDENTICAL⟩ := exa_v c0
  obtain ⟨c1, hn2⟩ := and_e hn1
  obtain ⟨aCONTAINMENT, ev_aCONTAINMENT⟩ := exa_v c1
  obtain ⟨c2, hn3⟩ := and_e hn2
  obtain ⟨aPARTIAL, ev_aPARTIAL⟩ := exa_v c2
  obtain ⟨c3, hn4⟩ := and_e hn3
  obtain ⟨aA_TO_B, ev_aA_TO_B⟩ := exa_v c3
  obtain ⟨c4, hn5⟩ := and_e hn4
  obtain ⟨aB_TO_A, ev_aB_TO_A⟩ := exa_v c4
  obtain ⟨c5, hn6⟩ := and_e hn5
  obtain ⟨aBOTH, ev_aBOTH⟩ := exa_v c5
  obtain ⟨c6, hn7⟩ := and_e hn6
  obtain ⟨aNONE, ev_aNONE⟩ := exa_v c6
  obtain ⟨c7, hn8⟩ := and_e hn7
  obtain ⟨aMIRROR, ev_aMIRROR⟩ := exa_v c7
  obtain ⟨c8, hn9⟩ := and_e hn8
  obtain ⟨aTEMPLATE_OR_PLAGIARISM, ev_aTEMPLATE_OR_PLAGIARISM⟩ := exa_v c8
  obtain ⟨c9, hn10⟩ := and_e hn9
  obtain ⟨aARCHIVE_PAGE, ev_aARCHIVE_PAGE⟩ := exa_v c9
  obtain ⟨c10, hn11⟩ := and_e hn10
  obtain ⟨aLINK_LIST_PART, ev_aLINK_LIST_PART⟩ := exa_v c10
  obtain ⟨c11, hn12⟩ := and_e hn11
  obtain ⟨aSAME_SITE_RELATED, ev_aSAME_SITE_RELATED⟩ := exa_v c11
  obtain ⟨c12, hn13⟩ := and_e hn12
  obtain ⟨aCITATION_OR_SPAM, ev_aCITATION_OR_SPAM⟩ := exa_v c12
  obtain ⟨c13, hn14⟩ := and_e hn13
  obtain ⟨aSHARED_TEXT_OR_PLAGIARISM, ev_aSHARED_TEXT_OR_PLAGIARISM⟩ := exa_v c13
  obtain ⟨c14, hn15⟩ := and_e hn14
  -- leaf 14: c14
  obtain ⟨c15, hn16⟩ := and_e hn15
  -- leaf 15: c15
  obtain ⟨c16, hn17⟩ := and_e hn16
  obtain ⟨c17, hn18⟩ := and_e hn17
  -- leaf 17: c17
  obtain ⟨c18, hn19⟩ := and_e hn18
  obtain ⟨c19, hn20⟩ := and_e hn19
  -- leaf 19: c19
  obtain ⟨c20, hn21⟩ := and_e hn20
  obtain ⟨c21, hn22⟩ := and_e hn21
  -- leaf 21: c21
  obtain ⟨c22, hn23⟩ := and_e hn22
  obtain ⟨c23, hn24⟩ := and_e hn23
  obtain ⟨c24, hn25⟩ := and_e hn24
  obtain ⟨aSW, evSW⟩ := arr_v c14
  obtain ⟨cSW, ASW⟩ := Arr.start evSW c14
  have lSW := own_len evSW ASW c15
  have VSW : Arv s s.heap aSW cSW.cls .int (3 : Int32) [(.int (1 : Int32)), (.int (2 : Int32)), (.int (3 : Int32))] (.int (0 : Int32)) := Arv.start hfit ASW lSW.1 lSW.2 (by decide) rfl ⟨own_elem evSW ASW c17, own_elem evSW ASW c19, own_elem evSW ASW c21, trivial⟩
  obtain ⟨kSW, gSW⟩ : ∃ z, z = cSW.cls := ⟨_, rfl⟩
  rw [← gSW] at VSW
  have F0 : OwnFacts s aIDENTICAL aCONTAINMENT aPARTIAL aA_TO_B aB_TO_A aBOTH aNONE aMIRROR aTEMPLATE_OR_PLAGIARISM aARCHIVE_PAGE aLINK_LIST_PART aSAME_SITE_RELATED aCITATION_OR_SPAM aSHARED_TEXT_OR_PLAGIARISM aSW kSW := ⟨(Sta.start ev_aIDENTICAL (Or.inr ⟨(hw _ (List.mem_of_getElem? (i := 3) rfl)), (hw _ (List.mem_of_getElem? (i := 4) rfl))⟩)), (Exa.start ev_aIDENTICAL c0), (Sta.start ev_aCONTAINMENT (Or.inr ⟨(hw _ (List.mem_of_getElem? (i := 3) rfl)), (hw _ (List.mem_of_getElem? (i := 7) rfl))⟩)), (Exa.start ev_aCONTAINMENT c1), (Sta.start ev_aPARTIAL (Or.inr ⟨(hw _ (List.mem_of_getElem? (i := 3) rfl)), (hw _ (List.mem_of_getElem? (i := 9) rfl))⟩)), (Exa.start ev_aPARTIAL c2), (Sta.start ev_aA_TO_B (Or.inr ⟨(hw _ (List.mem_of_getElem? (i := 13) rfl)), (hw _ (List.mem_of_getElem? (i := 14) rfl))⟩)), (Exa.start ev_aA_TO_B c3), (Sta.start ev_aB_TO_A (Or.inr ⟨(hw _ (List.mem_of_getElem? (i := 13) rfl)), (hw _ (List.mem_of_getElem? (i := 17) rfl))⟩)), (Exa.start ev_aB_TO_A c4), (Sta.start ev_aBOTH (Or.inr ⟨(hw _ (List.mem_of_getElem? (i := 13) rfl)), (hw _ (List.mem_of_getElem? (i := 19) rfl))⟩)), (Exa.start ev_aBOTH c5), (Sta.start ev_aNONE (Or.inr ⟨(hw _ (List.mem_of_getElem? (i := 13) rfl)), (hw _ (List.mem_of_getElem? (i := 21) rfl))⟩)), (Exa.start ev_aNONE c6), (Sta.start ev_aMIRROR (Or.inr ⟨(hw _ (List.mem_of_getElem? (i := 25) rfl)), (hw _ (List.mem_of_getElem? (i := 26) rfl))⟩)), (Exa.start ev_aMIRROR c7), (Sta.start ev_aTEMPLATE_OR_PLAGIARISM (Or.inr ⟨(hw _ (List.mem_of_getElem? (i := 25) rfl)), (hw _ (List.mem_of_getElem? (i := 29) rfl))⟩)), (Exa.start ev_aTEMPLATE_OR_PLAGIARISM c8), (Sta.start ev_aARCHIVE_PAGE (Or.inr ⟨(hw _ (List.mem_of_getElem? (i := 25) rfl)), (hw _ (List.mem_of_getElem? (i := 31) rfl))⟩)), (Exa.start ev_aARCHIVE_PAGE c9), (Sta.start ev_aLINK_LIST_PART (Or.inr ⟨(hw _ (List.mem_of_getElem? (i := 25) rfl)), (hw _ (List.mem_of_getElem? (i := 33) rfl))⟩)), (Exa.start ev_aLINK_LIST_PART c10), (Sta.start ev_aSAME_SITE_RELATED (Or.inr ⟨(hw _ (List.mem_of_getElem? (i := 25) rfl)), (hw _ (List.mem_of_getElem? (i := 35) rfl))⟩)), (Exa.start ev_aSAME_SITE_RELATED c11), (Sta.start ev_aCITATION_OR_SPAM (Or.inr ⟨(hw _ (List.mem_of_getElem? (i := 25) rfl)), (hw _ (List.mem_of_getElem? (i := 37) rfl))⟩)), (Exa.start ev_aCITATION_OR_SPAM c12), (Sta.start ev_aSHARED_TEXT_OR_PLAGIARISM (Or.inr ⟨(hw _ (List.mem_of_getElem? (i := 25) rfl)), (hw _ (List.mem_of_getElem? (i := 39) rfl))⟩)), (Exa.start ev_aSHARED_TEXT_OR_PLAGIARISM c13), (own_fldI ev_aIDENTICAL c16), (own_fldI ev_aCONTAINMENT c18), (own_fldI ev_aPARTIAL c20), (own_fldI ev_aB_TO_A c22), (own_fldI ev_aNONE c23), (own_fldI ev_aA_TO_B c24), (own_fldI ev_aBOTH hn25), (Sta.start evSW (Or.inr ⟨(hw _ (List.mem_of_getElem? (i := 58) rfl)), (hw _ (List.mem_of_getElem? (i := 59) rfl))⟩)), VSW⟩
  obtain ⟨n, o, h1, h2, h3, _, L, rfl, ⟨rfl, N⟩, hq⟩ := rm_law l s _ hw tables_1 aIDENTICAL aCONTAINMENT aPARTIAL aA_TO_B aB_TO_A aBOTH aNONE aMIRROR aTEMPLATE_OR_PLAGIARISM aARCHIVE_PAGE aLINK_LIST_PART aSAME_SITE_RELATED aCITATION_OR_SPAM aSHARED_TEXT_OR_PLAGIARISM aSW kSW F0 i0 i1 i2 s.heap s.heap.size (Old.start s) p e ha hc hk s m _ below hf ((Spec.applies_iff_loose hf).mp happ).1 ⟨rfl, State.Warmed39.refl s, rfl⟩ trivial
  refine ⟨n, _, h1, h2, h3, hpost _ _ _ _ _ _ ⟨Cond.after_iff.mpr rfl, Cond.after_iff.mpr (eq_i res_at (Term.int_eval (1)) rfl), trivial⟩ ⟨hq.1, hq.2.1, hq.2.2.1, (hq.2.2.2.sift fun y hy => Or.inr (N y hy)).mono (by decide) (by decide)⟩⟩
theorem main_1_1 : Claimed_1_1 := comes_1 fun _ _ _ _ _ _ h hF => ⟨h.1, hF⟩
theorem main_1_2 : Claimed_1_2 := comes_1 fun _ _ _ _ _ _ h hF => ⟨h.2.1, hF⟩
end Jvm.Pilot.@@N@@
namespace Jvm.Pilot.@@N@@
open Jvm Jvm.ClassFile Sem Op Lib Jvm.Free Jvm.Stand Jvm.Pilot.@@N@@.Jvm.D
/-! MADE BY PROGRAM (witnessworld.py) out of the Statement's table words and the real class files: 22 classes; the members and pool entries that the words name. The judged class is class 1, her method 1. -/
namespace start1
open Jvm.ClassFile
def u (s : String) : CpInfo := .utf8 (stringToUtf16 s)
/-- a pool by its gaps: so many unusable entries, then the entry; so many at the end -/
def gap : Nat → List CpInfo → List CpInfo
  | 0, r => r
  | n + 1, r => .unusable :: gap n r
def poolList (es : List (Nat × CpInfo)) (last : Nat) : List CpInfo := es.foldr (fun e r => gap e.1 (e.2 :: r)) (gap last [])
def pool (es : List (Nat × CpInfo)) (last : Nat) : Array CpInfo := ⟨poolList es last⟩
def fileOf (pool : Array CpInfo) (this : Nat) (attrs : Array Attribute := #[]) (ms : Array MethodInfo := #[]) (fl : Nat := 33) (sup : Nat := 0) (ifs : Array Nat := #[]) (fds : Array FieldInfo := #[]) : ClassFile where
  minorVersion := 0
  majorVersion := 65
  constantPool := pool
  accessFlags := fl
  thisClass := this
  superClass := sup
  interfaces := ifs
  fields := fds
  methods := ms
  attributes := attrs
def plain (name : String) (sup : Option ClassId) : Class where
  name := name
  kind := .ordinary
  loader := none
  accessFlags := 33
  super := sup
  interfaces := #[]
  cf := none
  fields := #[]
  methods := #[]
  instanceTypes := #[]
  staticTypes := #[]
  resolved := #[]
  callSites := []
  init := .initialized
  statics := none
  mirror := none

def pool0 : Array CpInfo := pool [(5, u "<init>"), (0, u "()V"), (1, .class_ 10), (1, u "java/lang/Object")] 113

def k0m0 : Method := { name := "<init>", desc := "()V", sig := { parameters := [], returnType := none }, accessFlags := 1, code := none }
/-- java/lang/Object -/
def k0 : Class := { plain "java/lang/Object" none with
  accessFlags := 33
  interfaces := #[]
  cf := some (fileOf pool0 8 #[] #[{ accessFlags := 1, nameIndex := 5, descriptorIndex := 6, attributes := #[] }] 33 0 #[] #[])
  fields := #[]
  methods := #[k0m0]
  instanceTypes := #[]
  staticTypes := #[]
  resolved := Array.replicate 124 none
  statics := none }

def pool1 : Array CpInfo := pool [(2, .class_ 4), (1, u "java/lang/Object"), (0, u "<init>"), (0, u "()V"), (0, .class_ 8), (0, u "com/example/page_copy_finder/pagecopyfinder/copies/PairKind"), (0, .fieldref 7 10), (0, .nameAndType 11 12), (0, u "IDENTICAL"), (0, u "Lcom/example/page_copy_finder/pagecopyfinder/copies/PairKind;"), (0, .fieldref 7 14), (0, .nameAndType 15 12), (0, u "CONTAINMENT"), (0, .fieldref 7 17), (0, .nameAndType 18 12), (0, u "PARTIAL"), (0, .class_ 20), (0, u "com/example/page_copy_finder/pagecopyfinder/copies/PairLinks"), (0, .fieldref 19 22), (0, .nameAndType 23 24), (0, u "A_TO_B"), (0, u "Lcom/example/page_copy_finder/pagecopyfinder/copies/PairLinks;"), (0, .fieldref 19 26), (0, .nameAndType 27 24), (0, u "B_TO_A"), (0, .fieldref 19 29), (0, .nameAndType 30 24), (0, u "BOTH"), (0, .fieldref 19 32), (0, .nameAndType 33 24), (0, u "NONE"), (0, .class_ 35), (0, u "com/example/page_copy_finder/pagecopyfinder/copies/PairLabel"), (0, .fieldref 34 37), (0, .nameAndType 38 39), (0, u "MIRROR"), (0, u "Lcom/example/page_copy_finder/pagecopyfinder/copies/PairLabel;"), (0, .fieldref 34 41), (0, .nameAndType 42 39), (0, u "TEMPLATE_OR_PLAGIARISM"), (0, .fieldref 34 44), (0, .nameAndType 45 39), (0, u "ARCHIVE_PAGE"), (0, .fieldref 34 47), (0, .nameAndType 48 39), (0, u "LINK_LIST_PART"), (0, .fieldref 34 50), (0, .nameAndType 51 39), (0, u "SAME_SITE_RELATED"), (0, .fieldref 34 53), (0, .nameAndType 54 39), (0, u "CITATION_OR_SPAM"), (0, .fieldref 34 56), (0, .nameAndType 57 39), (0, u "SHARED_TEXT_OR_PLAGIARISM"), (0, .integer 2147483647), (0, .methodref 34 60), (0, .nameAndType 61 62), (0, u "of"), (0, u "(Lcom/example/page_copy_finder/pagecopyfinder/copies/PairKind;ZLcom/example/page_copy_finder/pagecopyfinder/copies/PairLinks;)Lcom/example/page_copy_finder/pagecopyfinder/copies/PairLabel;"), (0, .class_ 64), (0, u "com/example/page_copy_finder/pagecopyfinder/copies/PairLabelOfPinLaw"), (2, u "law"), (0, u "(III)Z")] 9

def k1m0 : Method := { name := "<init>", desc := "()V", sig := { parameters := [], returnType := none }, accessFlags := 1, code := none }
def k1c1 : Code := { maxStack := 4, maxLocals := 10, code := code, exceptionTable := #[], attributes := #[] }
def k1m1 : Method := { name := "law", desc := "(III)Z", sig := { parameters := [.int, .int, .int], returnType := some .boolean }, accessFlags := 9, code := some k1c1 }
/-- com/example/page_copy_finder/pagecopyfinder/copies/PairLabelOfPinLaw -/
def k1 : Class := { plain "com/example/page_copy_finder/pagecopyfinder/copies/PairLabelOfPinLaw" (some 0) with
  accessFlags := 49
  interfaces := #[]
  cf := some (fileOf pool1 63 #[] #[{ accessFlags := 1, nameIndex := 5, descriptorIndex := 6, attributes := #[] }, { accessFlags := 9, nameIndex := 67, descriptorIndex := 68, attributes := #[] }] 49 2 #[] #[])
  fields := #[]
  methods := #[k1m0, k1m1]
  instanceTypes := #[]
  staticTypes := #[]
  resolved := Array.replicate 78 none
  statics := none }

def pool2 : Array CpInfo := pool [(1, .class_ 2), (0, u "java/lang/constant/Constable"), (0, .class_ 4), (0, u "java/lang/Object")] 6

/-- java/lang/constant/Constable -/
def k2 : Class := { plain "java/lang/constant/Constable" (some 0) with
  accessFlags := 1537
  interfaces := #[]
  cf := some (fileOf pool2 1 #[] #[] 1537 3 #[] #[])
  fields := #[]
  methods := #[]
  instanceTypes := #[]
  staticTypes := #[]
  resolved := Array.replicate 11 none
  statics := none }

def pool3 : Array CpInfo := pool [(1, .class_ 2), (0, u "java/lang/Comparable"), (0, .class_ 4), (0, u "java/lang/Object")] 7

/-- java/lang/Comparable -/
def k3 : Class := { plain "java/lang/Comparable" (some 0) with
  accessFlags := 1537
  interfaces := #[]
  cf := some (fileOf pool3 1 #[] #[] 1537 3 #[] #[])
  fields := #[]
  methods := #[]
  instanceTypes := #[]
  staticTypes := #[]
  resolved := Array.replicate 12 none
  statics := none }

def pool4 : Array CpInfo := pool [(1, .class_ 2), (0, u "java/io/Serializable"), (0, .class_ 4), (0, u "java/lang/Object")] 2

/-- java/io/Serializable -/
def k4 : Class := { plain "java/io/Serializable" (some 0) with
  accessFlags := 1537
  interfaces := #[]
  cf := some (fileOf pool4 1 #[] #[] 1537 3 #[] #[])
  fields := #[]
  methods := #[]
  instanceTypes := #[]
  staticTypes := #[]
  resolved := Array.replicate 7 none
  statics := none }

def pool5 : Array CpInfo := pool [(2, .class_ 4), (1, u "java/lang/Enum"), (0, u "name"), (0, u "Ljava/lang/String;"), (0, .fieldref 2 8), (0, .nameAndType 9 10), (0, u "ordinal"), (0, u "I"), (1, .class_ 14), (1, u "java/lang/Object"), (4, u "hash"), (86, .class_ 108), (1, u "java/lang/Enum$EnumDesc"), (2, .class_ 112), (0, u "java/lang/constant/Constable"), (0, .class_ 114), (0, u "java/lang/Comparable"), (0, .class_ 116), (0, u "java/io/Serializable"), (9, u "()I")] 77

def k5c0 : Code := { maxStack := 1, maxLocals := 1, code := jdk_37_method_2_code, exceptionTable := #[], attributes := #[] }
def k5m0 : Method := { name := "ordinal", desc := "()I", sig := { parameters := [], returnType := some .int }, accessFlags := 17, code := some k5c0 }
/-- java/lang/Enum -/
def k5 : Class := { plain "java/lang/Enum" (some 0) with
  accessFlags := 1057
  interfaces := #[2, 3, 4]
  cf := some (fileOf pool5 2 #[.nestMembers #[106]] #[{ accessFlags := 17, nameIndex := 9, descriptorIndex := 126, attributes := #[] }] 1057 12 #[111, 113, 115] #[{ accessFlags := 18, nameIndex := 5, descriptorIndex := 6, attributes := #[] }, { accessFlags := 18, nameIndex := 9, descriptorIndex := 10, attributes := #[] }, { accessFlags := 2, nameIndex := 19, descriptorIndex := 10, attributes := #[] }])
  fields := #[{ name := "name", type := (.object "java/lang/String"), accessFlags := 18, slot := 0, constantValue := 0 }, { name := "ordinal", type := .int, accessFlags := 18, slot := 1, constantValue := 0 }, { name := "hash", type := .int, accessFlags := 2, slot := 2, constantValue := 0 }]
  methods := #[k5m0]
  instanceTypes := #[(.object "java/lang/String"), .int, .int]
  staticTypes := #[]
  resolved := Array.replicate 204 none
  statics := none }

def pool6 : Array CpInfo := pool [(1, .class_ 2), (0, u "com/example/page_copy_finder/pagecopyfinder/copies/PairKind"), (2, u "IDENTICAL"), (0, u "Lcom/example/page_copy_finder/pagecopyfinder/copies/PairKind;"), (2, u "CONTAINMENT"), (2, u "PARTIAL"), (2, u "$VALUES"), (0, u "[Lcom/example/page_copy_finder/pagecopyfinder/copies/PairKind;"), (6, .class_ 25), (1, u "java/lang/Enum"), (8, u "word"), (0, u "Ljava/lang/String;")] 29

/-- com/example/page_copy_finder/pagecopyfinder/copies/PairKind -/
def k6 : Class := { plain "com/example/page_copy_finder/pagecopyfinder/copies/PairKind" (some 5) with
  accessFlags := 16433
  interfaces := #[]
  cf := some (fileOf pool6 1 #[] #[] 16433 23 #[] #[{ accessFlags := 16409, nameIndex := 5, descriptorIndex := 6, attributes := #[] }, { accessFlags := 16409, nameIndex := 9, descriptorIndex := 6, attributes := #[] }, { accessFlags := 16409, nameIndex := 12, descriptorIndex := 6, attributes := #[] }, { accessFlags := 18, nameIndex := 34, descriptorIndex := 35, attributes := #[] }, { accessFlags := 4122, nameIndex := 15, descriptorIndex := 16, attributes := #[] }])
  fields := #[{ name := "IDENTICAL", type := (.object "com/example/page_copy_finder/pagecopyfinder/copies/PairKind"), accessFlags := 16409, slot := 0, constantValue := 0 }, { name := "CONTAINMENT", type := (.object "com/example/page_copy_finder/pagecopyfinder/copies/PairKind"), accessFlags := 16409, slot := 1, constantValue := 0 }, { name := "PARTIAL", type := (.object "com/example/page_copy_finder/pagecopyfinder/copies/PairKind"), accessFlags := 16409, slot := 2, constantValue := 0 }, { name := "word", type := (.object "java/lang/String"), accessFlags := 18, slot := 3, constantValue := 0 }, { name := "$VALUES", type := (.array (.object "com/example/page_copy_finder/pagecopyfinder/copies/PairKind")), accessFlags := 4122, slot := 3, constantValue := 0 }]
  methods := #[]
  instanceTypes := #[(.object "java/lang/String"), .int, .int, (.object "java/lang/String")]
  staticTypes := #[(.object "com/example/page_copy_finder/pagecopyfinder/copies/PairKind"), (.object "com/example/page_copy_finder/pagecopyfinder/copies/PairKind"), (.object "com/example/page_copy_finder/pagecopyfinder/copies/PairKind"), (.array (.object "com/example/page_copy_finder/pagecopyfinder/copies/PairKind"))]
  resolved := Array.replicate 65 none
  statics := some 0 }

def pool7 : Array CpInfo := pool [(1, .class_ 2), (0, u "com/example/page_copy_finder/pagecopyfinder/copies/PairLinks"), (2, u "A_TO_B"), (0, u "Lcom/example/page_copy_finder/pagecopyfinder/copies/PairLinks;"), (2, u "B_TO_A"), (2, u "BOTH"), (2, u "NONE"), (2, u "$VALUES"), (0, u "[Lcom/example/page_copy_finder/pagecopyfinder/copies/PairLinks;"), (6, .class_ 28), (1, u "java/lang/Enum"), (8, u "word"), (0, u "Ljava/lang/String;")] 35

/-- com/example/page_copy_finder/pagecopyfinder/copies/PairLinks -/
def k7 : Class := { plain "com/example/page_copy_finder/pagecopyfinder/copies/PairLinks" (some 5) with
  accessFlags := 16433
  interfaces := #[]
  cf := some (fileOf pool7 1 #[] #[] 16433 26 #[] #[{ accessFlags := 16409, nameIndex := 5, descriptorIndex := 6, attributes := #[] }, { accessFlags := 16409, nameIndex := 9, descriptorIndex := 6, attributes := #[] }, { accessFlags := 16409, nameIndex := 12, descriptorIndex := 6, attributes := #[] }, { accessFlags := 16409, nameIndex := 15, descriptorIndex := 6, attributes := #[] }, { accessFlags := 18, nameIndex := 37, descriptorIndex := 38, attributes := #[] }, { accessFlags := 4122, nameIndex := 18, descriptorIndex := 19, attributes := #[] }])
  fields := #[{ name := "A_TO_B", type := (.object "com/example/page_copy_finder/pagecopyfinder/copies/PairLinks"), accessFlags := 16409, slot := 0, constantValue := 0 }, { name := "B_TO_A", type := (.object "com/example/page_copy_finder/pagecopyfinder/copies/PairLinks"), accessFlags := 16409, slot := 1, constantValue := 0 }, { name := "BOTH", type := (.object "com/example/page_copy_finder/pagecopyfinder/copies/PairLinks"), accessFlags := 16409, slot := 2, constantValue := 0 }, { name := "NONE", type := (.object "com/example/page_copy_finder/pagecopyfinder/copies/PairLinks"), accessFlags := 16409, slot := 3, constantValue := 0 }, { name := "word", type := (.object "java/lang/String"), accessFlags := 18, slot := 3, constantValue := 0 }, { name := "$VALUES", type := (.array (.object "com/example/page_copy_finder/pagecopyfinder/copies/PairLinks")), accessFlags := 4122, slot := 4, constantValue := 0 }]
  methods := #[]
  instanceTypes := #[(.object "java/lang/String"), .int, .int, (.object "java/lang/String")]
  staticTypes := #[(.object "com/example/page_copy_finder/pagecopyfinder/copies/PairLinks"), (.object "com/example/page_copy_finder/pagecopyfinder/copies/PairLinks"), (.object "com/example/page_copy_finder/pagecopyfinder/copies/PairLinks"), (.object "com/example/page_copy_finder/pagecopyfinder/copies/PairLinks"), (.array (.object "com/example/page_copy_finder/pagecopyfinder/copies/PairLinks"))]
  resolved := Array.replicate 74 none
  statics := some 1 }

def pool8 : Array CpInfo := pool [(1, .class_ 2), (0, u "com/example/page_copy_finder/pagecopyfinder/copies/PairLabel"), (0, .fieldref 1 4), (0, .nameAndType 5 6), (0, u "MIRROR"), (0, u "Lcom/example/page_copy_finder/pagecopyfinder/copies/PairLabel;"), (0, .fieldref 1 8), (0, .nameAndType 9 6), (0, u "TEMPLATE_OR_PLAGIARISM"), (0, .fieldref 1 11), (0, .nameAndType 12 6), (0, u "ARCHIVE_PAGE"), (0, .fieldref 1 14), (0, .nameAndType 15 6), (0, u "LINK_LIST_PART"), (0, .fieldref 1 17), (0, .nameAndType 18 6), (0, u "SAME_SITE_RELATED"), (0, .fieldref 1 20), (0, .nameAndType 21 6), (0, u "CITATION_OR_SPAM"), (0, .fieldref 1 23), (0, .nameAndType 24 6), (0, u "SHARED_TEXT_OR_PLAGIARISM"), (2, u "$VALUES"), (0, u "[Lcom/example/page_copy_finder/pagecopyfinder/copies/PairLabel;"), (6, .class_ 37), (1, u "java/lang/Enum"), (8, u "word"), (0, u "Ljava/lang/String;"), (0, .string 49), (0, u "kind"), (0, .methodref 51 52), (0, .class_ 53), (0, .nameAndType 54 55), (0, u "java/util/Objects"), (0, u "requireNonNull"), (0, u "(Ljava/lang/Object;Ljava/lang/String;)Ljava/lang/Object;"), (0, .string 57), (0, u "links"), (0, .fieldref 59 60), (0, .class_ 61), (0, .nameAndType 62 63), (0, u "com/example/page_copy_finder/pagecopyfinder/copies/PairLabel$1"), (0, u "$SwitchMap$com$example$page_copy_finder$pagecopyfinder$copies$PairKind"), (0, u "[I"), (0, .methodref 65 66), (0, .class_ 67), (0, .nameAndType 68 69), (0, u "com/example/page_copy_finder/pagecopyfinder/copies/PairKind"), (0, u "ordinal"), (0, u "()I"), (5, .fieldref 76 77), (0, .class_ 78), (0, .nameAndType 79 80), (0, u "com/example/page_copy_finder/pagecopyfinder/copies/PairLinks"), (0, u "NONE"), (0, u "Lcom/example/page_copy_finder/pagecopyfinder/copies/PairLinks;"), (35, u "of"), (0, u "(Lcom/example/page_copy_finder/pagecopyfinder/copies/PairKind;ZLcom/example/page_copy_finder/pagecopyfinder/copies/PairLinks;)Lcom/example/page_copy_finder/pagecopyfinder/copies/PairLabel;")] 9

def k8c0 : Code := { maxStack := 4, maxLocals := 3, code := prog_4_method_4_code, exceptionTable := #[], attributes := #[] }
def k8m0 : Method := { name := "of", desc := "(Lcom/example/page_copy_finder/pagecopyfinder/copies/PairKind;ZLcom/example/page_copy_finder/pagecopyfinder/copies/PairLinks;)Lcom/example/page_copy_finder/pagecopyfinder/copies/PairLabel;", sig := { parameters := [(.object "com/example/page_copy_finder/pagecopyfinder/copies/PairKind"), .boolean, (.object "com/example/page_copy_finder/pagecopyfinder/copies/PairLinks")], returnType := some (.object "com/example/page_copy_finder/pagecopyfinder/copies/PairLabel") }, accessFlags := 9, code := some k8c0 }
/-- com/example/page_copy_finder/pagecopyfinder/copies/PairLabel -/
def k8 : Class := { plain "com/example/page_copy_finder/pagecopyfinder/copies/PairLabel" (some 5) with
  accessFlags := 16433
  interfaces := #[]
  cf := some (fileOf pool8 1 #[.nestMembers #[59]] #[{ accessFlags := 9, nameIndex := 116, descriptorIndex := 117, attributes := #[] }] 16433 35 #[] #[{ accessFlags := 16409, nameIndex := 5, descriptorIndex := 6, attributes := #[] }, { accessFlags := 16409, nameIndex := 9, descriptorIndex := 6, attributes := #[] }, { accessFlags := 16409, nameIndex := 12, descriptorIndex := 6, attributes := #[] }, { accessFlags := 16409, nameIndex := 15, descriptorIndex := 6, attributes := #[] }, { accessFlags := 16409, nameIndex := 18, descriptorIndex := 6, attributes := #[] }, { accessFlags := 16409, nameIndex := 21, descriptorIndex := 6, attributes := #[] }, { accessFlags := 16409, nameIndex := 24, descriptorIndex := 6, attributes := #[] }, { accessFlags := 18, nameIndex := 46, descriptorIndex := 47, attributes := #[] }, { accessFlags := 4122, nameIndex := 27, descriptorIndex := 28, attributes := #[] }])
  fields := #[{ name := "MIRROR", type := (.object "com/example/page_copy_finder/pagecopyfinder/copies/PairLabel"), accessFlags := 16409, slot := 0, constantValue := 0 }, { name := "TEMPLATE_OR_PLAGIARISM", type := (.object "com/example/page_copy_finder/pagecopyfinder/copies/PairLabel"), accessFlags := 16409, slot := 1, constantValue := 0 }, { name := "ARCHIVE_PAGE", type := (.object "com/example/page_copy_finder/pagecopyfinder/copies/PairLabel"), accessFlags := 16409, slot := 2, constantValue := 0 }, { name := "LINK_LIST_PART", type := (.object "com/example/page_copy_finder/pagecopyfinder/copies/PairLabel"), accessFlags := 16409, slot := 3, constantValue := 0 }, { name := "SAME_SITE_RELATED", type := (.object "com/example/page_copy_finder/pagecopyfinder/copies/PairLabel"), accessFlags := 16409, slot := 4, constantValue := 0 }, { name := "CITATION_OR_SPAM", type := (.object "com/example/page_copy_finder/pagecopyfinder/copies/PairLabel"), accessFlags := 16409, slot := 5, constantValue := 0 }, { name := "SHARED_TEXT_OR_PLAGIARISM", type := (.object "com/example/page_copy_finder/pagecopyfinder/copies/PairLabel"), accessFlags := 16409, slot := 6, constantValue := 0 }, { name := "word", type := (.object "java/lang/String"), accessFlags := 18, slot := 3, constantValue := 0 }, { name := "$VALUES", type := (.array (.object "com/example/page_copy_finder/pagecopyfinder/copies/PairLabel")), accessFlags := 4122, slot := 7, constantValue := 0 }]
  methods := #[k8m0]
  instanceTypes := #[(.object "java/lang/String"), .int, .int, (.object "java/lang/String")]
  staticTypes := #[(.object "com/example/page_copy_finder/pagecopyfinder/copies/PairLabel"), (.object "com/example/page_copy_finder/pagecopyfinder/copies/PairLabel"), (.object "com/example/page_copy_finder/pagecopyfinder/copies/PairLabel"), (.object "com/example/page_copy_finder/pagecopyfinder/copies/PairLabel"), (.object "com/example/page_copy_finder/pagecopyfinder/copies/PairLabel"), (.object "com/example/page_copy_finder/pagecopyfinder/copies/PairLabel"), (.object "com/example/page_copy_finder/pagecopyfinder/copies/PairLabel"), (.array (.object "com/example/page_copy_finder/pagecopyfinder/copies/PairLabel"))]
  resolved := Array.replicate 127 none
  statics := some 2 }

def pool9 : Array CpInfo := pool [(2, .class_ 4), (1, u "java/lang/CharSequence"), (42, .class_ 48), (0, u "java/lang/CharSequence$1CodePointIterator"), (10, .class_ 60), (0, u "java/lang/CharSequence$1CharIterator"), (5, .class_ 67), (0, u "java/lang/Object")] 63

/-- java/lang/CharSequence -/
def k9 : Class := { plain "java/lang/CharSequence" (some 0) with
  accessFlags := 1537
  interfaces := #[]
  cf := some (fileOf pool9 2 #[.nestMembers #[47, 59]] #[] 1537 66 #[] #[])
  fields := #[]
  methods := #[]
  instanceTypes := #[]
  staticTypes := #[]
  resolved := Array.replicate 131 none
  statics := none }

def pool10 : Array CpInfo := pool [(1, .class_ 2), (0, u "java/lang/constant/ConstantDesc"), (0, .class_ 4), (0, u "java/lang/Object")] 32

/-- java/lang/constant/ConstantDesc -/
def k10 : Class := { plain "java/lang/constant/ConstantDesc" (some 0) with
  accessFlags := 1537
  interfaces := #[]
  cf := some (fileOf pool10 1 #[] #[] 1537 3 #[] #[])
  fields := #[]
  methods := #[]
  instanceTypes := #[]
  staticTypes := #[]
  resolved := Array.replicate 37 none
  statics := none }

def pool11 : Array CpInfo := pool [(2, .class_ 4), (1, u "java/lang/Object"), (0, u "<init>"), (0, u "()V"), (3, .class_ 12), (1, u "java/lang/String"), (0, u "value"), (0, u "[B"), (2, u "coder"), (0, u "B"), (2, u "hash"), (0, u "I"), (2, u "hashIsZero"), (0, u "Z"), (13, u "COMPACT_STRINGS"), (534, .class_ 576), (0, u "java/lang/CharSequence"), (22, u "CASE_INSENSITIVE_ORDER"), (0, u "Ljava/util/Comparator;"), (500, u "serialPersistentFields"), (0, u "[Ljava/io/ObjectStreamField;"), (0, .class_ 1104), (0, u "java/lang/String$CaseInsensitiveComparator"), (1, .class_ 1107), (0, u "java/io/Serializable"), (0, .class_ 1109), (0, u "java/lang/Comparable"), (0, .class_ 1111), (0, u "java/lang/constant/Constable"), (0, .class_ 1113), (0, u "java/lang/constant/ConstantDesc"), (2, u "serialVersionUID"), (0, u "J"), (3, u "REPL"), (0, u "C"), (2, u "LATIN1"), (1, u "UTF16")] 323

def k11m0 : Method := { name := "<init>", desc := "()V", sig := { parameters := [], returnType := none }, accessFlags := 1, code := none }
/-- java/lang/String -/
def k11 : Class := { plain "java/lang/String" (some 0) with
  accessFlags := 49
  interfaces := #[4, 3, 9, 2, 10]
  cf := some (fileOf pool11 10 #[.nestMembers #[1103]] #[{ accessFlags := 1, nameIndex := 5, descriptorIndex := 6, attributes := #[] }] 49 2 #[1106, 1108, 575, 1110, 1112] #[{ accessFlags := 18, nameIndex := 13, descriptorIndex := 14, attributes := #[] }, { accessFlags := 18, nameIndex := 17, descriptorIndex := 18, attributes := #[] }, { accessFlags := 2, nameIndex := 21, descriptorIndex := 22, attributes := #[] }, { accessFlags := 2, nameIndex := 25, descriptorIndex := 26, attributes := #[] }, { accessFlags := 26, nameIndex := 1116, descriptorIndex := 1117, attributes := #[] }, { accessFlags := 24, nameIndex := 40, descriptorIndex := 26, attributes := #[] }, { accessFlags := 26, nameIndex := 1101, descriptorIndex := 1102, attributes := #[] }, { accessFlags := 26, nameIndex := 1121, descriptorIndex := 1122, attributes := #[] }, { accessFlags := 25, nameIndex := 599, descriptorIndex := 600, attributes := #[] }, { accessFlags := 24, nameIndex := 1125, descriptorIndex := 18, attributes := #[] }, { accessFlags := 24, nameIndex := 1127, descriptorIndex := 18, attributes := #[] }])
  fields := #[{ name := "value", type := (.array .byte), accessFlags := 18, slot := 0, constantValue := 0 }, { name := "coder", type := .byte, accessFlags := 18, slot := 1, constantValue := 0 }, { name := "hash", type := .int, accessFlags := 2, slot := 2, constantValue := 0 }, { name := "hashIsZero", type := .boolean, accessFlags := 2, slot := 3, constantValue := 0 }, { name := "serialVersionUID", type := .long, accessFlags := 26, slot := 0, constantValue := 0 }, { name := "COMPACT_STRINGS", type := .boolean, accessFlags := 24, slot := 1, constantValue := 0 }, { name := "serialPersistentFields", type := (.array (.object "java/io/ObjectStreamField")), accessFlags := 26, slot := 2, constantValue := 0 }, { name := "REPL", type := .char, accessFlags := 26, slot := 3, constantValue := 0 }, { name := "CASE_INSENSITIVE_ORDER", type := (.object "java/util/Comparator"), accessFlags := 25, slot := 4, constantValue := 0 }, { name := "LATIN1", type := .byte, accessFlags := 24, slot := 5, constantValue := 0 }, { name := "UTF16", type := .byte, accessFlags := 24, slot := 6, constantValue := 0 }]
  methods := #[k11m0]
  instanceTypes := #[(.array .byte), .byte, .int, .boolean]
  staticTypes := #[.long, .boolean, (.array (.object "java/io/ObjectStreamField")), .char, (.object "java/util/Comparator"), .byte, .byte]
  resolved := Array.replicate 1451 none
  statics := none }

def pool12 : Array CpInfo := pool [(2, .class_ 4), (1, u "java/lang/Object"), (0, u "<init>"), (0, u "()V"), (35, .class_ 44), (1, u "java/util/Objects"), (0, u "requireNonNull"), (48, u "(Ljava/lang/Object;Ljava/lang/String;)Ljava/lang/Object;")] 89

def k12m0 : Method := { name := "<init>", desc := "()V", sig := { parameters := [], returnType := none }, accessFlags := 2, code := none }
def k12c1 : Code := { maxStack := 3, maxLocals := 2, code := jdk_31_method_11_code, exceptionTable := #[], attributes := #[] }
def k12m1 : Method := { name := "requireNonNull", desc := "(Ljava/lang/Object;Ljava/lang/String;)Ljava/lang/Object;", sig := { parameters := [(.object "java/lang/Object"), (.object "java/lang/String")], returnType := some (.object "java/lang/Object") }, accessFlags := 9, code := some k12c1 }
/-- java/util/Objects -/
def k12 : Class := { plain "java/util/Objects" (some 0) with
  accessFlags := 49
  interfaces := #[]
  cf := some (fileOf pool12 42 #[] #[{ accessFlags := 2, nameIndex := 5, descriptorIndex := 6, attributes := #[] }, { accessFlags := 9, nameIndex := 45, descriptorIndex := 94, attributes := #[] }] 49 2 #[] #[])
  fields := #[]
  methods := #[k12m0, k12m1]
  instanceTypes := #[]
  staticTypes := #[]
  resolved := Array.replicate 184 none
  statics := none }

def pool13 : Array CpInfo := pool [(8, .class_ 10), (1, u "com/example/page_copy_finder/pagecopyfinder/copies/PairLabel$1"), (0, u "$SwitchMap$com$example$page_copy_finder$pagecopyfinder$copies$PairKind"), (0, u "[I"), (16, .class_ 30), (0, u "java/lang/Object"), (8, .class_ 40), (0, u "com/example/page_copy_finder/pagecopyfinder/copies/PairLabel")] 2

/-- com/example/page_copy_finder/pagecopyfinder/copies/PairLabel$1 -/
def k13 : Class := { plain "com/example/page_copy_finder/pagecopyfinder/copies/PairLabel$1" (some 0) with
  accessFlags := 4128
  interfaces := #[]
  cf := some (fileOf pool13 8 #[.nestHost 39] #[] 4128 29 #[] #[{ accessFlags := 4120, nameIndex := 11, descriptorIndex := 12, attributes := #[] }])
  fields := #[{ name := "$SwitchMap$com$example$page_copy_finder$pagecopyfinder$copies$PairKind", type := (.array .int), accessFlags := 4120, slot := 0, constantValue := 0 }]
  methods := #[]
  instanceTypes := #[]
  staticTypes := #[(.array .int)]
  resolved := Array.replicate 43 none
  statics := some 3 }

def pool14 : Array CpInfo := pool [(1, u "java/lang/Cloneable"), (0, .class_ 1), (0, u "java/lang/Object"), (0, .class_ 3)] 3

/-- java/lang/Cloneable -/
def k14 : Class := { plain "java/lang/Cloneable" (some 0) with
  accessFlags := 1537
  interfaces := #[]
  cf := some (fileOf pool14 2 #[] #[] 1537 4 #[] #[])
  fields := #[]
  methods := #[]
  instanceTypes := #[]
  staticTypes := #[]
  resolved := Array.replicate 8 none
  statics := none }

/-- the primitive byte -/
def k15 : Class := { plain "byte" none with kind := .primitive 'B', accessFlags := 0x411 }
/-- [B -/
def k16 : Class := { plain "[B" (some 0) with kind := .array 15 .byte, interfaces := #[14, 4], accessFlags := 1041 }

/-- the primitive int -/
def k17 : Class := { plain "int" none with kind := .primitive 'I', accessFlags := 0x411 }
/-- [I -/
def k18 : Class := { plain "[I" (some 0) with kind := .array 17 .int, interfaces := #[14, 4], accessFlags := 1041 }

/-- [Lcom/example/page_copy_finder/pagecopyfinder/copies/PairKind; -/
def k19 : Class := { plain "[Lcom/example/page_copy_finder/pagecopyfinder/copies/PairKind;" (some 0) with kind := .array 6 (.object "com/example/page_copy_finder/pagecopyfinder/copies/PairKind"), interfaces := #[14, 4], accessFlags := 1041 }

/-- [Lcom/example/page_copy_finder/pagecopyfinder/copies/PairLabel; -/
def k20 : Class := { plain "[Lcom/example/page_copy_finder/pagecopyfinder/copies/PairLabel;" (some 0) with kind := .array 8 (.object "com/example/page_copy_finder/pagecopyfinder/copies/PairLabel"), interfaces := #[14, 4], accessFlags := 1041 }

/-- [Lcom/example/page_copy_finder/pagecopyfinder/copies/PairLinks; -/
def k21 : Class := { plain "[Lcom/example/page_copy_finder/pagecopyfinder/copies/PairLinks;" (some 0) with kind := .array 7 (.object "com/example/page_copy_finder/pagecopyfinder/copies/PairLinks"), interfaces := #[14, 4], accessFlags := 1041 }

def heap : Heap := #[{ cls := 6, slots := #[.ref 4, .ref 5, .ref 6, .null], vm := .statics 6 },
  { cls := 7, slots := #[.ref 7, .ref 8, .ref 9, .ref 10, .null], vm := .statics 7 },
  { cls := 8, slots := #[.ref 11, .ref 12, .ref 13, .ref 14, .ref 15, .ref 16, .ref 17, .null], vm := .statics 8 },
  { cls := 13, slots := #[.ref 18], vm := .statics 13 },
  { cls := 6, slots := #[.null, .int 0, .int 0, .null], vm := .none },
  { cls := 6, slots := #[.null, .int 1, .int 0, .null], vm := .none },
  { cls := 6, slots := #[.null, .int 2, .int 0, .null], vm := .none },
  { cls := 7, slots := #[.null, .int 0, .int 0, .null], vm := .none },
  { cls := 7, slots := #[.null, .int 1, .int 0, .null], vm := .none },
  { cls := 7, slots := #[.null, .int 2, .int 0, .null], vm := .none },
  { cls := 7, slots := #[.null, .int 3, .int 0, .null], vm := .none },
  { cls := 8, slots := #[.null, .int 0, .int 0, .null], vm := .none },
  { cls := 8, slots := #[.null, .int 0, .int 0, .null], vm := .none },
  { cls := 8, slots := #[.null, .int 0, .int 0, .null], vm := .none },
  { cls := 8, slots := #[.null, .int 0, .int 0, .null], vm := .none },
  { cls := 8, slots := #[.null, .int 0, .int 0, .null], vm := .none },
  { cls := 8, slots := #[.null, .int 0, .int 0, .null], vm := .none },
  { cls := 8, slots := #[.null, .int 0, .int 0, .null], vm := .none },
  { cls := 18, slots := #[.int 1, .int 2, .int 3], vm := .none }]
def classes : Array Class := #[k0, k1, k2, k3, k4, k5, k6, k7, k8, k9, k10, k11, k12, k13, k14, k15, k16, k17, k18, k19, k20, k21]
def interned : List (Array UInt16 × Addr) := []
def slotsUsed : Nat := 77
def theMethod : MethodId := ⟨1, 1⟩
def args0 : Array Value := #[.int 5, .int 7, .int 2]
def aboutOver (below : List Frame) : State where
  vm := { classes := classes, interned := interned.toArray }
  heap := heap
  slotsUsed := slotsUsed
  threads := #[{ frames := .invoking theMethod args0 :: below }]
def below0 : List Frame := [.native { method := ⟨0, 0⟩, args := #[] }]
def about1 : State := aboutOver below0
def p0 : Program := .bare "" "" ""
def e0 : Env := launch0.env 0 0 0
theorem w_frames : about1.frames = Frame.invoking theMethod args0 :: below0 := rfl
set_option maxRecDepth 65536 in
theorem w_args : argsFit about1.vm theMethod args0 = true := by decide +kernel
set_option maxRecDepth 65536 in
theorem w_heap : heapFits about1 = true := by decide +kernel
set_option maxRecDepth 65536 in
theorem w_runnable : about1.curStatus? = some .runnable := by decide +kernel
set_option maxRecDepth 65536 in
theorem w_alone : about1.alone = true := by decide +kernel
set_option maxRecDepth 65536 in
theorem w_named : about1.methodNamed? x = some theMethod := by decide +kernel
set_option maxRecDepth 65536 in
theorem w_hears : about1.hears theMethod below0 = true := by decide +kernel
set_option maxRecDepth 65536 in
theorem w_ripe : about1.ripe theMethod args0 below0 = true := by decide +kernel
theorem w_running : about1.status = .running := rfl
set_option maxRecDepth 65536 in
theorem w_room : about1.hasRoom e0.platform room_1 = true :=
  launch0.hasRoom_least _ room_1 (by decide +kernel) (by decide +kernel) (by decide +kernel) (by decide +kernel) (by decide +kernel) (by decide +kernel)
theorem allAtoms_all (ts : List Jvm.Cond) (a : Array Jvm.Value) (st : Jvm.State) : (allAtoms ts).before a st = ts.all (fun c => c.before a st) := by
  induction ts with
  | nil => rfl
  | cons c t ih =>
    show (Jvm.Cond.and c (allAtoms t)).before a st = _
    rw [Jvm.Cond.before_and, ih, List.all_cons]
def words1 : List Jvm.Cond := Jvm.Cond.code x code maxLocals ret :: tables_1
/-- a 'code' word, met by the world's own term for the bytes: nothing is compared byte by byte -/
theorem code_word {y : MethodName} {bytes : ByteArray} {mx : Nat} {rt : Option FieldType} {a : Array Value} {s : State} {m : MethodId} {meth : Method} {c : Code} (h1 : s.methodNamed? y = some m) (h2 : s.vm.method? m = some meth) (h3 : meth.code = some c) (h4 : c.code = bytes)
    (h5 : (c.maxLocals == mx && c.exceptionTable.isEmpty && decide (c.maxStack ≤ mostOperands) && decide (meth.sig.returnType = rt) && !meth.locks && decide (parseMethodDescriptor y.desc = some meth.sig)) = true) : (Jvm.Cond.code y bytes mx rt).before a s = true := by
  simp only [Bool.and_eq_true, beq_iff_eq, Bool.not_eq_true', decide_eq_true_eq] at h5
  obtain ⟨⟨⟨⟨⟨g1, g2⟩, g3⟩, g4⟩, g5⟩, g6⟩ := h5
  simp [Cond.before, Cond.holds, Cond.value, h1, h2, h3, h4, g1, g2, g3, g4, g5, g6]
def isCode : Jvm.Cond → Bool
  | .code _ _ _ _ => true
  | _ => false
theorem all_split {L : List Jvm.Cond} {P : Jvm.Cond → Bool} (h1 : L.all (fun c => isCode c || P c) = true) (h2 : ∀ c ∈ L.filter isCode, P c = true) : L.all P = true := by
  refine List.all_eq_true.mpr fun c hc => ?_
  have h := List.all_eq_true.mp h1 c hc
  rcases Bool.eq_false_or_eq_true (isCode c) with hi | hi
  · exact h2 c (List.mem_filter.mpr ⟨hc, hi⟩)
  · simpa [hi] using h
set_option maxRecDepth 65536 in
theorem w_c0 : (Jvm.Cond.code x code maxLocals ret).before args0 about1 = true := code_word (m := ⟨1, 1⟩) (meth := k1m1) (c := k1c1) (by decide +kernel) rfl rfl rfl (by decide +kernel)
set_option maxRecDepth 65536 in
theorem w_c1 : (Jvm.Cond.code ({ cls := "com/example/page_copy_finder/pagecopyfinder/copies/PairLabel", name := "of", desc := "(Lcom/example/page_copy_finder/pagecopyfinder/copies/PairKind;ZLcom/example/page_copy_finder/pagecopyfinder/copies/PairLinks;)Lcom/example/page_copy_finder/pagecopyfinder/copies/PairLabel;" } : Jvm.MethodName) prog_4_method_4_code (3 : Nat) (Option.some (Jvm.ClassFile.FieldType.object "com/example/page_copy_finder/pagecopyfinder/copies/PairLabel"))).before args0 about1 = true := code_word (m := ⟨8, 0⟩) (meth := k8m0) (c := k8c0) (by decide +kernel) rfl rfl rfl (by decide +kernel)
set_option maxRecDepth 65536 in
theorem w_c2 : (Jvm.Cond.code ({ cls := "java/util/Objects", name := "requireNonNull", desc := "(Ljava/lang/Object;Ljava/lang/String;)Ljava/lang/Object;" } : Jvm.MethodName) jdk_31_method_11_code (2 : Nat) (Option.some (Jvm.ClassFile.FieldType.object "java/lang/Object"))).before args0 about1 = true := code_word (m := ⟨12, 1⟩) (meth := k12m1) (c := k12c1) (by decide +kernel) rfl rfl rfl (by decide +kernel)
set_option maxRecDepth 65536 in
theorem w_c3 : (Jvm.Cond.code ({ cls := "java/lang/Enum", name := "ordinal", desc := "()I" } : Jvm.MethodName) jdk_37_method_2_code (1 : Nat) (Option.some Jvm.ClassFile.FieldType.int)).before args0 about1 = true := code_word (m := ⟨5, 0⟩) (meth := k5m0) (c := k5c0) (by decide +kernel) rfl rfl rfl (by decide +kernel)
def codes1 : List Jvm.Cond := [Jvm.Cond.code x code maxLocals ret, Jvm.Cond.code ({ cls := "com/example/page_copy_finder/pagecopyfinder/copies/PairLabel", name := "of", desc := "(Lcom/example/page_copy_finder/pagecopyfinder/copies/PairKind;ZLcom/example/page_copy_finder/pagecopyfinder/copies/PairLinks;)Lcom/example/page_copy_finder/pagecopyfinder/copies/PairLabel;" } : Jvm.MethodName) prog_4_method_4_code (3 : Nat) (Option.some (Jvm.ClassFile.FieldType.object "com/example/page_copy_finder/pagecopyfinder/copies/PairLabel")), Jvm.Cond.code ({ cls := "java/util/Objects", name := "requireNonNull", desc := "(Ljava/lang/Object;Ljava/lang/String;)Ljava/lang/Object;" } : Jvm.MethodName) jdk_31_method_11_code (2 : Nat) (Option.some (Jvm.ClassFile.FieldType.object "java/lang/Object")), Jvm.Cond.code ({ cls := "java/lang/Enum", name := "ordinal", desc := "()I" } : Jvm.MethodName) jdk_37_method_2_code (1 : Nat) (Option.some Jvm.ClassFile.FieldType.int)]
set_option maxRecDepth 65536 in
theorem codes_eq : words1.filter isCode = codes1 := rfl
theorem w_codes : ∀ c ∈ words1.filter isCode, c.before args0 about1 = true := by
  rw [codes_eq]
  intro c hc
  simp only [codes1, List.mem_cons, List.not_mem_nil, or_false] at hc
  rcases hc with rfl | rfl | rfl | rfl
  · exact w_c0
  · exact w_c1
  · exact w_c2
  · exact w_c3
set_option maxRecDepth 65536 in
theorem w_t1 : (words1.take 24).all (fun c => isCode c || c.before args0 about1) = true := by decide +kernel
set_option maxRecDepth 65536 in
theorem w_t2 : ((words1.drop 24).take 24).all (fun c => isCode c || c.before args0 about1) = true := by decide +kernel
set_option maxRecDepth 65536 in
theorem w_t3 : (((words1.drop 24).drop 24).take 24).all (fun c => isCode c || c.before args0 about1) = true := by decide +kernel
set_option maxRecDepth 65536 in
theorem w_t4 : (((words1.drop 24).drop 24).drop 24).all (fun c => isCode c || c.before args0 about1) = true := by decide +kernel
theorem w_tables : (allAtoms (Jvm.Cond.code x code maxLocals ret :: tables_1)).before args0 about1 = true := by
  rw [allAtoms_all]
  show words1.all (fun c => c.before args0 about1) = true
  refine all_split ?_ w_codes
  rw [← List.take_append_drop 24 words1, List.all_append, w_t1, ← List.take_append_drop 24 (words1.drop 24), List.all_append, w_t2, ← List.take_append_drop 24 ((words1.drop 24).drop 24), List.all_append, w_t3, w_t4]
  rfl
set_option maxRecDepth 65536 in
theorem w_case : (Jvm.Cond.and given_1 narrow_1).before args0 about1 = true := by decide +kernel
theorem w_applies : (headSpec (Jvm.Cond.code x code maxLocals ret :: tables_1) room_1).applies x e0.platform about1 = true :=
  (Spec.applies_iff w_frames).mpr ⟨w_running, w_runnable, w_alone, w_named, w_hears, w_ripe, w_room, w_tables⟩
theorem atStart : AtStart classFile x code maxLocals ret World_1 tables_1 room_1 Calls_1 rest_1 Pre_1 launch0 p0 e0 about1 theMethod args0 below0 :=
  ⟨lists_1, trivial, launch0.admits_env _ _ _, launch0.least_env, fairChoices_fair.cas, fairChoices_fair.clock, w_frames, w_args, w_heap, w_applies, trivial, trivial, w_case⟩
end start1
theorem witness_1 : WitnessClaimed_1 := ⟨start1.p0, start1.e0, start1.about1, start1.theMethod, start1.args0, start1.below0, start1.atStart⟩
end Jvm.Pilot.@@N@@

import JvmDerived
import JvmDerived.Pilot.@@N@@Statement
import JvmDerived.Pilot.@@N@@Code
set_option linter.unusedVariables false
set_option linter.unusedSimpArgs false
@@BLOCK:NumsL.lean.txt@@
namespace Jvm.Pilot.@@N@@
open Jvm Jvm.ClassFile Sem Op Lib Jvm.Free Jvm.Stand Jvm.LawKit Jvm.RoadKit Bundle Jvm.Pilot.@@N@@.Jvm.D
/-- from the state A the body's walk comes to an end of which Q tells -/
def OwnGo (p : Program) (e : Env) (below : List Frame) (Q : Outcome → State → Prop) (A : State) : Prop :=
  ∃ s₂ o, Steps p.tables e below A s₂ ∧ s₂.status = .running ∧ Ended s₂ below o ∧ Q o s₂
theorem own_go {p : Program} {e : Env} {below : List Frame} {Q : Outcome → State → Prop} {A B : State} (st : ∀ t, Steps p.tables e below B t → Steps p.tables e below A t) (h : OwnGo p e below Q B) : OwnGo p e below Q A := by
  obtain ⟨s₂, o, h1, h2⟩ := h
  exact ⟨s₂, o, st _ h1, h2⟩
theorem own_fldI {args : Array Value} {s : State} {t : Term} {C n d : String} {k : Int32} {a : Addr} (ev : t.eval args s none [] s = some (.ref a)) (h : (Jvm.Cond.eq (Term.field t C n d) (Term.int k)).value args s none s [] = some true) : Fld s s.heap a C n d (.int k) := by
  apply Fld.start
  have q := fld_at (C := C) (n := n) (dd := d) ev
  cases hf : s.fieldOf? a C n d with
  | none => rw [hf] at q; simp [Cond.value, q] at h
  | some v => rw [hf] at q; cases v <;> simp [Cond.value, q, Term.int_eval] at h; rw [h]
theorem own_fldL {args : Array Value} {s : State} {t : Term} {C n d : String} {k : Int64} {a : Addr} (ev : t.eval args s none [] s = some (.ref a)) (h : (Jvm.Cond.eq (Term.field t C n d) (Term.long k)).value args s none s [] = some true) : Fld s s.heap a C n d (.long k) := by
  apply Fld.start
  have q := fld_at (C := C) (n := n) (dd := d) ev
  cases hf : s.fieldOf? a C n d with
  | none => rw [hf] at q; simp [Cond.value, q] at h
  | some v => rw [hf] at q; cases v <;> simp [Cond.value, q, long_at] at h; rw [h]
theorem own_refne {a b : Addr} (h : a ≠ b) : decide (Value.ref a = Value.ref b) = false := decide_eq_false fun q => h (Value.ref.inj q)
theorem own_refeq (a : Addr) : decide (Value.ref a = Value.ref a) = true := decide_eq_true rfl
theorem own_rn (a : Addr) : decide (Value.ref a = Value.null) = false := decide_eq_false fun q => by cases q
theorem own_nr (a : Addr) : decide (Value.null = Value.ref a) = false := decide_eq_false fun q => by cases q
theorem own_narb (x : Int32) : nar .byte (x.toInt8.toInt32) = x.toInt8.toInt32 := by simp [nar]
theorem own_selp {Z s : State} {a0 args : Array Value} {y : MethodName} {n : Nat} (hZ : Z.Warmed39 s.vm) (wi : (Jvm.Cond.instantiable y.cls n).before a0 Z = true) (wp : (Jvm.Cond.privateMethod y).before a0 Z = true) (wm : (Jvm.Cond.instanceMethod y).before a0 Z = true)
    (hy : y.cls ≠ "java/lang/invoke/MethodHandle" ∧ y.cls ≠ "java/lang/invoke/VarHandle") : (Jvm.Cond.selects y.cls y y).before args s = true := by
  obtain ⟨c, k, h1, h2, -, h4, -⟩ := Cond.instantiable_spec (mv hZ wi : (Jvm.Cond.instantiable y.cls n).before args s = true)
  exact selects_self_of_private h1 h2 (by revert h4; cases k.isInterface <;> simp) (Cond.privateMethod_at (mvP hZ wp (args := args))) (mv hZ wm) hy
theorem own_len {s : State} {args : Array Value} {t : Term} {a : Addr} {c : Cell} {ty : FieldType} {n : Int32} (ev : t.eval args s none [] s = some (.ref a)) (A : Arr s s.heap a c ty) (h : (Jvm.Cond.eq (Term.length t) (Term.int n)).value args s none s [] = some true) : c.slots.size < 2 ^ 31 ∧ c.slots.size.toInt32 = n := by
  have e1 := eqv_i (Term.int_eval n) h
  have hA := A.fin (Vm.Alike.refl _)
  have hs : c.slots.size < 2 ^ 31 := by
    refine Nat.lt_of_not_le fun q => ?_
    simp [Term.eval, ev, hA, Nat.not_lt.mpr q] at e1
  exact ⟨hs, by have := (len_f ev hA hs).symm.trans e1; simpa using this⟩
theorem own_monoW {s : State} {o : Outcome} {t : State} {L : List Loc} {k n k' n' : Nat} (h : ReturnedEndW s o t L k n) (hk : k ≤ k') (hn : n ≤ n') : ReturnedEndW s o t L k' n' := ⟨h.1, h.2.1, h.2.2.1, h.2.2.2.mono hk hn⟩
theorem own_newlt {a b k : Nat} (q : a < k) (g : k ≤ b) : a ≠ b := Nat.ne_of_lt (Nat.lt_of_lt_of_le q g)
theorem own_sz {Z : State} {n0 : Nat} {h : Heap} (O : Old Z n0 h) : n0 ≤ h.size := O.1 ▸ O.2.1
theorem own_newne {a b : Addr} {h : Heap} (g : b = h.size) (q : a < h.size) : a ≠ b := fun z => by rw [z, g] at q; exact Nat.lt_irrefl _ q
def OwnFacts (Z : State) (aNONE aEXPIRING_KEYS aALL_KEYS : Addr) : Prop := (Sta Z Z.heap "com/example/vesper/vesper/store/Evictor$Scope" "NONE" "Lcom/example/vesper/vesper/store/Evictor$Scope;" (.ref aNONE)) ∧ (Exa Z Z.heap aNONE "com/example/vesper/vesper/store/Evictor$Scope") ∧ (Sta Z Z.heap "com/example/vesper/vesper/store/Evictor$Scope" "EXPIRING_KEYS" "Lcom/example/vesper/vesper/store/Evictor$Scope;" (.ref aEXPIRING_KEYS)) ∧ (Exa Z Z.heap aEXPIRING_KEYS "com/example/vesper/vesper/store/Evictor$Scope") ∧ (Fld Z Z.heap aEXPIRING_KEYS "java/lang/Enum" "ordinal" "I" (.int (2 : Int32))) ∧ (Fld Z Z.heap aNONE "java/lang/Enum" "ordinal" "I" (.int (0 : Int32))) ∧ (Sta Z Z.heap "com/example/vesper/vesper/store/Evictor$Scope" "ALL_KEYS" "Lcom/example/vesper/vesper/store/Evictor$Scope;" (.ref aALL_KEYS)) ∧ (Exa Z Z.heap aALL_KEYS "com/example/vesper/vesper/store/Evictor$Scope") ∧ (Fld Z Z.heap aALL_KEYS "java/lang/Enum" "ordinal" "I" (.int (1 : Int32)))
def own_bf (e : Int32) : Int32 := (if (12 : Int32) < e then (if (24 : Int32) < e then (if (48 : Int32) < e then (if (96 : Int32) < e then (if (192 : Int32) < e then (if (384 : Int32) < e then (if (768 : Int32) < e then (if (1536 : Int32) < e then (if (3072 : Int32) < e then (if (6144 : Int32) < e then (if (12288 : Int32) < e then (if (24576 : Int32) < e then (if (49152 : Int32) < e then (if (98304 : Int32) < e then (if (196608 : Int32) < e then (if (393216 : Int32) < e then (if (786432 : Int32) < e then (if (1572864 : Int32) < e then (if (3145728 : Int32) < e then (if (6291456 : Int32) < e then (if (12582912 : Int32) < e then (if (25165824 : Int32) < e then (if (50331648 : Int32) < e then (if (100663296 : Int32) < e then (if (201326592 : Int32) < e then (if (402653184 : Int32) < e then (1073741824 : Int32) else (536870912 : Int32)) else (268435456 : Int32)) else (134217728 : Int32)) else (67108864 : Int32)) else (33554432 : Int32)) else (16777216 : Int32)) else (8388608 : Int32)) else (4194304 : Int32)) else (2097152 : Int32)) else (1048576 : Int32)) else (524288 : Int32)) else (262144 : Int32)) else (131072 : Int32)) else (65536 : Int32)) else (32768 : Int32)) else (16384 : Int32)) else (8192 : Int32)) else (4096 : Int32)) else (2048 : Int32)) else (1024 : Int32)) else (512 : Int32)) else (256 : Int32)) else (128 : Int32)) else (64 : Int32)) else (32 : Int32)) else (16 : Int32))
set_option maxRecDepth 65536 in
theorem own_bf_spec (e : Int32) : (0 : Int32) < own_bf e ∧ (own_bf e &&& (own_bf e - (1 : Int32))) = (0 : Int32) ∧ ¬ own_bf e < (16 : Int32) ∧ ¬ (1073741824 : Int32) < own_bf e ∧ (((own_bf e / (4 : Int32)) * (3 : Int32)) < e → own_bf e = (1073741824 : Int32)) ∧ (¬ own_bf e = (16 : Int32) → (((own_bf e / (2 : Int32)) / (4 : Int32)) * (3 : Int32)) < e) := by
  unfold own_bf
  by_cases h0 : (12 : Int32) < e
  · skip
    by_cases h1 : (24 : Int32) < e
    · skip
      by_cases h2 : (48 : Int32) < e
      · skip
        by_cases h3 : (96 : Int32) < e
        · skip
          by_cases h4 : (192 : Int32) < e
          · skip
            by_cases h5 : (384 : Int32) < e
            · skip
              by_cases h6 : (768 : Int32) < e
              · skip
                by_cases h7 : (1536 : Int32) < e
                · skip
                  by_cases h8 : (3072 : Int32) < e
                  · skip
                    by_cases h9 : (6144 : Int32) < e
                    · skip
                      by_cases h10 : (12288 : Int32) < e
                      · skip
                        by_cases h11 : (24576 : Int32) < e
                        · skip
                          by_cases h12 : (49152 : Int32) < e
                          · skip
                            by_cases h13 : (98304 : Int32) < e
                            · skip
                              by_cases h14 : (196608 : Int32) < e
                              · skip
                                by_cases h15 : (393216 : Int32) < e
                                · skip
                                  by_cases h16 : (786432 : Int32) < e
                                  · skip
                                    by_cases h17 : (1572864 : Int32) < e
                                    · skip
                                      by_cases h18 : (3145728 : Int32) < e
                                      · skip
                                        by_cases h19 : (6291456 : Int32) < e
                                        · skip
                                          by_cases h20 : (12582912 : Int32) < e
                                          · skip
                                            by_cases h21 : (25165824 : Int32) < e
                                            · skip
                                              by_cases h22 : (50331648 : Int32) < e
                                              · skip
                                                by_cases h23 : (100663296 : Int32) < e
                                                · skip
                                                  by_cases h24 : (201326592 : Int32) < e
                                                  · skip
                                                    by_cases h25 : (402653184 : Int32) < e
                                                    · skip
                                                      rw [if_pos h0, if_pos h1, if_pos h2, if_pos h3, if_pos h4, if_pos h5, if_pos h6, if_pos h7, if_pos h8, if_pos h9, if_pos h10, if_pos h11, if_pos h12, if_pos h13, if_pos h14, if_pos h15, if_pos h16, if_pos h17, if_pos h18, if_pos h19, if_pos h20, if_pos h21, if_pos h22, if_pos h23, if_pos h24, if_pos h25]
                                                      exact ⟨by decide, by decide, by decide, by decide, (fun _ => rfl), (fun _ => by rw [show (((1073741824 : Int32) / (2 : Int32)) / (4 : Int32)) * (3 : Int32) = (402653184 : Int32) from by decide]; exact h25)⟩
                                                    · rw [if_pos h0, if_pos h1, if_pos h2, if_pos h3, if_pos h4, if_pos h5, if_pos h6, if_pos h7, if_pos h8, if_pos h9, if_pos h10, if_pos h11, if_pos h12, if_pos h13, if_pos h14, if_pos h15, if_pos h16, if_pos h17, if_pos h18, if_pos h19, if_pos h20, if_pos h21, if_pos h22, if_pos h23, if_pos h24, if_neg h25]
                                                      exact ⟨by decide, by decide, by decide, by decide, (fun h => absurd h (by rw [show ((536870912 : Int32) / (4 : Int32)) * (3 : Int32) = (402653184 : Int32) from by decide]; exact h25)), (fun _ => by rw [show (((536870912 : Int32) / (2 : Int32)) / (4 : Int32)) * (3 : Int32) = (201326592 : Int32) from by decide]; exact h24)⟩
                                                  · rw [if_pos h0, if_pos h1, if_pos h2, if_pos h3, if_pos h4, if_pos h5, if_pos h6, if_pos h7, if_pos h8, if_pos h9, if_pos h10, if_pos h11, if_pos h12, if_pos h13, if_pos h14, if_pos h15, if_pos h16, if_pos h17, if_pos h18, if_pos h19, if_pos h20, if_pos h21, if_pos h22, if_pos h23, if_neg h24]
                                                    exact ⟨by decide, by decide, by decide, by decide, (fun h => absurd h (by rw [show ((268435456 : Int32) / (4 : Int32)) * (3 : Int32) = (201326592 : Int32) from by decide]; exact h24)), (fun _ => by rw [show (((268435456 : Int32) / (2 : Int32)) / (4 : Int32)) * (3 : Int32) = (100663296 : Int32) from by decide]; exact h23)⟩
                                                · rw [if_pos h0, if_pos h1, if_pos h2, if_pos h3, if_pos h4, if_pos h5, if_pos h6, if_pos h7, if_pos h8, if_pos h9, if_pos h10, if_pos h11, if_pos h12, if_pos h13, if_pos h14, if_pos h15, if_pos h16, if_pos h17, if_pos h18, if_pos h19, if_pos h20, if_pos h21, if_pos h22, if_neg h23]
                                                  exact ⟨by decide, by decide, by decide, by decide, (fun h => absurd h (by rw [show ((134217728 : Int32) / (4 : Int32)) * (3 : Int32) = (100663296 : Int32) from by decide]; exact h23)), (fun _ => by rw [show (((134217728 : Int32) / (2 : Int32)) / (4 : Int32)) * (3 : Int32) = (50331648 : Int32) from by decide]; exact h22)⟩
                                              · rw [if_pos h0, if_pos h1, if_pos h2, if_pos h3, if_pos h4, if_pos h5, if_pos h6, if_pos h7, if_pos h8, if_pos h9, if_pos h10, if_pos h11, if_pos h12, if_pos h13, if_pos h14, if_pos h15, if_pos h16, if_pos h17, if_pos h18, if_pos h19, if_pos h20, if_pos h21, if_neg h22]
                                                exact ⟨by decide, by decide, by decide, by decide, (fun h => absurd h (by rw [show ((67108864 : Int32) / (4 : Int32)) * (3 : Int32) = (50331648 : Int32) from by decide]; exact h22)), (fun _ => by rw [show (((67108864 : Int32) / (2 : Int32)) / (4 : Int32)) * (3 : Int32) = (25165824 : Int32) from by decide]; exact h21)⟩
                                            · rw [if_pos h0, if_pos h1, if_pos h2, if_pos h3, if_pos h4, if_pos h5, if_pos h6, if_pos h7, if_pos h8, if_pos h9, if_pos h10, if_pos h11, if_pos h12, if_pos h13, if_pos h14, if_pos h15, if_pos h16, if_pos h17, if_pos h18, if_pos h19, if_pos h20, if_neg h21]
                                              exact ⟨by decide, by decide, by decide, by decide, (fun h => absurd h (by rw [show ((33554432 : Int32) / (4 : Int32)) * (3 : Int32) = (25165824 : Int32) from by decide]; exact h21)), (fun _ => by rw [show (((33554432 : Int32) / (2 : Int32)) / (4 : Int32)) * (3 : Int32) = (12582912 : Int32) from by decide]; exact h20)⟩
                                          · rw [if_pos h0, if_pos h1, if_pos h2, if_pos h3, if_pos h4, if_pos h5, if_pos h6, if_pos h7, if_pos h8, if_pos h9, if_pos h10, if_pos h11, if_pos h12, if_pos h13, if_pos h14, if_pos h15, if_pos h16, if_pos h17, if_pos h18, if_pos h19, if_neg h20]
                                            exact ⟨by decide, by decide, by decide, by decide, (fun h => absurd h (by rw [show ((16777216 : Int32) / (4 : Int32)) * (3 : Int32) = (12582912 : Int32) from by decide]; exact h20)), (fun _ => by rw [show (((16777216 : Int32) / (2 : Int32)) / (4 : Int32)) * (3 : Int32) = (6291456 : Int32) from by decide]; exact h19)⟩
                                        · rw [if_pos h0, if_pos h1, if_pos h2, if_pos h3, if_pos h4, if_pos h5, if_pos h6, if_pos h7, if_pos h8, if_pos h9, if_pos h10, if_pos h11, if_pos h12, if_pos h13, if_pos h14, if_pos h15, if_pos h16, if_pos h17, if_pos h18, if_neg h19]
                                          exact ⟨by decide, by decide, by decide, by decide, (fun h => absurd h (by rw [show ((8388608 : Int32) / (4 : Int32)) * (3 : Int32) = (6291456 : Int32) from by decide]; exact h19)), (fun _ => by rw [show (((8388608 : Int32) / (2 : Int32)) / (4 : Int32)) * (3 : Int32) = (3145728 : Int32) from by decide]; exact h18)⟩
                                      · rw [if_pos h0, if_pos h1, if_pos h2, if_pos h3, if_pos h4, if_pos h5, if_pos h6, if_pos h7, if_pos h8, if_pos h9, if_pos h10, if_pos h11, if_pos h12, if_pos h13, if_pos h14, if_pos h15, if_pos h16, if_pos h17, if_neg h18]
                                        exact ⟨by decide, by decide, by decide, by decide, (fun h => absurd h (by rw [show ((4194304 : Int32) / (4 : Int32)) * (3 : Int32) = (3145728 : Int32) from by decide]; exact h18)), (fun _ => by rw [show (((4194304 : Int32) / (2 : Int32)) / (4 : Int32)) * (3 : Int32) = (1572864 : Int32) from by decide]; exact h17)⟩
                                    · rw [if_pos h0, if_pos h1, if_pos h2, if_pos h3, if_pos h4, if_pos h5, if_pos h6, if_pos h7, if_pos h8, if_pos h9, if_pos h10, if_pos h11, if_pos h12, if_pos h13, if_pos h14, if_pos h15, if_pos h16, if_neg h17]
                                      exact ⟨by decide, by decide, by decide, by decide, (fun h => absurd h (by rw [show ((2097152 : Int32) / (4 : Int32)) * (3 : Int32) = (1572864 : Int32) from by decide]; exact h17)), (fun _ => by rw [show (((2097152 : Int32) / (2 : Int32)) / (4 : Int32)) * (3 : Int32) = (786432 : Int32) from by decide]; exact h16)⟩
                                  · rw [if_pos h0, if_pos h1, if_pos h2, if_pos h3, if_pos h4, if_pos h5, if_pos h6, if_pos h7, if_pos h8, if_pos h9, if_pos h10, if_pos h11, if_pos h12, if_pos h13, if_pos h14, if_pos h15, if_neg h16]
                                    exact ⟨by decide, by decide, by decide, by decide, (fun h => absurd h (by rw [show ((1048576 : Int32) / (4 : Int32)) * (3 : Int32) = (786432 : Int32) from by decide]; exact h16)), (fun _ => by rw [show (((1048576 : Int32) / (2 : Int32)) / (4 : Int32)) * (3 : Int32) = (393216 : Int32) from by decide]; exact h15)⟩
                                · rw [if_pos h0, if_pos h1, if_pos h2, if_pos h3, if_pos h4, if_pos h5, if_pos h6, if_pos h7, if_pos h8, if_pos h9, if_pos h10, if_pos h11, if_pos h12, if_pos h13, if_pos h14, if_neg h15]
                                  exact ⟨by decide, by decide, by decide, by decide, (fun h => absurd h (by rw [show ((524288 : Int32) / (4 : Int32)) * (3 : Int32) = (393216 : Int32) from by decide]; exact h15)), (fun _ => by rw [show (((524288 : Int32) / (2 : Int32)) / (4 : Int32)) * (3 : Int32) = (196608 : Int32) from by decide]; exact h14)⟩
                              · rw [if_pos h0, if_pos h1, if_pos h2, if_pos h3, if_pos h4, if_pos h5, if_pos h6, if_pos h7, if_pos h8, if_pos h9, if_pos h10, if_pos h11, if_pos h12, if_pos h13, if_neg h14]
                                exact ⟨by decide, by decide, by decide, by decide, (fun h => absurd h (by rw [show ((262144 : Int32) / (4 : Int32)) * (3 : Int32) = (196608 : Int32) from by decide]; exact h14)), (fun _ => by rw [show (((262144 : Int32) / (2 : Int32)) / (4 : Int32)) * (3 : Int32) = (98304 : Int32) from by decide]; exact h13)⟩
                            · rw [if_pos h0, if_pos h1, if_pos h2, if_pos h3, if_pos h4, if_pos h5, if_pos h6, if_pos h7, if_pos h8, if_pos h9, if_pos h10, if_pos h11, if_pos h12, if_neg h13]
                              exact ⟨by decide, by decide, by decide, by decide, (fun h => absurd h (by rw [show ((131072 : Int32) / (4 : Int32)) * (3 : Int32) = (98304 : Int32) from by decide]; exact h13)), (fun _ => by rw [show (((131072 : Int32) / (2 : Int32)) / (4 : Int32)) * (3 : Int32) = (49152 : Int32) from by decide]; exact h12)⟩
                          · rw [if_pos h0, if_pos h1, if_pos h2, if_pos h3, if_pos h4, if_pos h5, if_pos h6, if_pos h7, if_pos h8, if_pos h9, if_pos h10, if_pos h11, if_neg h12]
                            exact ⟨by decide, by decide, by decide, by decide, (fun h => absurd h (by rw [show ((65536 : Int32) / (4 : Int32)) * (3 : Int32) = (49152 : Int32) from by decide]; exact h12)), (fun _ => by rw [show (((65536 : Int32) / (2 : Int32)) / (4 : Int32)) * (3 : Int32) = (24576 : Int32) from by decide]; exact h11)⟩
                        · rw [if_pos h0, if_pos h1, if_pos h2, if_pos h3, if_pos h4, if_pos h5, if_pos h6, if_pos h7, if_pos h8, if_pos h9, if_pos h10, if_neg h11]
                          exact ⟨by decide, by decide, by decide, by decide, (fun h => absurd h (by rw [show ((32768 : Int32) / (4 : Int32)) * (3 : Int32) = (24576 : Int32) from by decide]; exact h11)), (fun _ => by rw [show (((32768 : Int32) / (2 : Int32)) / (4 : Int32)) * (3 : Int32) = (12288 : Int32) from by decide]; exact h10)⟩
                      · rw [if_pos h0, if_pos h1, if_pos h2, if_pos h3, if_pos h4, if_pos h5, if_pos h6, if_pos h7, if_pos h8, if_pos h9, if_neg h10]
                        exact ⟨by decide, by decide, by decide, by decide, (fun h => absurd h (by rw [show ((16384 : Int32) / (4 : Int32)) * (3 : Int32) = (12288 : Int32) from by decide]; exact h10)), (fun _ => by rw [show (((16384 : Int32) / (2 : Int32)) / (4 : Int32)) * (3 : Int32) = (6144 : Int32) from by decide]; exact h9)⟩
                    · rw [if_pos h0, if_pos h1, if_pos h2, if_pos h3, if_pos h4, if_pos h5, if_pos h6, if_pos h7, if_pos h8, if_neg h9]
                      exact ⟨by decide, by decide, by decide, by decide, (fun h => absurd h (by rw [show ((8192 : Int32) / (4 : Int32)) * (3 : Int32) = (6144 : Int32) from by decide]; exact h9)), (fun _ => by rw [show (((8192 : Int32) / (2 : Int32)) / (4 : Int32)) * (3 : Int32) = (3072 : Int32) from by decide]; exact h8)⟩
                  · rw [if_pos h0, if_pos h1, if_pos h2, if_pos h3, if_pos h4, if_pos h5, if_pos h6, if_pos h7, if_neg h8]
                    exact ⟨by decide, by decide, by decide, by decide, (fun h => absurd h (by rw [show ((4096 : Int32) / (4 : Int32)) * (3 : Int32) = (3072 : Int32) from by decide]; exact h8)), (fun _ => by rw [show (((4096 : Int32) / (2 : Int32)) / (4 : Int32)) * (3 : Int32) = (1536 : Int32) from by decide]; exact h7)⟩
                · rw [if_pos h0, if_pos h1, if_pos h2, if_pos h3, if_pos h4, if_pos h5, if_pos h6, if_neg h7]
                  exact ⟨by decide, by decide, by decide, by decide, (fun h => absurd h (by rw [show ((2048 : Int32) / (4 : Int32)) * (3 : Int32) = (1536 : Int32) from by decide]; exact h7)), (fun _ => by rw [show (((2048 : Int32) / (2 : Int32)) / (4 : Int32)) * (3 : Int32) = (768 : Int32) from by decide]; exact h6)⟩
              · rw [if_pos h0, if_pos h1, if_pos h2, if_pos h3, if_pos h4, if_pos h5, if_neg h6]
                exact ⟨by decide, by decide, by decide, by decide, (fun h => absurd h (by rw [show ((1024 : Int32) / (4 : Int32)) * (3 : Int32) = (768 : Int32) from by decide]; exact h6)), (fun _ => by rw [show (((1024 : Int32) / (2 : Int32)) / (4 : Int32)) * (3 : Int32) = (384 : Int32) from by decide]; exact h5)⟩
            · rw [if_pos h0, if_pos h1, if_pos h2, if_pos h3, if_pos h4, if_neg h5]
              exact ⟨by decide, by decide, by decide, by decide, (fun h => absurd h (by rw [show ((512 : Int32) / (4 : Int32)) * (3 : Int32) = (384 : Int32) from by decide]; exact h5)), (fun _ => by rw [show (((512 : Int32) / (2 : Int32)) / (4 : Int32)) * (3 : Int32) = (192 : Int32) from by decide]; exact h4)⟩
          · rw [if_pos h0, if_pos h1, if_pos h2, if_pos h3, if_neg h4]
            exact ⟨by decide, by decide, by decide, by decide, (fun h => absurd h (by rw [show ((256 : Int32) / (4 : Int32)) * (3 : Int32) = (192 : Int32) from by decide]; exact h4)), (fun _ => by rw [show (((256 : Int32) / (2 : Int32)) / (4 : Int32)) * (3 : Int32) = (96 : Int32) from by decide]; exact h3)⟩
        · rw [if_pos h0, if_pos h1, if_pos h2, if_neg h3]
          exact ⟨by decide, by decide, by decide, by decide, (fun h => absurd h (by rw [show ((128 : Int32) / (4 : Int32)) * (3 : Int32) = (96 : Int32) from by decide]; exact h3)), (fun _ => by rw [show (((128 : Int32) / (2 : Int32)) / (4 : Int32)) * (3 : Int32) = (48 : Int32) from by decide]; exact h2)⟩
      · rw [if_pos h0, if_pos h1, if_neg h2]
        exact ⟨by decide, by decide, by decide, by decide, (fun h => absurd h (by rw [show ((64 : Int32) / (4 : Int32)) * (3 : Int32) = (48 : Int32) from by decide]; exact h2)), (fun _ => by rw [show (((64 : Int32) / (2 : Int32)) / (4 : Int32)) * (3 : Int32) = (24 : Int32) from by decide]; exact h1)⟩
    · rw [if_pos h0, if_neg h1]
      exact ⟨by decide, by decide, by decide, by decide, (fun h => absurd h (by rw [show ((32 : Int32) / (4 : Int32)) * (3 : Int32) = (24 : Int32) from by decide]; exact h1)), (fun _ => by rw [show (((32 : Int32) / (2 : Int32)) / (4 : Int32)) * (3 : Int32) = (12 : Int32) from by decide]; exact h0)⟩
  · rw [if_neg h0]
    exact ⟨by decide, by decide, by decide, by decide, (fun h => absurd h (by rw [show ((16 : Int32) / (4 : Int32)) * (3 : Int32) = (12 : Int32) from by decide]; exact h0)), (fun h => absurd rfl h)⟩
theorem d_prog_38_method_1_0 : decode prog_38_method_1_code 0 = .ok (.aload_n 0, 1) := by decide +kernel
theorem d_prog_38_method_1_1 : decode prog_38_method_1_code 1 = .ok (.invokespecial 1, 3) := by decide +kernel
theorem d_prog_38_method_1_4 : decode prog_38_method_1_code 4 = .ok (.aload_n 0, 1) := by decide +kernel
theorem d_prog_38_method_1_5 : decode prog_38_method_1_code 5 = .ok (.lload_n 1, 1) := by decide +kernel
theorem d_prog_38_method_1_6 : decode prog_38_method_1_code 6 = .ok (.putfield 7, 3) := by decide +kernel
theorem d_prog_38_method_1_9 : decode prog_38_method_1_code 9 = .ok (.aload_n 0, 1) := by decide +kernel
theorem d_prog_38_method_1_10 : decode prog_38_method_1_code 10 = .ok (.lload_n 3, 1) := by decide +kernel
theorem d_prog_38_method_1_11 : decode prog_38_method_1_code 11 = .ok (.putfield 13, 3) := by decide +kernel
theorem d_prog_38_method_1_14 : decode prog_38_method_1_code 14 = .ok (.return_, 1) := by decide +kernel
theorem pn_com_example_vesper_vesper_store_SipHash : plainName "com/example/vesper/vesper/store/SipHash" = true := by first | (simp [plainName, overriddenIn]; done) | decide +kernel
def Q_sip (Z : State) (aNONE aEXPIRING_KEYS aALL_KEYS : Addr) (a1 : Addr) (q2 : Int64) (q3 : Int64) (h0 : Heap) (n0 : Nat) (v : Option Value) (h : Heap) (L : List Loc) : Prop := v = none ∧ Fr n0 L ∧ Keep h0 h [a1]
theorem ef_sip (m : MethodId) (x0 : Addr) (x1 : Int64) (x2 : Int64) : entryFrame m #[(.ref x0), (.long x1), (.long x2)] 5 = mkF m 0 #[.val (.ref x0), .val (.long x1), .second, .val (.long x2), .second] [] := by first | (simp [entryFrame, mkF, argsToLocals, Value.category]; done) | rfl
set_option maxRecDepth 65536 in
set_option maxHeartbeats 40000000 in
theorem rm_sip (l : Launch) (Z : State) (a0 : Array Value) (hw : ∀ d ∈ tables_1, d.before a0 Z = true) (ws : List Jvm.Cond) (aNONE aEXPIRING_KEYS aALL_KEYS : Addr) (F0 : OwnFacts Z aNONE aEXPIRING_KEYS aALL_KEYS) (a1 : Addr) (q2 : Int64) (q3 : Int64) (h0 : Heap) (n0 : Nat) (O0 : Old Z n0 h0) (PF1 : Fld Z h0 a1 "com/example/vesper/vesper/store/SipHash" "k0" "J" (.long (0 : Int64))) (PF2 : Fld Z h0 a1 "com/example/vesper/vesper/store/SipHash" "k1" "J" (.long (0 : Int64))) (PE1 : Exa Z h0 a1 "com/example/vesper/vesper/store/SipHash") (pg1 : n0 ≤ a1) :
    MetFree l (⟨"com/example/vesper/vesper/store/SipHash", "<init>", "(JJ)V"⟩ : MethodName) (head1 (Jvm.Cond.code (⟨"com/example/vesper/vesper/store/SipHash", "<init>", "(JJ)V"⟩ : MethodName) prog_38_method_1_code 5 none :: ws) ({ frames := 1, cells := 0, slots := 0, locals := 12 } : Room)) (fun a U => a = #[(.ref a1), (.long q2), (.long q3)] ∧ Z.Warmed39 U.vm ∧ U.heap = h0) (fun _ _ _ _ _ => True) (fun _ U o U' => ∃ v L, o = .returned v ∧ Q_sip Z aNONE aEXPIRING_KEYS aALL_KEYS a1 q2 q3 h0 n0 v U'.heap L ∧ FrameEnd U o U' L ({ frames := 1, cells := 0, slots := 0, locals := 12 } : Room).cells ({ frames := 1, cells := 0, slots := 0, locals := 12 } : Room).slots) := by
  refine MetFree.of_bodySF (plainFor_of_name pn_com_example_vesper_vesper_store_SipHash) hisR ?_
  intro p e s m args below meth c s₁ Bd hml0 hP hK
  obtain ⟨rfl, hZ, hh⟩ := hP
  have hx := Bd.exec
  have hby := Bd.bytes
  have hml : c.maxLocals = 5 := hml0
  have hown : s.vm.findClass "com/example/vesper/vesper/store/SipHash" = some m.cls := findClass_of_methodNamed Bd.named
  have hnm := (name_of_methodNamed Bd.named Bd.method).1
  have X0 : Stand p l e ({ frames := 1, cells := 0, slots := 0, locals := 12 } : Room) s m #[(.ref a1), (.long q2), (.long q3)] below meth c s₁ [] 0 0 := Stand.of_body Bd
  have e0 : s₁.heap = h0 := by rw [← hh, Bd.state]; rfl
  have N0 := Fr.nil n0
  refine own_go (Q := fun o U' => ∃ v L, o = .returned v ∧ Q_sip Z aNONE aEXPIRING_KEYS aALL_KEYS a1 q2 q3 h0 n0 v U'.heap L ∧ FrameEnd s o U' L ({ frames := 1, cells := 0, slots := 0, locals := 12 } : Room).cells ({ frames := 1, cells := 0, slots := 0, locals := 12 } : Room).slots) (fun t k => castTop (ef_sip m a1 q2 q3) k) ?_
  show OwnGo p e below _ (s₁.setTop (mkF m 0 #[.val (.ref a1), .val (.long q2), .second, .val (.long q3), .second] []))
  refine own_go (fun _ k => XS.aloadN X0.here hx rfl (hb hby d_prog_38_method_1_0) rfl rfl k) ?_
  show OwnGo p e below _ (s₁.setTop (mkF m 1 #[.val (.ref a1), .val (.long q2), .second, .val (.long q3), .second] [(.ref a1)]))
  obtain ⟨T1, X1, e1, st1⟩ := initO X0 hx hZ hown (hw _ (List.mem_of_getElem? (i := 13) rfl)) (hw _ (List.mem_of_getElem? (i := 14) rfl)) (hw _ (List.mem_of_getElem? (i := 15) rfl)) e0 (g := (mkF m 1 #[.val (.ref a1), .val (.long q2), .second, .val (.long q3), .second] [(.ref a1)])) rfl (by rw [hml]; rfl) rfl (hb hby d_prog_38_method_1_1) (by decide) (W := 0) (by show 2 * 0 + _ ≤ _; exact Nat.le_of_eq rfl) (by decide)
  refine own_go st1 ?_
  show OwnGo p e below _ (T1.setTop (mkF m 4 #[.val (.ref a1), .val (.long q2), .second, .val (.long q3), .second] []))
  refine own_go (fun _ k => XS.aloadN X1.here hx rfl (hb hby d_prog_38_method_1_4) rfl rfl k) ?_
  show OwnGo p e below _ (T1.setTop (mkF m 5 #[.val (.ref a1), .val (.long q2), .second, .val (.long q3), .second] [(.ref a1)]))
  refine own_go (fun _ k => XS.lloadN X1.here hx rfl (hb hby d_prog_38_method_1_5) rfl k) ?_
  show OwnGo p e below _ (T1.setTop (mkF m 6 #[.val (.ref a1), .val (.long q2), .second, .val (.long q3), .second] [(.long q2), (.ref a1)]))
  obtain ⟨T2, h2, X2, e2, W2, st2⟩ := putF X1 hx hZ hown (host := "") (Or.inl (hw _ (List.mem_of_getElem? (i := 16) rfl))) Via.refl e1 PF1 PE1 (Or.inr ⟨(hw _ (List.mem_of_getElem? (i := 17) rfl)), rfl, hnm⟩) (hw _ (List.mem_of_getElem? (i := 8) rfl)) (ty := .long) (by decide) rfl rfl (g := (mkF m 6 #[.val (.ref a1), .val (.long q2), .second, .val (.long q3), .second] [(.long q2), (.ref a1)])) rfl rfl (hb hby d_prog_38_method_1_6)
  have N2 := Fr.snoc X2 N0 pg1
  have O2 := O0.wr W2 pg1
  have z3 : h0.size ≤ h2.size := Nat.le_trans (Nat.le_refl _) (Nat.le_of_eq W2.size.symm)
  have F2 : Fld Z h2 a1 "com/example/vesper/vesper/store/SipHash" "k0" "J" (.long q2) := PF1.same W2
  refine own_go st2 ?_
  show OwnGo p e below _ (T2.setTop (mkF m 9 #[.val (.ref a1), .val (.long q2), .second, .val (.long q3), .second] []))
  refine own_go (fun _ k => XS.aloadN X2.here hx rfl (hb hby d_prog_38_method_1_9) rfl rfl k) ?_
  show OwnGo p e below _ (T2.setTop (mkF m 10 #[.val (.ref a1), .val (.long q2), .second, .val (.long q3), .second] [(.ref a1)]))
  refine own_go (fun _ k => XS.lloadN X2.here hx rfl (hb hby d_prog_38_method_1_10) rfl k) ?_
  show OwnGo p e below _ (T2.setTop (mkF m 11 #[.val (.ref a1), .val (.long q2), .second, .val (.long q3), .second] [(.long q3), (.ref a1)]))
  have F4 := (PF2.other W2 (Or.inr (slot_ne (a0 := a0) (C := "com/example/vesper/vesper/store/SipHash") (Or.inr (hw _ (List.mem_of_getElem? (i := 19) rfl))) (Or.inr (hw _ (List.mem_of_getElem? (i := 17) rfl))) (by decide) (t := .long) (t' := .long) (by decide) (by decide))))
  have F5 := (PE1.wr W2)
  obtain ⟨T6, h6, X6, e6, W6, st6⟩ := putF X2 hx hZ hown (host := "") (Or.inl (hw _ (List.mem_of_getElem? (i := 18) rfl))) Via.refl e2 F4 F5 (Or.inr ⟨(hw _ (List.mem_of_getElem? (i := 19) rfl)), rfl, hnm⟩) (hw _ (List.mem_of_getElem? (i := 8) rfl)) (ty := .long) (by decide) rfl rfl (g := (mkF m 11 #[.val (.ref a1), .val (.long q2), .second, .val (.long q3), .second] [(.long q3), (.ref a1)])) rfl rfl (hb hby d_prog_38_method_1_11)
  have N6 := Fr.snoc X6 N2 pg1
  have O6 := O2.wr W6 pg1
  have z7 : h0.size ≤ h6.size := Nat.le_trans z3 (Nat.le_of_eq W6.size.symm)
  have F6 : Fld Z h6 a1 "com/example/vesper/vesper/store/SipHash" "k1" "J" (.long q3) := F4.same W6
  refine own_go st6 ?_
  show OwnGo p e below _ (T6.setTop (mkF m 14 #[.val (.ref a1), .val (.long q2), .second, .val (.long q3), .second] []))
  obtain ⟨fs, hr, hrun, hended, hW, hsame⟩ := X6.leave (v := none) (fun h => rfl)
  refine ⟨_, _, X6.returnOut hx Bd.returns (hb hby d_prog_38_method_1_14) hr, hrun, hended, _, _, rfl, ?_, ⟨_, rfl⟩, hW, hsame.mono (by decide) (by decide)⟩
  show Q_sip Z aNONE aEXPIRING_KEYS aALL_KEYS a1 q2 q3 h0 n0 _ T6.heap _
  rw [e6]
  exact ⟨rfl, N6, (((Keep.refl _ [a1]).wr W2 (Or.inl (List.mem_of_getElem? (i := 0) rfl))).wr W6 (Or.inl (List.mem_of_getElem? (i := 0) rfl)))⟩
theorem d_jdk_29_method_65_0 : decode jdk_29_method_65_code 0 = .ok (.iload_n 0, 1) := by decide +kernel
theorem d_jdk_29_method_65_1 : decode jdk_29_method_65_code 1 = .ok (.iload_n 1, 1) := by decide +kernel
theorem d_jdk_29_method_65_2 : decode jdk_29_method_65_code 2 = .ok (.if_icmp .lt 7, 3) := by decide +kernel
theorem d_jdk_29_method_65_5 : decode jdk_29_method_65_code 5 = .ok (.iload_n 0, 1) := by decide +kernel
theorem d_jdk_29_method_65_6 : decode jdk_29_method_65_code 6 = .ok (.goto 4, 3) := by decide +kernel
theorem d_jdk_29_method_65_10 : decode jdk_29_method_65_code 10 = .ok (.ireturn, 1) := by decide +kernel
def Q_max (Z : State) (aNONE aEXPIRING_KEYS aALL_KEYS : Addr) (h0 : Heap) (n0 : Nat) (v : Option Value) (h : Heap) (L : List Loc) : Prop := v = some (.int (1 : Int32)) ∧ Fr n0 L ∧ h = h0
theorem ef_max (m : MethodId) (x0 : Int32) (x1 : Int32) : entryFrame m #[(.int x0), (.int x1)] 2 = mkF m 0 #[.val (.int x0), .val (.int x1)] [] := by first | (simp [entryFrame, mkF, argsToLocals, Value.category]; done) | rfl
set_option maxRecDepth 65536 in
set_option maxHeartbeats 40000000 in
theorem rm_max (l : Launch) (Z : State) (a0 : Array Value) (hw : ∀ d ∈ tables_1, d.before a0 Z = true) (ws : List Jvm.Cond) (aNONE aEXPIRING_KEYS aALL_KEYS : Addr) (F0 : OwnFacts Z aNONE aEXPIRING_KEYS aALL_KEYS) (h0 : Heap) (n0 : Nat) (O0 : Old Z n0 h0) :
    MetFree l (⟨"java/lang/Math", "max", "(II)I"⟩ : MethodName) (head1 (Jvm.Cond.code (⟨"java/lang/Math", "max", "(II)I"⟩ : MethodName) jdk_29_method_65_code 2 (some .int) :: ws) ({ frames := 0, cells := 0, slots := 0, locals := 0 } : Room)) (fun a U => a = #[(.int (1 : Int32)), (.int (0 : Int32))] ∧ Z.Warmed39 U.vm ∧ U.heap = h0) (fun _ _ _ _ _ => True) (fun _ U o U' => ∃ v L, o = .returned v ∧ Q_max Z aNONE aEXPIRING_KEYS aALL_KEYS h0 n0 v U'.heap L ∧ FrameEnd U o U' L ({ frames := 0, cells := 0, slots := 0, locals := 0 } : Room).cells ({ frames := 0, cells := 0, slots := 0, locals := 0 } : Room).slots) := by
  refine MetFree.of_bodySF (by decide +kernel) hisR ?_
  intro p e s m args below meth c s₁ Bd hml0 hP hK
  obtain ⟨rfl, hZ, hh⟩ := hP
  have hx := Bd.exec
  have hby := Bd.bytes
  have hml : c.maxLocals = 2 := hml0
  have hown : s.vm.findClass "java/lang/Math" = some m.cls := findClass_of_methodNamed Bd.named
  have hnm := (name_of_methodNamed Bd.named Bd.method).1
  have X0 : Stand p l e ({ frames := 0, cells := 0, slots := 0, locals := 0 } : Room) s m #[(.int (1 : Int32)), (.int (0 : Int32))] below meth c s₁ [] 0 0 := Stand.of_body Bd
  have e0 : s₁.heap = h0 := by rw [← hh, Bd.state]; rfl
  have N0 := Fr.nil n0
  refine own_go (Q := fun o U' => ∃ v L, o = .returned v ∧ Q_max Z aNONE aEXPIRING_KEYS aALL_KEYS h0 n0 v U'.heap L ∧ FrameEnd s o U' L ({ frames := 0, cells := 0, slots := 0, locals := 0 } : Room).cells ({ frames := 0, cells := 0, slots := 0, locals := 0 } : Room).slots) (fun t k => castTop (ef_max m (1 : Int32) (0 : Int32)) k) ?_
  show OwnGo p e below _ (s₁.setTop (mkF m 0 #[.val (.int (1 : Int32)), .val (.int (0 : Int32))] []))
  refine own_go (fun _ k => XS.iloadN X0.here hx rfl (hb hby d_jdk_29_method_65_0) rfl k) ?_
  show OwnGo p e below _ (s₁.setTop (mkF m 1 #[.val (.int (1 : Int32)), .val (.int (0 : Int32))] [(.int (1 : Int32))]))
  refine own_go (fun _ k => XS.iloadN X0.here hx rfl (hb hby d_jdk_29_method_65_1) rfl k) ?_
  show OwnGo p e below _ (s₁.setTop (mkF m 2 #[.val (.int (1 : Int32)), .val (.int (0 : Int32))] [(.int (0 : Int32)), (.int (1 : Int32))]))
  refine own_go (fun _ k => XS.icmpNo X0.here hx rfl (hb hby d_jdk_29_method_65_2) rfl (by decide) k) ?_
  show OwnGo p e below _ (s₁.setTop (mkF m 5 #[.val (.int (1 : Int32)), .val (.int (0 : Int32))] []))
  refine own_go (fun _ k => XS.iloadN X0.here hx rfl (hb hby d_jdk_29_method_65_5) rfl k) ?_
  show OwnGo p e below _ (s₁.setTop (mkF m 6 #[.val (.int (1 : Int32)), .val (.int (0 : Int32))] [(.int (1 : Int32))]))
  refine own_go (fun _ k => XS.goto X0.here hx rfl (pc0 := 6) (pc' := 10) rfl (hb hby d_jdk_29_method_65_6) (by decide) (by decide) k) ?_
  show OwnGo p e below _ (s₁.setTop (mkF m 10 #[.val (.int (1 : Int32)), .val (.int (0 : Int32))] [(.int (1 : Int32))]))
  obtain ⟨fs, hr, hrun, hended, hW, hsame⟩ := X0.leave (v := some (.int (1 : Int32))) (fun h => by rw [Bd.returns] at h; cases h)
  refine ⟨_, _, retOut X0 hx Bd.returns rfl (Or.inl ⟨rfl, Or.inl rfl, _, rfl⟩) (hb hby d_jdk_29_method_65_10) hr, hrun, hended, _, _, rfl, ?_, ⟨_, rfl⟩, hW, hsame.mono (by decide) (by decide)⟩
  show Q_max Z aNONE aEXPIRING_KEYS aALL_KEYS h0 n0 _ s₁.heap _
  rw [e0]
  exact ⟨rfl, N0, rfl⟩
theorem d_prog_42_method_10_0 : decode prog_42_method_10_code 0 = .ok (.aload_n 0, 1) := by decide +kernel
theorem d_prog_42_method_10_1 : decode prog_42_method_10_code 1 = .ok (.getstatic 60, 3) := by decide +kernel
theorem d_prog_42_method_10_4 : decode prog_42_method_10_code 4 = .ok (.if_acmp .ne 7, 3) := by decide +kernel
theorem d_prog_42_method_10_7 : decode prog_42_method_10_code 7 = .ok (.iconst 0, 1) := by decide +kernel
theorem d_prog_42_method_10_8 : decode prog_42_method_10_code 8 = .ok (.goto 13, 3) := by decide +kernel
theorem d_prog_42_method_10_21 : decode prog_42_method_10_code 21 = .ok (.ireturn, 1) := by decide +kernel
theorem pn_com_example_vesper_vesper_store_Table : plainName "com/example/vesper/vesper/store/Table" = true := by first | (simp [plainName, overriddenIn]; done) | decide +kernel
def Q_tl0 (Z : State) (aNONE aEXPIRING_KEYS aALL_KEYS : Addr) (h0 : Heap) (n0 : Nat) (v : Option Value) (h : Heap) (L : List Loc) : Prop := v = some (.int (0 : Int32)) ∧ Fr n0 L ∧ h = h0
theorem ef_tl0 (m : MethodId) (x0 : Addr) (x1 : Int32) : entryFrame m #[(.ref x0), (.int x1)] 2 = mkF m 0 #[.val (.ref x0), .val (.int x1)] [] := by first | (simp [entryFrame, mkF, argsToLocals, Value.category]; done) | rfl
set_option maxRecDepth 65536 in
set_option maxHeartbeats 40000000 in
theorem rm_tl0 (l : Launch) (Z : State) (a0 : Array Value) (hw : ∀ d ∈ tables_1, d.before a0 Z = true) (ws : List Jvm.Cond) (aNONE aEXPIRING_KEYS aALL_KEYS : Addr) (F0 : OwnFacts Z aNONE aEXPIRING_KEYS aALL_KEYS) (h0 : Heap) (n0 : Nat) (O0 : Old Z n0 h0) :
    MetFree l (⟨"com/example/vesper/vesper/store/Table", "treeLength", "(Lcom/example/vesper/vesper/store/Evictor$Scope;I)I"⟩ : MethodName) (head1 (Jvm.Cond.code (⟨"com/example/vesper/vesper/store/Table", "treeLength", "(Lcom/example/vesper/vesper/store/Evictor$Scope;I)I"⟩ : MethodName) prog_42_method_10_code 2 (some .int) :: ws) ({ frames := 0, cells := 0, slots := 0, locals := 0 } : Room)) (fun a U => a = #[(.ref aNONE), (.int (16 : Int32))] ∧ Z.Warmed39 U.vm ∧ U.heap = h0) (fun _ _ _ _ _ => True) (fun _ U o U' => ∃ v L, o = .returned v ∧ Q_tl0 Z aNONE aEXPIRING_KEYS aALL_KEYS h0 n0 v U'.heap L ∧ FrameEnd U o U' L ({ frames := 0, cells := 0, slots := 0, locals := 0 } : Room).cells ({ frames := 0, cells := 0, slots := 0, locals := 0 } : Room).slots) := by
  refine MetFree.of_bodySF (plainFor_of_name pn_com_example_vesper_vesper_store_Table) hisR ?_
  intro p e s m args below meth c s₁ Bd hml0 hP hK
  obtain ⟨rfl, hZ, hh⟩ := hP
  have hx := Bd.exec
  have hby := Bd.bytes
  have hml : c.maxLocals = 2 := hml0
  have hown : s.vm.findClass "com/example/vesper/vesper/store/Table" = some m.cls := findClass_of_methodNamed Bd.named
  have hnm := (name_of_methodNamed Bd.named Bd.method).1
  have X0 : Stand p l e ({ frames := 0, cells := 0, slots := 0, locals := 0 } : Room) s m #[(.ref aNONE), (.int (16 : Int32))] below meth c s₁ [] 0 0 := Stand.of_body Bd
  have e0 : s₁.heap = h0 := by rw [← hh, Bd.state]; rfl
  have N0 := Fr.nil n0
  refine own_go (Q := fun o U' => ∃ v L, o = .returned v ∧ Q_tl0 Z aNONE aEXPIRING_KEYS aALL_KEYS h0 n0 v U'.heap L ∧ FrameEnd s o U' L ({ frames := 0, cells := 0, slots := 0, locals := 0 } : Room).cells ({ frames := 0, cells := 0, slots := 0, locals := 0 } : Room).slots) (fun t k => castTop (ef_tl0 m aNONE (16 : Int32)) k) ?_
  show OwnGo p e below _ (s₁.setTop (mkF m 0 #[.val (.ref aNONE), .val (.int (16 : Int32))] []))
  refine own_go (fun _ k => XS.aloadN X0.here hx rfl (hb hby d_prog_42_method_10_0) rfl rfl k) ?_
  show OwnGo p e below _ (s₁.setTop (mkF m 1 #[.val (.ref aNONE), .val (.int (16 : Int32))] [(.ref aNONE)]))
  obtain ⟨T8, X8, e8, st8⟩ := getS X0 hx hZ hown (host := "") (hw _ (List.mem_of_getElem? (i := 39) rfl)) Via.refl e0 (F0.1.ext O0.2) (g := (mkF m 1 #[.val (.ref aNONE), .val (.int (16 : Int32))] [(.ref aNONE)])) rfl (hb hby d_prog_42_method_10_1)
  refine own_go st8 ?_
  show OwnGo p e below _ (T8.setTop (mkF m 4 #[.val (.ref aNONE), .val (.int (16 : Int32))] [(.ref aNONE), (.ref aNONE)]))
  refine own_go (fun _ k => acmp X8 hx rfl (cd := .ne) (o := 7) (x := (.ref aNONE)) (y := (.ref aNONE)) (pc0 := 4) (pc' := 7) rfl rfl rfl (hb hby d_prog_42_method_10_4) rfl (own_refeq _) (by decide) (by decide) k) ?_
  show OwnGo p e below _ (T8.setTop (mkF m 7 #[.val (.ref aNONE), .val (.int (16 : Int32))] []))
  refine own_go (fun _ k => XS.iconst X8.here hx rfl (hb hby d_prog_42_method_10_7) k) ?_
  show OwnGo p e below _ (T8.setTop (mkF m 8 #[.val (.ref aNONE), .val (.int (16 : Int32))] [(.int (0 : Int32))]))
  refine own_go (fun _ k => XS.goto X8.here hx rfl (pc0 := 8) (pc' := 21) rfl (hb hby d_prog_42_method_10_8) (by decide) (by decide) k) ?_
  show OwnGo p e below _ (T8.setTop (mkF m 21 #[.val (.ref aNONE), .val (.int (16 : Int32))] [(.int (0 : Int32))]))
  obtain ⟨fs, hr, hrun, hended, hW, hsame⟩ := X8.leave (v := some (.int (0 : Int32))) (fun h => by rw [Bd.returns] at h; cases h)
  refine ⟨_, _, retOut X8 hx Bd.returns rfl (Or.inl ⟨rfl, Or.inl rfl, _, rfl⟩) (hb hby d_prog_42_method_10_21) hr, hrun, hended, _, _, rfl, ?_, ⟨_, rfl⟩, hW, hsame.mono (by decide) (by decide)⟩
  show Q_tl0 Z aNONE aEXPIRING_KEYS aALL_KEYS h0 n0 _ T8.heap _
  rw [e8]
  exact ⟨rfl, N0, rfl⟩
theorem d_prog_42_method_10_11 : decode prog_42_method_10_code 11 = .ok (.iconst 1, 1) := by decide +kernel
theorem d_prog_42_method_10_12 : decode prog_42_method_10_code 12 = .ok (.iload_n 1, 1) := by decide +kernel
theorem d_prog_42_method_10_13 : decode prog_42_method_10_code 13 = .ok (.bipush 64, 2) := by decide +kernel
theorem d_prog_42_method_10_15 : decode prog_42_method_10_code 15 = .ok (.idiv, 1) := by decide +kernel
theorem d_prog_42_method_10_16 : decode prog_42_method_10_code 16 = .ok (.invokestatic 65, 3) := by decide +kernel
theorem pd_I_I__I : parseMethodDescriptor "(II)I" = some ⟨[.int, .int], some .int⟩ := by decide +kernel
theorem d_prog_42_method_10_19 : decode prog_42_method_10_code 19 = .ok (.iconst 1, 1) := by decide +kernel
theorem d_prog_42_method_10_20 : decode prog_42_method_10_code 20 = .ok (.iadd, 1) := by decide +kernel
def Q_tl1 (Z : State) (aNONE aEXPIRING_KEYS aALL_KEYS : Addr) (h0 : Heap) (n0 : Nat) (v : Option Value) (h : Heap) (L : List Loc) : Prop := v = some (.int (2 : Int32)) ∧ Fr n0 L ∧ h = h0
theorem ef_tl1 (m : MethodId) (x0 : Addr) (x1 : Int32) : entryFrame m #[(.ref x0), (.int x1)] 2 = mkF m 0 #[.val (.ref x0), .val (.int x1)] [] := by first | (simp [entryFrame, mkF, argsToLocals, Value.category]; done) | rfl
set_option maxRecDepth 65536 in
set_option maxHeartbeats 40000000 in
theorem rm_tl1 (l : Launch) (Z : State) (a0 : Array Value) (hw : ∀ d ∈ tables_1, d.before a0 Z = true) (ws : List Jvm.Cond) (aNONE aEXPIRING_KEYS aALL_KEYS : Addr) (F0 : OwnFacts Z aNONE aEXPIRING_KEYS aALL_KEYS) (h0 : Heap) (n0 : Nat) (O0 : Old Z n0 h0) :
    MetFree l (⟨"com/example/vesper/vesper/store/Table", "treeLength", "(Lcom/example/vesper/vesper/store/Evictor$Scope;I)I"⟩ : MethodName) (head1 (Jvm.Cond.code (⟨"com/example/vesper/vesper/store/Table", "treeLength", "(Lcom/example/vesper/vesper/store/Evictor$Scope;I)I"⟩ : MethodName) prog_42_method_10_code 2 (some .int) :: ws) ({ frames := 1, cells := 0, slots := 0, locals := 13 } : Room)) (fun a U => a = #[(.ref aALL_KEYS), (.int (16 : Int32))] ∧ Z.Warmed39 U.vm ∧ U.heap = h0) (fun _ _ _ _ _ => True) (fun _ U o U' => ∃ v L, o = .returned v ∧ Q_tl1 Z aNONE aEXPIRING_KEYS aALL_KEYS h0 n0 v U'.heap L ∧ FrameEnd U o U' L ({ frames := 1, cells := 0, slots := 0, locals := 13 } : Room).cells ({ frames := 1, cells := 0, slots := 0, locals := 13 } : Room).slots) := by
  refine MetFree.of_bodySF (plainFor_of_name pn_com_example_vesper_vesper_store_Table) hisR ?_
  intro p e s m args below meth c s₁ Bd hml0 hP hK
  obtain ⟨rfl, hZ, hh⟩ := hP
  have hx := Bd.exec
  have hby := Bd.bytes
  have hml : c.maxLocals = 2 := hml0
  have hown : s.vm.findClass "com/example/vesper/vesper/store/Table" = some m.cls := findClass_of_methodNamed Bd.named
  have hnm := (name_of_methodNamed Bd.named Bd.method).1
  have X0 : Stand p l e ({ frames := 1, cells := 0, slots := 0, locals := 13 } : Room) s m #[(.ref aALL_KEYS), (.int (16 : Int32))] below meth c s₁ [] 0 0 := Stand.of_body Bd
  have e0 : s₁.heap = h0 := by rw [← hh, Bd.state]; rfl
  have N0 := Fr.nil n0
  refine own_go (Q := fun o U' => ∃ v L, o = .returned v ∧ Q_tl1 Z aNONE aEXPIRING_KEYS aALL_KEYS h0 n0 v U'.heap L ∧ FrameEnd s o U' L ({ frames := 1, cells := 0, slots := 0, locals := 13 } : Room).cells ({ frames := 1, cells := 0, slots := 0, locals := 13 } : Room).slots) (fun t k => castTop (ef_tl1 m aALL_KEYS (16 : Int32)) k) ?_
  show OwnGo p e below _ (s₁.setTop (mkF m 0 #[.val (.ref aALL_KEYS), .val (.int (16 : Int32))] []))
  refine own_go (fun _ k => XS.aloadN X0.here hx rfl (hb hby d_prog_42_method_10_0) rfl rfl k) ?_
  show OwnGo p e below _ (s₁.setTop (mkF m 1 #[.val (.ref aALL_KEYS), .val (.int (16 : Int32))] [(.ref aALL_KEYS)]))
  obtain ⟨T9, X9, e9, st9⟩ := getS X0 hx hZ hown (host := "") (hw _ (List.mem_of_getElem? (i := 39) rfl)) Via.refl e0 (F0.1.ext O0.2) (g := (mkF m 1 #[.val (.ref aALL_KEYS), .val (.int (16 : Int32))] [(.ref aALL_KEYS)])) rfl (hb hby d_prog_42_method_10_1)
  refine own_go st9 ?_
  show OwnGo p e below _ (T9.setTop (mkF m 4 #[.val (.ref aALL_KEYS), .val (.int (16 : Int32))] [(.ref aNONE), (.ref aALL_KEYS)]))
  refine own_go (fun _ k => acmp X9 hx rfl (cd := .ne) (o := 7) (x := (.ref aALL_KEYS)) (y := (.ref aNONE)) (pc0 := 4) (pc' := 11) rfl rfl rfl (hb hby d_prog_42_method_10_4) rfl (own_refne (Fld.ne F0.2.2.2.2.2.2.2.2 F0.2.2.2.2.2.1 (by simp))) (by decide) (by decide) k) ?_
  show OwnGo p e below _ (T9.setTop (mkF m 11 #[.val (.ref aALL_KEYS), .val (.int (16 : Int32))] []))
  refine own_go (fun _ k => XS.iconst X9.here hx rfl (hb hby d_prog_42_method_10_11) k) ?_
  show OwnGo p e below _ (T9.setTop (mkF m 12 #[.val (.ref aALL_KEYS), .val (.int (16 : Int32))] [(.int (1 : Int32))]))
  refine own_go (fun _ k => XS.iloadN X9.here hx rfl (hb hby d_prog_42_method_10_12) rfl k) ?_
  show OwnGo p e below _ (T9.setTop (mkF m 13 #[.val (.ref aALL_KEYS), .val (.int (16 : Int32))] [(.int (16 : Int32)), (.int (1 : Int32))]))
  refine own_go (fun _ k => XS.bipush X9.here hx rfl (hb hby d_prog_42_method_10_13) k) ?_
  show OwnGo p e below _ (T9.setTop (mkF m 15 #[.val (.ref aALL_KEYS), .val (.int (16 : Int32))] [(.int (64 : Int32)), (.int (16 : Int32)), (.int (1 : Int32))]))
  refine own_go (fun _ k => XS.idiv X9.here hx rfl (hb hby d_prog_42_method_10_15) rfl (by decide) k) ?_
  show OwnGo p e below _ (T9.setTop (mkF m 16 #[.val (.ref aALL_KEYS), .val (.int (16 : Int32))] [(.int ((16 : Int32) / (64 : Int32))), (.int (1 : Int32))]))
  rw [show ((16 : Int32) / (64 : Int32)) = (0 : Int32) from by decide]
  show OwnGo p e below _ (T9.setTop (mkF m 16 #[.val (.ref aALL_KEYS), .val (.int (16 : Int32))] [(.int (0 : Int32)), (.int (1 : Int32))]))
  obtain ⟨_, _, ⟨T10, L10, k10, n10⟩, -, X10, ⟨Lc10, hQ10, l10, y10, z10⟩, st10⟩ := Jvm.LawKit.callS X9 hx (y := (⟨"java/lang/Math", "max", "(II)I"⟩ : MethodName)) hown (mvT hZ (hw _ (List.mem_of_getElem? (i := 62) rfl))) (mvT hZ (hw _ (List.mem_of_getElem? (i := 63) rfl))) (mvT hZ (hw _ (List.mem_of_getElem? (i := 64) rfl))) (mvT hZ (hw _ (List.mem_of_getElem? (i := 65) rfl))) (by decide) (backOf (W := 0) (rm_max l Z a0 hw [] aNONE aEXPIRING_KEYS aALL_KEYS F0 h0 n0 O0) hZ (hw _ (List.mem_of_getElem? (i := 65) rfl)) (hw _ (List.mem_of_getElem? (i := 64) rfl)) (by decide) (by decide)) (g := (mkF m 16 #[.val (.ref aALL_KEYS), .val (.int (16 : Int32))] [(.int (0 : Int32)), (.int (1 : Int32))])) rfl (by rw [hml]; rfl) (argsL := [(.int (1 : Int32)), (.int (0 : Int32))]) (rest := []) (lenOf pd_I_I__I rfl) rfl (by show 2 * 0 + _ ≤ _; exact Nat.le_of_eq rfl) (hb hby d_prog_42_method_10_16) (fun _ _ => ⟨rfl, e9, (by decide : 0 + 0 ≤ _), (by decide : 0 + 0 ≤ _)⟩)
  dsimp only [Pt.U, Pt.locs, Pt.cells, Pt.slots] at X10 l10 y10 z10 st10 hQ10
  subst l10 y10 z10
  obtain ⟨rfl, Nq10, K10⟩ := hQ10
  have N10 := Fr.app N0 Nq10
  refine own_go st10 ?_
  show OwnGo p e below _ (T10.setTop (mkF m 19 #[.val (.ref aALL_KEYS), .val (.int (16 : Int32))] [(.int (1 : Int32))]))
  refine own_go (fun _ k => XS.iconst X10.here hx rfl (hb hby d_prog_42_method_10_19) k) ?_
  show OwnGo p e below _ (T10.setTop (mkF m 20 #[.val (.ref aALL_KEYS), .val (.int (16 : Int32))] [(.int (1 : Int32)), (.int (1 : Int32))]))
  refine own_go (fun _ k => XS.iadd X10.here hx rfl (hb hby d_prog_42_method_10_20) rfl k) ?_
  show OwnGo p e below _ (T10.setTop (mkF m 21 #[.val (.ref aALL_KEYS), .val (.int (16 : Int32))] [(.int ((1 : Int32) + (1 : Int32)))]))
  rw [show ((1 : Int32) + (1 : Int32)) = (2 : Int32) from by decide]
  show OwnGo p e below _ (T10.setTop (mkF m 21 #[.val (.ref aALL_KEYS), .val (.int (16 : Int32))] [(.int (2 : Int32))]))
  obtain ⟨fs, hr, hrun, hended, hW, hsame⟩ := X10.leave (v := some (.int (2 : Int32))) (fun h => by rw [Bd.returns] at h; cases h)
  refine ⟨_, _, retOut X10 hx Bd.returns rfl (Or.inl ⟨rfl, Or.inl rfl, _, rfl⟩) (hb hby d_prog_42_method_10_21) hr, hrun, hended, _, _, rfl, ?_, ⟨_, rfl⟩, hW, hsame.mono (by decide) (by decide)⟩
  show Q_tl1 Z aNONE aEXPIRING_KEYS aALL_KEYS h0 n0 _ T10.heap _
  rw [K10]
  exact ⟨rfl, N10, rfl⟩
def Q_tl2 (Z : State) (aNONE aEXPIRING_KEYS aALL_KEYS : Addr) (h0 : Heap) (n0 : Nat) (v : Option Value) (h : Heap) (L : List Loc) : Prop := v = some (.int (2 : Int32)) ∧ Fr n0 L ∧ h = h0
theorem ef_tl2 (m : MethodId) (x0 : Addr) (x1 : Int32) : entryFrame m #[(.ref x0), (.int x1)] 2 = mkF m 0 #[.val (.ref x0), .val (.int x1)] [] := by first | (simp [entryFrame, mkF, argsToLocals, Value.category]; done) | rfl
set_option maxRecDepth 65536 in
set_option maxHeartbeats 40000000 in
theorem rm_tl2 (l : Launch) (Z : State) (a0 : Array Value) (hw : ∀ d ∈ tables_1, d.before a0 Z = true) (ws : List Jvm.Cond) (aNONE aEXPIRING_KEYS aALL_KEYS : Addr) (F0 : OwnFacts Z aNONE aEXPIRING_KEYS aALL_KEYS) (h0 : Heap) (n0 : Nat) (O0 : Old Z n0 h0) :
    MetFree l (⟨"com/example/vesper/vesper/store/Table", "treeLength", "(Lcom/example/vesper/vesper/store/Evictor$Scope;I)I"⟩ : MethodName) (head1 (Jvm.Cond.code (⟨"com/example/vesper/vesper/store/Table", "treeLength", "(Lcom/example/vesper/vesper/store/Evictor$Scope;I)I"⟩ : MethodName) prog_42_method_10_code 2 (some .int) :: ws) ({ frames := 1, cells := 0, slots := 0, locals := 13 } : Room)) (fun a U => a = #[(.ref aEXPIRING_KEYS), (.int (16 : Int32))] ∧ Z.Warmed39 U.vm ∧ U.heap = h0) (fun _ _ _ _ _ => True) (fun _ U o U' => ∃ v L, o = .returned v ∧ Q_tl2 Z aNONE aEXPIRING_KEYS aALL_KEYS h0 n0 v U'.heap L ∧ FrameEnd U o U' L ({ frames := 1, cells := 0, slots := 0, locals := 13 } : Room).cells ({ frames := 1, cells := 0, slots := 0, locals := 13 } : Room).slots) := by
  refine MetFree.of_bodySF (plainFor_of_name pn_com_example_vesper_vesper_store_Table) hisR ?_
  intro p e s m args below meth c s₁ Bd hml0 hP hK
  obtain ⟨rfl, hZ, hh⟩ := hP
  have hx := Bd.exec
  have hby := Bd.bytes
  have hml : c.maxLocals = 2 := hml0
  have hown : s.vm.findClass "com/example/vesper/vesper/store/Table" = some m.cls := findClass_of_methodNamed Bd.named
  have hnm := (name_of_methodNamed Bd.named Bd.method).1
  have X0 : Stand p l e ({ frames := 1, cells := 0, slots := 0, locals := 13 } : Room) s m #[(.ref aEXPIRING_KEYS), (.int (16 : Int32))] below meth c s₁ [] 0 0 := Stand.of_body Bd
  have e0 : s₁.heap = h0 := by rw [← hh, Bd.state]; rfl
  have N0 := Fr.nil n0
  refine own_go (Q := fun o U' => ∃ v L, o = .returned v ∧ Q_tl2 Z aNONE aEXPIRING_KEYS aALL_KEYS h0 n0 v U'.heap L ∧ FrameEnd s o U' L ({ frames := 1, cells := 0, slots := 0, locals := 13 } : Room).cells ({ frames := 1, cells := 0, slots := 0, locals := 13 } : Room).slots) (fun t k => castTop (ef_tl2 m aEXPIRING_KEYS (16 : Int32)) k) ?_
  show OwnGo p e below _ (s₁.setTop (mkF m 0 #[.val (.ref aEXPIRING_KEYS), .val (.int (16 : Int32))] []))
  refine own_go (fun _ k => XS.aloadN X0.here hx rfl (hb hby d_prog_42_method_10_0) rfl rfl k) ?_
  show OwnGo p e below _ (s₁.setTop (mkF m 1 #[.val (.ref aEXPIRING_KEYS), .val (.int (16 : Int32))] [(.ref aEXPIRING_KEYS)]))
  obtain ⟨T11, X11, e11, st11⟩ := getS X0 hx hZ hown (host := "") (hw _ (List.mem_of_getElem? (i := 39) rfl)) Via.refl e0 (F0.1.ext O0.2) (g := (mkF m 1 #[.val (.ref aEXPIRING_KEYS), .val (.int (16 : Int32))] [(.ref aEXPIRING_KEYS)])) rfl (hb hby d_prog_42_method_10_1)
  refine own_go st11 ?_
  show OwnGo p e below _ (T11.setTop (mkF m 4 #[.val (.ref aEXPIRING_KEYS), .val (.int (16 : Int32))] [(.ref aNONE), (.ref aEXPIRING_KEYS)]))
  refine own_go (fun _ k => acmp X11 hx rfl (cd := .ne) (o := 7) (x := (.ref aEXPIRING_KEYS)) (y := (.ref aNONE)) (pc0 := 4) (pc' := 11) rfl rfl rfl (hb hby d_prog_42_method_10_4) rfl (own_refne (Fld.ne F0.2.2.2.2.1 F0.2.2.2.2.2.1 (by simp))) (by decide) (by decide) k) ?_
  show OwnGo p e below _ (T11.setTop (mkF m 11 #[.val (.ref aEXPIRING_KEYS), .val (.int (16 : Int32))] []))
  refine own_go (fun _ k => XS.iconst X11.here hx rfl (hb hby d_prog_42_method_10_11) k) ?_
  show OwnGo p e below _ (T11.setTop (mkF m 12 #[.val (.ref aEXPIRING_KEYS), .val (.int (16 : Int32))] [(.int (1 : Int32))]))
  refine own_go (fun _ k => XS.iloadN X11.here hx rfl (hb hby d_prog_42_method_10_12) rfl k) ?_
  show OwnGo p e below _ (T11.setTop (mkF m 13 #[.val (.ref aEXPIRING_KEYS), .val (.int (16 : Int32))] [(.int (16 : Int32)), (.int (1 : Int32))]))
  refine own_go (fun _ k => XS.bipush X11.here hx rfl (hb hby d_prog_42_method_10_13) k) ?_
  show OwnGo p e below _ (T11.setTop (mkF m 15 #[.val (.ref aEXPIRING_KEYS), .val (.int (16 : Int32))] [(.int (64 : Int32)), (.int (16 : Int32)), (.int (1 : Int32))]))
  refine own_go (fun _ k => XS.idiv X11.here hx rfl (hb hby d_prog_42_method_10_15) rfl (by decide) k) ?_
  show OwnGo p e below _ (T11.setTop (mkF m 16 #[.val (.ref aEXPIRING_KEYS), .val (.int (16 : Int32))] [(.int ((16 : Int32) / (64 : Int32))), (.int (1 : Int32))]))
  rw [show ((16 : Int32) / (64 : Int32)) = (0 : Int32) from by decide]
  show OwnGo p e below _ (T11.setTop (mkF m 16 #[.val (.ref aEXPIRING_KEYS), .val (.int (16 : Int32))] [(.int (0 : Int32)), (.int (1 : Int32))]))
  obtain ⟨_, _, ⟨T12, L12, k12, n12⟩, -, X12, ⟨Lc12, hQ12, l12, y12, z12⟩, st12⟩ := Jvm.LawKit.callS X11 hx (y := (⟨"java/lang/Math", "max", "(II)I"⟩ : MethodName)) hown (mvT hZ (hw _ (List.mem_of_getElem? (i := 62) rfl))) (mvT hZ (hw _ (List.mem_of_getElem? (i := 63) rfl))) (mvT hZ (hw _ (List.mem_of_getElem? (i := 64) rfl))) (mvT hZ (hw _ (List.mem_of_getElem? (i := 65) rfl))) (by decide) (backOf (W := 0) (rm_max l Z a0 hw [] aNONE aEXPIRING_KEYS aALL_KEYS F0 h0 n0 O0) hZ (hw _ (List.mem_of_getElem? (i := 65) rfl)) (hw _ (List.mem_of_getElem? (i := 64) rfl)) (by decide) (by decide)) (g := (mkF m 16 #[.val (.ref aEXPIRING_KEYS), .val (.int (16 : Int32))] [(.int (0 : Int32)), (.int (1 : Int32))])) rfl (by rw [hml]; rfl) (argsL := [(.int (1 : Int32)), (.int (0 : Int32))]) (rest := []) (lenOf pd_I_I__I rfl) rfl (by show 2 * 0 + _ ≤ _; exact Nat.le_of_eq rfl) (hb hby d_prog_42_method_10_16) (fun _ _ => ⟨rfl, e11, (by decide : 0 + 0 ≤ _), (by decide : 0 + 0 ≤ _)⟩)
  dsimp only [Pt.U, Pt.locs, Pt.cells, Pt.slots] at X12 l12 y12 z12 st12 hQ12
  subst l12 y12 z12
  obtain ⟨rfl, Nq12, K12⟩ := hQ12
  have N12 := Fr.app N0 Nq12
  refine own_go st12 ?_
  show OwnGo p e below _ (T12.setTop (mkF m 19 #[.val (.ref aEXPIRING_KEYS), .val (.int (16 : Int32))] [(.int (1 : Int32))]))
  refine own_go (fun _ k => XS.iconst X12.here hx rfl (hb hby d_prog_42_method_10_19) k) ?_
  show OwnGo p e below _ (T12.setTop (mkF m 20 #[.val (.ref aEXPIRING_KEYS), .val (.int (16 : Int32))] [(.int (1 : Int32)), (.int (1 : Int32))]))
  refine own_go (fun _ k => XS.iadd X12.here hx rfl (hb hby d_prog_42_method_10_20) rfl k) ?_
  show OwnGo p e below _ (T12.setTop (mkF m 21 #[.val (.ref aEXPIRING_KEYS), .val (.int (16 : Int32))] [(.int ((1 : Int32) + (1 : Int32)))]))
  rw [show ((1 : Int32) + (1 : Int32)) = (2 : Int32) from by decide]
  show OwnGo p e below _ (T12.setTop (mkF m 21 #[.val (.ref aEXPIRING_KEYS), .val (.int (16 : Int32))] [(.int (2 : Int32))]))
  obtain ⟨fs, hr, hrun, hended, hW, hsame⟩ := X12.leave (v := some (.int (2 : Int32))) (fun h => by rw [Bd.returns] at h; cases h)
  refine ⟨_, _, retOut X12 hx Bd.returns rfl (Or.inl ⟨rfl, Or.inl rfl, _, rfl⟩) (hb hby d_prog_42_method_10_21) hr, hrun, hended, _, _, rfl, ?_, ⟨_, rfl⟩, hW, hsame.mono (by decide) (by decide)⟩
  show Q_tl2 Z aNONE aEXPIRING_KEYS aALL_KEYS h0 n0 _ T12.heap _
  rw [K12]
  exact ⟨rfl, N12, rfl⟩
theorem d_prog_42_method_21_0 : decode prog_42_method_21_code 0 = .ok (.aload_n 0, 1) := by decide +kernel
theorem d_prog_42_method_21_1 : decode prog_42_method_21_code 1 = .ok (.getfield 19, 3) := by decide +kernel
theorem d_prog_42_method_21_4 : decode prog_42_method_21_code 4 = .ok (.iload_n 1, 1) := by decide +kernel
theorem d_prog_42_method_21_5 : decode prog_42_method_21_code 5 = .ok (.invokestatic 123, 3) := by decide +kernel
theorem pd_Lcom_example_vesper_vesper_store_Evictor_Scope__I__I : parseMethodDescriptor "(Lcom/example/vesper/vesper/store/Evictor$Scope;I)I" = some ⟨[(.object "com/example/vesper/vesper/store/Evictor$Scope"), .int], some .int⟩ := by decide +kernel
theorem d_prog_42_method_21_8 : decode prog_42_method_21_code 8 = .ok (.istore_n 2, 1) := by decide +kernel
theorem d_prog_42_method_21_9 : decode prog_42_method_21_code 9 = .ok (.iload_n 2, 1) := by decide +kernel
theorem d_prog_42_method_21_10 : decode prog_42_method_21_code 10 = .ok (.ifCond .ne 7, 3) := by decide +kernel
theorem d_prog_42_method_21_13 : decode prog_42_method_21_code 13 = .ok (.aconst_null, 1) := by decide +kernel
theorem d_prog_42_method_21_14 : decode prog_42_method_21_code 14 = .ok (.goto 6, 3) := by decide +kernel
theorem d_prog_42_method_21_20 : decode prog_42_method_21_code 20 = .ok (.areturn, 1) := by decide +kernel
def Q_nt0 (Z : State) (aNONE aEXPIRING_KEYS aALL_KEYS : Addr) (a1 : Addr) (h0 : Heap) (n0 : Nat) (v : Option Value) (h : Heap) (L : List Loc) : Prop := v = some .null ∧ Fr n0 L ∧ h = h0
theorem ef_nt0 (m : MethodId) (x0 : Addr) (x1 : Int32) : entryFrame m #[(.ref x0), (.int x1)] 3 = mkF m 0 #[.val (.ref x0), .val (.int x1), .unset] [] := by first | (simp [entryFrame, mkF, argsToLocals, Value.category]; done) | rfl
set_option maxRecDepth 65536 in
set_option maxHeartbeats 40000000 in
theorem rm_nt0 (l : Launch) (Z : State) (a0 : Array Value) (hw : ∀ d ∈ tables_1, d.before a0 Z = true) (ws : List Jvm.Cond) (aNONE aEXPIRING_KEYS aALL_KEYS : Addr) (F0 : OwnFacts Z aNONE aEXPIRING_KEYS aALL_KEYS) (a1 : Addr) (h0 : Heap) (n0 : Nat) (O0 : Old Z n0 h0) (PF1 : Fld Z h0 a1 "com/example/vesper/vesper/store/Table" "counted" "Lcom/example/vesper/vesper/store/Evictor$Scope;" (.ref aNONE)) :
    MetFree l (⟨"com/example/vesper/vesper/store/Table", "newTree", "(I)[I"⟩ : MethodName) (head1 (Jvm.Cond.code (⟨"com/example/vesper/vesper/store/Table", "newTree", "(I)[I"⟩ : MethodName) prog_42_method_21_code 3 (some (.array .int)) :: ws) ({ frames := 1, cells := 0, slots := 0, locals := 13 } : Room)) (fun a U => a = #[(.ref a1), (.int (16 : Int32))] ∧ Z.Warmed39 U.vm ∧ U.heap = h0) (fun _ _ _ _ _ => True) (fun _ U o U' => ∃ v L, o = .returned v ∧ Q_nt0 Z aNONE aEXPIRING_KEYS aALL_KEYS a1 h0 n0 v U'.heap L ∧ FrameEnd U o U' L ({ frames := 1, cells := 0, slots := 0, locals := 13 } : Room).cells ({ frames := 1, cells := 0, slots := 0, locals := 13 } : Room).slots) := by
  refine MetFree.of_bodySF (plainFor_of_name pn_com_example_vesper_vesper_store_Table) hisR ?_
  intro p e s m args below meth c s₁ Bd hml0 hP hK
  obtain ⟨rfl, hZ, hh⟩ := hP
  have hx := Bd.exec
  have hby := Bd.bytes
  have hml : c.maxLocals = 3 := hml0
  have hown : s.vm.findClass "com/example/vesper/vesper/store/Table" = some m.cls := findClass_of_methodNamed Bd.named
  have hnm := (name_of_methodNamed Bd.named Bd.method).1
  have X0 : Stand p l e ({ frames := 1, cells := 0, slots := 0, locals := 13 } : Room) s m #[(.ref a1), (.int (16 : Int32))] below meth c s₁ [] 0 0 := Stand.of_body Bd
  have e0 : s₁.heap = h0 := by rw [← hh, Bd.state]; rfl
  have N0 := Fr.nil n0
  refine own_go (Q := fun o U' => ∃ v L, o = .returned v ∧ Q_nt0 Z aNONE aEXPIRING_KEYS aALL_KEYS a1 h0 n0 v U'.heap L ∧ FrameEnd s o U' L ({ frames := 1, cells := 0, slots := 0, locals := 13 } : Room).cells ({ frames := 1, cells := 0, slots := 0, locals := 13 } : Room).slots) (fun t k => castTop (ef_nt0 m a1 (16 : Int32)) k) ?_
  show OwnGo p e below _ (s₁.setTop (mkF m 0 #[.val (.ref a1), .val (.int (16 : Int32)), .unset] []))
  refine own_go (fun _ k => XS.aloadN X0.here hx rfl (hb hby d_prog_42_method_21_0) rfl rfl k) ?_
  show OwnGo p e below _ (s₁.setTop (mkF m 1 #[.val (.ref a1), .val (.int (16 : Int32)), .unset] [(.ref a1)]))
  obtain ⟨T13, X13, e13, st13⟩ := getF X0 hx hZ hown (host := "") (Or.inl (hw _ (List.mem_of_getElem? (i := 30) rfl))) Via.refl e0 PF1 (g := (mkF m 1 #[.val (.ref a1), .val (.int (16 : Int32)), .unset] [(.ref a1)])) rfl rfl (hb hby d_prog_42_method_21_1)
  refine own_go st13 ?_
  show OwnGo p e below _ (T13.setTop (mkF m 4 #[.val (.ref a1), .val (.int (16 : Int32)), .unset] [(.ref aNONE)]))
  refine own_go (fun _ k => XS.iloadN X13.here hx rfl (hb hby d_prog_42_method_21_4) rfl k) ?_
  show OwnGo p e below _ (T13.setTop (mkF m 5 #[.val (.ref a1), .val (.int (16 : Int32)), .unset] [(.int (16 : Int32)), (.ref aNONE)]))
  obtain ⟨_, _, ⟨T14, L14, k14, n14⟩, -, X14, ⟨Lc14, hQ14, l14, y14, z14⟩, st14⟩ := Jvm.LawKit.callS X13 hx (y := (⟨"com/example/vesper/vesper/store/Table", "treeLength", "(Lcom/example/vesper/vesper/store/Evictor$Scope;I)I"⟩ : MethodName)) hown (mvT hZ (hw _ (List.mem_of_getElem? (i := 36) rfl))) (mvT hZ (hw _ (List.mem_of_getElem? (i := 37) rfl))) (mvT hZ (hw _ (List.mem_of_getElem? (i := 6) rfl))) (mvT hZ (hw _ (List.mem_of_getElem? (i := 38) rfl))) (by decide) (backOf (W := 0) (rm_tl0 l Z a0 hw [] aNONE aEXPIRING_KEYS aALL_KEYS F0 h0 n0 O0) hZ (hw _ (List.mem_of_getElem? (i := 38) rfl)) (hw _ (List.mem_of_getElem? (i := 6) rfl)) (by decide) (by decide)) (g := (mkF m 5 #[.val (.ref a1), .val (.int (16 : Int32)), .unset] [(.int (16 : Int32)), (.ref aNONE)])) rfl (by rw [hml]; rfl) (argsL := [(.ref aNONE), (.int (16 : Int32))]) (rest := []) (lenOf pd_Lcom_example_vesper_vesper_store_Evictor_Scope__I__I rfl) rfl (by show 2 * 0 + _ ≤ _; exact Nat.le_of_eq rfl) (hb hby d_prog_42_method_21_5) (fun _ _ => ⟨rfl, e13, (by decide : 0 + 0 ≤ _), (by decide : 0 + 0 ≤ _)⟩)
  dsimp only [Pt.U, Pt.locs, Pt.cells, Pt.slots] at X14 l14 y14 z14 st14 hQ14
  subst l14 y14 z14
  obtain ⟨rfl, Nq14, K14⟩ := hQ14
  have N14 := Fr.app N0 Nq14
  refine own_go st14 ?_
  show OwnGo p e below _ (T14.setTop (mkF m 8 #[.val (.ref a1), .val (.int (16 : Int32)), .unset] [(.int (0 : Int32))]))
  refine own_go (fun _ k => XS.istoreN X14.here hx rfl (hb hby d_prog_42_method_21_8) rfl (l' := #[.val (.ref a1), .val (.int (16 : Int32)), .val (.int (0 : Int32))]) rfl k) ?_
  show OwnGo p e below _ (T14.setTop (mkF m 9 #[.val (.ref a1), .val (.int (16 : Int32)), .val (.int (0 : Int32))] []))
  refine own_go (fun _ k => XS.iloadN X14.here hx rfl (hb hby d_prog_42_method_21_9) rfl k) ?_
  show OwnGo p e below _ (T14.setTop (mkF m 10 #[.val (.ref a1), .val (.int (16 : Int32)), .val (.int (0 : Int32))] [(.int (0 : Int32))]))
  refine own_go (fun _ k => XS.ifNo X14.here hx rfl (hb hby d_prog_42_method_21_10) rfl (by decide) k) ?_
  show OwnGo p e below _ (T14.setTop (mkF m 13 #[.val (.ref a1), .val (.int (16 : Int32)), .val (.int (0 : Int32))] []))
  refine own_go (fun _ k => XS.aconstNull X14.here hx rfl (hb hby d_prog_42_method_21_13) k) ?_
  show OwnGo p e below _ (T14.setTop (mkF m 14 #[.val (.ref a1), .val (.int (16 : Int32)), .val (.int (0 : Int32))] [.null]))
  refine own_go (fun _ k => XS.goto X14.here hx rfl (pc0 := 14) (pc' := 20) rfl (hb hby d_prog_42_method_21_14) (by decide) (by decide) k) ?_
  show OwnGo p e below _ (T14.setTop (mkF m 20 #[.val (.ref a1), .val (.int (16 : Int32)), .val (.int (0 : Int32))] [.null]))
  obtain ⟨fs, hr, hrun, hended, hW, hsame⟩ := X14.leave (v := some .null) (fun h => by rw [Bd.returns] at h; cases h)
  refine ⟨_, _, retOut X14 hx Bd.returns rfl (Or.inr (Or.inr (Or.inr (Or.inr ⟨rfl, rfl, rfl⟩)))) (hb hby d_prog_42_method_21_20) hr, hrun, hended, _, _, rfl, ?_, ⟨_, rfl⟩, hW, hsame.mono (by decide) (by decide)⟩
  show Q_nt0 Z aNONE aEXPIRING_KEYS aALL_KEYS a1 h0 n0 _ T14.heap _
  rw [K14]
  exact ⟨rfl, N14, rfl⟩
theorem d_prog_42_method_21_17 : decode prog_42_method_21_code 17 = .ok (.iload_n 2, 1) := by decide +kernel
theorem d_prog_42_method_21_18 : decode prog_42_method_21_code 18 = .ok (.newarray .int, 2) := by decide +kernel
def Q_nt1 (Z : State) (aNONE aEXPIRING_KEYS aALL_KEYS : Addr) (a1 : Addr) (h0 : Heap) (n0 : Nat) (v : Option Value) (h : Heap) (L : List Loc) : Prop := ∃ (r8 : Addr), v = some (.ref r8) ∧ Fr n0 L ∧ Keep h0 h [] ∧ h0.size ≤ r8
theorem ef_nt1 (m : MethodId) (x0 : Addr) (x1 : Int32) : entryFrame m #[(.ref x0), (.int x1)] 3 = mkF m 0 #[.val (.ref x0), .val (.int x1), .unset] [] := by first | (simp [entryFrame, mkF, argsToLocals, Value.category]; done) | rfl
set_option maxRecDepth 65536 in
set_option maxHeartbeats 40000000 in
theorem rm_nt1 (l : Launch) (Z : State) (a0 : Array Value) (hw : ∀ d ∈ tables_1, d.before a0 Z = true) (ws : List Jvm.Cond) (aNONE aEXPIRING_KEYS aALL_KEYS : Addr) (F0 : OwnFacts Z aNONE aEXPIRING_KEYS aALL_KEYS) (a1 : Addr) (h0 : Heap) (n0 : Nat) (O0 : Old Z n0 h0) (PF1 : Fld Z h0 a1 "com/example/vesper/vesper/store/Table" "counted" "Lcom/example/vesper/vesper/store/Evictor$Scope;" (.ref aALL_KEYS)) :
    MetFree l (⟨"com/example/vesper/vesper/store/Table", "newTree", "(I)[I"⟩ : MethodName) (head1 (Jvm.Cond.code (⟨"com/example/vesper/vesper/store/Table", "newTree", "(I)[I"⟩ : MethodName) prog_42_method_21_code 3 (some (.array .int)) :: ws) ({ frames := 2, cells := 1, slots := 2, locals := 26 } : Room)) (fun a U => a = #[(.ref a1), (.int (16 : Int32))] ∧ Z.Warmed39 U.vm ∧ U.heap = h0) (fun _ _ _ _ _ => True) (fun _ U o U' => ∃ v L, o = .returned v ∧ Q_nt1 Z aNONE aEXPIRING_KEYS aALL_KEYS a1 h0 n0 v U'.heap L ∧ FrameEnd U o U' L ({ frames := 2, cells := 1, slots := 2, locals := 26 } : Room).cells ({ frames := 2, cells := 1, slots := 2, locals := 26 } : Room).slots) := by
  refine MetFree.of_bodySF (plainFor_of_name pn_com_example_vesper_vesper_store_Table) hisR ?_
  intro p e s m args below meth c s₁ Bd hml0 hP hK
  obtain ⟨rfl, hZ, hh⟩ := hP
  have hx := Bd.exec
  have hby := Bd.bytes
  have hml : c.maxLocals = 3 := hml0
  have hown : s.vm.findClass "com/example/vesper/vesper/store/Table" = some m.cls := findClass_of_methodNamed Bd.named
  have hnm := (name_of_methodNamed Bd.named Bd.method).1
  have X0 : Stand p l e ({ frames := 2, cells := 1, slots := 2, locals := 26 } : Room) s m #[(.ref a1), (.int (16 : Int32))] below meth c s₁ [] 0 0 := Stand.of_body Bd
  have e0 : s₁.heap = h0 := by rw [← hh, Bd.state]; rfl
  have N0 := Fr.nil n0
  refine own_go (Q := fun o U' => ∃ v L, o = .returned v ∧ Q_nt1 Z aNONE aEXPIRING_KEYS aALL_KEYS a1 h0 n0 v U'.heap L ∧ FrameEnd s o U' L ({ frames := 2, cells := 1, slots := 2, locals := 26 } : Room).cells ({ frames := 2, cells := 1, slots := 2, locals := 26 } : Room).slots) (fun t k => castTop (ef_nt1 m a1 (16 : Int32)) k) ?_
  show OwnGo p e below _ (s₁.setTop (mkF m 0 #[.val (.ref a1), .val (.int (16 : Int32)), .unset] []))
  refine own_go (fun _ k => XS.aloadN X0.here hx rfl (hb hby d_prog_42_method_21_0) rfl rfl k) ?_
  show OwnGo p e below _ (s₁.setTop (mkF m 1 #[.val (.ref a1), .val (.int (16 : Int32)), .unset] [(.ref a1)]))
  obtain ⟨T15, X15, e15, st15⟩ := getF X0 hx hZ hown (host := "") (Or.inl (hw _ (List.mem_of_getElem? (i := 30) rfl))) Via.refl e0 PF1 (g := (mkF m 1 #[.val (.ref a1), .val (.int (16 : Int32)), .unset] [(.ref a1)])) rfl rfl (hb hby d_prog_42_method_21_1)
  refine own_go st15 ?_
  show OwnGo p e below _ (T15.setTop (mkF m 4 #[.val (.ref a1), .val (.int (16 : Int32)), .unset] [(.ref aALL_KEYS)]))
  refine own_go (fun _ k => XS.iloadN X15.here hx rfl (hb hby d_prog_42_method_21_4) rfl k) ?_
  show OwnGo p e below _ (T15.setTop (mkF m 5 #[.val (.ref a1), .val (.int (16 : Int32)), .unset] [(.int (16 : Int32)), (.ref aALL_KEYS)]))
  obtain ⟨_, _, ⟨T16, L16, k16, n16⟩, -, X16, ⟨Lc16, hQ16, l16, y16, z16⟩, st16⟩ := Jvm.LawKit.callS X15 hx (y := (⟨"com/example/vesper/vesper/store/Table", "treeLength", "(Lcom/example/vesper/vesper/store/Evictor$Scope;I)I"⟩ : MethodName)) hown (mvT hZ (hw _ (List.mem_of_getElem? (i := 36) rfl))) (mvT hZ (hw _ (List.mem_of_getElem? (i := 37) rfl))) (mvT hZ (hw _ (List.mem_of_getElem? (i := 6) rfl))) (mvT hZ (hw _ (List.mem_of_getElem? (i := 38) rfl))) (by decide) (backOf (W := 0) (rm_tl1 l Z a0 hw [] aNONE aEXPIRING_KEYS aALL_KEYS F0 h0 n0 O0) hZ (hw _ (List.mem_of_getElem? (i := 38) rfl)) (hw _ (List.mem_of_getElem? (i := 6) rfl)) (by decide) (by decide)) (g := (mkF m 5 #[.val (.ref a1), .val (.int (16 : Int32)), .unset] [(.int (16 : Int32)), (.ref aALL_KEYS)])) rfl (by rw [hml]; rfl) (argsL := [(.ref aALL_KEYS), (.int (16 : Int32))]) (rest := []) (lenOf pd_Lcom_example_vesper_vesper_store_Evictor_Scope__I__I rfl) rfl (by show 2 * 0 + _ ≤ _; exact Nat.le_of_eq rfl) (hb hby d_prog_42_method_21_5) (fun _ _ => ⟨rfl, e15, (by decide : 0 + 0 ≤ _), (by decide : 0 + 0 ≤ _)⟩)
  dsimp only [Pt.U, Pt.locs, Pt.cells, Pt.slots] at X16 l16 y16 z16 st16 hQ16
  subst l16 y16 z16
  obtain ⟨rfl, Nq16, K16⟩ := hQ16
  have N16 := Fr.app N0 Nq16
  refine own_go st16 ?_
  show OwnGo p e below _ (T16.setTop (mkF m 8 #[.val (.ref a1), .val (.int (16 : Int32)), .unset] [(.int (2 : Int32))]))
  refine own_go (fun _ k => XS.istoreN X16.here hx rfl (hb hby d_prog_42_method_21_8) rfl (l' := #[.val (.ref a1), .val (.int (16 : Int32)), .val (.int (2 : Int32))]) rfl k) ?_
  show OwnGo p e below _ (T16.setTop (mkF m 9 #[.val (.ref a1), .val (.int (16 : Int32)), .val (.int (2 : Int32))] []))
  refine own_go (fun _ k => XS.iloadN X16.here hx rfl (hb hby d_prog_42_method_21_9) rfl k) ?_
  show OwnGo p e below _ (T16.setTop (mkF m 10 #[.val (.ref a1), .val (.int (16 : Int32)), .val (.int (2 : Int32))] [(.int (2 : Int32))]))
  refine own_go (fun _ k => XS.ifYes X16.here hx rfl (pc0 := 10) (pc' := 17) rfl (hb hby d_prog_42_method_21_10) rfl (by decide) (by decide) (by decide) k) ?_
  show OwnGo p e below _ (T16.setTop (mkF m 17 #[.val (.ref a1), .val (.int (16 : Int32)), .val (.int (2 : Int32))] []))
  refine own_go (fun _ k => XS.iloadN X16.here hx rfl (hb hby d_prog_42_method_21_17) rfl k) ?_
  show OwnGo p e below _ (T16.setTop (mkF m 18 #[.val (.ref a1), .val (.int (16 : Int32)), .val (.int (2 : Int32))] [(.int (2 : Int32))]))
  obtain ⟨T17, h17, k17, X17, e17, E17, A17, st17⟩ := newP X16 hx hZ (hw _ (List.mem_of_getElem? (i := 66) rfl)) K16 (g := (mkF m 18 #[.val (.ref a1), .val (.int (16 : Int32)), .val (.int (2 : Int32))] [(.int (2 : Int32))])) rfl (hb hby d_prog_42_method_21_18) rfl (by decide) (cap := 2) (by decide) (by decide) (by decide) (by decide)
  obtain ⟨a17, g17⟩ : ∃ z, z = h0.size := ⟨_, rfl⟩
  rw [← g17] at A17 st17
  have ge17 : n0 ≤ a17 := Nat.le_trans (own_sz O0) (Nat.le_of_eq g17.symm)
  have gh17 : h0.size ≤ a17 := Nat.le_trans (Nat.le_refl _) (Nat.le_of_eq g17.symm)
  have O17 := O0.ext E17
  have z18 : h0.size ≤ h17.size := Nat.le_trans (Nat.le_refl _) E17.1
  have V17 : Arv Z h17 a17 k17 .int (2 : Int32) [(.int (0 : Int32)), (.int (0 : Int32))] (.int (0 : Int32)) := (Arv.new A17 (by decide)).pad (pad_rep [] _ 2)
  refine own_go st17 ?_
  show OwnGo p e below _ (T17.setTop (mkF m 20 #[.val (.ref a1), .val (.int (16 : Int32)), .val (.int (2 : Int32))] [(.ref a17)]))
  obtain ⟨fs, hr, hrun, hended, hW, hsame⟩ := X17.leave (v := some (.ref a17)) (fun h => by rw [Bd.returns] at h; cases h)
  refine ⟨_, _, retOut X17 hx Bd.returns rfl (Or.inr (Or.inr (Or.inr (Or.inr ⟨rfl, rfl, rfl⟩)))) (hb hby d_prog_42_method_21_20) hr, hrun, hended, _, _, rfl, ?_, ⟨_, rfl⟩, hW, hsame.mono (by decide) (by decide)⟩
  show Q_nt1 Z aNONE aEXPIRING_KEYS aALL_KEYS a1 h0 n0 _ T17.heap _
  rw [e17]
  exact ⟨a17, rfl, N16, ((Keep.refl _ []).ext E17), gh17⟩
def Q_nt2 (Z : State) (aNONE aEXPIRING_KEYS aALL_KEYS : Addr) (a1 : Addr) (h0 : Heap) (n0 : Nat) (v : Option Value) (h : Heap) (L : List Loc) : Prop := ∃ (r8 : Addr), v = some (.ref r8) ∧ Fr n0 L ∧ Keep h0 h [] ∧ h0.size ≤ r8
theorem ef_nt2 (m : MethodId) (x0 : Addr) (x1 : Int32) : entryFrame m #[(.ref x0), (.int x1)] 3 = mkF m 0 #[.val (.ref x0), .val (.int x1), .unset] [] := by first | (simp [entryFrame, mkF, argsToLocals, Value.category]; done) | rfl
set_option maxRecDepth 65536 in
set_option maxHeartbeats 40000000 in
theorem rm_nt2 (l : Launch) (Z : State) (a0 : Array Value) (hw : ∀ d ∈ tables_1, d.before a0 Z = true) (ws : List Jvm.Cond) (aNONE aEXPIRING_KEYS aALL_KEYS : Addr) (F0 : OwnFacts Z aNONE aEXPIRING_KEYS aALL_KEYS) (a1 : Addr) (h0 : Heap) (n0 : Nat) (O0 : Old Z n0 h0) (PF1 : Fld Z h0 a1 "com/example/vesper/vesper/store/Table" "counted" "Lcom/example/vesper/vesper/store/Evictor$Scope;" (.ref aEXPIRING_KEYS)) :
    MetFree l (⟨"com/example/vesper/vesper/store/Table", "newTree", "(I)[I"⟩ : MethodName) (head1 (Jvm.Cond.code (⟨"com/example/vesper/vesper/store/Table", "newTree", "(I)[I"⟩ : MethodName) prog_42_method_21_code 3 (some (.array .int)) :: ws) ({ frames := 2, cells := 1, slots := 2, locals := 26 } : Room)) (fun a U => a = #[(.ref a1), (.int (16 : Int32))] ∧ Z.Warmed39 U.vm ∧ U.heap = h0) (fun _ _ _ _ _ => True) (fun _ U o U' => ∃ v L, o = .returned v ∧ Q_nt2 Z aNONE aEXPIRING_KEYS aALL_KEYS a1 h0 n0 v U'.heap L ∧ FrameEnd U o U' L ({ frames := 2, cells := 1, slots := 2, locals := 26 } : Room).cells ({ frames := 2, cells := 1, slots := 2, locals := 26 } : Room).slots) := by
  refine MetFree.of_bodySF (plainFor_of_name pn_com_example_vesper_vesper_store_Table) hisR ?_
  intro p e s m args below meth c s₁ Bd hml0 hP hK
  obtain ⟨rfl, hZ, hh⟩ := hP
  have hx := Bd.exec
  have hby := Bd.bytes
  have hml : c.maxLocals = 3 := hml0
  have hown : s.vm.findClass "com/example/vesper/vesper/store/Table" = some m.cls := findClass_of_methodNamed Bd.named
  have hnm := (name_of_methodNamed Bd.named Bd.method).1
  have X0 : Stand p l e ({ frames := 2, cells := 1, slots := 2, locals := 26 } : Room) s m #[(.ref a1), (.int (16 : Int32))] below meth c s₁ [] 0 0 := Stand.of_body Bd
  have e0 : s₁.heap = h0 := by rw [← hh, Bd.state]; rfl
  have N0 := Fr.nil n0
  refine own_go (Q := fun o U' => ∃ v L, o = .returned v ∧ Q_nt2 Z aNONE aEXPIRING_KEYS aALL_KEYS a1 h0 n0 v U'.heap L ∧ FrameEnd s o U' L ({ frames := 2, cells := 1, slots := 2, locals := 26 } : Room).cells ({ frames := 2, cells := 1, slots := 2, locals := 26 } : Room).slots) (fun t k => castTop (ef_nt2 m a1 (16 : Int32)) k) ?_
  show OwnGo p e below _ (s₁.setTop (mkF m 0 #[.val (.ref a1), .val (.int (16 : Int32)), .unset] []))
  refine own_go (fun _ k => XS.aloadN X0.here hx rfl (hb hby d_prog_42_method_21_0) rfl rfl k) ?_
  show OwnGo p e below _ (s₁.setTop (mkF m 1 #[.val (.ref a1), .val (.int (16 : Int32)), .unset] [(.ref a1)]))
  obtain ⟨T19, X19, e19, st19⟩ := getF X0 hx hZ hown (host := "") (Or.inl (hw _ (List.mem_of_getElem? (i := 30) rfl))) Via.refl e0 PF1 (g := (mkF m 1 #[.val (.ref a1), .val (.int (16 : Int32)), .unset] [(.ref a1)])) rfl rfl (hb hby d_prog_42_method_21_1)
  refine own_go st19 ?_
  show OwnGo p e below _ (T19.setTop (mkF m 4 #[.val (.ref a1), .val (.int (16 : Int32)), .unset] [(.ref aEXPIRING_KEYS)]))
  refine own_go (fun _ k => XS.iloadN X19.here hx rfl (hb hby d_prog_42_method_21_4) rfl k) ?_
  show OwnGo p e below _ (T19.setTop (mkF m 5 #[.val (.ref a1), .val (.int (16 : Int32)), .unset] [(.int (16 : Int32)), (.ref aEXPIRING_KEYS)]))
  obtain ⟨_, _, ⟨T20, L20, k20, n20⟩, -, X20, ⟨Lc20, hQ20, l20, y20, z20⟩, st20⟩ := Jvm.LawKit.callS X19 hx (y := (⟨"com/example/vesper/vesper/store/Table", "treeLength", "(Lcom/example/vesper/vesper/store/Evictor$Scope;I)I"⟩ : MethodName)) hown (mvT hZ (hw _ (List.mem_of_getElem? (i := 36) rfl))) (mvT hZ (hw _ (List.mem_of_getElem? (i := 37) rfl))) (mvT hZ (hw _ (List.mem_of_getElem? (i := 6) rfl))) (mvT hZ (hw _ (List.mem_of_getElem? (i := 38) rfl))) (by decide) (backOf (W := 0) (rm_tl2 l Z a0 hw [] aNONE aEXPIRING_KEYS aALL_KEYS F0 h0 n0 O0) hZ (hw _ (List.mem_of_getElem? (i := 38) rfl)) (hw _ (List.mem_of_getElem? (i := 6) rfl)) (by decide) (by decide)) (g := (mkF m 5 #[.val (.ref a1), .val (.int (16 : Int32)), .unset] [(.int (16 : Int32)), (.ref aEXPIRING_KEYS)])) rfl (by rw [hml]; rfl) (argsL := [(.ref aEXPIRING_KEYS), (.int (16 : Int32))]) (rest := []) (lenOf pd_Lcom_example_vesper_vesper_store_Evictor_Scope__I__I rfl) rfl (by show 2 * 0 + _ ≤ _; exact Nat.le_of_eq rfl) (hb hby d_prog_42_method_21_5) (fun _ _ => ⟨rfl, e19, (by decide : 0 + 0 ≤ _), (by decide : 0 + 0 ≤ _)⟩)
  dsimp only [Pt.U, Pt.locs, Pt.cells, Pt.slots] at X20 l20 y20 z20 st20 hQ20
  subst l20 y20 z20
  obtain ⟨rfl, Nq20, K20⟩ := hQ20
  have N20 := Fr.app N0 Nq20
  refine own_go st20 ?_
  show OwnGo p e below _ (T20.setTop (mkF m 8 #[.val (.ref a1), .val (.int (16 : Int32)), .unset] [(.int (2 : Int32))]))
  refine own_go (fun _ k => XS.istoreN X20.here hx rfl (hb hby d_prog_42_method_21_8) rfl (l' := #[.val (.ref a1), .val (.int (16 : Int32)), .val (.int (2 : Int32))]) rfl k) ?_
  show OwnGo p e below _ (T20.setTop (mkF m 9 #[.val (.ref a1), .val (.int (16 : Int32)), .val (.int (2 : Int32))] []))
  refine own_go (fun _ k => XS.iloadN X20.here hx rfl (hb hby d_prog_42_method_21_9) rfl k) ?_
  show OwnGo p e below _ (T20.setTop (mkF m 10 #[.val (.ref a1), .val (.int (16 : Int32)), .val (.int (2 : Int32))] [(.int (2 : Int32))]))
  refine own_go (fun _ k => XS.ifYes X20.here hx rfl (pc0 := 10) (pc' := 17) rfl (hb hby d_prog_42_method_21_10) rfl (by decide) (by decide) (by decide) k) ?_
  show OwnGo p e below _ (T20.setTop (mkF m 17 #[.val (.ref a1), .val (.int (16 : Int32)), .val (.int (2 : Int32))] []))
  refine own_go (fun _ k => XS.iloadN X20.here hx rfl (hb hby d_prog_42_method_21_17) rfl k) ?_
  show OwnGo p e below _ (T20.setTop (mkF m 18 #[.val (.ref a1), .val (.int (16 : Int32)), .val (.int (2 : Int32))] [(.int (2 : Int32))]))
  obtain ⟨T21, h21, k21, X21, e21, E21, A21, st21⟩ := newP X20 hx hZ (hw _ (List.mem_of_getElem? (i := 66) rfl)) K20 (g := (mkF m 18 #[.val (.ref a1), .val (.int (16 : Int32)), .val (.int (2 : Int32))] [(.int (2 : Int32))])) rfl (hb hby d_prog_42_method_21_18) rfl (by decide) (cap := 2) (by decide) (by decide) (by decide) (by decide)
  obtain ⟨a21, g21⟩ : ∃ z, z = h0.size := ⟨_, rfl⟩
  rw [← g21] at A21 st21
  have ge21 : n0 ≤ a21 := Nat.le_trans (own_sz O0) (Nat.le_of_eq g21.symm)
  have gh21 : h0.size ≤ a21 := Nat.le_trans (Nat.le_refl _) (Nat.le_of_eq g21.symm)
  have O21 := O0.ext E21
  have z22 : h0.size ≤ h21.size := Nat.le_trans (Nat.le_refl _) E21.1
  have V21 : Arv Z h21 a21 k21 .int (2 : Int32) [(.int (0 : Int32)), (.int (0 : Int32))] (.int (0 : Int32)) := (Arv.new A21 (by decide)).pad (pad_rep [] _ 2)
  refine own_go st21 ?_
  show OwnGo p e below _ (T21.setTop (mkF m 20 #[.val (.ref a1), .val (.int (16 : Int32)), .val (.int (2 : Int32))] [(.ref a21)]))
  obtain ⟨fs, hr, hrun, hended, hW, hsame⟩ := X21.leave (v := some (.ref a21)) (fun h => by rw [Bd.returns] at h; cases h)
  refine ⟨_, _, retOut X21 hx Bd.returns rfl (Or.inr (Or.inr (Or.inr (Or.inr ⟨rfl, rfl, rfl⟩)))) (hb hby d_prog_42_method_21_20) hr, hrun, hended, _, _, rfl, ?_, ⟨_, rfl⟩, hW, hsame.mono (by decide) (by decide)⟩
  show Q_nt2 Z aNONE aEXPIRING_KEYS aALL_KEYS a1 h0 n0 _ T21.heap _
  rw [e21]
  exact ⟨a21, rfl, N20, ((Keep.refl _ []).ext E21), gh21⟩
theorem d_prog_42_method_1_0 : decode prog_42_method_1_code 0 = .ok (.aload_n 0, 1) := by decide +kernel
theorem d_prog_42_method_1_1 : decode prog_42_method_1_code 1 = .ok (.invokespecial 1, 3) := by decide +kernel
theorem d_prog_42_method_1_4 : decode prog_42_method_1_code 4 = .ok (.aload_n 0, 1) := by decide +kernel
theorem d_prog_42_method_1_5 : decode prog_42_method_1_code 5 = .ok (.bipush 16, 2) := by decide +kernel
theorem d_prog_42_method_1_7 : decode prog_42_method_1_code 7 = .ok (.anewarray 9, 3) := by decide +kernel
theorem d_prog_42_method_1_10 : decode prog_42_method_1_code 10 = .ok (.putfield 11, 3) := by decide +kernel
theorem d_prog_42_method_1_13 : decode prog_42_method_1_code 13 = .ok (.aload_n 0, 1) := by decide +kernel
theorem d_prog_42_method_1_14 : decode prog_42_method_1_code 14 = .ok (.aload_n 1, 1) := by decide +kernel
theorem d_prog_42_method_1_15 : decode prog_42_method_1_code 15 = .ok (.putfield 15, 3) := by decide +kernel
theorem d_prog_42_method_1_18 : decode prog_42_method_1_code 18 = .ok (.aload_n 0, 1) := by decide +kernel
theorem d_prog_42_method_1_19 : decode prog_42_method_1_code 19 = .ok (.aload_n 2, 1) := by decide +kernel
theorem d_prog_42_method_1_20 : decode prog_42_method_1_code 20 = .ok (.putfield 19, 3) := by decide +kernel
theorem d_prog_42_method_1_23 : decode prog_42_method_1_code 23 = .ok (.aload_n 0, 1) := by decide +kernel
theorem d_prog_42_method_1_24 : decode prog_42_method_1_code 24 = .ok (.aload_n 0, 1) := by decide +kernel
theorem d_prog_42_method_1_25 : decode prog_42_method_1_code 25 = .ok (.bipush 16, 2) := by decide +kernel
theorem d_prog_42_method_1_27 : decode prog_42_method_1_code 27 = .ok (.invokevirtual 23, 3) := by decide +kernel
theorem pd_I___I : parseMethodDescriptor "(I)[I" = some ⟨[.int], some (.array .int)⟩ := by decide +kernel
theorem d_prog_42_method_1_30 : decode prog_42_method_1_code 30 = .ok (.putfield 27, 3) := by decide +kernel
theorem d_prog_42_method_1_33 : decode prog_42_method_1_code 33 = .ok (.return_, 1) := by decide +kernel
def Q_ti0 (Z : State) (aNONE aEXPIRING_KEYS aALL_KEYS : Addr) (a1 : Addr) (a2 : Addr) (h0 : Heap) (n0 : Nat) (v : Option Value) (h : Heap) (L : List Loc) : Prop := ∃ (r9 : Addr) (k9 : ClassId), v = none ∧ Fr n0 L ∧ Keep h0 h [a1] ∧ Fld Z h a1 "com/example/vesper/vesper/store/Table" "buckets" "[Lcom/example/vesper/vesper/store/Entry;" (.ref r9) ∧ Fld Z h a1 "com/example/vesper/vesper/store/Table" "size" "I" (.int (0 : Int32)) ∧ Arv Z h r9 k9 (.object "com/example/vesper/vesper/store/Entry") (16 : Int32) [.null, .null, .null, .null, .null, .null, .null, .null, .null, .null, .null, .null, .null, .null, .null, .null] .null ∧ h0.size ≤ r9
theorem ef_ti0 (m : MethodId) (x0 : Addr) (x1 : Addr) (x2 : Addr) : entryFrame m #[(.ref x0), (.ref x1), (.ref x2)] 3 = mkF m 0 #[.val (.ref x0), .val (.ref x1), .val (.ref x2)] [] := by first | (simp [entryFrame, mkF, argsToLocals, Value.category]; done) | rfl
set_option maxRecDepth 65536 in
set_option maxHeartbeats 40000000 in
theorem rm_ti0 (l : Launch) (Z : State) (a0 : Array Value) (hw : ∀ d ∈ tables_1, d.before a0 Z = true) (ws : List Jvm.Cond) (aNONE aEXPIRING_KEYS aALL_KEYS : Addr) (F0 : OwnFacts Z aNONE aEXPIRING_KEYS aALL_KEYS) (a1 : Addr) (a2 : Addr) (h0 : Heap) (n0 : Nat) (O0 : Old Z n0 h0) (Fbuckets : Fld Z h0 a1 "com/example/vesper/vesper/store/Table" "buckets" "[Lcom/example/vesper/vesper/store/Entry;" .null) (Fhash : Fld Z h0 a1 "com/example/vesper/vesper/store/Table" "hash" "Lcom/example/vesper/vesper/store/SipHash;" .null) (Fcounted : Fld Z h0 a1 "com/example/vesper/vesper/store/Table" "counted" "Lcom/example/vesper/vesper/store/Evictor$Scope;" .null) (Ftree : Fld Z h0 a1 "com/example/vesper/vesper/store/Table" "tree" "[I" .null) (Fsize : Fld Z h0 a1 "com/example/vesper/vesper/store/Table" "size" "I" (.int (0 : Int32))) (PE1 : Exa Z h0 a1 "com/example/vesper/vesper/store/Table") (pg1 : n0 ≤ a1) :
    MetFree l (⟨"com/example/vesper/vesper/store/Table", "<init>", "(Lcom/example/vesper/vesper/store/SipHash;Lcom/example/vesper/vesper/store/Evictor$Scope;)V"⟩ : MethodName) (head1 (Jvm.Cond.code (⟨"com/example/vesper/vesper/store/Table", "<init>", "(Lcom/example/vesper/vesper/store/SipHash;Lcom/example/vesper/vesper/store/Evictor$Scope;)V"⟩ : MethodName) prog_42_method_1_code 3 none :: ws) ({ frames := 2, cells := 1, slots := 16, locals := 28 } : Room)) (fun a U => a = #[(.ref a1), (.ref a2), (.ref aNONE)] ∧ Z.Warmed39 U.vm ∧ U.heap = h0) (fun _ _ _ _ _ => True) (fun _ U o U' => ∃ v L, o = .returned v ∧ Q_ti0 Z aNONE aEXPIRING_KEYS aALL_KEYS a1 a2 h0 n0 v U'.heap L ∧ FrameEnd U o U' L ({ frames := 2, cells := 1, slots := 16, locals := 28 } : Room).cells ({ frames := 2, cells := 1, slots := 16, locals := 28 } : Room).slots) := by
  refine MetFree.of_bodySF (plainFor_of_name pn_com_example_vesper_vesper_store_Table) hisR ?_
  intro p e s m args below meth c s₁ Bd hml0 hP hK
  obtain ⟨rfl, hZ, hh⟩ := hP
  have hx := Bd.exec
  have hby := Bd.bytes
  have hml : c.maxLocals = 3 := hml0
  have hown : s.vm.findClass "com/example/vesper/vesper/store/Table" = some m.cls := findClass_of_methodNamed Bd.named
  have hnm := (name_of_methodNamed Bd.named Bd.method).1
  have X0 : Stand p l e ({ frames := 2, cells := 1, slots := 16, locals := 28 } : Room) s m #[(.ref a1), (.ref a2), (.ref aNONE)] below meth c s₁ [] 0 0 := Stand.of_body Bd
  have e0 : s₁.heap = h0 := by rw [← hh, Bd.state]; rfl
  have N0 := Fr.nil n0
  refine own_go (Q := fun o U' => ∃ v L, o = .returned v ∧ Q_ti0 Z aNONE aEXPIRING_KEYS aALL_KEYS a1 a2 h0 n0 v U'.heap L ∧ FrameEnd s o U' L ({ frames := 2, cells := 1, slots := 16, locals := 28 } : Room).cells ({ frames := 2, cells := 1, slots := 16, locals := 28 } : Room).slots) (fun t k => castTop (ef_ti0 m a1 a2 aNONE) k) ?_
  show OwnGo p e below _ (s₁.setTop (mkF m 0 #[.val (.ref a1), .val (.ref a2), .val (.ref aNONE)] []))
  refine own_go (fun _ k => XS.aloadN X0.here hx rfl (hb hby d_prog_42_method_1_0) rfl rfl k) ?_
  show OwnGo p e below _ (s₁.setTop (mkF m 1 #[.val (.ref a1), .val (.ref a2), .val (.ref aNONE)] [(.ref a1)]))
  obtain ⟨T23, X23, e23, st23⟩ := initO X0 hx hZ hown (hw _ (List.mem_of_getElem? (i := 23) rfl)) (hw _ (List.mem_of_getElem? (i := 14) rfl)) (hw _ (List.mem_of_getElem? (i := 15) rfl)) e0 (g := (mkF m 1 #[.val (.ref a1), .val (.ref a2), .val (.ref aNONE)] [(.ref a1)])) rfl (by rw [hml]; rfl) rfl (hb hby d_prog_42_method_1_1) (by decide) (W := 0) (by show 2 * 0 + _ ≤ _; exact Nat.le_of_eq rfl) (by decide)
  refine own_go st23 ?_
  show OwnGo p e below _ (T23.setTop (mkF m 4 #[.val (.ref a1), .val (.ref a2), .val (.ref aNONE)] []))
  refine own_go (fun _ k => XS.aloadN X23.here hx rfl (hb hby d_prog_42_method_1_4) rfl rfl k) ?_
  show OwnGo p e below _ (T23.setTop (mkF m 5 #[.val (.ref a1), .val (.ref a2), .val (.ref aNONE)] [(.ref a1)]))
  refine own_go (fun _ k => XS.bipush X23.here hx rfl (hb hby d_prog_42_method_1_5) k) ?_
  show OwnGo p e below _ (T23.setTop (mkF m 7 #[.val (.ref a1), .val (.ref a2), .val (.ref aNONE)] [(.int (16 : Int32)), (.ref a1)]))
  obtain ⟨T24, h24, k24, X24, e24, E24, A24, B24, st24⟩ := newR X23 hx hZ hown (hw _ (List.mem_of_getElem? (i := 24) rfl)) (hw _ (List.mem_of_getElem? (i := 25) rfl)) e23 (g := (mkF m 7 #[.val (.ref a1), .val (.ref a2), .val (.ref aNONE)] [(.int (16 : Int32)), (.ref a1)])) rfl (hb hby d_prog_42_method_1_7) rfl (by decide) (cap := 16) (by decide) (by decide) (by decide) (by decide)
  obtain ⟨a24, g24⟩ : ∃ z, z = h0.size := ⟨_, rfl⟩
  rw [← g24] at A24 st24
  have ge24 : n0 ≤ a24 := Nat.le_trans (own_sz O0) (Nat.le_of_eq g24.symm)
  have gh24 : h0.size ≤ a24 := Nat.le_trans (Nat.le_refl _) (Nat.le_of_eq g24.symm)
  have ne25 : a1 ≠ a24 := own_newne g24 PE1.lt
  have O24 := O0.ext E24
  have z26 : h0.size ≤ h24.size := Nat.le_trans (Nat.le_refl _) E24.1
  have V24 : Arv Z h24 a24 k24 (.object "com/example/vesper/vesper/store/Entry") (16 : Int32) [.null, .null, .null, .null, .null, .null, .null, .null, .null, .null, .null, .null, .null, .null, .null, .null] .null := (Arv.new A24 (by decide)).pad (pad_rep [] _ 16)
  refine own_go st24 ?_
  show OwnGo p e below _ (T24.setTop (mkF m 10 #[.val (.ref a1), .val (.ref a2), .val (.ref aNONE)] [(.ref a24), (.ref a1)]))
  have F27 := (Fbuckets.ext E24)
  have F28 := (PE1.ext E24)
  obtain ⟨T29, h29, X29, e29, W29, st29⟩ := putF X24 hx hZ hown (host := "") (Or.inl (hw _ (List.mem_of_getElem? (i := 26) rfl))) Via.refl e24 F27 F28 (Or.inl (hw _ (List.mem_of_getElem? (i := 27) rfl))) (hw _ (List.mem_of_getElem? (i := 5) rfl)) (ty := (.array (.object "com/example/vesper/vesper/store/Entry"))) (by decide) rfl rfl (g := (mkF m 10 #[.val (.ref a1), .val (.ref a2), .val (.ref aNONE)] [(.ref a24), (.ref a1)])) rfl rfl (hb hby d_prog_42_method_1_10)
  have N29 := Fr.snoc X29 N0 pg1
  have O29 := O24.wr W29 pg1
  have z30 : h0.size ≤ h29.size := Nat.le_trans z26 (Nat.le_of_eq W29.size.symm)
  have F29 : Fld Z h29 a1 "com/example/vesper/vesper/store/Table" "buckets" "[Lcom/example/vesper/vesper/store/Entry;" (.ref a24) := F27.same W29
  refine own_go st29 ?_
  show OwnGo p e below _ (T29.setTop (mkF m 13 #[.val (.ref a1), .val (.ref a2), .val (.ref aNONE)] []))
  refine own_go (fun _ k => XS.aloadN X29.here hx rfl (hb hby d_prog_42_method_1_13) rfl rfl k) ?_
  show OwnGo p e below _ (T29.setTop (mkF m 14 #[.val (.ref a1), .val (.ref a2), .val (.ref aNONE)] [(.ref a1)]))
  refine own_go (fun _ k => XS.aloadN X29.here hx rfl (hb hby d_prog_42_method_1_14) rfl rfl k) ?_
  show OwnGo p e below _ (T29.setTop (mkF m 15 #[.val (.ref a1), .val (.ref a2), .val (.ref aNONE)] [(.ref a2), (.ref a1)]))
  have F31 := ((Fhash.ext E24).other W29 (Or.inr (slot_ne (a0 := a0) (C := "com/example/vesper/vesper/store/Table") (Or.inr (hw _ (List.mem_of_getElem? (i := 29) rfl))) (Or.inl (hw _ (List.mem_of_getElem? (i := 27) rfl))) (by decide) (t := (.object "com/example/vesper/vesper/store/SipHash")) (t' := (.array (.object "com/example/vesper/vesper/store/Entry"))) (by decide) (by decide))))
  have F32 := (F28.wr W29)
  obtain ⟨T33, h33, X33, e33, W33, st33⟩ := putF X29 hx hZ hown (host := "") (Or.inl (hw _ (List.mem_of_getElem? (i := 28) rfl))) Via.refl e29 F31 F32 (Or.inr ⟨(hw _ (List.mem_of_getElem? (i := 29) rfl)), rfl, hnm⟩) (hw _ (List.mem_of_getElem? (i := 5) rfl)) (ty := (.object "com/example/vesper/vesper/store/SipHash")) (by decide) rfl rfl (g := (mkF m 15 #[.val (.ref a1), .val (.ref a2), .val (.ref aNONE)] [(.ref a2), (.ref a1)])) rfl rfl (hb hby d_prog_42_method_1_15)
  have N33 := Fr.snoc X33 N29 pg1
  have O33 := O29.wr W33 pg1
  have z34 : h0.size ≤ h33.size := Nat.le_trans z30 (Nat.le_of_eq W33.size.symm)
  have F33 : Fld Z h33 a1 "com/example/vesper/vesper/store/Table" "hash" "Lcom/example/vesper/vesper/store/SipHash;" (.ref a2) := F31.same W33
  refine own_go st33 ?_
  show OwnGo p e below _ (T33.setTop (mkF m 18 #[.val (.ref a1), .val (.ref a2), .val (.ref aNONE)] []))
  refine own_go (fun _ k => XS.aloadN X33.here hx rfl (hb hby d_prog_42_method_1_18) rfl rfl k) ?_
  show OwnGo p e below _ (T33.setTop (mkF m 19 #[.val (.ref a1), .val (.ref a2), .val (.ref aNONE)] [(.ref a1)]))
  refine own_go (fun _ k => XS.aloadN X33.here hx rfl (hb hby d_prog_42_method_1_19) rfl rfl k) ?_
  show OwnGo p e below _ (T33.setTop (mkF m 20 #[.val (.ref a1), .val (.ref a2), .val (.ref aNONE)] [(.ref aNONE), (.ref a1)]))
  have F35 := (((Fcounted.ext E24).other W29 (Or.inr (slot_ne (a0 := a0) (C := "com/example/vesper/vesper/store/Table") (Or.inl (hw _ (List.mem_of_getElem? (i := 31) rfl))) (Or.inl (hw _ (List.mem_of_getElem? (i := 27) rfl))) (by decide) (t := (.object "com/example/vesper/vesper/store/Evictor$Scope")) (t' := (.array (.object "com/example/vesper/vesper/store/Entry"))) (by decide) (by decide)))).other W33 (Or.inr (slot_ne (a0 := a0) (C := "com/example/vesper/vesper/store/Table") (Or.inl (hw _ (List.mem_of_getElem? (i := 31) rfl))) (Or.inr (hw _ (List.mem_of_getElem? (i := 29) rfl))) (by decide) (t := (.object "com/example/vesper/vesper/store/Evictor$Scope")) (t' := (.object "com/example/vesper/vesper/store/SipHash")) (by decide) (by decide))))
  have F36 := (F32.wr W33)
  obtain ⟨T37, h37, X37, e37, W37, st37⟩ := putF X33 hx hZ hown (host := "") (Or.inl (hw _ (List.mem_of_getElem? (i := 30) rfl))) Via.refl e33 F35 F36 (Or.inl (hw _ (List.mem_of_getElem? (i := 31) rfl))) (hw _ (List.mem_of_getElem? (i := 5) rfl)) (ty := (.object "com/example/vesper/vesper/store/Evictor$Scope")) (by decide) rfl rfl (g := (mkF m 20 #[.val (.ref a1), .val (.ref a2), .val (.ref aNONE)] [(.ref aNONE), (.ref a1)])) rfl rfl (hb hby d_prog_42_method_1_20)
  have N37 := Fr.snoc X37 N33 pg1
  have O37 := O33.wr W37 pg1
  have z38 : h0.size ≤ h37.size := Nat.le_trans z34 (Nat.le_of_eq W37.size.symm)
  have F37 : Fld Z h37 a1 "com/example/vesper/vesper/store/Table" "counted" "Lcom/example/vesper/vesper/store/Evictor$Scope;" (.ref aNONE) := F35.same W37
  refine own_go st37 ?_
  show OwnGo p e below _ (T37.setTop (mkF m 23 #[.val (.ref a1), .val (.ref a2), .val (.ref aNONE)] []))
  refine own_go (fun _ k => XS.aloadN X37.here hx rfl (hb hby d_prog_42_method_1_23) rfl rfl k) ?_
  show OwnGo p e below _ (T37.setTop (mkF m 24 #[.val (.ref a1), .val (.ref a2), .val (.ref aNONE)] [(.ref a1)]))
  refine own_go (fun _ k => XS.aloadN X37.here hx rfl (hb hby d_prog_42_method_1_24) rfl rfl k) ?_
  show OwnGo p e below _ (T37.setTop (mkF m 25 #[.val (.ref a1), .val (.ref a2), .val (.ref aNONE)] [(.ref a1), (.ref a1)]))
  refine own_go (fun _ k => XS.bipush X37.here hx rfl (hb hby d_prog_42_method_1_25) k) ?_
  show OwnGo p e below _ (T37.setTop (mkF m 27 #[.val (.ref a1), .val (.ref a2), .val (.ref aNONE)] [(.int (16 : Int32)), (.ref a1), (.ref a1)]))
  have F39 := (F36.wr W37)
  obtain ⟨cl40, hcl40, hob40⟩ := F39.cell
  obtain ⟨_, _, ⟨T40, L40, k40, n40⟩, -, X40, ⟨Lc40, hQ40, l40, y40, z40⟩, st40⟩ := X37.privateBack hx (y := (⟨"com/example/vesper/vesper/store/Table", "newTree", "(I)[I"⟩ : MethodName)) hown (mvT hZ (hw _ (List.mem_of_getElem? (i := 32) rfl))) (mvT hZ (hw _ (List.mem_of_getElem? (i := 33) rfl))) (own_selp hZ (hw _ (List.mem_of_getElem? (i := 5) rfl)) (hw _ (List.mem_of_getElem? (i := 34) rfl)) (hw _ (List.mem_of_getElem? (i := 33) rfl)) (by decide)) (Cond.privateMethod_at (mvP hZ (hw _ (List.mem_of_getElem? (i := 34) rfl)) (args := #[]))) (mvT hZ (hw _ (List.mem_of_getElem? (i := 35) rfl))) (by decide) (backOf (W := 1) (rm_nt0 l Z a0 hw [] aNONE aEXPIRING_KEYS aALL_KEYS F0 a1 h37 n0 O37 F37) hZ (hw _ (List.mem_of_getElem? (i := 35) rfl)) (hw _ (List.mem_of_getElem? (i := 6) rfl)) (by decide) (by decide)) (g := (mkF m 27 #[.val (.ref a1), .val (.ref a2), .val (.ref aNONE)] [(.int (16 : Int32)), (.ref a1), (.ref a1)])) rfl (by rw [hml]; rfl) (Steps.refl _) (a := a1) (by rw [e37]; exact hcl40) hob40 (argsL := [(.int (16 : Int32))]) (rest := [(.ref a1)]) (lenOf pd_I___I rfl) rfl (by show 2 * 0 + _ ≤ _; exact Nat.le_of_eq rfl) (hb hby d_prog_42_method_1_27) (fun _ _ => ⟨rfl, e37, (by decide : 1 + 0 ≤ _), (by decide : 16 + 0 ≤ _)⟩)
  dsimp only [Pt.U, Pt.locs, Pt.cells, Pt.slots] at X40 l40 y40 z40 st40 hQ40
  subst l40 y40 z40
  obtain ⟨rfl, Nq40, K40⟩ := hQ40
  have N40 := Fr.app N37 Nq40
  refine own_go (fun _ k => st40.trans k) ?_
  show OwnGo p e below _ (T40.setTop (mkF m 30 #[.val (.ref a1), .val (.ref a2), .val (.ref aNONE)] [.null, (.ref a1)]))
  have F41 := ((((Ftree.ext E24).other W29 (Or.inr (slot_ne (a0 := a0) (C := "com/example/vesper/vesper/store/Table") (Or.inl (hw _ (List.mem_of_getElem? (i := 41) rfl))) (Or.inl (hw _ (List.mem_of_getElem? (i := 27) rfl))) (by decide) (t := (.array .int)) (t' := (.array (.object "com/example/vesper/vesper/store/Entry"))) (by decide) (by decide)))).other W33 (Or.inr (slot_ne (a0 := a0) (C := "com/example/vesper/vesper/store/Table") (Or.inl (hw _ (List.mem_of_getElem? (i := 41) rfl))) (Or.inr (hw _ (List.mem_of_getElem? (i := 29) rfl))) (by decide) (t := (.array .int)) (t' := (.object "com/example/vesper/vesper/store/SipHash")) (by decide) (by decide)))).other W37 (Or.inr (slot_ne (a0 := a0) (C := "com/example/vesper/vesper/store/Table") (Or.inl (hw _ (List.mem_of_getElem? (i := 41) rfl))) (Or.inl (hw _ (List.mem_of_getElem? (i := 31) rfl))) (by decide) (t := (.array .int)) (t' := (.object "com/example/vesper/vesper/store/Evictor$Scope")) (by decide) (by decide))))
  obtain ⟨T42, h42, X42, e42, W42, st42⟩ := putF X40 hx hZ hown (host := "") (Or.inl (hw _ (List.mem_of_getElem? (i := 40) rfl))) Via.refl K40 F41 F39 (Or.inl (hw _ (List.mem_of_getElem? (i := 41) rfl))) (hw _ (List.mem_of_getElem? (i := 5) rfl)) (ty := (.array .int)) (by decide) rfl rfl (g := (mkF m 30 #[.val (.ref a1), .val (.ref a2), .val (.ref aNONE)] [.null, (.ref a1)])) rfl rfl (hb hby d_prog_42_method_1_30)
  have N42 := Fr.snoc X42 N40 pg1
  have O42 := O37.wr W42 pg1
  have z43 : h0.size ≤ h42.size := Nat.le_trans z38 (Nat.le_of_eq W42.size.symm)
  have F42 : Fld Z h42 a1 "com/example/vesper/vesper/store/Table" "tree" "[I" .null := F41.same W42
  refine own_go st42 ?_
  show OwnGo p e below _ (T42.setTop (mkF m 33 #[.val (.ref a1), .val (.ref a2), .val (.ref aNONE)] []))
  obtain ⟨fs, hr, hrun, hended, hW, hsame⟩ := X42.leave (v := none) (fun h => rfl)
  refine ⟨_, _, X42.returnOut hx Bd.returns (hb hby d_prog_42_method_1_33) hr, hrun, hended, _, _, rfl, ?_, ⟨_, rfl⟩, hW, hsame.mono (by decide) (by decide)⟩
  show Q_ti0 Z aNONE aEXPIRING_KEYS aALL_KEYS a1 a2 h0 n0 _ T42.heap _
  rw [e42]
  have F44 := (((F29.other W33 (Or.inr (slot_ne (a0 := a0) (C := "com/example/vesper/vesper/store/Table") (Or.inl (hw _ (List.mem_of_getElem? (i := 27) rfl))) (Or.inr (hw _ (List.mem_of_getElem? (i := 29) rfl))) (by decide) (t := (.array (.object "com/example/vesper/vesper/store/Entry"))) (t' := (.object "com/example/vesper/vesper/store/SipHash")) (by decide) (by decide)))).other W37 (Or.inr (slot_ne (a0 := a0) (C := "com/example/vesper/vesper/store/Table") (Or.inl (hw _ (List.mem_of_getElem? (i := 27) rfl))) (Or.inl (hw _ (List.mem_of_getElem? (i := 31) rfl))) (by decide) (t := (.array (.object "com/example/vesper/vesper/store/Entry"))) (t' := (.object "com/example/vesper/vesper/store/Evictor$Scope")) (by decide) (by decide)))).other W42 (Or.inr (slot_ne (a0 := a0) (C := "com/example/vesper/vesper/store/Table") (Or.inl (hw _ (List.mem_of_getElem? (i := 27) rfl))) (Or.inl (hw _ (List.mem_of_getElem? (i := 41) rfl))) (by decide) (t := (.array (.object "com/example/vesper/vesper/store/Entry"))) (t' := (.array .int)) (by decide) (by decide))))
  have F45 := (((((Fsize.ext E24).other W29 (Or.inr (slot_ne (a0 := a0) (C := "com/example/vesper/vesper/store/Table") (Or.inl (hw _ (List.mem_of_getElem? (i := 59) rfl))) (Or.inl (hw _ (List.mem_of_getElem? (i := 27) rfl))) (by decide) (t := .int) (t' := (.array (.object "com/example/vesper/vesper/store/Entry"))) (by decide) (by decide)))).other W33 (Or.inr (slot_ne (a0 := a0) (C := "com/example/vesper/vesper/store/Table") (Or.inl (hw _ (List.mem_of_getElem? (i := 59) rfl))) (Or.inr (hw _ (List.mem_of_getElem? (i := 29) rfl))) (by decide) (t := .int) (t' := (.object "com/example/vesper/vesper/store/SipHash")) (by decide) (by decide)))).other W37 (Or.inr (slot_ne (a0 := a0) (C := "com/example/vesper/vesper/store/Table") (Or.inl (hw _ (List.mem_of_getElem? (i := 59) rfl))) (Or.inl (hw _ (List.mem_of_getElem? (i := 31) rfl))) (by decide) (t := .int) (t' := (.object "com/example/vesper/vesper/store/Evictor$Scope")) (by decide) (by decide)))).other W42 (Or.inr (slot_ne (a0 := a0) (C := "com/example/vesper/vesper/store/Table") (Or.inl (hw _ (List.mem_of_getElem? (i := 59) rfl))) (Or.inl (hw _ (List.mem_of_getElem? (i := 41) rfl))) (by decide) (t := .int) (t' := (.array .int)) (by decide) (by decide))))
  have F46 := ((((V24.other W29 (Ne.symm ne25)).other W33 (Ne.symm ne25)).other W37 (Ne.symm ne25)).other W42 (Ne.symm ne25))
  exact ⟨a24, k24, rfl, N42, ((((((Keep.refl _ [a1]).ext E24).wr W29 (Or.inl (List.mem_of_getElem? (i := 0) rfl))).wr W33 (Or.inl (List.mem_of_getElem? (i := 0) rfl))).wr W37 (Or.inl (List.mem_of_getElem? (i := 0) rfl))).wr W42 (Or.inl (List.mem_of_getElem? (i := 0) rfl))), F44, F45, F46, gh24⟩
def Q_ti1 (Z : State) (aNONE aEXPIRING_KEYS aALL_KEYS : Addr) (a1 : Addr) (a2 : Addr) (h0 : Heap) (n0 : Nat) (v : Option Value) (h : Heap) (L : List Loc) : Prop := ∃ (r9 : Addr) (k9 : ClassId), v = none ∧ Fr n0 L ∧ Keep h0 h [a1] ∧ Fld Z h a1 "com/example/vesper/vesper/store/Table" "buckets" "[Lcom/example/vesper/vesper/store/Entry;" (.ref r9) ∧ Fld Z h a1 "com/example/vesper/vesper/store/Table" "size" "I" (.int (0 : Int32)) ∧ Arv Z h r9 k9 (.object "com/example/vesper/vesper/store/Entry") (16 : Int32) [.null, .null, .null, .null, .null, .null, .null, .null, .null, .null, .null, .null, .null, .null, .null, .null] .null ∧ h0.size ≤ r9
theorem ef_ti1 (m : MethodId) (x0 : Addr) (x1 : Addr) (x2 : Addr) : entryFrame m #[(.ref x0), (.ref x1), (.ref x2)] 3 = mkF m 0 #[.val (.ref x0), .val (.ref x1), .val (.ref x2)] [] := by first | (simp [entryFrame, mkF, argsToLocals, Value.category]; done) | rfl
set_option maxRecDepth 65536 in
set_option maxHeartbeats 40000000 in
theorem rm_ti1 (l : Launch) (Z : State) (a0 : Array Value) (hw : ∀ d ∈ tables_1, d.before a0 Z = true) (ws : List Jvm.Cond) (aNONE aEXPIRING_KEYS aALL_KEYS : Addr) (F0 : OwnFacts Z aNONE aEXPIRING_KEYS aALL_KEYS) (a1 : Addr) (a2 : Addr) (h0 : Heap) (n0 : Nat) (O0 : Old Z n0 h0) (Fbuckets : Fld Z h0 a1 "com/example/vesper/vesper/store/Table" "buckets" "[Lcom/example/vesper/vesper/store/Entry;" .null) (Fhash : Fld Z h0 a1 "com/example/vesper/vesper/store/Table" "hash" "Lcom/example/vesper/vesper/store/SipHash;" .null) (Fcounted : Fld Z h0 a1 "com/example/vesper/vesper/store/Table" "counted" "Lcom/example/vesper/vesper/store/Evictor$Scope;" .null) (Ftree : Fld Z h0 a1 "com/example/vesper/vesper/store/Table" "tree" "[I" .null) (Fsize : Fld Z h0 a1 "com/example/vesper/vesper/store/Table" "size" "I" (.int (0 : Int32))) (PE1 : Exa Z h0 a1 "com/example/vesper/vesper/store/Table") (pg1 : n0 ≤ a1) :
    MetFree l (⟨"com/example/vesper/vesper/store/Table", "<init>", "(Lcom/example/vesper/vesper/store/SipHash;Lcom/example/vesper/vesper/store/Evictor$Scope;)V"⟩ : MethodName) (head1 (Jvm.Cond.code (⟨"com/example/vesper/vesper/store/Table", "<init>", "(Lcom/example/vesper/vesper/store/SipHash;Lcom/example/vesper/vesper/store/Evictor$Scope;)V"⟩ : MethodName) prog_42_method_1_code 3 none :: ws) ({ frames := 3, cells := 2, slots := 18, locals := 41 } : Room)) (fun a U => a = #[(.ref a1), (.ref a2), (.ref aALL_KEYS)] ∧ Z.Warmed39 U.vm ∧ U.heap = h0) (fun _ _ _ _ _ => True) (fun _ U o U' => ∃ v L, o = .returned v ∧ Q_ti1 Z aNONE aEXPIRING_KEYS aALL_KEYS a1 a2 h0 n0 v U'.heap L ∧ FrameEnd U o U' L ({ frames := 3, cells := 2, slots := 18, locals := 41 } : Room).cells ({ frames := 3, cells := 2, slots := 18, locals := 41 } : Room).slots) := by
  refine MetFree.of_bodySF (plainFor_of_name pn_com_example_vesper_vesper_store_Table) hisR ?_
  intro p e s m args below meth c s₁ Bd hml0 hP hK
  obtain ⟨rfl, hZ, hh⟩ := hP
  have hx := Bd.exec
  have hby := Bd.bytes
  have hml : c.maxLocals = 3 := hml0
  have hown : s.vm.findClass "com/example/vesper/vesper/store/Table" = some m.cls := findClass_of_methodNamed Bd.named
  have hnm := (name_of_methodNamed Bd.named Bd.method).1
  have X0 : Stand p l e ({ frames := 3, cells := 2, slots := 18, locals := 41 } : Room) s m #[(.ref a1), (.ref a2), (.ref aALL_KEYS)] below meth c s₁ [] 0 0 := Stand.of_body Bd
  have e0 : s₁.heap = h0 := by rw [← hh, Bd.state]; rfl
  have N0 := Fr.nil n0
  refine own_go (Q := fun o U' => ∃ v L, o = .returned v ∧ Q_ti1 Z aNONE aEXPIRING_KEYS aALL_KEYS a1 a2 h0 n0 v U'.heap L ∧ FrameEnd s o U' L ({ frames := 3, cells := 2, slots := 18, locals := 41 } : Room).cells ({ frames := 3, cells := 2, slots := 18, locals := 41 } : Room).slots) (fun t k => castTop (ef_ti1 m a1 a2 aALL_KEYS) k) ?_
  show OwnGo p e below _ (s₁.setTop (mkF m 0 #[.val (.ref a1), .val (.ref a2), .val (.ref aALL_KEYS)] []))
  refine own_go (fun _ k => XS.aloadN X0.here hx rfl (hb hby d_prog_42_method_1_0) rfl rfl k) ?_
  show OwnGo p e below _ (s₁.setTop (mkF m 1 #[.val (.ref a1), .val (.ref a2), .val (.ref aALL_KEYS)] [(.ref a1)]))
  obtain ⟨T47, X47, e47, st47⟩ := initO X0 hx hZ hown (hw _ (List.mem_of_getElem? (i := 23) rfl)) (hw _ (List.mem_of_getElem? (i := 14) rfl)) (hw _ (List.mem_of_getElem? (i := 15) rfl)) e0 (g := (mkF m 1 #[.val (.ref a1), .val (.ref a2), .val (.ref aALL_KEYS)] [(.ref a1)])) rfl (by rw [hml]; rfl) rfl (hb hby d_prog_42_method_1_1) (by decide) (W := 0) (by show 2 * 0 + _ ≤ _; exact Nat.le_of_eq rfl) (by decide)
  refine own_go st47 ?_
  show OwnGo p e below _ (T47.setTop (mkF m 4 #[.val (.ref a1), .val (.ref a2), .val (.ref aALL_KEYS)] []))
  refine own_go (fun _ k => XS.aloadN X47.here hx rfl (hb hby d_prog_42_method_1_4) rfl rfl k) ?_
  show OwnGo p e below _ (T47.setTop (mkF m 5 #[.val (.ref a1), .val (.ref a2), .val (.ref aALL_KEYS)] [(.ref a1)]))
  refine own_go (fun _ k => XS.bipush X47.here hx rfl (hb hby d_prog_42_method_1_5) k) ?_
  show OwnGo p e below _ (T47.setTop (mkF m 7 #[.val (.ref a1), .val (.ref a2), .val (.ref aALL_KEYS)] [(.int (16 : Int32)), (.ref a1)]))
  obtain ⟨T48, h48, k48, X48, e48, E48, A48, B48, st48⟩ := newR X47 hx hZ hown (hw _ (List.mem_of_getElem? (i := 24) rfl)) (hw _ (List.mem_of_getElem? (i := 25) rfl)) e47 (g := (mkF m 7 #[.val (.ref a1), .val (.ref a2), .val (.ref aALL_KEYS)] [(.int (16 : Int32)), (.ref a1)])) rfl (hb hby d_prog_42_method_1_7) rfl (by decide) (cap := 16) (by decide) (by decide) (by decide) (by decide)
  obtain ⟨a48, g48⟩ : ∃ z, z = h0.size := ⟨_, rfl⟩
  rw [← g48] at A48 st48
  have ge48 : n0 ≤ a48 := Nat.le_trans (own_sz O0) (Nat.le_of_eq g48.symm)
  have gh48 : h0.size ≤ a48 := Nat.le_trans (Nat.le_refl _) (Nat.le_of_eq g48.symm)
  have ne49 : a1 ≠ a48 := own_newne g48 PE1.lt
  have O48 := O0.ext E48
  have z50 : h0.size ≤ h48.size := Nat.le_trans (Nat.le_refl _) E48.1
  have V48 : Arv Z h48 a48 k48 (.object "com/example/vesper/vesper/store/Entry") (16 : Int32) [.null, .null, .null, .null, .null, .null, .null, .null, .null, .null, .null, .null, .null, .null, .null, .null] .null := (Arv.new A48 (by decide)).pad (pad_rep [] _ 16)
  refine own_go st48 ?_
  show OwnGo p e below _ (T48.setTop (mkF m 10 #[.val (.ref a1), .val (.ref a2), .val (.ref aALL_KEYS)] [(.ref a48), (.ref a1)]))
  have F51 := (Fbuckets.ext E48)
  have F52 := (PE1.ext E48)
  obtain ⟨T53, h53, X53, e53, W53, st53⟩ := putF X48 hx hZ hown (host := "") (Or.inl (hw _ (List.mem_of_getElem? (i := 26) rfl))) Via.refl e48 F51 F52 (Or.inl (hw _ (List.mem_of_getElem? (i := 27) rfl))) (hw _ (List.mem_of_getElem? (i := 5) rfl)) (ty := (.array (.object "com/example/vesper/vesper/store/Entry"))) (by decide) rfl rfl (g := (mkF m 10 #[.val (.ref a1), .val (.ref a2), .val (.ref aALL_KEYS)] [(.ref a48), (.ref a1)])) rfl rfl (hb hby d_prog_42_method_1_10)
  have N53 := Fr.snoc X53 N0 pg1
  have O53 := O48.wr W53 pg1
  have z54 : h0.size ≤ h53.size := Nat.le_trans z50 (Nat.le_of_eq W53.size.symm)
  have F53 : Fld Z h53 a1 "com/example/vesper/vesper/store/Table" "buckets" "[Lcom/example/vesper/vesper/store/Entry;" (.ref a48) := F51.same W53
  refine own_go st53 ?_
  show OwnGo p e below _ (T53.setTop (mkF m 13 #[.val (.ref a1), .val (.ref a2), .val (.ref aALL_KEYS)] []))
  refine own_go (fun _ k => XS.aloadN X53.here hx rfl (hb hby d_prog_42_method_1_13) rfl rfl k) ?_
  show OwnGo p e below _ (T53.setTop (mkF m 14 #[.val (.ref a1), .val (.ref a2), .val (.ref aALL_KEYS)] [(.ref a1)]))
  refine own_go (fun _ k => XS.aloadN X53.here hx rfl (hb hby d_prog_42_method_1_14) rfl rfl k) ?_
  show OwnGo p e below _ (T53.setTop (mkF m 15 #[.val (.ref a1), .val (.ref a2), .val (.ref aALL_KEYS)] [(.ref a2), (.ref a1)]))
  have F55 := ((Fhash.ext E48).other W53 (Or.inr (slot_ne (a0 := a0) (C := "com/example/vesper/vesper/store/Table") (Or.inr (hw _ (List.mem_of_getElem? (i := 29) rfl))) (Or.inl (hw _ (List.mem_of_getElem? (i := 27) rfl))) (by decide) (t := (.object "com/example/vesper/vesper/store/SipHash")) (t' := (.array (.object "com/example/vesper/vesper/store/Entry"))) (by decide) (by decide))))
  have F56 := (F52.wr W53)
  obtain ⟨T57, h57, X57, e57, W57, st57⟩ := putF X53 hx hZ hown (host := "") (Or.inl (hw _ (List.mem_of_getElem? (i := 28) rfl))) Via.refl e53 F55 F56 (Or.inr ⟨(hw _ (List.mem_of_getElem? (i := 29) rfl)), rfl, hnm⟩) (hw _ (List.mem_of_getElem? (i := 5) rfl)) (ty := (.object "com/example/vesper/vesper/store/SipHash")) (by decide) rfl rfl (g := (mkF m 15 #[.val (.ref a1), .val (.ref a2), .val (.ref aALL_KEYS)] [(.ref a2), (.ref a1)])) rfl rfl (hb hby d_prog_42_method_1_15)
  have N57 := Fr.snoc X57 N53 pg1
  have O57 := O53.wr W57 pg1
  have z58 : h0.size ≤ h57.size := Nat.le_trans z54 (Nat.le_of_eq W57.size.symm)
  have F57 : Fld Z h57 a1 "com/example/vesper/vesper/store/Table" "hash" "Lcom/example/vesper/vesper/store/SipHash;" (.ref a2) := F55.same W57
  refine own_go st57 ?_
  show OwnGo p e below _ (T57.setTop (mkF m 18 #[.val (.ref a1), .val (.ref a2), .val (.ref aALL_KEYS)] []))
  refine own_go (fun _ k => XS.aloadN X57.here hx rfl (hb hby d_prog_42_method_1_18) rfl rfl k) ?_
  show OwnGo p e below _ (T57.setTop (mkF m 19 #[.val (.ref a1), .val (.ref a2), .val (.ref aALL_KEYS)] [(.ref a1)]))
  refine own_go (fun _ k => XS.aloadN X57.here hx rfl (hb hby d_prog_42_method_1_19) rfl rfl k) ?_
  show OwnGo p e below _ (T57.setTop (mkF m 20 #[.val (.ref a1), .val (.ref a2), .val (.ref aALL_KEYS)] [(.ref aALL_KEYS), (.ref a1)]))
  have F59 := (((Fcounted.ext E48).other W53 (Or.inr (slot_ne (a0 := a0) (C := "com/example/vesper/vesper/store/Table") (Or.inl (hw _ (List.mem_of_getElem? (i := 31) rfl))) (Or.inl (hw _ (List.mem_of_getElem? (i := 27) rfl))) (by decide) (t := (.object "com/example/vesper/vesper/store/Evictor$Scope")) (t' := (.array (.object "com/example/vesper/vesper/store/Entry"))) (by decide) (by decide)))).other W57 (Or.inr (slot_ne (a0 := a0) (C := "com/example/vesper/vesper/store/Table") (Or.inl (hw _ (List.mem_of_getElem? (i := 31) rfl))) (Or.inr (hw _ (List.mem_of_getElem? (i := 29) rfl))) (by decide) (t := (.object "com/example/vesper/vesper/store/Evictor$Scope")) (t' := (.object "com/example/vesper/vesper/store/SipHash")) (by decide) (by decide))))
  have F60 := (F56.wr W57)
  obtain ⟨T61, h61, X61, e61, W61, st61⟩ := putF X57 hx hZ hown (host := "") (Or.inl (hw _ (List.mem_of_getElem? (i := 30) rfl))) Via.refl e57 F59 F60 (Or.inl (hw _ (List.mem_of_getElem? (i := 31) rfl))) (hw _ (List.mem_of_getElem? (i := 5) rfl)) (ty := (.object "com/example/vesper/vesper/store/Evictor$Scope")) (by decide) rfl rfl (g := (mkF m 20 #[.val (.ref a1), .val (.ref a2), .val (.ref aALL_KEYS)] [(.ref aALL_KEYS), (.ref a1)])) rfl rfl (hb hby d_prog_42_method_1_20)
  have N61 := Fr.snoc X61 N57 pg1
  have O61 := O57.wr W61 pg1
  have z62 : h0.size ≤ h61.size := Nat.le_trans z58 (Nat.le_of_eq W61.size.symm)
  have F61 : Fld Z h61 a1 "com/example/vesper/vesper/store/Table" "counted" "Lcom/example/vesper/vesper/store/Evictor$Scope;" (.ref aALL_KEYS) := F59.same W61
  refine own_go st61 ?_
  show OwnGo p e below _ (T61.setTop (mkF m 23 #[.val (.ref a1), .val (.ref a2), .val (.ref aALL_KEYS)] []))
  refine own_go (fun _ k => XS.aloadN X61.here hx rfl (hb hby d_prog_42_method_1_23) rfl rfl k) ?_
  show OwnGo p e below _ (T61.setTop (mkF m 24 #[.val (.ref a1), .val (.ref a2), .val (.ref aALL_KEYS)] [(.ref a1)]))
  refine own_go (fun _ k => XS.aloadN X61.here hx rfl (hb hby d_prog_42_method_1_24) rfl rfl k) ?_
  show OwnGo p e below _ (T61.setTop (mkF m 25 #[.val (.ref a1), .val (.ref a2), .val (.ref aALL_KEYS)] [(.ref a1), (.ref a1)]))
  refine own_go (fun _ k => XS.bipush X61.here hx rfl (hb hby d_prog_42_method_1_25) k) ?_
  show OwnGo p e below _ (T61.setTop (mkF m 27 #[.val (.ref a1), .val (.ref a2), .val (.ref aALL_KEYS)] [(.int (16 : Int32)), (.ref a1), (.ref a1)]))
  have F63 := (F60.wr W61)
  have F64 := (((V48.other W53 (Ne.symm ne49)).other W57 (Ne.symm ne49)).other W61 (Ne.symm ne49))
  obtain ⟨cl65, hcl65, hob65⟩ := F63.cell
  obtain ⟨_, _, ⟨T65, L65, k65, n65⟩, -, X65, ⟨Lc65, hQ65, l65, y65, z65⟩, st65⟩ := X61.privateBack hx (y := (⟨"com/example/vesper/vesper/store/Table", "newTree", "(I)[I"⟩ : MethodName)) hown (mvT hZ (hw _ (List.mem_of_getElem? (i := 32) rfl))) (mvT hZ (hw _ (List.mem_of_getElem? (i := 33) rfl))) (own_selp hZ (hw _ (List.mem_of_getElem? (i := 5) rfl)) (hw _ (List.mem_of_getElem? (i := 34) rfl)) (hw _ (List.mem_of_getElem? (i := 33) rfl)) (by decide)) (Cond.privateMethod_at (mvP hZ (hw _ (List.mem_of_getElem? (i := 34) rfl)) (args := #[]))) (mvT hZ (hw _ (List.mem_of_getElem? (i := 35) rfl))) (by decide) (backOf (W := 1) (rm_nt1 l Z a0 hw [] aNONE aEXPIRING_KEYS aALL_KEYS F0 a1 h61 n0 O61 F61) hZ (hw _ (List.mem_of_getElem? (i := 35) rfl)) (hw _ (List.mem_of_getElem? (i := 6) rfl)) (by decide) (by decide)) (g := (mkF m 27 #[.val (.ref a1), .val (.ref a2), .val (.ref aALL_KEYS)] [(.int (16 : Int32)), (.ref a1), (.ref a1)])) rfl (by rw [hml]; rfl) (Steps.refl _) (a := a1) (by rw [e61]; exact hcl65) hob65 (argsL := [(.int (16 : Int32))]) (rest := [(.ref a1)]) (lenOf pd_I___I rfl) rfl (by show 2 * 0 + _ ≤ _; exact Nat.le_of_eq rfl) (hb hby d_prog_42_method_1_27) (fun _ _ => ⟨rfl, e61, (by decide : 1 + 1 ≤ _), (by decide : 16 + 2 ≤ _)⟩)
  dsimp only [Pt.U, Pt.locs, Pt.cells, Pt.slots] at X65 l65 y65 z65 st65 hQ65
  subst l65 y65 z65
  obtain ⟨r8_65, rfl, Nq65, K65, x65_0⟩ := hQ65
  have N65 := Fr.app N61 Nq65
  have O65 := O61.keep K65 all0
  have e65 : T65.heap = T65.heap := rfl
  have z66 : h0.size ≤ T65.heap.size := Nat.le_trans z62 K65.1
  have gex65_0 : n0 ≤ r8_65 := Nat.le_trans (own_sz O61) x65_0
  have ghx65_0 : h0.size ≤ r8_65 := Nat.le_trans z62 x65_0
  have ne67 : a1 ≠ r8_65 := own_newlt F63.lt x65_0
  have ne68 : a48 ≠ r8_65 := own_newlt F64.lt x65_0
  refine own_go (fun _ k => st65.trans k) ?_
  show OwnGo p e below _ (T65.setTop (mkF m 30 #[.val (.ref a1), .val (.ref a2), .val (.ref aALL_KEYS)] [(.ref r8_65), (.ref a1)]))
  have F69 := (((((Ftree.ext E48).other W53 (Or.inr (slot_ne (a0 := a0) (C := "com/example/vesper/vesper/store/Table") (Or.inl (hw _ (List.mem_of_getElem? (i := 41) rfl))) (Or.inl (hw _ (List.mem_of_getElem? (i := 27) rfl))) (by decide) (t := (.array .int)) (t' := (.array (.object "com/example/vesper/vesper/store/Entry"))) (by decide) (by decide)))).other W57 (Or.inr (slot_ne (a0 := a0) (C := "com/example/vesper/vesper/store/Table") (Or.inl (hw _ (List.mem_of_getElem? (i := 41) rfl))) (Or.inr (hw _ (List.mem_of_getElem? (i := 29) rfl))) (by decide) (t := (.array .int)) (t' := (.object "com/example/vesper/vesper/store/SipHash")) (by decide) (by decide)))).other W61 (Or.inr (slot_ne (a0 := a0) (C := "com/example/vesper/vesper/store/Table") (Or.inl (hw _ (List.mem_of_getElem? (i := 41) rfl))) (Or.inl (hw _ (List.mem_of_getElem? (i := 31) rfl))) (by decide) (t := (.array .int)) (t' := (.object "com/example/vesper/vesper/store/Evictor$Scope")) (by decide) (by decide)))).keep K65 nin0)
  have F70 := (F63.keep K65)
  obtain ⟨T71, h71, X71, e71, W71, st71⟩ := putF X65 hx hZ hown (host := "") (Or.inl (hw _ (List.mem_of_getElem? (i := 40) rfl))) Via.refl e65 F69 F70 (Or.inl (hw _ (List.mem_of_getElem? (i := 41) rfl))) (hw _ (List.mem_of_getElem? (i := 5) rfl)) (ty := (.array .int)) (by decide) rfl rfl (g := (mkF m 30 #[.val (.ref a1), .val (.ref a2), .val (.ref aALL_KEYS)] [(.ref r8_65), (.ref a1)])) rfl rfl (hb hby d_prog_42_method_1_30)
  have N71 := Fr.snoc X71 N65 pg1
  have O71 := O65.wr W71 pg1
  have z72 : h0.size ≤ h71.size := Nat.le_trans z66 (Nat.le_of_eq W71.size.symm)
  have F71 : Fld Z h71 a1 "com/example/vesper/vesper/store/Table" "tree" "[I" (.ref r8_65) := F69.same W71
  refine own_go st71 ?_
  show OwnGo p e below _ (T71.setTop (mkF m 33 #[.val (.ref a1), .val (.ref a2), .val (.ref aALL_KEYS)] []))
  obtain ⟨fs, hr, hrun, hended, hW, hsame⟩ := X71.leave (v := none) (fun h => rfl)
  refine ⟨_, _, X71.returnOut hx Bd.returns (hb hby d_prog_42_method_1_33) hr, hrun, hended, _, _, rfl, ?_, ⟨_, rfl⟩, hW, hsame.mono (by decide) (by decide)⟩
  show Q_ti1 Z aNONE aEXPIRING_KEYS aALL_KEYS a1 a2 h0 n0 _ T71.heap _
  rw [e71]
  have F73 := ((((F53.other W57 (Or.inr (slot_ne (a0 := a0) (C := "com/example/vesper/vesper/store/Table") (Or.inl (hw _ (List.mem_of_getElem? (i := 27) rfl))) (Or.inr (hw _ (List.mem_of_getElem? (i := 29) rfl))) (by decide) (t := (.array (.object "com/example/vesper/vesper/store/Entry"))) (t' := (.object "com/example/vesper/vesper/store/SipHash")) (by decide) (by decide)))).other W61 (Or.inr (slot_ne (a0 := a0) (C := "com/example/vesper/vesper/store/Table") (Or.inl (hw _ (List.mem_of_getElem? (i := 27) rfl))) (Or.inl (hw _ (List.mem_of_getElem? (i := 31) rfl))) (by decide) (t := (.array (.object "com/example/vesper/vesper/store/Entry"))) (t' := (.object "com/example/vesper/vesper/store/Evictor$Scope")) (by decide) (by decide)))).keep K65 nin0).other W71 (Or.inr (slot_ne (a0 := a0) (C := "com/example/vesper/vesper/store/Table") (Or.inl (hw _ (List.mem_of_getElem? (i := 27) rfl))) (Or.inl (hw _ (List.mem_of_getElem? (i := 41) rfl))) (by decide) (t := (.array (.object "com/example/vesper/vesper/store/Entry"))) (t' := (.array .int)) (by decide) (by decide))))
  have F74 := ((((((Fsize.ext E48).other W53 (Or.inr (slot_ne (a0 := a0) (C := "com/example/vesper/vesper/store/Table") (Or.inl (hw _ (List.mem_of_getElem? (i := 59) rfl))) (Or.inl (hw _ (List.mem_of_getElem? (i := 27) rfl))) (by decide) (t := .int) (t' := (.array (.object "com/example/vesper/vesper/store/Entry"))) (by decide) (by decide)))).other W57 (Or.inr (slot_ne (a0 := a0) (C := "com/example/vesper/vesper/store/Table") (Or.inl (hw _ (List.mem_of_getElem? (i := 59) rfl))) (Or.inr (hw _ (List.mem_of_getElem? (i := 29) rfl))) (by decide) (t := .int) (t' := (.object "com/example/vesper/vesper/store/SipHash")) (by decide) (by decide)))).other W61 (Or.inr (slot_ne (a0 := a0) (C := "com/example/vesper/vesper/store/Table") (Or.inl (hw _ (List.mem_of_getElem? (i := 59) rfl))) (Or.inl (hw _ (List.mem_of_getElem? (i := 31) rfl))) (by decide) (t := .int) (t' := (.object "com/example/vesper/vesper/store/Evictor$Scope")) (by decide) (by decide)))).keep K65 nin0).other W71 (Or.inr (slot_ne (a0 := a0) (C := "com/example/vesper/vesper/store/Table") (Or.inl (hw _ (List.mem_of_getElem? (i := 59) rfl))) (Or.inl (hw _ (List.mem_of_getElem? (i := 41) rfl))) (by decide) (t := .int) (t' := (.array .int)) (by decide) (by decide))))
  have F75 := ((F64.keep K65 nin0).other W71 (Ne.symm ne49))
  exact ⟨a48, k48, rfl, N71, (((((((Keep.refl _ [a1]).ext E48).wr W53 (Or.inl (List.mem_of_getElem? (i := 0) rfl))).wr W57 (Or.inl (List.mem_of_getElem? (i := 0) rfl))).wr W61 (Or.inl (List.mem_of_getElem? (i := 0) rfl))).trans K65 all0).wr W71 (Or.inl (List.mem_of_getElem? (i := 0) rfl))), F73, F74, F75, gh48⟩
def Q_ti2 (Z : State) (aNONE aEXPIRING_KEYS aALL_KEYS : Addr) (a1 : Addr) (a2 : Addr) (h0 : Heap) (n0 : Nat) (v : Option Value) (h : Heap) (L : List Loc) : Prop := ∃ (r9 : Addr) (k9 : ClassId), v = none ∧ Fr n0 L ∧ Keep h0 h [a1] ∧ Fld Z h a1 "com/example/vesper/vesper/store/Table" "buckets" "[Lcom/example/vesper/vesper/store/Entry;" (.ref r9) ∧ Fld Z h a1 "com/example/vesper/vesper/store/Table" "size" "I" (.int (0 : Int32)) ∧ Arv Z h r9 k9 (.object "com/example/vesper/vesper/store/Entry") (16 : Int32) [.null, .null, .null, .null, .null, .null, .null, .null, .null, .null, .null, .null, .null, .null, .null, .null] .null ∧ h0.size ≤ r9
theorem ef_ti2 (m : MethodId) (x0 : Addr) (x1 : Addr) (x2 : Addr) : entryFrame m #[(.ref x0), (.ref x1), (.ref x2)] 3 = mkF m 0 #[.val (.ref x0), .val (.ref x1), .val (.ref x2)] [] := by first | (simp [entryFrame, mkF, argsToLocals, Value.category]; done) | rfl
set_option maxRecDepth 65536 in
set_option maxHeartbeats 40000000 in
theorem rm_ti2 (l : Launch) (Z : State) (a0 : Array Value) (hw : ∀ d ∈ tables_1, d.before a0 Z = true) (ws : List Jvm.Cond) (aNONE aEXPIRING_KEYS aALL_KEYS : Addr) (F0 : OwnFacts Z aNONE aEXPIRING_KEYS aALL_KEYS) (a1 : Addr) (a2 : Addr) (h0 : Heap) (n0 : Nat) (O0 : Old Z n0 h0) (Fbuckets : Fld Z h0 a1 "com/example/vesper/vesper/store/Table" "buckets" "[Lcom/example/vesper/vesper/store/Entry;" .null) (Fhash : Fld Z h0 a1 "com/example/vesper/vesper/store/Table" "hash" "Lcom/example/vesper/vesper/store/SipHash;" .null) (Fcounted : Fld Z h0 a1 "com/example/vesper/vesper/store/Table" "counted" "Lcom/example/vesper/vesper/store/Evictor$Scope;" .null) (Ftree : Fld Z h0 a1 "com/example/vesper/vesper/store/Table" "tree" "[I" .null) (Fsize : Fld Z h0 a1 "com/example/vesper/vesper/store/Table" "size" "I" (.int (0 : Int32))) (PE1 : Exa Z h0 a1 "com/example/vesper/vesper/store/Table") (pg1 : n0 ≤ a1) :
    MetFree l (⟨"com/example/vesper/vesper/store/Table", "<init>", "(Lcom/example/vesper/vesper/store/SipHash;Lcom/example/vesper/vesper/store/Evictor$Scope;)V"⟩ : MethodName) (head1 (Jvm.Cond.code (⟨"com/example/vesper/vesper/store/Table", "<init>", "(Lcom/example/vesper/vesper/store/SipHash;Lcom/example/vesper/vesper/store/Evictor$Scope;)V"⟩ : MethodName) prog_42_method_1_code 3 none :: ws) ({ frames := 3, cells := 2, slots := 18, locals := 41 } : Room)) (fun a U => a = #[(.ref a1), (.ref a2), (.ref aEXPIRING_KEYS)] ∧ Z.Warmed39 U.vm ∧ U.heap = h0) (fun _ _ _ _ _ => True) (fun _ U o U' => ∃ v L, o = .returned v ∧ Q_ti2 Z aNONE aEXPIRING_KEYS aALL_KEYS a1 a2 h0 n0 v U'.heap L ∧ FrameEnd U o U' L ({ frames := 3, cells := 2, slots := 18, locals := 41 } : Room).cells ({ frames := 3, cells := 2, slots := 18, locals := 41 } : Room).slots) := by
  refine MetFree.of_bodySF (plainFor_of_name pn_com_example_vesper_vesper_store_Table) hisR ?_
  intro p e s m args below meth c s₁ Bd hml0 hP hK
  obtain ⟨rfl, hZ, hh⟩ := hP
  have hx := Bd.exec
  have hby := Bd.bytes
  have hml : c.maxLocals = 3 := hml0
  have hown : s.vm.findClass "com/example/vesper/vesper/store/Table" = some m.cls := findClass_of_methodNamed Bd.named
  have hnm := (name_of_methodNamed Bd.named Bd.method).1
  have X0 : Stand p l e ({ frames := 3, cells := 2, slots := 18, locals := 41 } : Room) s m #[(.ref a1), (.ref a2), (.ref aEXPIRING_KEYS)] below meth c s₁ [] 0 0 := Stand.of_body Bd
  have e0 : s₁.heap = h0 := by rw [← hh, Bd.state]; rfl
  have N0 := Fr.nil n0
  refine own_go (Q := fun o U' => ∃ v L, o = .returned v ∧ Q_ti2 Z aNONE aEXPIRING_KEYS aALL_KEYS a1 a2 h0 n0 v U'.heap L ∧ FrameEnd s o U' L ({ frames := 3, cells := 2, slots := 18, locals := 41 } : Room).cells ({ frames := 3, cells := 2, slots := 18, locals := 41 } : Room).slots) (fun t k => castTop (ef_ti2 m a1 a2 aEXPIRING_KEYS) k) ?_
  show OwnGo p e below _ (s₁.setTop (mkF m 0 #[.val (.ref a1), .val (.ref a2), .val (.ref aEXPIRING_KEYS)] []))
  refine own_go (fun _ k => XS.aloadN X0.here hx rfl (hb hby d_prog_42_method_1_0) rfl rfl k) ?_
  show OwnGo p e below _ (s₁.setTop (mkF m 1 #[.val (.ref a1), .val (.ref a2), .val (.ref aEXPIRING_KEYS)] [(.ref a1)]))
  obtain ⟨T76, X76, e76, st76⟩ := initO X0 hx hZ hown (hw _ (List.mem_of_getElem? (i := 23) rfl)) (hw _ (List.mem_of_getElem? (i := 14) rfl)) (hw _ (List.mem_of_getElem? (i := 15) rfl)) e0 (g := (mkF m 1 #[.val (.ref a1), .val (.ref a2), .val (.ref aEXPIRING_KEYS)] [(.ref a1)])) rfl (by rw [hml]; rfl) rfl (hb hby d_prog_42_method_1_1) (by decide) (W := 0) (by show 2 * 0 + _ ≤ _; exact Nat.le_of_eq rfl) (by decide)
  refine own_go st76 ?_
  show OwnGo p e below _ (T76.setTop (mkF m 4 #[.val (.ref a1), .val (.ref a2), .val (.ref aEXPIRING_KEYS)] []))
  refine own_go (fun _ k => XS.aloadN X76.here hx rfl (hb hby d_prog_42_method_1_4) rfl rfl k) ?_
  show OwnGo p e below _ (T76.setTop (mkF m 5 #[.val (.ref a1), .val (.ref a2), .val (.ref aEXPIRING_KEYS)] [(.ref a1)]))
  refine own_go (fun _ k => XS.bipush X76.here hx rfl (hb hby d_prog_42_method_1_5) k) ?_
  show OwnGo p e below _ (T76.setTop (mkF m 7 #[.val (.ref a1), .val (.ref a2), .val (.ref aEXPIRING_KEYS)] [(.int (16 : Int32)), (.ref a1)]))
  obtain ⟨T77, h77, k77, X77, e77, E77, A77, B77, st77⟩ := newR X76 hx hZ hown (hw _ (List.mem_of_getElem? (i := 24) rfl)) (hw _ (List.mem_of_getElem? (i := 25) rfl)) e76 (g := (mkF m 7 #[.val (.ref a1), .val (.ref a2), .val (.ref aEXPIRING_KEYS)] [(.int (16 : Int32)), (.ref a1)])) rfl (hb hby d_prog_42_method_1_7) rfl (by decide) (cap := 16) (by decide) (by decide) (by decide) (by decide)
  obtain ⟨a77, g77⟩ : ∃ z, z = h0.size := ⟨_, rfl⟩
  rw [← g77] at A77 st77
  have ge77 : n0 ≤ a77 := Nat.le_trans (own_sz O0) (Nat.le_of_eq g77.symm)
  have gh77 : h0.size ≤ a77 := Nat.le_trans (Nat.le_refl _) (Nat.le_of_eq g77.symm)
  have ne78 : a1 ≠ a77 := own_newne g77 PE1.lt
  have O77 := O0.ext E77
  have z79 : h0.size ≤ h77.size := Nat.le_trans (Nat.le_refl _) E77.1
  have V77 : Arv Z h77 a77 k77 (.object "com/example/vesper/vesper/store/Entry") (16 : Int32) [.null, .null, .null, .null, .null, .null, .null, .null, .null, .null, .null, .null, .null, .null, .null, .null] .null := (Arv.new A77 (by decide)).pad (pad_rep [] _ 16)
  refine own_go st77 ?_
  show OwnGo p e below _ (T77.setTop (mkF m 10 #[.val (.ref a1), .val (.ref a2), .val (.ref aEXPIRING_KEYS)] [(.ref a77), (.ref a1)]))
  have F80 := (Fbuckets.ext E77)
  have F81 := (PE1.ext E77)
  obtain ⟨T82, h82, X82, e82, W82, st82⟩ := putF X77 hx hZ hown (host := "") (Or.inl (hw _ (List.mem_of_getElem? (i := 26) rfl))) Via.refl e77 F80 F81 (Or.inl (hw _ (List.mem_of_getElem? (i := 27) rfl))) (hw _ (List.mem_of_getElem? (i := 5) rfl)) (ty := (.array (.object "com/example/vesper/vesper/store/Entry"))) (by decide) rfl rfl (g := (mkF m 10 #[.val (.ref a1), .val (.ref a2), .val (.ref aEXPIRING_KEYS)] [(.ref a77), (.ref a1)])) rfl rfl (hb hby d_prog_42_method_1_10)
  have N82 := Fr.snoc X82 N0 pg1
  have O82 := O77.wr W82 pg1
  have z83 : h0.size ≤ h82.size := Nat.le_trans z79 (Nat.le_of_eq W82.size.symm)
  have F82 : Fld Z h82 a1 "com/example/vesper/vesper/store/Table" "buckets" "[Lcom/example/vesper/vesper/store/Entry;" (.ref a77) := F80.same W82
  refine own_go st82 ?_
  show OwnGo p e below _ (T82.setTop (mkF m 13 #[.val (.ref a1), .val (.ref a2), .val (.ref aEXPIRING_KEYS)] []))
  refine own_go (fun _ k => XS.aloadN X82.here hx rfl (hb hby d_prog_42_method_1_13) rfl rfl k) ?_
  show OwnGo p e below _ (T82.setTop (mkF m 14 #[.val (.ref a1), .val (.ref a2), .val (.ref aEXPIRING_KEYS)] [(.ref a1)]))
  refine own_go (fun _ k => XS.aloadN X82.here hx rfl (hb hby d_prog_42_method_1_14) rfl rfl k) ?_
  show OwnGo p e below _ (T82.setTop (mkF m 15 #[.val (.ref a1), .val (.ref a2), .val (.ref aEXPIRING_KEYS)] [(.ref a2), (.ref a1)]))
  have F84 := ((Fhash.ext E77).other W82 (Or.inr (slot_ne (a0 := a0) (C := "com/example/vesper/vesper/store/Table") (Or.inr (hw _ (List.mem_of_getElem? (i := 29) rfl))) (Or.inl (hw _ (List.mem_of_getElem? (i := 27) rfl))) (by decide) (t := (.object "com/example/vesper/vesper/store/SipHash")) (t' := (.array (.object "com/example/vesper/vesper/store/Entry"))) (by decide) (by decide))))
  have F85 := (F81.wr W82)
  obtain ⟨T86, h86, X86, e86, W86, st86⟩ := putF X82 hx hZ hown (host := "") (Or.inl (hw _ (List.mem_of_getElem? (i := 28) rfl))) Via.refl e82 F84 F85 (Or.inr ⟨(hw _ (List.mem_of_getElem? (i := 29) rfl)), rfl, hnm⟩) (hw _ (List.mem_of_getElem? (i := 5) rfl)) (ty := (.object "com/example/vesper/vesper/store/SipHash")) (by decide) rfl rfl (g := (mkF m 15 #[.val (.ref a1), .val (.ref a2), .val (.ref aEXPIRING_KEYS)] [(.ref a2), (.ref a1)])) rfl rfl (hb hby d_prog_42_method_1_15)
  have N86 := Fr.snoc X86 N82 pg1
  have O86 := O82.wr W86 pg1
  have z87 : h0.size ≤ h86.size := Nat.le_trans z83 (Nat.le_of_eq W86.size.symm)
  have F86 : Fld Z h86 a1 "com/example/vesper/vesper/store/Table" "hash" "Lcom/example/vesper/vesper/store/SipHash;" (.ref a2) := F84.same W86
  refine own_go st86 ?_
  show OwnGo p e below _ (T86.setTop (mkF m 18 #[.val (.ref a1), .val (.ref a2), .val (.ref aEXPIRING_KEYS)] []))
  refine own_go (fun _ k => XS.aloadN X86.here hx rfl (hb hby d_prog_42_method_1_18) rfl rfl k) ?_
  show OwnGo p e below _ (T86.setTop (mkF m 19 #[.val (.ref a1), .val (.ref a2), .val (.ref aEXPIRING_KEYS)] [(.ref a1)]))
  refine own_go (fun _ k => XS.aloadN X86.here hx rfl (hb hby d_prog_42_method_1_19) rfl rfl k) ?_
  show OwnGo p e below _ (T86.setTop (mkF m 20 #[.val (.ref a1), .val (.ref a2), .val (.ref aEXPIRING_KEYS)] [(.ref aEXPIRING_KEYS), (.ref a1)]))
  have F88 := (((Fcounted.ext E77).other W82 (Or.inr (slot_ne (a0 := a0) (C := "com/example/vesper/vesper/store/Table") (Or.inl (hw _ (List.mem_of_getElem? (i := 31) rfl))) (Or.inl (hw _ (List.mem_of_getElem? (i := 27) rfl))) (by decide) (t := (.object "com/example/vesper/vesper/store/Evictor$Scope")) (t' := (.array (.object "com/example/vesper/vesper/store/Entry"))) (by decide) (by decide)))).other W86 (Or.inr (slot_ne (a0 := a0) (C := "com/example/vesper/vesper/store/Table") (Or.inl (hw _ (List.mem_of_getElem? (i := 31) rfl))) (Or.inr (hw _ (List.mem_of_getElem? (i := 29) rfl))) (by decide) (t := (.object "com/example/vesper/vesper/store/Evictor$Scope")) (t' := (.object "com/example/vesper/vesper/store/SipHash")) (by decide) (by decide))))
  have F89 := (F85.wr W86)
  obtain ⟨T90, h90, X90, e90, W90, st90⟩ := putF X86 hx hZ hown (host := "") (Or.inl (hw _ (List.mem_of_getElem? (i := 30) rfl))) Via.refl e86 F88 F89 (Or.inl (hw _ (List.mem_of_getElem? (i := 31) rfl))) (hw _ (List.mem_of_getElem? (i := 5) rfl)) (ty := (.object "com/example/vesper/vesper/store/Evictor$Scope")) (by decide) rfl rfl (g := (mkF m 20 #[.val (.ref a1), .val (.ref a2), .val (.ref aEXPIRING_KEYS)] [(.ref aEXPIRING_KEYS), (.ref a1)])) rfl rfl (hb hby d_prog_42_method_1_20)
  have N90 := Fr.snoc X90 N86 pg1
  have O90 := O86.wr W90 pg1
  have z91 : h0.size ≤ h90.size := Nat.le_trans z87 (Nat.le_of_eq W90.size.symm)
  have F90 : Fld Z h90 a1 "com/example/vesper/vesper/store/Table" "counted" "Lcom/example/vesper/vesper/store/Evictor$Scope;" (.ref aEXPIRING_KEYS) := F88.same W90
  refine own_go st90 ?_
  show OwnGo p e below _ (T90.setTop (mkF m 23 #[.val (.ref a1), .val (.ref a2), .val (.ref aEXPIRING_KEYS)] []))
  refine own_go (fun _ k => XS.aloadN X90.here hx rfl (hb hby d_prog_42_method_1_23) rfl rfl k) ?_
  show OwnGo p e below _ (T90.setTop (mkF m 24 #[.val (.ref a1), .val (.ref a2), .val (.ref aEXPIRING_KEYS)] [(.ref a1)]))
  refine own_go (fun _ k => XS.aloadN X90.here hx rfl (hb hby d_prog_42_method_1_24) rfl rfl k) ?_
  show OwnGo p e below _ (T90.setTop (mkF m 25 #[.val (.ref a1), .val (.ref a2), .val (.ref aEXPIRING_KEYS)] [(.ref a1), (.ref a1)]))
  refine own_go (fun _ k => XS.bipush X90.here hx rfl (hb hby d_prog_42_method_1_25) k) ?_
  show OwnGo p e below _ (T90.setTop (mkF m 27 #[.val (.ref a1), .val (.ref a2), .val (.ref aEXPIRING_KEYS)] [(.int (16 : Int32)), (.ref a1), (.ref a1)]))
  have F92 := (F89.wr W90)
  have F93 := (((V77.other W82 (Ne.symm ne78)).other W86 (Ne.symm ne78)).other W90 (Ne.symm ne78))
  obtain ⟨cl94, hcl94, hob94⟩ := F92.cell
  obtain ⟨_, _, ⟨T94, L94, k94, n94⟩, -, X94, ⟨Lc94, hQ94, l94, y94, z94⟩, st94⟩ := X90.privateBack hx (y := (⟨"com/example/vesper/vesper/store/Table", "newTree", "(I)[I"⟩ : MethodName)) hown (mvT hZ (hw _ (List.mem_of_getElem? (i := 32) rfl))) (mvT hZ (hw _ (List.mem_of_getElem? (i := 33) rfl))) (own_selp hZ (hw _ (List.mem_of_getElem? (i := 5) rfl)) (hw _ (List.mem_of_getElem? (i := 34) rfl)) (hw _ (List.mem_of_getElem? (i := 33) rfl)) (by decide)) (Cond.privateMethod_at (mvP hZ (hw _ (List.mem_of_getElem? (i := 34) rfl)) (args := #[]))) (mvT hZ (hw _ (List.mem_of_getElem? (i := 35) rfl))) (by decide) (backOf (W := 1) (rm_nt2 l Z a0 hw [] aNONE aEXPIRING_KEYS aALL_KEYS F0 a1 h90 n0 O90 F90) hZ (hw _ (List.mem_of_getElem? (i := 35) rfl)) (hw _ (List.mem_of_getElem? (i := 6) rfl)) (by decide) (by decide)) (g := (mkF m 27 #[.val (.ref a1), .val (.ref a2), .val (.ref aEXPIRING_KEYS)] [(.int (16 : Int32)), (.ref a1), (.ref a1)])) rfl (by rw [hml]; rfl) (Steps.refl _) (a := a1) (by rw [e90]; exact hcl94) hob94 (argsL := [(.int (16 : Int32))]) (rest := [(.ref a1)]) (lenOf pd_I___I rfl) rfl (by show 2 * 0 + _ ≤ _; exact Nat.le_of_eq rfl) (hb hby d_prog_42_method_1_27) (fun _ _ => ⟨rfl, e90, (by decide : 1 + 1 ≤ _), (by decide : 16 + 2 ≤ _)⟩)
  dsimp only [Pt.U, Pt.locs, Pt.cells, Pt.slots] at X94 l94 y94 z94 st94 hQ94
  subst l94 y94 z94
  obtain ⟨r8_94, rfl, Nq94, K94, x94_0⟩ := hQ94
  have N94 := Fr.app N90 Nq94
  have O94 := O90.keep K94 all0
  have e94 : T94.heap = T94.heap := rfl
  have z95 : h0.size ≤ T94.heap.size := Nat.le_trans z91 K94.1
  have gex94_0 : n0 ≤ r8_94 := Nat.le_trans (own_sz O90) x94_0
  have ghx94_0 : h0.size ≤ r8_94 := Nat.le_trans z91 x94_0
  have ne96 : a1 ≠ r8_94 := own_newlt F92.lt x94_0
  have ne97 : a77 ≠ r8_94 := own_newlt F93.lt x94_0
  refine own_go (fun _ k => st94.trans k) ?_
  show OwnGo p e below _ (T94.setTop (mkF m 30 #[.val (.ref a1), .val (.ref a2), .val (.ref aEXPIRING_KEYS)] [(.ref r8_94), (.ref a1)]))
  have F98 := (((((Ftree.ext E77).other W82 (Or.inr (slot_ne (a0 := a0) (C := "com/example/vesper/vesper/store/Table") (Or.inl (hw _ (List.mem_of_getElem? (i := 41) rfl))) (Or.inl (hw _ (List.mem_of_getElem? (i := 27) rfl))) (by decide) (t := (.array .int)) (t' := (.array (.object "com/example/vesper/vesper/store/Entry"))) (by decide) (by decide)))).other W86 (Or.inr (slot_ne (a0 := a0) (C := "com/example/vesper/vesper/store/Table") (Or.inl (hw _ (List.mem_of_getElem? (i := 41) rfl))) (Or.inr (hw _ (List.mem_of_getElem? (i := 29) rfl))) (by decide) (t := (.array .int)) (t' := (.object "com/example/vesper/vesper/store/SipHash")) (by decide) (by decide)))).other W90 (Or.inr (slot_ne (a0 := a0) (C := "com/example/vesper/vesper/store/Table") (Or.inl (hw _ (List.mem_of_getElem? (i := 41) rfl))) (Or.inl (hw _ (List.mem_of_getElem? (i := 31) rfl))) (by decide) (t := (.array .int)) (t' := (.object "com/example/vesper/vesper/store/Evictor$Scope")) (by decide) (by decide)))).keep K94 nin0)
  have F99 := (F92.keep K94)
  obtain ⟨T100, h100, X100, e100, W100, st100⟩ := putF X94 hx hZ hown (host := "") (Or.inl (hw _ (List.mem_of_getElem? (i := 40) rfl))) Via.refl e94 F98 F99 (Or.inl (hw _ (List.mem_of_getElem? (i := 41) rfl))) (hw _ (List.mem_of_getElem? (i := 5) rfl)) (ty := (.array .int)) (by decide) rfl rfl (g := (mkF m 30 #[.val (.ref a1), .val (.ref a2), .val (.ref aEXPIRING_KEYS)] [(.ref r8_94), (.ref a1)])) rfl rfl (hb hby d_prog_42_method_1_30)
  have N100 := Fr.snoc X100 N94 pg1
  have O100 := O94.wr W100 pg1
  have z101 : h0.size ≤ h100.size := Nat.le_trans z95 (Nat.le_of_eq W100.size.symm)
  have F100 : Fld Z h100 a1 "com/example/vesper/vesper/store/Table" "tree" "[I" (.ref r8_94) := F98.same W100
  refine own_go st100 ?_
  show OwnGo p e below _ (T100.setTop (mkF m 33 #[.val (.ref a1), .val (.ref a2), .val (.ref aEXPIRING_KEYS)] []))
  obtain ⟨fs, hr, hrun, hended, hW, hsame⟩ := X100.leave (v := none) (fun h => rfl)
  refine ⟨_, _, X100.returnOut hx Bd.returns (hb hby d_prog_42_method_1_33) hr, hrun, hended, _, _, rfl, ?_, ⟨_, rfl⟩, hW, hsame.mono (by decide) (by decide)⟩
  show Q_ti2 Z aNONE aEXPIRING_KEYS aALL_KEYS a1 a2 h0 n0 _ T100.heap _
  rw [e100]
  have F102 := ((((F82.other W86 (Or.inr (slot_ne (a0 := a0) (C := "com/example/vesper/vesper/store/Table") (Or.inl (hw _ (List.mem_of_getElem? (i := 27) rfl))) (Or.inr (hw _ (List.mem_of_getElem? (i := 29) rfl))) (by decide) (t := (.array (.object "com/example/vesper/vesper/store/Entry"))) (t' := (.object "com/example/vesper/vesper/store/SipHash")) (by decide) (by decide)))).other W90 (Or.inr (slot_ne (a0 := a0) (C := "com/example/vesper/vesper/store/Table") (Or.inl (hw _ (List.mem_of_getElem? (i := 27) rfl))) (Or.inl (hw _ (List.mem_of_getElem? (i := 31) rfl))) (by decide) (t := (.array (.object "com/example/vesper/vesper/store/Entry"))) (t' := (.object "com/example/vesper/vesper/store/Evictor$Scope")) (by decide) (by decide)))).keep K94 nin0).other W100 (Or.inr (slot_ne (a0 := a0) (C := "com/example/vesper/vesper/store/Table") (Or.inl (hw _ (List.mem_of_getElem? (i := 27) rfl))) (Or.inl (hw _ (List.mem_of_getElem? (i := 41) rfl))) (by decide) (t := (.array (.object "com/example/vesper/vesper/store/Entry"))) (t' := (.array .int)) (by decide) (by decide))))
  have F103 := ((((((Fsize.ext E77).other W82 (Or.inr (slot_ne (a0 := a0) (C := "com/example/vesper/vesper/store/Table") (Or.inl (hw _ (List.mem_of_getElem? (i := 59) rfl))) (Or.inl (hw _ (List.mem_of_getElem? (i := 27) rfl))) (by decide) (t := .int) (t' := (.array (.object "com/example/vesper/vesper/store/Entry"))) (by decide) (by decide)))).other W86 (Or.inr (slot_ne (a0 := a0) (C := "com/example/vesper/vesper/store/Table") (Or.inl (hw _ (List.mem_of_getElem? (i := 59) rfl))) (Or.inr (hw _ (List.mem_of_getElem? (i := 29) rfl))) (by decide) (t := .int) (t' := (.object "com/example/vesper/vesper/store/SipHash")) (by decide) (by decide)))).other W90 (Or.inr (slot_ne (a0 := a0) (C := "com/example/vesper/vesper/store/Table") (Or.inl (hw _ (List.mem_of_getElem? (i := 59) rfl))) (Or.inl (hw _ (List.mem_of_getElem? (i := 31) rfl))) (by decide) (t := .int) (t' := (.object "com/example/vesper/vesper/store/Evictor$Scope")) (by decide) (by decide)))).keep K94 nin0).other W100 (Or.inr (slot_ne (a0 := a0) (C := "com/example/vesper/vesper/store/Table") (Or.inl (hw _ (List.mem_of_getElem? (i := 59) rfl))) (Or.inl (hw _ (List.mem_of_getElem? (i := 41) rfl))) (by decide) (t := .int) (t' := (.array .int)) (by decide) (by decide))))
  have F104 := ((F93.keep K94 nin0).other W100 (Ne.symm ne78))
  exact ⟨a77, k77, rfl, N100, (((((((Keep.refl _ [a1]).ext E77).wr W82 (Or.inl (List.mem_of_getElem? (i := 0) rfl))).wr W86 (Or.inl (List.mem_of_getElem? (i := 0) rfl))).wr W90 (Or.inl (List.mem_of_getElem? (i := 0) rfl))).trans K94 all0).wr W100 (Or.inl (List.mem_of_getElem? (i := 0) rfl))), F102, F103, F104, gh77⟩
theorem d_prog_42_method_9_0 : decode prog_42_method_9_code 0 = .ok (.aload_n 0, 1) := by decide +kernel
theorem d_prog_42_method_9_1 : decode prog_42_method_9_code 1 = .ok (.getfield 11, 3) := by decide +kernel
theorem d_prog_42_method_9_4 : decode prog_42_method_9_code 4 = .ok (.arraylength, 1) := by decide +kernel
theorem d_prog_42_method_9_5 : decode prog_42_method_9_code 5 = .ok (.ireturn, 1) := by decide +kernel
def Q_bk (Z : State) (aNONE aEXPIRING_KEYS aALL_KEYS : Addr) (a1 : Addr) (a2 : Addr) (k2 : ClassId) (h0 : Heap) (n0 : Nat) (v : Option Value) (h : Heap) (L : List Loc) : Prop := v = some (.int (16 : Int32)) ∧ Fr n0 L ∧ h = h0
theorem ef_bk (m : MethodId) (x0 : Addr) : entryFrame m #[(.ref x0)] 1 = mkF m 0 #[.val (.ref x0)] [] := by first | (simp [entryFrame, mkF, argsToLocals, Value.category]; done) | rfl
set_option maxRecDepth 65536 in
set_option maxHeartbeats 40000000 in
theorem rm_bk (l : Launch) (Z : State) (a0 : Array Value) (hw : ∀ d ∈ tables_1, d.before a0 Z = true) (ws : List Jvm.Cond) (aNONE aEXPIRING_KEYS aALL_KEYS : Addr) (F0 : OwnFacts Z aNONE aEXPIRING_KEYS aALL_KEYS) (a1 : Addr) (a2 : Addr) (k2 : ClassId) (h0 : Heap) (n0 : Nat) (O0 : Old Z n0 h0) (PF1 : Fld Z h0 a1 "com/example/vesper/vesper/store/Table" "buckets" "[Lcom/example/vesper/vesper/store/Entry;" (.ref a2)) (PV1 : Arv Z h0 a2 k2 (.object "com/example/vesper/vesper/store/Entry") (16 : Int32) [.null, .null, .null, .null, .null, .null, .null, .null, .null, .null, .null, .null, .null, .null, .null, .null] .null) :
    MetFree l (⟨"com/example/vesper/vesper/store/Table", "buckets", "()I"⟩ : MethodName) (head1 (Jvm.Cond.code (⟨"com/example/vesper/vesper/store/Table", "buckets", "()I"⟩ : MethodName) prog_42_method_9_code 1 (some .int) :: ws) ({ frames := 0, cells := 0, slots := 0, locals := 0 } : Room)) (fun a U => a = #[(.ref a1)] ∧ Z.Warmed39 U.vm ∧ U.heap = h0) (fun _ _ _ _ _ => True) (fun _ U o U' => ∃ v L, o = .returned v ∧ Q_bk Z aNONE aEXPIRING_KEYS aALL_KEYS a1 a2 k2 h0 n0 v U'.heap L ∧ FrameEnd U o U' L ({ frames := 0, cells := 0, slots := 0, locals := 0 } : Room).cells ({ frames := 0, cells := 0, slots := 0, locals := 0 } : Room).slots) := by
  refine MetFree.of_bodySF (plainFor_of_name pn_com_example_vesper_vesper_store_Table) hisR ?_
  intro p e s m args below meth c s₁ Bd hml0 hP hK
  obtain ⟨rfl, hZ, hh⟩ := hP
  have hx := Bd.exec
  have hby := Bd.bytes
  have hml : c.maxLocals = 1 := hml0
  have hown : s.vm.findClass "com/example/vesper/vesper/store/Table" = some m.cls := findClass_of_methodNamed Bd.named
  have hnm := (name_of_methodNamed Bd.named Bd.method).1
  have X0 : Stand p l e ({ frames := 0, cells := 0, slots := 0, locals := 0 } : Room) s m #[(.ref a1)] below meth c s₁ [] 0 0 := Stand.of_body Bd
  have e0 : s₁.heap = h0 := by rw [← hh, Bd.state]; rfl
  have N0 := Fr.nil n0
  refine own_go (Q := fun o U' => ∃ v L, o = .returned v ∧ Q_bk Z aNONE aEXPIRING_KEYS aALL_KEYS a1 a2 k2 h0 n0 v U'.heap L ∧ FrameEnd s o U' L ({ frames := 0, cells := 0, slots := 0, locals := 0 } : Room).cells ({ frames := 0, cells := 0, slots := 0, locals := 0 } : Room).slots) (fun t k => castTop (ef_bk m a1) k) ?_
  show OwnGo p e below _ (s₁.setTop (mkF m 0 #[.val (.ref a1)] []))
  refine own_go (fun _ k => XS.aloadN X0.here hx rfl (hb hby d_prog_42_method_9_0) rfl rfl k) ?_
  show OwnGo p e below _ (s₁.setTop (mkF m 1 #[.val (.ref a1)] [(.ref a1)]))
  obtain ⟨T105, X105, e105, st105⟩ := getF X0 hx hZ hown (host := "") (Or.inl (hw _ (List.mem_of_getElem? (i := 26) rfl))) Via.refl e0 PF1 (g := (mkF m 1 #[.val (.ref a1)] [(.ref a1)])) rfl rfl (hb hby d_prog_42_method_9_1)
  refine own_go st105 ?_
  show OwnGo p e below _ (T105.setTop (mkF m 4 #[.val (.ref a1)] [(.ref a2)]))
  obtain ⟨c106, Ar106, q106, S106, M106, H106, G106⟩ := (id PV1)
  refine own_go (fun _ k => X105.arraylength hx (cell := c106) (by rw [e105]; exact Ar106.1) (State.isArrayOf_alike hZ.alike Ar106.2.1) (g := (mkF m 4 #[.val (.ref a1)] [(.ref a2)])) rfl (rest := []) rfl (hb hby d_prog_42_method_9_4) _ k) ?_
  rw [len_of S106 M106]
  show OwnGo p e below _ (T105.setTop (mkF m 5 #[.val (.ref a1)] [(.int (16 : Int32))]))
  obtain ⟨fs, hr, hrun, hended, hW, hsame⟩ := X105.leave (v := some (.int (16 : Int32))) (fun h => by rw [Bd.returns] at h; cases h)
  refine ⟨_, _, retOut X105 hx Bd.returns rfl (Or.inl ⟨rfl, Or.inl rfl, _, rfl⟩) (hb hby d_prog_42_method_9_5) hr, hrun, hended, _, _, rfl, ?_, ⟨_, rfl⟩, hW, hsame.mono (by decide) (by decide)⟩
  show Q_bk Z aNONE aEXPIRING_KEYS aALL_KEYS a1 a2 k2 h0 n0 _ T105.heap _
  rw [e105]
  exact ⟨rfl, N0, rfl⟩
theorem d_prog_42_method_8_0 : decode prog_42_method_8_code 0 = .ok (.aload_n 0, 1) := by decide +kernel
theorem d_prog_42_method_8_1 : decode prog_42_method_8_code 1 = .ok (.getfield 49, 3) := by decide +kernel
theorem d_prog_42_method_8_4 : decode prog_42_method_8_code 4 = .ok (.ireturn, 1) := by decide +kernel
def Q_sz (Z : State) (aNONE aEXPIRING_KEYS aALL_KEYS : Addr) (a1 : Addr) (h0 : Heap) (n0 : Nat) (v : Option Value) (h : Heap) (L : List Loc) : Prop := v = some (.int (0 : Int32)) ∧ Fr n0 L ∧ h = h0
theorem ef_sz (m : MethodId) (x0 : Addr) : entryFrame m #[(.ref x0)] 1 = mkF m 0 #[.val (.ref x0)] [] := by first | (simp [entryFrame, mkF, argsToLocals, Value.category]; done) | rfl
set_option maxRecDepth 65536 in
set_option maxHeartbeats 40000000 in
theorem rm_sz (l : Launch) (Z : State) (a0 : Array Value) (hw : ∀ d ∈ tables_1, d.before a0 Z = true) (ws : List Jvm.Cond) (aNONE aEXPIRING_KEYS aALL_KEYS : Addr) (F0 : OwnFacts Z aNONE aEXPIRING_KEYS aALL_KEYS) (a1 : Addr) (h0 : Heap) (n0 : Nat) (O0 : Old Z n0 h0) (PF1 : Fld Z h0 a1 "com/example/vesper/vesper/store/Table" "size" "I" (.int (0 : Int32))) :
    MetFree l (⟨"com/example/vesper/vesper/store/Table", "size", "()I"⟩ : MethodName) (head1 (Jvm.Cond.code (⟨"com/example/vesper/vesper/store/Table", "size", "()I"⟩ : MethodName) prog_42_method_8_code 1 (some .int) :: ws) ({ frames := 0, cells := 0, slots := 0, locals := 0 } : Room)) (fun a U => a = #[(.ref a1)] ∧ Z.Warmed39 U.vm ∧ U.heap = h0) (fun _ _ _ _ _ => True) (fun _ U o U' => ∃ v L, o = .returned v ∧ Q_sz Z aNONE aEXPIRING_KEYS aALL_KEYS a1 h0 n0 v U'.heap L ∧ FrameEnd U o U' L ({ frames := 0, cells := 0, slots := 0, locals := 0 } : Room).cells ({ frames := 0, cells := 0, slots := 0, locals := 0 } : Room).slots) := by
  refine MetFree.of_bodySF (plainFor_of_name pn_com_example_vesper_vesper_store_Table) hisR ?_
  intro p e s m args below meth c s₁ Bd hml0 hP hK
  obtain ⟨rfl, hZ, hh⟩ := hP
  have hx := Bd.exec
  have hby := Bd.bytes
  have hml : c.maxLocals = 1 := hml0
  have hown : s.vm.findClass "com/example/vesper/vesper/store/Table" = some m.cls := findClass_of_methodNamed Bd.named
  have hnm := (name_of_methodNamed Bd.named Bd.method).1
  have X0 : Stand p l e ({ frames := 0, cells := 0, slots := 0, locals := 0 } : Room) s m #[(.ref a1)] below meth c s₁ [] 0 0 := Stand.of_body Bd
  have e0 : s₁.heap = h0 := by rw [← hh, Bd.state]; rfl
  have N0 := Fr.nil n0
  refine own_go (Q := fun o U' => ∃ v L, o = .returned v ∧ Q_sz Z aNONE aEXPIRING_KEYS aALL_KEYS a1 h0 n0 v U'.heap L ∧ FrameEnd s o U' L ({ frames := 0, cells := 0, slots := 0, locals := 0 } : Room).cells ({ frames := 0, cells := 0, slots := 0, locals := 0 } : Room).slots) (fun t k => castTop (ef_sz m a1) k) ?_
  show OwnGo p e below _ (s₁.setTop (mkF m 0 #[.val (.ref a1)] []))
  refine own_go (fun _ k => XS.aloadN X0.here hx rfl (hb hby d_prog_42_method_8_0) rfl rfl k) ?_
  show OwnGo p e below _ (s₁.setTop (mkF m 1 #[.val (.ref a1)] [(.ref a1)]))
  obtain ⟨T107, X107, e107, st107⟩ := getF X0 hx hZ hown (host := "") (Or.inl (hw _ (List.mem_of_getElem? (i := 58) rfl))) Via.refl e0 PF1 (g := (mkF m 1 #[.val (.ref a1)] [(.ref a1)])) rfl rfl (hb hby d_prog_42_method_8_1)
  refine own_go st107 ?_
  show OwnGo p e below _ (T107.setTop (mkF m 4 #[.val (.ref a1)] [(.int (0 : Int32))]))
  obtain ⟨fs, hr, hrun, hended, hW, hsame⟩ := X107.leave (v := some (.int (0 : Int32))) (fun h => by rw [Bd.returns] at h; cases h)
  refine ⟨_, _, retOut X107 hx Bd.returns rfl (Or.inl ⟨rfl, Or.inl rfl, _, rfl⟩) (hb hby d_prog_42_method_8_4) hr, hrun, hended, _, _, rfl, ?_, ⟨_, rfl⟩, hW, hsame.mono (by decide) (by decide)⟩
  show Q_sz Z aNONE aEXPIRING_KEYS aALL_KEYS a1 h0 n0 _ T107.heap _
  rw [e107]
  exact ⟨rfl, N0, rfl⟩
theorem d_prog_42_method_11_0 : decode prog_42_method_11_code 0 = .ok (.aload_n 0, 1) := by decide +kernel
theorem d_prog_42_method_11_1 : decode prog_42_method_11_code 1 = .ok (.getfield 11, 3) := by decide +kernel
theorem d_prog_42_method_11_4 : decode prog_42_method_11_code 4 = .ok (.arraylength, 1) := by decide +kernel
theorem d_prog_42_method_11_5 : decode prog_42_method_11_code 5 = .ok (.istore_n 2, 1) := by decide +kernel
theorem d_prog_42_method_11_6 : decode prog_42_method_11_code 6 = .ok (.iload_n 1, 1) := by decide +kernel
theorem d_prog_42_method_11_7 : decode prog_42_method_11_code 7 = .ok (.iload_n 2, 1) := by decide +kernel
theorem d_prog_42_method_11_8 : decode prog_42_method_11_code 8 = .ok (.iconst 4, 1) := by decide +kernel
theorem d_prog_42_method_11_9 : decode prog_42_method_11_code 9 = .ok (.idiv, 1) := by decide +kernel
theorem d_prog_42_method_11_10 : decode prog_42_method_11_code 10 = .ok (.iconst 3, 1) := by decide +kernel
theorem d_prog_42_method_11_11 : decode prog_42_method_11_code 11 = .ok (.imul, 1) := by decide +kernel
theorem d_prog_42_method_11_12 : decode prog_42_method_11_code 12 = .ok (.if_icmp .le 16, 3) := by decide +kernel
theorem d_prog_42_method_11_15 : decode prog_42_method_11_code 15 = .ok (.iload_n 2, 1) := by decide +kernel
theorem d_prog_42_method_11_16 : decode prog_42_method_11_code 16 = .ok (.ldc 71, 2) := by decide +kernel
theorem d_prog_42_method_11_18 : decode prog_42_method_11_code 18 = .ok (.if_icmp .ge 10, 3) := by decide +kernel
theorem d_prog_42_method_11_21 : decode prog_42_method_11_code 21 = .ok (.iload_n 2, 1) := by decide +kernel
theorem d_prog_42_method_11_22 : decode prog_42_method_11_code 22 = .ok (.iconst 2, 1) := by decide +kernel
theorem d_prog_42_method_11_23 : decode prog_42_method_11_code 23 = .ok (.imul, 1) := by decide +kernel
theorem d_prog_42_method_11_24 : decode prog_42_method_11_code 24 = .ok (.istore_n 2, 1) := by decide +kernel
theorem d_prog_42_method_11_25 : decode prog_42_method_11_code 25 = .ok (.goto (-19), 3) := by decide +kernel
theorem d_prog_42_method_11_28 : decode prog_42_method_11_code 28 = .ok (.iload_n 1, 1) := by decide +kernel
theorem d_prog_42_method_11_29 : decode prog_42_method_11_code 29 = .ok (.iload_n 2, 1) := by decide +kernel
theorem d_prog_42_method_11_30 : decode prog_42_method_11_code 30 = .ok (.bipush 8, 2) := by decide +kernel
theorem d_prog_42_method_11_32 : decode prog_42_method_11_code 32 = .ok (.idiv, 1) := by decide +kernel
theorem d_prog_42_method_11_33 : decode prog_42_method_11_code 33 = .ok (.if_icmp .gt 16, 3) := by decide +kernel
theorem d_prog_42_method_11_49 : decode prog_42_method_11_code 49 = .ok (.iload_n 2, 1) := by decide +kernel
theorem d_prog_42_method_11_50 : decode prog_42_method_11_code 50 = .ok (.ireturn, 1) := by decide +kernel
theorem d_prog_42_method_11_36 : decode prog_42_method_11_code 36 = .ok (.iload_n 2, 1) := by decide +kernel
theorem d_prog_42_method_11_37 : decode prog_42_method_11_code 37 = .ok (.bipush 16, 2) := by decide +kernel
theorem d_prog_42_method_11_39 : decode prog_42_method_11_code 39 = .ok (.if_icmp .le 10, 3) := by decide +kernel
def Q_bf (Z : State) (aNONE aEXPIRING_KEYS aALL_KEYS : Addr) (a1 : Addr) (p2 : Int32) (a2 : Addr) (k2 : ClassId) (r0 : Int32) (h0 : Heap) (n0 : Nat) (v : Option Value) (h : Heap) (L : List Loc) : Prop := v = some (.int r0) ∧ Fr n0 L ∧ h = h0
theorem ef_bf (m : MethodId) (x0 : Addr) (x1 : Int32) : entryFrame m #[(.ref x0), (.int x1)] 3 = mkF m 0 #[.val (.ref x0), .val (.int x1), .unset] [] := by first | (simp [entryFrame, mkF, argsToLocals, Value.category]; done) | rfl
set_option maxRecDepth 65536 in
set_option maxHeartbeats 40000000 in
theorem rm_bf (l : Launch) (Z : State) (a0 : Array Value) (hw : ∀ d ∈ tables_1, d.before a0 Z = true) (ws : List Jvm.Cond) (aNONE aEXPIRING_KEYS aALL_KEYS : Addr) (F0 : OwnFacts Z aNONE aEXPIRING_KEYS aALL_KEYS) (a1 : Addr) (p2 : Int32) (a2 : Addr) (k2 : ClassId) (r0 : Int32) (h0 : Heap) (n0 : Nat) (O0 : Old Z n0 h0) (PF1 : Fld Z h0 a1 "com/example/vesper/vesper/store/Table" "buckets" "[Lcom/example/vesper/vesper/store/Entry;" (.ref a2)) (PV1 : Arv Z h0 a2 k2 (.object "com/example/vesper/vesper/store/Entry") (16 : Int32) [.null, .null, .null, .null, .null, .null, .null, .null, .null, .null, .null, .null, .null, .null, .null, .null] .null) (hr0 : own_bf p2 = r0) :
    MetFree l (⟨"com/example/vesper/vesper/store/Table", "bucketsFor", "(I)I"⟩ : MethodName) (head1 (Jvm.Cond.code (⟨"com/example/vesper/vesper/store/Table", "bucketsFor", "(I)I"⟩ : MethodName) prog_42_method_11_code 3 (some .int) :: ws) ({ frames := 0, cells := 0, slots := 0, locals := 0 } : Room)) (fun a U => a = #[(.ref a1), (.int p2)] ∧ Z.Warmed39 U.vm ∧ U.heap = h0) (fun _ _ _ _ _ => True) (fun _ U o U' => ∃ v L, o = .returned v ∧ Q_bf Z aNONE aEXPIRING_KEYS aALL_KEYS a1 p2 a2 k2 r0 h0 n0 v U'.heap L ∧ FrameEnd U o U' L ({ frames := 0, cells := 0, slots := 0, locals := 0 } : Room).cells ({ frames := 0, cells := 0, slots := 0, locals := 0 } : Room).slots) := by
  refine MetFree.of_bodySF (plainFor_of_name pn_com_example_vesper_vesper_store_Table) hisR ?_
  intro p e s m args below meth c s₁ Bd hml0 hP hK
  obtain ⟨rfl, hZ, hh⟩ := hP
  have hx := Bd.exec
  have hby := Bd.bytes
  have hml : c.maxLocals = 3 := hml0
  have hown : s.vm.findClass "com/example/vesper/vesper/store/Table" = some m.cls := findClass_of_methodNamed Bd.named
  have hnm := (name_of_methodNamed Bd.named Bd.method).1
  have X0 : Stand p l e ({ frames := 0, cells := 0, slots := 0, locals := 0 } : Room) s m #[(.ref a1), (.int p2)] below meth c s₁ [] 0 0 := Stand.of_body Bd
  have e0 : s₁.heap = h0 := by rw [← hh, Bd.state]; rfl
  have N0 := Fr.nil n0
  refine own_go (Q := fun o U' => ∃ v L, o = .returned v ∧ Q_bf Z aNONE aEXPIRING_KEYS aALL_KEYS a1 p2 a2 k2 r0 h0 n0 v U'.heap L ∧ FrameEnd s o U' L ({ frames := 0, cells := 0, slots := 0, locals := 0 } : Room).cells ({ frames := 0, cells := 0, slots := 0, locals := 0 } : Room).slots) (fun t k => castTop (ef_bf m a1 p2) k) ?_
  show OwnGo p e below _ (s₁.setTop (mkF m 0 #[.val (.ref a1), .val (.int p2), .unset] []))
  refine own_go (fun _ k => XS.aloadN X0.here hx rfl (hb hby d_prog_42_method_11_0) rfl rfl k) ?_
  show OwnGo p e below _ (s₁.setTop (mkF m 1 #[.val (.ref a1), .val (.int p2), .unset] [(.ref a1)]))
  obtain ⟨T108, X108, e108, st108⟩ := getF X0 hx hZ hown (host := "") (Or.inl (hw _ (List.mem_of_getElem? (i := 26) rfl))) Via.refl e0 PF1 (g := (mkF m 1 #[.val (.ref a1), .val (.int p2), .unset] [(.ref a1)])) rfl rfl (hb hby d_prog_42_method_11_1)
  refine own_go st108 ?_
  show OwnGo p e below _ (T108.setTop (mkF m 4 #[.val (.ref a1), .val (.int p2), .unset] [(.ref a2)]))
  obtain ⟨c109, Ar109, q109, S109, M109, H109, G109⟩ := (id PV1)
  refine own_go (fun _ k => X108.arraylength hx (cell := c109) (by rw [e108]; exact Ar109.1) (State.isArrayOf_alike hZ.alike Ar109.2.1) (g := (mkF m 4 #[.val (.ref a1), .val (.int p2), .unset] [(.ref a2)])) rfl (rest := []) rfl (hb hby d_prog_42_method_11_4) _ k) ?_
  rw [len_of S109 M109]
  show OwnGo p e below _ (T108.setTop (mkF m 5 #[.val (.ref a1), .val (.int p2), .unset] [(.int (16 : Int32))]))
  refine own_go (fun _ k => XS.istoreN X108.here hx rfl (hb hby d_prog_42_method_11_5) rfl (l' := #[.val (.ref a1), .val (.int p2), .val (.int (16 : Int32))]) rfl k) ?_
  show OwnGo p e below _ (T108.setTop (mkF m 6 #[.val (.ref a1), .val (.int p2), .val (.int (16 : Int32))] []))
  refine own_go (fun _ k => XS.iloadN X108.here hx rfl (hb hby d_prog_42_method_11_6) rfl k) ?_
  show OwnGo p e below _ (T108.setTop (mkF m 7 #[.val (.ref a1), .val (.int p2), .val (.int (16 : Int32))] [(.int p2)]))
  refine own_go (fun _ k => XS.iloadN X108.here hx rfl (hb hby d_prog_42_method_11_7) rfl k) ?_
  show OwnGo p e below _ (T108.setTop (mkF m 8 #[.val (.ref a1), .val (.int p2), .val (.int (16 : Int32))] [(.int (16 : Int32)), (.int p2)]))
  refine own_go (fun _ k => XS.iconst X108.here hx rfl (hb hby d_prog_42_method_11_8) k) ?_
  show OwnGo p e below _ (T108.setTop (mkF m 9 #[.val (.ref a1), .val (.int p2), .val (.int (16 : Int32))] [(.int (4 : Int32)), (.int (16 : Int32)), (.int p2)]))
  refine own_go (fun _ k => XS.idiv X108.here hx rfl (hb hby d_prog_42_method_11_9) rfl (by decide) k) ?_
  show OwnGo p e below _ (T108.setTop (mkF m 10 #[.val (.ref a1), .val (.int p2), .val (.int (16 : Int32))] [(.int ((16 : Int32) / (4 : Int32))), (.int p2)]))
  rw [show ((16 : Int32) / (4 : Int32)) = (4 : Int32) from by decide]
  show OwnGo p e below _ (T108.setTop (mkF m 10 #[.val (.ref a1), .val (.int p2), .val (.int (16 : Int32))] [(.int (4 : Int32)), (.int p2)]))
  refine own_go (fun _ k => XS.iconst X108.here hx rfl (hb hby d_prog_42_method_11_10) k) ?_
  show OwnGo p e below _ (T108.setTop (mkF m 11 #[.val (.ref a1), .val (.int p2), .val (.int (16 : Int32))] [(.int (3 : Int32)), (.int (4 : Int32)), (.int p2)]))
  refine own_go (fun _ k => XS.imul X108.here hx rfl (hb hby d_prog_42_method_11_11) rfl k) ?_
  show OwnGo p e below _ (T108.setTop (mkF m 12 #[.val (.ref a1), .val (.int p2), .val (.int (16 : Int32))] [(.int ((4 : Int32) * (3 : Int32))), (.int p2)]))
  rw [show ((4 : Int32) * (3 : Int32)) = (12 : Int32) from by decide]
  show OwnGo p e below _ (T108.setTop (mkF m 12 #[.val (.ref a1), .val (.int p2), .val (.int (16 : Int32))] [(.int (12 : Int32)), (.int p2)]))
  by_cases hc110 : (12 : Int32) < p2
  · refine own_go (fun _ k => XS.icmpNo X108.here hx rfl (hb hby d_prog_42_method_11_12) rfl (tlt hc110).2.2.2 k) ?_
    show OwnGo p e below _ (T108.setTop (mkF m 15 #[.val (.ref a1), .val (.int p2), .val (.int (16 : Int32))] []))
    refine own_go (fun _ k => XS.iloadN X108.here hx rfl (hb hby d_prog_42_method_11_15) rfl k) ?_
    show OwnGo p e below _ (T108.setTop (mkF m 16 #[.val (.ref a1), .val (.int p2), .val (.int (16 : Int32))] [(.int (16 : Int32))]))
    refine own_go (fun _ k => Jvm.Stand.ldcI X108 hx hown (mvT hZ (hw _ (List.mem_of_getElem? (i := 69) rfl))) rfl (hb hby d_prog_42_method_11_16) k) ?_
    show OwnGo p e below _ (T108.setTop (mkF m 18 #[.val (.ref a1), .val (.int p2), .val (.int (16 : Int32))] [(.int (1073741824 : Int32)), (.int (16 : Int32))]))
    refine own_go (fun _ k => XS.icmpNo X108.here hx rfl (hb hby d_prog_42_method_11_18) rfl (by decide) k) ?_
    show OwnGo p e below _ (T108.setTop (mkF m 21 #[.val (.ref a1), .val (.int p2), .val (.int (16 : Int32))] []))
    refine own_go (fun _ k => XS.iloadN X108.here hx rfl (hb hby d_prog_42_method_11_21) rfl k) ?_
    show OwnGo p e below _ (T108.setTop (mkF m 22 #[.val (.ref a1), .val (.int p2), .val (.int (16 : Int32))] [(.int (16 : Int32))]))
    refine own_go (fun _ k => XS.iconst X108.here hx rfl (hb hby d_prog_42_method_11_22) k) ?_
    show OwnGo p e below _ (T108.setTop (mkF m 23 #[.val (.ref a1), .val (.int p2), .val (.int (16 : Int32))] [(.int (2 : Int32)), (.int (16 : Int32))]))
    refine own_go (fun _ k => XS.imul X108.here hx rfl (hb hby d_prog_42_method_11_23) rfl k) ?_
    show OwnGo p e below _ (T108.setTop (mkF m 24 #[.val (.ref a1), .val (.int p2), .val (.int (16 : Int32))] [(.int ((16 : Int32) * (2 : Int32)))]))
    rw [show ((16 : Int32) * (2 : Int32)) = (32 : Int32) from by decide]
    show OwnGo p e below _ (T108.setTop (mkF m 24 #[.val (.ref a1), .val (.int p2), .val (.int (16 : Int32))] [(.int (32 : Int32))]))
    refine own_go (fun _ k => XS.istoreN X108.here hx rfl (hb hby d_prog_42_method_11_24) rfl (l' := #[.val (.ref a1), .val (.int p2), .val (.int (32 : Int32))]) rfl k) ?_
    show OwnGo p e below _ (T108.setTop (mkF m 25 #[.val (.ref a1), .val (.int p2), .val (.int (32 : Int32))] []))
    refine own_go (fun _ k => XS.goto X108.here hx rfl (pc0 := 25) (pc' := 6) rfl (hb hby d_prog_42_method_11_25) (by decide) (by decide) k) ?_
    show OwnGo p e below _ (T108.setTop (mkF m 6 #[.val (.ref a1), .val (.int p2), .val (.int (32 : Int32))] []))
    refine own_go (fun _ k => XS.iloadN X108.here hx rfl (hb hby d_prog_42_method_11_6) rfl k) ?_
    show OwnGo p e below _ (T108.setTop (mkF m 7 #[.val (.ref a1), .val (.int p2), .val (.int (32 : Int32))] [(.int p2)]))
    refine own_go (fun _ k => XS.iloadN X108.here hx rfl (hb hby d_prog_42_method_11_7) rfl k) ?_
    show OwnGo p e below _ (T108.setTop (mkF m 8 #[.val (.ref a1), .val (.int p2), .val (.int (32 : Int32))] [(.int (32 : Int32)), (.int p2)]))
    refine own_go (fun _ k => XS.iconst X108.here hx rfl (hb hby d_prog_42_method_11_8) k) ?_
    show OwnGo p e below _ (T108.setTop (mkF m 9 #[.val (.ref a1), .val (.int p2), .val (.int (32 : Int32))] [(.int (4 : Int32)), (.int (32 : Int32)), (.int p2)]))
    refine own_go (fun _ k => XS.idiv X108.here hx rfl (hb hby d_prog_42_method_11_9) rfl (by decide) k) ?_
    show OwnGo p e below _ (T108.setTop (mkF m 10 #[.val (.ref a1), .val (.int p2), .val (.int (32 : Int32))] [(.int ((32 : Int32) / (4 : Int32))), (.int p2)]))
    rw [show ((32 : Int32) / (4 : Int32)) = (8 : Int32) from by decide]
    show OwnGo p e below _ (T108.setTop (mkF m 10 #[.val (.ref a1), .val (.int p2), .val (.int (32 : Int32))] [(.int (8 : Int32)), (.int p2)]))
    refine own_go (fun _ k => XS.iconst X108.here hx rfl (hb hby d_prog_42_method_11_10) k) ?_
    show OwnGo p e below _ (T108.setTop (mkF m 11 #[.val (.ref a1), .val (.int p2), .val (.int (32 : Int32))] [(.int (3 : Int32)), (.int (8 : Int32)), (.int p2)]))
    refine own_go (fun _ k => XS.imul X108.here hx rfl (hb hby d_prog_42_method_11_11) rfl k) ?_
    show OwnGo p e below _ (T108.setTop (mkF m 12 #[.val (.ref a1), .val (.int p2), .val (.int (32 : Int32))] [(.int ((8 : Int32) * (3 : Int32))), (.int p2)]))
    rw [show ((8 : Int32) * (3 : Int32)) = (24 : Int32) from by decide]
    show OwnGo p e below _ (T108.setTop (mkF m 12 #[.val (.ref a1), .val (.int p2), .val (.int (32 : Int32))] [(.int (24 : Int32)), (.int p2)]))
    by_cases hc111 : (24 : Int32) < p2
    · refine own_go (fun _ k => XS.icmpNo X108.here hx rfl (hb hby d_prog_42_method_11_12) rfl (tlt hc111).2.2.2 k) ?_
      show OwnGo p e below _ (T108.setTop (mkF m 15 #[.val (.ref a1), .val (.int p2), .val (.int (32 : Int32))] []))
      refine own_go (fun _ k => XS.iloadN X108.here hx rfl (hb hby d_prog_42_method_11_15) rfl k) ?_
      show OwnGo p e below _ (T108.setTop (mkF m 16 #[.val (.ref a1), .val (.int p2), .val (.int (32 : Int32))] [(.int (32 : Int32))]))
      refine own_go (fun _ k => Jvm.Stand.ldcI X108 hx hown (mvT hZ (hw _ (List.mem_of_getElem? (i := 69) rfl))) rfl (hb hby d_prog_42_method_11_16) k) ?_
      show OwnGo p e below _ (T108.setTop (mkF m 18 #[.val (.ref a1), .val (.int p2), .val (.int (32 : Int32))] [(.int (1073741824 : Int32)), (.int (32 : Int32))]))
      refine own_go (fun _ k => XS.icmpNo X108.here hx rfl (hb hby d_prog_42_method_11_18) rfl (by decide) k) ?_
      show OwnGo p e below _ (T108.setTop (mkF m 21 #[.val (.ref a1), .val (.int p2), .val (.int (32 : Int32))] []))
      refine own_go (fun _ k => XS.iloadN X108.here hx rfl (hb hby d_prog_42_method_11_21) rfl k) ?_
      show OwnGo p e below _ (T108.setTop (mkF m 22 #[.val (.ref a1), .val (.int p2), .val (.int (32 : Int32))] [(.int (32 : Int32))]))
      refine own_go (fun _ k => XS.iconst X108.here hx rfl (hb hby d_prog_42_method_11_22) k) ?_
      show OwnGo p e below _ (T108.setTop (mkF m 23 #[.val (.ref a1), .val (.int p2), .val (.int (32 : Int32))] [(.int (2 : Int32)), (.int (32 : Int32))]))
      refine own_go (fun _ k => XS.imul X108.here hx rfl (hb hby d_prog_42_method_11_23) rfl k) ?_
      show OwnGo p e below _ (T108.setTop (mkF m 24 #[.val (.ref a1), .val (.int p2), .val (.int (32 : Int32))] [(.int ((32 : Int32) * (2 : Int32)))]))
      rw [show ((32 : Int32) * (2 : Int32)) = (64 : Int32) from by decide]
      show OwnGo p e below _ (T108.setTop (mkF m 24 #[.val (.ref a1), .val (.int p2), .val (.int (32 : Int32))] [(.int (64 : Int32))]))
      refine own_go (fun _ k => XS.istoreN X108.here hx rfl (hb hby d_prog_42_method_11_24) rfl (l' := #[.val (.ref a1), .val (.int p2), .val (.int (64 : Int32))]) rfl k) ?_
      show OwnGo p e below _ (T108.setTop (mkF m 25 #[.val (.ref a1), .val (.int p2), .val (.int (64 : Int32))] []))
      refine own_go (fun _ k => XS.goto X108.here hx rfl (pc0 := 25) (pc' := 6) rfl (hb hby d_prog_42_method_11_25) (by decide) (by decide) k) ?_
      show OwnGo p e below _ (T108.setTop (mkF m 6 #[.val (.ref a1), .val (.int p2), .val (.int (64 : Int32))] []))
      refine own_go (fun _ k => XS.iloadN X108.here hx rfl (hb hby d_prog_42_method_11_6) rfl k) ?_
      show OwnGo p e below _ (T108.setTop (mkF m 7 #[.val (.ref a1), .val (.int p2), .val (.int (64 : Int32))] [(.int p2)]))
      refine own_go (fun _ k => XS.iloadN X108.here hx rfl (hb hby d_prog_42_method_11_7) rfl k) ?_
      show OwnGo p e below _ (T108.setTop (mkF m 8 #[.val (.ref a1), .val (.int p2), .val (.int (64 : Int32))] [(.int (64 : Int32)), (.int p2)]))
      refine own_go (fun _ k => XS.iconst X108.here hx rfl (hb hby d_prog_42_method_11_8) k) ?_
      show OwnGo p e below _ (T108.setTop (mkF m 9 #[.val (.ref a1), .val (.int p2), .val (.int (64 : Int32))] [(.int (4 : Int32)), (.int (64 : Int32)), (.int p2)]))
      refine own_go (fun _ k => XS.idiv X108.here hx rfl (hb hby d_prog_42_method_11_9) rfl (by decide) k) ?_
      show OwnGo p e below _ (T108.setTop (mkF m 10 #[.val (.ref a1), .val (.int p2), .val (.int (64 : Int32))] [(.int ((64 : Int32) / (4 : Int32))), (.int p2)]))
      rw [show ((64 : Int32) / (4 : Int32)) = (16 : Int32) from by decide]
      show OwnGo p e below _ (T108.setTop (mkF m 10 #[.val (.ref a1), .val (.int p2), .val (.int (64 : Int32))] [(.int (16 : Int32)), (.int p2)]))
      refine own_go (fun _ k => XS.iconst X108.here hx rfl (hb hby d_prog_42_method_11_10) k) ?_
      show OwnGo p e below _ (T108.setTop (mkF m 11 #[.val (.ref a1), .val (.int p2), .val (.int (64 : Int32))] [(.int (3 : Int32)), (.int (16 : Int32)), (.int p2)]))
      refine own_go (fun _ k => XS.imul X108.here hx rfl (hb hby d_prog_42_method_11_11) rfl k) ?_
      show OwnGo p e below _ (T108.setTop (mkF m 12 #[.val (.ref a1), .val (.int p2), .val (.int (64 : Int32))] [(.int ((16 : Int32) * (3 : Int32))), (.int p2)]))
      rw [show ((16 : Int32) * (3 : Int32)) = (48 : Int32) from by decide]
      show OwnGo p e below _ (T108.setTop (mkF m 12 #[.val (.ref a1), .val (.int p2), .val (.int (64 : Int32))] [(.int (48 : Int32)), (.int p2)]))
      by_cases hc112 : (48 : Int32) < p2
      · refine own_go (fun _ k => XS.icmpNo X108.here hx rfl (hb hby d_prog_42_method_11_12) rfl (tlt hc112).2.2.2 k) ?_
        show OwnGo p e below _ (T108.setTop (mkF m 15 #[.val (.ref a1), .val (.int p2), .val (.int (64 : Int32))] []))
        refine own_go (fun _ k => XS.iloadN X108.here hx rfl (hb hby d_prog_42_method_11_15) rfl k) ?_
        show OwnGo p e below _ (T108.setTop (mkF m 16 #[.val (.ref a1), .val (.int p2), .val (.int (64 : Int32))] [(.int (64 : Int32))]))
        refine own_go (fun _ k => Jvm.Stand.ldcI X108 hx hown (mvT hZ (hw _ (List.mem_of_getElem? (i := 69) rfl))) rfl (hb hby d_prog_42_method_11_16) k) ?_
        show OwnGo p e below _ (T108.setTop (mkF m 18 #[.val (.ref a1), .val (.int p2), .val (.int (64 : Int32))] [(.int (1073741824 : Int32)), (.int (64 : Int32))]))
        refine own_go (fun _ k => XS.icmpNo X108.here hx rfl (hb hby d_prog_42_method_11_18) rfl (by decide) k) ?_
        show OwnGo p e below _ (T108.setTop (mkF m 21 #[.val (.ref a1), .val (.int p2), .val (.int (64 : Int32))] []))
        refine own_go (fun _ k => XS.iloadN X108.here hx rfl (hb hby d_prog_42_method_11_21) rfl k) ?_
        show OwnGo p e below _ (T108.setTop (mkF m 22 #[.val (.ref a1), .val (.int p2), .val (.int (64 : Int32))] [(.int (64 : Int32))]))
        refine own_go (fun _ k => XS.iconst X108.here hx rfl (hb hby d_prog_42_method_11_22) k) ?_
        show OwnGo p e below _ (T108.setTop (mkF m 23 #[.val (.ref a1), .val (.int p2), .val (.int (64 : Int32))] [(.int (2 : Int32)), (.int (64 : Int32))]))
        refine own_go (fun _ k => XS.imul X108.here hx rfl (hb hby d_prog_42_method_11_23) rfl k) ?_
        show OwnGo p e below _ (T108.setTop (mkF m 24 #[.val (.ref a1), .val (.int p2), .val (.int (64 : Int32))] [(.int ((64 : Int32) * (2 : Int32)))]))
        rw [show ((64 : Int32) * (2 : Int32)) = (128 : Int32) from by decide]
        show OwnGo p e below _ (T108.setTop (mkF m 24 #[.val (.ref a1), .val (.int p2), .val (.int (64 : Int32))] [(.int (128 : Int32))]))
        refine own_go (fun _ k => XS.istoreN X108.here hx rfl (hb hby d_prog_42_method_11_24) rfl (l' := #[.val (.ref a1), .val (.int p2), .val (.int (128 : Int32))]) rfl k) ?_
        show OwnGo p e below _ (T108.setTop (mkF m 25 #[.val (.ref a1), .val (.int p2), .val (.int (128 : Int32))] []))
        refine own_go (fun _ k => XS.goto X108.here hx rfl (pc0 := 25) (pc' := 6) rfl (hb hby d_prog_42_method_11_25) (by decide) (by decide) k) ?_
        show OwnGo p e below _ (T108.setTop (mkF m 6 #[.val (.ref a1), .val (.int p2), .val (.int (128 : Int32))] []))
        refine own_go (fun _ k => XS.iloadN X108.here hx rfl (hb hby d_prog_42_method_11_6) rfl k) ?_
        show OwnGo p e below _ (T108.setTop (mkF m 7 #[.val (.ref a1), .val (.int p2), .val (.int (128 : Int32))] [(.int p2)]))
        refine own_go (fun _ k => XS.iloadN X108.here hx rfl (hb hby d_prog_42_method_11_7) rfl k) ?_
        show OwnGo p e below _ (T108.setTop (mkF m 8 #[.val (.ref a1), .val (.int p2), .val (.int (128 : Int32))] [(.int (128 : Int32)), (.int p2)]))
        refine own_go (fun _ k => XS.iconst X108.here hx rfl (hb hby d_prog_42_method_11_8) k) ?_
        show OwnGo p e below _ (T108.setTop (mkF m 9 #[.val (.ref a1), .val (.int p2), .val (.int (128 : Int32))] [(.int (4 : Int32)), (.int (128 : Int32)), (.int p2)]))
        refine own_go (fun _ k => XS.idiv X108.here hx rfl (hb hby d_prog_42_method_11_9) rfl (by decide) k) ?_
        show OwnGo p e below _ (T108.setTop (mkF m 10 #[.val (.ref a1), .val (.int p2), .val (.int (128 : Int32))] [(.int ((128 : Int32) / (4 : Int32))), (.int p2)]))
        rw [show ((128 : Int32) / (4 : Int32)) = (32 : Int32) from by decide]
        show OwnGo p e below _ (T108.setTop (mkF m 10 #[.val (.ref a1), .val (.int p2), .val (.int (128 : Int32))] [(.int (32 : Int32)), (.int p2)]))
        refine own_go (fun _ k => XS.iconst X108.here hx rfl (hb hby d_prog_42_method_11_10) k) ?_
        show OwnGo p e below _ (T108.setTop (mkF m 11 #[.val (.ref a1), .val (.int p2), .val (.int (128 : Int32))] [(.int (3 : Int32)), (.int (32 : Int32)), (.int p2)]))
        refine own_go (fun _ k => XS.imul X108.here hx rfl (hb hby d_prog_42_method_11_11) rfl k) ?_
        show OwnGo p e below _ (T108.setTop (mkF m 12 #[.val (.ref a1), .val (.int p2), .val (.int (128 : Int32))] [(.int ((32 : Int32) * (3 : Int32))), (.int p2)]))
        rw [show ((32 : Int32) * (3 : Int32)) = (96 : Int32) from by decide]
        show OwnGo p e below _ (T108.setTop (mkF m 12 #[.val (.ref a1), .val (.int p2), .val (.int (128 : Int32))] [(.int (96 : Int32)), (.int p2)]))
        by_cases hc113 : (96 : Int32) < p2
        · refine own_go (fun _ k => XS.icmpNo X108.here hx rfl (hb hby d_prog_42_method_11_12) rfl (tlt hc113).2.2.2 k) ?_
          show OwnGo p e below _ (T108.setTop (mkF m 15 #[.val (.ref a1), .val (.int p2), .val (.int (128 : Int32))] []))
          refine own_go (fun _ k => XS.iloadN X108.here hx rfl (hb hby d_prog_42_method_11_15) rfl k) ?_
          show OwnGo p e below _ (T108.setTop (mkF m 16 #[.val (.ref a1), .val (.int p2), .val (.int (128 : Int32))] [(.int (128 : Int32))]))
          refine own_go (fun _ k => Jvm.Stand.ldcI X108 hx hown (mvT hZ (hw _ (List.mem_of_getElem? (i := 69) rfl))) rfl (hb hby d_prog_42_method_11_16) k) ?_
          show OwnGo p e below _ (T108.setTop (mkF m 18 #[.val (.ref a1), .val (.int p2), .val (.int (128 : Int32))] [(.int (1073741824 : Int32)), (.int (128 : Int32))]))
          refine own_go (fun _ k => XS.icmpNo X108.here hx rfl (hb hby d_prog_42_method_11_18) rfl (by decide) k) ?_
          show OwnGo p e below _ (T108.setTop (mkF m 21 #[.val (.ref a1), .val (.int p2), .val (.int (128 : Int32))] []))
          refine own_go (fun _ k => XS.iloadN X108.here hx rfl (hb hby d_prog_42_method_11_21) rfl k) ?_
          show OwnGo p e below _ (T108.setTop (mkF m 22 #[.val (.ref a1), .val (.int p2), .val (.int (128 : Int32))] [(.int (128 : Int32))]))
          refine own_go (fun _ k => XS.iconst X108.here hx rfl (hb hby d_prog_42_method_11_22) k) ?_
          show OwnGo p e below _ (T108.setTop (mkF m 23 #[.val (.ref a1), .val (.int p2), .val (.int (128 : Int32))] [(.int (2 : Int32)), (.int (128 : Int32))]))
          refine own_go (fun _ k => XS.imul X108.here hx rfl (hb hby d_prog_42_method_11_23) rfl k) ?_
          show OwnGo p e below _ (T108.setTop (mkF m 24 #[.val (.ref a1), .val (.int p2), .val (.int (128 : Int32))] [(.int ((128 : Int32) * (2 : Int32)))]))
          rw [show ((128 : Int32) * (2 : Int32)) = (256 : Int32) from by decide]
          show OwnGo p e below _ (T108.setTop (mkF m 24 #[.val (.ref a1), .val (.int p2), .val (.int (128 : Int32))] [(.int (256 : Int32))]))
          refine own_go (fun _ k => XS.istoreN X108.here hx rfl (hb hby d_prog_42_method_11_24) rfl (l' := #[.val (.ref a1), .val (.int p2), .val (.int (256 : Int32))]) rfl k) ?_
          show OwnGo p e below _ (T108.setTop (mkF m 25 #[.val (.ref a1), .val (.int p2), .val (.int (256 : Int32))] []))
          refine own_go (fun _ k => XS.goto X108.here hx rfl (pc0 := 25) (pc' := 6) rfl (hb hby d_prog_42_method_11_25) (by decide) (by decide) k) ?_
          show OwnGo p e below _ (T108.setTop (mkF m 6 #[.val (.ref a1), .val (.int p2), .val (.int (256 : Int32))] []))
          refine own_go (fun _ k => XS.iloadN X108.here hx rfl (hb hby d_prog_42_method_11_6) rfl k) ?_
          show OwnGo p e below _ (T108.setTop (mkF m 7 #[.val (.ref a1), .val (.int p2), .val (.int (256 : Int32))] [(.int p2)]))
          refine own_go (fun _ k => XS.iloadN X108.here hx rfl (hb hby d_prog_42_method_11_7) rfl k) ?_
          show OwnGo p e below _ (T108.setTop (mkF m 8 #[.val (.ref a1), .val (.int p2), .val (.int (256 : Int32))] [(.int (256 : Int32)), (.int p2)]))
          refine own_go (fun _ k => XS.iconst X108.here hx rfl (hb hby d_prog_42_method_11_8) k) ?_
          show OwnGo p e below _ (T108.setTop (mkF m 9 #[.val (.ref a1), .val (.int p2), .val (.int (256 : Int32))] [(.int (4 : Int32)), (.int (256 : Int32)), (.int p2)]))
          refine own_go (fun _ k => XS.idiv X108.here hx rfl (hb hby d_prog_42_method_11_9) rfl (by decide) k) ?_
          show OwnGo p e below _ (T108.setTop (mkF m 10 #[.val (.ref a1), .val (.int p2), .val (.int (256 : Int32))] [(.int ((256 : Int32) / (4 : Int32))), (.int p2)]))
          rw [show ((256 : Int32) / (4 : Int32)) = (64 : Int32) from by decide]
          show OwnGo p e below _ (T108.setTop (mkF m 10 #[.val (.ref a1), .val (.int p2), .val (.int (256 : Int32))] [(.int (64 : Int32)), (.int p2)]))
          refine own_go (fun _ k => XS.iconst X108.here hx rfl (hb hby d_prog_42_method_11_10) k) ?_
          show OwnGo p e below _ (T108.setTop (mkF m 11 #[.val (.ref a1), .val (.int p2), .val (.int (256 : Int32))] [(.int (3 : Int32)), (.int (64 : Int32)), (.int p2)]))
          refine own_go (fun _ k => XS.imul X108.here hx rfl (hb hby d_prog_42_method_11_11) rfl k) ?_
          show OwnGo p e below _ (T108.setTop (mkF m 12 #[.val (.ref a1), .val (.int p2), .val (.int (256 : Int32))] [(.int ((64 : Int32) * (3 : Int32))), (.int p2)]))
          rw [show ((64 : Int32) * (3 : Int32)) = (192 : Int32) from by decide]
          show OwnGo p e below _ (T108.setTop (mkF m 12 #[.val (.ref a1), .val (.int p2), .val (.int (256 : Int32))] [(.int (192 : Int32)), (.int p2)]))
          by_cases hc114 : (192 : Int32) < p2
          · refine own_go (fun _ k => XS.icmpNo X108.here hx rfl (hb hby d_prog_42_method_11_12) rfl (tlt hc114).2.2.2 k) ?_
            show OwnGo p e below _ (T108.setTop (mkF m 15 #[.val (.ref a1), .val (.int p2), .val (.int (256 : Int32))] []))
            refine own_go (fun _ k => XS.iloadN X108.here hx rfl (hb hby d_prog_42_method_11_15) rfl k) ?_
            show OwnGo p e below _ (T108.setTop (mkF m 16 #[.val (.ref a1), .val (.int p2), .val (.int (256 : Int32))] [(.int (256 : Int32))]))
            refine own_go (fun _ k => Jvm.Stand.ldcI X108 hx hown (mvT hZ (hw _ (List.mem_of_getElem? (i := 69) rfl))) rfl (hb hby d_prog_42_method_11_16) k) ?_
            show OwnGo p e below _ (T108.setTop (mkF m 18 #[.val (.ref a1), .val (.int p2), .val (.int (256 : Int32))] [(.int (1073741824 : Int32)), (.int (256 : Int32))]))
            refine own_go (fun _ k => XS.icmpNo X108.here hx rfl (hb hby d_prog_42_method_11_18) rfl (by decide) k) ?_
            show OwnGo p e below _ (T108.setTop (mkF m 21 #[.val (.ref a1), .val (.int p2), .val (.int (256 : Int32))] []))
            refine own_go (fun _ k => XS.iloadN X108.here hx rfl (hb hby d_prog_42_method_11_21) rfl k) ?_
            show OwnGo p e below _ (T108.setTop (mkF m 22 #[.val (.ref a1), .val (.int p2), .val (.int (256 : Int32))] [(.int (256 : Int32))]))
            refine own_go (fun _ k => XS.iconst X108.here hx rfl (hb hby d_prog_42_method_11_22) k) ?_
            show OwnGo p e below _ (T108.setTop (mkF m 23 #[.val (.ref a1), .val (.int p2), .val (.int (256 : Int32))] [(.int (2 : Int32)), (.int (256 : Int32))]))
            refine own_go (fun _ k => XS.imul X108.here hx rfl (hb hby d_prog_42_method_11_23) rfl k) ?_
            show OwnGo p e below _ (T108.setTop (mkF m 24 #[.val (.ref a1), .val (.int p2), .val (.int (256 : Int32))] [(.int ((256 : Int32) * (2 : Int32)))]))
            rw [show ((256 : Int32) * (2 : Int32)) = (512 : Int32) from by decide]
            show OwnGo p e below _ (T108.setTop (mkF m 24 #[.val (.ref a1), .val (.int p2), .val (.int (256 : Int32))] [(.int (512 : Int32))]))
            refine own_go (fun _ k => XS.istoreN X108.here hx rfl (hb hby d_prog_42_method_11_24) rfl (l' := #[.val (.ref a1), .val (.int p2), .val (.int (512 : Int32))]) rfl k) ?_
            show OwnGo p e below _ (T108.setTop (mkF m 25 #[.val (.ref a1), .val (.int p2), .val (.int (512 : Int32))] []))
            refine own_go (fun _ k => XS.goto X108.here hx rfl (pc0 := 25) (pc' := 6) rfl (hb hby d_prog_42_method_11_25) (by decide) (by decide) k) ?_
            show OwnGo p e below _ (T108.setTop (mkF m 6 #[.val (.ref a1), .val (.int p2), .val (.int (512 : Int32))] []))
            refine own_go (fun _ k => XS.iloadN X108.here hx rfl (hb hby d_prog_42_method_11_6) rfl k) ?_
            show OwnGo p e below _ (T108.setTop (mkF m 7 #[.val (.ref a1), .val (.int p2), .val (.int (512 : Int32))] [(.int p2)]))
            refine own_go (fun _ k => XS.iloadN X108.here hx rfl (hb hby d_prog_42_method_11_7) rfl k) ?_
            show OwnGo p e below _ (T108.setTop (mkF m 8 #[.val (.ref a1), .val (.int p2), .val (.int (512 : Int32))] [(.int (512 : Int32)), (.int p2)]))
            refine own_go (fun _ k => XS.iconst X108.here hx rfl (hb hby d_prog_42_method_11_8) k) ?_
            show OwnGo p e below _ (T108.setTop (mkF m 9 #[.val (.ref a1), .val (.int p2), .val (.int (512 : Int32))] [(.int (4 : Int32)), (.int (512 : Int32)), (.int p2)]))
            refine own_go (fun _ k => XS.idiv X108.here hx rfl (hb hby d_prog_42_method_11_9) rfl (by decide) k) ?_
            show OwnGo p e below _ (T108.setTop (mkF m 10 #[.val (.ref a1), .val (.int p2), .val (.int (512 : Int32))] [(.int ((512 : Int32) / (4 : Int32))), (.int p2)]))
            rw [show ((512 : Int32) / (4 : Int32)) = (128 : Int32) from by decide]
            show OwnGo p e below _ (T108.setTop (mkF m 10 #[.val (.ref a1), .val (.int p2), .val (.int (512 : Int32))] [(.int (128 : Int32)), (.int p2)]))
            refine own_go (fun _ k => XS.iconst X108.here hx rfl (hb hby d_prog_42_method_11_10) k) ?_
            show OwnGo p e below _ (T108.setTop (mkF m 11 #[.val (.ref a1), .val (.int p2), .val (.int (512 : Int32))] [(.int (3 : Int32)), (.int (128 : Int32)), (.int p2)]))
            refine own_go (fun _ k => XS.imul X108.here hx rfl (hb hby d_prog_42_method_11_11) rfl k) ?_
            show OwnGo p e below _ (T108.setTop (mkF m 12 #[.val (.ref a1), .val (.int p2), .val (.int (512 : Int32))] [(.int ((128 : Int32) * (3 : Int32))), (.int p2)]))
            rw [show ((128 : Int32) * (3 : Int32)) = (384 : Int32) from by decide]
            show OwnGo p e below _ (T108.setTop (mkF m 12 #[.val (.ref a1), .val (.int p2), .val (.int (512 : Int32))] [(.int (384 : Int32)), (.int p2)]))
            by_cases hc115 : (384 : Int32) < p2
            · refine own_go (fun _ k => XS.icmpNo X108.here hx rfl (hb hby d_prog_42_method_11_12) rfl (tlt hc115).2.2.2 k) ?_
              show OwnGo p e below _ (T108.setTop (mkF m 15 #[.val (.ref a1), .val (.int p2), .val (.int (512 : Int32))] []))
              refine own_go (fun _ k => XS.iloadN X108.here hx rfl (hb hby d_prog_42_method_11_15) rfl k) ?_
              show OwnGo p e below _ (T108.setTop (mkF m 16 #[.val (.ref a1), .val (.int p2), .val (.int (512 : Int32))] [(.int (512 : Int32))]))
              refine own_go (fun _ k => Jvm.Stand.ldcI X108 hx hown (mvT hZ (hw _ (List.mem_of_getElem? (i := 69) rfl))) rfl (hb hby d_prog_42_method_11_16) k) ?_
              show OwnGo p e below _ (T108.setTop (mkF m 18 #[.val (.ref a1), .val (.int p2), .val (.int (512 : Int32))] [(.int (1073741824 : Int32)), (.int (512 : Int32))]))
              refine own_go (fun _ k => XS.icmpNo X108.here hx rfl (hb hby d_prog_42_method_11_18) rfl (by decide) k) ?_
              show OwnGo p e below _ (T108.setTop (mkF m 21 #[.val (.ref a1), .val (.int p2), .val (.int (512 : Int32))] []))
              refine own_go (fun _ k => XS.iloadN X108.here hx rfl (hb hby d_prog_42_method_11_21) rfl k) ?_
              show OwnGo p e below _ (T108.setTop (mkF m 22 #[.val (.ref a1), .val (.int p2), .val (.int (512 : Int32))] [(.int (512 : Int32))]))
              refine own_go (fun _ k => XS.iconst X108.here hx rfl (hb hby d_prog_42_method_11_22) k) ?_
              show OwnGo p e below _ (T108.setTop (mkF m 23 #[.val (.ref a1), .val (.int p2), .val (.int (512 : Int32))] [(.int (2 : Int32)), (.int (512 : Int32))]))
              refine own_go (fun _ k => XS.imul X108.here hx rfl (hb hby d_prog_42_method_11_23) rfl k) ?_
              show OwnGo p e below _ (T108.setTop (mkF m 24 #[.val (.ref a1), .val (.int p2), .val (.int (512 : Int32))] [(.int ((512 : Int32) * (2 : Int32)))]))
              rw [show ((512 : Int32) * (2 : Int32)) = (1024 : Int32) from by decide]
              show OwnGo p e below _ (T108.setTop (mkF m 24 #[.val (.ref a1), .val (.int p2), .val (.int (512 : Int32))] [(.int (1024 : Int32))]))
              refine own_go (fun _ k => XS.istoreN X108.here hx rfl (hb hby d_prog_42_method_11_24) rfl (l' := #[.val (.ref a1), .val (.int p2), .val (.int (1024 : Int32))]) rfl k) ?_
              show OwnGo p e below _ (T108.setTop (mkF m 25 #[.val (.ref a1), .val (.int p2), .val (.int (1024 : Int32))] []))
              refine own_go (fun _ k => XS.goto X108.here hx rfl (pc0 := 25) (pc' := 6) rfl (hb hby d_prog_42_method_11_25) (by decide) (by decide) k) ?_
              show OwnGo p e below _ (T108.setTop (mkF m 6 #[.val (.ref a1), .val (.int p2), .val (.int (1024 : Int32))] []))
              refine own_go (fun _ k => XS.iloadN X108.here hx rfl (hb hby d_prog_42_method_11_6) rfl k) ?_
              show OwnGo p e below _ (T108.setTop (mkF m 7 #[.val (.ref a1), .val (.int p2), .val (.int (1024 : Int32))] [(.int p2)]))
              refine own_go (fun _ k => XS.iloadN X108.here hx rfl (hb hby d_prog_42_method_11_7) rfl k) ?_
              show OwnGo p e below _ (T108.setTop (mkF m 8 #[.val (.ref a1), .val (.int p2), .val (.int (1024 : Int32))] [(.int (1024 : Int32)), (.int p2)]))
              refine own_go (fun _ k => XS.iconst X108.here hx rfl (hb hby d_prog_42_method_11_8) k) ?_
              show OwnGo p e below _ (T108.setTop (mkF m 9 #[.val (.ref a1), .val (.int p2), .val (.int (1024 : Int32))] [(.int (4 : Int32)), (.int (1024 : Int32)), (.int p2)]))
              refine own_go (fun _ k => XS.idiv X108.here hx rfl (hb hby d_prog_42_method_11_9) rfl (by decide) k) ?_
              show OwnGo p e below _ (T108.setTop (mkF m 10 #[.val (.ref a1), .val (.int p2), .val (.int (1024 : Int32))] [(.int ((1024 : Int32) / (4 : Int32))), (.int p2)]))
              rw [show ((1024 : Int32) / (4 : Int32)) = (256 : Int32) from by decide]
              show OwnGo p e below _ (T108.setTop (mkF m 10 #[.val (.ref a1), .val (.int p2), .val (.int (1024 : Int32))] [(.int (256 : Int32)), (.int p2)]))
              refine own_go (fun _ k => XS.iconst X108.here hx rfl (hb hby d_prog_42_method_11_10) k) ?_
              show OwnGo p e below _ (T108.setTop (mkF m 11 #[.val (.ref a1), .val (.int p2), .val (.int (1024 : Int32))] [(.int (3 : Int32)), (.int (256 : Int32)), (.int p2)]))
              refine own_go (fun _ k => XS.imul X108.here hx rfl (hb hby d_prog_42_method_11_11) rfl k) ?_
              show OwnGo p e below _ (T108.setTop (mkF m 12 #[.val (.ref a1), .val (.int p2), .val (.int (1024 : Int32))] [(.int ((256 : Int32) * (3 : Int32))), (.int p2)]))
              rw [show ((256 : Int32) * (3 : Int32)) = (768 : Int32) from by decide]
              show OwnGo p e below _ (T108.setTop (mkF m 12 #[.val (.ref a1), .val (.int p2), .val (.int (1024 : Int32))] [(.int (768 : Int32)), (.int p2)]))
              by_cases hc116 : (768 : Int32) < p2
              · refine own_go (fun _ k => XS.icmpNo X108.here hx rfl (hb hby d_prog_42_method_11_12) rfl (tlt hc116).2.2.2 k) ?_
                show OwnGo p e below _ (T108.setTop (mkF m 15 #[.val (.ref a1), .val (.int p2), .val (.int (1024 : Int32))] []))
                refine own_go (fun _ k => XS.iloadN X108.here hx rfl (hb hby d_prog_42_method_11_15) rfl k) ?_
                show OwnGo p e below _ (T108.setTop (mkF m 16 #[.val (.ref a1), .val (.int p2), .val (.int (1024 : Int32))] [(.int (1024 : Int32))]))
                refine own_go (fun _ k => Jvm.Stand.ldcI X108 hx hown (mvT hZ (hw _ (List.mem_of_getElem? (i := 69) rfl))) rfl (hb hby d_prog_42_method_11_16) k) ?_
                show OwnGo p e below _ (T108.setTop (mkF m 18 #[.val (.ref a1), .val (.int p2), .val (.int (1024 : Int32))] [(.int (1073741824 : Int32)), (.int (1024 : Int32))]))
                refine own_go (fun _ k => XS.icmpNo X108.here hx rfl (hb hby d_prog_42_method_11_18) rfl (by decide) k) ?_
                show OwnGo p e below _ (T108.setTop (mkF m 21 #[.val (.ref a1), .val (.int p2), .val (.int (1024 : Int32))] []))
                refine own_go (fun _ k => XS.iloadN X108.here hx rfl (hb hby d_prog_42_method_11_21) rfl k) ?_
                show OwnGo p e below _ (T108.setTop (mkF m 22 #[.val (.ref a1), .val (.int p2), .val (.int (1024 : Int32))] [(.int (1024 : Int32))]))
                refine own_go (fun _ k => XS.iconst X108.here hx rfl (hb hby d_prog_42_method_11_22) k) ?_
                show OwnGo p e below _ (T108.setTop (mkF m 23 #[.val (.ref a1), .val (.int p2), .val (.int (1024 : Int32))] [(.int (2 : Int32)), (.int (1024 : Int32))]))
                refine own_go (fun _ k => XS.imul X108.here hx rfl (hb hby d_prog_42_method_11_23) rfl k) ?_
                show OwnGo p e below _ (T108.setTop (mkF m 24 #[.val (.ref a1), .val (.int p2), .val (.int (1024 : Int32))] [(.int ((1024 : Int32) * (2 : Int32)))]))
                rw [show ((1024 : Int32) * (2 : Int32)) = (2048 : Int32) from by decide]
                show OwnGo p e below _ (T108.setTop (mkF m 24 #[.val (.ref a1), .val (.int p2), .val (.int (1024 : Int32))] [(.int (2048 : Int32))]))
                refine own_go (fun _ k => XS.istoreN X108.here hx rfl (hb hby d_prog_42_method_11_24) rfl (l' := #[.val (.ref a1), .val (.int p2), .val (.int (2048 : Int32))]) rfl k) ?_
                show OwnGo p e below _ (T108.setTop (mkF m 25 #[.val (.ref a1), .val (.int p2), .val (.int (2048 : Int32))] []))
                refine own_go (fun _ k => XS.goto X108.here hx rfl (pc0 := 25) (pc' := 6) rfl (hb hby d_prog_42_method_11_25) (by decide) (by decide) k) ?_
                show OwnGo p e below _ (T108.setTop (mkF m 6 #[.val (.ref a1), .val (.int p2), .val (.int (2048 : Int32))] []))
                refine own_go (fun _ k => XS.iloadN X108.here hx rfl (hb hby d_prog_42_method_11_6) rfl k) ?_
                show OwnGo p e below _ (T108.setTop (mkF m 7 #[.val (.ref a1), .val (.int p2), .val (.int (2048 : Int32))] [(.int p2)]))
                refine own_go (fun _ k => XS.iloadN X108.here hx rfl (hb hby d_prog_42_method_11_7) rfl k) ?_
                show OwnGo p e below _ (T108.setTop (mkF m 8 #[.val (.ref a1), .val (.int p2), .val (.int (2048 : Int32))] [(.int (2048 : Int32)), (.int p2)]))
                refine own_go (fun _ k => XS.iconst X108.here hx rfl (hb hby d_prog_42_method_11_8) k) ?_
                show OwnGo p e below _ (T108.setTop (mkF m 9 #[.val (.ref a1), .val (.int p2), .val (.int (2048 : Int32))] [(.int (4 : Int32)), (.int (2048 : Int32)), (.int p2)]))
                refine own_go (fun _ k => XS.idiv X108.here hx rfl (hb hby d_prog_42_method_11_9) rfl (by decide) k) ?_
                show OwnGo p e below _ (T108.setTop (mkF m 10 #[.val (.ref a1), .val (.int p2), .val (.int (2048 : Int32))] [(.int ((2048 : Int32) / (4 : Int32))), (.int p2)]))
                rw [show ((2048 : Int32) / (4 : Int32)) = (512 : Int32) from by decide]
                show OwnGo p e below _ (T108.setTop (mkF m 10 #[.val (.ref a1), .val (.int p2), .val (.int (2048 : Int32))] [(.int (512 : Int32)), (.int p2)]))
                refine own_go (fun _ k => XS.iconst X108.here hx rfl (hb hby d_prog_42_method_11_10) k) ?_
                show OwnGo p e below _ (T108.setTop (mkF m 11 #[.val (.ref a1), .val (.int p2), .val (.int (2048 : Int32))] [(.int (3 : Int32)), (.int (512 : Int32)), (.int p2)]))
                refine own_go (fun _ k => XS.imul X108.here hx rfl (hb hby d_prog_42_method_11_11) rfl k) ?_
                show OwnGo p e below _ (T108.setTop (mkF m 12 #[.val (.ref a1), .val (.int p2), .val (.int (2048 : Int32))] [(.int ((512 : Int32) * (3 : Int32))), (.int p2)]))
                rw [show ((512 : Int32) * (3 : Int32)) = (1536 : Int32) from by decide]
                show OwnGo p e below _ (T108.setTop (mkF m 12 #[.val (.ref a1), .val (.int p2), .val (.int (2048 : Int32))] [(.int (1536 : Int32)), (.int p2)]))
                by_cases hc117 : (1536 : Int32) < p2
                · refine own_go (fun _ k => XS.icmpNo X108.here hx rfl (hb hby d_prog_42_method_11_12) rfl (tlt hc117).2.2.2 k) ?_
                  show OwnGo p e below _ (T108.setTop (mkF m 15 #[.val (.ref a1), .val (.int p2), .val (.int (2048 : Int32))] []))
                  refine own_go (fun _ k => XS.iloadN X108.here hx rfl (hb hby d_prog_42_method_11_15) rfl k) ?_
                  show OwnGo p e below _ (T108.setTop (mkF m 16 #[.val (.ref a1), .val (.int p2), .val (.int (2048 : Int32))] [(.int (2048 : Int32))]))
                  refine own_go (fun _ k => Jvm.Stand.ldcI X108 hx hown (mvT hZ (hw _ (List.mem_of_getElem? (i := 69) rfl))) rfl (hb hby d_prog_42_method_11_16) k) ?_
                  show OwnGo p e below _ (T108.setTop (mkF m 18 #[.val (.ref a1), .val (.int p2), .val (.int (2048 : Int32))] [(.int (1073741824 : Int32)), (.int (2048 : Int32))]))
                  refine own_go (fun _ k => XS.icmpNo X108.here hx rfl (hb hby d_prog_42_method_11_18) rfl (by decide) k) ?_
                  show OwnGo p e below _ (T108.setTop (mkF m 21 #[.val (.ref a1), .val (.int p2), .val (.int (2048 : Int32))] []))
                  refine own_go (fun _ k => XS.iloadN X108.here hx rfl (hb hby d_prog_42_method_11_21) rfl k) ?_
                  show OwnGo p e below _ (T108.setTop (mkF m 22 #[.val (.ref a1), .val (.int p2), .val (.int (2048 : Int32))] [(.int (2048 : Int32))]))
                  refine own_go (fun _ k => XS.iconst X108.here hx rfl (hb hby d_prog_42_method_11_22) k) ?_
                  show OwnGo p e below _ (T108.setTop (mkF m 23 #[.val (.ref a1), .val (.int p2), .val (.int (2048 : Int32))] [(.int (2 : Int32)), (.int (2048 : Int32))]))
                  refine own_go (fun _ k => XS.imul X108.here hx rfl (hb hby d_prog_42_method_11_23) rfl k) ?_
                  show OwnGo p e below _ (T108.setTop (mkF m 24 #[.val (.ref a1), .val (.int p2), .val (.int (2048 : Int32))] [(.int ((2048 : Int32) * (2 : Int32)))]))
                  rw [show ((2048 : Int32) * (2 : Int32)) = (4096 : Int32) from by decide]
                  show OwnGo p e below _ (T108.setTop (mkF m 24 #[.val (.ref a1), .val (.int p2), .val (.int (2048 : Int32))] [(.int (4096 : Int32))]))
                  refine own_go (fun _ k => XS.istoreN X108.here hx rfl (hb hby d_prog_42_method_11_24) rfl (l' := #[.val (.ref a1), .val (.int p2), .val (.int (4096 : Int32))]) rfl k) ?_
                  show OwnGo p e below _ (T108.setTop (mkF m 25 #[.val (.ref a1), .val (.int p2), .val (.int (4096 : Int32))] []))
                  refine own_go (fun _ k => XS.goto X108.here hx rfl (pc0 := 25) (pc' := 6) rfl (hb hby d_prog_42_method_11_25) (by decide) (by decide) k) ?_
                  show OwnGo p e below _ (T108.setTop (mkF m 6 #[.val (.ref a1), .val (.int p2), .val (.int (4096 : Int32))] []))
                  refine own_go (fun _ k => XS.iloadN X108.here hx rfl (hb hby d_prog_42_method_11_6) rfl k) ?_
                  show OwnGo p e below _ (T108.setTop (mkF m 7 #[.val (.ref a1), .val (.int p2), .val (.int (4096 : Int32))] [(.int p2)]))
                  refine own_go (fun _ k => XS.iloadN X108.here hx rfl (hb hby d_prog_42_method_11_7) rfl k) ?_
                  show OwnGo p e below _ (T108.setTop (mkF m 8 #[.val (.ref a1), .val (.int p2), .val (.int (4096 : Int32))] [(.int (4096 : Int32)), (.int p2)]))
                  refine own_go (fun _ k => XS.iconst X108.here hx rfl (hb hby d_prog_42_method_11_8) k) ?_
                  show OwnGo p e below _ (T108.setTop (mkF m 9 #[.val (.ref a1), .val (.int p2), .val (.int (4096 : Int32))] [(.int (4 : Int32)), (.int (4096 : Int32)), (.int p2)]))
                  refine own_go (fun _ k => XS.idiv X108.here hx rfl (hb hby d_prog_42_method_11_9) rfl (by decide) k) ?_
                  show OwnGo p e below _ (T108.setTop (mkF m 10 #[.val (.ref a1), .val (.int p2), .val (.int (4096 : Int32))] [(.int ((4096 : Int32) / (4 : Int32))), (.int p2)]))
                  rw [show ((4096 : Int32) / (4 : Int32)) = (1024 : Int32) from by decide]
                  show OwnGo p e below _ (T108.setTop (mkF m 10 #[.val (.ref a1), .val (.int p2), .val (.int (4096 : Int32))] [(.int (1024 : Int32)), (.int p2)]))
                  refine own_go (fun _ k => XS.iconst X108.here hx rfl (hb hby d_prog_42_method_11_10) k) ?_
                  show OwnGo p e below _ (T108.setTop (mkF m 11 #[.val (.ref a1), .val (.int p2), .val (.int (4096 : Int32))] [(.int (3 : Int32)), (.int (1024 : Int32)), (.int p2)]))
                  refine own_go (fun _ k => XS.imul X108.here hx rfl (hb hby d_prog_42_method_11_11) rfl k) ?_
                  show OwnGo p e below _ (T108.setTop (mkF m 12 #[.val (.ref a1), .val (.int p2), .val (.int (4096 : Int32))] [(.int ((1024 : Int32) * (3 : Int32))), (.int p2)]))
                  rw [show ((1024 : Int32) * (3 : Int32)) = (3072 : Int32) from by decide]
                  show OwnGo p e below _ (T108.setTop (mkF m 12 #[.val (.ref a1), .val (.int p2), .val (.int (4096 : Int32))] [(.int (3072 : Int32)), (.int p2)]))
                  by_cases hc118 : (3072 : Int32) < p2
                  · refine own_go (fun _ k => XS.icmpNo X108.here hx rfl (hb hby d_prog_42_method_11_12) rfl (tlt hc118).2.2.2 k) ?_
                    show OwnGo p e below _ (T108.setTop (mkF m 15 #[.val (.ref a1), .val (.int p2), .val (.int (4096 : Int32))] []))
                    refine own_go (fun _ k => XS.iloadN X108.here hx rfl (hb hby d_prog_42_method_11_15) rfl k) ?_
                    show OwnGo p e below _ (T108.setTop (mkF m 16 #[.val (.ref a1), .val (.int p2), .val (.int (4096 : Int32))] [(.int (4096 : Int32))]))
                    refine own_go (fun _ k => Jvm.Stand.ldcI X108 hx hown (mvT hZ (hw _ (List.mem_of_getElem? (i := 69) rfl))) rfl (hb hby d_prog_42_method_11_16) k) ?_
                    show OwnGo p e below _ (T108.setTop (mkF m 18 #[.val (.ref a1), .val (.int p2), .val (.int (4096 : Int32))] [(.int (1073741824 : Int32)), (.int (4096 : Int32))]))
                    refine own_go (fun _ k => XS.icmpNo X108.here hx rfl (hb hby d_prog_42_method_11_18) rfl (by decide) k) ?_
                    show OwnGo p e below _ (T108.setTop (mkF m 21 #[.val (.ref a1), .val (.int p2), .val (.int (4096 : Int32))] []))
                    refine own_go (fun _ k => XS.iloadN X108.here hx rfl (hb hby d_prog_42_method_11_21) rfl k) ?_
                    show OwnGo p e below _ (T108.setTop (mkF m 22 #[.val (.ref a1), .val (.int p2), .val (.int (4096 : Int32))] [(.int (4096 : Int32))]))
                    refine own_go (fun _ k => XS.iconst X108.here hx rfl (hb hby d_prog_42_method_11_22) k) ?_
                    show OwnGo p e below _ (T108.setTop (mkF m 23 #[.val (.ref a1), .val (.int p2), .val (.int (4096 : Int32))] [(.int (2 : Int32)), (.int (4096 : Int32))]))
                    refine own_go (fun _ k => XS.imul X108.here hx rfl (hb hby d_prog_42_method_11_23) rfl k) ?_
                    show OwnGo p e below _ (T108.setTop (mkF m 24 #[.val (.ref a1), .val (.int p2), .val (.int (4096 : Int32))] [(.int ((4096 : Int32) * (2 : Int32)))]))
                    rw [show ((4096 : Int32) * (2 : Int32)) = (8192 : Int32) from by decide]
                    show OwnGo p e below _ (T108.setTop (mkF m 24 #[.val (.ref a1), .val (.int p2), .val (.int (4096 : Int32))] [(.int (8192 : Int32))]))
                    refine own_go (fun _ k => XS.istoreN X108.here hx rfl (hb hby d_prog_42_method_11_24) rfl (l' := #[.val (.ref a1), .val (.int p2), .val (.int (8192 : Int32))]) rfl k) ?_
                    show OwnGo p e below _ (T108.setTop (mkF m 25 #[.val (.ref a1), .val (.int p2), .val (.int (8192 : Int32))] []))
                    refine own_go (fun _ k => XS.goto X108.here hx rfl (pc0 := 25) (pc' := 6) rfl (hb hby d_prog_42_method_11_25) (by decide) (by decide) k) ?_
                    show OwnGo p e below _ (T108.setTop (mkF m 6 #[.val (.ref a1), .val (.int p2), .val (.int (8192 : Int32))] []))
                    refine own_go (fun _ k => XS.iloadN X108.here hx rfl (hb hby d_prog_42_method_11_6) rfl k) ?_
                    show OwnGo p e below _ (T108.setTop (mkF m 7 #[.val (.ref a1), .val (.int p2), .val (.int (8192 : Int32))] [(.int p2)]))
                    refine own_go (fun _ k => XS.iloadN X108.here hx rfl (hb hby d_prog_42_method_11_7) rfl k) ?_
                    show OwnGo p e below _ (T108.setTop (mkF m 8 #[.val (.ref a1), .val (.int p2), .val (.int (8192 : Int32))] [(.int (8192 : Int32)), (.int p2)]))
                    refine own_go (fun _ k => XS.iconst X108.here hx rfl (hb hby d_prog_42_method_11_8) k) ?_
                    show OwnGo p e below _ (T108.setTop (mkF m 9 #[.val (.ref a1), .val (.int p2), .val (.int (8192 : Int32))] [(.int (4 : Int32)), (.int (8192 : Int32)), (.int p2)]))
                    refine own_go (fun _ k => XS.idiv X108.here hx rfl (hb hby d_prog_42_method_11_9) rfl (by decide) k) ?_
                    show OwnGo p e below _ (T108.setTop (mkF m 10 #[.val (.ref a1), .val (.int p2), .val (.int (8192 : Int32))] [(.int ((8192 : Int32) / (4 : Int32))), (.int p2)]))
                    rw [show ((8192 : Int32) / (4 : Int32)) = (2048 : Int32) from by decide]
                    show OwnGo p e below _ (T108.setTop (mkF m 10 #[.val (.ref a1), .val (.int p2), .val (.int (8192 : Int32))] [(.int (2048 : Int32)), (.int p2)]))
                    refine own_go (fun _ k => XS.iconst X108.here hx rfl (hb hby d_prog_42_method_11_10) k) ?_
                    show OwnGo p e below _ (T108.setTop (mkF m 11 #[.val (.ref a1), .val (.int p2), .val (.int (8192 : Int32))] [(.int (3 : Int32)), (.int (2048 : Int32)), (.int p2)]))
                    refine own_go (fun _ k => XS.imul X108.here hx rfl (hb hby d_prog_42_method_11_11) rfl k) ?_
                    show OwnGo p e below _ (T108.setTop (mkF m 12 #[.val (.ref a1), .val (.int p2), .val (.int (8192 : Int32))] [(.int ((2048 : Int32) * (3 : Int32))), (.int p2)]))
                    rw [show ((2048 : Int32) * (3 : Int32)) = (6144 : Int32) from by decide]
                    show OwnGo p e below _ (T108.setTop (mkF m 12 #[.val (.ref a1), .val (.int p2), .val (.int (8192 : Int32))] [(.int (6144 : Int32)), (.int p2)]))
                    by_cases hc119 : (6144 : Int32) < p2
                    · refine own_go (fun _ k => XS.icmpNo X108.here hx rfl (hb hby d_prog_42_method_11_12) rfl (tlt hc119).2.2.2 k) ?_
                      show OwnGo p e below _ (T108.setTop (mkF m 15 #[.val (.ref a1), .val (.int p2), .val (.int (8192 : Int32))] []))
                      refine own_go (fun _ k => XS.iloadN X108.here hx rfl (hb hby d_prog_42_method_11_15) rfl k) ?_
                      show OwnGo p e below _ (T108.setTop (mkF m 16 #[.val (.ref a1), .val (.int p2), .val (.int (8192 : Int32))] [(.int (8192 : Int32))]))
                      refine own_go (fun _ k => Jvm.Stand.ldcI X108 hx hown (mvT hZ (hw _ (List.mem_of_getElem? (i := 69) rfl))) rfl (hb hby d_prog_42_method_11_16) k) ?_
                      show OwnGo p e below _ (T108.setTop (mkF m 18 #[.val (.ref a1), .val (.int p2), .val (.int (8192 : Int32))] [(.int (1073741824 : Int32)), (.int (8192 : Int32))]))
                      refine own_go (fun _ k => XS.icmpNo X108.here hx rfl (hb hby d_prog_42_method_11_18) rfl (by decide) k) ?_
                      show OwnGo p e below _ (T108.setTop (mkF m 21 #[.val (.ref a1), .val (.int p2), .val (.int (8192 : Int32))] []))
                      refine own_go (fun _ k => XS.iloadN X108.here hx rfl (hb hby d_prog_42_method_11_21) rfl k) ?_
                      show OwnGo p e below _ (T108.setTop (mkF m 22 #[.val (.ref a1), .val (.int p2), .val (.int (8192 : Int32))] [(.int (8192 : Int32))]))
                      refine own_go (fun _ k => XS.iconst X108.here hx rfl (hb hby d_prog_42_method_11_22) k) ?_
                      show OwnGo p e below _ (T108.setTop (mkF m 23 #[.val (.ref a1), .val (.int p2), .val (.int (8192 : Int32))] [(.int (2 : Int32)), (.int (8192 : Int32))]))
                      refine own_go (fun _ k => XS.imul X108.here hx rfl (hb hby d_prog_42_method_11_23) rfl k) ?_
                      show OwnGo p e below _ (T108.setTop (mkF m 24 #[.val (.ref a1), .val (.int p2), .val (.int (8192 : Int32))] [(.int ((8192 : Int32) * (2 : Int32)))]))
                      rw [show ((8192 : Int32) * (2 : Int32)) = (16384 : Int32) from by decide]
                      show OwnGo p e below _ (T108.setTop (mkF m 24 #[.val (.ref a1), .val (.int p2), .val (.int (8192 : Int32))] [(.int (16384 : Int32))]))
                      refine own_go (fun _ k => XS.istoreN X108.here hx rfl (hb hby d_prog_42_method_11_24) rfl (l' := #[.val (.ref a1), .val (.int p2), .val (.int (16384 : Int32))]) rfl k) ?_
                      show OwnGo p e below _ (T108.setTop (mkF m 25 #[.val (.ref a1), .val (.int p2), .val (.int (16384 : Int32))] []))
                      refine own_go (fun _ k => XS.goto X108.here hx rfl (pc0 := 25) (pc' := 6) rfl (hb hby d_prog_42_method_11_25) (by decide) (by decide) k) ?_
                      show OwnGo p e below _ (T108.setTop (mkF m 6 #[.val (.ref a1), .val (.int p2), .val (.int (16384 : Int32))] []))
                      refine own_go (fun _ k => XS.iloadN X108.here hx rfl (hb hby d_prog_42_method_11_6) rfl k) ?_
                      show OwnGo p e below _ (T108.setTop (mkF m 7 #[.val (.ref a1), .val (.int p2), .val (.int (16384 : Int32))] [(.int p2)]))
                      refine own_go (fun _ k => XS.iloadN X108.here hx rfl (hb hby d_prog_42_method_11_7) rfl k) ?_
                      show OwnGo p e below _ (T108.setTop (mkF m 8 #[.val (.ref a1), .val (.int p2), .val (.int (16384 : Int32))] [(.int (16384 : Int32)), (.int p2)]))
                      refine own_go (fun _ k => XS.iconst X108.here hx rfl (hb hby d_prog_42_method_11_8) k) ?_
                      show OwnGo p e below _ (T108.setTop (mkF m 9 #[.val (.ref a1), .val (.int p2), .val (.int (16384 : Int32))] [(.int (4 : Int32)), (.int (16384 : Int32)), (.int p2)]))
                      refine own_go (fun _ k => XS.idiv X108.here hx rfl (hb hby d_prog_42_method_11_9) rfl (by decide) k) ?_
                      show OwnGo p e below _ (T108.setTop (mkF m 10 #[.val (.ref a1), .val (.int p2), .val (.int (16384 : Int32))] [(.int ((16384 : Int32) / (4 : Int32))), (.int p2)]))
                      rw [show ((16384 : Int32) / (4 : Int32)) = (4096 : Int32) from by decide]
                      show OwnGo p e below _ (T108.setTop (mkF m 10 #[.val (.ref a1), .val (.int p2), .val (.int (16384 : Int32))] [(.int (4096 : Int32)), (.int p2)]))
                      refine own_go (fun _ k => XS.iconst X108.here hx rfl (hb hby d_prog_42_method_11_10) k) ?_
                      show OwnGo p e below _ (T108.setTop (mkF m 11 #[.val (.ref a1), .val (.int p2), .val (.int (16384 : Int32))] [(.int (3 : Int32)), (.int (4096 : Int32)), (.int p2)]))
                      refine own_go (fun _ k => XS.imul X108.here hx rfl (hb hby d_prog_42_method_11_11) rfl k) ?_
                      show OwnGo p e below _ (T108.setTop (mkF m 12 #[.val (.ref a1), .val (.int p2), .val (.int (16384 : Int32))] [(.int ((4096 : Int32) * (3 : Int32))), (.int p2)]))
                      rw [show ((4096 : Int32) * (3 : Int32)) = (12288 : Int32) from by decide]
                      show OwnGo p e below _ (T108.setTop (mkF m 12 #[.val (.ref a1), .val (.int p2), .val (.int (16384 : Int32))] [(.int (12288 : Int32)), (.int p2)]))
                      by_cases hc120 : (12288 : Int32) < p2
                      · refine own_go (fun _ k => XS.icmpNo X108.here hx rfl (hb hby d_prog_42_method_11_12) rfl (tlt hc120).2.2.2 k) ?_
                        show OwnGo p e below _ (T108.setTop (mkF m 15 #[.val (.ref a1), .val (.int p2), .val (.int (16384 : Int32))] []))
                        refine own_go (fun _ k => XS.iloadN X108.here hx rfl (hb hby d_prog_42_method_11_15) rfl k) ?_
                        show OwnGo p e below _ (T108.setTop (mkF m 16 #[.val (.ref a1), .val (.int p2), .val (.int (16384 : Int32))] [(.int (16384 : Int32))]))
                        refine own_go (fun _ k => Jvm.Stand.ldcI X108 hx hown (mvT hZ (hw _ (List.mem_of_getElem? (i := 69) rfl))) rfl (hb hby d_prog_42_method_11_16) k) ?_
                        show OwnGo p e below _ (T108.setTop (mkF m 18 #[.val (.ref a1), .val (.int p2), .val (.int (16384 : Int32))] [(.int (1073741824 : Int32)), (.int (16384 : Int32))]))
                        refine own_go (fun _ k => XS.icmpNo X108.here hx rfl (hb hby d_prog_42_method_11_18) rfl (by decide) k) ?_
                        show OwnGo p e below _ (T108.setTop (mkF m 21 #[.val (.ref a1), .val (.int p2), .val (.int (16384 : Int32))] []))
                        refine own_go (fun _ k => XS.iloadN X108.here hx rfl (hb hby d_prog_42_method_11_21) rfl k) ?_
                        show OwnGo p e below _ (T108.setTop (mkF m 22 #[.val (.ref a1), .val (.int p2), .val (.int (16384 : Int32))] [(.int (16384 : Int32))]))
                        refine own_go (fun _ k => XS.iconst X108.here hx rfl (hb hby d_prog_42_method_11_22) k) ?_
                        show OwnGo p e below _ (T108.setTop (mkF m 23 #[.val (.ref a1), .val (.int p2), .val (.int (16384 : Int32))] [(.int (2 : Int32)), (.int (16384 : Int32))]))
                        refine own_go (fun _ k => XS.imul X108.here hx rfl (hb hby d_prog_42_method_11_23) rfl k) ?_
                        show OwnGo p e below _ (T108.setTop (mkF m 24 #[.val (.ref a1), .val (.int p2), .val (.int (16384 : Int32))] [(.int ((16384 : Int32) * (2 : Int32)))]))
                        rw [show ((16384 : Int32) * (2 : Int32)) = (32768 : Int32) from by decide]
                        show OwnGo p e below _ (T108.setTop (mkF m 24 #[.val (.ref a1), .val (.int p2), .val (.int (16384 : Int32))] [(.int (32768 : Int32))]))
                        refine own_go (fun _ k => XS.istoreN X108.here hx rfl (hb hby d_prog_42_method_11_24) rfl (l' := #[.val (.ref a1), .val (.int p2), .val (.int (32768 : Int32))]) rfl k) ?_
                        show OwnGo p e below _ (T108.setTop (mkF m 25 #[.val (.ref a1), .val (.int p2), .val (.int (32768 : Int32))] []))
                        refine own_go (fun _ k => XS.goto X108.here hx rfl (pc0 := 25) (pc' := 6) rfl (hb hby d_prog_42_method_11_25) (by decide) (by decide) k) ?_
                        show OwnGo p e below _ (T108.setTop (mkF m 6 #[.val (.ref a1), .val (.int p2), .val (.int (32768 : Int32))] []))
                        refine own_go (fun _ k => XS.iloadN X108.here hx rfl (hb hby d_prog_42_method_11_6) rfl k) ?_
                        show OwnGo p e below _ (T108.setTop (mkF m 7 #[.val (.ref a1), .val (.int p2), .val (.int (32768 : Int32))] [(.int p2)]))
                        refine own_go (fun _ k => XS.iloadN X108.here hx rfl (hb hby d_prog_42_method_11_7) rfl k) ?_
                        show OwnGo p e below _ (T108.setTop (mkF m 8 #[.val (.ref a1), .val (.int p2), .val (.int (32768 : Int32))] [(.int (32768 : Int32)), (.int p2)]))
                        refine own_go (fun _ k => XS.iconst X108.here hx rfl (hb hby d_prog_42_method_11_8) k) ?_
                        show OwnGo p e below _ (T108.setTop (mkF m 9 #[.val (.ref a1), .val (.int p2), .val (.int (32768 : Int32))] [(.int (4 : Int32)), (.int (32768 : Int32)), (.int p2)]))
                        refine own_go (fun _ k => XS.idiv X108.here hx rfl (hb hby d_prog_42_method_11_9) rfl (by decide) k) ?_
                        show OwnGo p e below _ (T108.setTop (mkF m 10 #[.val (.ref a1), .val (.int p2), .val (.int (32768 : Int32))] [(.int ((32768 : Int32) / (4 : Int32))), (.int p2)]))
                        rw [show ((32768 : Int32) / (4 : Int32)) = (8192 : Int32) from by decide]
                        show OwnGo p e below _ (T108.setTop (mkF m 10 #[.val (.ref a1), .val (.int p2), .val (.int (32768 : Int32))] [(.int (8192 : Int32)), (.int p2)]))
                        refine own_go (fun _ k => XS.iconst X108.here hx rfl (hb hby d_prog_42_method_11_10) k) ?_
                        show OwnGo p e below _ (T108.setTop (mkF m 11 #[.val (.ref a1), .val (.int p2), .val (.int (32768 : Int32))] [(.int (3 : Int32)), (.int (8192 : Int32)), (.int p2)]))
                        refine own_go (fun _ k => XS.imul X108.here hx rfl (hb hby d_prog_42_method_11_11) rfl k) ?_
                        show OwnGo p e below _ (T108.setTop (mkF m 12 #[.val (.ref a1), .val (.int p2), .val (.int (32768 : Int32))] [(.int ((8192 : Int32) * (3 : Int32))), (.int p2)]))
                        rw [show ((8192 : Int32) * (3 : Int32)) = (24576 : Int32) from by decide]
                        show OwnGo p e below _ (T108.setTop (mkF m 12 #[.val (.ref a1), .val (.int p2), .val (.int (32768 : Int32))] [(.int (24576 : Int32)), (.int p2)]))
                        by_cases hc121 : (24576 : Int32) < p2
                        · refine own_go (fun _ k => XS.icmpNo X108.here hx rfl (hb hby d_prog_42_method_11_12) rfl (tlt hc121).2.2.2 k) ?_
                          show OwnGo p e below _ (T108.setTop (mkF m 15 #[.val (.ref a1), .val (.int p2), .val (.int (32768 : Int32))] []))
                          refine own_go (fun _ k => XS.iloadN X108.here hx rfl (hb hby d_prog_42_method_11_15) rfl k) ?_
                          show OwnGo p e below _ (T108.setTop (mkF m 16 #[.val (.ref a1), .val (.int p2), .val (.int (32768 : Int32))] [(.int (32768 : Int32))]))
                          refine own_go (fun _ k => Jvm.Stand.ldcI X108 hx hown (mvT hZ (hw _ (List.mem_of_getElem? (i := 69) rfl))) rfl (hb hby d_prog_42_method_11_16) k) ?_
                          show OwnGo p e below _ (T108.setTop (mkF m 18 #[.val (.ref a1), .val (.int p2), .val (.int (32768 : Int32))] [(.int (1073741824 : Int32)), (.int (32768 : Int32))]))
                          refine own_go (fun _ k => XS.icmpNo X108.here hx rfl (hb hby d_prog_42_method_11_18) rfl (by decide) k) ?_
                          show OwnGo p e below _ (T108.setTop (mkF m 21 #[.val (.ref a1), .val (.int p2), .val (.int (32768 : Int32))] []))
                          refine own_go (fun _ k => XS.iloadN X108.here hx rfl (hb hby d_prog_42_method_11_21) rfl k) ?_
                          show OwnGo p e below _ (T108.setTop (mkF m 22 #[.val (.ref a1), .val (.int p2), .val (.int (32768 : Int32))] [(.int (32768 : Int32))]))
                          refine own_go (fun _ k => XS.iconst X108.here hx rfl (hb hby d_prog_42_method_11_22) k) ?_
                          show OwnGo p e below _ (T108.setTop (mkF m 23 #[.val (.ref a1), .val (.int p2), .val (.int (32768 : Int32))] [(.int (2 : Int32)), (.int (32768 : Int32))]))
                          refine own_go (fun _ k => XS.imul X108.here hx rfl (hb hby d_prog_42_method_11_23) rfl k) ?_
                          show OwnGo p e below _ (T108.setTop (mkF m 24 #[.val (.ref a1), .val (.int p2), .val (.int (32768 : Int32))] [(.int ((32768 : Int32) * (2 : Int32)))]))
                          rw [show ((32768 : Int32) * (2 : Int32)) = (65536 : Int32) from by decide]
                          show OwnGo p e below _ (T108.setTop (mkF m 24 #[.val (.ref a1), .val (.int p2), .val (.int (32768 : Int32))] [(.int (65536 : Int32))]))
                          refine own_go (fun _ k => XS.istoreN X108.here hx rfl (hb hby d_prog_42_method_11_24) rfl (l' := #[.val (.ref a1), .val (.int p2), .val (.int (65536 : Int32))]) rfl k) ?_
                          show OwnGo p e below _ (T108.setTop (mkF m 25 #[.val (.ref a1), .val (.int p2), .val (.int (65536 : Int32))] []))
                          refine own_go (fun _ k => XS.goto X108.here hx rfl (pc0 := 25) (pc' := 6) rfl (hb hby d_prog_42_method_11_25) (by decide) (by decide) k) ?_
                          show OwnGo p e below _ (T108.setTop (mkF m 6 #[.val (.ref a1), .val (.int p2), .val (.int (65536 : Int32))] []))
                          refine own_go (fun _ k => XS.iloadN X108.here hx rfl (hb hby d_prog_42_method_11_6) rfl k) ?_
                          show OwnGo p e below _ (T108.setTop (mkF m 7 #[.val (.ref a1), .val (.int p2), .val (.int (65536 : Int32))] [(.int p2)]))
                          refine own_go (fun _ k => XS.iloadN X108.here hx rfl (hb hby d_prog_42_method_11_7) rfl k) ?_
                          show OwnGo p e below _ (T108.setTop (mkF m 8 #[.val (.ref a1), .val (.int p2), .val (.int (65536 : Int32))] [(.int (65536 : Int32)), (.int p2)]))
                          refine own_go (fun _ k => XS.iconst X108.here hx rfl (hb hby d_prog_42_method_11_8) k) ?_
                          show OwnGo p e below _ (T108.setTop (mkF m 9 #[.val (.ref a1), .val (.int p2), .val (.int (65536 : Int32))] [(.int (4 : Int32)), (.int (65536 : Int32)), (.int p2)]))
                          refine own_go (fun _ k => XS.idiv X108.here hx rfl (hb hby d_prog_42_method_11_9) rfl (by decide) k) ?_
                          show OwnGo p e below _ (T108.setTop (mkF m 10 #[.val (.ref a1), .val (.int p2), .val (.int (65536 : Int32))] [(.int ((65536 : Int32) / (4 : Int32))), (.int p2)]))
                          rw [show ((65536 : Int32) / (4 : Int32)) = (16384 : Int32) from by decide]
                          show OwnGo p e below _ (T108.setTop (mkF m 10 #[.val (.ref a1), .val (.int p2), .val (.int (65536 : Int32))] [(.int (16384 : Int32)), (.int p2)]))
                          refine own_go (fun _ k => XS.iconst X108.here hx rfl (hb hby d_prog_42_method_11_10) k) ?_
                          show OwnGo p e below _ (T108.setTop (mkF m 11 #[.val (.ref a1), .val (.int p2), .val (.int (65536 : Int32))] [(.int (3 : Int32)), (.int (16384 : Int32)), (.int p2)]))
                          refine own_go (fun _ k => XS.imul X108.here hx rfl (hb hby d_prog_42_method_11_11) rfl k) ?_
                          show OwnGo p e below _ (T108.setTop (mkF m 12 #[.val (.ref a1), .val (.int p2), .val (.int (65536 : Int32))] [(.int ((16384 : Int32) * (3 : Int32))), (.int p2)]))
                          rw [show ((16384 : Int32) * (3 : Int32)) = (49152 : Int32) from by decide]
                          show OwnGo p e below _ (T108.setTop (mkF m 12 #[.val (.ref a1), .val (.int p2), .val (.int (65536 : Int32))] [(.int (49152 : Int32)), (.int p2)]))
                          by_cases hc122 : (49152 : Int32) < p2
                          · refine own_go (fun _ k => XS.icmpNo X108.here hx rfl (hb hby d_prog_42_method_11_12) rfl (tlt hc122).2.2.2 k) ?_
                            show OwnGo p e below _ (T108.setTop (mkF m 15 #[.val (.ref a1), .val (.int p2), .val (.int (65536 : Int32))] []))
                            refine own_go (fun _ k => XS.iloadN X108.here hx rfl (hb hby d_prog_42_method_11_15) rfl k) ?_
                            show OwnGo p e below _ (T108.setTop (mkF m 16 #[.val (.ref a1), .val (.int p2), .val (.int (65536 : Int32))] [(.int (65536 : Int32))]))
                            refine own_go (fun _ k => Jvm.Stand.ldcI X108 hx hown (mvT hZ (hw _ (List.mem_of_getElem? (i := 69) rfl))) rfl (hb hby d_prog_42_method_11_16) k) ?_
                            show OwnGo p e below _ (T108.setTop (mkF m 18 #[.val (.ref a1), .val (.int p2), .val (.int (65536 : Int32))] [(.int (1073741824 : Int32)), (.int (65536 : Int32))]))
                            refine own_go (fun _ k => XS.icmpNo X108.here hx rfl (hb hby d_prog_42_method_11_18) rfl (by decide) k) ?_
                            show OwnGo p e below _ (T108.setTop (mkF m 21 #[.val (.ref a1), .val (.int p2), .val (.int (65536 : Int32))] []))
                            refine own_go (fun _ k => XS.iloadN X108.here hx rfl (hb hby d_prog_42_method_11_21) rfl k) ?_
                            show OwnGo p e below _ (T108.setTop (mkF m 22 #[.val (.ref a1), .val (.int p2), .val (.int (65536 : Int32))] [(.int (65536 : Int32))]))
                            refine own_go (fun _ k => XS.iconst X108.here hx rfl (hb hby d_prog_42_method_11_22) k) ?_
                            show OwnGo p e below _ (T108.setTop (mkF m 23 #[.val (.ref a1), .val (.int p2), .val (.int (65536 : Int32))] [(.int (2 : Int32)), (.int (65536 : Int32))]))
                            refine own_go (fun _ k => XS.imul X108.here hx rfl (hb hby d_prog_42_method_11_23) rfl k) ?_
                            show OwnGo p e below _ (T108.setTop (mkF m 24 #[.val (.ref a1), .val (.int p2), .val (.int (65536 : Int32))] [(.int ((65536 : Int32) * (2 : Int32)))]))
                            rw [show ((65536 : Int32) * (2 : Int32)) = (131072 : Int32) from by decide]
                            show OwnGo p e below _ (T108.setTop (mkF m 24 #[.val (.ref a1), .val (.int p2), .val (.int (65536 : Int32))] [(.int (131072 : Int32))]))
                            refine own_go (fun _ k => XS.istoreN X108.here hx rfl (hb hby d_prog_42_method_11_24) rfl (l' := #[.val (.ref a1), .val (.int p2), .val (.int (131072 : Int32))]) rfl k) ?_
                            show OwnGo p e below _ (T108.setTop (mkF m 25 #[.val (.ref a1), .val (.int p2), .val (.int (131072 : Int32))] []))
                            refine own_go (fun _ k => XS.goto X108.here hx rfl (pc0 := 25) (pc' := 6) rfl (hb hby d_prog_42_method_11_25) (by decide) (by decide) k) ?_
                            show OwnGo p e below _ (T108.setTop (mkF m 6 #[.val (.ref a1), .val (.int p2), .val (.int (131072 : Int32))] []))
                            refine own_go (fun _ k => XS.iloadN X108.here hx rfl (hb hby d_prog_42_method_11_6) rfl k) ?_
                            show OwnGo p e below _ (T108.setTop (mkF m 7 #[.val (.ref a1), .val (.int p2), .val (.int (131072 : Int32))] [(.int p2)]))
                            refine own_go (fun _ k => XS.iloadN X108.here hx rfl (hb hby d_prog_42_method_11_7) rfl k) ?_
                            show OwnGo p e below _ (T108.setTop (mkF m 8 #[.val (.ref a1), .val (.int p2), .val (.int (131072 : Int32))] [(.int (131072 : Int32)), (.int p2)]))
                            refine own_go (fun _ k => XS.iconst X108.here hx rfl (hb hby d_prog_42_method_11_8) k) ?_
                            show OwnGo p e below _ (T108.setTop (mkF m 9 #[.val (.ref a1), .val (.int p2), .val (.int (131072 : Int32))] [(.int (4 : Int32)), (.int (131072 : Int32)), (.int p2)]))
                            refine own_go (fun _ k => XS.idiv X108.here hx rfl (hb hby d_prog_42_method_11_9) rfl (by decide) k) ?_
                            show OwnGo p e below _ (T108.setTop (mkF m 10 #[.val (.ref a1), .val (.int p2), .val (.int (131072 : Int32))] [(.int ((131072 : Int32) / (4 : Int32))), (.int p2)]))
                            rw [show ((131072 : Int32) / (4 : Int32)) = (32768 : Int32) from by decide]
                            show OwnGo p e below _ (T108.setTop (mkF m 10 #[.val (.ref a1), .val (.int p2), .val (.int (131072 : Int32))] [(.int (32768 : Int32)), (.int p2)]))
                            refine own_go (fun _ k => XS.iconst X108.here hx rfl (hb hby d_prog_42_method_11_10) k) ?_
                            show OwnGo p e below _ (T108.setTop (mkF m 11 #[.val (.ref a1), .val (.int p2), .val (.int (131072 : Int32))] [(.int (3 : Int32)), (.int (32768 : Int32)), (.int p2)]))
                            refine own_go (fun _ k => XS.imul X108.here hx rfl (hb hby d_prog_42_method_11_11) rfl k) ?_
                            show OwnGo p e below _ (T108.setTop (mkF m 12 #[.val (.ref a1), .val (.int p2), .val (.int (131072 : Int32))] [(.int ((32768 : Int32) * (3 : Int32))), (.int p2)]))
                            rw [show ((32768 : Int32) * (3 : Int32)) = (98304 : Int32) from by decide]
                            show OwnGo p e below _ (T108.setTop (mkF m 12 #[.val (.ref a1), .val (.int p2), .val (.int (131072 : Int32))] [(.int (98304 : Int32)), (.int p2)]))
                            by_cases hc123 : (98304 : Int32) < p2
                            · refine own_go (fun _ k => XS.icmpNo X108.here hx rfl (hb hby d_prog_42_method_11_12) rfl (tlt hc123).2.2.2 k) ?_
                              show OwnGo p e below _ (T108.setTop (mkF m 15 #[.val (.ref a1), .val (.int p2), .val (.int (131072 : Int32))] []))
                              refine own_go (fun _ k => XS.iloadN X108.here hx rfl (hb hby d_prog_42_method_11_15) rfl k) ?_
                              show OwnGo p e below _ (T108.setTop (mkF m 16 #[.val (.ref a1), .val (.int p2), .val (.int (131072 : Int32))] [(.int (131072 : Int32))]))
                              refine own_go (fun _ k => Jvm.Stand.ldcI X108 hx hown (mvT hZ (hw _ (List.mem_of_getElem? (i := 69) rfl))) rfl (hb hby d_prog_42_method_11_16) k) ?_
                              show OwnGo p e below _ (T108.setTop (mkF m 18 #[.val (.ref a1), .val (.int p2), .val (.int (131072 : Int32))] [(.int (1073741824 : Int32)), (.int (131072 : Int32))]))
                              refine own_go (fun _ k => XS.icmpNo X108.here hx rfl (hb hby d_prog_42_method_11_18) rfl (by decide) k) ?_
                              show OwnGo p e below _ (T108.setTop (mkF m 21 #[.val (.ref a1), .val (.int p2), .val (.int (131072 : Int32))] []))
                              refine own_go (fun _ k => XS.iloadN X108.here hx rfl (hb hby d_prog_42_method_11_21) rfl k) ?_
                              show OwnGo p e below _ (T108.setTop (mkF m 22 #[.val (.ref a1), .val (.int p2), .val (.int (131072 : Int32))] [(.int (131072 : Int32))]))
                              refine own_go (fun _ k => XS.iconst X108.here hx rfl (hb hby d_prog_42_method_11_22) k) ?_
                              show OwnGo p e below _ (T108.setTop (mkF m 23 #[.val (.ref a1), .val (.int p2), .val (.int (131072 : Int32))] [(.int (2 : Int32)), (.int (131072 : Int32))]))
                              refine own_go (fun _ k => XS.imul X108.here hx rfl (hb hby d_prog_42_method_11_23) rfl k) ?_
                              show OwnGo p e below _ (T108.setTop (mkF m 24 #[.val (.ref a1), .val (.int p2), .val (.int (131072 : Int32))] [(.int ((131072 : Int32) * (2 : Int32)))]))
                              rw [show ((131072 : Int32) * (2 : Int32)) = (262144 : Int32) from by decide]
                              show OwnGo p e below _ (T108.setTop (mkF m 24 #[.val (.ref a1), .val (.int p2), .val (.int (131072 : Int32))] [(.int (262144 : Int32))]))
                              refine own_go (fun _ k => XS.istoreN X108.here hx rfl (hb hby d_prog_42_method_11_24) rfl (l' := #[.val (.ref a1), .val (.int p2), .val (.int (262144 : Int32))]) rfl k) ?_
                              show OwnGo p e below _ (T108.setTop (mkF m 25 #[.val (.ref a1), .val (.int p2), .val (.int (262144 : Int32))] []))
                              refine own_go (fun _ k => XS.goto X108.here hx rfl (pc0 := 25) (pc' := 6) rfl (hb hby d_prog_42_method_11_25) (by decide) (by decide) k) ?_
                              show OwnGo p e below _ (T108.setTop (mkF m 6 #[.val (.ref a1), .val (.int p2), .val (.int (262144 : Int32))] []))
                              refine own_go (fun _ k => XS.iloadN X108.here hx rfl (hb hby d_prog_42_method_11_6) rfl k) ?_
                              show OwnGo p e below _ (T108.setTop (mkF m 7 #[.val (.ref a1), .val (.int p2), .val (.int (262144 : Int32))] [(.int p2)]))
                              refine own_go (fun _ k => XS.iloadN X108.here hx rfl (hb hby d_prog_42_method_11_7) rfl k) ?_
                              show OwnGo p e below _ (T108.setTop (mkF m 8 #[.val (.ref a1), .val (.int p2), .val (.int (262144 : Int32))] [(.int (262144 : Int32)), (.int p2)]))
                              refine own_go (fun _ k => XS.iconst X108.here hx rfl (hb hby d_prog_42_method_11_8) k) ?_
                              show OwnGo p e below _ (T108.setTop (mkF m 9 #[.val (.ref a1), .val (.int p2), .val (.int (262144 : Int32))] [(.int (4 : Int32)), (.int (262144 : Int32)), (.int p2)]))
                              refine own_go (fun _ k => XS.idiv X108.here hx rfl (hb hby d_prog_42_method_11_9) rfl (by decide) k) ?_
                              show OwnGo p e below _ (T108.setTop (mkF m 10 #[.val (.ref a1), .val (.int p2), .val (.int (262144 : Int32))] [(.int ((262144 : Int32) / (4 : Int32))), (.int p2)]))
                              rw [show ((262144 : Int32) / (4 : Int32)) = (65536 : Int32) from by decide]
                              show OwnGo p e below _ (T108.setTop (mkF m 10 #[.val (.ref a1), .val (.int p2), .val (.int (262144 : Int32))] [(.int (65536 : Int32)), (.int p2)]))
                              refine own_go (fun _ k => XS.iconst X108.here hx rfl (hb hby d_prog_42_method_11_10) k) ?_
                              show OwnGo p e below _ (T108.setTop (mkF m 11 #[.val (.ref a1), .val (.int p2), .val (.int (262144 : Int32))] [(.int (3 : Int32)), (.int (65536 : Int32)), (.int p2)]))
                              refine own_go (fun _ k => XS.imul X108.here hx rfl (hb hby d_prog_42_method_11_11) rfl k) ?_
                              show OwnGo p e below _ (T108.setTop (mkF m 12 #[.val (.ref a1), .val (.int p2), .val (.int (262144 : Int32))] [(.int ((65536 : Int32) * (3 : Int32))), (.int p2)]))
                              rw [show ((65536 : Int32) * (3 : Int32)) = (196608 : Int32) from by decide]
                              show OwnGo p e below _ (T108.setTop (mkF m 12 #[.val (.ref a1), .val (.int p2), .val (.int (262144 : Int32))] [(.int (196608 : Int32)), (.int p2)]))
                              by_cases hc124 : (196608 : Int32) < p2
                              · refine own_go (fun _ k => XS.icmpNo X108.here hx rfl (hb hby d_prog_42_method_11_12) rfl (tlt hc124).2.2.2 k) ?_
                                show OwnGo p e below _ (T108.setTop (mkF m 15 #[.val (.ref a1), .val (.int p2), .val (.int (262144 : Int32))] []))
                                refine own_go (fun _ k => XS.iloadN X108.here hx rfl (hb hby d_prog_42_method_11_15) rfl k) ?_
                                show OwnGo p e below _ (T108.setTop (mkF m 16 #[.val (.ref a1), .val (.int p2), .val (.int (262144 : Int32))] [(.int (262144 : Int32))]))
                                refine own_go (fun _ k => Jvm.Stand.ldcI X108 hx hown (mvT hZ (hw _ (List.mem_of_getElem? (i := 69) rfl))) rfl (hb hby d_prog_42_method_11_16) k) ?_
                                show OwnGo p e below _ (T108.setTop (mkF m 18 #[.val (.ref a1), .val (.int p2), .val (.int (262144 : Int32))] [(.int (1073741824 : Int32)), (.int (262144 : Int32))]))
                                refine own_go (fun _ k => XS.icmpNo X108.here hx rfl (hb hby d_prog_42_method_11_18) rfl (by decide) k) ?_
                                show OwnGo p e below _ (T108.setTop (mkF m 21 #[.val (.ref a1), .val (.int p2), .val (.int (262144 : Int32))] []))
                                refine own_go (fun _ k => XS.iloadN X108.here hx rfl (hb hby d_prog_42_method_11_21) rfl k) ?_
                                show OwnGo p e below _ (T108.setTop (mkF m 22 #[.val (.ref a1), .val (.int p2), .val (.int (262144 : Int32))] [(.int (262144 : Int32))]))
                                refine own_go (fun _ k => XS.iconst X108.here hx rfl (hb hby d_prog_42_method_11_22) k) ?_
                                show OwnGo p e below _ (T108.setTop (mkF m 23 #[.val (.ref a1), .val (.int p2), .val (.int (262144 : Int32))] [(.int (2 : Int32)), (.int (262144 : Int32))]))
                                refine own_go (fun _ k => XS.imul X108.here hx rfl (hb hby d_prog_42_method_11_23) rfl k) ?_
                                show OwnGo p e below _ (T108.setTop (mkF m 24 #[.val (.ref a1), .val (.int p2), .val (.int (262144 : Int32))] [(.int ((262144 : Int32) * (2 : Int32)))]))
                                rw [show ((262144 : Int32) * (2 : Int32)) = (524288 : Int32) from by decide]
                                show OwnGo p e below _ (T108.setTop (mkF m 24 #[.val (.ref a1), .val (.int p2), .val (.int (262144 : Int32))] [(.int (524288 : Int32))]))
                                refine own_go (fun _ k => XS.istoreN X108.here hx rfl (hb hby d_prog_42_method_11_24) rfl (l' := #[.val (.ref a1), .val (.int p2), .val (.int (524288 : Int32))]) rfl k) ?_
                                show OwnGo p e below _ (T108.setTop (mkF m 25 #[.val (.ref a1), .val (.int p2), .val (.int (524288 : Int32))] []))
                                refine own_go (fun _ k => XS.goto X108.here hx rfl (pc0 := 25) (pc' := 6) rfl (hb hby d_prog_42_method_11_25) (by decide) (by decide) k) ?_
                                show OwnGo p e below _ (T108.setTop (mkF m 6 #[.val (.ref a1), .val (.int p2), .val (.int (524288 : Int32))] []))
                                refine own_go (fun _ k => XS.iloadN X108.here hx rfl (hb hby d_prog_42_method_11_6) rfl k) ?_
                                show OwnGo p e below _ (T108.setTop (mkF m 7 #[.val (.ref a1), .val (.int p2), .val (.int (524288 : Int32))] [(.int p2)]))
                                refine own_go (fun _ k => XS.iloadN X108.here hx rfl (hb hby d_prog_42_method_11_7) rfl k) ?_
                                show OwnGo p e below _ (T108.setTop (mkF m 8 #[.val (.ref a1), .val (.int p2), .val (.int (524288 : Int32))] [(.int (524288 : Int32)), (.int p2)]))
                                refine own_go (fun _ k => XS.iconst X108.here hx rfl (hb hby d_prog_42_method_11_8) k) ?_
                                show OwnGo p e below _ (T108.setTop (mkF m 9 #[.val (.ref a1), .val (.int p2), .val (.int (524288 : Int32))] [(.int (4 : Int32)), (.int (524288 : Int32)), (.int p2)]))
                                refine own_go (fun _ k => XS.idiv X108.here hx rfl (hb hby d_prog_42_method_11_9) rfl (by decide) k) ?_
                                show OwnGo p e below _ (T108.setTop (mkF m 10 #[.val (.ref a1), .val (.int p2), .val (.int (524288 : Int32))] [(.int ((524288 : Int32) / (4 : Int32))), (.int p2)]))
                                rw [show ((524288 : Int32) / (4 : Int32)) = (131072 : Int32) from by decide]
                                show OwnGo p e below _ (T108.setTop (mkF m 10 #[.val (.ref a1), .val (.int p2), .val (.int (524288 : Int32))] [(.int (131072 : Int32)), (.int p2)]))
                                refine own_go (fun _ k => XS.iconst X108.here hx rfl (hb hby d_prog_42_method_11_10) k) ?_
                                show OwnGo p e below _ (T108.setTop (mkF m 11 #[.val (.ref a1), .val (.int p2), .val (.int (524288 : Int32))] [(.int (3 : Int32)), (.int (131072 : Int32)), (.int p2)]))
                                refine own_go (fun _ k => XS.imul X108.here hx rfl (hb hby d_prog_42_method_11_11) rfl k) ?_
                                show OwnGo p e below _ (T108.setTop (mkF m 12 #[.val (.ref a1), .val (.int p2), .val (.int (524288 : Int32))] [(.int ((131072 : Int32) * (3 : Int32))), (.int p2)]))
                                rw [show ((131072 : Int32) * (3 : Int32)) = (393216 : Int32) from by decide]
                                show OwnGo p e below _ (T108.setTop (mkF m 12 #[.val (.ref a1), .val (.int p2), .val (.int (524288 : Int32))] [(.int (393216 : Int32)), (.int p2)]))
                                by_cases hc125 : (393216 : Int32) < p2
                                · refine own_go (fun _ k => XS.icmpNo X108.here hx rfl (hb hby d_prog_42_method_11_12) rfl (tlt hc125).2.2.2 k) ?_
                                  show OwnGo p e below _ (T108.setTop (mkF m 15 #[.val (.ref a1), .val (.int p2), .val (.int (524288 : Int32))] []))
                                  refine own_go (fun _ k => XS.iloadN X108.here hx rfl (hb hby d_prog_42_method_11_15) rfl k) ?_
                                  show OwnGo p e below _ (T108.setTop (mkF m 16 #[.val (.ref a1), .val (.int p2), .val (.int (524288 : Int32))] [(.int (524288 : Int32))]))
                                  refine own_go (fun _ k => Jvm.Stand.ldcI X108 hx hown (mvT hZ (hw _ (List.mem_of_getElem? (i := 69) rfl))) rfl (hb hby d_prog_42_method_11_16) k) ?_
                                  show OwnGo p e below _ (T108.setTop (mkF m 18 #[.val (.ref a1), .val (.int p2), .val (.int (524288 : Int32))] [(.int (1073741824 : Int32)), (.int (524288 : Int32))]))
                                  refine own_go (fun _ k => XS.icmpNo X108.here hx rfl (hb hby d_prog_42_method_11_18) rfl (by decide) k) ?_
                                  show OwnGo p e below _ (T108.setTop (mkF m 21 #[.val (.ref a1), .val (.int p2), .val (.int (524288 : Int32))] []))
                                  refine own_go (fun _ k => XS.iloadN X108.here hx rfl (hb hby d_prog_42_method_11_21) rfl k) ?_
                                  show OwnGo p e below _ (T108.setTop (mkF m 22 #[.val (.ref a1), .val (.int p2), .val (.int (524288 : Int32))] [(.int (524288 : Int32))]))
                                  refine own_go (fun _ k => XS.iconst X108.here hx rfl (hb hby d_prog_42_method_11_22) k) ?_
                                  show OwnGo p e below _ (T108.setTop (mkF m 23 #[.val (.ref a1), .val (.int p2), .val (.int (524288 : Int32))] [(.int (2 : Int32)), (.int (524288 : Int32))]))
                                  refine own_go (fun _ k => XS.imul X108.here hx rfl (hb hby d_prog_42_method_11_23) rfl k) ?_
                                  show OwnGo p e below _ (T108.setTop (mkF m 24 #[.val (.ref a1), .val (.int p2), .val (.int (524288 : Int32))] [(.int ((524288 : Int32) * (2 : Int32)))]))
                                  rw [show ((524288 : Int32) * (2 : Int32)) = (1048576 : Int32) from by decide]
                                  show OwnGo p e below _ (T108.setTop (mkF m 24 #[.val (.ref a1), .val (.int p2), .val (.int (524288 : Int32))] [(.int (1048576 : Int32))]))
                                  refine own_go (fun _ k => XS.istoreN X108.here hx rfl (hb hby d_prog_42_method_11_24) rfl (l' := #[.val (.ref a1), .val (.int p2), .val (.int (1048576 : Int32))]) rfl k) ?_
                                  show OwnGo p e below _ (T108.setTop (mkF m 25 #[.val (.ref a1), .val (.int p2), .val (.int (1048576 : Int32))] []))
                                  refine own_go (fun _ k => XS.goto X108.here hx rfl (pc0 := 25) (pc' := 6) rfl (hb hby d_prog_42_method_11_25) (by decide) (by decide) k) ?_
                                  show OwnGo p e below _ (T108.setTop (mkF m 6 #[.val (.ref a1), .val (.int p2), .val (.int (1048576 : Int32))] []))
                                  refine own_go (fun _ k => XS.iloadN X108.here hx rfl (hb hby d_prog_42_method_11_6) rfl k) ?_
                                  show OwnGo p e below _ (T108.setTop (mkF m 7 #[.val (.ref a1), .val (.int p2), .val (.int (1048576 : Int32))] [(.int p2)]))
                                  refine own_go (fun _ k => XS.iloadN X108.here hx rfl (hb hby d_prog_42_method_11_7) rfl k) ?_
                                  show OwnGo p e below _ (T108.setTop (mkF m 8 #[.val (.ref a1), .val (.int p2), .val (.int (1048576 : Int32))] [(.int (1048576 : Int32)), (.int p2)]))
                                  refine own_go (fun _ k => XS.iconst X108.here hx rfl (hb hby d_prog_42_method_11_8) k) ?_
                                  show OwnGo p e below _ (T108.setTop (mkF m 9 #[.val (.ref a1), .val (.int p2), .val (.int (1048576 : Int32))] [(.int (4 : Int32)), (.int (1048576 : Int32)), (.int p2)]))
                                  refine own_go (fun _ k => XS.idiv X108.here hx rfl (hb hby d_prog_42_method_11_9) rfl (by decide) k) ?_
                                  show OwnGo p e below _ (T108.setTop (mkF m 10 #[.val (.ref a1), .val (.int p2), .val (.int (1048576 : Int32))] [(.int ((1048576 : Int32) / (4 : Int32))), (.int p2)]))
                                  rw [show ((1048576 : Int32) / (4 : Int32)) = (262144 : Int32) from by decide]
                                  show OwnGo p e below _ (T108.setTop (mkF m 10 #[.val (.ref a1), .val (.int p2), .val (.int (1048576 : Int32))] [(.int (262144 : Int32)), (.int p2)]))
                                  refine own_go (fun _ k => XS.iconst X108.here hx rfl (hb hby d_prog_42_method_11_10) k) ?_
                                  show OwnGo p e below _ (T108.setTop (mkF m 11 #[.val (.ref a1), .val (.int p2), .val (.int (1048576 : Int32))] [(.int (3 : Int32)), (.int (262144 : Int32)), (.int p2)]))
                                  refine own_go (fun _ k => XS.imul X108.here hx rfl (hb hby d_prog_42_method_11_11) rfl k) ?_
                                  show OwnGo p e below _ (T108.setTop (mkF m 12 #[.val (.ref a1), .val (.int p2), .val (.int (1048576 : Int32))] [(.int ((262144 : Int32) * (3 : Int32))), (.int p2)]))
                                  rw [show ((262144 : Int32) * (3 : Int32)) = (786432 : Int32) from by decide]
                                  show OwnGo p e below _ (T108.setTop (mkF m 12 #[.val (.ref a1), .val (.int p2), .val (.int (1048576 : Int32))] [(.int (786432 : Int32)), (.int p2)]))
                                  by_cases hc126 : (786432 : Int32) < p2
                                  · refine own_go (fun _ k => XS.icmpNo X108.here hx rfl (hb hby d_prog_42_method_11_12) rfl (tlt hc126).2.2.2 k) ?_
                                    show OwnGo p e below _ (T108.setTop (mkF m 15 #[.val (.ref a1), .val (.int p2), .val (.int (1048576 : Int32))] []))
                                    refine own_go (fun _ k => XS.iloadN X108.here hx rfl (hb hby d_prog_42_method_11_15) rfl k) ?_
                                    show OwnGo p e below _ (T108.setTop (mkF m 16 #[.val (.ref a1), .val (.int p2), .val (.int (1048576 : Int32))] [(.int (1048576 : Int32))]))
                                    refine own_go (fun _ k => Jvm.Stand.ldcI X108 hx hown (mvT hZ (hw _ (List.mem_of_getElem? (i := 69) rfl))) rfl (hb hby d_prog_42_method_11_16) k) ?_
                                    show OwnGo p e below _ (T108.setTop (mkF m 18 #[.val (.ref a1), .val (.int p2), .val (.int (1048576 : Int32))] [(.int (1073741824 : Int32)), (.int (1048576 : Int32))]))
                                    refine own_go (fun _ k => XS.icmpNo X108.here hx rfl (hb hby d_prog_42_method_11_18) rfl (by decide) k) ?_
                                    show OwnGo p e below _ (T108.setTop (mkF m 21 #[.val (.ref a1), .val (.int p2), .val (.int (1048576 : Int32))] []))
                                    refine own_go (fun _ k => XS.iloadN X108.here hx rfl (hb hby d_prog_42_method_11_21) rfl k) ?_
                                    show OwnGo p e below _ (T108.setTop (mkF m 22 #[.val (.ref a1), .val (.int p2), .val (.int (1048576 : Int32))] [(.int (1048576 : Int32))]))
                                    refine own_go (fun _ k => XS.iconst X108.here hx rfl (hb hby d_prog_42_method_11_22) k) ?_
                                    show OwnGo p e below _ (T108.setTop (mkF m 23 #[.val (.ref a1), .val (.int p2), .val (.int (1048576 : Int32))] [(.int (2 : Int32)), (.int (1048576 : Int32))]))
                                    refine own_go (fun _ k => XS.imul X108.here hx rfl (hb hby d_prog_42_method_11_23) rfl k) ?_
                                    show OwnGo p e below _ (T108.setTop (mkF m 24 #[.val (.ref a1), .val (.int p2), .val (.int (1048576 : Int32))] [(.int ((1048576 : Int32) * (2 : Int32)))]))
                                    rw [show ((1048576 : Int32) * (2 : Int32)) = (2097152 : Int32) from by decide]
                                    show OwnGo p e below _ (T108.setTop (mkF m 24 #[.val (.ref a1), .val (.int p2), .val (.int (1048576 : Int32))] [(.int (2097152 : Int32))]))
                                    refine own_go (fun _ k => XS.istoreN X108.here hx rfl (hb hby d_prog_42_method_11_24) rfl (l' := #[.val (.ref a1), .val (.int p2), .val (.int (2097152 : Int32))]) rfl k) ?_
                                    show OwnGo p e below _ (T108.setTop (mkF m 25 #[.val (.ref a1), .val (.int p2), .val (.int (2097152 : Int32))] []))
                                    refine own_go (fun _ k => XS.goto X108.here hx rfl (pc0 := 25) (pc' := 6) rfl (hb hby d_prog_42_method_11_25) (by decide) (by decide) k) ?_
                                    show OwnGo p e below _ (T108.setTop (mkF m 6 #[.val (.ref a1), .val (.int p2), .val (.int (2097152 : Int32))] []))
                                    refine own_go (fun _ k => XS.iloadN X108.here hx rfl (hb hby d_prog_42_method_11_6) rfl k) ?_
                                    show OwnGo p e below _ (T108.setTop (mkF m 7 #[.val (.ref a1), .val (.int p2), .val (.int (2097152 : Int32))] [(.int p2)]))
                                    refine own_go (fun _ k => XS.iloadN X108.here hx rfl (hb hby d_prog_42_method_11_7) rfl k) ?_
                                    show OwnGo p e below _ (T108.setTop (mkF m 8 #[.val (.ref a1), .val (.int p2), .val (.int (2097152 : Int32))] [(.int (2097152 : Int32)), (.int p2)]))
                                    refine own_go (fun _ k => XS.iconst X108.here hx rfl (hb hby d_prog_42_method_11_8) k) ?_
                                    show OwnGo p e below _ (T108.setTop (mkF m 9 #[.val (.ref a1), .val (.int p2), .val (.int (2097152 : Int32))] [(.int (4 : Int32)), (.int (2097152 : Int32)), (.int p2)]))
                                    refine own_go (fun _ k => XS.idiv X108.here hx rfl (hb hby d_prog_42_method_11_9) rfl (by decide) k) ?_
                                    show OwnGo p e below _ (T108.setTop (mkF m 10 #[.val (.ref a1), .val (.int p2), .val (.int (2097152 : Int32))] [(.int ((2097152 : Int32) / (4 : Int32))), (.int p2)]))
                                    rw [show ((2097152 : Int32) / (4 : Int32)) = (524288 : Int32) from by decide]
                                    show OwnGo p e below _ (T108.setTop (mkF m 10 #[.val (.ref a1), .val (.int p2), .val (.int (2097152 : Int32))] [(.int (524288 : Int32)), (.int p2)]))
                                    refine own_go (fun _ k => XS.iconst X108.here hx rfl (hb hby d_prog_42_method_11_10) k) ?_
                                    show OwnGo p e below _ (T108.setTop (mkF m 11 #[.val (.ref a1), .val (.int p2), .val (.int (2097152 : Int32))] [(.int (3 : Int32)), (.int (524288 : Int32)), (.int p2)]))
                                    refine own_go (fun _ k => XS.imul X108.here hx rfl (hb hby d_prog_42_method_11_11) rfl k) ?_
                                    show OwnGo p e below _ (T108.setTop (mkF m 12 #[.val (.ref a1), .val (.int p2), .val (.int (2097152 : Int32))] [(.int ((524288 : Int32) * (3 : Int32))), (.int p2)]))
                                    rw [show ((524288 : Int32) * (3 : Int32)) = (1572864 : Int32) from by decide]
                                    show OwnGo p e below _ (T108.setTop (mkF m 12 #[.val (.ref a1), .val (.int p2), .val (.int (2097152 : Int32))] [(.int (1572864 : Int32)), (.int p2)]))
                                    by_cases hc127 : (1572864 : Int32) < p2
                                    · refine own_go (fun _ k => XS.icmpNo X108.here hx rfl (hb hby d_prog_42_method_11_12) rfl (tlt hc127).2.2.2 k) ?_
                                      show OwnGo p e below _ (T108.setTop (mkF m 15 #[.val (.ref a1), .val (.int p2), .val (.int (2097152 : Int32))] []))
                                      refine own_go (fun _ k => XS.iloadN X108.here hx rfl (hb hby d_prog_42_method_11_15) rfl k) ?_
                                      show OwnGo p e below _ (T108.setTop (mkF m 16 #[.val (.ref a1), .val (.int p2), .val (.int (2097152 : Int32))] [(.int (2097152 : Int32))]))
                                      refine own_go (fun _ k => Jvm.Stand.ldcI X108 hx hown (mvT hZ (hw _ (List.mem_of_getElem? (i := 69) rfl))) rfl (hb hby d_prog_42_method_11_16) k) ?_
                                      show OwnGo p e below _ (T108.setTop (mkF m 18 #[.val (.ref a1), .val (.int p2), .val (.int (2097152 : Int32))] [(.int (1073741824 : Int32)), (.int (2097152 : Int32))]))
                                      refine own_go (fun _ k => XS.icmpNo X108.here hx rfl (hb hby d_prog_42_method_11_18) rfl (by decide) k) ?_
                                      show OwnGo p e below _ (T108.setTop (mkF m 21 #[.val (.ref a1), .val (.int p2), .val (.int (2097152 : Int32))] []))
                                      refine own_go (fun _ k => XS.iloadN X108.here hx rfl (hb hby d_prog_42_method_11_21) rfl k) ?_
                                      show OwnGo p e below _ (T108.setTop (mkF m 22 #[.val (.ref a1), .val (.int p2), .val (.int (2097152 : Int32))] [(.int (2097152 : Int32))]))
                                      refine own_go (fun _ k => XS.iconst X108.here hx rfl (hb hby d_prog_42_method_11_22) k) ?_
                                      show OwnGo p e below _ (T108.setTop (mkF m 23 #[.val (.ref a1), .val (.int p2), .val (.int (2097152 : Int32))] [(.int (2 : Int32)), (.int (2097152 : Int32))]))
                                      refine own_go (fun _ k => XS.imul X108.here hx rfl (hb hby d_prog_42_method_11_23) rfl k) ?_
                                      show OwnGo p e below _ (T108.setTop (mkF m 24 #[.val (.ref a1), .val (.int p2), .val (.int (2097152 : Int32))] [(.int ((2097152 : Int32) * (2 : Int32)))]))
                                      rw [show ((2097152 : Int32) * (2 : Int32)) = (4194304 : Int32) from by decide]
                                      show OwnGo p e below _ (T108.setTop (mkF m 24 #[.val (.ref a1), .val (.int p2), .val (.int (2097152 : Int32))] [(.int (4194304 : Int32))]))
                                      refine own_go (fun _ k => XS.istoreN X108.here hx rfl (hb hby d_prog_42_method_11_24) rfl (l' := #[.val (.ref a1), .val (.int p2), .val (.int (4194304 : Int32))]) rfl k) ?_
                                      show OwnGo p e below _ (T108.setTop (mkF m 25 #[.val (.ref a1), .val (.int p2), .val (.int (4194304 : Int32))] []))
                                      refine own_go (fun _ k => XS.goto X108.here hx rfl (pc0 := 25) (pc' := 6) rfl (hb hby d_prog_42_method_11_25) (by decide) (by decide) k) ?_
                                      show OwnGo p e below _ (T108.setTop (mkF m 6 #[.val (.ref a1), .val (.int p2), .val (.int (4194304 : Int32))] []))
                                      refine own_go (fun _ k => XS.iloadN X108.here hx rfl (hb hby d_prog_42_method_11_6) rfl k) ?_
                                      show OwnGo p e below _ (T108.setTop (mkF m 7 #[.val (.ref a1), .val (.int p2), .val (.int (4194304 : Int32))] [(.int p2)]))
                                      refine own_go (fun _ k => XS.iloadN X108.here hx rfl (hb hby d_prog_42_method_11_7) rfl k) ?_
                                      show OwnGo p e below _ (T108.setTop (mkF m 8 #[.val (.ref a1), .val (.int p2), .val (.int (4194304 : Int32))] [(.int (4194304 : Int32)), (.int p2)]))
                                      refine own_go (fun _ k => XS.iconst X108.here hx rfl (hb hby d_prog_42_method_11_8) k) ?_
                                      show OwnGo p e below _ (T108.setTop (mkF m 9 #[.val (.ref a1), .val (.int p2), .val (.int (4194304 : Int32))] [(.int (4 : Int32)), (.int (4194304 : Int32)), (.int p2)]))
                                      refine own_go (fun _ k => XS.idiv X108.here hx rfl (hb hby d_prog_42_method_11_9) rfl (by decide) k) ?_
                                      show OwnGo p e below _ (T108.setTop (mkF m 10 #[.val (.ref a1), .val (.int p2), .val (.int (4194304 : Int32))] [(.int ((4194304 : Int32) / (4 : Int32))), (.int p2)]))
                                      rw [show ((4194304 : Int32) / (4 : Int32)) = (1048576 : Int32) from by decide]
                                      show OwnGo p e below _ (T108.setTop (mkF m 10 #[.val (.ref a1), .val (.int p2), .val (.int (4194304 : Int32))] [(.int (1048576 : Int32)), (.int p2)]))
                                      refine own_go (fun _ k => XS.iconst X108.here hx rfl (hb hby d_prog_42_method_11_10) k) ?_
                                      show OwnGo p e below _ (T108.setTop (mkF m 11 #[.val (.ref a1), .val (.int p2), .val (.int (4194304 : Int32))] [(.int (3 : Int32)), (.int (1048576 : Int32)), (.int p2)]))
                                      refine own_go (fun _ k => XS.imul X108.here hx rfl (hb hby d_prog_42_method_11_11) rfl k) ?_
                                      show OwnGo p e below _ (T108.setTop (mkF m 12 #[.val (.ref a1), .val (.int p2), .val (.int (4194304 : Int32))] [(.int ((1048576 : Int32) * (3 : Int32))), (.int p2)]))
                                      rw [show ((1048576 : Int32) * (3 : Int32)) = (3145728 : Int32) from by decide]
                                      show OwnGo p e below _ (T108.setTop (mkF m 12 #[.val (.ref a1), .val (.int p2), .val (.int (4194304 : Int32))] [(.int (3145728 : Int32)), (.int p2)]))
                                      by_cases hc128 : (3145728 : Int32) < p2
                                      · refine own_go (fun _ k => XS.icmpNo X108.here hx rfl (hb hby d_prog_42_method_11_12) rfl (tlt hc128).2.2.2 k) ?_
                                        show OwnGo p e below _ (T108.setTop (mkF m 15 #[.val (.ref a1), .val (.int p2), .val (.int (4194304 : Int32))] []))
                                        refine own_go (fun _ k => XS.iloadN X108.here hx rfl (hb hby d_prog_42_method_11_15) rfl k) ?_
                                        show OwnGo p e below _ (T108.setTop (mkF m 16 #[.val (.ref a1), .val (.int p2), .val (.int (4194304 : Int32))] [(.int (4194304 : Int32))]))
                                        refine own_go (fun _ k => Jvm.Stand.ldcI X108 hx hown (mvT hZ (hw _ (List.mem_of_getElem? (i := 69) rfl))) rfl (hb hby d_prog_42_method_11_16) k) ?_
                                        show OwnGo p e below _ (T108.setTop (mkF m 18 #[.val (.ref a1), .val (.int p2), .val (.int (4194304 : Int32))] [(.int (1073741824 : Int32)), (.int (4194304 : Int32))]))
                                        refine own_go (fun _ k => XS.icmpNo X108.here hx rfl (hb hby d_prog_42_method_11_18) rfl (by decide) k) ?_
                                        show OwnGo p e below _ (T108.setTop (mkF m 21 #[.val (.ref a1), .val (.int p2), .val (.int (4194304 : Int32))] []))
                                        refine own_go (fun _ k => XS.iloadN X108.here hx rfl (hb hby d_prog_42_method_11_21) rfl k) ?_
                                        show OwnGo p e below _ (T108.setTop (mkF m 22 #[.val (.ref a1), .val (.int p2), .val (.int (4194304 : Int32))] [(.int (4194304 : Int32))]))
                                        refine own_go (fun _ k => XS.iconst X108.here hx rfl (hb hby d_prog_42_method_11_22) k) ?_
                                        show OwnGo p e below _ (T108.setTop (mkF m 23 #[.val (.ref a1), .val (.int p2), .val (.int (4194304 : Int32))] [(.int (2 : Int32)), (.int (4194304 : Int32))]))
                                        refine own_go (fun _ k => XS.imul X108.here hx rfl (hb hby d_prog_42_method_11_23) rfl k) ?_
                                        show OwnGo p e below _ (T108.setTop (mkF m 24 #[.val (.ref a1), .val (.int p2), .val (.int (4194304 : Int32))] [(.int ((4194304 : Int32) * (2 : Int32)))]))
                                        rw [show ((4194304 : Int32) * (2 : Int32)) = (8388608 : Int32) from by decide]
                                        show OwnGo p e below _ (T108.setTop (mkF m 24 #[.val (.ref a1), .val (.int p2), .val (.int (4194304 : Int32))] [(.int (8388608 : Int32))]))
                                        refine own_go (fun _ k => XS.istoreN X108.here hx rfl (hb hby d_prog_42_method_11_24) rfl (l' := #[.val (.ref a1), .val (.int p2), .val (.int (8388608 : Int32))]) rfl k) ?_
                                        show OwnGo p e below _ (T108.setTop (mkF m 25 #[.val (.ref a1), .val (.int p2), .val (.int (8388608 : Int32))] []))
                                        refine own_go (fun _ k => XS.goto X108.here hx rfl (pc0 := 25) (pc' := 6) rfl (hb hby d_prog_42_method_11_25) (by decide) (by decide) k) ?_
                                        show OwnGo p e below _ (T108.setTop (mkF m 6 #[.val (.ref a1), .val (.int p2), .val (.int (8388608 : Int32))] []))
                                        refine own_go (fun _ k => XS.iloadN X108.here hx rfl (hb hby d_prog_42_method_11_6) rfl k) ?_
                                        show OwnGo p e below _ (T108.setTop (mkF m 7 #[.val (.ref a1), .val (.int p2), .val (.int (8388608 : Int32))] [(.int p2)]))
                                        refine own_go (fun _ k => XS.iloadN X108.here hx rfl (hb hby d_prog_42_method_11_7) rfl k) ?_
                                        show OwnGo p e below _ (T108.setTop (mkF m 8 #[.val (.ref a1), .val (.int p2), .val (.int (8388608 : Int32))] [(.int (8388608 : Int32)), (.int p2)]))
                                        refine own_go (fun _ k => XS.iconst X108.here hx rfl (hb hby d_prog_42_method_11_8) k) ?_
                                        show OwnGo p e below _ (T108.setTop (mkF m 9 #[.val (.ref a1), .val (.int p2), .val (.int (8388608 : Int32))] [(.int (4 : Int32)), (.int (8388608 : Int32)), (.int p2)]))
                                        refine own_go (fun _ k => XS.idiv X108.here hx rfl (hb hby d_prog_42_method_11_9) rfl (by decide) k) ?_
                                        show OwnGo p e below _ (T108.setTop (mkF m 10 #[.val (.ref a1), .val (.int p2), .val (.int (8388608 : Int32))] [(.int ((8388608 : Int32) / (4 : Int32))), (.int p2)]))
                                        rw [show ((8388608 : Int32) / (4 : Int32)) = (2097152 : Int32) from by decide]
                                        show OwnGo p e below _ (T108.setTop (mkF m 10 #[.val (.ref a1), .val (.int p2), .val (.int (8388608 : Int32))] [(.int (2097152 : Int32)), (.int p2)]))
                                        refine own_go (fun _ k => XS.iconst X108.here hx rfl (hb hby d_prog_42_method_11_10) k) ?_
                                        show OwnGo p e below _ (T108.setTop (mkF m 11 #[.val (.ref a1), .val (.int p2), .val (.int (8388608 : Int32))] [(.int (3 : Int32)), (.int (2097152 : Int32)), (.int p2)]))
                                        refine own_go (fun _ k => XS.imul X108.here hx rfl (hb hby d_prog_42_method_11_11) rfl k) ?_
                                        show OwnGo p e below _ (T108.setTop (mkF m 12 #[.val (.ref a1), .val (.int p2), .val (.int (8388608 : Int32))] [(.int ((2097152 : Int32) * (3 : Int32))), (.int p2)]))
                                        rw [show ((2097152 : Int32) * (3 : Int32)) = (6291456 : Int32) from by decide]
                                        show OwnGo p e below _ (T108.setTop (mkF m 12 #[.val (.ref a1), .val (.int p2), .val (.int (8388608 : Int32))] [(.int (6291456 : Int32)), (.int p2)]))
                                        by_cases hc129 : (6291456 : Int32) < p2
                                        · refine own_go (fun _ k => XS.icmpNo X108.here hx rfl (hb hby d_prog_42_method_11_12) rfl (tlt hc129).2.2.2 k) ?_
                                          show OwnGo p e below _ (T108.setTop (mkF m 15 #[.val (.ref a1), .val (.int p2), .val (.int (8388608 : Int32))] []))
                                          refine own_go (fun _ k => XS.iloadN X108.here hx rfl (hb hby d_prog_42_method_11_15) rfl k) ?_
                                          show OwnGo p e below _ (T108.setTop (mkF m 16 #[.val (.ref a1), .val (.int p2), .val (.int (8388608 : Int32))] [(.int (8388608 : Int32))]))
                                          refine own_go (fun _ k => Jvm.Stand.ldcI X108 hx hown (mvT hZ (hw _ (List.mem_of_getElem? (i := 69) rfl))) rfl (hb hby d_prog_42_method_11_16) k) ?_
                                          show OwnGo p e below _ (T108.setTop (mkF m 18 #[.val (.ref a1), .val (.int p2), .val (.int (8388608 : Int32))] [(.int (1073741824 : Int32)), (.int (8388608 : Int32))]))
                                          refine own_go (fun _ k => XS.icmpNo X108.here hx rfl (hb hby d_prog_42_method_11_18) rfl (by decide) k) ?_
                                          show OwnGo p e below _ (T108.setTop (mkF m 21 #[.val (.ref a1), .val (.int p2), .val (.int (8388608 : Int32))] []))
                                          refine own_go (fun _ k => XS.iloadN X108.here hx rfl (hb hby d_prog_42_method_11_21) rfl k) ?_
                                          show OwnGo p e below _ (T108.setTop (mkF m 22 #[.val (.ref a1), .val (.int p2), .val (.int (8388608 : Int32))] [(.int (8388608 : Int32))]))
                                          refine own_go (fun _ k => XS.iconst X108.here hx rfl (hb hby d_prog_42_method_11_22) k) ?_
                                          show OwnGo p e below _ (T108.setTop (mkF m 23 #[.val (.ref a1), .val (.int p2), .val (.int (8388608 : Int32))] [(.int (2 : Int32)), (.int (8388608 : Int32))]))
                                          refine own_go (fun _ k => XS.imul X108.here hx rfl (hb hby d_prog_42_method_11_23) rfl k) ?_
                                          show OwnGo p e below _ (T108.setTop (mkF m 24 #[.val (.ref a1), .val (.int p2), .val (.int (8388608 : Int32))] [(.int ((8388608 : Int32) * (2 : Int32)))]))
                                          rw [show ((8388608 : Int32) * (2 : Int32)) = (16777216 : Int32) from by decide]
                                          show OwnGo p e below _ (T108.setTop (mkF m 24 #[.val (.ref a1), .val (.int p2), .val (.int (8388608 : Int32))] [(.int (16777216 : Int32))]))
                                          refine own_go (fun _ k => XS.istoreN X108.here hx rfl (hb hby d_prog_42_method_11_24) rfl (l' := #[.val (.ref a1), .val (.int p2), .val (.int (16777216 : Int32))]) rfl k) ?_
                                          show OwnGo p e below _ (T108.setTop (mkF m 25 #[.val (.ref a1), .val (.int p2), .val (.int (16777216 : Int32))] []))
                                          refine own_go (fun _ k => XS.goto X108.here hx rfl (pc0 := 25) (pc' := 6) rfl (hb hby d_prog_42_method_11_25) (by decide) (by decide) k) ?_
                                          show OwnGo p e below _ (T108.setTop (mkF m 6 #[.val (.ref a1), .val (.int p2), .val (.int (16777216 : Int32))] []))
                                          refine own_go (fun _ k => XS.iloadN X108.here hx rfl (hb hby d_prog_42_method_11_6) rfl k) ?_
                                          show OwnGo p e below _ (T108.setTop (mkF m 7 #[.val (.ref a1), .val (.int p2), .val (.int (16777216 : Int32))] [(.int p2)]))
                                          refine own_go (fun _ k => XS.iloadN X108.here hx rfl (hb hby d_prog_42_method_11_7) rfl k) ?_
                                          show OwnGo p e below _ (T108.setTop (mkF m 8 #[.val (.ref a1), .val (.int p2), .val (.int (16777216 : Int32))] [(.int (16777216 : Int32)), (.int p2)]))
                                          refine own_go (fun _ k => XS.iconst X108.here hx rfl (hb hby d_prog_42_method_11_8) k) ?_
                                          show OwnGo p e below _ (T108.setTop (mkF m 9 #[.val (.ref a1), .val (.int p2), .val (.int (16777216 : Int32))] [(.int (4 : Int32)), (.int (16777216 : Int32)), (.int p2)]))
                                          refine own_go (fun _ k => XS.idiv X108.here hx rfl (hb hby d_prog_42_method_11_9) rfl (by decide) k) ?_
                                          show OwnGo p e below _ (T108.setTop (mkF m 10 #[.val (.ref a1), .val (.int p2), .val (.int (16777216 : Int32))] [(.int ((16777216 : Int32) / (4 : Int32))), (.int p2)]))
                                          rw [show ((16777216 : Int32) / (4 : Int32)) = (4194304 : Int32) from by decide]
                                          show OwnGo p e below _ (T108.setTop (mkF m 10 #[.val (.ref a1), .val (.int p2), .val (.int (16777216 : Int32))] [(.int (4194304 : Int32)), (.int p2)]))
                                          refine own_go (fun _ k => XS.iconst X108.here hx rfl (hb hby d_prog_42_method_11_10) k) ?_
                                          show OwnGo p e below _ (T108.setTop (mkF m 11 #[.val (.ref a1), .val (.int p2), .val (.int (16777216 : Int32))] [(.int (3 : Int32)), (.int (4194304 : Int32)), (.int p2)]))
                                          refine own_go (fun _ k => XS.imul X108.here hx rfl (hb hby d_prog_42_method_11_11) rfl k) ?_
                                          show OwnGo p e below _ (T108.setTop (mkF m 12 #[.val (.ref a1), .val (.int p2), .val (.int (16777216 : Int32))] [(.int ((4194304 : Int32) * (3 : Int32))), (.int p2)]))
                                          rw [show ((4194304 : Int32) * (3 : Int32)) = (12582912 : Int32) from by decide]
                                          show OwnGo p e below _ (T108.setTop (mkF m 12 #[.val (.ref a1), .val (.int p2), .val (.int (16777216 : Int32))] [(.int (12582912 : Int32)), (.int p2)]))
                                          by_cases hc130 : (12582912 : Int32) < p2
                                          · refine own_go (fun _ k => XS.icmpNo X108.here hx rfl (hb hby d_prog_42_method_11_12) rfl (tlt hc130).2.2.2 k) ?_
                                            show OwnGo p e below _ (T108.setTop (mkF m 15 #[.val (.ref a1), .val (.int p2), .val (.int (16777216 : Int32))] []))
                                            refine own_go (fun _ k => XS.iloadN X108.here hx rfl (hb hby d_prog_42_method_11_15) rfl k) ?_
                                            show OwnGo p e below _ (T108.setTop (mkF m 16 #[.val (.ref a1), .val (.int p2), .val (.int (16777216 : Int32))] [(.int (16777216 : Int32))]))
                                            refine own_go (fun _ k => Jvm.Stand.ldcI X108 hx hown (mvT hZ (hw _ (List.mem_of_getElem? (i := 69) rfl))) rfl (hb hby d_prog_42_method_11_16) k) ?_
                                            show OwnGo p e below _ (T108.setTop (mkF m 18 #[.val (.ref a1), .val (.int p2), .val (.int (16777216 : Int32))] [(.int (1073741824 : Int32)), (.int (16777216 : Int32))]))
                                            refine own_go (fun _ k => XS.icmpNo X108.here hx rfl (hb hby d_prog_42_method_11_18) rfl (by decide) k) ?_
                                            show OwnGo p e below _ (T108.setTop (mkF m 21 #[.val (.ref a1), .val (.int p2), .val (.int (16777216 : Int32))] []))
                                            refine own_go (fun _ k => XS.iloadN X108.here hx rfl (hb hby d_prog_42_method_11_21) rfl k) ?_
                                            show OwnGo p e below _ (T108.setTop (mkF m 22 #[.val (.ref a1), .val (.int p2), .val (.int (16777216 : Int32))] [(.int (16777216 : Int32))]))
                                            refine own_go (fun _ k => XS.iconst X108.here hx rfl (hb hby d_prog_42_method_11_22) k) ?_
                                            show OwnGo p e below _ (T108.setTop (mkF m 23 #[.val (.ref a1), .val (.int p2), .val (.int (16777216 : Int32))] [(.int (2 : Int32)), (.int (16777216 : Int32))]))
                                            refine own_go (fun _ k => XS.imul X108.here hx rfl (hb hby d_prog_42_method_11_23) rfl k) ?_
                                            show OwnGo p e below _ (T108.setTop (mkF m 24 #[.val (.ref a1), .val (.int p2), .val (.int (16777216 : Int32))] [(.int ((16777216 : Int32) * (2 : Int32)))]))
                                            rw [show ((16777216 : Int32) * (2 : Int32)) = (33554432 : Int32) from by decide]
                                            show OwnGo p e below _ (T108.setTop (mkF m 24 #[.val (.ref a1), .val (.int p2), .val (.int (16777216 : Int32))] [(.int (33554432 : Int32))]))
                                            refine own_go (fun _ k => XS.istoreN X108.here hx rfl (hb hby d_prog_42_method_11_24) rfl (l' := #[.val (.ref a1), .val (.int p2), .val (.int (33554432 : Int32))]) rfl k) ?_
                                            show OwnGo p e below _ (T108.setTop (mkF m 25 #[.val (.ref a1), .val (.int p2), .val (.int (33554432 : Int32))] []))
                                            refine own_go (fun _ k => XS.goto X108.here hx rfl (pc0 := 25) (pc' := 6) rfl (hb hby d_prog_42_method_11_25) (by decide) (by decide) k) ?_
                                            show OwnGo p e below _ (T108.setTop (mkF m 6 #[.val (.ref a1), .val (.int p2), .val (.int (33554432 : Int32))] []))
                                            refine own_go (fun _ k => XS.iloadN X108.here hx rfl (hb hby d_prog_42_method_11_6) rfl k) ?_
                                            show OwnGo p e below _ (T108.setTop (mkF m 7 #[.val (.ref a1), .val (.int p2), .val (.int (33554432 : Int32))] [(.int p2)]))
                                            refine own_go (fun _ k => XS.iloadN X108.here hx rfl (hb hby d_prog_42_method_11_7) rfl k) ?_
                                            show OwnGo p e below _ (T108.setTop (mkF m 8 #[.val (.ref a1), .val (.int p2), .val (.int (33554432 : Int32))] [(.int (33554432 : Int32)), (.int p2)]))
                                            refine own_go (fun _ k => XS.iconst X108.here hx rfl (hb hby d_prog_42_method_11_8) k) ?_
                                            show OwnGo p e below _ (T108.setTop (mkF m 9 #[.val (.ref a1), .val (.int p2), .val (.int (33554432 : Int32))] [(.int (4 : Int32)), (.int (33554432 : Int32)), (.int p2)]))
                                            refine own_go (fun _ k => XS.idiv X108.here hx rfl (hb hby d_prog_42_method_11_9) rfl (by decide) k) ?_
                                            show OwnGo p e below _ (T108.setTop (mkF m 10 #[.val (.ref a1), .val (.int p2), .val (.int (33554432 : Int32))] [(.int ((33554432 : Int32) / (4 : Int32))), (.int p2)]))
                                            rw [show ((33554432 : Int32) / (4 : Int32)) = (8388608 : Int32) from by decide]
                                            show OwnGo p e below _ (T108.setTop (mkF m 10 #[.val (.ref a1), .val (.int p2), .val (.int (33554432 : Int32))] [(.int (8388608 : Int32)), (.int p2)]))
                                            refine own_go (fun _ k => XS.iconst X108.here hx rfl (hb hby d_prog_42_method_11_10) k) ?_
                                            show OwnGo p e below _ (T108.setTop (mkF m 11 #[.val (.ref a1), .val (.int p2), .val (.int (33554432 : Int32))] [(.int (3 : Int32)), (.int (8388608 : Int32)), (.int p2)]))
                                            refine own_go (fun _ k => XS.imul X108.here hx rfl (hb hby d_prog_42_method_11_11) rfl k) ?_
                                            show OwnGo p e below _ (T108.setTop (mkF m 12 #[.val (.ref a1), .val (.int p2), .val (.int (33554432 : Int32))] [(.int ((8388608 : Int32) * (3 : Int32))), (.int p2)]))
                                            rw [show ((8388608 : Int32) * (3 : Int32)) = (25165824 : Int32) from by decide]
                                            show OwnGo p e below _ (T108.setTop (mkF m 12 #[.val (.ref a1), .val (.int p2), .val (.int (33554432 : Int32))] [(.int (25165824 : Int32)), (.int p2)]))
                                            by_cases hc131 : (25165824 : Int32) < p2
                                            · refine own_go (fun _ k => XS.icmpNo X108.here hx rfl (hb hby d_prog_42_method_11_12) rfl (tlt hc131).2.2.2 k) ?_
                                              show OwnGo p e below _ (T108.setTop (mkF m 15 #[.val (.ref a1), .val (.int p2), .val (.int (33554432 : Int32))] []))
                                              refine own_go (fun _ k => XS.iloadN X108.here hx rfl (hb hby d_prog_42_method_11_15) rfl k) ?_
                                              show OwnGo p e below _ (T108.setTop (mkF m 16 #[.val (.ref a1), .val (.int p2), .val (.int (33554432 : Int32))] [(.int (33554432 : Int32))]))
                                              refine own_go (fun _ k => Jvm.Stand.ldcI X108 hx hown (mvT hZ (hw _ (List.mem_of_getElem? (i := 69) rfl))) rfl (hb hby d_prog_42_method_11_16) k) ?_
                                              show OwnGo p e below _ (T108.setTop (mkF m 18 #[.val (.ref a1), .val (.int p2), .val (.int (33554432 : Int32))] [(.int (1073741824 : Int32)), (.int (33554432 : Int32))]))
                                              refine own_go (fun _ k => XS.icmpNo X108.here hx rfl (hb hby d_prog_42_method_11_18) rfl (by decide) k) ?_
                                              show OwnGo p e below _ (T108.setTop (mkF m 21 #[.val (.ref a1), .val (.int p2), .val (.int (33554432 : Int32))] []))
                                              refine own_go (fun _ k => XS.iloadN X108.here hx rfl (hb hby d_prog_42_method_11_21) rfl k) ?_
                                              show OwnGo p e below _ (T108.setTop (mkF m 22 #[.val (.ref a1), .val (.int p2), .val (.int (33554432 : Int32))] [(.int (33554432 : Int32))]))
                                              refine own_go (fun _ k => XS.iconst X108.here hx rfl (hb hby d_prog_42_method_11_22) k) ?_
                                              show OwnGo p e below _ (T108.setTop (mkF m 23 #[.val (.ref a1), .val (.int p2), .val (.int (33554432 : Int32))] [(.int (2 : Int32)), (.int (33554432 : Int32))]))
                                              refine own_go (fun _ k => XS.imul X108.here hx rfl (hb hby d_prog_42_method_11_23) rfl k) ?_
                                              show OwnGo p e below _ (T108.setTop (mkF m 24 #[.val (.ref a1), .val (.int p2), .val (.int (33554432 : Int32))] [(.int ((33554432 : Int32) * (2 : Int32)))]))
                                              rw [show ((33554432 : Int32) * (2 : Int32)) = (67108864 : Int32) from by decide]
                                              show OwnGo p e below _ (T108.setTop (mkF m 24 #[.val (.ref a1), .val (.int p2), .val (.int (33554432 : Int32))] [(.int (67108864 : Int32))]))
                                              refine own_go (fun _ k => XS.istoreN X108.here hx rfl (hb hby d_prog_42_method_11_24) rfl (l' := #[.val (.ref a1), .val (.int p2), .val (.int (67108864 : Int32))]) rfl k) ?_
                                              show OwnGo p e below _ (T108.setTop (mkF m 25 #[.val (.ref a1), .val (.int p2), .val (.int (67108864 : Int32))] []))
                                              refine own_go (fun _ k => XS.goto X108.here hx rfl (pc0 := 25) (pc' := 6) rfl (hb hby d_prog_42_method_11_25) (by decide) (by decide) k) ?_
                                              show OwnGo p e below _ (T108.setTop (mkF m 6 #[.val (.ref a1), .val (.int p2), .val (.int (67108864 : Int32))] []))
                                              refine own_go (fun _ k => XS.iloadN X108.here hx rfl (hb hby d_prog_42_method_11_6) rfl k) ?_
                                              show OwnGo p e below _ (T108.setTop (mkF m 7 #[.val (.ref a1), .val (.int p2), .val (.int (67108864 : Int32))] [(.int p2)]))
                                              refine own_go (fun _ k => XS.iloadN X108.here hx rfl (hb hby d_prog_42_method_11_7) rfl k) ?_
                                              show OwnGo p e below _ (T108.setTop (mkF m 8 #[.val (.ref a1), .val (.int p2), .val (.int (67108864 : Int32))] [(.int (67108864 : Int32)), (.int p2)]))
                                              refine own_go (fun _ k => XS.iconst X108.here hx rfl (hb hby d_prog_42_method_11_8) k) ?_
                                              show OwnGo p e below _ (T108.setTop (mkF m 9 #[.val (.ref a1), .val (.int p2), .val (.int (67108864 : Int32))] [(.int (4 : Int32)), (.int (67108864 : Int32)), (.int p2)]))
                                              refine own_go (fun _ k => XS.idiv X108.here hx rfl (hb hby d_prog_42_method_11_9) rfl (by decide) k) ?_
                                              show OwnGo p e below _ (T108.setTop (mkF m 10 #[.val (.ref a1), .val (.int p2), .val (.int (67108864 : Int32))] [(.int ((67108864 : Int32) / (4 : Int32))), (.int p2)]))
                                              rw [show ((67108864 : Int32) / (4 : Int32)) = (16777216 : Int32) from by decide]
                                              show OwnGo p e below _ (T108.setTop (mkF m 10 #[.val (.ref a1), .val (.int p2), .val (.int (67108864 : Int32))] [(.int (16777216 : Int32)), (.int p2)]))
                                              refine own_go (fun _ k => XS.iconst X108.here hx rfl (hb hby d_prog_42_method_11_10) k) ?_
                                              show OwnGo p e below _ (T108.setTop (mkF m 11 #[.val (.ref a1), .val (.int p2), .val (.int (67108864 : Int32))] [(.int (3 : Int32)), (.int (16777216 : Int32)), (.int p2)]))
                                              refine own_go (fun _ k => XS.imul X108.here hx rfl (hb hby d_prog_42_method_11_11) rfl k) ?_
                                              show OwnGo p e below _ (T108.setTop (mkF m 12 #[.val (.ref a1), .val (.int p2), .val (.int (67108864 : Int32))] [(.int ((16777216 : Int32) * (3 : Int32))), (.int p2)]))
                                              rw [show ((16777216 : Int32) * (3 : Int32)) = (50331648 : Int32) from by decide]
                                              show OwnGo p e below _ (T108.setTop (mkF m 12 #[.val (.ref a1), .val (.int p2), .val (.int (67108864 : Int32))] [(.int (50331648 : Int32)), (.int p2)]))
                                              by_cases hc132 : (50331648 : Int32) < p2
                                              · refine own_go (fun _ k => XS.icmpNo X108.here hx rfl (hb hby d_prog_42_method_11_12) rfl (tlt hc132).2.2.2 k) ?_
                                                show OwnGo p e below _ (T108.setTop (mkF m 15 #[.val (.ref a1), .val (.int p2), .val (.int (67108864 : Int32))] []))
                                                refine own_go (fun _ k => XS.iloadN X108.here hx rfl (hb hby d_prog_42_method_11_15) rfl k) ?_
                                                show OwnGo p e below _ (T108.setTop (mkF m 16 #[.val (.ref a1), .val (.int p2), .val (.int (67108864 : Int32))] [(.int (67108864 : Int32))]))
                                                refine own_go (fun _ k => Jvm.Stand.ldcI X108 hx hown (mvT hZ (hw _ (List.mem_of_getElem? (i := 69) rfl))) rfl (hb hby d_prog_42_method_11_16) k) ?_
                                                show OwnGo p e below _ (T108.setTop (mkF m 18 #[.val (.ref a1), .val (.int p2), .val (.int (67108864 : Int32))] [(.int (1073741824 : Int32)), (.int (67108864 : Int32))]))
                                                refine own_go (fun _ k => XS.icmpNo X108.here hx rfl (hb hby d_prog_42_method_11_18) rfl (by decide) k) ?_
                                                show OwnGo p e below _ (T108.setTop (mkF m 21 #[.val (.ref a1), .val (.int p2), .val (.int (67108864 : Int32))] []))
                                                refine own_go (fun _ k => XS.iloadN X108.here hx rfl (hb hby d_prog_42_method_11_21) rfl k) ?_
                                                show OwnGo p e below _ (T108.setTop (mkF m 22 #[.val (.ref a1), .val (.int p2), .val (.int (67108864 : Int32))] [(.int (67108864 : Int32))]))
                                                refine own_go (fun _ k => XS.iconst X108.here hx rfl (hb hby d_prog_42_method_11_22) k) ?_
                                                show OwnGo p e below _ (T108.setTop (mkF m 23 #[.val (.ref a1), .val (.int p2), .val (.int (67108864 : Int32))] [(.int (2 : Int32)), (.int (67108864 : Int32))]))
                                                refine own_go (fun _ k => XS.imul X108.here hx rfl (hb hby d_prog_42_method_11_23) rfl k) ?_
                                                show OwnGo p e below _ (T108.setTop (mkF m 24 #[.val (.ref a1), .val (.int p2), .val (.int (67108864 : Int32))] [(.int ((67108864 : Int32) * (2 : Int32)))]))
                                                rw [show ((67108864 : Int32) * (2 : Int32)) = (134217728 : Int32) from by decide]
                                                show OwnGo p e below _ (T108.setTop (mkF m 24 #[.val (.ref a1), .val (.int p2), .val (.int (67108864 : Int32))] [(.int (134217728 : Int32))]))
                                                refine own_go (fun _ k => XS.istoreN X108.here hx rfl (hb hby d_prog_42_method_11_24) rfl (l' := #[.val (.ref a1), .val (.int p2), .val (.int (134217728 : Int32))]) rfl k) ?_
                                                show OwnGo p e below _ (T108.setTop (mkF m 25 #[.val (.ref a1), .val (.int p2), .val (.int (134217728 : Int32))] []))
                                                refine own_go (fun _ k => XS.goto X108.here hx rfl (pc0 := 25) (pc' := 6) rfl (hb hby d_prog_42_method_11_25) (by decide) (by decide) k) ?_
                                                show OwnGo p e below _ (T108.setTop (mkF m 6 #[.val (.ref a1), .val (.int p2), .val (.int (134217728 : Int32))] []))
                                                refine own_go (fun _ k => XS.iloadN X108.here hx rfl (hb hby d_prog_42_method_11_6) rfl k) ?_
                                                show OwnGo p e below _ (T108.setTop (mkF m 7 #[.val (.ref a1), .val (.int p2), .val (.int (134217728 : Int32))] [(.int p2)]))
                                                refine own_go (fun _ k => XS.iloadN X108.here hx rfl (hb hby d_prog_42_method_11_7) rfl k) ?_
                                                show OwnGo p e below _ (T108.setTop (mkF m 8 #[.val (.ref a1), .val (.int p2), .val (.int (134217728 : Int32))] [(.int (134217728 : Int32)), (.int p2)]))
                                                refine own_go (fun _ k => XS.iconst X108.here hx rfl (hb hby d_prog_42_method_11_8) k) ?_
                                                show OwnGo p e below _ (T108.setTop (mkF m 9 #[.val (.ref a1), .val (.int p2), .val (.int (134217728 : Int32))] [(.int (4 : Int32)), (.int (134217728 : Int32)), (.int p2)]))
                                                refine own_go (fun _ k => XS.idiv X108.here hx rfl (hb hby d_prog_42_method_11_9) rfl (by decide) k) ?_
                                                show OwnGo p e below _ (T108.setTop (mkF m 10 #[.val (.ref a1), .val (.int p2), .val (.int (134217728 : Int32))] [(.int ((134217728 : Int32) / (4 : Int32))), (.int p2)]))
                                                rw [show ((134217728 : Int32) / (4 : Int32)) = (33554432 : Int32) from by decide]
                                                show OwnGo p e below _ (T108.setTop (mkF m 10 #[.val (.ref a1), .val (.int p2), .val (.int (134217728 : Int32))] [(.int (33554432 : Int32)), (.int p2)]))
                                                refine own_go (fun _ k => XS.iconst X108.here hx rfl (hb hby d_prog_42_method_11_10) k) ?_
                                                show OwnGo p e below _ (T108.setTop (mkF m 11 #[.val (.ref a1), .val (.int p2), .val (.int (134217728 : Int32))] [(.int (3 : Int32)), (.int (33554432 : Int32)), (.int p2)]))
                                                refine own_go (fun _ k => XS.imul X108.here hx rfl (hb hby d_prog_42_method_11_11) rfl k) ?_
                                                show OwnGo p e below _ (T108.setTop (mkF m 12 #[.val (.ref a1), .val (.int p2), .val (.int (134217728 : Int32))] [(.int ((33554432 : Int32) * (3 : Int32))), (.int p2)]))
                                                rw [show ((33554432 : Int32) * (3 : Int32)) = (100663296 : Int32) from by decide]
                                                show OwnGo p e below _ (T108.setTop (mkF m 12 #[.val (.ref a1), .val (.int p2), .val (.int (134217728 : Int32))] [(.int (100663296 : Int32)), (.int p2)]))
                                                by_cases hc133 : (100663296 : Int32) < p2
                                                · refine own_go (fun _ k => XS.icmpNo X108.here hx rfl (hb hby d_prog_42_method_11_12) rfl (tlt hc133).2.2.2 k) ?_
                                                  show OwnGo p e below _ (T108.setTop (mkF m 15 #[.val (.ref a1), .val (.int p2), .val (.int (134217728 : Int32))] []))
                                                  refine own_go (fun _ k => XS.iloadN X108.here hx rfl (hb hby d_prog_42_method_11_15) rfl k) ?_
                                                  show OwnGo p e below _ (T108.setTop (mkF m 16 #[.val (.ref a1), .val (.int p2), .val (.int (134217728 : Int32))] [(.int (134217728 : Int32))]))
                                                  refine own_go (fun _ k => Jvm.Stand.ldcI X108 hx hown (mvT hZ (hw _ (List.mem_of_getElem? (i := 69) rfl))) rfl (hb hby d_prog_42_method_11_16) k) ?_
                                                  show OwnGo p e below _ (T108.setTop (mkF m 18 #[.val (.ref a1), .val (.int p2), .val (.int (134217728 : Int32))] [(.int (1073741824 : Int32)), (.int (134217728 : Int32))]))
                                                  refine own_go (fun _ k => XS.icmpNo X108.here hx rfl (hb hby d_prog_42_method_11_18) rfl (by decide) k) ?_
                                                  show OwnGo p e below _ (T108.setTop (mkF m 21 #[.val (.ref a1), .val (.int p2), .val (.int (134217728 : Int32))] []))
                                                  refine own_go (fun _ k => XS.iloadN X108.here hx rfl (hb hby d_prog_42_method_11_21) rfl k) ?_
                                                  show OwnGo p e below _ (T108.setTop (mkF m 22 #[.val (.ref a1), .val (.int p2), .val (.int (134217728 : Int32))] [(.int (134217728 : Int32))]))
                                                  refine own_go (fun _ k => XS.iconst X108.here hx rfl (hb hby d_prog_42_method_11_22) k) ?_
                                                  show OwnGo p e below _ (T108.setTop (mkF m 23 #[.val (.ref a1), .val (.int p2), .val (.int (134217728 : Int32))] [(.int (2 : Int32)), (.int (134217728 : Int32))]))
                                                  refine own_go (fun _ k => XS.imul X108.here hx rfl (hb hby d_prog_42_method_11_23) rfl k) ?_
                                                  show OwnGo p e below _ (T108.setTop (mkF m 24 #[.val (.ref a1), .val (.int p2), .val (.int (134217728 : Int32))] [(.int ((134217728 : Int32) * (2 : Int32)))]))
                                                  rw [show ((134217728 : Int32) * (2 : Int32)) = (268435456 : Int32) from by decide]
                                                  show OwnGo p e below _ (T108.setTop (mkF m 24 #[.val (.ref a1), .val (.int p2), .val (.int (134217728 : Int32))] [(.int (268435456 : Int32))]))
                                                  refine own_go (fun _ k => XS.istoreN X108.here hx rfl (hb hby d_prog_42_method_11_24) rfl (l' := #[.val (.ref a1), .val (.int p2), .val (.int (268435456 : Int32))]) rfl k) ?_
                                                  show OwnGo p e below _ (T108.setTop (mkF m 25 #[.val (.ref a1), .val (.int p2), .val (.int (268435456 : Int32))] []))
                                                  refine own_go (fun _ k => XS.goto X108.here hx rfl (pc0 := 25) (pc' := 6) rfl (hb hby d_prog_42_method_11_25) (by decide) (by decide) k) ?_
                                                  show OwnGo p e below _ (T108.setTop (mkF m 6 #[.val (.ref a1), .val (.int p2), .val (.int (268435456 : Int32))] []))
                                                  refine own_go (fun _ k => XS.iloadN X108.here hx rfl (hb hby d_prog_42_method_11_6) rfl k) ?_
                                                  show OwnGo p e below _ (T108.setTop (mkF m 7 #[.val (.ref a1), .val (.int p2), .val (.int (268435456 : Int32))] [(.int p2)]))
                                                  refine own_go (fun _ k => XS.iloadN X108.here hx rfl (hb hby d_prog_42_method_11_7) rfl k) ?_
                                                  show OwnGo p e below _ (T108.setTop (mkF m 8 #[.val (.ref a1), .val (.int p2), .val (.int (268435456 : Int32))] [(.int (268435456 : Int32)), (.int p2)]))
                                                  refine own_go (fun _ k => XS.iconst X108.here hx rfl (hb hby d_prog_42_method_11_8) k) ?_
                                                  show OwnGo p e below _ (T108.setTop (mkF m 9 #[.val (.ref a1), .val (.int p2), .val (.int (268435456 : Int32))] [(.int (4 : Int32)), (.int (268435456 : Int32)), (.int p2)]))
                                                  refine own_go (fun _ k => XS.idiv X108.here hx rfl (hb hby d_prog_42_method_11_9) rfl (by decide) k) ?_
                                                  show OwnGo p e below _ (T108.setTop (mkF m 10 #[.val (.ref a1), .val (.int p2), .val (.int (268435456 : Int32))] [(.int ((268435456 : Int32) / (4 : Int32))), (.int p2)]))
                                                  rw [show ((268435456 : Int32) / (4 : Int32)) = (67108864 : Int32) from by decide]
                                                  show OwnGo p e below _ (T108.setTop (mkF m 10 #[.val (.ref a1), .val (.int p2), .val (.int (268435456 : Int32))] [(.int (67108864 : Int32)), (.int p2)]))
                                                  refine own_go (fun _ k => XS.iconst X108.here hx rfl (hb hby d_prog_42_method_11_10) k) ?_
                                                  show OwnGo p e below _ (T108.setTop (mkF m 11 #[.val (.ref a1), .val (.int p2), .val (.int (268435456 : Int32))] [(.int (3 : Int32)), (.int (67108864 : Int32)), (.int p2)]))
                                                  refine own_go (fun _ k => XS.imul X108.here hx rfl (hb hby d_prog_42_method_11_11) rfl k) ?_
                                                  show OwnGo p e below _ (T108.setTop (mkF m 12 #[.val (.ref a1), .val (.int p2), .val (.int (268435456 : Int32))] [(.int ((67108864 : Int32) * (3 : Int32))), (.int p2)]))
                                                  rw [show ((67108864 : Int32) * (3 : Int32)) = (201326592 : Int32) from by decide]
                                                  show OwnGo p e below _ (T108.setTop (mkF m 12 #[.val (.ref a1), .val (.int p2), .val (.int (268435456 : Int32))] [(.int (201326592 : Int32)), (.int p2)]))
                                                  by_cases hc134 : (201326592 : Int32) < p2
                                                  · refine own_go (fun _ k => XS.icmpNo X108.here hx rfl (hb hby d_prog_42_method_11_12) rfl (tlt hc134).2.2.2 k) ?_
                                                    show OwnGo p e below _ (T108.setTop (mkF m 15 #[.val (.ref a1), .val (.int p2), .val (.int (268435456 : Int32))] []))
                                                    refine own_go (fun _ k => XS.iloadN X108.here hx rfl (hb hby d_prog_42_method_11_15) rfl k) ?_
                                                    show OwnGo p e below _ (T108.setTop (mkF m 16 #[.val (.ref a1), .val (.int p2), .val (.int (268435456 : Int32))] [(.int (268435456 : Int32))]))
                                                    refine own_go (fun _ k => Jvm.Stand.ldcI X108 hx hown (mvT hZ (hw _ (List.mem_of_getElem? (i := 69) rfl))) rfl (hb hby d_prog_42_method_11_16) k) ?_
                                                    show OwnGo p e below _ (T108.setTop (mkF m 18 #[.val (.ref a1), .val (.int p2), .val (.int (268435456 : Int32))] [(.int (1073741824 : Int32)), (.int (268435456 : Int32))]))
                                                    refine own_go (fun _ k => XS.icmpNo X108.here hx rfl (hb hby d_prog_42_method_11_18) rfl (by decide) k) ?_
                                                    show OwnGo p e below _ (T108.setTop (mkF m 21 #[.val (.ref a1), .val (.int p2), .val (.int (268435456 : Int32))] []))
                                                    refine own_go (fun _ k => XS.iloadN X108.here hx rfl (hb hby d_prog_42_method_11_21) rfl k) ?_
                                                    show OwnGo p e below _ (T108.setTop (mkF m 22 #[.val (.ref a1), .val (.int p2), .val (.int (268435456 : Int32))] [(.int (268435456 : Int32))]))
                                                    refine own_go (fun _ k => XS.iconst X108.here hx rfl (hb hby d_prog_42_method_11_22) k) ?_
                                                    show OwnGo p e below _ (T108.setTop (mkF m 23 #[.val (.ref a1), .val (.int p2), .val (.int (268435456 : Int32))] [(.int (2 : Int32)), (.int (268435456 : Int32))]))
                                                    refine own_go (fun _ k => XS.imul X108.here hx rfl (hb hby d_prog_42_method_11_23) rfl k) ?_
                                                    show OwnGo p e below _ (T108.setTop (mkF m 24 #[.val (.ref a1), .val (.int p2), .val (.int (268435456 : Int32))] [(.int ((268435456 : Int32) * (2 : Int32)))]))
                                                    rw [show ((268435456 : Int32) * (2 : Int32)) = (536870912 : Int32) from by decide]
                                                    show OwnGo p e below _ (T108.setTop (mkF m 24 #[.val (.ref a1), .val (.int p2), .val (.int (268435456 : Int32))] [(.int (536870912 : Int32))]))
                                                    refine own_go (fun _ k => XS.istoreN X108.here hx rfl (hb hby d_prog_42_method_11_24) rfl (l' := #[.val (.ref a1), .val (.int p2), .val (.int (536870912 : Int32))]) rfl k) ?_
                                                    show OwnGo p e below _ (T108.setTop (mkF m 25 #[.val (.ref a1), .val (.int p2), .val (.int (536870912 : Int32))] []))
                                                    refine own_go (fun _ k => XS.goto X108.here hx rfl (pc0 := 25) (pc' := 6) rfl (hb hby d_prog_42_method_11_25) (by decide) (by decide) k) ?_
                                                    show OwnGo p e below _ (T108.setTop (mkF m 6 #[.val (.ref a1), .val (.int p2), .val (.int (536870912 : Int32))] []))
                                                    refine own_go (fun _ k => XS.iloadN X108.here hx rfl (hb hby d_prog_42_method_11_6) rfl k) ?_
                                                    show OwnGo p e below _ (T108.setTop (mkF m 7 #[.val (.ref a1), .val (.int p2), .val (.int (536870912 : Int32))] [(.int p2)]))
                                                    refine own_go (fun _ k => XS.iloadN X108.here hx rfl (hb hby d_prog_42_method_11_7) rfl k) ?_
                                                    show OwnGo p e below _ (T108.setTop (mkF m 8 #[.val (.ref a1), .val (.int p2), .val (.int (536870912 : Int32))] [(.int (536870912 : Int32)), (.int p2)]))
                                                    refine own_go (fun _ k => XS.iconst X108.here hx rfl (hb hby d_prog_42_method_11_8) k) ?_
                                                    show OwnGo p e below _ (T108.setTop (mkF m 9 #[.val (.ref a1), .val (.int p2), .val (.int (536870912 : Int32))] [(.int (4 : Int32)), (.int (536870912 : Int32)), (.int p2)]))
                                                    refine own_go (fun _ k => XS.idiv X108.here hx rfl (hb hby d_prog_42_method_11_9) rfl (by decide) k) ?_
                                                    show OwnGo p e below _ (T108.setTop (mkF m 10 #[.val (.ref a1), .val (.int p2), .val (.int (536870912 : Int32))] [(.int ((536870912 : Int32) / (4 : Int32))), (.int p2)]))
                                                    rw [show ((536870912 : Int32) / (4 : Int32)) = (134217728 : Int32) from by decide]
                                                    show OwnGo p e below _ (T108.setTop (mkF m 10 #[.val (.ref a1), .val (.int p2), .val (.int (536870912 : Int32))] [(.int (134217728 : Int32)), (.int p2)]))
                                                    refine own_go (fun _ k => XS.iconst X108.here hx rfl (hb hby d_prog_42_method_11_10) k) ?_
                                                    show OwnGo p e below _ (T108.setTop (mkF m 11 #[.val (.ref a1), .val (.int p2), .val (.int (536870912 : Int32))] [(.int (3 : Int32)), (.int (134217728 : Int32)), (.int p2)]))
                                                    refine own_go (fun _ k => XS.imul X108.here hx rfl (hb hby d_prog_42_method_11_11) rfl k) ?_
                                                    show OwnGo p e below _ (T108.setTop (mkF m 12 #[.val (.ref a1), .val (.int p2), .val (.int (536870912 : Int32))] [(.int ((134217728 : Int32) * (3 : Int32))), (.int p2)]))
                                                    rw [show ((134217728 : Int32) * (3 : Int32)) = (402653184 : Int32) from by decide]
                                                    show OwnGo p e below _ (T108.setTop (mkF m 12 #[.val (.ref a1), .val (.int p2), .val (.int (536870912 : Int32))] [(.int (402653184 : Int32)), (.int p2)]))
                                                    by_cases hc135 : (402653184 : Int32) < p2
                                                    · refine own_go (fun _ k => XS.icmpNo X108.here hx rfl (hb hby d_prog_42_method_11_12) rfl (tlt hc135).2.2.2 k) ?_
                                                      show OwnGo p e below _ (T108.setTop (mkF m 15 #[.val (.ref a1), .val (.int p2), .val (.int (536870912 : Int32))] []))
                                                      refine own_go (fun _ k => XS.iloadN X108.here hx rfl (hb hby d_prog_42_method_11_15) rfl k) ?_
                                                      show OwnGo p e below _ (T108.setTop (mkF m 16 #[.val (.ref a1), .val (.int p2), .val (.int (536870912 : Int32))] [(.int (536870912 : Int32))]))
                                                      refine own_go (fun _ k => Jvm.Stand.ldcI X108 hx hown (mvT hZ (hw _ (List.mem_of_getElem? (i := 69) rfl))) rfl (hb hby d_prog_42_method_11_16) k) ?_
                                                      show OwnGo p e below _ (T108.setTop (mkF m 18 #[.val (.ref a1), .val (.int p2), .val (.int (536870912 : Int32))] [(.int (1073741824 : Int32)), (.int (536870912 : Int32))]))
                                                      refine own_go (fun _ k => XS.icmpNo X108.here hx rfl (hb hby d_prog_42_method_11_18) rfl (by decide) k) ?_
                                                      show OwnGo p e below _ (T108.setTop (mkF m 21 #[.val (.ref a1), .val (.int p2), .val (.int (536870912 : Int32))] []))
                                                      refine own_go (fun _ k => XS.iloadN X108.here hx rfl (hb hby d_prog_42_method_11_21) rfl k) ?_
                                                      show OwnGo p e below _ (T108.setTop (mkF m 22 #[.val (.ref a1), .val (.int p2), .val (.int (536870912 : Int32))] [(.int (536870912 : Int32))]))
                                                      refine own_go (fun _ k => XS.iconst X108.here hx rfl (hb hby d_prog_42_method_11_22) k) ?_
                                                      show OwnGo p e below _ (T108.setTop (mkF m 23 #[.val (.ref a1), .val (.int p2), .val (.int (536870912 : Int32))] [(.int (2 : Int32)), (.int (536870912 : Int32))]))
                                                      refine own_go (fun _ k => XS.imul X108.here hx rfl (hb hby d_prog_42_method_11_23) rfl k) ?_
                                                      show OwnGo p e below _ (T108.setTop (mkF m 24 #[.val (.ref a1), .val (.int p2), .val (.int (536870912 : Int32))] [(.int ((536870912 : Int32) * (2 : Int32)))]))
                                                      rw [show ((536870912 : Int32) * (2 : Int32)) = (1073741824 : Int32) from by decide]
                                                      show OwnGo p e below _ (T108.setTop (mkF m 24 #[.val (.ref a1), .val (.int p2), .val (.int (536870912 : Int32))] [(.int (1073741824 : Int32))]))
                                                      refine own_go (fun _ k => XS.istoreN X108.here hx rfl (hb hby d_prog_42_method_11_24) rfl (l' := #[.val (.ref a1), .val (.int p2), .val (.int (1073741824 : Int32))]) rfl k) ?_
                                                      show OwnGo p e below _ (T108.setTop (mkF m 25 #[.val (.ref a1), .val (.int p2), .val (.int (1073741824 : Int32))] []))
                                                      refine own_go (fun _ k => XS.goto X108.here hx rfl (pc0 := 25) (pc' := 6) rfl (hb hby d_prog_42_method_11_25) (by decide) (by decide) k) ?_
                                                      show OwnGo p e below _ (T108.setTop (mkF m 6 #[.val (.ref a1), .val (.int p2), .val (.int (1073741824 : Int32))] []))
                                                      refine own_go (fun _ k => XS.iloadN X108.here hx rfl (hb hby d_prog_42_method_11_6) rfl k) ?_
                                                      show OwnGo p e below _ (T108.setTop (mkF m 7 #[.val (.ref a1), .val (.int p2), .val (.int (1073741824 : Int32))] [(.int p2)]))
                                                      refine own_go (fun _ k => XS.iloadN X108.here hx rfl (hb hby d_prog_42_method_11_7) rfl k) ?_
                                                      show OwnGo p e below _ (T108.setTop (mkF m 8 #[.val (.ref a1), .val (.int p2), .val (.int (1073741824 : Int32))] [(.int (1073741824 : Int32)), (.int p2)]))
                                                      refine own_go (fun _ k => XS.iconst X108.here hx rfl (hb hby d_prog_42_method_11_8) k) ?_
                                                      show OwnGo p e below _ (T108.setTop (mkF m 9 #[.val (.ref a1), .val (.int p2), .val (.int (1073741824 : Int32))] [(.int (4 : Int32)), (.int (1073741824 : Int32)), (.int p2)]))
                                                      refine own_go (fun _ k => XS.idiv X108.here hx rfl (hb hby d_prog_42_method_11_9) rfl (by decide) k) ?_
                                                      show OwnGo p e below _ (T108.setTop (mkF m 10 #[.val (.ref a1), .val (.int p2), .val (.int (1073741824 : Int32))] [(.int ((1073741824 : Int32) / (4 : Int32))), (.int p2)]))
                                                      rw [show ((1073741824 : Int32) / (4 : Int32)) = (268435456 : Int32) from by decide]
                                                      show OwnGo p e below _ (T108.setTop (mkF m 10 #[.val (.ref a1), .val (.int p2), .val (.int (1073741824 : Int32))] [(.int (268435456 : Int32)), (.int p2)]))
                                                      refine own_go (fun _ k => XS.iconst X108.here hx rfl (hb hby d_prog_42_method_11_10) k) ?_
                                                      show OwnGo p e below _ (T108.setTop (mkF m 11 #[.val (.ref a1), .val (.int p2), .val (.int (1073741824 : Int32))] [(.int (3 : Int32)), (.int (268435456 : Int32)), (.int p2)]))
                                                      refine own_go (fun _ k => XS.imul X108.here hx rfl (hb hby d_prog_42_method_11_11) rfl k) ?_
                                                      show OwnGo p e below _ (T108.setTop (mkF m 12 #[.val (.ref a1), .val (.int p2), .val (.int (1073741824 : Int32))] [(.int ((268435456 : Int32) * (3 : Int32))), (.int p2)]))
                                                      rw [show ((268435456 : Int32) * (3 : Int32)) = (805306368 : Int32) from by decide]
                                                      show OwnGo p e below _ (T108.setTop (mkF m 12 #[.val (.ref a1), .val (.int p2), .val (.int (1073741824 : Int32))] [(.int (805306368 : Int32)), (.int p2)]))
                                                      by_cases hc136 : (805306368 : Int32) < p2
                                                      · refine own_go (fun _ k => XS.icmpNo X108.here hx rfl (hb hby d_prog_42_method_11_12) rfl (tlt hc136).2.2.2 k) ?_
                                                        show OwnGo p e below _ (T108.setTop (mkF m 15 #[.val (.ref a1), .val (.int p2), .val (.int (1073741824 : Int32))] []))
                                                        refine own_go (fun _ k => XS.iloadN X108.here hx rfl (hb hby d_prog_42_method_11_15) rfl k) ?_
                                                        show OwnGo p e below _ (T108.setTop (mkF m 16 #[.val (.ref a1), .val (.int p2), .val (.int (1073741824 : Int32))] [(.int (1073741824 : Int32))]))
                                                        refine own_go (fun _ k => Jvm.Stand.ldcI X108 hx hown (mvT hZ (hw _ (List.mem_of_getElem? (i := 69) rfl))) rfl (hb hby d_prog_42_method_11_16) k) ?_
                                                        show OwnGo p e below _ (T108.setTop (mkF m 18 #[.val (.ref a1), .val (.int p2), .val (.int (1073741824 : Int32))] [(.int (1073741824 : Int32)), (.int (1073741824 : Int32))]))
                                                        refine own_go (fun _ k => XS.icmpYes X108.here hx rfl (pc0 := 18) (pc' := 28) rfl (hb hby d_prog_42_method_11_18) rfl (by decide) (by decide) (by decide) k) ?_
                                                        show OwnGo p e below _ (T108.setTop (mkF m 28 #[.val (.ref a1), .val (.int p2), .val (.int (1073741824 : Int32))] []))
                                                        refine own_go (fun _ k => XS.iloadN X108.here hx rfl (hb hby d_prog_42_method_11_28) rfl k) ?_
                                                        show OwnGo p e below _ (T108.setTop (mkF m 29 #[.val (.ref a1), .val (.int p2), .val (.int (1073741824 : Int32))] [(.int p2)]))
                                                        refine own_go (fun _ k => XS.iloadN X108.here hx rfl (hb hby d_prog_42_method_11_29) rfl k) ?_
                                                        show OwnGo p e below _ (T108.setTop (mkF m 30 #[.val (.ref a1), .val (.int p2), .val (.int (1073741824 : Int32))] [(.int (1073741824 : Int32)), (.int p2)]))
                                                        refine own_go (fun _ k => XS.bipush X108.here hx rfl (hb hby d_prog_42_method_11_30) k) ?_
                                                        show OwnGo p e below _ (T108.setTop (mkF m 32 #[.val (.ref a1), .val (.int p2), .val (.int (1073741824 : Int32))] [(.int (8 : Int32)), (.int (1073741824 : Int32)), (.int p2)]))
                                                        refine own_go (fun _ k => XS.idiv X108.here hx rfl (hb hby d_prog_42_method_11_32) rfl (by decide) k) ?_
                                                        show OwnGo p e below _ (T108.setTop (mkF m 33 #[.val (.ref a1), .val (.int p2), .val (.int (1073741824 : Int32))] [(.int ((1073741824 : Int32) / (8 : Int32))), (.int p2)]))
                                                        rw [show ((1073741824 : Int32) / (8 : Int32)) = (134217728 : Int32) from by decide]
                                                        show OwnGo p e below _ (T108.setTop (mkF m 33 #[.val (.ref a1), .val (.int p2), .val (.int (1073741824 : Int32))] [(.int (134217728 : Int32)), (.int p2)]))
                                                        refine own_go (fun _ k => XS.icmpYes X108.here hx rfl (pc0 := 33) (pc' := 49) rfl (hb hby d_prog_42_method_11_33) rfl (tlt (Int32.lt_trans (by decide) hc135)).2.2.1 (by decide) (by decide) k) ?_
                                                        show OwnGo p e below _ (T108.setTop (mkF m 49 #[.val (.ref a1), .val (.int p2), .val (.int (1073741824 : Int32))] []))
                                                        refine own_go (fun _ k => XS.iloadN X108.here hx rfl (hb hby d_prog_42_method_11_49) rfl k) ?_
                                                        show OwnGo p e below _ (T108.setTop (mkF m 50 #[.val (.ref a1), .val (.int p2), .val (.int (1073741824 : Int32))] [(.int (1073741824 : Int32))]))
                                                        obtain ⟨fs, hr, hrun, hended, hW, hsame⟩ := X108.leave (v := some (.int (1073741824 : Int32))) (fun h => by rw [Bd.returns] at h; cases h)
                                                        refine ⟨_, _, retOut X108 hx Bd.returns rfl (Or.inl ⟨rfl, Or.inl rfl, _, rfl⟩) (hb hby d_prog_42_method_11_50) hr, hrun, hended, _, _, rfl, ?_, ⟨_, rfl⟩, hW, hsame.mono (by decide) (by decide)⟩
                                                        show Q_bf Z aNONE aEXPIRING_KEYS aALL_KEYS a1 p2 a2 k2 r0 h0 n0 _ T108.heap _
                                                        rw [e108]
                                                        exact ⟨(by rw [← hr0]; simp only [own_bf, hc110, hc111, hc112, hc113, hc114, hc115, hc116, hc117, hc118, hc119, hc120, hc121, hc122, hc123, hc124, hc125, hc126, hc127, hc128, hc129, hc130, hc131, hc132, hc133, hc134, hc135, if_true, if_false]), N0, rfl⟩
                                                      · refine own_go (fun _ k => XS.icmpYes X108.here hx rfl (pc0 := 12) (pc' := 28) rfl (hb hby d_prog_42_method_11_12) rfl (flt hc136).2.2.2 (by decide) (by decide) k) ?_
                                                        show OwnGo p e below _ (T108.setTop (mkF m 28 #[.val (.ref a1), .val (.int p2), .val (.int (1073741824 : Int32))] []))
                                                        refine own_go (fun _ k => XS.iloadN X108.here hx rfl (hb hby d_prog_42_method_11_28) rfl k) ?_
                                                        show OwnGo p e below _ (T108.setTop (mkF m 29 #[.val (.ref a1), .val (.int p2), .val (.int (1073741824 : Int32))] [(.int p2)]))
                                                        refine own_go (fun _ k => XS.iloadN X108.here hx rfl (hb hby d_prog_42_method_11_29) rfl k) ?_
                                                        show OwnGo p e below _ (T108.setTop (mkF m 30 #[.val (.ref a1), .val (.int p2), .val (.int (1073741824 : Int32))] [(.int (1073741824 : Int32)), (.int p2)]))
                                                        refine own_go (fun _ k => XS.bipush X108.here hx rfl (hb hby d_prog_42_method_11_30) k) ?_
                                                        show OwnGo p e below _ (T108.setTop (mkF m 32 #[.val (.ref a1), .val (.int p2), .val (.int (1073741824 : Int32))] [(.int (8 : Int32)), (.int (1073741824 : Int32)), (.int p2)]))
                                                        refine own_go (fun _ k => XS.idiv X108.here hx rfl (hb hby d_prog_42_method_11_32) rfl (by decide) k) ?_
                                                        show OwnGo p e below _ (T108.setTop (mkF m 33 #[.val (.ref a1), .val (.int p2), .val (.int (1073741824 : Int32))] [(.int ((1073741824 : Int32) / (8 : Int32))), (.int p2)]))
                                                        rw [show ((1073741824 : Int32) / (8 : Int32)) = (134217728 : Int32) from by decide]
                                                        show OwnGo p e below _ (T108.setTop (mkF m 33 #[.val (.ref a1), .val (.int p2), .val (.int (1073741824 : Int32))] [(.int (134217728 : Int32)), (.int p2)]))
                                                        refine own_go (fun _ k => XS.icmpYes X108.here hx rfl (pc0 := 33) (pc' := 49) rfl (hb hby d_prog_42_method_11_33) rfl (tlt (Int32.lt_trans (by decide) hc135)).2.2.1 (by decide) (by decide) k) ?_
                                                        show OwnGo p e below _ (T108.setTop (mkF m 49 #[.val (.ref a1), .val (.int p2), .val (.int (1073741824 : Int32))] []))
                                                        refine own_go (fun _ k => XS.iloadN X108.here hx rfl (hb hby d_prog_42_method_11_49) rfl k) ?_
                                                        show OwnGo p e below _ (T108.setTop (mkF m 50 #[.val (.ref a1), .val (.int p2), .val (.int (1073741824 : Int32))] [(.int (1073741824 : Int32))]))
                                                        obtain ⟨fs, hr, hrun, hended, hW, hsame⟩ := X108.leave (v := some (.int (1073741824 : Int32))) (fun h => by rw [Bd.returns] at h; cases h)
                                                        refine ⟨_, _, retOut X108 hx Bd.returns rfl (Or.inl ⟨rfl, Or.inl rfl, _, rfl⟩) (hb hby d_prog_42_method_11_50) hr, hrun, hended, _, _, rfl, ?_, ⟨_, rfl⟩, hW, hsame.mono (by decide) (by decide)⟩
                                                        show Q_bf Z aNONE aEXPIRING_KEYS aALL_KEYS a1 p2 a2 k2 r0 h0 n0 _ T108.heap _
                                                        rw [e108]
                                                        exact ⟨(by rw [← hr0]; simp only [own_bf, hc110, hc111, hc112, hc113, hc114, hc115, hc116, hc117, hc118, hc119, hc120, hc121, hc122, hc123, hc124, hc125, hc126, hc127, hc128, hc129, hc130, hc131, hc132, hc133, hc134, hc135, if_true, if_false]), N0, rfl⟩
                                                    · refine own_go (fun _ k => XS.icmpYes X108.here hx rfl (pc0 := 12) (pc' := 28) rfl (hb hby d_prog_42_method_11_12) rfl (flt hc135).2.2.2 (by decide) (by decide) k) ?_
                                                      show OwnGo p e below _ (T108.setTop (mkF m 28 #[.val (.ref a1), .val (.int p2), .val (.int (536870912 : Int32))] []))
                                                      refine own_go (fun _ k => XS.iloadN X108.here hx rfl (hb hby d_prog_42_method_11_28) rfl k) ?_
                                                      show OwnGo p e below _ (T108.setTop (mkF m 29 #[.val (.ref a1), .val (.int p2), .val (.int (536870912 : Int32))] [(.int p2)]))
                                                      refine own_go (fun _ k => XS.iloadN X108.here hx rfl (hb hby d_prog_42_method_11_29) rfl k) ?_
                                                      show OwnGo p e below _ (T108.setTop (mkF m 30 #[.val (.ref a1), .val (.int p2), .val (.int (536870912 : Int32))] [(.int (536870912 : Int32)), (.int p2)]))
                                                      refine own_go (fun _ k => XS.bipush X108.here hx rfl (hb hby d_prog_42_method_11_30) k) ?_
                                                      show OwnGo p e below _ (T108.setTop (mkF m 32 #[.val (.ref a1), .val (.int p2), .val (.int (536870912 : Int32))] [(.int (8 : Int32)), (.int (536870912 : Int32)), (.int p2)]))
                                                      refine own_go (fun _ k => XS.idiv X108.here hx rfl (hb hby d_prog_42_method_11_32) rfl (by decide) k) ?_
                                                      show OwnGo p e below _ (T108.setTop (mkF m 33 #[.val (.ref a1), .val (.int p2), .val (.int (536870912 : Int32))] [(.int ((536870912 : Int32) / (8 : Int32))), (.int p2)]))
                                                      rw [show ((536870912 : Int32) / (8 : Int32)) = (67108864 : Int32) from by decide]
                                                      show OwnGo p e below _ (T108.setTop (mkF m 33 #[.val (.ref a1), .val (.int p2), .val (.int (536870912 : Int32))] [(.int (67108864 : Int32)), (.int p2)]))
                                                      refine own_go (fun _ k => XS.icmpYes X108.here hx rfl (pc0 := 33) (pc' := 49) rfl (hb hby d_prog_42_method_11_33) rfl (tlt (Int32.lt_trans (by decide) hc134)).2.2.1 (by decide) (by decide) k) ?_
                                                      show OwnGo p e below _ (T108.setTop (mkF m 49 #[.val (.ref a1), .val (.int p2), .val (.int (536870912 : Int32))] []))
                                                      refine own_go (fun _ k => XS.iloadN X108.here hx rfl (hb hby d_prog_42_method_11_49) rfl k) ?_
                                                      show OwnGo p e below _ (T108.setTop (mkF m 50 #[.val (.ref a1), .val (.int p2), .val (.int (536870912 : Int32))] [(.int (536870912 : Int32))]))
                                                      obtain ⟨fs, hr, hrun, hended, hW, hsame⟩ := X108.leave (v := some (.int (536870912 : Int32))) (fun h => by rw [Bd.returns] at h; cases h)
                                                      refine ⟨_, _, retOut X108 hx Bd.returns rfl (Or.inl ⟨rfl, Or.inl rfl, _, rfl⟩) (hb hby d_prog_42_method_11_50) hr, hrun, hended, _, _, rfl, ?_, ⟨_, rfl⟩, hW, hsame.mono (by decide) (by decide)⟩
                                                      show Q_bf Z aNONE aEXPIRING_KEYS aALL_KEYS a1 p2 a2 k2 r0 h0 n0 _ T108.heap _
                                                      rw [e108]
                                                      exact ⟨(by rw [← hr0]; simp only [own_bf, hc110, hc111, hc112, hc113, hc114, hc115, hc116, hc117, hc118, hc119, hc120, hc121, hc122, hc123, hc124, hc125, hc126, hc127, hc128, hc129, hc130, hc131, hc132, hc133, hc134, hc135, if_true, if_false]), N0, rfl⟩
                                                  · refine own_go (fun _ k => XS.icmpYes X108.here hx rfl (pc0 := 12) (pc' := 28) rfl (hb hby d_prog_42_method_11_12) rfl (flt hc134).2.2.2 (by decide) (by decide) k) ?_
                                                    show OwnGo p e below _ (T108.setTop (mkF m 28 #[.val (.ref a1), .val (.int p2), .val (.int (268435456 : Int32))] []))
                                                    refine own_go (fun _ k => XS.iloadN X108.here hx rfl (hb hby d_prog_42_method_11_28) rfl k) ?_
                                                    show OwnGo p e below _ (T108.setTop (mkF m 29 #[.val (.ref a1), .val (.int p2), .val (.int (268435456 : Int32))] [(.int p2)]))
                                                    refine own_go (fun _ k => XS.iloadN X108.here hx rfl (hb hby d_prog_42_method_11_29) rfl k) ?_
                                                    show OwnGo p e below _ (T108.setTop (mkF m 30 #[.val (.ref a1), .val (.int p2), .val (.int (268435456 : Int32))] [(.int (268435456 : Int32)), (.int p2)]))
                                                    refine own_go (fun _ k => XS.bipush X108.here hx rfl (hb hby d_prog_42_method_11_30) k) ?_
                                                    show OwnGo p e below _ (T108.setTop (mkF m 32 #[.val (.ref a1), .val (.int p2), .val (.int (268435456 : Int32))] [(.int (8 : Int32)), (.int (268435456 : Int32)), (.int p2)]))
                                                    refine own_go (fun _ k => XS.idiv X108.here hx rfl (hb hby d_prog_42_method_11_32) rfl (by decide) k) ?_
                                                    show OwnGo p e below _ (T108.setTop (mkF m 33 #[.val (.ref a1), .val (.int p2), .val (.int (268435456 : Int32))] [(.int ((268435456 : Int32) / (8 : Int32))), (.int p2)]))
                                                    rw [show ((268435456 : Int32) / (8 : Int32)) = (33554432 : Int32) from by decide]
                                                    show OwnGo p e below _ (T108.setTop (mkF m 33 #[.val (.ref a1), .val (.int p2), .val (.int (268435456 : Int32))] [(.int (33554432 : Int32)), (.int p2)]))
                                                    refine own_go (fun _ k => XS.icmpYes X108.here hx rfl (pc0 := 33) (pc' := 49) rfl (hb hby d_prog_42_method_11_33) rfl (tlt (Int32.lt_trans (by decide) hc133)).2.2.1 (by decide) (by decide) k) ?_
                                                    show OwnGo p e below _ (T108.setTop (mkF m 49 #[.val (.ref a1), .val (.int p2), .val (.int (268435456 : Int32))] []))
                                                    refine own_go (fun _ k => XS.iloadN X108.here hx rfl (hb hby d_prog_42_method_11_49) rfl k) ?_
                                                    show OwnGo p e below _ (T108.setTop (mkF m 50 #[.val (.ref a1), .val (.int p2), .val (.int (268435456 : Int32))] [(.int (268435456 : Int32))]))
                                                    obtain ⟨fs, hr, hrun, hended, hW, hsame⟩ := X108.leave (v := some (.int (268435456 : Int32))) (fun h => by rw [Bd.returns] at h; cases h)
                                                    refine ⟨_, _, retOut X108 hx Bd.returns rfl (Or.inl ⟨rfl, Or.inl rfl, _, rfl⟩) (hb hby d_prog_42_method_11_50) hr, hrun, hended, _, _, rfl, ?_, ⟨_, rfl⟩, hW, hsame.mono (by decide) (by decide)⟩
                                                    show Q_bf Z aNONE aEXPIRING_KEYS aALL_KEYS a1 p2 a2 k2 r0 h0 n0 _ T108.heap _
                                                    rw [e108]
                                                    exact ⟨(by rw [← hr0]; simp only [own_bf, hc110, hc111, hc112, hc113, hc114, hc115, hc116, hc117, hc118, hc119, hc120, hc121, hc122, hc123, hc124, hc125, hc126, hc127, hc128, hc129, hc130, hc131, hc132, hc133, hc134, if_true, if_false]), N0, rfl⟩
                                                · refine own_go (fun _ k => XS.icmpYes X108.here hx rfl (pc0 := 12) (pc' := 28) rfl (hb hby d_prog_42_method_11_12) rfl (flt hc133).2.2.2 (by decide) (by decide) k) ?_
                                                  show OwnGo p e below _ (T108.setTop (mkF m 28 #[.val (.ref a1), .val (.int p2), .val (.int (134217728 : Int32))] []))
                                                  refine own_go (fun _ k => XS.iloadN X108.here hx rfl (hb hby d_prog_42_method_11_28) rfl k) ?_
                                                  show OwnGo p e below _ (T108.setTop (mkF m 29 #[.val (.ref a1), .val (.int p2), .val (.int (134217728 : Int32))] [(.int p2)]))
                                                  refine own_go (fun _ k => XS.iloadN X108.here hx rfl (hb hby d_prog_42_method_11_29) rfl k) ?_
                                                  show OwnGo p e below _ (T108.setTop (mkF m 30 #[.val (.ref a1), .val (.int p2), .val (.int (134217728 : Int32))] [(.int (134217728 : Int32)), (.int p2)]))
                                                  refine own_go (fun _ k => XS.bipush X108.here hx rfl (hb hby d_prog_42_method_11_30) k) ?_
                                                  show OwnGo p e below _ (T108.setTop (mkF m 32 #[.val (.ref a1), .val (.int p2), .val (.int (134217728 : Int32))] [(.int (8 : Int32)), (.int (134217728 : Int32)), (.int p2)]))
                                                  refine own_go (fun _ k => XS.idiv X108.here hx rfl (hb hby d_prog_42_method_11_32) rfl (by decide) k) ?_
                                                  show OwnGo p e below _ (T108.setTop (mkF m 33 #[.val (.ref a1), .val (.int p2), .val (.int (134217728 : Int32))] [(.int ((134217728 : Int32) / (8 : Int32))), (.int p2)]))
                                                  rw [show ((134217728 : Int32) / (8 : Int32)) = (16777216 : Int32) from by decide]
                                                  show OwnGo p e below _ (T108.setTop (mkF m 33 #[.val (.ref a1), .val (.int p2), .val (.int (134217728 : Int32))] [(.int (16777216 : Int32)), (.int p2)]))
                                                  refine own_go (fun _ k => XS.icmpYes X108.here hx rfl (pc0 := 33) (pc' := 49) rfl (hb hby d_prog_42_method_11_33) rfl (tlt (Int32.lt_trans (by decide) hc132)).2.2.1 (by decide) (by decide) k) ?_
                                                  show OwnGo p e below _ (T108.setTop (mkF m 49 #[.val (.ref a1), .val (.int p2), .val (.int (134217728 : Int32))] []))
                                                  refine own_go (fun _ k => XS.iloadN X108.here hx rfl (hb hby d_prog_42_method_11_49) rfl k) ?_
                                                  show OwnGo p e below _ (T108.setTop (mkF m 50 #[.val (.ref a1), .val (.int p2), .val (.int (134217728 : Int32))] [(.int (134217728 : Int32))]))
                                                  obtain ⟨fs, hr, hrun, hended, hW, hsame⟩ := X108.leave (v := some (.int (134217728 : Int32))) (fun h => by rw [Bd.returns] at h; cases h)
                                                  refine ⟨_, _, retOut X108 hx Bd.returns rfl (Or.inl ⟨rfl, Or.inl rfl, _, rfl⟩) (hb hby d_prog_42_method_11_50) hr, hrun, hended, _, _, rfl, ?_, ⟨_, rfl⟩, hW, hsame.mono (by decide) (by decide)⟩
                                                  show Q_bf Z aNONE aEXPIRING_KEYS aALL_KEYS a1 p2 a2 k2 r0 h0 n0 _ T108.heap _
                                                  rw [e108]
                                                  exact ⟨(by rw [← hr0]; simp only [own_bf, hc110, hc111, hc112, hc113, hc114, hc115, hc116, hc117, hc118, hc119, hc120, hc121, hc122, hc123, hc124, hc125, hc126, hc127, hc128, hc129, hc130, hc131, hc132, hc133, if_true, if_false]), N0, rfl⟩
                                              · refine own_go (fun _ k => XS.icmpYes X108.here hx rfl (pc0 := 12) (pc' := 28) rfl (hb hby d_prog_42_method_11_12) rfl (flt hc132).2.2.2 (by decide) (by decide) k) ?_
                                                show OwnGo p e below _ (T108.setTop (mkF m 28 #[.val (.ref a1), .val (.int p2), .val (.int (67108864 : Int32))] []))
                                                refine own_go (fun _ k => XS.iloadN X108.here hx rfl (hb hby d_prog_42_method_11_28) rfl k) ?_
                                                show OwnGo p e below _ (T108.setTop (mkF m 29 #[.val (.ref a1), .val (.int p2), .val (.int (67108864 : Int32))] [(.int p2)]))
                                                refine own_go (fun _ k => XS.iloadN X108.here hx rfl (hb hby d_prog_42_method_11_29) rfl k) ?_
                                                show OwnGo p e below _ (T108.setTop (mkF m 30 #[.val (.ref a1), .val (.int p2), .val (.int (67108864 : Int32))] [(.int (67108864 : Int32)), (.int p2)]))
                                                refine own_go (fun _ k => XS.bipush X108.here hx rfl (hb hby d_prog_42_method_11_30) k) ?_
                                                show OwnGo p e below _ (T108.setTop (mkF m 32 #[.val (.ref a1), .val (.int p2), .val (.int (67108864 : Int32))] [(.int (8 : Int32)), (.int (67108864 : Int32)), (.int p2)]))
                                                refine own_go (fun _ k => XS.idiv X108.here hx rfl (hb hby d_prog_42_method_11_32) rfl (by decide) k) ?_
                                                show OwnGo p e below _ (T108.setTop (mkF m 33 #[.val (.ref a1), .val (.int p2), .val (.int (67108864 : Int32))] [(.int ((67108864 : Int32) / (8 : Int32))), (.int p2)]))
                                                rw [show ((67108864 : Int32) / (8 : Int32)) = (8388608 : Int32) from by decide]
                                                show OwnGo p e below _ (T108.setTop (mkF m 33 #[.val (.ref a1), .val (.int p2), .val (.int (67108864 : Int32))] [(.int (8388608 : Int32)), (.int p2)]))
                                                refine own_go (fun _ k => XS.icmpYes X108.here hx rfl (pc0 := 33) (pc' := 49) rfl (hb hby d_prog_42_method_11_33) rfl (tlt (Int32.lt_trans (by decide) hc131)).2.2.1 (by decide) (by decide) k) ?_
                                                show OwnGo p e below _ (T108.setTop (mkF m 49 #[.val (.ref a1), .val (.int p2), .val (.int (67108864 : Int32))] []))
                                                refine own_go (fun _ k => XS.iloadN X108.here hx rfl (hb hby d_prog_42_method_11_49) rfl k) ?_
                                                show OwnGo p e below _ (T108.setTop (mkF m 50 #[.val (.ref a1), .val (.int p2), .val (.int (67108864 : Int32))] [(.int (67108864 : Int32))]))
                                                obtain ⟨fs, hr, hrun, hended, hW, hsame⟩ := X108.leave (v := some (.int (67108864 : Int32))) (fun h => by rw [Bd.returns] at h; cases h)
                                                refine ⟨_, _, retOut X108 hx Bd.returns rfl (Or.inl ⟨rfl, Or.inl rfl, _, rfl⟩) (hb hby d_prog_42_method_11_50) hr, hrun, hended, _, _, rfl, ?_, ⟨_, rfl⟩, hW, hsame.mono (by decide) (by decide)⟩
                                                show Q_bf Z aNONE aEXPIRING_KEYS aALL_KEYS a1 p2 a2 k2 r0 h0 n0 _ T108.heap _
                                                rw [e108]
                                                exact ⟨(by rw [← hr0]; simp only [own_bf, hc110, hc111, hc112, hc113, hc114, hc115, hc116, hc117, hc118, hc119, hc120, hc121, hc122, hc123, hc124, hc125, hc126, hc127, hc128, hc129, hc130, hc131, hc132, if_true, if_false]), N0, rfl⟩
                                            · refine own_go (fun _ k => XS.icmpYes X108.here hx rfl (pc0 := 12) (pc' := 28) rfl (hb hby d_prog_42_method_11_12) rfl (flt hc131).2.2.2 (by decide) (by decide) k) ?_
                                              show OwnGo p e below _ (T108.setTop (mkF m 28 #[.val (.ref a1), .val (.int p2), .val (.int (33554432 : Int32))] []))
                                              refine own_go (fun _ k => XS.iloadN X108.here hx rfl (hb hby d_prog_42_method_11_28) rfl k) ?_
                                              show OwnGo p e below _ (T108.setTop (mkF m 29 #[.val (.ref a1), .val (.int p2), .val (.int (33554432 : Int32))] [(.int p2)]))
                                              refine own_go (fun _ k => XS.iloadN X108.here hx rfl (hb hby d_prog_42_method_11_29) rfl k) ?_
                                              show OwnGo p e below _ (T108.setTop (mkF m 30 #[.val (.ref a1), .val (.int p2), .val (.int (33554432 : Int32))] [(.int (33554432 : Int32)), (.int p2)]))
                                              refine own_go (fun _ k => XS.bipush X108.here hx rfl (hb hby d_prog_42_method_11_30) k) ?_
                                              show OwnGo p e below _ (T108.setTop (mkF m 32 #[.val (.ref a1), .val (.int p2), .val (.int (33554432 : Int32))] [(.int (8 : Int32)), (.int (33554432 : Int32)), (.int p2)]))
                                              refine own_go (fun _ k => XS.idiv X108.here hx rfl (hb hby d_prog_42_method_11_32) rfl (by decide) k) ?_
                                              show OwnGo p e below _ (T108.setTop (mkF m 33 #[.val (.ref a1), .val (.int p2), .val (.int (33554432 : Int32))] [(.int ((33554432 : Int32) / (8 : Int32))), (.int p2)]))
                                              rw [show ((33554432 : Int32) / (8 : Int32)) = (4194304 : Int32) from by decide]
                                              show OwnGo p e below _ (T108.setTop (mkF m 33 #[.val (.ref a1), .val (.int p2), .val (.int (33554432 : Int32))] [(.int (4194304 : Int32)), (.int p2)]))
                                              refine own_go (fun _ k => XS.icmpYes X108.here hx rfl (pc0 := 33) (pc' := 49) rfl (hb hby d_prog_42_method_11_33) rfl (tlt (Int32.lt_trans (by decide) hc130)).2.2.1 (by decide) (by decide) k) ?_
                                              show OwnGo p e below _ (T108.setTop (mkF m 49 #[.val (.ref a1), .val (.int p2), .val (.int (33554432 : Int32))] []))
                                              refine own_go (fun _ k => XS.iloadN X108.here hx rfl (hb hby d_prog_42_method_11_49) rfl k) ?_
                                              show OwnGo p e below _ (T108.setTop (mkF m 50 #[.val (.ref a1), .val (.int p2), .val (.int (33554432 : Int32))] [(.int (33554432 : Int32))]))
                                              obtain ⟨fs, hr, hrun, hended, hW, hsame⟩ := X108.leave (v := some (.int (33554432 : Int32))) (fun h => by rw [Bd.returns] at h; cases h)
                                              refine ⟨_, _, retOut X108 hx Bd.returns rfl (Or.inl ⟨rfl, Or.inl rfl, _, rfl⟩) (hb hby d_prog_42_method_11_50) hr, hrun, hended, _, _, rfl, ?_, ⟨_, rfl⟩, hW, hsame.mono (by decide) (by decide)⟩
                                              show Q_bf Z aNONE aEXPIRING_KEYS aALL_KEYS a1 p2 a2 k2 r0 h0 n0 _ T108.heap _
                                              rw [e108]
                                              exact ⟨(by rw [← hr0]; simp only [own_bf, hc110, hc111, hc112, hc113, hc114, hc115, hc116, hc117, hc118, hc119, hc120, hc121, hc122, hc123, hc124, hc125, hc126, hc127, hc128, hc129, hc130, hc131, if_true, if_false]), N0, rfl⟩
                                          · refine own_go (fun _ k => XS.icmpYes X108.here hx rfl (pc0 := 12) (pc' := 28) rfl (hb hby d_prog_42_method_11_12) rfl (flt hc130).2.2.2 (by decide) (by decide) k) ?_
                                            show OwnGo p e below _ (T108.setTop (mkF m 28 #[.val (.ref a1), .val (.int p2), .val (.int (16777216 : Int32))] []))
                                            refine own_go (fun _ k => XS.iloadN X108.here hx rfl (hb hby d_prog_42_method_11_28) rfl k) ?_
                                            show OwnGo p e below _ (T108.setTop (mkF m 29 #[.val (.ref a1), .val (.int p2), .val (.int (16777216 : Int32))] [(.int p2)]))
                                            refine own_go (fun _ k => XS.iloadN X108.here hx rfl (hb hby d_prog_42_method_11_29) rfl k) ?_
                                            show OwnGo p e below _ (T108.setTop (mkF m 30 #[.val (.ref a1), .val (.int p2), .val (.int (16777216 : Int32))] [(.int (16777216 : Int32)), (.int p2)]))
                                            refine own_go (fun _ k => XS.bipush X108.here hx rfl (hb hby d_prog_42_method_11_30) k) ?_
                                            show OwnGo p e below _ (T108.setTop (mkF m 32 #[.val (.ref a1), .val (.int p2), .val (.int (16777216 : Int32))] [(.int (8 : Int32)), (.int (16777216 : Int32)), (.int p2)]))
                                            refine own_go (fun _ k => XS.idiv X108.here hx rfl (hb hby d_prog_42_method_11_32) rfl (by decide) k) ?_
                                            show OwnGo p e below _ (T108.setTop (mkF m 33 #[.val (.ref a1), .val (.int p2), .val (.int (16777216 : Int32))] [(.int ((16777216 : Int32) / (8 : Int32))), (.int p2)]))
                                            rw [show ((16777216 : Int32) / (8 : Int32)) = (2097152 : Int32) from by decide]
                                            show OwnGo p e below _ (T108.setTop (mkF m 33 #[.val (.ref a1), .val (.int p2), .val (.int (16777216 : Int32))] [(.int (2097152 : Int32)), (.int p2)]))
                                            refine own_go (fun _ k => XS.icmpYes X108.here hx rfl (pc0 := 33) (pc' := 49) rfl (hb hby d_prog_42_method_11_33) rfl (tlt (Int32.lt_trans (by decide) hc129)).2.2.1 (by decide) (by decide) k) ?_
                                            show OwnGo p e below _ (T108.setTop (mkF m 49 #[.val (.ref a1), .val (.int p2), .val (.int (16777216 : Int32))] []))
                                            refine own_go (fun _ k => XS.iloadN X108.here hx rfl (hb hby d_prog_42_method_11_49) rfl k) ?_
                                            show OwnGo p e below _ (T108.setTop (mkF m 50 #[.val (.ref a1), .val (.int p2), .val (.int (16777216 : Int32))] [(.int (16777216 : Int32))]))
                                            obtain ⟨fs, hr, hrun, hended, hW, hsame⟩ := X108.leave (v := some (.int (16777216 : Int32))) (fun h => by rw [Bd.returns] at h; cases h)
                                            refine ⟨_, _, retOut X108 hx Bd.returns rfl (Or.inl ⟨rfl, Or.inl rfl, _, rfl⟩) (hb hby d_prog_42_method_11_50) hr, hrun, hended, _, _, rfl, ?_, ⟨_, rfl⟩, hW, hsame.mono (by decide) (by decide)⟩
                                            show Q_bf Z aNONE aEXPIRING_KEYS aALL_KEYS a1 p2 a2 k2 r0 h0 n0 _ T108.heap _
                                            rw [e108]
                                            exact ⟨(by rw [← hr0]; simp only [own_bf, hc110, hc111, hc112, hc113, hc114, hc115, hc116, hc117, hc118, hc119, hc120, hc121, hc122, hc123, hc124, hc125, hc126, hc127, hc128, hc129, hc130, if_true, if_false]), N0, rfl⟩
                                        · refine own_go (fun _ k => XS.icmpYes X108.here hx rfl (pc0 := 12) (pc' := 28) rfl (hb hby d_prog_42_method_11_12) rfl (flt hc129).2.2.2 (by decide) (by decide) k) ?_
                                          show OwnGo p e below _ (T108.setTop (mkF m 28 #[.val (.ref a1), .val (.int p2), .val (.int (8388608 : Int32))] []))
                                          refine own_go (fun _ k => XS.iloadN X108.here hx rfl (hb hby d_prog_42_method_11_28) rfl k) ?_
                                          show OwnGo p e below _ (T108.setTop (mkF m 29 #[.val (.ref a1), .val (.int p2), .val (.int (8388608 : Int32))] [(.int p2)]))
                                          refine own_go (fun _ k => XS.iloadN X108.here hx rfl (hb hby d_prog_42_method_11_29) rfl k) ?_
                                          show OwnGo p e below _ (T108.setTop (mkF m 30 #[.val (.ref a1), .val (.int p2), .val (.int (8388608 : Int32))] [(.int (8388608 : Int32)), (.int p2)]))
                                          refine own_go (fun _ k => XS.bipush X108.here hx rfl (hb hby d_prog_42_method_11_30) k) ?_
                                          show OwnGo p e below _ (T108.setTop (mkF m 32 #[.val (.ref a1), .val (.int p2), .val (.int (8388608 : Int32))] [(.int (8 : Int32)), (.int (8388608 : Int32)), (.int p2)]))
                                          refine own_go (fun _ k => XS.idiv X108.here hx rfl (hb hby d_prog_42_method_11_32) rfl (by decide) k) ?_
                                          show OwnGo p e below _ (T108.setTop (mkF m 33 #[.val (.ref a1), .val (.int p2), .val (.int (8388608 : Int32))] [(.int ((8388608 : Int32) / (8 : Int32))), (.int p2)]))
                                          rw [show ((8388608 : Int32) / (8 : Int32)) = (1048576 : Int32) from by decide]
                                          show OwnGo p e below _ (T108.setTop (mkF m 33 #[.val (.ref a1), .val (.int p2), .val (.int (8388608 : Int32))] [(.int (1048576 : Int32)), (.int p2)]))
                                          refine own_go (fun _ k => XS.icmpYes X108.here hx rfl (pc0 := 33) (pc' := 49) rfl (hb hby d_prog_42_method_11_33) rfl (tlt (Int32.lt_trans (by decide) hc128)).2.2.1 (by decide) (by decide) k) ?_
                                          show OwnGo p e below _ (T108.setTop (mkF m 49 #[.val (.ref a1), .val (.int p2), .val (.int (8388608 : Int32))] []))
                                          refine own_go (fun _ k => XS.iloadN X108.here hx rfl (hb hby d_prog_42_method_11_49) rfl k) ?_
                                          show OwnGo p e below _ (T108.setTop (mkF m 50 #[.val (.ref a1), .val (.int p2), .val (.int (8388608 : Int32))] [(.int (8388608 : Int32))]))
                                          obtain ⟨fs, hr, hrun, hended, hW, hsame⟩ := X108.leave (v := some (.int (8388608 : Int32))) (fun h => by rw [Bd.returns] at h; cases h)
                                          refine ⟨_, _, retOut X108 hx Bd.returns rfl (Or.inl ⟨rfl, Or.inl rfl, _, rfl⟩) (hb hby d_prog_42_method_11_50) hr, hrun, hended, _, _, rfl, ?_, ⟨_, rfl⟩, hW, hsame.mono (by decide) (by decide)⟩
                                          show Q_bf Z aNONE aEXPIRING_KEYS aALL_KEYS a1 p2 a2 k2 r0 h0 n0 _ T108.heap _
                                          rw [e108]
                                          exact ⟨(by rw [← hr0]; simp only [own_bf, hc110, hc111, hc112, hc113, hc114, hc115, hc116, hc117, hc118, hc119, hc120, hc121, hc122, hc123, hc124, hc125, hc126, hc127, hc128, hc129, if_true, if_false]), N0, rfl⟩
                                      · refine own_go (fun _ k => XS.icmpYes X108.here hx rfl (pc0 := 12) (pc' := 28) rfl (hb hby d_prog_42_method_11_12) rfl (flt hc128).2.2.2 (by decide) (by decide) k) ?_
                                        show OwnGo p e below _ (T108.setTop (mkF m 28 #[.val (.ref a1), .val (.int p2), .val (.int (4194304 : Int32))] []))
                                        refine own_go (fun _ k => XS.iloadN X108.here hx rfl (hb hby d_prog_42_method_11_28) rfl k) ?_
                                        show OwnGo p e below _ (T108.setTop (mkF m 29 #[.val (.ref a1), .val (.int p2), .val (.int (4194304 : Int32))] [(.int p2)]))
                                        refine own_go (fun _ k => XS.iloadN X108.here hx rfl (hb hby d_prog_42_method_11_29) rfl k) ?_
                                        show OwnGo p e below _ (T108.setTop (mkF m 30 #[.val (.ref a1), .val (.int p2), .val (.int (4194304 : Int32))] [(.int (4194304 : Int32)), (.int p2)]))
                                        refine own_go (fun _ k => XS.bipush X108.here hx rfl (hb hby d_prog_42_method_11_30) k) ?_
                                        show OwnGo p e below _ (T108.setTop (mkF m 32 #[.val (.ref a1), .val (.int p2), .val (.int (4194304 : Int32))] [(.int (8 : Int32)), (.int (4194304 : Int32)), (.int p2)]))
                                        refine own_go (fun _ k => XS.idiv X108.here hx rfl (hb hby d_prog_42_method_11_32) rfl (by decide) k) ?_
                                        show OwnGo p e below _ (T108.setTop (mkF m 33 #[.val (.ref a1), .val (.int p2), .val (.int (4194304 : Int32))] [(.int ((4194304 : Int32) / (8 : Int32))), (.int p2)]))
                                        rw [show ((4194304 : Int32) / (8 : Int32)) = (524288 : Int32) from by decide]
                                        show OwnGo p e below _ (T108.setTop (mkF m 33 #[.val (.ref a1), .val (.int p2), .val (.int (4194304 : Int32))] [(.int (524288 : Int32)), (.int p2)]))
                                        refine own_go (fun _ k => XS.icmpYes X108.here hx rfl (pc0 := 33) (pc' := 49) rfl (hb hby d_prog_42_method_11_33) rfl (tlt (Int32.lt_trans (by decide) hc127)).2.2.1 (by decide) (by decide) k) ?_
                                        show OwnGo p e below _ (T108.setTop (mkF m 49 #[.val (.ref a1), .val (.int p2), .val (.int (4194304 : Int32))] []))
                                        refine own_go (fun _ k => XS.iloadN X108.here hx rfl (hb hby d_prog_42_method_11_49) rfl k) ?_
                                        show OwnGo p e below _ (T108.setTop (mkF m 50 #[.val (.ref a1), .val (.int p2), .val (.int (4194304 : Int32))] [(.int (4194304 : Int32))]))
                                        obtain ⟨fs, hr, hrun, hended, hW, hsame⟩ := X108.leave (v := some (.int (4194304 : Int32))) (fun h => by rw [Bd.returns] at h; cases h)
                                        refine ⟨_, _, retOut X108 hx Bd.returns rfl (Or.inl ⟨rfl, Or.inl rfl, _, rfl⟩) (hb hby d_prog_42_method_11_50) hr, hrun, hended, _, _, rfl, ?_, ⟨_, rfl⟩, hW, hsame.mono (by decide) (by decide)⟩
                                        show Q_bf Z aNONE aEXPIRING_KEYS aALL_KEYS a1 p2 a2 k2 r0 h0 n0 _ T108.heap _
                                        rw [e108]
                                        exact ⟨(by rw [← hr0]; simp only [own_bf, hc110, hc111, hc112, hc113, hc114, hc115, hc116, hc117, hc118, hc119, hc120, hc121, hc122, hc123, hc124, hc125, hc126, hc127, hc128, if_true, if_false]), N0, rfl⟩
                                    · refine own_go (fun _ k => XS.icmpYes X108.here hx rfl (pc0 := 12) (pc' := 28) rfl (hb hby d_prog_42_method_11_12) rfl (flt hc127).2.2.2 (by decide) (by decide) k) ?_
                                      show OwnGo p e below _ (T108.setTop (mkF m 28 #[.val (.ref a1), .val (.int p2), .val (.int (2097152 : Int32))] []))
                                      refine own_go (fun _ k => XS.iloadN X108.here hx rfl (hb hby d_prog_42_method_11_28) rfl k) ?_
                                      show OwnGo p e below _ (T108.setTop (mkF m 29 #[.val (.ref a1), .val (.int p2), .val (.int (2097152 : Int32))] [(.int p2)]))
                                      refine own_go (fun _ k => XS.iloadN X108.here hx rfl (hb hby d_prog_42_method_11_29) rfl k) ?_
                                      show OwnGo p e below _ (T108.setTop (mkF m 30 #[.val (.ref a1), .val (.int p2), .val (.int (2097152 : Int32))] [(.int (2097152 : Int32)), (.int p2)]))
                                      refine own_go (fun _ k => XS.bipush X108.here hx rfl (hb hby d_prog_42_method_11_30) k) ?_
                                      show OwnGo p e below _ (T108.setTop (mkF m 32 #[.val (.ref a1), .val (.int p2), .val (.int (2097152 : Int32))] [(.int (8 : Int32)), (.int (2097152 : Int32)), (.int p2)]))
                                      refine own_go (fun _ k => XS.idiv X108.here hx rfl (hb hby d_prog_42_method_11_32) rfl (by decide) k) ?_
                                      show OwnGo p e below _ (T108.setTop (mkF m 33 #[.val (.ref a1), .val (.int p2), .val (.int (2097152 : Int32))] [(.int ((2097152 : Int32) / (8 : Int32))), (.int p2)]))
                                      rw [show ((2097152 : Int32) / (8 : Int32)) = (262144 : Int32) from by decide]
                                      show OwnGo p e below _ (T108.setTop (mkF m 33 #[.val (.ref a1), .val (.int p2), .val (.int (2097152 : Int32))] [(.int (262144 : Int32)), (.int p2)]))
                                      refine own_go (fun _ k => XS.icmpYes X108.here hx rfl (pc0 := 33) (pc' := 49) rfl (hb hby d_prog_42_method_11_33) rfl (tlt (Int32.lt_trans (by decide) hc126)).2.2.1 (by decide) (by decide) k) ?_
                                      show OwnGo p e below _ (T108.setTop (mkF m 49 #[.val (.ref a1), .val (.int p2), .val (.int (2097152 : Int32))] []))
                                      refine own_go (fun _ k => XS.iloadN X108.here hx rfl (hb hby d_prog_42_method_11_49) rfl k) ?_
                                      show OwnGo p e below _ (T108.setTop (mkF m 50 #[.val (.ref a1), .val (.int p2), .val (.int (2097152 : Int32))] [(.int (2097152 : Int32))]))
                                      obtain ⟨fs, hr, hrun, hended, hW, hsame⟩ := X108.leave (v := some (.int (2097152 : Int32))) (fun h => by rw [Bd.returns] at h; cases h)
                                      refine ⟨_, _, retOut X108 hx Bd.returns rfl (Or.inl ⟨rfl, Or.inl rfl, _, rfl⟩) (hb hby d_prog_42_method_11_50) hr, hrun, hended, _, _, rfl, ?_, ⟨_, rfl⟩, hW, hsame.mono (by decide) (by decide)⟩
                                      show Q_bf Z aNONE aEXPIRING_KEYS aALL_KEYS a1 p2 a2 k2 r0 h0 n0 _ T108.heap _
                                      rw [e108]
                                      exact ⟨(by rw [← hr0]; simp only [own_bf, hc110, hc111, hc112, hc113, hc114, hc115, hc116, hc117, hc118, hc119, hc120, hc121, hc122, hc123, hc124, hc125, hc126, hc127, if_true, if_false]), N0, rfl⟩
                                  · refine own_go (fun _ k => XS.icmpYes X108.here hx rfl (pc0 := 12) (pc' := 28) rfl (hb hby d_prog_42_method_11_12) rfl (flt hc126).2.2.2 (by decide) (by decide) k) ?_
                                    show OwnGo p e below _ (T108.setTop (mkF m 28 #[.val (.ref a1), .val (.int p2), .val (.int (1048576 : Int32))] []))
                                    refine own_go (fun _ k => XS.iloadN X108.here hx rfl (hb hby d_prog_42_method_11_28) rfl k) ?_
                                    show OwnGo p e below _ (T108.setTop (mkF m 29 #[.val (.ref a1), .val (.int p2), .val (.int (1048576 : Int32))] [(.int p2)]))
                                    refine own_go (fun _ k => XS.iloadN X108.here hx rfl (hb hby d_prog_42_method_11_29) rfl k) ?_
                                    show OwnGo p e below _ (T108.setTop (mkF m 30 #[.val (.ref a1), .val (.int p2), .val (.int (1048576 : Int32))] [(.int (1048576 : Int32)), (.int p2)]))
                                    refine own_go (fun _ k => XS.bipush X108.here hx rfl (hb hby d_prog_42_method_11_30) k) ?_
                                    show OwnGo p e below _ (T108.setTop (mkF m 32 #[.val (.ref a1), .val (.int p2), .val (.int (1048576 : Int32))] [(.int (8 : Int32)), (.int (1048576 : Int32)), (.int p2)]))
                                    refine own_go (fun _ k => XS.idiv X108.here hx rfl (hb hby d_prog_42_method_11_32) rfl (by decide) k) ?_
                                    show OwnGo p e below _ (T108.setTop (mkF m 33 #[.val (.ref a1), .val (.int p2), .val (.int (1048576 : Int32))] [(.int ((1048576 : Int32) / (8 : Int32))), (.int p2)]))
                                    rw [show ((1048576 : Int32) / (8 : Int32)) = (131072 : Int32) from by decide]
                                    show OwnGo p e below _ (T108.setTop (mkF m 33 #[.val (.ref a1), .val (.int p2), .val (.int (1048576 : Int32))] [(.int (131072 : Int32)), (.int p2)]))
                                    refine own_go (fun _ k => XS.icmpYes X108.here hx rfl (pc0 := 33) (pc' := 49) rfl (hb hby d_prog_42_method_11_33) rfl (tlt (Int32.lt_trans (by decide) hc125)).2.2.1 (by decide) (by decide) k) ?_
                                    show OwnGo p e below _ (T108.setTop (mkF m 49 #[.val (.ref a1), .val (.int p2), .val (.int (1048576 : Int32))] []))
                                    refine own_go (fun _ k => XS.iloadN X108.here hx rfl (hb hby d_prog_42_method_11_49) rfl k) ?_
                                    show OwnGo p e below _ (T108.setTop (mkF m 50 #[.val (.ref a1), .val (.int p2), .val (.int (1048576 : Int32))] [(.int (1048576 : Int32))]))
                                    obtain ⟨fs, hr, hrun, hended, hW, hsame⟩ := X108.leave (v := some (.int (1048576 : Int32))) (fun h => by rw [Bd.returns] at h; cases h)
                                    refine ⟨_, _, retOut X108 hx Bd.returns rfl (Or.inl ⟨rfl, Or.inl rfl, _, rfl⟩) (hb hby d_prog_42_method_11_50) hr, hrun, hended, _, _, rfl, ?_, ⟨_, rfl⟩, hW, hsame.mono (by decide) (by decide)⟩
                                    show Q_bf Z aNONE aEXPIRING_KEYS aALL_KEYS a1 p2 a2 k2 r0 h0 n0 _ T108.heap _
                                    rw [e108]
                                    exact ⟨(by rw [← hr0]; simp only [own_bf, hc110, hc111, hc112, hc113, hc114, hc115, hc116, hc117, hc118, hc119, hc120, hc121, hc122, hc123, hc124, hc125, hc126, if_true, if_false]), N0, rfl⟩
                                · refine own_go (fun _ k => XS.icmpYes X108.here hx rfl (pc0 := 12) (pc' := 28) rfl (hb hby d_prog_42_method_11_12) rfl (flt hc125).2.2.2 (by decide) (by decide) k) ?_
                                  show OwnGo p e below _ (T108.setTop (mkF m 28 #[.val (.ref a1), .val (.int p2), .val (.int (524288 : Int32))] []))
                                  refine own_go (fun _ k => XS.iloadN X108.here hx rfl (hb hby d_prog_42_method_11_28) rfl k) ?_
                                  show OwnGo p e below _ (T108.setTop (mkF m 29 #[.val (.ref a1), .val (.int p2), .val (.int (524288 : Int32))] [(.int p2)]))
                                  refine own_go (fun _ k => XS.iloadN X108.here hx rfl (hb hby d_prog_42_method_11_29) rfl k) ?_
                                  show OwnGo p e below _ (T108.setTop (mkF m 30 #[.val (.ref a1), .val (.int p2), .val (.int (524288 : Int32))] [(.int (524288 : Int32)), (.int p2)]))
                                  refine own_go (fun _ k => XS.bipush X108.here hx rfl (hb hby d_prog_42_method_11_30) k) ?_
                                  show OwnGo p e below _ (T108.setTop (mkF m 32 #[.val (.ref a1), .val (.int p2), .val (.int (524288 : Int32))] [(.int (8 : Int32)), (.int (524288 : Int32)), (.int p2)]))
                                  refine own_go (fun _ k => XS.idiv X108.here hx rfl (hb hby d_prog_42_method_11_32) rfl (by decide) k) ?_
                                  show OwnGo p e below _ (T108.setTop (mkF m 33 #[.val (.ref a1), .val (.int p2), .val (.int (524288 : Int32))] [(.int ((524288 : Int32) / (8 : Int32))), (.int p2)]))
                                  rw [show ((524288 : Int32) / (8 : Int32)) = (65536 : Int32) from by decide]
                                  show OwnGo p e below _ (T108.setTop (mkF m 33 #[.val (.ref a1), .val (.int p2), .val (.int (524288 : Int32))] [(.int (65536 : Int32)), (.int p2)]))
                                  refine own_go (fun _ k => XS.icmpYes X108.here hx rfl (pc0 := 33) (pc' := 49) rfl (hb hby d_prog_42_method_11_33) rfl (tlt (Int32.lt_trans (by decide) hc124)).2.2.1 (by decide) (by decide) k) ?_
                                  show OwnGo p e below _ (T108.setTop (mkF m 49 #[.val (.ref a1), .val (.int p2), .val (.int (524288 : Int32))] []))
                                  refine own_go (fun _ k => XS.iloadN X108.here hx rfl (hb hby d_prog_42_method_11_49) rfl k) ?_
                                  show OwnGo p e below _ (T108.setTop (mkF m 50 #[.val (.ref a1), .val (.int p2), .val (.int (524288 : Int32))] [(.int (524288 : Int32))]))
                                  obtain ⟨fs, hr, hrun, hended, hW, hsame⟩ := X108.leave (v := some (.int (524288 : Int32))) (fun h => by rw [Bd.returns] at h; cases h)
                                  refine ⟨_, _, retOut X108 hx Bd.returns rfl (Or.inl ⟨rfl, Or.inl rfl, _, rfl⟩) (hb hby d_prog_42_method_11_50) hr, hrun, hended, _, _, rfl, ?_, ⟨_, rfl⟩, hW, hsame.mono (by decide) (by decide)⟩
                                  show Q_bf Z aNONE aEXPIRING_KEYS aALL_KEYS a1 p2 a2 k2 r0 h0 n0 _ T108.heap _
                                  rw [e108]
                                  exact ⟨(by rw [← hr0]; simp only [own_bf, hc110, hc111, hc112, hc113, hc114, hc115, hc116, hc117, hc118, hc119, hc120, hc121, hc122, hc123, hc124, hc125, if_true, if_false]), N0, rfl⟩
                              · refine own_go (fun _ k => XS.icmpYes X108.here hx rfl (pc0 := 12) (pc' := 28) rfl (hb hby d_prog_42_method_11_12) rfl (flt hc124).2.2.2 (by decide) (by decide) k) ?_
                                show OwnGo p e below _ (T108.setTop (mkF m 28 #[.val (.ref a1), .val (.int p2), .val (.int (262144 : Int32))] []))
                                refine own_go (fun _ k => XS.iloadN X108.here hx rfl (hb hby d_prog_42_method_11_28) rfl k) ?_
                                show OwnGo p e below _ (T108.setTop (mkF m 29 #[.val (.ref a1), .val (.int p2), .val (.int (262144 : Int32))] [(.int p2)]))
                                refine own_go (fun _ k => XS.iloadN X108.here hx rfl (hb hby d_prog_42_method_11_29) rfl k) ?_
                                show OwnGo p e below _ (T108.setTop (mkF m 30 #[.val (.ref a1), .val (.int p2), .val (.int (262144 : Int32))] [(.int (262144 : Int32)), (.int p2)]))
                                refine own_go (fun _ k => XS.bipush X108.here hx rfl (hb hby d_prog_42_method_11_30) k) ?_
                                show OwnGo p e below _ (T108.setTop (mkF m 32 #[.val (.ref a1), .val (.int p2), .val (.int (262144 : Int32))] [(.int (8 : Int32)), (.int (262144 : Int32)), (.int p2)]))
                                refine own_go (fun _ k => XS.idiv X108.here hx rfl (hb hby d_prog_42_method_11_32) rfl (by decide) k) ?_
                                show OwnGo p e below _ (T108.setTop (mkF m 33 #[.val (.ref a1), .val (.int p2), .val (.int (262144 : Int32))] [(.int ((262144 : Int32) / (8 : Int32))), (.int p2)]))
                                rw [show ((262144 : Int32) / (8 : Int32)) = (32768 : Int32) from by decide]
                                show OwnGo p e below _ (T108.setTop (mkF m 33 #[.val (.ref a1), .val (.int p2), .val (.int (262144 : Int32))] [(.int (32768 : Int32)), (.int p2)]))
                                refine own_go (fun _ k => XS.icmpYes X108.here hx rfl (pc0 := 33) (pc' := 49) rfl (hb hby d_prog_42_method_11_33) rfl (tlt (Int32.lt_trans (by decide) hc123)).2.2.1 (by decide) (by decide) k) ?_
                                show OwnGo p e below _ (T108.setTop (mkF m 49 #[.val (.ref a1), .val (.int p2), .val (.int (262144 : Int32))] []))
                                refine own_go (fun _ k => XS.iloadN X108.here hx rfl (hb hby d_prog_42_method_11_49) rfl k) ?_
                                show OwnGo p e below _ (T108.setTop (mkF m 50 #[.val (.ref a1), .val (.int p2), .val (.int (262144 : Int32))] [(.int (262144 : Int32))]))
                                obtain ⟨fs, hr, hrun, hended, hW, hsame⟩ := X108.leave (v := some (.int (262144 : Int32))) (fun h => by rw [Bd.returns] at h; cases h)
                                refine ⟨_, _, retOut X108 hx Bd.returns rfl (Or.inl ⟨rfl, Or.inl rfl, _, rfl⟩) (hb hby d_prog_42_method_11_50) hr, hrun, hended, _, _, rfl, ?_, ⟨_, rfl⟩, hW, hsame.mono (by decide) (by decide)⟩
                                show Q_bf Z aNONE aEXPIRING_KEYS aALL_KEYS a1 p2 a2 k2 r0 h0 n0 _ T108.heap _
                                rw [e108]
                                exact ⟨(by rw [← hr0]; simp only [own_bf, hc110, hc111, hc112, hc113, hc114, hc115, hc116, hc117, hc118, hc119, hc120, hc121, hc122, hc123, hc124, if_true, if_false]), N0, rfl⟩
                            · refine own_go (fun _ k => XS.icmpYes X108.here hx rfl (pc0 := 12) (pc' := 28) rfl (hb hby d_prog_42_method_11_12) rfl (flt hc123).2.2.2 (by decide) (by decide) k) ?_
                              show OwnGo p e below _ (T108.setTop (mkF m 28 #[.val (.ref a1), .val (.int p2), .val (.int (131072 : Int32))] []))
                              refine own_go (fun _ k => XS.iloadN X108.here hx rfl (hb hby d_prog_42_method_11_28) rfl k) ?_
                              show OwnGo p e below _ (T108.setTop (mkF m 29 #[.val (.ref a1), .val (.int p2), .val (.int (131072 : Int32))] [(.int p2)]))
                              refine own_go (fun _ k => XS.iloadN X108.here hx rfl (hb hby d_prog_42_method_11_29) rfl k) ?_
                              show OwnGo p e below _ (T108.setTop (mkF m 30 #[.val (.ref a1), .val (.int p2), .val (.int (131072 : Int32))] [(.int (131072 : Int32)), (.int p2)]))
                              refine own_go (fun _ k => XS.bipush X108.here hx rfl (hb hby d_prog_42_method_11_30) k) ?_
                              show OwnGo p e below _ (T108.setTop (mkF m 32 #[.val (.ref a1), .val (.int p2), .val (.int (131072 : Int32))] [(.int (8 : Int32)), (.int (131072 : Int32)), (.int p2)]))
                              refine own_go (fun _ k => XS.idiv X108.here hx rfl (hb hby d_prog_42_method_11_32) rfl (by decide) k) ?_
                              show OwnGo p e below _ (T108.setTop (mkF m 33 #[.val (.ref a1), .val (.int p2), .val (.int (131072 : Int32))] [(.int ((131072 : Int32) / (8 : Int32))), (.int p2)]))
                              rw [show ((131072 : Int32) / (8 : Int32)) = (16384 : Int32) from by decide]
                              show OwnGo p e below _ (T108.setTop (mkF m 33 #[.val (.ref a1), .val (.int p2), .val (.int (131072 : Int32))] [(.int (16384 : Int32)), (.int p2)]))
                              refine own_go (fun _ k => XS.icmpYes X108.here hx rfl (pc0 := 33) (pc' := 49) rfl (hb hby d_prog_42_method_11_33) rfl (tlt (Int32.lt_trans (by decide) hc122)).2.2.1 (by decide) (by decide) k) ?_
                              show OwnGo p e below _ (T108.setTop (mkF m 49 #[.val (.ref a1), .val (.int p2), .val (.int (131072 : Int32))] []))
                              refine own_go (fun _ k => XS.iloadN X108.here hx rfl (hb hby d_prog_42_method_11_49) rfl k) ?_
                              show OwnGo p e below _ (T108.setTop (mkF m 50 #[.val (.ref a1), .val (.int p2), .val (.int (131072 : Int32))] [(.int (131072 : Int32))]))
                              obtain ⟨fs, hr, hrun, hended, hW, hsame⟩ := X108.leave (v := some (.int (131072 : Int32))) (fun h => by rw [Bd.returns] at h; cases h)
                              refine ⟨_, _, retOut X108 hx Bd.returns rfl (Or.inl ⟨rfl, Or.inl rfl, _, rfl⟩) (hb hby d_prog_42_method_11_50) hr, hrun, hended, _, _, rfl, ?_, ⟨_, rfl⟩, hW, hsame.mono (by decide) (by decide)⟩
                              show Q_bf Z aNONE aEXPIRING_KEYS aALL_KEYS a1 p2 a2 k2 r0 h0 n0 _ T108.heap _
                              rw [e108]
                              exact ⟨(by rw [← hr0]; simp only [own_bf, hc110, hc111, hc112, hc113, hc114, hc115, hc116, hc117, hc118, hc119, hc120, hc121, hc122, hc123, if_true, if_false]), N0, rfl⟩
                          · refine own_go (fun _ k => XS.icmpYes X108.here hx rfl (pc0 := 12) (pc' := 28) rfl (hb hby d_prog_42_method_11_12) rfl (flt hc122).2.2.2 (by decide) (by decide) k) ?_
                            show OwnGo p e below _ (T108.setTop (mkF m 28 #[.val (.ref a1), .val (.int p2), .val (.int (65536 : Int32))] []))
                            refine own_go (fun _ k => XS.iloadN X108.here hx rfl (hb hby d_prog_42_method_11_28) rfl k) ?_
                            show OwnGo p e below _ (T108.setTop (mkF m 29 #[.val (.ref a1), .val (.int p2), .val (.int (65536 : Int32))] [(.int p2)]))
                            refine own_go (fun _ k => XS.iloadN X108.here hx rfl (hb hby d_prog_42_method_11_29) rfl k) ?_
                            show OwnGo p e below _ (T108.setTop (mkF m 30 #[.val (.ref a1), .val (.int p2), .val (.int (65536 : Int32))] [(.int (65536 : Int32)), (.int p2)]))
                            refine own_go (fun _ k => XS.bipush X108.here hx rfl (hb hby d_prog_42_method_11_30) k) ?_
                            show OwnGo p e below _ (T108.setTop (mkF m 32 #[.val (.ref a1), .val (.int p2), .val (.int (65536 : Int32))] [(.int (8 : Int32)), (.int (65536 : Int32)), (.int p2)]))
                            refine own_go (fun _ k => XS.idiv X108.here hx rfl (hb hby d_prog_42_method_11_32) rfl (by decide) k) ?_
                            show OwnGo p e below _ (T108.setTop (mkF m 33 #[.val (.ref a1), .val (.int p2), .val (.int (65536 : Int32))] [(.int ((65536 : Int32) / (8 : Int32))), (.int p2)]))
                            rw [show ((65536 : Int32) / (8 : Int32)) = (8192 : Int32) from by decide]
                            show OwnGo p e below _ (T108.setTop (mkF m 33 #[.val (.ref a1), .val (.int p2), .val (.int (65536 : Int32))] [(.int (8192 : Int32)), (.int p2)]))
                            refine own_go (fun _ k => XS.icmpYes X108.here hx rfl (pc0 := 33) (pc' := 49) rfl (hb hby d_prog_42_method_11_33) rfl (tlt (Int32.lt_trans (by decide) hc121)).2.2.1 (by decide) (by decide) k) ?_
                            show OwnGo p e below _ (T108.setTop (mkF m 49 #[.val (.ref a1), .val (.int p2), .val (.int (65536 : Int32))] []))
                            refine own_go (fun _ k => XS.iloadN X108.here hx rfl (hb hby d_prog_42_method_11_49) rfl k) ?_
                            show OwnGo p e below _ (T108.setTop (mkF m 50 #[.val (.ref a1), .val (.int p2), .val (.int (65536 : Int32))] [(.int (65536 : Int32))]))
                            obtain ⟨fs, hr, hrun, hended, hW, hsame⟩ := X108.leave (v := some (.int (65536 : Int32))) (fun h => by rw [Bd.returns] at h; cases h)
                            refine ⟨_, _, retOut X108 hx Bd.returns rfl (Or.inl ⟨rfl, Or.inl rfl, _, rfl⟩) (hb hby d_prog_42_method_11_50) hr, hrun, hended, _, _, rfl, ?_, ⟨_, rfl⟩, hW, hsame.mono (by decide) (by decide)⟩
                            show Q_bf Z aNONE aEXPIRING_KEYS aALL_KEYS a1 p2 a2 k2 r0 h0 n0 _ T108.heap _
                            rw [e108]
                            exact ⟨(by rw [← hr0]; simp only [own_bf, hc110, hc111, hc112, hc113, hc114, hc115, hc116, hc117, hc118, hc119, hc120, hc121, hc122, if_true, if_false]), N0, rfl⟩
                        · refine own_go (fun _ k => XS.icmpYes X108.here hx rfl (pc0 := 12) (pc' := 28) rfl (hb hby d_prog_42_method_11_12) rfl (flt hc121).2.2.2 (by decide) (by decide) k) ?_
                          show OwnGo p e below _ (T108.setTop (mkF m 28 #[.val (.ref a1), .val (.int p2), .val (.int (32768 : Int32))] []))
                          refine own_go (fun _ k => XS.iloadN X108.here hx rfl (hb hby d_prog_42_method_11_28) rfl k) ?_
                          show OwnGo p e below _ (T108.setTop (mkF m 29 #[.val (.ref a1), .val (.int p2), .val (.int (32768 : Int32))] [(.int p2)]))
                          refine own_go (fun _ k => XS.iloadN X108.here hx rfl (hb hby d_prog_42_method_11_29) rfl k) ?_
                          show OwnGo p e below _ (T108.setTop (mkF m 30 #[.val (.ref a1), .val (.int p2), .val (.int (32768 : Int32))] [(.int (32768 : Int32)), (.int p2)]))
                          refine own_go (fun _ k => XS.bipush X108.here hx rfl (hb hby d_prog_42_method_11_30) k) ?_
                          show OwnGo p e below _ (T108.setTop (mkF m 32 #[.val (.ref a1), .val (.int p2), .val (.int (32768 : Int32))] [(.int (8 : Int32)), (.int (32768 : Int32)), (.int p2)]))
                          refine own_go (fun _ k => XS.idiv X108.here hx rfl (hb hby d_prog_42_method_11_32) rfl (by decide) k) ?_
                          show OwnGo p e below _ (T108.setTop (mkF m 33 #[.val (.ref a1), .val (.int p2), .val (.int (32768 : Int32))] [(.int ((32768 : Int32) / (8 : Int32))), (.int p2)]))
                          rw [show ((32768 : Int32) / (8 : Int32)) = (4096 : Int32) from by decide]
                          show OwnGo p e below _ (T108.setTop (mkF m 33 #[.val (.ref a1), .val (.int p2), .val (.int (32768 : Int32))] [(.int (4096 : Int32)), (.int p2)]))
                          refine own_go (fun _ k => XS.icmpYes X108.here hx rfl (pc0 := 33) (pc' := 49) rfl (hb hby d_prog_42_method_11_33) rfl (tlt (Int32.lt_trans (by decide) hc120)).2.2.1 (by decide) (by decide) k) ?_
                          show OwnGo p e below _ (T108.setTop (mkF m 49 #[.val (.ref a1), .val (.int p2), .val (.int (32768 : Int32))] []))
                          refine own_go (fun _ k => XS.iloadN X108.here hx rfl (hb hby d_prog_42_method_11_49) rfl k) ?_
                          show OwnGo p e below _ (T108.setTop (mkF m 50 #[.val (.ref a1), .val (.int p2), .val (.int (32768 : Int32))] [(.int (32768 : Int32))]))
                          obtain ⟨fs, hr, hrun, hended, hW, hsame⟩ := X108.leave (v := some (.int (32768 : Int32))) (fun h => by rw [Bd.returns] at h; cases h)
                          refine ⟨_, _, retOut X108 hx Bd.returns rfl (Or.inl ⟨rfl, Or.inl rfl, _, rfl⟩) (hb hby d_prog_42_method_11_50) hr, hrun, hended, _, _, rfl, ?_, ⟨_, rfl⟩, hW, hsame.mono (by decide) (by decide)⟩
                          show Q_bf Z aNONE aEXPIRING_KEYS aALL_KEYS a1 p2 a2 k2 r0 h0 n0 _ T108.heap _
                          rw [e108]
                          exact ⟨(by rw [← hr0]; simp only [own_bf, hc110, hc111, hc112, hc113, hc114, hc115, hc116, hc117, hc118, hc119, hc120, hc121, if_true, if_false]), N0, rfl⟩
                      · refine own_go (fun _ k => XS.icmpYes X108.here hx rfl (pc0 := 12) (pc' := 28) rfl (hb hby d_prog_42_method_11_12) rfl (flt hc120).2.2.2 (by decide) (by decide) k) ?_
                        show OwnGo p e below _ (T108.setTop (mkF m 28 #[.val (.ref a1), .val (.int p2), .val (.int (16384 : Int32))] []))
                        refine own_go (fun _ k => XS.iloadN X108.here hx rfl (hb hby d_prog_42_method_11_28) rfl k) ?_
                        show OwnGo p e below _ (T108.setTop (mkF m 29 #[.val (.ref a1), .val (.int p2), .val (.int (16384 : Int32))] [(.int p2)]))
                        refine own_go (fun _ k => XS.iloadN X108.here hx rfl (hb hby d_prog_42_method_11_29) rfl k) ?_
                        show OwnGo p e below _ (T108.setTop (mkF m 30 #[.val (.ref a1), .val (.int p2), .val (.int (16384 : Int32))] [(.int (16384 : Int32)), (.int p2)]))
                        refine own_go (fun _ k => XS.bipush X108.here hx rfl (hb hby d_prog_42_method_11_30) k) ?_
                        show OwnGo p e below _ (T108.setTop (mkF m 32 #[.val (.ref a1), .val (.int p2), .val (.int (16384 : Int32))] [(.int (8 : Int32)), (.int (16384 : Int32)), (.int p2)]))
                        refine own_go (fun _ k => XS.idiv X108.here hx rfl (hb hby d_prog_42_method_11_32) rfl (by decide) k) ?_
                        show OwnGo p e below _ (T108.setTop (mkF m 33 #[.val (.ref a1), .val (.int p2), .val (.int (16384 : Int32))] [(.int ((16384 : Int32) / (8 : Int32))), (.int p2)]))
                        rw [show ((16384 : Int32) / (8 : Int32)) = (2048 : Int32) from by decide]
                        show OwnGo p e below _ (T108.setTop (mkF m 33 #[.val (.ref a1), .val (.int p2), .val (.int (16384 : Int32))] [(.int (2048 : Int32)), (.int p2)]))
                        refine own_go (fun _ k => XS.icmpYes X108.here hx rfl (pc0 := 33) (pc' := 49) rfl (hb hby d_prog_42_method_11_33) rfl (tlt (Int32.lt_trans (by decide) hc119)).2.2.1 (by decide) (by decide) k) ?_
                        show OwnGo p e below _ (T108.setTop (mkF m 49 #[.val (.ref a1), .val (.int p2), .val (.int (16384 : Int32))] []))
                        refine own_go (fun _ k => XS.iloadN X108.here hx rfl (hb hby d_prog_42_method_11_49) rfl k) ?_
                        show OwnGo p e below _ (T108.setTop (mkF m 50 #[.val (.ref a1), .val (.int p2), .val (.int (16384 : Int32))] [(.int (16384 : Int32))]))
                        obtain ⟨fs, hr, hrun, hended, hW, hsame⟩ := X108.leave (v := some (.int (16384 : Int32))) (fun h => by rw [Bd.returns] at h; cases h)
                        refine ⟨_, _, retOut X108 hx Bd.returns rfl (Or.inl ⟨rfl, Or.inl rfl, _, rfl⟩) (hb hby d_prog_42_method_11_50) hr, hrun, hended, _, _, rfl, ?_, ⟨_, rfl⟩, hW, hsame.mono (by decide) (by decide)⟩
                        show Q_bf Z aNONE aEXPIRING_KEYS aALL_KEYS a1 p2 a2 k2 r0 h0 n0 _ T108.heap _
                        rw [e108]
                        exact ⟨(by rw [← hr0]; simp only [own_bf, hc110, hc111, hc112, hc113, hc114, hc115, hc116, hc117, hc118, hc119, hc120, if_true, if_false]), N0, rfl⟩
                    · refine own_go (fun _ k => XS.icmpYes X108.here hx rfl (pc0 := 12) (pc' := 28) rfl (hb hby d_prog_42_method_11_12) rfl (flt hc119).2.2.2 (by decide) (by decide) k) ?_
                      show OwnGo p e below _ (T108.setTop (mkF m 28 #[.val (.ref a1), .val (.int p2), .val (.int (8192 : Int32))] []))
                      refine own_go (fun _ k => XS.iloadN X108.here hx rfl (hb hby d_prog_42_method_11_28) rfl k) ?_
                      show OwnGo p e below _ (T108.setTop (mkF m 29 #[.val (.ref a1), .val (.int p2), .val (.int (8192 : Int32))] [(.int p2)]))
                      refine own_go (fun _ k => XS.iloadN X108.here hx rfl (hb hby d_prog_42_method_11_29) rfl k) ?_
                      show OwnGo p e below _ (T108.setTop (mkF m 30 #[.val (.ref a1), .val (.int p2), .val (.int (8192 : Int32))] [(.int (8192 : Int32)), (.int p2)]))
                      refine own_go (fun _ k => XS.bipush X108.here hx rfl (hb hby d_prog_42_method_11_30) k) ?_
                      show OwnGo p e below _ (T108.setTop (mkF m 32 #[.val (.ref a1), .val (.int p2), .val (.int (8192 : Int32))] [(.int (8 : Int32)), (.int (8192 : Int32)), (.int p2)]))
                      refine own_go (fun _ k => XS.idiv X108.here hx rfl (hb hby d_prog_42_method_11_32) rfl (by decide) k) ?_
                      show OwnGo p e below _ (T108.setTop (mkF m 33 #[.val (.ref a1), .val (.int p2), .val (.int (8192 : Int32))] [(.int ((8192 : Int32) / (8 : Int32))), (.int p2)]))
                      rw [show ((8192 : Int32) / (8 : Int32)) = (1024 : Int32) from by decide]
                      show OwnGo p e below _ (T108.setTop (mkF m 33 #[.val (.ref a1), .val (.int p2), .val (.int (8192 : Int32))] [(.int (1024 : Int32)), (.int p2)]))
                      refine own_go (fun _ k => XS.icmpYes X108.here hx rfl (pc0 := 33) (pc' := 49) rfl (hb hby d_prog_42_method_11_33) rfl (tlt (Int32.lt_trans (by decide) hc118)).2.2.1 (by decide) (by decide) k) ?_
                      show OwnGo p e below _ (T108.setTop (mkF m 49 #[.val (.ref a1), .val (.int p2), .val (.int (8192 : Int32))] []))
                      refine own_go (fun _ k => XS.iloadN X108.here hx rfl (hb hby d_prog_42_method_11_49) rfl k) ?_
                      show OwnGo p e below _ (T108.setTop (mkF m 50 #[.val (.ref a1), .val (.int p2), .val (.int (8192 : Int32))] [(.int (8192 : Int32))]))
                      obtain ⟨fs, hr, hrun, hended, hW, hsame⟩ := X108.leave (v := some (.int (8192 : Int32))) (fun h => by rw [Bd.returns] at h; cases h)
                      refine ⟨_, _, retOut X108 hx Bd.returns rfl (Or.inl ⟨rfl, Or.inl rfl, _, rfl⟩) (hb hby d_prog_42_method_11_50) hr, hrun, hended, _, _, rfl, ?_, ⟨_, rfl⟩, hW, hsame.mono (by decide) (by decide)⟩
                      show Q_bf Z aNONE aEXPIRING_KEYS aALL_KEYS a1 p2 a2 k2 r0 h0 n0 _ T108.heap _
                      rw [e108]
                      exact ⟨(by rw [← hr0]; simp only [own_bf, hc110, hc111, hc112, hc113, hc114, hc115, hc116, hc117, hc118, hc119, if_true, if_false]), N0, rfl⟩
                  · refine own_go (fun _ k => XS.icmpYes X108.here hx rfl (pc0 := 12) (pc' := 28) rfl (hb hby d_prog_42_method_11_12) rfl (flt hc118).2.2.2 (by decide) (by decide) k) ?_
                    show OwnGo p e below _ (T108.setTop (mkF m 28 #[.val (.ref a1), .val (.int p2), .val (.int (4096 : Int32))] []))
                    refine own_go (fun _ k => XS.iloadN X108.here hx rfl (hb hby d_prog_42_method_11_28) rfl k) ?_
                    show OwnGo p e below _ (T108.setTop (mkF m 29 #[.val (.ref a1), .val (.int p2), .val (.int (4096 : Int32))] [(.int p2)]))
                    refine own_go (fun _ k => XS.iloadN X108.here hx rfl (hb hby d_prog_42_method_11_29) rfl k) ?_
                    show OwnGo p e below _ (T108.setTop (mkF m 30 #[.val (.ref a1), .val (.int p2), .val (.int (4096 : Int32))] [(.int (4096 : Int32)), (.int p2)]))
                    refine own_go (fun _ k => XS.bipush X108.here hx rfl (hb hby d_prog_42_method_11_30) k) ?_
                    show OwnGo p e below _ (T108.setTop (mkF m 32 #[.val (.ref a1), .val (.int p2), .val (.int (4096 : Int32))] [(.int (8 : Int32)), (.int (4096 : Int32)), (.int p2)]))
                    refine own_go (fun _ k => XS.idiv X108.here hx rfl (hb hby d_prog_42_method_11_32) rfl (by decide) k) ?_
                    show OwnGo p e below _ (T108.setTop (mkF m 33 #[.val (.ref a1), .val (.int p2), .val (.int (4096 : Int32))] [(.int ((4096 : Int32) / (8 : Int32))), (.int p2)]))
                    rw [show ((4096 : Int32) / (8 : Int32)) = (512 : Int32) from by decide]
                    show OwnGo p e below _ (T108.setTop (mkF m 33 #[.val (.ref a1), .val (.int p2), .val (.int (4096 : Int32))] [(.int (512 : Int32)), (.int p2)]))
                    refine own_go (fun _ k => XS.icmpYes X108.here hx rfl (pc0 := 33) (pc' := 49) rfl (hb hby d_prog_42_method_11_33) rfl (tlt (Int32.lt_trans (by decide) hc117)).2.2.1 (by decide) (by decide) k) ?_
                    show OwnGo p e below _ (T108.setTop (mkF m 49 #[.val (.ref a1), .val (.int p2), .val (.int (4096 : Int32))] []))
                    refine own_go (fun _ k => XS.iloadN X108.here hx rfl (hb hby d_prog_42_method_11_49) rfl k) ?_
                    show OwnGo p e below _ (T108.setTop (mkF m 50 #[.val (.ref a1), .val (.int p2), .val (.int (4096 : Int32))] [(.int (4096 : Int32))]))
                    obtain ⟨fs, hr, hrun, hended, hW, hsame⟩ := X108.leave (v := some (.int (4096 : Int32))) (fun h => by rw [Bd.returns] at h; cases h)
                    refine ⟨_, _, retOut X108 hx Bd.returns rfl (Or.inl ⟨rfl, Or.inl rfl, _, rfl⟩) (hb hby d_prog_42_method_11_50) hr, hrun, hended, _, _, rfl, ?_, ⟨_, rfl⟩, hW, hsame.mono (by decide) (by decide)⟩
                    show Q_bf Z aNONE aEXPIRING_KEYS aALL_KEYS a1 p2 a2 k2 r0 h0 n0 _ T108.heap _
                    rw [e108]
                    exact ⟨(by rw [← hr0]; simp only [own_bf, hc110, hc111, hc112, hc113, hc114, hc115, hc116, hc117, hc118, if_true, if_false]), N0, rfl⟩
                · refine own_go (fun _ k => XS.icmpYes X108.here hx rfl (pc0 := 12) (pc' := 28) rfl (hb hby d_prog_42_method_11_12) rfl (flt hc117).2.2.2 (by decide) (by decide) k) ?_
                  show OwnGo p e below _ (T108.setTop (mkF m 28 #[.val (.ref a1), .val (.int p2), .val (.int (2048 : Int32))] []))
                  refine own_go (fun _ k => XS.iloadN X108.here hx rfl (hb hby d_prog_42_method_11_28) rfl k) ?_
                  show OwnGo p e below _ (T108.setTop (mkF m 29 #[.val (.ref a1), .val (.int p2), .val (.int (2048 : Int32))] [(.int p2)]))
                  refine own_go (fun _ k => XS.iloadN X108.here hx rfl (hb hby d_prog_42_method_11_29) rfl k) ?_
                  show OwnGo p e below _ (T108.setTop (mkF m 30 #[.val (.ref a1), .val (.int p2), .val (.int (2048 : Int32))] [(.int (2048 : Int32)), (.int p2)]))
                  refine own_go (fun _ k => XS.bipush X108.here hx rfl (hb hby d_prog_42_method_11_30) k) ?_
                  show OwnGo p e below _ (T108.setTop (mkF m 32 #[.val (.ref a1), .val (.int p2), .val (.int (2048 : Int32))] [(.int (8 : Int32)), (.int (2048 : Int32)), (.int p2)]))
                  refine own_go (fun _ k => XS.idiv X108.here hx rfl (hb hby d_prog_42_method_11_32) rfl (by decide) k) ?_
                  show OwnGo p e below _ (T108.setTop (mkF m 33 #[.val (.ref a1), .val (.int p2), .val (.int (2048 : Int32))] [(.int ((2048 : Int32) / (8 : Int32))), (.int p2)]))
                  rw [show ((2048 : Int32) / (8 : Int32)) = (256 : Int32) from by decide]
                  show OwnGo p e below _ (T108.setTop (mkF m 33 #[.val (.ref a1), .val (.int p2), .val (.int (2048 : Int32))] [(.int (256 : Int32)), (.int p2)]))
                  refine own_go (fun _ k => XS.icmpYes X108.here hx rfl (pc0 := 33) (pc' := 49) rfl (hb hby d_prog_42_method_11_33) rfl (tlt (Int32.lt_trans (by decide) hc116)).2.2.1 (by decide) (by decide) k) ?_
                  show OwnGo p e below _ (T108.setTop (mkF m 49 #[.val (.ref a1), .val (.int p2), .val (.int (2048 : Int32))] []))
                  refine own_go (fun _ k => XS.iloadN X108.here hx rfl (hb hby d_prog_42_method_11_49) rfl k) ?_
                  show OwnGo p e below _ (T108.setTop (mkF m 50 #[.val (.ref a1), .val (.int p2), .val (.int (2048 : Int32))] [(.int (2048 : Int32))]))
                  obtain ⟨fs, hr, hrun, hended, hW, hsame⟩ := X108.leave (v := some (.int (2048 : Int32))) (fun h => by rw [Bd.returns] at h; cases h)
                  refine ⟨_, _, retOut X108 hx Bd.returns rfl (Or.inl ⟨rfl, Or.inl rfl, _, rfl⟩) (hb hby d_prog_42_method_11_50) hr, hrun, hended, _, _, rfl, ?_, ⟨_, rfl⟩, hW, hsame.mono (by decide) (by decide)⟩
                  show Q_bf Z aNONE aEXPIRING_KEYS aALL_KEYS a1 p2 a2 k2 r0 h0 n0 _ T108.heap _
                  rw [e108]
                  exact ⟨(by rw [← hr0]; simp only [own_bf, hc110, hc111, hc112, hc113, hc114, hc115, hc116, hc117, if_true, if_false]), N0, rfl⟩
              · refine own_go (fun _ k => XS.icmpYes X108.here hx rfl (pc0 := 12) (pc' := 28) rfl (hb hby d_prog_42_method_11_12) rfl (flt hc116).2.2.2 (by decide) (by decide) k) ?_
                show OwnGo p e below _ (T108.setTop (mkF m 28 #[.val (.ref a1), .val (.int p2), .val (.int (1024 : Int32))] []))
                refine own_go (fun _ k => XS.iloadN X108.here hx rfl (hb hby d_prog_42_method_11_28) rfl k) ?_
                show OwnGo p e below _ (T108.setTop (mkF m 29 #[.val (.ref a1), .val (.int p2), .val (.int (1024 : Int32))] [(.int p2)]))
                refine own_go (fun _ k => XS.iloadN X108.here hx rfl (hb hby d_prog_42_method_11_29) rfl k) ?_
                show OwnGo p e below _ (T108.setTop (mkF m 30 #[.val (.ref a1), .val (.int p2), .val (.int (1024 : Int32))] [(.int (1024 : Int32)), (.int p2)]))
                refine own_go (fun _ k => XS.bipush X108.here hx rfl (hb hby d_prog_42_method_11_30) k) ?_
                show OwnGo p e below _ (T108.setTop (mkF m 32 #[.val (.ref a1), .val (.int p2), .val (.int (1024 : Int32))] [(.int (8 : Int32)), (.int (1024 : Int32)), (.int p2)]))
                refine own_go (fun _ k => XS.idiv X108.here hx rfl (hb hby d_prog_42_method_11_32) rfl (by decide) k) ?_
                show OwnGo p e below _ (T108.setTop (mkF m 33 #[.val (.ref a1), .val (.int p2), .val (.int (1024 : Int32))] [(.int ((1024 : Int32) / (8 : Int32))), (.int p2)]))
                rw [show ((1024 : Int32) / (8 : Int32)) = (128 : Int32) from by decide]
                show OwnGo p e below _ (T108.setTop (mkF m 33 #[.val (.ref a1), .val (.int p2), .val (.int (1024 : Int32))] [(.int (128 : Int32)), (.int p2)]))
                refine own_go (fun _ k => XS.icmpYes X108.here hx rfl (pc0 := 33) (pc' := 49) rfl (hb hby d_prog_42_method_11_33) rfl (tlt (Int32.lt_trans (by decide) hc115)).2.2.1 (by decide) (by decide) k) ?_
                show OwnGo p e below _ (T108.setTop (mkF m 49 #[.val (.ref a1), .val (.int p2), .val (.int (1024 : Int32))] []))
                refine own_go (fun _ k => XS.iloadN X108.here hx rfl (hb hby d_prog_42_method_11_49) rfl k) ?_
                show OwnGo p e below _ (T108.setTop (mkF m 50 #[.val (.ref a1), .val (.int p2), .val (.int (1024 : Int32))] [(.int (1024 : Int32))]))
                obtain ⟨fs, hr, hrun, hended, hW, hsame⟩ := X108.leave (v := some (.int (1024 : Int32))) (fun h => by rw [Bd.returns] at h; cases h)
                refine ⟨_, _, retOut X108 hx Bd.returns rfl (Or.inl ⟨rfl, Or.inl rfl, _, rfl⟩) (hb hby d_prog_42_method_11_50) hr, hrun, hended, _, _, rfl, ?_, ⟨_, rfl⟩, hW, hsame.mono (by decide) (by decide)⟩
                show Q_bf Z aNONE aEXPIRING_KEYS aALL_KEYS a1 p2 a2 k2 r0 h0 n0 _ T108.heap _
                rw [e108]
                exact ⟨(by rw [← hr0]; simp only [own_bf, hc110, hc111, hc112, hc113, hc114, hc115, hc116, if_true, if_false]), N0, rfl⟩
            · refine own_go (fun _ k => XS.icmpYes X108.here hx rfl (pc0 := 12) (pc' := 28) rfl (hb hby d_prog_42_method_11_12) rfl (flt hc115).2.2.2 (by decide) (by decide) k) ?_
              show OwnGo p e below _ (T108.setTop (mkF m 28 #[.val (.ref a1), .val (.int p2), .val (.int (512 : Int32))] []))
              refine own_go (fun _ k => XS.iloadN X108.here hx rfl (hb hby d_prog_42_method_11_28) rfl k) ?_
              show OwnGo p e below _ (T108.setTop (mkF m 29 #[.val (.ref a1), .val (.int p2), .val (.int (512 : Int32))] [(.int p2)]))
              refine own_go (fun _ k => XS.iloadN X108.here hx rfl (hb hby d_prog_42_method_11_29) rfl k) ?_
              show OwnGo p e below _ (T108.setTop (mkF m 30 #[.val (.ref a1), .val (.int p2), .val (.int (512 : Int32))] [(.int (512 : Int32)), (.int p2)]))
              refine own_go (fun _ k => XS.bipush X108.here hx rfl (hb hby d_prog_42_method_11_30) k) ?_
              show OwnGo p e below _ (T108.setTop (mkF m 32 #[.val (.ref a1), .val (.int p2), .val (.int (512 : Int32))] [(.int (8 : Int32)), (.int (512 : Int32)), (.int p2)]))
              refine own_go (fun _ k => XS.idiv X108.here hx rfl (hb hby d_prog_42_method_11_32) rfl (by decide) k) ?_
              show OwnGo p e below _ (T108.setTop (mkF m 33 #[.val (.ref a1), .val (.int p2), .val (.int (512 : Int32))] [(.int ((512 : Int32) / (8 : Int32))), (.int p2)]))
              rw [show ((512 : Int32) / (8 : Int32)) = (64 : Int32) from by decide]
              show OwnGo p e below _ (T108.setTop (mkF m 33 #[.val (.ref a1), .val (.int p2), .val (.int (512 : Int32))] [(.int (64 : Int32)), (.int p2)]))
              refine own_go (fun _ k => XS.icmpYes X108.here hx rfl (pc0 := 33) (pc' := 49) rfl (hb hby d_prog_42_method_11_33) rfl (tlt (Int32.lt_trans (by decide) hc114)).2.2.1 (by decide) (by decide) k) ?_
              show OwnGo p e below _ (T108.setTop (mkF m 49 #[.val (.ref a1), .val (.int p2), .val (.int (512 : Int32))] []))
              refine own_go (fun _ k => XS.iloadN X108.here hx rfl (hb hby d_prog_42_method_11_49) rfl k) ?_
              show OwnGo p e below _ (T108.setTop (mkF m 50 #[.val (.ref a1), .val (.int p2), .val (.int (512 : Int32))] [(.int (512 : Int32))]))
              obtain ⟨fs, hr, hrun, hended, hW, hsame⟩ := X108.leave (v := some (.int (512 : Int32))) (fun h => by rw [Bd.returns] at h; cases h)
              refine ⟨_, _, retOut X108 hx Bd.returns rfl (Or.inl ⟨rfl, Or.inl rfl, _, rfl⟩) (hb hby d_prog_42_method_11_50) hr, hrun, hended, _, _, rfl, ?_, ⟨_, rfl⟩, hW, hsame.mono (by decide) (by decide)⟩
              show Q_bf Z aNONE aEXPIRING_KEYS aALL_KEYS a1 p2 a2 k2 r0 h0 n0 _ T108.heap _
              rw [e108]
              exact ⟨(by rw [← hr0]; simp only [own_bf, hc110, hc111, hc112, hc113, hc114, hc115, if_true, if_false]), N0, rfl⟩
          · refine own_go (fun _ k => XS.icmpYes X108.here hx rfl (pc0 := 12) (pc' := 28) rfl (hb hby d_prog_42_method_11_12) rfl (flt hc114).2.2.2 (by decide) (by decide) k) ?_
            show OwnGo p e below _ (T108.setTop (mkF m 28 #[.val (.ref a1), .val (.int p2), .val (.int (256 : Int32))] []))
            refine own_go (fun _ k => XS.iloadN X108.here hx rfl (hb hby d_prog_42_method_11_28) rfl k) ?_
            show OwnGo p e below _ (T108.setTop (mkF m 29 #[.val (.ref a1), .val (.int p2), .val (.int (256 : Int32))] [(.int p2)]))
            refine own_go (fun _ k => XS.iloadN X108.here hx rfl (hb hby d_prog_42_method_11_29) rfl k) ?_
            show OwnGo p e below _ (T108.setTop (mkF m 30 #[.val (.ref a1), .val (.int p2), .val (.int (256 : Int32))] [(.int (256 : Int32)), (.int p2)]))
            refine own_go (fun _ k => XS.bipush X108.here hx rfl (hb hby d_prog_42_method_11_30) k) ?_
            show OwnGo p e below _ (T108.setTop (mkF m 32 #[.val (.ref a1), .val (.int p2), .val (.int (256 : Int32))] [(.int (8 : Int32)), (.int (256 : Int32)), (.int p2)]))
            refine own_go (fun _ k => XS.idiv X108.here hx rfl (hb hby d_prog_42_method_11_32) rfl (by decide) k) ?_
            show OwnGo p e below _ (T108.setTop (mkF m 33 #[.val (.ref a1), .val (.int p2), .val (.int (256 : Int32))] [(.int ((256 : Int32) / (8 : Int32))), (.int p2)]))
            rw [show ((256 : Int32) / (8 : Int32)) = (32 : Int32) from by decide]
            show OwnGo p e below _ (T108.setTop (mkF m 33 #[.val (.ref a1), .val (.int p2), .val (.int (256 : Int32))] [(.int (32 : Int32)), (.int p2)]))
            refine own_go (fun _ k => XS.icmpYes X108.here hx rfl (pc0 := 33) (pc' := 49) rfl (hb hby d_prog_42_method_11_33) rfl (tlt (Int32.lt_trans (by decide) hc113)).2.2.1 (by decide) (by decide) k) ?_
            show OwnGo p e below _ (T108.setTop (mkF m 49 #[.val (.ref a1), .val (.int p2), .val (.int (256 : Int32))] []))
            refine own_go (fun _ k => XS.iloadN X108.here hx rfl (hb hby d_prog_42_method_11_49) rfl k) ?_
            show OwnGo p e below _ (T108.setTop (mkF m 50 #[.val (.ref a1), .val (.int p2), .val (.int (256 : Int32))] [(.int (256 : Int32))]))
            obtain ⟨fs, hr, hrun, hended, hW, hsame⟩ := X108.leave (v := some (.int (256 : Int32))) (fun h => by rw [Bd.returns] at h; cases h)
            refine ⟨_, _, retOut X108 hx Bd.returns rfl (Or.inl ⟨rfl, Or.inl rfl, _, rfl⟩) (hb hby d_prog_42_method_11_50) hr, hrun, hended, _, _, rfl, ?_, ⟨_, rfl⟩, hW, hsame.mono (by decide) (by decide)⟩
            show Q_bf Z aNONE aEXPIRING_KEYS aALL_KEYS a1 p2 a2 k2 r0 h0 n0 _ T108.heap _
            rw [e108]
            exact ⟨(by rw [← hr0]; simp only [own_bf, hc110, hc111, hc112, hc113, hc114, if_true, if_false]), N0, rfl⟩
        · refine own_go (fun _ k => XS.icmpYes X108.here hx rfl (pc0 := 12) (pc' := 28) rfl (hb hby d_prog_42_method_11_12) rfl (flt hc113).2.2.2 (by decide) (by decide) k) ?_
          show OwnGo p e below _ (T108.setTop (mkF m 28 #[.val (.ref a1), .val (.int p2), .val (.int (128 : Int32))] []))
          refine own_go (fun _ k => XS.iloadN X108.here hx rfl (hb hby d_prog_42_method_11_28) rfl k) ?_
          show OwnGo p e below _ (T108.setTop (mkF m 29 #[.val (.ref a1), .val (.int p2), .val (.int (128 : Int32))] [(.int p2)]))
          refine own_go (fun _ k => XS.iloadN X108.here hx rfl (hb hby d_prog_42_method_11_29) rfl k) ?_
          show OwnGo p e below _ (T108.setTop (mkF m 30 #[.val (.ref a1), .val (.int p2), .val (.int (128 : Int32))] [(.int (128 : Int32)), (.int p2)]))
          refine own_go (fun _ k => XS.bipush X108.here hx rfl (hb hby d_prog_42_method_11_30) k) ?_
          show OwnGo p e below _ (T108.setTop (mkF m 32 #[.val (.ref a1), .val (.int p2), .val (.int (128 : Int32))] [(.int (8 : Int32)), (.int (128 : Int32)), (.int p2)]))
          refine own_go (fun _ k => XS.idiv X108.here hx rfl (hb hby d_prog_42_method_11_32) rfl (by decide) k) ?_
          show OwnGo p e below _ (T108.setTop (mkF m 33 #[.val (.ref a1), .val (.int p2), .val (.int (128 : Int32))] [(.int ((128 : Int32) / (8 : Int32))), (.int p2)]))
          rw [show ((128 : Int32) / (8 : Int32)) = (16 : Int32) from by decide]
          show OwnGo p e below _ (T108.setTop (mkF m 33 #[.val (.ref a1), .val (.int p2), .val (.int (128 : Int32))] [(.int (16 : Int32)), (.int p2)]))
          refine own_go (fun _ k => XS.icmpYes X108.here hx rfl (pc0 := 33) (pc' := 49) rfl (hb hby d_prog_42_method_11_33) rfl (tlt (Int32.lt_trans (by decide) hc112)).2.2.1 (by decide) (by decide) k) ?_
          show OwnGo p e below _ (T108.setTop (mkF m 49 #[.val (.ref a1), .val (.int p2), .val (.int (128 : Int32))] []))
          refine own_go (fun _ k => XS.iloadN X108.here hx rfl (hb hby d_prog_42_method_11_49) rfl k) ?_
          show OwnGo p e below _ (T108.setTop (mkF m 50 #[.val (.ref a1), .val (.int p2), .val (.int (128 : Int32))] [(.int (128 : Int32))]))
          obtain ⟨fs, hr, hrun, hended, hW, hsame⟩ := X108.leave (v := some (.int (128 : Int32))) (fun h => by rw [Bd.returns] at h; cases h)
          refine ⟨_, _, retOut X108 hx Bd.returns rfl (Or.inl ⟨rfl, Or.inl rfl, _, rfl⟩) (hb hby d_prog_42_method_11_50) hr, hrun, hended, _, _, rfl, ?_, ⟨_, rfl⟩, hW, hsame.mono (by decide) (by decide)⟩
          show Q_bf Z aNONE aEXPIRING_KEYS aALL_KEYS a1 p2 a2 k2 r0 h0 n0 _ T108.heap _
          rw [e108]
          exact ⟨(by rw [← hr0]; simp only [own_bf, hc110, hc111, hc112, hc113, if_true, if_false]), N0, rfl⟩
      · refine own_go (fun _ k => XS.icmpYes X108.here hx rfl (pc0 := 12) (pc' := 28) rfl (hb hby d_prog_42_method_11_12) rfl (flt hc112).2.2.2 (by decide) (by decide) k) ?_
        show OwnGo p e below _ (T108.setTop (mkF m 28 #[.val (.ref a1), .val (.int p2), .val (.int (64 : Int32))] []))
        refine own_go (fun _ k => XS.iloadN X108.here hx rfl (hb hby d_prog_42_method_11_28) rfl k) ?_
        show OwnGo p e below _ (T108.setTop (mkF m 29 #[.val (.ref a1), .val (.int p2), .val (.int (64 : Int32))] [(.int p2)]))
        refine own_go (fun _ k => XS.iloadN X108.here hx rfl (hb hby d_prog_42_method_11_29) rfl k) ?_
        show OwnGo p e below _ (T108.setTop (mkF m 30 #[.val (.ref a1), .val (.int p2), .val (.int (64 : Int32))] [(.int (64 : Int32)), (.int p2)]))
        refine own_go (fun _ k => XS.bipush X108.here hx rfl (hb hby d_prog_42_method_11_30) k) ?_
        show OwnGo p e below _ (T108.setTop (mkF m 32 #[.val (.ref a1), .val (.int p2), .val (.int (64 : Int32))] [(.int (8 : Int32)), (.int (64 : Int32)), (.int p2)]))
        refine own_go (fun _ k => XS.idiv X108.here hx rfl (hb hby d_prog_42_method_11_32) rfl (by decide) k) ?_
        show OwnGo p e below _ (T108.setTop (mkF m 33 #[.val (.ref a1), .val (.int p2), .val (.int (64 : Int32))] [(.int ((64 : Int32) / (8 : Int32))), (.int p2)]))
        rw [show ((64 : Int32) / (8 : Int32)) = (8 : Int32) from by decide]
        show OwnGo p e below _ (T108.setTop (mkF m 33 #[.val (.ref a1), .val (.int p2), .val (.int (64 : Int32))] [(.int (8 : Int32)), (.int p2)]))
        refine own_go (fun _ k => XS.icmpYes X108.here hx rfl (pc0 := 33) (pc' := 49) rfl (hb hby d_prog_42_method_11_33) rfl (tlt (Int32.lt_trans (by decide) hc111)).2.2.1 (by decide) (by decide) k) ?_
        show OwnGo p e below _ (T108.setTop (mkF m 49 #[.val (.ref a1), .val (.int p2), .val (.int (64 : Int32))] []))
        refine own_go (fun _ k => XS.iloadN X108.here hx rfl (hb hby d_prog_42_method_11_49) rfl k) ?_
        show OwnGo p e below _ (T108.setTop (mkF m 50 #[.val (.ref a1), .val (.int p2), .val (.int (64 : Int32))] [(.int (64 : Int32))]))
        obtain ⟨fs, hr, hrun, hended, hW, hsame⟩ := X108.leave (v := some (.int (64 : Int32))) (fun h => by rw [Bd.returns] at h; cases h)
        refine ⟨_, _, retOut X108 hx Bd.returns rfl (Or.inl ⟨rfl, Or.inl rfl, _, rfl⟩) (hb hby d_prog_42_method_11_50) hr, hrun, hended, _, _, rfl, ?_, ⟨_, rfl⟩, hW, hsame.mono (by decide) (by decide)⟩
        show Q_bf Z aNONE aEXPIRING_KEYS aALL_KEYS a1 p2 a2 k2 r0 h0 n0 _ T108.heap _
        rw [e108]
        exact ⟨(by rw [← hr0]; simp only [own_bf, hc110, hc111, hc112, if_true, if_false]), N0, rfl⟩
    · refine own_go (fun _ k => XS.icmpYes X108.here hx rfl (pc0 := 12) (pc' := 28) rfl (hb hby d_prog_42_method_11_12) rfl (flt hc111).2.2.2 (by decide) (by decide) k) ?_
      show OwnGo p e below _ (T108.setTop (mkF m 28 #[.val (.ref a1), .val (.int p2), .val (.int (32 : Int32))] []))
      refine own_go (fun _ k => XS.iloadN X108.here hx rfl (hb hby d_prog_42_method_11_28) rfl k) ?_
      show OwnGo p e below _ (T108.setTop (mkF m 29 #[.val (.ref a1), .val (.int p2), .val (.int (32 : Int32))] [(.int p2)]))
      refine own_go (fun _ k => XS.iloadN X108.here hx rfl (hb hby d_prog_42_method_11_29) rfl k) ?_
      show OwnGo p e below _ (T108.setTop (mkF m 30 #[.val (.ref a1), .val (.int p2), .val (.int (32 : Int32))] [(.int (32 : Int32)), (.int p2)]))
      refine own_go (fun _ k => XS.bipush X108.here hx rfl (hb hby d_prog_42_method_11_30) k) ?_
      show OwnGo p e below _ (T108.setTop (mkF m 32 #[.val (.ref a1), .val (.int p2), .val (.int (32 : Int32))] [(.int (8 : Int32)), (.int (32 : Int32)), (.int p2)]))
      refine own_go (fun _ k => XS.idiv X108.here hx rfl (hb hby d_prog_42_method_11_32) rfl (by decide) k) ?_
      show OwnGo p e below _ (T108.setTop (mkF m 33 #[.val (.ref a1), .val (.int p2), .val (.int (32 : Int32))] [(.int ((32 : Int32) / (8 : Int32))), (.int p2)]))
      rw [show ((32 : Int32) / (8 : Int32)) = (4 : Int32) from by decide]
      show OwnGo p e below _ (T108.setTop (mkF m 33 #[.val (.ref a1), .val (.int p2), .val (.int (32 : Int32))] [(.int (4 : Int32)), (.int p2)]))
      refine own_go (fun _ k => XS.icmpYes X108.here hx rfl (pc0 := 33) (pc' := 49) rfl (hb hby d_prog_42_method_11_33) rfl (tlt (Int32.lt_trans (by decide) hc110)).2.2.1 (by decide) (by decide) k) ?_
      show OwnGo p e below _ (T108.setTop (mkF m 49 #[.val (.ref a1), .val (.int p2), .val (.int (32 : Int32))] []))
      refine own_go (fun _ k => XS.iloadN X108.here hx rfl (hb hby d_prog_42_method_11_49) rfl k) ?_
      show OwnGo p e below _ (T108.setTop (mkF m 50 #[.val (.ref a1), .val (.int p2), .val (.int (32 : Int32))] [(.int (32 : Int32))]))
      obtain ⟨fs, hr, hrun, hended, hW, hsame⟩ := X108.leave (v := some (.int (32 : Int32))) (fun h => by rw [Bd.returns] at h; cases h)
      refine ⟨_, _, retOut X108 hx Bd.returns rfl (Or.inl ⟨rfl, Or.inl rfl, _, rfl⟩) (hb hby d_prog_42_method_11_50) hr, hrun, hended, _, _, rfl, ?_, ⟨_, rfl⟩, hW, hsame.mono (by decide) (by decide)⟩
      show Q_bf Z aNONE aEXPIRING_KEYS aALL_KEYS a1 p2 a2 k2 r0 h0 n0 _ T108.heap _
      rw [e108]
      exact ⟨(by rw [← hr0]; simp only [own_bf, hc110, hc111, if_true, if_false]), N0, rfl⟩
  · refine own_go (fun _ k => XS.icmpYes X108.here hx rfl (pc0 := 12) (pc' := 28) rfl (hb hby d_prog_42_method_11_12) rfl (flt hc110).2.2.2 (by decide) (by decide) k) ?_
    show OwnGo p e below _ (T108.setTop (mkF m 28 #[.val (.ref a1), .val (.int p2), .val (.int (16 : Int32))] []))
    refine own_go (fun _ k => XS.iloadN X108.here hx rfl (hb hby d_prog_42_method_11_28) rfl k) ?_
    show OwnGo p e below _ (T108.setTop (mkF m 29 #[.val (.ref a1), .val (.int p2), .val (.int (16 : Int32))] [(.int p2)]))
    refine own_go (fun _ k => XS.iloadN X108.here hx rfl (hb hby d_prog_42_method_11_29) rfl k) ?_
    show OwnGo p e below _ (T108.setTop (mkF m 30 #[.val (.ref a1), .val (.int p2), .val (.int (16 : Int32))] [(.int (16 : Int32)), (.int p2)]))
    refine own_go (fun _ k => XS.bipush X108.here hx rfl (hb hby d_prog_42_method_11_30) k) ?_
    show OwnGo p e below _ (T108.setTop (mkF m 32 #[.val (.ref a1), .val (.int p2), .val (.int (16 : Int32))] [(.int (8 : Int32)), (.int (16 : Int32)), (.int p2)]))
    refine own_go (fun _ k => XS.idiv X108.here hx rfl (hb hby d_prog_42_method_11_32) rfl (by decide) k) ?_
    show OwnGo p e below _ (T108.setTop (mkF m 33 #[.val (.ref a1), .val (.int p2), .val (.int (16 : Int32))] [(.int ((16 : Int32) / (8 : Int32))), (.int p2)]))
    rw [show ((16 : Int32) / (8 : Int32)) = (2 : Int32) from by decide]
    show OwnGo p e below _ (T108.setTop (mkF m 33 #[.val (.ref a1), .val (.int p2), .val (.int (16 : Int32))] [(.int (2 : Int32)), (.int p2)]))
    by_cases hc137 : (2 : Int32) < p2
    · refine own_go (fun _ k => XS.icmpYes X108.here hx rfl (pc0 := 33) (pc' := 49) rfl (hb hby d_prog_42_method_11_33) rfl (tlt hc137).2.2.1 (by decide) (by decide) k) ?_
      show OwnGo p e below _ (T108.setTop (mkF m 49 #[.val (.ref a1), .val (.int p2), .val (.int (16 : Int32))] []))
      refine own_go (fun _ k => XS.iloadN X108.here hx rfl (hb hby d_prog_42_method_11_49) rfl k) ?_
      show OwnGo p e below _ (T108.setTop (mkF m 50 #[.val (.ref a1), .val (.int p2), .val (.int (16 : Int32))] [(.int (16 : Int32))]))
      obtain ⟨fs, hr, hrun, hended, hW, hsame⟩ := X108.leave (v := some (.int (16 : Int32))) (fun h => by rw [Bd.returns] at h; cases h)
      refine ⟨_, _, retOut X108 hx Bd.returns rfl (Or.inl ⟨rfl, Or.inl rfl, _, rfl⟩) (hb hby d_prog_42_method_11_50) hr, hrun, hended, _, _, rfl, ?_, ⟨_, rfl⟩, hW, hsame.mono (by decide) (by decide)⟩
      show Q_bf Z aNONE aEXPIRING_KEYS aALL_KEYS a1 p2 a2 k2 r0 h0 n0 _ T108.heap _
      rw [e108]
      exact ⟨(by rw [← hr0]; simp only [own_bf, hc110, if_true, if_false]), N0, rfl⟩
    · refine own_go (fun _ k => XS.icmpNo X108.here hx rfl (hb hby d_prog_42_method_11_33) rfl (flt hc137).2.2.1 k) ?_
      show OwnGo p e below _ (T108.setTop (mkF m 36 #[.val (.ref a1), .val (.int p2), .val (.int (16 : Int32))] []))
      refine own_go (fun _ k => XS.iloadN X108.here hx rfl (hb hby d_prog_42_method_11_36) rfl k) ?_
      show OwnGo p e below _ (T108.setTop (mkF m 37 #[.val (.ref a1), .val (.int p2), .val (.int (16 : Int32))] [(.int (16 : Int32))]))
      refine own_go (fun _ k => XS.bipush X108.here hx rfl (hb hby d_prog_42_method_11_37) k) ?_
      show OwnGo p e below _ (T108.setTop (mkF m 39 #[.val (.ref a1), .val (.int p2), .val (.int (16 : Int32))] [(.int (16 : Int32)), (.int (16 : Int32))]))
      refine own_go (fun _ k => XS.icmpYes X108.here hx rfl (pc0 := 39) (pc' := 49) rfl (hb hby d_prog_42_method_11_39) rfl (by decide) (by decide) (by decide) k) ?_
      show OwnGo p e below _ (T108.setTop (mkF m 49 #[.val (.ref a1), .val (.int p2), .val (.int (16 : Int32))] []))
      refine own_go (fun _ k => XS.iloadN X108.here hx rfl (hb hby d_prog_42_method_11_49) rfl k) ?_
      show OwnGo p e below _ (T108.setTop (mkF m 50 #[.val (.ref a1), .val (.int p2), .val (.int (16 : Int32))] [(.int (16 : Int32))]))
      obtain ⟨fs, hr, hrun, hended, hW, hsame⟩ := X108.leave (v := some (.int (16 : Int32))) (fun h => by rw [Bd.returns] at h; cases h)
      refine ⟨_, _, retOut X108 hx Bd.returns rfl (Or.inl ⟨rfl, Or.inl rfl, _, rfl⟩) (hb hby d_prog_42_method_11_50) hr, hrun, hended, _, _, rfl, ?_, ⟨_, rfl⟩, hW, hsame.mono (by decide) (by decide)⟩
      show Q_bf Z aNONE aEXPIRING_KEYS aALL_KEYS a1 p2 a2 k2 r0 h0 n0 _ T108.heap _
      rw [e108]
      exact ⟨(by rw [← hr0]; simp only [own_bf, hc110, if_true, if_false]), N0, rfl⟩
theorem pd_J_J__V : parseMethodDescriptor "(JJ)V" = some ⟨[.long, .long], none⟩ := by decide +kernel
theorem pd_Lcom_example_vesper_vesper_store_SipHash__Lcom_example_vesper_vesper_store_Evictor_Scope___V : parseMethodDescriptor "(Lcom/example/vesper/vesper/store/SipHash;Lcom/example/vesper/vesper/store/Evictor$Scope;)V" = some ⟨[(.object "com/example/vesper/vesper/store/SipHash"), (.object "com/example/vesper/vesper/store/Evictor$Scope")], none⟩ := by decide +kernel
theorem pd_I__I : parseMethodDescriptor "(I)I" = some ⟨[.int], some .int⟩ := by decide +kernel
theorem pd___I : parseMethodDescriptor "()I" = some ⟨[], some .int⟩ := by decide +kernel
theorem pn_com_example_vesper_vesper_store_TableBucketsForPinLaw : plainName "com/example/vesper/vesper/store/TableBucketsForPinLaw" = true := by first | (simp [plainName, overriddenIn]; done) | decide +kernel
def Q_law (Z : State) (aNONE aEXPIRING_KEYS aALL_KEYS : Addr) (q0 : Int64) (q1 : Int64) (p2 : Int32) (p3 : Int32) (p4 : Int32) (h0 : Heap) (n0 : Nat) (v : Option Value) (h : Heap) (L : List Loc) : Prop := v = some (.int (1 : Int32)) ∧ Fr n0 L
theorem ef_law (m : MethodId) (x0 : Int64) (x1 : Int64) (x2 : Int32) (x3 : Int32) (x4 : Int32) : entryFrame m #[(.long x0), (.long x1), (.int x2), (.int x3), (.int x4)] maxLocals = mkF m 0 #[.val (.long x0), .second, .val (.long x1), .second, .val (.int x2), .val (.int x3), .val (.int x4), .unset, .unset, .unset, .unset, .unset, .unset, .unset, .unset, .unset, .unset, .unset] [] := by first | (simp [entryFrame, mkF, argsToLocals, Value.category, maxLocals]; done) | rfl
set_option maxRecDepth 65536 in
set_option maxHeartbeats 40000000 in
theorem rm_law (l : Launch) (Z : State) (a0 : Array Value) (hw : ∀ d ∈ tables_1, d.before a0 Z = true) (ws : List Jvm.Cond) (aNONE aEXPIRING_KEYS aALL_KEYS : Addr) (F0 : OwnFacts Z aNONE aEXPIRING_KEYS aALL_KEYS) (q0 : Int64) (q1 : Int64) (p2 : Int32) (p3 : Int32) (p4 : Int32) (h0 : Heap) (n0 : Nat) (O0 : Old Z n0 h0) :
    MetFree l x (head1 (Jvm.Cond.code x code maxLocals ret :: ws) room_1) (fun a U => a = #[(.long q0), (.long q1), (.int p2), (.int p3), (.int p4)] ∧ Z.Warmed39 U.vm ∧ U.heap = h0) (fun _ _ _ _ _ => True) (fun _ U o U' => ∃ v L, o = .returned v ∧ Q_law Z aNONE aEXPIRING_KEYS aALL_KEYS q0 q1 p2 p3 p4 h0 n0 v U'.heap L ∧ FrameEnd U o U' L 4 26) := by
  refine MetFree.of_bodySF (plainFor_of_name pn_com_example_vesper_vesper_store_TableBucketsForPinLaw) hisR ?_
  intro p e s m args below meth c s₁ Bd hml0 hP hK
  obtain ⟨rfl, hZ, hh⟩ := hP
  have hx := Bd.exec
  have hby := Bd.bytes
  have hml : c.maxLocals = 18 := hml0
  have hown : s.vm.findClass "com/example/vesper/vesper/store/TableBucketsForPinLaw" = some m.cls := findClass_of_methodNamed Bd.named
  have hnm := (name_of_methodNamed Bd.named Bd.method).1
  have X0 : Stand p l e room_1 s m #[(.long q0), (.long q1), (.int p2), (.int p3), (.int p4)] below meth c s₁ [] 0 0 := Stand.of_body Bd
  have e0 : s₁.heap = h0 := by rw [← hh, Bd.state]; rfl
  have N0 := Fr.nil n0
  refine own_go (Q := fun o U' => ∃ v L, o = .returned v ∧ Q_law Z aNONE aEXPIRING_KEYS aALL_KEYS q0 q1 p2 p3 p4 h0 n0 v U'.heap L ∧ FrameEnd s o U' L 4 26) (fun t k => castTop (ef_law m q0 q1 p2 p3 p4) k) ?_
  show OwnGo p e below _ (s₁.setTop (mkF m 0 #[.val (.long q0), .second, .val (.long q1), .second, .val (.int p2), .val (.int p3), .val (.int p4), .unset, .unset, .unset, .unset, .unset, .unset, .unset, .unset, .unset, .unset, .unset] []))
  refine own_go (fun _ k => XS.iload X0.here hx rfl (hb hby at_0) rfl k) ?_
  show OwnGo p e below _ (s₁.setTop (mkF m 2 #[.val (.long q0), .second, .val (.long q1), .second, .val (.int p2), .val (.int p3), .val (.int p4), .unset, .unset, .unset, .unset, .unset, .unset, .unset, .unset, .unset, .unset, .unset] [(.int p2)]))
  refine own_go (fun _ k => Jvm.Stand.ldcI X0 hx hown (mvT hZ (hw _ (List.mem_of_getElem? (i := 0) rfl))) rfl (hb hby at_2) k) ?_
  show OwnGo p e below _ (s₁.setTop (mkF m 4 #[.val (.long q0), .second, .val (.long q1), .second, .val (.int p2), .val (.int p3), .val (.int p4), .unset, .unset, .unset, .unset, .unset, .unset, .unset, .unset, .unset, .unset, .unset] [(.int (2147483647 : Int32)), (.int p2)]))
  refine own_go (fun _ k => XS.iand X0.here hx rfl (hb hby at_4) rfl k) ?_
  show OwnGo p e below _ (s₁.setTop (mkF m 5 #[.val (.long q0), .second, .val (.long q1), .second, .val (.int p2), .val (.int p3), .val (.int p4), .unset, .unset, .unset, .unset, .unset, .unset, .unset, .unset, .unset, .unset, .unset] [(.int (p2 &&& (2147483647 : Int32)))]))
  refine own_go (fun _ k => XS.iconst X0.here hx rfl (hb hby at_5) k) ?_
  show OwnGo p e below _ (s₁.setTop (mkF m 6 #[.val (.long q0), .second, .val (.long q1), .second, .val (.int p2), .val (.int p3), .val (.int p4), .unset, .unset, .unset, .unset, .unset, .unset, .unset, .unset, .unset, .unset, .unset] [(.int (3 : Int32)), (.int (p2 &&& (2147483647 : Int32)))]))
  refine own_go (fun _ k => iremM X0 hx rfl (hb hby at_6) rfl (by decide) k) ?_
  show OwnGo p e below _ (s₁.setTop (mkF m 7 #[.val (.long q0), .second, .val (.long q1), .second, .val (.int p2), .val (.int p3), .val (.int p4), .unset, .unset, .unset, .unset, .unset, .unset, .unset, .unset, .unset, .unset, .unset] [(.int ((p2 &&& (2147483647 : Int32)) % (3 : Int32)))]))
  refine own_go (fun _ k => XS.istore X0.here hx rfl (hb hby at_7) rfl (l' := #[.val (.long q0), .second, .val (.long q1), .second, .val (.int p2), .val (.int p3), .val (.int p4), .val (.int ((p2 &&& (2147483647 : Int32)) % (3 : Int32))), .unset, .unset, .unset, .unset, .unset, .unset, .unset, .unset, .unset, .unset]) rfl k) ?_
  show OwnGo p e below _ (s₁.setTop (mkF m 9 #[.val (.long q0), .second, .val (.long q1), .second, .val (.int p2), .val (.int p3), .val (.int p4), .val (.int ((p2 &&& (2147483647 : Int32)) % (3 : Int32))), .unset, .unset, .unset, .unset, .unset, .unset, .unset, .unset, .unset, .unset] []))
  refine own_go (fun _ k => XS.iload X0.here hx rfl (hb hby at_9) rfl k) ?_
  show OwnGo p e below _ (s₁.setTop (mkF m 11 #[.val (.long q0), .second, .val (.long q1), .second, .val (.int p2), .val (.int p3), .val (.int p4), .val (.int ((p2 &&& (2147483647 : Int32)) % (3 : Int32))), .unset, .unset, .unset, .unset, .unset, .unset, .unset, .unset, .unset, .unset] [(.int ((p2 &&& (2147483647 : Int32)) % (3 : Int32)))]))
  by_cases hc138 : ((p2 &&& (2147483647 : Int32)) % (3 : Int32)) = (0 : Int32)
  · refine own_go (fun _ k => XS.ifNo X0.here hx rfl (hb hby at_11) rfl ((if0 _ _).trans (teq hc138).2) k) ?_
    show OwnGo p e below _ (s₁.setTop (mkF m 14 #[.val (.long q0), .second, .val (.long q1), .second, .val (.int p2), .val (.int p3), .val (.int p4), .val (.int ((p2 &&& (2147483647 : Int32)) % (3 : Int32))), .unset, .unset, .unset, .unset, .unset, .unset, .unset, .unset, .unset, .unset] []))
    obtain ⟨T139, X139, e139, st139⟩ := getS X0 hx hZ hown (host := "") (hw _ (List.mem_of_getElem? (i := 1) rfl)) Via.refl e0 (F0.1.ext O0.2) (g := (mkF m 14 #[.val (.long q0), .second, .val (.long q1), .second, .val (.int p2), .val (.int p3), .val (.int p4), .val (.int ((p2 &&& (2147483647 : Int32)) % (3 : Int32))), .unset, .unset, .unset, .unset, .unset, .unset, .unset, .unset, .unset, .unset] [])) rfl (hb hby at_14)
    refine own_go st139 ?_
    show OwnGo p e below _ (T139.setTop (mkF m 17 #[.val (.long q0), .second, .val (.long q1), .second, .val (.int p2), .val (.int p3), .val (.int p4), .val (.int ((p2 &&& (2147483647 : Int32)) % (3 : Int32))), .unset, .unset, .unset, .unset, .unset, .unset, .unset, .unset, .unset, .unset] [(.ref aNONE)]))
    refine own_go (fun _ k => XS.goto X139.here hx rfl (pc0 := 17) (pc' := 35) rfl (hb hby at_17) (by decide) (by decide) k) ?_
    show OwnGo p e below _ (T139.setTop (mkF m 35 #[.val (.long q0), .second, .val (.long q1), .second, .val (.int p2), .val (.int p3), .val (.int p4), .val (.int ((p2 &&& (2147483647 : Int32)) % (3 : Int32))), .unset, .unset, .unset, .unset, .unset, .unset, .unset, .unset, .unset, .unset] [(.ref aNONE)]))
    refine own_go (fun _ k => XS.astore X139.here hx rfl (hb hby at_35) rfl rfl (l' := #[.val (.long q0), .second, .val (.long q1), .second, .val (.int p2), .val (.int p3), .val (.int p4), .val (.int ((p2 &&& (2147483647 : Int32)) % (3 : Int32))), .val (.ref aNONE), .unset, .unset, .unset, .unset, .unset, .unset, .unset, .unset, .unset]) rfl k) ?_
    show OwnGo p e below _ (T139.setTop (mkF m 37 #[.val (.long q0), .second, .val (.long q1), .second, .val (.int p2), .val (.int p3), .val (.int p4), .val (.int ((p2 &&& (2147483647 : Int32)) % (3 : Int32))), .val (.ref aNONE), .unset, .unset, .unset, .unset, .unset, .unset, .unset, .unset, .unset] []))
    obtain ⟨T140, h140, X140, e140, E140, A140, D140, -, st140⟩ := newO X139 hx hZ hown (hw _ (List.mem_of_getElem? (i := 4) rfl)) (hw _ (List.mem_of_getElem? (i := 5) rfl)) (hw _ (List.mem_of_getElem? (i := 6) rfl)) e139 (g := (mkF m 37 #[.val (.long q0), .second, .val (.long q1), .second, .val (.int p2), .val (.int p3), .val (.int p4), .val (.int ((p2 &&& (2147483647 : Int32)) % (3 : Int32))), .val (.ref aNONE), .unset, .unset, .unset, .unset, .unset, .unset, .unset, .unset, .unset] [])) rfl (hb hby at_37) (by decide) (by decide)
    obtain ⟨a140, g140⟩ : ∃ z, z = h0.size := ⟨_, rfl⟩
    rw [← g140] at A140 D140 st140
    have ge140 : n0 ≤ a140 := Nat.le_trans (own_sz O0) (Nat.le_of_eq g140.symm)
    have gh140 : h0.size ≤ a140 := Nat.le_trans (Nat.le_refl _) (Nat.le_of_eq g140.symm)
    have O140 := O0.ext E140
    have z141 : h0.size ≤ h140.size := Nat.le_trans (Nat.le_refl _) E140.1
    have F142 : Fld Z h140 a140 "com/example/vesper/vesper/store/Table" "buckets" "[Lcom/example/vesper/vesper/store/Entry;" .null := D140 (Or.inl (hw _ (List.mem_of_getElem? (i := 27) rfl))) (ty := (.array (.object "com/example/vesper/vesper/store/Entry"))) (by decide)
    have F143 : Fld Z h140 a140 "com/example/vesper/vesper/store/Table" "hash" "Lcom/example/vesper/vesper/store/SipHash;" .null := D140 (Or.inr (hw _ (List.mem_of_getElem? (i := 29) rfl))) (ty := (.object "com/example/vesper/vesper/store/SipHash")) (by decide)
    have F144 : Fld Z h140 a140 "com/example/vesper/vesper/store/Table" "counted" "Lcom/example/vesper/vesper/store/Evictor$Scope;" .null := D140 (Or.inl (hw _ (List.mem_of_getElem? (i := 31) rfl))) (ty := (.object "com/example/vesper/vesper/store/Evictor$Scope")) (by decide)
    have F145 : Fld Z h140 a140 "com/example/vesper/vesper/store/Table" "tree" "[I" .null := D140 (Or.inl (hw _ (List.mem_of_getElem? (i := 41) rfl))) (ty := (.array .int)) (by decide)
    have F146 : Fld Z h140 a140 "com/example/vesper/vesper/store/Table" "size" "I" (.int (0 : Int32)) := D140 (Or.inl (hw _ (List.mem_of_getElem? (i := 59) rfl))) (ty := .int) (by decide)
    refine own_go st140 ?_
    show OwnGo p e below _ (T140.setTop (mkF m 40 #[.val (.long q0), .second, .val (.long q1), .second, .val (.int p2), .val (.int p3), .val (.int p4), .val (.int ((p2 &&& (2147483647 : Int32)) % (3 : Int32))), .val (.ref aNONE), .unset, .unset, .unset, .unset, .unset, .unset, .unset, .unset, .unset] [(.ref a140)]))
    refine own_go (fun _ k => XS.dup X140.here hx rfl (hb hby at_40) rfl rfl k) ?_
    show OwnGo p e below _ (T140.setTop (mkF m 41 #[.val (.long q0), .second, .val (.long q1), .second, .val (.int p2), .val (.int p3), .val (.int p4), .val (.int ((p2 &&& (2147483647 : Int32)) % (3 : Int32))), .val (.ref aNONE), .unset, .unset, .unset, .unset, .unset, .unset, .unset, .unset, .unset] [(.ref a140), (.ref a140)]))
    obtain ⟨T147, h147, X147, e147, E147, A147, D147, -, st147⟩ := newO X140 hx hZ hown (hw _ (List.mem_of_getElem? (i := 7) rfl)) (hw _ (List.mem_of_getElem? (i := 8) rfl)) (hw _ (List.mem_of_getElem? (i := 9) rfl)) e140 (g := (mkF m 41 #[.val (.long q0), .second, .val (.long q1), .second, .val (.int p2), .val (.int p3), .val (.int p4), .val (.int ((p2 &&& (2147483647 : Int32)) % (3 : Int32))), .val (.ref aNONE), .unset, .unset, .unset, .unset, .unset, .unset, .unset, .unset, .unset] [(.ref a140), (.ref a140)])) rfl (hb hby at_41) (by decide) (by decide)
    obtain ⟨a147, g147⟩ : ∃ z, z = h140.size := ⟨_, rfl⟩
    rw [← g147] at A147 D147 st147
    have ge147 : n0 ≤ a147 := Nat.le_trans (own_sz O140) (Nat.le_of_eq g147.symm)
    have gh147 : h0.size ≤ a147 := Nat.le_trans z141 (Nat.le_of_eq g147.symm)
    have ne148 : a140 ≠ a147 := own_newne g147 A140.lt
    have O147 := O140.ext E147
    have z149 : h0.size ≤ h147.size := Nat.le_trans z141 E147.1
    have F150 : Fld Z h147 a147 "com/example/vesper/vesper/store/SipHash" "k0" "J" (.long (0 : Int64)) := D147 (Or.inr (hw _ (List.mem_of_getElem? (i := 17) rfl))) (ty := .long) (by decide)
    have F151 : Fld Z h147 a147 "com/example/vesper/vesper/store/SipHash" "k1" "J" (.long (0 : Int64)) := D147 (Or.inr (hw _ (List.mem_of_getElem? (i := 19) rfl))) (ty := .long) (by decide)
    refine own_go st147 ?_
    show OwnGo p e below _ (T147.setTop (mkF m 44 #[.val (.long q0), .second, .val (.long q1), .second, .val (.int p2), .val (.int p3), .val (.int p4), .val (.int ((p2 &&& (2147483647 : Int32)) % (3 : Int32))), .val (.ref aNONE), .unset, .unset, .unset, .unset, .unset, .unset, .unset, .unset, .unset] [(.ref a147), (.ref a140), (.ref a140)]))
    refine own_go (fun _ k => XS.dup X147.here hx rfl (hb hby at_44) rfl rfl k) ?_
    show OwnGo p e below _ (T147.setTop (mkF m 45 #[.val (.long q0), .second, .val (.long q1), .second, .val (.int p2), .val (.int p3), .val (.int p4), .val (.int ((p2 &&& (2147483647 : Int32)) % (3 : Int32))), .val (.ref aNONE), .unset, .unset, .unset, .unset, .unset, .unset, .unset, .unset, .unset] [(.ref a147), (.ref a147), (.ref a140), (.ref a140)]))
    refine own_go (fun _ k => XS.lloadN X147.here hx rfl (hb hby at_45) rfl k) ?_
    show OwnGo p e below _ (T147.setTop (mkF m 46 #[.val (.long q0), .second, .val (.long q1), .second, .val (.int p2), .val (.int p3), .val (.int p4), .val (.int ((p2 &&& (2147483647 : Int32)) % (3 : Int32))), .val (.ref aNONE), .unset, .unset, .unset, .unset, .unset, .unset, .unset, .unset, .unset] [(.long q0), (.ref a147), (.ref a147), (.ref a140), (.ref a140)]))
    refine own_go (fun _ k => XS.lloadN X147.here hx rfl (hb hby at_46) rfl k) ?_
    show OwnGo p e below _ (T147.setTop (mkF m 47 #[.val (.long q0), .second, .val (.long q1), .second, .val (.int p2), .val (.int p3), .val (.int p4), .val (.int ((p2 &&& (2147483647 : Int32)) % (3 : Int32))), .val (.ref aNONE), .unset, .unset, .unset, .unset, .unset, .unset, .unset, .unset, .unset] [(.long q1), (.long q0), (.ref a147), (.ref a147), (.ref a140), (.ref a140)]))
    obtain ⟨_, _, ⟨T152, L152, k152, n152⟩, -, X152, ⟨Lc152, hQ152, l152, y152, z152⟩, st152⟩ := X147.specialBack hx (y := (⟨"com/example/vesper/vesper/store/SipHash", "<init>", "(JJ)V"⟩ : MethodName)) rfl hown (mvT hZ (hw _ (List.mem_of_getElem? (i := 10) rfl))) (mvT hZ (hw _ (List.mem_of_getElem? (i := 11) rfl))) (mvT hZ (hw _ (List.mem_of_getElem? (i := 12) rfl))) (by decide) (backOf (W := 3) (rm_sip l Z a0 hw [] aNONE aEXPIRING_KEYS aALL_KEYS F0 a147 q0 q1 h147 n0 O147 F150 F151 A147 ge147) hZ (hw _ (List.mem_of_getElem? (i := 12) rfl)) (hw _ (List.mem_of_getElem? (i := 9) rfl)) (by decide) (by decide)) (g := (mkF m 47 #[.val (.long q0), .second, .val (.long q1), .second, .val (.int p2), .val (.int p3), .val (.int p4), .val (.int ((p2 &&& (2147483647 : Int32)) % (3 : Int32))), .val (.ref aNONE), .unset, .unset, .unset, .unset, .unset, .unset, .unset, .unset, .unset] [(.long q1), (.long q0), (.ref a147), (.ref a147), (.ref a140), (.ref a140)])) rfl (by rw [hml]; rfl) (Steps.refl _) (a := a147) (argsL := [(.long q0), (.long q1)]) (rest := [(.ref a147), (.ref a140), (.ref a140)]) (lenOf pd_J_J__V rfl) rfl (by show 2 * 0 + _ ≤ _; exact Nat.le_of_eq rfl) (hb hby at_47) (fun _ _ => ⟨rfl, e147, (by decide : 2 + 0 ≤ _), (by decide : 8 + 0 ≤ _)⟩)
    dsimp only [Pt.U, Pt.locs, Pt.cells, Pt.slots] at X152 l152 y152 z152 st152 hQ152
    subst l152 y152 z152
    obtain ⟨rfl, Nq152, K152⟩ := hQ152
    have N152 := Fr.app N0 Nq152
    have O152 := O147.keep K152 (allS ge147 all0)
    have e152 : T152.heap = T152.heap := rfl
    have z153 : h0.size ≤ T152.heap.size := Nat.le_trans z149 K152.1
    refine own_go (fun _ k => st152.trans k) ?_
    show OwnGo p e below _ (T152.setTop (mkF m 50 #[.val (.long q0), .second, .val (.long q1), .second, .val (.int p2), .val (.int p3), .val (.int p4), .val (.int ((p2 &&& (2147483647 : Int32)) % (3 : Int32))), .val (.ref aNONE), .unset, .unset, .unset, .unset, .unset, .unset, .unset, .unset, .unset] [(.ref a147), (.ref a140), (.ref a140)]))
    refine own_go (fun _ k => XS.aload X152.here hx rfl (hb hby at_50) rfl rfl k) ?_
    show OwnGo p e below _ (T152.setTop (mkF m 52 #[.val (.long q0), .second, .val (.long q1), .second, .val (.int p2), .val (.int p3), .val (.int p4), .val (.int ((p2 &&& (2147483647 : Int32)) % (3 : Int32))), .val (.ref aNONE), .unset, .unset, .unset, .unset, .unset, .unset, .unset, .unset, .unset] [(.ref aNONE), (.ref a147), (.ref a140), (.ref a140)]))
    have F154 := ((F142.ext E147).keep K152 (ninS ne148 nin0))
    have F155 := ((F143.ext E147).keep K152 (ninS ne148 nin0))
    have F156 := ((F144.ext E147).keep K152 (ninS ne148 nin0))
    have F157 := ((F145.ext E147).keep K152 (ninS ne148 nin0))
    have F158 := ((F146.ext E147).keep K152 (ninS ne148 nin0))
    have F159 := ((A140.ext E147).keep K152)
    have F160 := (A147.keep K152)
    obtain ⟨_, _, ⟨T161, L161, k161, n161⟩, -, X161, ⟨Lc161, hQ161, l161, y161, z161⟩, st161⟩ := X152.specialBack hx (y := (⟨"com/example/vesper/vesper/store/Table", "<init>", "(Lcom/example/vesper/vesper/store/SipHash;Lcom/example/vesper/vesper/store/Evictor$Scope;)V"⟩ : MethodName)) rfl hown (mvT hZ (hw _ (List.mem_of_getElem? (i := 20) rfl))) (mvT hZ (hw _ (List.mem_of_getElem? (i := 21) rfl))) (mvT hZ (hw _ (List.mem_of_getElem? (i := 22) rfl))) (by decide) (backOf (W := 1) (rm_ti0 l Z a0 hw [] aNONE aEXPIRING_KEYS aALL_KEYS F0 a140 a147 T152.heap n0 O152 F154 F155 F156 F157 F158 F159 ge140) hZ (hw _ (List.mem_of_getElem? (i := 22) rfl)) (hw _ (List.mem_of_getElem? (i := 6) rfl)) (by decide) (by decide)) (g := (mkF m 52 #[.val (.long q0), .second, .val (.long q1), .second, .val (.int p2), .val (.int p3), .val (.int p4), .val (.int ((p2 &&& (2147483647 : Int32)) % (3 : Int32))), .val (.ref aNONE), .unset, .unset, .unset, .unset, .unset, .unset, .unset, .unset, .unset] [(.ref aNONE), (.ref a147), (.ref a140), (.ref a140)])) rfl (by rw [hml]; rfl) (Steps.refl _) (a := a140) (argsL := [(.ref a147), (.ref aNONE)]) (rest := [(.ref a140)]) (lenOf pd_Lcom_example_vesper_vesper_store_SipHash__Lcom_example_vesper_vesper_store_Evictor_Scope___V rfl) rfl (by show 2 * 0 + _ ≤ _; exact Nat.le_of_eq rfl) (hb hby at_52) (fun _ _ => ⟨rfl, e152, (by decide : 2 + 1 ≤ _), (by decide : 8 + 16 ≤ _)⟩)
    dsimp only [Pt.U, Pt.locs, Pt.cells, Pt.slots] at X161 l161 y161 z161 st161 hQ161
    subst l161 y161 z161
    obtain ⟨r9_161, k9_161, rfl, Nq161, K161, x161_0, x161_1, x161_2, x161_3⟩ := hQ161
    have N161 := Fr.app N152 Nq161
    have O161 := O152.keep K161 (allS ge140 all0)
    have e161 : T161.heap = T161.heap := rfl
    have z162 : h0.size ≤ T161.heap.size := Nat.le_trans z153 K161.1
    have gex161_3 : n0 ≤ r9_161 := Nat.le_trans (own_sz O152) x161_3
    have ghx161_3 : h0.size ≤ r9_161 := Nat.le_trans z153 x161_3
    have ne163 : a140 ≠ r9_161 := own_newlt F159.lt x161_3
    have ne164 : a147 ≠ r9_161 := own_newlt F160.lt x161_3
    refine own_go (fun _ k => st161.trans k) ?_
    show OwnGo p e below _ (T161.setTop (mkF m 55 #[.val (.long q0), .second, .val (.long q1), .second, .val (.int p2), .val (.int p3), .val (.int p4), .val (.int ((p2 &&& (2147483647 : Int32)) % (3 : Int32))), .val (.ref aNONE), .unset, .unset, .unset, .unset, .unset, .unset, .unset, .unset, .unset] [(.ref a140)]))
    refine own_go (fun _ k => XS.astore X161.here hx rfl (hb hby at_55) rfl rfl (l' := #[.val (.long q0), .second, .val (.long q1), .second, .val (.int p2), .val (.int p3), .val (.int p4), .val (.int ((p2 &&& (2147483647 : Int32)) % (3 : Int32))), .val (.ref aNONE), .val (.ref a140), .unset, .unset, .unset, .unset, .unset, .unset, .unset, .unset]) rfl k) ?_
    show OwnGo p e below _ (T161.setTop (mkF m 57 #[.val (.long q0), .second, .val (.long q1), .second, .val (.int p2), .val (.int p3), .val (.int p4), .val (.int ((p2 &&& (2147483647 : Int32)) % (3 : Int32))), .val (.ref aNONE), .val (.ref a140), .unset, .unset, .unset, .unset, .unset, .unset, .unset, .unset] []))
    refine own_go (fun _ k => XS.iload X161.here hx rfl (hb hby at_57) rfl k) ?_
    show OwnGo p e below _ (T161.setTop (mkF m 59 #[.val (.long q0), .second, .val (.long q1), .second, .val (.int p2), .val (.int p3), .val (.int p4), .val (.int ((p2 &&& (2147483647 : Int32)) % (3 : Int32))), .val (.ref aNONE), .val (.ref a140), .unset, .unset, .unset, .unset, .unset, .unset, .unset, .unset] [(.int p3)]))
    refine own_go (fun _ k => XS.iload X161.here hx rfl (hb hby at_59) rfl k) ?_
    show OwnGo p e below _ (T161.setTop (mkF m 61 #[.val (.long q0), .second, .val (.long q1), .second, .val (.int p2), .val (.int p3), .val (.int p4), .val (.int ((p2 &&& (2147483647 : Int32)) % (3 : Int32))), .val (.ref aNONE), .val (.ref a140), .unset, .unset, .unset, .unset, .unset, .unset, .unset, .unset] [(.int p4), (.int p3)]))
    refine own_go (fun _ k => XS.bipush X161.here hx rfl (hb hby at_61) k) ?_
    show OwnGo p e below _ (T161.setTop (mkF m 63 #[.val (.long q0), .second, .val (.long q1), .second, .val (.int p2), .val (.int p3), .val (.int p4), .val (.int ((p2 &&& (2147483647 : Int32)) % (3 : Int32))), .val (.ref aNONE), .val (.ref a140), .unset, .unset, .unset, .unset, .unset, .unset, .unset, .unset] [(.int (31 : Int32)), (.int p4), (.int p3)]))
    refine own_go (fun _ k => XS.iand X161.here hx rfl (hb hby at_63) rfl k) ?_
    show OwnGo p e below _ (T161.setTop (mkF m 64 #[.val (.long q0), .second, .val (.long q1), .second, .val (.int p2), .val (.int p3), .val (.int p4), .val (.int ((p2 &&& (2147483647 : Int32)) % (3 : Int32))), .val (.ref aNONE), .val (.ref a140), .unset, .unset, .unset, .unset, .unset, .unset, .unset, .unset] [(.int (p4 &&& (31 : Int32))), (.int p3)]))
    refine own_go (fun _ k => XS.ishr X161.here hx rfl (hb hby at_64) rfl k) ?_
    show OwnGo p e below _ (T161.setTop (mkF m 65 #[.val (.long q0), .second, .val (.long q1), .second, .val (.int p2), .val (.int p3), .val (.int p4), .val (.int ((p2 &&& (2147483647 : Int32)) % (3 : Int32))), .val (.ref aNONE), .val (.ref a140), .unset, .unset, .unset, .unset, .unset, .unset, .unset, .unset] [(.int ((p3 >>> ((p4 &&& (31 : Int32)) &&& 31))))]))
    obtain ⟨en, hen⟩ : ∃ z, z = ((p3 >>> ((p4 &&& (31 : Int32)) &&& 31))) := ⟨_, rfl⟩
    rw [← hen]
    show OwnGo p e below _ (T161.setTop (mkF m 65 #[.val (.long q0), .second, .val (.long q1), .second, .val (.int p2), .val (.int p3), .val (.int p4), .val (.int ((p2 &&& (2147483647 : Int32)) % (3 : Int32))), .val (.ref aNONE), .val (.ref a140), .unset, .unset, .unset, .unset, .unset, .unset, .unset, .unset] [(.int en)]))
    refine own_go (fun _ k => XS.istore X161.here hx rfl (hb hby at_65) rfl (l' := #[.val (.long q0), .second, .val (.long q1), .second, .val (.int p2), .val (.int p3), .val (.int p4), .val (.int ((p2 &&& (2147483647 : Int32)) % (3 : Int32))), .val (.ref aNONE), .val (.ref a140), .val (.int en), .unset, .unset, .unset, .unset, .unset, .unset, .unset]) rfl k) ?_
    show OwnGo p e below _ (T161.setTop (mkF m 67 #[.val (.long q0), .second, .val (.long q1), .second, .val (.int p2), .val (.int p3), .val (.int p4), .val (.int ((p2 &&& (2147483647 : Int32)) % (3 : Int32))), .val (.ref aNONE), .val (.ref a140), .val (.int en), .unset, .unset, .unset, .unset, .unset, .unset, .unset] []))
    refine own_go (fun _ k => XS.aload X161.here hx rfl (hb hby at_67) rfl rfl k) ?_
    show OwnGo p e below _ (T161.setTop (mkF m 69 #[.val (.long q0), .second, .val (.long q1), .second, .val (.int p2), .val (.int p3), .val (.int p4), .val (.int ((p2 &&& (2147483647 : Int32)) % (3 : Int32))), .val (.ref aNONE), .val (.ref a140), .val (.int en), .unset, .unset, .unset, .unset, .unset, .unset, .unset] [(.ref a140)]))
    refine own_go (fun _ k => XS.iload X161.here hx rfl (hb hby at_69) rfl k) ?_
    show OwnGo p e below _ (T161.setTop (mkF m 71 #[.val (.long q0), .second, .val (.long q1), .second, .val (.int p2), .val (.int p3), .val (.int p4), .val (.int ((p2 &&& (2147483647 : Int32)) % (3 : Int32))), .val (.ref aNONE), .val (.ref a140), .val (.int en), .unset, .unset, .unset, .unset, .unset, .unset, .unset] [(.int en), (.ref a140)]))
    have F165 := (F159.keep K161)
    obtain ⟨cq166, kq166, qa166, qb166, qc166⟩ := isOf hZ e161 F165
    obtain ⟨_, _, ⟨T166, L166, k166, n166⟩, -, X166, ⟨Lc166, hQ166, l166, y166, z166⟩, st166⟩ := X161.virtualBack hx (y := (⟨"com/example/vesper/vesper/store/Table", "bucketsFor", "(I)I"⟩ : MethodName)) (z := (⟨"com/example/vesper/vesper/store/Table", "bucketsFor", "(I)I"⟩ : MethodName)) hown (mvT hZ (hw _ (List.mem_of_getElem? (i := 42) rfl))) (mvT hZ (hw _ (List.mem_of_getElem? (i := 43) rfl))) (notFace_of_selects (args := #[]) (mvT hZ (hw _ (List.mem_of_getElem? (i := 45) rfl)))) (mvT hZ (hw _ (List.mem_of_getElem? (i := 45) rfl))) (mvT hZ (hw _ (List.mem_of_getElem? (i := 44) rfl))) (by decide) (backOf (W := 0) (rm_bf l Z a0 hw [] aNONE aEXPIRING_KEYS aALL_KEYS F0 a140 en r9_161 k9_161 (own_bf en) T161.heap n0 O161 x161_0 x161_2 rfl) hZ (hw _ (List.mem_of_getElem? (i := 46) rfl)) (hw _ (List.mem_of_getElem? (i := 6) rfl)) (by decide) (by decide)) qa166 qc166 (g := (mkF m 71 #[.val (.long q0), .second, .val (.long q1), .second, .val (.int p2), .val (.int p3), .val (.int p4), .val (.int ((p2 &&& (2147483647 : Int32)) % (3 : Int32))), .val (.ref aNONE), .val (.ref a140), .val (.int en), .unset, .unset, .unset, .unset, .unset, .unset, .unset] [(.int en), (.ref a140)])) rfl (by rw [hml]; rfl) (Steps.refl _) (argsL := [(.int en)]) (rest := []) (lenOf pd_I__I rfl) rfl (by show 2 * 0 + _ ≤ _; exact Nat.le_of_eq rfl) (hb hby at_71) (fun _ _ => ⟨rfl, e161, (by decide : 3 + 0 ≤ _), (by decide : 24 + 0 ≤ _)⟩)
    dsimp only [Pt.U, Pt.locs, Pt.cells, Pt.slots] at X166 l166 y166 z166 st166 hQ166
    subst l166 y166 z166
    obtain ⟨rfl, Nq166, K166⟩ := hQ166
    have N166 := Fr.app N161 Nq166
    refine own_go (fun _ k => st166.trans k) ?_
    show OwnGo p e below _ (T166.setTop (mkF m 74 #[.val (.long q0), .second, .val (.long q1), .second, .val (.int p2), .val (.int p3), .val (.int p4), .val (.int ((p2 &&& (2147483647 : Int32)) % (3 : Int32))), .val (.ref aNONE), .val (.ref a140), .val (.int en), .unset, .unset, .unset, .unset, .unset, .unset, .unset] [(.int (own_bf en))]))
    refine own_go (fun _ k => XS.istore X166.here hx rfl (hb hby at_74) rfl (l' := #[.val (.long q0), .second, .val (.long q1), .second, .val (.int p2), .val (.int p3), .val (.int p4), .val (.int ((p2 &&& (2147483647 : Int32)) % (3 : Int32))), .val (.ref aNONE), .val (.ref a140), .val (.int en), .val (.int (own_bf en)), .unset, .unset, .unset, .unset, .unset, .unset]) rfl k) ?_
    show OwnGo p e below _ (T166.setTop (mkF m 76 #[.val (.long q0), .second, .val (.long q1), .second, .val (.int p2), .val (.int p3), .val (.int p4), .val (.int ((p2 &&& (2147483647 : Int32)) % (3 : Int32))), .val (.ref aNONE), .val (.ref a140), .val (.int en), .val (.int (own_bf en)), .unset, .unset, .unset, .unset, .unset, .unset] []))
    refine own_go (fun _ k => Jvm.Stand.ldcI X166 hx hown (mvT hZ (hw _ (List.mem_of_getElem? (i := 47) rfl))) rfl (hb hby at_76) k) ?_
    show OwnGo p e below _ (T166.setTop (mkF m 78 #[.val (.long q0), .second, .val (.long q1), .second, .val (.int p2), .val (.int p3), .val (.int p4), .val (.int ((p2 &&& (2147483647 : Int32)) % (3 : Int32))), .val (.ref aNONE), .val (.ref a140), .val (.int en), .val (.int (own_bf en)), .unset, .unset, .unset, .unset, .unset, .unset] [(.int (1073741824 : Int32))]))
    refine own_go (fun _ k => XS.istore X166.here hx rfl (hb hby at_78) rfl (l' := #[.val (.long q0), .second, .val (.long q1), .second, .val (.int p2), .val (.int p3), .val (.int p4), .val (.int ((p2 &&& (2147483647 : Int32)) % (3 : Int32))), .val (.ref aNONE), .val (.ref a140), .val (.int en), .val (.int (own_bf en)), .val (.int (1073741824 : Int32)), .unset, .unset, .unset, .unset, .unset]) rfl k) ?_
    show OwnGo p e below _ (T166.setTop (mkF m 80 #[.val (.long q0), .second, .val (.long q1), .second, .val (.int p2), .val (.int p3), .val (.int p4), .val (.int ((p2 &&& (2147483647 : Int32)) % (3 : Int32))), .val (.ref aNONE), .val (.ref a140), .val (.int en), .val (.int (own_bf en)), .val (.int (1073741824 : Int32)), .unset, .unset, .unset, .unset, .unset] []))
    refine own_go (fun _ k => XS.iload X166.here hx rfl (hb hby at_80) rfl k) ?_
    show OwnGo p e below _ (T166.setTop (mkF m 82 #[.val (.long q0), .second, .val (.long q1), .second, .val (.int p2), .val (.int p3), .val (.int p4), .val (.int ((p2 &&& (2147483647 : Int32)) % (3 : Int32))), .val (.ref aNONE), .val (.ref a140), .val (.int en), .val (.int (own_bf en)), .val (.int (1073741824 : Int32)), .unset, .unset, .unset, .unset, .unset] [(.int (own_bf en))]))
    refine own_go (fun _ k => XS.ifNo X166.here hx rfl (hb hby at_82) rfl ((if0 _ _).trans (tlt (own_bf_spec en).1).2.2.2) k) ?_
    show OwnGo p e below _ (T166.setTop (mkF m 85 #[.val (.long q0), .second, .val (.long q1), .second, .val (.int p2), .val (.int p3), .val (.int p4), .val (.int ((p2 &&& (2147483647 : Int32)) % (3 : Int32))), .val (.ref aNONE), .val (.ref a140), .val (.int en), .val (.int (own_bf en)), .val (.int (1073741824 : Int32)), .unset, .unset, .unset, .unset, .unset] []))
    refine own_go (fun _ k => XS.iload X166.here hx rfl (hb hby at_85) rfl k) ?_
    show OwnGo p e below _ (T166.setTop (mkF m 87 #[.val (.long q0), .second, .val (.long q1), .second, .val (.int p2), .val (.int p3), .val (.int p4), .val (.int ((p2 &&& (2147483647 : Int32)) % (3 : Int32))), .val (.ref aNONE), .val (.ref a140), .val (.int en), .val (.int (own_bf en)), .val (.int (1073741824 : Int32)), .unset, .unset, .unset, .unset, .unset] [(.int (own_bf en))]))
    refine own_go (fun _ k => XS.iload X166.here hx rfl (hb hby at_87) rfl k) ?_
    show OwnGo p e below _ (T166.setTop (mkF m 89 #[.val (.long q0), .second, .val (.long q1), .second, .val (.int p2), .val (.int p3), .val (.int p4), .val (.int ((p2 &&& (2147483647 : Int32)) % (3 : Int32))), .val (.ref aNONE), .val (.ref a140), .val (.int en), .val (.int (own_bf en)), .val (.int (1073741824 : Int32)), .unset, .unset, .unset, .unset, .unset] [(.int (own_bf en)), (.int (own_bf en))]))
    refine own_go (fun _ k => XS.iconst X166.here hx rfl (hb hby at_89) k) ?_
    show OwnGo p e below _ (T166.setTop (mkF m 90 #[.val (.long q0), .second, .val (.long q1), .second, .val (.int p2), .val (.int p3), .val (.int p4), .val (.int ((p2 &&& (2147483647 : Int32)) % (3 : Int32))), .val (.ref aNONE), .val (.ref a140), .val (.int en), .val (.int (own_bf en)), .val (.int (1073741824 : Int32)), .unset, .unset, .unset, .unset, .unset] [(.int (1 : Int32)), (.int (own_bf en)), (.int (own_bf en))]))
    refine own_go (fun _ k => XS.isub X166.here hx rfl (hb hby at_90) rfl k) ?_
    show OwnGo p e below _ (T166.setTop (mkF m 91 #[.val (.long q0), .second, .val (.long q1), .second, .val (.int p2), .val (.int p3), .val (.int p4), .val (.int ((p2 &&& (2147483647 : Int32)) % (3 : Int32))), .val (.ref aNONE), .val (.ref a140), .val (.int en), .val (.int (own_bf en)), .val (.int (1073741824 : Int32)), .unset, .unset, .unset, .unset, .unset] [(.int ((own_bf en) - (1 : Int32))), (.int (own_bf en))]))
    refine own_go (fun _ k => XS.iand X166.here hx rfl (hb hby at_91) rfl k) ?_
    show OwnGo p e below _ (T166.setTop (mkF m 92 #[.val (.long q0), .second, .val (.long q1), .second, .val (.int p2), .val (.int p3), .val (.int p4), .val (.int ((p2 &&& (2147483647 : Int32)) % (3 : Int32))), .val (.ref aNONE), .val (.ref a140), .val (.int en), .val (.int (own_bf en)), .val (.int (1073741824 : Int32)), .unset, .unset, .unset, .unset, .unset] [(.int ((own_bf en) &&& ((own_bf en) - (1 : Int32))))]))
    refine own_go (fun _ k => XS.ifNo X166.here hx rfl (hb hby at_92) rfl ((if0 _ _).trans (teq (own_bf_spec en).2.1).2) k) ?_
    show OwnGo p e below _ (T166.setTop (mkF m 95 #[.val (.long q0), .second, .val (.long q1), .second, .val (.int p2), .val (.int p3), .val (.int p4), .val (.int ((p2 &&& (2147483647 : Int32)) % (3 : Int32))), .val (.ref aNONE), .val (.ref a140), .val (.int en), .val (.int (own_bf en)), .val (.int (1073741824 : Int32)), .unset, .unset, .unset, .unset, .unset] []))
    refine own_go (fun _ k => XS.iconst X166.here hx rfl (hb hby at_95) k) ?_
    show OwnGo p e below _ (T166.setTop (mkF m 96 #[.val (.long q0), .second, .val (.long q1), .second, .val (.int p2), .val (.int p3), .val (.int p4), .val (.int ((p2 &&& (2147483647 : Int32)) % (3 : Int32))), .val (.ref aNONE), .val (.ref a140), .val (.int en), .val (.int (own_bf en)), .val (.int (1073741824 : Int32)), .unset, .unset, .unset, .unset, .unset] [(.int (1 : Int32))]))
    refine own_go (fun _ k => XS.goto X166.here hx rfl (pc0 := 96) (pc' := 100) rfl (hb hby at_96) (by decide) (by decide) k) ?_
    show OwnGo p e below _ (T166.setTop (mkF m 100 #[.val (.long q0), .second, .val (.long q1), .second, .val (.int p2), .val (.int p3), .val (.int p4), .val (.int ((p2 &&& (2147483647 : Int32)) % (3 : Int32))), .val (.ref aNONE), .val (.ref a140), .val (.int en), .val (.int (own_bf en)), .val (.int (1073741824 : Int32)), .unset, .unset, .unset, .unset, .unset] [(.int (1 : Int32))]))
    refine own_go (fun _ k => XS.istore X166.here hx rfl (hb hby at_100) rfl (l' := #[.val (.long q0), .second, .val (.long q1), .second, .val (.int p2), .val (.int p3), .val (.int p4), .val (.int ((p2 &&& (2147483647 : Int32)) % (3 : Int32))), .val (.ref aNONE), .val (.ref a140), .val (.int en), .val (.int (own_bf en)), .val (.int (1073741824 : Int32)), .val (.int (1 : Int32)), .unset, .unset, .unset, .unset]) rfl k) ?_
    show OwnGo p e below _ (T166.setTop (mkF m 102 #[.val (.long q0), .second, .val (.long q1), .second, .val (.int p2), .val (.int p3), .val (.int p4), .val (.int ((p2 &&& (2147483647 : Int32)) % (3 : Int32))), .val (.ref aNONE), .val (.ref a140), .val (.int en), .val (.int (own_bf en)), .val (.int (1073741824 : Int32)), .val (.int (1 : Int32)), .unset, .unset, .unset, .unset] []))
    refine own_go (fun _ k => XS.iload X166.here hx rfl (hb hby at_102) rfl k) ?_
    show OwnGo p e below _ (T166.setTop (mkF m 104 #[.val (.long q0), .second, .val (.long q1), .second, .val (.int p2), .val (.int p3), .val (.int p4), .val (.int ((p2 &&& (2147483647 : Int32)) % (3 : Int32))), .val (.ref aNONE), .val (.ref a140), .val (.int en), .val (.int (own_bf en)), .val (.int (1073741824 : Int32)), .val (.int (1 : Int32)), .unset, .unset, .unset, .unset] [(.int (own_bf en))]))
    refine own_go (fun _ k => XS.bipush X166.here hx rfl (hb hby at_104) k) ?_
    show OwnGo p e below _ (T166.setTop (mkF m 106 #[.val (.long q0), .second, .val (.long q1), .second, .val (.int p2), .val (.int p3), .val (.int p4), .val (.int ((p2 &&& (2147483647 : Int32)) % (3 : Int32))), .val (.ref aNONE), .val (.ref a140), .val (.int en), .val (.int (own_bf en)), .val (.int (1073741824 : Int32)), .val (.int (1 : Int32)), .unset, .unset, .unset, .unset] [(.int (16 : Int32)), (.int (own_bf en))]))
    refine own_go (fun _ k => XS.icmpNo X166.here hx rfl (hb hby at_106) rfl (flt (own_bf_spec en).2.2.1).1 k) ?_
    show OwnGo p e below _ (T166.setTop (mkF m 109 #[.val (.long q0), .second, .val (.long q1), .second, .val (.int p2), .val (.int p3), .val (.int p4), .val (.int ((p2 &&& (2147483647 : Int32)) % (3 : Int32))), .val (.ref aNONE), .val (.ref a140), .val (.int en), .val (.int (own_bf en)), .val (.int (1073741824 : Int32)), .val (.int (1 : Int32)), .unset, .unset, .unset, .unset] []))
    refine own_go (fun _ k => XS.iload X166.here hx rfl (hb hby at_109) rfl k) ?_
    show OwnGo p e below _ (T166.setTop (mkF m 111 #[.val (.long q0), .second, .val (.long q1), .second, .val (.int p2), .val (.int p3), .val (.int p4), .val (.int ((p2 &&& (2147483647 : Int32)) % (3 : Int32))), .val (.ref aNONE), .val (.ref a140), .val (.int en), .val (.int (own_bf en)), .val (.int (1073741824 : Int32)), .val (.int (1 : Int32)), .unset, .unset, .unset, .unset] [(.int (own_bf en))]))
    refine own_go (fun _ k => XS.iload X166.here hx rfl (hb hby at_111) rfl k) ?_
    show OwnGo p e below _ (T166.setTop (mkF m 113 #[.val (.long q0), .second, .val (.long q1), .second, .val (.int p2), .val (.int p3), .val (.int p4), .val (.int ((p2 &&& (2147483647 : Int32)) % (3 : Int32))), .val (.ref aNONE), .val (.ref a140), .val (.int en), .val (.int (own_bf en)), .val (.int (1073741824 : Int32)), .val (.int (1 : Int32)), .unset, .unset, .unset, .unset] [(.int (1073741824 : Int32)), (.int (own_bf en))]))
    refine own_go (fun _ k => XS.icmpNo X166.here hx rfl (hb hby at_113) rfl (flt (own_bf_spec en).2.2.2.1).2.2.1 k) ?_
    show OwnGo p e below _ (T166.setTop (mkF m 116 #[.val (.long q0), .second, .val (.long q1), .second, .val (.int p2), .val (.int p3), .val (.int p4), .val (.int ((p2 &&& (2147483647 : Int32)) % (3 : Int32))), .val (.ref aNONE), .val (.ref a140), .val (.int en), .val (.int (own_bf en)), .val (.int (1073741824 : Int32)), .val (.int (1 : Int32)), .unset, .unset, .unset, .unset] []))
    refine own_go (fun _ k => XS.iconst X166.here hx rfl (hb hby at_116) k) ?_
    show OwnGo p e below _ (T166.setTop (mkF m 117 #[.val (.long q0), .second, .val (.long q1), .second, .val (.int p2), .val (.int p3), .val (.int p4), .val (.int ((p2 &&& (2147483647 : Int32)) % (3 : Int32))), .val (.ref aNONE), .val (.ref a140), .val (.int en), .val (.int (own_bf en)), .val (.int (1073741824 : Int32)), .val (.int (1 : Int32)), .unset, .unset, .unset, .unset] [(.int (1 : Int32))]))
    refine own_go (fun _ k => XS.goto X166.here hx rfl (pc0 := 117) (pc' := 121) rfl (hb hby at_117) (by decide) (by decide) k) ?_
    show OwnGo p e below _ (T166.setTop (mkF m 121 #[.val (.long q0), .second, .val (.long q1), .second, .val (.int p2), .val (.int p3), .val (.int p4), .val (.int ((p2 &&& (2147483647 : Int32)) % (3 : Int32))), .val (.ref aNONE), .val (.ref a140), .val (.int en), .val (.int (own_bf en)), .val (.int (1073741824 : Int32)), .val (.int (1 : Int32)), .unset, .unset, .unset, .unset] [(.int (1 : Int32))]))
    refine own_go (fun _ k => XS.istore X166.here hx rfl (hb hby at_121) rfl (l' := #[.val (.long q0), .second, .val (.long q1), .second, .val (.int p2), .val (.int p3), .val (.int p4), .val (.int ((p2 &&& (2147483647 : Int32)) % (3 : Int32))), .val (.ref aNONE), .val (.ref a140), .val (.int en), .val (.int (own_bf en)), .val (.int (1073741824 : Int32)), .val (.int (1 : Int32)), .val (.int (1 : Int32)), .unset, .unset, .unset]) rfl k) ?_
    show OwnGo p e below _ (T166.setTop (mkF m 123 #[.val (.long q0), .second, .val (.long q1), .second, .val (.int p2), .val (.int p3), .val (.int p4), .val (.int ((p2 &&& (2147483647 : Int32)) % (3 : Int32))), .val (.ref aNONE), .val (.ref a140), .val (.int en), .val (.int (own_bf en)), .val (.int (1073741824 : Int32)), .val (.int (1 : Int32)), .val (.int (1 : Int32)), .unset, .unset, .unset] []))
    refine own_go (fun _ k => XS.iload X166.here hx rfl (hb hby at_123) rfl k) ?_
    show OwnGo p e below _ (T166.setTop (mkF m 125 #[.val (.long q0), .second, .val (.long q1), .second, .val (.int p2), .val (.int p3), .val (.int p4), .val (.int ((p2 &&& (2147483647 : Int32)) % (3 : Int32))), .val (.ref aNONE), .val (.ref a140), .val (.int en), .val (.int (own_bf en)), .val (.int (1073741824 : Int32)), .val (.int (1 : Int32)), .val (.int (1 : Int32)), .unset, .unset, .unset] [(.int en)]))
    refine own_go (fun _ k => XS.iload X166.here hx rfl (hb hby at_125) rfl k) ?_
    show OwnGo p e below _ (T166.setTop (mkF m 127 #[.val (.long q0), .second, .val (.long q1), .second, .val (.int p2), .val (.int p3), .val (.int p4), .val (.int ((p2 &&& (2147483647 : Int32)) % (3 : Int32))), .val (.ref aNONE), .val (.ref a140), .val (.int en), .val (.int (own_bf en)), .val (.int (1073741824 : Int32)), .val (.int (1 : Int32)), .val (.int (1 : Int32)), .unset, .unset, .unset] [(.int (own_bf en)), (.int en)]))
    refine own_go (fun _ k => XS.iconst X166.here hx rfl (hb hby at_127) k) ?_
    show OwnGo p e below _ (T166.setTop (mkF m 128 #[.val (.long q0), .second, .val (.long q1), .second, .val (.int p2), .val (.int p3), .val (.int p4), .val (.int ((p2 &&& (2147483647 : Int32)) % (3 : Int32))), .val (.ref aNONE), .val (.ref a140), .val (.int en), .val (.int (own_bf en)), .val (.int (1073741824 : Int32)), .val (.int (1 : Int32)), .val (.int (1 : Int32)), .unset, .unset, .unset] [(.int (4 : Int32)), (.int (own_bf en)), (.int en)]))
    refine own_go (fun _ k => XS.idiv X166.here hx rfl (hb hby at_128) rfl (by decide) k) ?_
    show OwnGo p e below _ (T166.setTop (mkF m 129 #[.val (.long q0), .second, .val (.long q1), .second, .val (.int p2), .val (.int p3), .val (.int p4), .val (.int ((p2 &&& (2147483647 : Int32)) % (3 : Int32))), .val (.ref aNONE), .val (.ref a140), .val (.int en), .val (.int (own_bf en)), .val (.int (1073741824 : Int32)), .val (.int (1 : Int32)), .val (.int (1 : Int32)), .unset, .unset, .unset] [(.int ((own_bf en) / (4 : Int32))), (.int en)]))
    refine own_go (fun _ k => XS.iconst X166.here hx rfl (hb hby at_129) k) ?_
    show OwnGo p e below _ (T166.setTop (mkF m 130 #[.val (.long q0), .second, .val (.long q1), .second, .val (.int p2), .val (.int p3), .val (.int p4), .val (.int ((p2 &&& (2147483647 : Int32)) % (3 : Int32))), .val (.ref aNONE), .val (.ref a140), .val (.int en), .val (.int (own_bf en)), .val (.int (1073741824 : Int32)), .val (.int (1 : Int32)), .val (.int (1 : Int32)), .unset, .unset, .unset] [(.int (3 : Int32)), (.int ((own_bf en) / (4 : Int32))), (.int en)]))
    refine own_go (fun _ k => XS.imul X166.here hx rfl (hb hby at_130) rfl k) ?_
    show OwnGo p e below _ (T166.setTop (mkF m 131 #[.val (.long q0), .second, .val (.long q1), .second, .val (.int p2), .val (.int p3), .val (.int p4), .val (.int ((p2 &&& (2147483647 : Int32)) % (3 : Int32))), .val (.ref aNONE), .val (.ref a140), .val (.int en), .val (.int (own_bf en)), .val (.int (1073741824 : Int32)), .val (.int (1 : Int32)), .val (.int (1 : Int32)), .unset, .unset, .unset] [(.int (((own_bf en) / (4 : Int32)) * (3 : Int32))), (.int en)]))
    by_cases hc167 : (((own_bf en) / (4 : Int32)) * (3 : Int32)) < en
    · refine own_go (fun _ k => XS.icmpNo X166.here hx rfl (hb hby at_131) rfl (tlt hc167).2.2.2 k) ?_
      show OwnGo p e below _ (T166.setTop (mkF m 134 #[.val (.long q0), .second, .val (.long q1), .second, .val (.int p2), .val (.int p3), .val (.int p4), .val (.int ((p2 &&& (2147483647 : Int32)) % (3 : Int32))), .val (.ref aNONE), .val (.ref a140), .val (.int en), .val (.int (own_bf en)), .val (.int (1073741824 : Int32)), .val (.int (1 : Int32)), .val (.int (1 : Int32)), .unset, .unset, .unset] []))
      refine own_go (fun _ k => XS.iload X166.here hx rfl (hb hby at_134) rfl k) ?_
      show OwnGo p e below _ (T166.setTop (mkF m 136 #[.val (.long q0), .second, .val (.long q1), .second, .val (.int p2), .val (.int p3), .val (.int p4), .val (.int ((p2 &&& (2147483647 : Int32)) % (3 : Int32))), .val (.ref aNONE), .val (.ref a140), .val (.int en), .val (.int (own_bf en)), .val (.int (1073741824 : Int32)), .val (.int (1 : Int32)), .val (.int (1 : Int32)), .unset, .unset, .unset] [(.int (own_bf en))]))
      refine own_go (fun _ k => XS.iload X166.here hx rfl (hb hby at_136) rfl k) ?_
      show OwnGo p e below _ (T166.setTop (mkF m 138 #[.val (.long q0), .second, .val (.long q1), .second, .val (.int p2), .val (.int p3), .val (.int p4), .val (.int ((p2 &&& (2147483647 : Int32)) % (3 : Int32))), .val (.ref aNONE), .val (.ref a140), .val (.int en), .val (.int (own_bf en)), .val (.int (1073741824 : Int32)), .val (.int (1 : Int32)), .val (.int (1 : Int32)), .unset, .unset, .unset] [(.int (1073741824 : Int32)), (.int (own_bf en))]))
      refine own_go (fun _ k => XS.icmpNo X166.here hx rfl (hb hby at_138) rfl (teq ((own_bf_spec en).2.2.2.2.1 hc167)).2 k) ?_
      show OwnGo p e below _ (T166.setTop (mkF m 141 #[.val (.long q0), .second, .val (.long q1), .second, .val (.int p2), .val (.int p3), .val (.int p4), .val (.int ((p2 &&& (2147483647 : Int32)) % (3 : Int32))), .val (.ref aNONE), .val (.ref a140), .val (.int en), .val (.int (own_bf en)), .val (.int (1073741824 : Int32)), .val (.int (1 : Int32)), .val (.int (1 : Int32)), .unset, .unset, .unset] []))
      refine own_go (fun _ k => XS.iconst X166.here hx rfl (hb hby at_141) k) ?_
      show OwnGo p e below _ (T166.setTop (mkF m 142 #[.val (.long q0), .second, .val (.long q1), .second, .val (.int p2), .val (.int p3), .val (.int p4), .val (.int ((p2 &&& (2147483647 : Int32)) % (3 : Int32))), .val (.ref aNONE), .val (.ref a140), .val (.int en), .val (.int (own_bf en)), .val (.int (1073741824 : Int32)), .val (.int (1 : Int32)), .val (.int (1 : Int32)), .unset, .unset, .unset] [(.int (1 : Int32))]))
      refine own_go (fun _ k => XS.goto X166.here hx rfl (pc0 := 142) (pc' := 146) rfl (hb hby at_142) (by decide) (by decide) k) ?_
      show OwnGo p e below _ (T166.setTop (mkF m 146 #[.val (.long q0), .second, .val (.long q1), .second, .val (.int p2), .val (.int p3), .val (.int p4), .val (.int ((p2 &&& (2147483647 : Int32)) % (3 : Int32))), .val (.ref aNONE), .val (.ref a140), .val (.int en), .val (.int (own_bf en)), .val (.int (1073741824 : Int32)), .val (.int (1 : Int32)), .val (.int (1 : Int32)), .unset, .unset, .unset] [(.int (1 : Int32))]))
      refine own_go (fun _ k => XS.istore X166.here hx rfl (hb hby at_146) rfl (l' := #[.val (.long q0), .second, .val (.long q1), .second, .val (.int p2), .val (.int p3), .val (.int p4), .val (.int ((p2 &&& (2147483647 : Int32)) % (3 : Int32))), .val (.ref aNONE), .val (.ref a140), .val (.int en), .val (.int (own_bf en)), .val (.int (1073741824 : Int32)), .val (.int (1 : Int32)), .val (.int (1 : Int32)), .val (.int (1 : Int32)), .unset, .unset]) rfl k) ?_
      show OwnGo p e below _ (T166.setTop (mkF m 148 #[.val (.long q0), .second, .val (.long q1), .second, .val (.int p2), .val (.int p3), .val (.int p4), .val (.int ((p2 &&& (2147483647 : Int32)) % (3 : Int32))), .val (.ref aNONE), .val (.ref a140), .val (.int en), .val (.int (own_bf en)), .val (.int (1073741824 : Int32)), .val (.int (1 : Int32)), .val (.int (1 : Int32)), .val (.int (1 : Int32)), .unset, .unset] []))
      refine own_go (fun _ k => XS.iload X166.here hx rfl (hb hby at_148) rfl k) ?_
      show OwnGo p e below _ (T166.setTop (mkF m 150 #[.val (.long q0), .second, .val (.long q1), .second, .val (.int p2), .val (.int p3), .val (.int p4), .val (.int ((p2 &&& (2147483647 : Int32)) % (3 : Int32))), .val (.ref aNONE), .val (.ref a140), .val (.int en), .val (.int (own_bf en)), .val (.int (1073741824 : Int32)), .val (.int (1 : Int32)), .val (.int (1 : Int32)), .val (.int (1 : Int32)), .unset, .unset] [(.int (own_bf en))]))
      refine own_go (fun _ k => XS.bipush X166.here hx rfl (hb hby at_150) k) ?_
      show OwnGo p e below _ (T166.setTop (mkF m 152 #[.val (.long q0), .second, .val (.long q1), .second, .val (.int p2), .val (.int p3), .val (.int p4), .val (.int ((p2 &&& (2147483647 : Int32)) % (3 : Int32))), .val (.ref aNONE), .val (.ref a140), .val (.int en), .val (.int (own_bf en)), .val (.int (1073741824 : Int32)), .val (.int (1 : Int32)), .val (.int (1 : Int32)), .val (.int (1 : Int32)), .unset, .unset] [(.int (16 : Int32)), (.int (own_bf en))]))
      by_cases hc168 : (own_bf en) = (16 : Int32)
      · refine own_go (fun _ k => XS.icmpYes X166.here hx rfl (pc0 := 152) (pc' := 168) rfl (hb hby at_152) rfl (teq hc168).1 (by decide) (by decide) k) ?_
        show OwnGo p e below _ (T166.setTop (mkF m 168 #[.val (.long q0), .second, .val (.long q1), .second, .val (.int p2), .val (.int p3), .val (.int p4), .val (.int ((p2 &&& (2147483647 : Int32)) % (3 : Int32))), .val (.ref aNONE), .val (.ref a140), .val (.int en), .val (.int (own_bf en)), .val (.int (1073741824 : Int32)), .val (.int (1 : Int32)), .val (.int (1 : Int32)), .val (.int (1 : Int32)), .unset, .unset] []))
        refine own_go (fun _ k => XS.iconst X166.here hx rfl (hb hby at_168) k) ?_
        show OwnGo p e below _ (T166.setTop (mkF m 169 #[.val (.long q0), .second, .val (.long q1), .second, .val (.int p2), .val (.int p3), .val (.int p4), .val (.int ((p2 &&& (2147483647 : Int32)) % (3 : Int32))), .val (.ref aNONE), .val (.ref a140), .val (.int en), .val (.int (own_bf en)), .val (.int (1073741824 : Int32)), .val (.int (1 : Int32)), .val (.int (1 : Int32)), .val (.int (1 : Int32)), .unset, .unset] [(.int (1 : Int32))]))
        refine own_go (fun _ k => XS.goto X166.here hx rfl (pc0 := 169) (pc' := 173) rfl (hb hby at_169) (by decide) (by decide) k) ?_
        show OwnGo p e below _ (T166.setTop (mkF m 173 #[.val (.long q0), .second, .val (.long q1), .second, .val (.int p2), .val (.int p3), .val (.int p4), .val (.int ((p2 &&& (2147483647 : Int32)) % (3 : Int32))), .val (.ref aNONE), .val (.ref a140), .val (.int en), .val (.int (own_bf en)), .val (.int (1073741824 : Int32)), .val (.int (1 : Int32)), .val (.int (1 : Int32)), .val (.int (1 : Int32)), .unset, .unset] [(.int (1 : Int32))]))
        refine own_go (fun _ k => XS.istore X166.here hx rfl (hb hby at_173) rfl (l' := #[.val (.long q0), .second, .val (.long q1), .second, .val (.int p2), .val (.int p3), .val (.int p4), .val (.int ((p2 &&& (2147483647 : Int32)) % (3 : Int32))), .val (.ref aNONE), .val (.ref a140), .val (.int en), .val (.int (own_bf en)), .val (.int (1073741824 : Int32)), .val (.int (1 : Int32)), .val (.int (1 : Int32)), .val (.int (1 : Int32)), .val (.int (1 : Int32)), .unset]) rfl k) ?_
        show OwnGo p e below _ (T166.setTop (mkF m 175 #[.val (.long q0), .second, .val (.long q1), .second, .val (.int p2), .val (.int p3), .val (.int p4), .val (.int ((p2 &&& (2147483647 : Int32)) % (3 : Int32))), .val (.ref aNONE), .val (.ref a140), .val (.int en), .val (.int (own_bf en)), .val (.int (1073741824 : Int32)), .val (.int (1 : Int32)), .val (.int (1 : Int32)), .val (.int (1 : Int32)), .val (.int (1 : Int32)), .unset] []))
        refine own_go (fun _ k => XS.aload X166.here hx rfl (hb hby at_175) rfl rfl k) ?_
        show OwnGo p e below _ (T166.setTop (mkF m 177 #[.val (.long q0), .second, .val (.long q1), .second, .val (.int p2), .val (.int p3), .val (.int p4), .val (.int ((p2 &&& (2147483647 : Int32)) % (3 : Int32))), .val (.ref aNONE), .val (.ref a140), .val (.int en), .val (.int (own_bf en)), .val (.int (1073741824 : Int32)), .val (.int (1 : Int32)), .val (.int (1 : Int32)), .val (.int (1 : Int32)), .val (.int (1 : Int32)), .unset] [(.ref a140)]))
        obtain ⟨cq169, kq169, qa169, qb169, qc169⟩ := isOf hZ K166 F165
        obtain ⟨_, _, ⟨T169, L169, k169, n169⟩, -, X169, ⟨Lc169, hQ169, l169, y169, z169⟩, st169⟩ := X166.virtualBack hx (y := (⟨"com/example/vesper/vesper/store/Table", "buckets", "()I"⟩ : MethodName)) (z := (⟨"com/example/vesper/vesper/store/Table", "buckets", "()I"⟩ : MethodName)) hown (mvT hZ (hw _ (List.mem_of_getElem? (i := 48) rfl))) (mvT hZ (hw _ (List.mem_of_getElem? (i := 49) rfl))) (notFace_of_selects (args := #[]) (mvT hZ (hw _ (List.mem_of_getElem? (i := 51) rfl)))) (mvT hZ (hw _ (List.mem_of_getElem? (i := 51) rfl))) (mvT hZ (hw _ (List.mem_of_getElem? (i := 50) rfl))) (by decide) (backOf (W := 0) (rm_bk l Z a0 hw [] aNONE aEXPIRING_KEYS aALL_KEYS F0 a140 r9_161 k9_161 T161.heap n0 O161 x161_0 x161_2) hZ (hw _ (List.mem_of_getElem? (i := 52) rfl)) (hw _ (List.mem_of_getElem? (i := 6) rfl)) (by decide) (by decide)) qa169 qc169 (g := (mkF m 177 #[.val (.long q0), .second, .val (.long q1), .second, .val (.int p2), .val (.int p3), .val (.int p4), .val (.int ((p2 &&& (2147483647 : Int32)) % (3 : Int32))), .val (.ref aNONE), .val (.ref a140), .val (.int en), .val (.int (own_bf en)), .val (.int (1073741824 : Int32)), .val (.int (1 : Int32)), .val (.int (1 : Int32)), .val (.int (1 : Int32)), .val (.int (1 : Int32)), .unset] [(.ref a140)])) rfl (by rw [hml]; rfl) (Steps.refl _) (argsL := []) (rest := []) (lenOf pd___I rfl) rfl (by show 2 * 0 + _ ≤ _; exact Nat.le_of_eq rfl) (hb hby at_177) (fun _ _ => ⟨rfl, K166, (by decide : 3 + 0 ≤ _), (by decide : 24 + 0 ≤ _)⟩)
        dsimp only [Pt.U, Pt.locs, Pt.cells, Pt.slots] at X169 l169 y169 z169 st169 hQ169
        subst l169 y169 z169
        obtain ⟨rfl, Nq169, K169⟩ := hQ169
        have N169 := Fr.app N166 Nq169
        refine own_go (fun _ k => st169.trans k) ?_
        show OwnGo p e below _ (T169.setTop (mkF m 180 #[.val (.long q0), .second, .val (.long q1), .second, .val (.int p2), .val (.int p3), .val (.int p4), .val (.int ((p2 &&& (2147483647 : Int32)) % (3 : Int32))), .val (.ref aNONE), .val (.ref a140), .val (.int en), .val (.int (own_bf en)), .val (.int (1073741824 : Int32)), .val (.int (1 : Int32)), .val (.int (1 : Int32)), .val (.int (1 : Int32)), .val (.int (1 : Int32)), .unset] [(.int (16 : Int32))]))
        refine own_go (fun _ k => XS.bipush X169.here hx rfl (hb hby at_180) k) ?_
        show OwnGo p e below _ (T169.setTop (mkF m 182 #[.val (.long q0), .second, .val (.long q1), .second, .val (.int p2), .val (.int p3), .val (.int p4), .val (.int ((p2 &&& (2147483647 : Int32)) % (3 : Int32))), .val (.ref aNONE), .val (.ref a140), .val (.int en), .val (.int (own_bf en)), .val (.int (1073741824 : Int32)), .val (.int (1 : Int32)), .val (.int (1 : Int32)), .val (.int (1 : Int32)), .val (.int (1 : Int32)), .unset] [(.int (16 : Int32)), (.int (16 : Int32))]))
        refine own_go (fun _ k => XS.icmpNo X169.here hx rfl (hb hby at_182) rfl (by decide) k) ?_
        show OwnGo p e below _ (T169.setTop (mkF m 185 #[.val (.long q0), .second, .val (.long q1), .second, .val (.int p2), .val (.int p3), .val (.int p4), .val (.int ((p2 &&& (2147483647 : Int32)) % (3 : Int32))), .val (.ref aNONE), .val (.ref a140), .val (.int en), .val (.int (own_bf en)), .val (.int (1073741824 : Int32)), .val (.int (1 : Int32)), .val (.int (1 : Int32)), .val (.int (1 : Int32)), .val (.int (1 : Int32)), .unset] []))
        refine own_go (fun _ k => XS.aload X169.here hx rfl (hb hby at_185) rfl rfl k) ?_
        show OwnGo p e below _ (T169.setTop (mkF m 187 #[.val (.long q0), .second, .val (.long q1), .second, .val (.int p2), .val (.int p3), .val (.int p4), .val (.int ((p2 &&& (2147483647 : Int32)) % (3 : Int32))), .val (.ref aNONE), .val (.ref a140), .val (.int en), .val (.int (own_bf en)), .val (.int (1073741824 : Int32)), .val (.int (1 : Int32)), .val (.int (1 : Int32)), .val (.int (1 : Int32)), .val (.int (1 : Int32)), .unset] [(.ref a140)]))
        obtain ⟨cq170, kq170, qa170, qb170, qc170⟩ := isOf hZ K169 F165
        obtain ⟨_, _, ⟨T170, L170, k170, n170⟩, -, X170, ⟨Lc170, hQ170, l170, y170, z170⟩, st170⟩ := X169.virtualBack hx (y := (⟨"com/example/vesper/vesper/store/Table", "size", "()I"⟩ : MethodName)) (z := (⟨"com/example/vesper/vesper/store/Table", "size", "()I"⟩ : MethodName)) hown (mvT hZ (hw _ (List.mem_of_getElem? (i := 53) rfl))) (mvT hZ (hw _ (List.mem_of_getElem? (i := 54) rfl))) (notFace_of_selects (args := #[]) (mvT hZ (hw _ (List.mem_of_getElem? (i := 56) rfl)))) (mvT hZ (hw _ (List.mem_of_getElem? (i := 56) rfl))) (mvT hZ (hw _ (List.mem_of_getElem? (i := 55) rfl))) (by decide) (backOf (W := 0) (rm_sz l Z a0 hw [] aNONE aEXPIRING_KEYS aALL_KEYS F0 a140 T161.heap n0 O161 x161_1) hZ (hw _ (List.mem_of_getElem? (i := 57) rfl)) (hw _ (List.mem_of_getElem? (i := 6) rfl)) (by decide) (by decide)) qa170 qc170 (g := (mkF m 187 #[.val (.long q0), .second, .val (.long q1), .second, .val (.int p2), .val (.int p3), .val (.int p4), .val (.int ((p2 &&& (2147483647 : Int32)) % (3 : Int32))), .val (.ref aNONE), .val (.ref a140), .val (.int en), .val (.int (own_bf en)), .val (.int (1073741824 : Int32)), .val (.int (1 : Int32)), .val (.int (1 : Int32)), .val (.int (1 : Int32)), .val (.int (1 : Int32)), .unset] [(.ref a140)])) rfl (by rw [hml]; rfl) (Steps.refl _) (argsL := []) (rest := []) (lenOf pd___I rfl) rfl (by show 2 * 0 + _ ≤ _; exact Nat.le_of_eq rfl) (hb hby at_187) (fun _ _ => ⟨rfl, K169, (by decide : 3 + 0 ≤ _), (by decide : 24 + 0 ≤ _)⟩)
        dsimp only [Pt.U, Pt.locs, Pt.cells, Pt.slots] at X170 l170 y170 z170 st170 hQ170
        subst l170 y170 z170
        obtain ⟨rfl, Nq170, K170⟩ := hQ170
        have N170 := Fr.app N169 Nq170
        refine own_go (fun _ k => st170.trans k) ?_
        show OwnGo p e below _ (T170.setTop (mkF m 190 #[.val (.long q0), .second, .val (.long q1), .second, .val (.int p2), .val (.int p3), .val (.int p4), .val (.int ((p2 &&& (2147483647 : Int32)) % (3 : Int32))), .val (.ref aNONE), .val (.ref a140), .val (.int en), .val (.int (own_bf en)), .val (.int (1073741824 : Int32)), .val (.int (1 : Int32)), .val (.int (1 : Int32)), .val (.int (1 : Int32)), .val (.int (1 : Int32)), .unset] [(.int (0 : Int32))]))
        refine own_go (fun _ k => XS.ifNo X170.here hx rfl (hb hby at_190) rfl (by decide) k) ?_
        show OwnGo p e below _ (T170.setTop (mkF m 193 #[.val (.long q0), .second, .val (.long q1), .second, .val (.int p2), .val (.int p3), .val (.int p4), .val (.int ((p2 &&& (2147483647 : Int32)) % (3 : Int32))), .val (.ref aNONE), .val (.ref a140), .val (.int en), .val (.int (own_bf en)), .val (.int (1073741824 : Int32)), .val (.int (1 : Int32)), .val (.int (1 : Int32)), .val (.int (1 : Int32)), .val (.int (1 : Int32)), .unset] []))
        refine own_go (fun _ k => XS.iconst X170.here hx rfl (hb hby at_193) k) ?_
        show OwnGo p e below _ (T170.setTop (mkF m 194 #[.val (.long q0), .second, .val (.long q1), .second, .val (.int p2), .val (.int p3), .val (.int p4), .val (.int ((p2 &&& (2147483647 : Int32)) % (3 : Int32))), .val (.ref aNONE), .val (.ref a140), .val (.int en), .val (.int (own_bf en)), .val (.int (1073741824 : Int32)), .val (.int (1 : Int32)), .val (.int (1 : Int32)), .val (.int (1 : Int32)), .val (.int (1 : Int32)), .unset] [(.int (1 : Int32))]))
        refine own_go (fun _ k => XS.goto X170.here hx rfl (pc0 := 194) (pc' := 198) rfl (hb hby at_194) (by decide) (by decide) k) ?_
        show OwnGo p e below _ (T170.setTop (mkF m 198 #[.val (.long q0), .second, .val (.long q1), .second, .val (.int p2), .val (.int p3), .val (.int p4), .val (.int ((p2 &&& (2147483647 : Int32)) % (3 : Int32))), .val (.ref aNONE), .val (.ref a140), .val (.int en), .val (.int (own_bf en)), .val (.int (1073741824 : Int32)), .val (.int (1 : Int32)), .val (.int (1 : Int32)), .val (.int (1 : Int32)), .val (.int (1 : Int32)), .unset] [(.int (1 : Int32))]))
        refine own_go (fun _ k => XS.istore X170.here hx rfl (hb hby at_198) rfl (l' := #[.val (.long q0), .second, .val (.long q1), .second, .val (.int p2), .val (.int p3), .val (.int p4), .val (.int ((p2 &&& (2147483647 : Int32)) % (3 : Int32))), .val (.ref aNONE), .val (.ref a140), .val (.int en), .val (.int (own_bf en)), .val (.int (1073741824 : Int32)), .val (.int (1 : Int32)), .val (.int (1 : Int32)), .val (.int (1 : Int32)), .val (.int (1 : Int32)), .val (.int (1 : Int32))]) rfl k) ?_
        show OwnGo p e below _ (T170.setTop (mkF m 200 #[.val (.long q0), .second, .val (.long q1), .second, .val (.int p2), .val (.int p3), .val (.int p4), .val (.int ((p2 &&& (2147483647 : Int32)) % (3 : Int32))), .val (.ref aNONE), .val (.ref a140), .val (.int en), .val (.int (own_bf en)), .val (.int (1073741824 : Int32)), .val (.int (1 : Int32)), .val (.int (1 : Int32)), .val (.int (1 : Int32)), .val (.int (1 : Int32)), .val (.int (1 : Int32))] []))
        refine own_go (fun _ k => XS.iload X170.here hx rfl (hb hby at_200) rfl k) ?_
        show OwnGo p e below _ (T170.setTop (mkF m 202 #[.val (.long q0), .second, .val (.long q1), .second, .val (.int p2), .val (.int p3), .val (.int p4), .val (.int ((p2 &&& (2147483647 : Int32)) % (3 : Int32))), .val (.ref aNONE), .val (.ref a140), .val (.int en), .val (.int (own_bf en)), .val (.int (1073741824 : Int32)), .val (.int (1 : Int32)), .val (.int (1 : Int32)), .val (.int (1 : Int32)), .val (.int (1 : Int32)), .val (.int (1 : Int32))] [(.int (1 : Int32))]))
        refine own_go (fun _ k => XS.ifNo X170.here hx rfl (hb hby at_202) rfl (by decide) k) ?_
        show OwnGo p e below _ (T170.setTop (mkF m 205 #[.val (.long q0), .second, .val (.long q1), .second, .val (.int p2), .val (.int p3), .val (.int p4), .val (.int ((p2 &&& (2147483647 : Int32)) % (3 : Int32))), .val (.ref aNONE), .val (.ref a140), .val (.int en), .val (.int (own_bf en)), .val (.int (1073741824 : Int32)), .val (.int (1 : Int32)), .val (.int (1 : Int32)), .val (.int (1 : Int32)), .val (.int (1 : Int32)), .val (.int (1 : Int32))] []))
        refine own_go (fun _ k => XS.iload X170.here hx rfl (hb hby at_205) rfl k) ?_
        show OwnGo p e below _ (T170.setTop (mkF m 207 #[.val (.long q0), .second, .val (.long q1), .second, .val (.int p2), .val (.int p3), .val (.int p4), .val (.int ((p2 &&& (2147483647 : Int32)) % (3 : Int32))), .val (.ref aNONE), .val (.ref a140), .val (.int en), .val (.int (own_bf en)), .val (.int (1073741824 : Int32)), .val (.int (1 : Int32)), .val (.int (1 : Int32)), .val (.int (1 : Int32)), .val (.int (1 : Int32)), .val (.int (1 : Int32))] [(.int (1 : Int32))]))
        refine own_go (fun _ k => XS.ifNo X170.here hx rfl (hb hby at_207) rfl (by decide) k) ?_
        show OwnGo p e below _ (T170.setTop (mkF m 210 #[.val (.long q0), .second, .val (.long q1), .second, .val (.int p2), .val (.int p3), .val (.int p4), .val (.int ((p2 &&& (2147483647 : Int32)) % (3 : Int32))), .val (.ref aNONE), .val (.ref a140), .val (.int en), .val (.int (own_bf en)), .val (.int (1073741824 : Int32)), .val (.int (1 : Int32)), .val (.int (1 : Int32)), .val (.int (1 : Int32)), .val (.int (1 : Int32)), .val (.int (1 : Int32))] []))
        refine own_go (fun _ k => XS.iload X170.here hx rfl (hb hby at_210) rfl k) ?_
        show OwnGo p e below _ (T170.setTop (mkF m 212 #[.val (.long q0), .second, .val (.long q1), .second, .val (.int p2), .val (.int p3), .val (.int p4), .val (.int ((p2 &&& (2147483647 : Int32)) % (3 : Int32))), .val (.ref aNONE), .val (.ref a140), .val (.int en), .val (.int (own_bf en)), .val (.int (1073741824 : Int32)), .val (.int (1 : Int32)), .val (.int (1 : Int32)), .val (.int (1 : Int32)), .val (.int (1 : Int32)), .val (.int (1 : Int32))] [(.int (1 : Int32))]))
        refine own_go (fun _ k => XS.ifNo X170.here hx rfl (hb hby at_212) rfl (by decide) k) ?_
        show OwnGo p e below _ (T170.setTop (mkF m 215 #[.val (.long q0), .second, .val (.long q1), .second, .val (.int p2), .val (.int p3), .val (.int p4), .val (.int ((p2 &&& (2147483647 : Int32)) % (3 : Int32))), .val (.ref aNONE), .val (.ref a140), .val (.int en), .val (.int (own_bf en)), .val (.int (1073741824 : Int32)), .val (.int (1 : Int32)), .val (.int (1 : Int32)), .val (.int (1 : Int32)), .val (.int (1 : Int32)), .val (.int (1 : Int32))] []))
        refine own_go (fun _ k => XS.iload X170.here hx rfl (hb hby at_215) rfl k) ?_
        show OwnGo p e below _ (T170.setTop (mkF m 217 #[.val (.long q0), .second, .val (.long q1), .second, .val (.int p2), .val (.int p3), .val (.int p4), .val (.int ((p2 &&& (2147483647 : Int32)) % (3 : Int32))), .val (.ref aNONE), .val (.ref a140), .val (.int en), .val (.int (own_bf en)), .val (.int (1073741824 : Int32)), .val (.int (1 : Int32)), .val (.int (1 : Int32)), .val (.int (1 : Int32)), .val (.int (1 : Int32)), .val (.int (1 : Int32))] [(.int (1 : Int32))]))
        refine own_go (fun _ k => XS.ifNo X170.here hx rfl (hb hby at_217) rfl (by decide) k) ?_
        show OwnGo p e below _ (T170.setTop (mkF m 220 #[.val (.long q0), .second, .val (.long q1), .second, .val (.int p2), .val (.int p3), .val (.int p4), .val (.int ((p2 &&& (2147483647 : Int32)) % (3 : Int32))), .val (.ref aNONE), .val (.ref a140), .val (.int en), .val (.int (own_bf en)), .val (.int (1073741824 : Int32)), .val (.int (1 : Int32)), .val (.int (1 : Int32)), .val (.int (1 : Int32)), .val (.int (1 : Int32)), .val (.int (1 : Int32))] []))
        refine own_go (fun _ k => XS.iload X170.here hx rfl (hb hby at_220) rfl k) ?_
        show OwnGo p e below _ (T170.setTop (mkF m 222 #[.val (.long q0), .second, .val (.long q1), .second, .val (.int p2), .val (.int p3), .val (.int p4), .val (.int ((p2 &&& (2147483647 : Int32)) % (3 : Int32))), .val (.ref aNONE), .val (.ref a140), .val (.int en), .val (.int (own_bf en)), .val (.int (1073741824 : Int32)), .val (.int (1 : Int32)), .val (.int (1 : Int32)), .val (.int (1 : Int32)), .val (.int (1 : Int32)), .val (.int (1 : Int32))] [(.int (1 : Int32))]))
        refine own_go (fun _ k => XS.ifNo X170.here hx rfl (hb hby at_222) rfl (by decide) k) ?_
        show OwnGo p e below _ (T170.setTop (mkF m 225 #[.val (.long q0), .second, .val (.long q1), .second, .val (.int p2), .val (.int p3), .val (.int p4), .val (.int ((p2 &&& (2147483647 : Int32)) % (3 : Int32))), .val (.ref aNONE), .val (.ref a140), .val (.int en), .val (.int (own_bf en)), .val (.int (1073741824 : Int32)), .val (.int (1 : Int32)), .val (.int (1 : Int32)), .val (.int (1 : Int32)), .val (.int (1 : Int32)), .val (.int (1 : Int32))] []))
        refine own_go (fun _ k => XS.iconst X170.here hx rfl (hb hby at_225) k) ?_
        show OwnGo p e below _ (T170.setTop (mkF m 226 #[.val (.long q0), .second, .val (.long q1), .second, .val (.int p2), .val (.int p3), .val (.int p4), .val (.int ((p2 &&& (2147483647 : Int32)) % (3 : Int32))), .val (.ref aNONE), .val (.ref a140), .val (.int en), .val (.int (own_bf en)), .val (.int (1073741824 : Int32)), .val (.int (1 : Int32)), .val (.int (1 : Int32)), .val (.int (1 : Int32)), .val (.int (1 : Int32)), .val (.int (1 : Int32))] [(.int (1 : Int32))]))
        refine own_go (fun _ k => XS.goto X170.here hx rfl (pc0 := 226) (pc' := 230) rfl (hb hby at_226) (by decide) (by decide) k) ?_
        show OwnGo p e below _ (T170.setTop (mkF m 230 #[.val (.long q0), .second, .val (.long q1), .second, .val (.int p2), .val (.int p3), .val (.int p4), .val (.int ((p2 &&& (2147483647 : Int32)) % (3 : Int32))), .val (.ref aNONE), .val (.ref a140), .val (.int en), .val (.int (own_bf en)), .val (.int (1073741824 : Int32)), .val (.int (1 : Int32)), .val (.int (1 : Int32)), .val (.int (1 : Int32)), .val (.int (1 : Int32)), .val (.int (1 : Int32))] [(.int (1 : Int32))]))
        obtain ⟨fs, hr, hrun, hended, hW, hsame⟩ := X170.leave (v := some (.int (1 : Int32))) (fun h => by rw [Bd.returns] at h; cases h)
        refine ⟨_, _, retOut X170 hx Bd.returns rfl (Or.inl ⟨rfl, Or.inr (Or.inl rfl), _, rfl⟩) (hb hby at_230) hr, hrun, hended, _, _, rfl, ?_, ⟨_, rfl⟩, hW, hsame.mono (by decide) (by decide)⟩
        show Q_law Z aNONE aEXPIRING_KEYS aALL_KEYS q0 q1 p2 p3 p4 h0 n0 _ T170.heap _
        rw [K170]
        exact ⟨rfl, N170⟩
      · refine own_go (fun _ k => XS.icmpNo X166.here hx rfl (hb hby at_152) rfl (feq hc168).1 k) ?_
        show OwnGo p e below _ (T166.setTop (mkF m 155 #[.val (.long q0), .second, .val (.long q1), .second, .val (.int p2), .val (.int p3), .val (.int p4), .val (.int ((p2 &&& (2147483647 : Int32)) % (3 : Int32))), .val (.ref aNONE), .val (.ref a140), .val (.int en), .val (.int (own_bf en)), .val (.int (1073741824 : Int32)), .val (.int (1 : Int32)), .val (.int (1 : Int32)), .val (.int (1 : Int32)), .unset, .unset] []))
        refine own_go (fun _ k => XS.iload X166.here hx rfl (hb hby at_155) rfl k) ?_
        show OwnGo p e below _ (T166.setTop (mkF m 157 #[.val (.long q0), .second, .val (.long q1), .second, .val (.int p2), .val (.int p3), .val (.int p4), .val (.int ((p2 &&& (2147483647 : Int32)) % (3 : Int32))), .val (.ref aNONE), .val (.ref a140), .val (.int en), .val (.int (own_bf en)), .val (.int (1073741824 : Int32)), .val (.int (1 : Int32)), .val (.int (1 : Int32)), .val (.int (1 : Int32)), .unset, .unset] [(.int en)]))
        refine own_go (fun _ k => XS.iload X166.here hx rfl (hb hby at_157) rfl k) ?_
        show OwnGo p e below _ (T166.setTop (mkF m 159 #[.val (.long q0), .second, .val (.long q1), .second, .val (.int p2), .val (.int p3), .val (.int p4), .val (.int ((p2 &&& (2147483647 : Int32)) % (3 : Int32))), .val (.ref aNONE), .val (.ref a140), .val (.int en), .val (.int (own_bf en)), .val (.int (1073741824 : Int32)), .val (.int (1 : Int32)), .val (.int (1 : Int32)), .val (.int (1 : Int32)), .unset, .unset] [(.int (own_bf en)), (.int en)]))
        refine own_go (fun _ k => XS.iconst X166.here hx rfl (hb hby at_159) k) ?_
        show OwnGo p e below _ (T166.setTop (mkF m 160 #[.val (.long q0), .second, .val (.long q1), .second, .val (.int p2), .val (.int p3), .val (.int p4), .val (.int ((p2 &&& (2147483647 : Int32)) % (3 : Int32))), .val (.ref aNONE), .val (.ref a140), .val (.int en), .val (.int (own_bf en)), .val (.int (1073741824 : Int32)), .val (.int (1 : Int32)), .val (.int (1 : Int32)), .val (.int (1 : Int32)), .unset, .unset] [(.int (2 : Int32)), (.int (own_bf en)), (.int en)]))
        refine own_go (fun _ k => XS.idiv X166.here hx rfl (hb hby at_160) rfl (by decide) k) ?_
        show OwnGo p e below _ (T166.setTop (mkF m 161 #[.val (.long q0), .second, .val (.long q1), .second, .val (.int p2), .val (.int p3), .val (.int p4), .val (.int ((p2 &&& (2147483647 : Int32)) % (3 : Int32))), .val (.ref aNONE), .val (.ref a140), .val (.int en), .val (.int (own_bf en)), .val (.int (1073741824 : Int32)), .val (.int (1 : Int32)), .val (.int (1 : Int32)), .val (.int (1 : Int32)), .unset, .unset] [(.int ((own_bf en) / (2 : Int32))), (.int en)]))
        refine own_go (fun _ k => XS.iconst X166.here hx rfl (hb hby at_161) k) ?_
        show OwnGo p e below _ (T166.setTop (mkF m 162 #[.val (.long q0), .second, .val (.long q1), .second, .val (.int p2), .val (.int p3), .val (.int p4), .val (.int ((p2 &&& (2147483647 : Int32)) % (3 : Int32))), .val (.ref aNONE), .val (.ref a140), .val (.int en), .val (.int (own_bf en)), .val (.int (1073741824 : Int32)), .val (.int (1 : Int32)), .val (.int (1 : Int32)), .val (.int (1 : Int32)), .unset, .unset] [(.int (4 : Int32)), (.int ((own_bf en) / (2 : Int32))), (.int en)]))
        refine own_go (fun _ k => XS.idiv X166.here hx rfl (hb hby at_162) rfl (by decide) k) ?_
        show OwnGo p e below _ (T166.setTop (mkF m 163 #[.val (.long q0), .second, .val (.long q1), .second, .val (.int p2), .val (.int p3), .val (.int p4), .val (.int ((p2 &&& (2147483647 : Int32)) % (3 : Int32))), .val (.ref aNONE), .val (.ref a140), .val (.int en), .val (.int (own_bf en)), .val (.int (1073741824 : Int32)), .val (.int (1 : Int32)), .val (.int (1 : Int32)), .val (.int (1 : Int32)), .unset, .unset] [(.int (((own_bf en) / (2 : Int32)) / (4 : Int32))), (.int en)]))
        refine own_go (fun _ k => XS.iconst X166.here hx rfl (hb hby at_163) k) ?_
        show OwnGo p e below _ (T166.setTop (mkF m 164 #[.val (.long q0), .second, .val (.long q1), .second, .val (.int p2), .val (.int p3), .val (.int p4), .val (.int ((p2 &&& (2147483647 : Int32)) % (3 : Int32))), .val (.ref aNONE), .val (.ref a140), .val (.int en), .val (.int (own_bf en)), .val (.int (1073741824 : Int32)), .val (.int (1 : Int32)), .val (.int (1 : Int32)), .val (.int (1 : Int32)), .unset, .unset] [(.int (3 : Int32)), (.int (((own_bf en) / (2 : Int32)) / (4 : Int32))), (.int en)]))
        refine own_go (fun _ k => XS.imul X166.here hx rfl (hb hby at_164) rfl k) ?_
        show OwnGo p e below _ (T166.setTop (mkF m 165 #[.val (.long q0), .second, .val (.long q1), .second, .val (.int p2), .val (.int p3), .val (.int p4), .val (.int ((p2 &&& (2147483647 : Int32)) % (3 : Int32))), .val (.ref aNONE), .val (.ref a140), .val (.int en), .val (.int (own_bf en)), .val (.int (1073741824 : Int32)), .val (.int (1 : Int32)), .val (.int (1 : Int32)), .val (.int (1 : Int32)), .unset, .unset] [(.int ((((own_bf en) / (2 : Int32)) / (4 : Int32)) * (3 : Int32))), (.int en)]))
        refine own_go (fun _ k => XS.icmpNo X166.here hx rfl (hb hby at_165) rfl (tlt ((own_bf_spec en).2.2.2.2.2 hc168)).2.2.2 k) ?_
        show OwnGo p e below _ (T166.setTop (mkF m 168 #[.val (.long q0), .second, .val (.long q1), .second, .val (.int p2), .val (.int p3), .val (.int p4), .val (.int ((p2 &&& (2147483647 : Int32)) % (3 : Int32))), .val (.ref aNONE), .val (.ref a140), .val (.int en), .val (.int (own_bf en)), .val (.int (1073741824 : Int32)), .val (.int (1 : Int32)), .val (.int (1 : Int32)), .val (.int (1 : Int32)), .unset, .unset] []))
        refine own_go (fun _ k => XS.iconst X166.here hx rfl (hb hby at_168) k) ?_
        show OwnGo p e below _ (T166.setTop (mkF m 169 #[.val (.long q0), .second, .val (.long q1), .second, .val (.int p2), .val (.int p3), .val (.int p4), .val (.int ((p2 &&& (2147483647 : Int32)) % (3 : Int32))), .val (.ref aNONE), .val (.ref a140), .val (.int en), .val (.int (own_bf en)), .val (.int (1073741824 : Int32)), .val (.int (1 : Int32)), .val (.int (1 : Int32)), .val (.int (1 : Int32)), .unset, .unset] [(.int (1 : Int32))]))
        refine own_go (fun _ k => XS.goto X166.here hx rfl (pc0 := 169) (pc' := 173) rfl (hb hby at_169) (by decide) (by decide) k) ?_
        show OwnGo p e below _ (T166.setTop (mkF m 173 #[.val (.long q0), .second, .val (.long q1), .second, .val (.int p2), .val (.int p3), .val (.int p4), .val (.int ((p2 &&& (2147483647 : Int32)) % (3 : Int32))), .val (.ref aNONE), .val (.ref a140), .val (.int en), .val (.int (own_bf en)), .val (.int (1073741824 : Int32)), .val (.int (1 : Int32)), .val (.int (1 : Int32)), .val (.int (1 : Int32)), .unset, .unset] [(.int (1 : Int32))]))
        refine own_go (fun _ k => XS.istore X166.here hx rfl (hb hby at_173) rfl (l' := #[.val (.long q0), .second, .val (.long q1), .second, .val (.int p2), .val (.int p3), .val (.int p4), .val (.int ((p2 &&& (2147483647 : Int32)) % (3 : Int32))), .val (.ref aNONE), .val (.ref a140), .val (.int en), .val (.int (own_bf en)), .val (.int (1073741824 : Int32)), .val (.int (1 : Int32)), .val (.int (1 : Int32)), .val (.int (1 : Int32)), .val (.int (1 : Int32)), .unset]) rfl k) ?_
        show OwnGo p e below _ (T166.setTop (mkF m 175 #[.val (.long q0), .second, .val (.long q1), .second, .val (.int p2), .val (.int p3), .val (.int p4), .val (.int ((p2 &&& (2147483647 : Int32)) % (3 : Int32))), .val (.ref aNONE), .val (.ref a140), .val (.int en), .val (.int (own_bf en)), .val (.int (1073741824 : Int32)), .val (.int (1 : Int32)), .val (.int (1 : Int32)), .val (.int (1 : Int32)), .val (.int (1 : Int32)), .unset] []))
        refine own_go (fun _ k => XS.aload X166.here hx rfl (hb hby at_175) rfl rfl k) ?_
        show OwnGo p e below _ (T166.setTop (mkF m 177 #[.val (.long q0), .second, .val (.long q1), .second, .val (.int p2), .val (.int p3), .val (.int p4), .val (.int ((p2 &&& (2147483647 : Int32)) % (3 : Int32))), .val (.ref aNONE), .val (.ref a140), .val (.int en), .val (.int (own_bf en)), .val (.int (1073741824 : Int32)), .val (.int (1 : Int32)), .val (.int (1 : Int32)), .val (.int (1 : Int32)), .val (.int (1 : Int32)), .unset] [(.ref a140)]))
        obtain ⟨cq171, kq171, qa171, qb171, qc171⟩ := isOf hZ K166 F165
        obtain ⟨_, _, ⟨T171, L171, k171, n171⟩, -, X171, ⟨Lc171, hQ171, l171, y171, z171⟩, st171⟩ := X166.virtualBack hx (y := (⟨"com/example/vesper/vesper/store/Table", "buckets", "()I"⟩ : MethodName)) (z := (⟨"com/example/vesper/vesper/store/Table", "buckets", "()I"⟩ : MethodName)) hown (mvT hZ (hw _ (List.mem_of_getElem? (i := 48) rfl))) (mvT hZ (hw _ (List.mem_of_getElem? (i := 49) rfl))) (notFace_of_selects (args := #[]) (mvT hZ (hw _ (List.mem_of_getElem? (i := 51) rfl)))) (mvT hZ (hw _ (List.mem_of_getElem? (i := 51) rfl))) (mvT hZ (hw _ (List.mem_of_getElem? (i := 50) rfl))) (by decide) (backOf (W := 0) (rm_bk l Z a0 hw [] aNONE aEXPIRING_KEYS aALL_KEYS F0 a140 r9_161 k9_161 T161.heap n0 O161 x161_0 x161_2) hZ (hw _ (List.mem_of_getElem? (i := 52) rfl)) (hw _ (List.mem_of_getElem? (i := 6) rfl)) (by decide) (by decide)) qa171 qc171 (g := (mkF m 177 #[.val (.long q0), .second, .val (.long q1), .second, .val (.int p2), .val (.int p3), .val (.int p4), .val (.int ((p2 &&& (2147483647 : Int32)) % (3 : Int32))), .val (.ref aNONE), .val (.ref a140), .val (.int en), .val (.int (own_bf en)), .val (.int (1073741824 : Int32)), .val (.int (1 : Int32)), .val (.int (1 : Int32)), .val (.int (1 : Int32)), .val (.int (1 : Int32)), .unset] [(.ref a140)])) rfl (by rw [hml]; rfl) (Steps.refl _) (argsL := []) (rest := []) (lenOf pd___I rfl) rfl (by show 2 * 0 + _ ≤ _; exact Nat.le_of_eq rfl) (hb hby at_177) (fun _ _ => ⟨rfl, K166, (by decide : 3 + 0 ≤ _), (by decide : 24 + 0 ≤ _)⟩)
        dsimp only [Pt.U, Pt.locs, Pt.cells, Pt.slots] at X171 l171 y171 z171 st171 hQ171
        subst l171 y171 z171
        obtain ⟨rfl, Nq171, K171⟩ := hQ171
        have N171 := Fr.app N166 Nq171
        refine own_go (fun _ k => st171.trans k) ?_
        show OwnGo p e below _ (T171.setTop (mkF m 180 #[.val (.long q0), .second, .val (.long q1), .second, .val (.int p2), .val (.int p3), .val (.int p4), .val (.int ((p2 &&& (2147483647 : Int32)) % (3 : Int32))), .val (.ref aNONE), .val (.ref a140), .val (.int en), .val (.int (own_bf en)), .val (.int (1073741824 : Int32)), .val (.int (1 : Int32)), .val (.int (1 : Int32)), .val (.int (1 : Int32)), .val (.int (1 : Int32)), .unset] [(.int (16 : Int32))]))
        refine own_go (fun _ k => XS.bipush X171.here hx rfl (hb hby at_180) k) ?_
        show OwnGo p e below _ (T171.setTop (mkF m 182 #[.val (.long q0), .second, .val (.long q1), .second, .val (.int p2), .val (.int p3), .val (.int p4), .val (.int ((p2 &&& (2147483647 : Int32)) % (3 : Int32))), .val (.ref aNONE), .val (.ref a140), .val (.int en), .val (.int (own_bf en)), .val (.int (1073741824 : Int32)), .val (.int (1 : Int32)), .val (.int (1 : Int32)), .val (.int (1 : Int32)), .val (.int (1 : Int32)), .unset] [(.int (16 : Int32)), (.int (16 : Int32))]))
        refine own_go (fun _ k => XS.icmpNo X171.here hx rfl (hb hby at_182) rfl (by decide) k) ?_
        show OwnGo p e below _ (T171.setTop (mkF m 185 #[.val (.long q0), .second, .val (.long q1), .second, .val (.int p2), .val (.int p3), .val (.int p4), .val (.int ((p2 &&& (2147483647 : Int32)) % (3 : Int32))), .val (.ref aNONE), .val (.ref a140), .val (.int en), .val (.int (own_bf en)), .val (.int (1073741824 : Int32)), .val (.int (1 : Int32)), .val (.int (1 : Int32)), .val (.int (1 : Int32)), .val (.int (1 : Int32)), .unset] []))
        refine own_go (fun _ k => XS.aload X171.here hx rfl (hb hby at_185) rfl rfl k) ?_
        show OwnGo p e below _ (T171.setTop (mkF m 187 #[.val (.long q0), .second, .val (.long q1), .second, .val (.int p2), .val (.int p3), .val (.int p4), .val (.int ((p2 &&& (2147483647 : Int32)) % (3 : Int32))), .val (.ref aNONE), .val (.ref a140), .val (.int en), .val (.int (own_bf en)), .val (.int (1073741824 : Int32)), .val (.int (1 : Int32)), .val (.int (1 : Int32)), .val (.int (1 : Int32)), .val (.int (1 : Int32)), .unset] [(.ref a140)]))
        obtain ⟨cq172, kq172, qa172, qb172, qc172⟩ := isOf hZ K171 F165
        obtain ⟨_, _, ⟨T172, L172, k172, n172⟩, -, X172, ⟨Lc172, hQ172, l172, y172, z172⟩, st172⟩ := X171.virtualBack hx (y := (⟨"com/example/vesper/vesper/store/Table", "size", "()I"⟩ : MethodName)) (z := (⟨"com/example/vesper/vesper/store/Table", "size", "()I"⟩ : MethodName)) hown (mvT hZ (hw _ (List.mem_of_getElem? (i := 53) rfl))) (mvT hZ (hw _ (List.mem_of_getElem? (i := 54) rfl))) (notFace_of_selects (args := #[]) (mvT hZ (hw _ (List.mem_of_getElem? (i := 56) rfl)))) (mvT hZ (hw _ (List.mem_of_getElem? (i := 56) rfl))) (mvT hZ (hw _ (List.mem_of_getElem? (i := 55) rfl))) (by decide) (backOf (W := 0) (rm_sz l Z a0 hw [] aNONE aEXPIRING_KEYS aALL_KEYS F0 a140 T161.heap n0 O161 x161_1) hZ (hw _ (List.mem_of_getElem? (i := 57) rfl)) (hw _ (List.mem_of_getElem? (i := 6) rfl)) (by decide) (by decide)) qa172 qc172 (g := (mkF m 187 #[.val (.long q0), .second, .val (.long q1), .second, .val (.int p2), .val (.int p3), .val (.int p4), .val (.int ((p2 &&& (2147483647 : Int32)) % (3 : Int32))), .val (.ref aNONE), .val (.ref a140), .val (.int en), .val (.int (own_bf en)), .val (.int (1073741824 : Int32)), .val (.int (1 : Int32)), .val (.int (1 : Int32)), .val (.int (1 : Int32)), .val (.int (1 : Int32)), .unset] [(.ref a140)])) rfl (by rw [hml]; rfl) (Steps.refl _) (argsL := []) (rest := []) (lenOf pd___I rfl) rfl (by show 2 * 0 + _ ≤ _; exact Nat.le_of_eq rfl) (hb hby at_187) (fun _ _ => ⟨rfl, K171, (by decide : 3 + 0 ≤ _), (by decide : 24 + 0 ≤ _)⟩)
        dsimp only [Pt.U, Pt.locs, Pt.cells, Pt.slots] at X172 l172 y172 z172 st172 hQ172
        subst l172 y172 z172
        obtain ⟨rfl, Nq172, K172⟩ := hQ172
        have N172 := Fr.app N171 Nq172
        refine own_go (fun _ k => st172.trans k) ?_
        show OwnGo p e below _ (T172.setTop (mkF m 190 #[.val (.long q0), .second, .val (.long q1), .second, .val (.int p2), .val (.int p3), .val (.int p4), .val (.int ((p2 &&& (2147483647 : Int32)) % (3 : Int32))), .val (.ref aNONE), .val (.ref a140), .val (.int en), .val (.int (own_bf en)), .val (.int (1073741824 : Int32)), .val (.int (1 : Int32)), .val (.int (1 : Int32)), .val (.int (1 : Int32)), .val (.int (1 : Int32)), .unset] [(.int (0 : Int32))]))
        refine own_go (fun _ k => XS.ifNo X172.here hx rfl (hb hby at_190) rfl (by decide) k) ?_
        show OwnGo p e below _ (T172.setTop (mkF m 193 #[.val (.long q0), .second, .val (.long q1), .second, .val (.int p2), .val (.int p3), .val (.int p4), .val (.int ((p2 &&& (2147483647 : Int32)) % (3 : Int32))), .val (.ref aNONE), .val (.ref a140), .val (.int en), .val (.int (own_bf en)), .val (.int (1073741824 : Int32)), .val (.int (1 : Int32)), .val (.int (1 : Int32)), .val (.int (1 : Int32)), .val (.int (1 : Int32)), .unset] []))
        refine own_go (fun _ k => XS.iconst X172.here hx rfl (hb hby at_193) k) ?_
        show OwnGo p e below _ (T172.setTop (mkF m 194 #[.val (.long q0), .second, .val (.long q1), .second, .val (.int p2), .val (.int p3), .val (.int p4), .val (.int ((p2 &&& (2147483647 : Int32)) % (3 : Int32))), .val (.ref aNONE), .val (.ref a140), .val (.int en), .val (.int (own_bf en)), .val (.int (1073741824 : Int32)), .val (.int (1 : Int32)), .val (.int (1 : Int32)), .val (.int (1 : Int32)), .val (.int (1 : Int32)), .unset] [(.int (1 : Int32))]))
        refine own_go (fun _ k => XS.goto X172.here hx rfl (pc0 := 194) (pc' := 198) rfl (hb hby at_194) (by decide) (by decide) k) ?_
        show OwnGo p e below _ (T172.setTop (mkF m 198 #[.val (.long q0), .second, .val (.long q1), .second, .val (.int p2), .val (.int p3), .val (.int p4), .val (.int ((p2 &&& (2147483647 : Int32)) % (3 : Int32))), .val (.ref aNONE), .val (.ref a140), .val (.int en), .val (.int (own_bf en)), .val (.int (1073741824 : Int32)), .val (.int (1 : Int32)), .val (.int (1 : Int32)), .val (.int (1 : Int32)), .val (.int (1 : Int32)), .unset] [(.int (1 : Int32))]))
        refine own_go (fun _ k => XS.istore X172.here hx rfl (hb hby at_198) rfl (l' := #[.val (.long q0), .second, .val (.long q1), .second, .val (.int p2), .val (.int p3), .val (.int p4), .val (.int ((p2 &&& (2147483647 : Int32)) % (3 : Int32))), .val (.ref aNONE), .val (.ref a140), .val (.int en), .val (.int (own_bf en)), .val (.int (1073741824 : Int32)), .val (.int (1 : Int32)), .val (.int (1 : Int32)), .val (.int (1 : Int32)), .val (.int (1 : Int32)), .val (.int (1 : Int32))]) rfl k) ?_
        show OwnGo p e below _ (T172.setTop (mkF m 200 #[.val (.long q0), .second, .val (.long q1), .second, .val (.int p2), .val (.int p3), .val (.int p4), .val (.int ((p2 &&& (2147483647 : Int32)) % (3 : Int32))), .val (.ref aNONE), .val (.ref a140), .val (.int en), .val (.int (own_bf en)), .val (.int (1073741824 : Int32)), .val (.int (1 : Int32)), .val (.int (1 : Int32)), .val (.int (1 : Int32)), .val (.int (1 : Int32)), .val (.int (1 : Int32))] []))
        refine own_go (fun _ k => XS.iload X172.here hx rfl (hb hby at_200) rfl k) ?_
        show OwnGo p e below _ (T172.setTop (mkF m 202 #[.val (.long q0), .second, .val (.long q1), .second, .val (.int p2), .val (.int p3), .val (.int p4), .val (.int ((p2 &&& (2147483647 : Int32)) % (3 : Int32))), .val (.ref aNONE), .val (.ref a140), .val (.int en), .val (.int (own_bf en)), .val (.int (1073741824 : Int32)), .val (.int (1 : Int32)), .val (.int (1 : Int32)), .val (.int (1 : Int32)), .val (.int (1 : Int32)), .val (.int (1 : Int32))] [(.int (1 : Int32))]))
        refine own_go (fun _ k => XS.ifNo X172.here hx rfl (hb hby at_202) rfl (by decide) k) ?_
        show OwnGo p e below _ (T172.setTop (mkF m 205 #[.val (.long q0), .second, .val (.long q1), .second, .val (.int p2), .val (.int p3), .val (.int p4), .val (.int ((p2 &&& (2147483647 : Int32)) % (3 : Int32))), .val (.ref aNONE), .val (.ref a140), .val (.int en), .val (.int (own_bf en)), .val (.int (1073741824 : Int32)), .val (.int (1 : Int32)), .val (.int (1 : Int32)), .val (.int (1 : Int32)), .val (.int (1 : Int32)), .val (.int (1 : Int32))] []))
        refine own_go (fun _ k => XS.iload X172.here hx rfl (hb hby at_205) rfl k) ?_
        show OwnGo p e below _ (T172.setTop (mkF m 207 #[.val (.long q0), .second, .val (.long q1), .second, .val (.int p2), .val (.int p3), .val (.int p4), .val (.int ((p2 &&& (2147483647 : Int32)) % (3 : Int32))), .val (.ref aNONE), .val (.ref a140), .val (.int en), .val (.int (own_bf en)), .val (.int (1073741824 : Int32)), .val (.int (1 : Int32)), .val (.int (1 : Int32)), .val (.int (1 : Int32)), .val (.int (1 : Int32)), .val (.int (1 : Int32))] [(.int (1 : Int32))]))
        refine own_go (fun _ k => XS.ifNo X172.here hx rfl (hb hby at_207) rfl (by decide) k) ?_
        show OwnGo p e below _ (T172.setTop (mkF m 210 #[.val (.long q0), .second, .val (.long q1), .second, .val (.int p2), .val (.int p3), .val (.int p4), .val (.int ((p2 &&& (2147483647 : Int32)) % (3 : Int32))), .val (.ref aNONE), .val (.ref a140), .val (.int en), .val (.int (own_bf en)), .val (.int (1073741824 : Int32)), .val (.int (1 : Int32)), .val (.int (1 : Int32)), .val (.int (1 : Int32)), .val (.int (1 : Int32)), .val (.int (1 : Int32))] []))
        refine own_go (fun _ k => XS.iload X172.here hx rfl (hb hby at_210) rfl k) ?_
        show OwnGo p e below _ (T172.setTop (mkF m 212 #[.val (.long q0), .second, .val (.long q1), .second, .val (.int p2), .val (.int p3), .val (.int p4), .val (.int ((p2 &&& (2147483647 : Int32)) % (3 : Int32))), .val (.ref aNONE), .val (.ref a140), .val (.int en), .val (.int (own_bf en)), .val (.int (1073741824 : Int32)), .val (.int (1 : Int32)), .val (.int (1 : Int32)), .val (.int (1 : Int32)), .val (.int (1 : Int32)), .val (.int (1 : Int32))] [(.int (1 : Int32))]))
        refine own_go (fun _ k => XS.ifNo X172.here hx rfl (hb hby at_212) rfl (by decide) k) ?_
        show OwnGo p e below _ (T172.setTop (mkF m 215 #[.val (.long q0), .second, .val (.long q1), .second, .val (.int p2), .val (.int p3), .val (.int p4), .val (.int ((p2 &&& (2147483647 : Int32)) % (3 : Int32))), .val (.ref aNONE), .val (.ref a140), .val (.int en), .val (.int (own_bf en)), .val (.int (1073741824 : Int32)), .val (.int (1 : Int32)), .val (.int (1 : Int32)), .val (.int (1 : Int32)), .val (.int (1 : Int32)), .val (.int (1 : Int32))] []))
        refine own_go (fun _ k => XS.iload X172.here hx rfl (hb hby at_215) rfl k) ?_
        show OwnGo p e below _ (T172.setTop (mkF m 217 #[.val (.long q0), .second, .val (.long q1), .second, .val (.int p2), .val (.int p3), .val (.int p4), .val (.int ((p2 &&& (2147483647 : Int32)) % (3 : Int32))), .val (.ref aNONE), .val (.ref a140), .val (.int en), .val (.int (own_bf en)), .val (.int (1073741824 : Int32)), .val (.int (1 : Int32)), .val (.int (1 : Int32)), .val (.int (1 : Int32)), .val (.int (1 : Int32)), .val (.int (1 : Int32))] [(.int (1 : Int32))]))
        refine own_go (fun _ k => XS.ifNo X172.here hx rfl (hb hby at_217) rfl (by decide) k) ?_
        show OwnGo p e below _ (T172.setTop (mkF m 220 #[.val (.long q0), .second, .val (.long q1), .second, .val (.int p2), .val (.int p3), .val (.int p4), .val (.int ((p2 &&& (2147483647 : Int32)) % (3 : Int32))), .val (.ref aNONE), .val (.ref a140), .val (.int en), .val (.int (own_bf en)), .val (.int (1073741824 : Int32)), .val (.int (1 : Int32)), .val (.int (1 : Int32)), .val (.int (1 : Int32)), .val (.int (1 : Int32)), .val (.int (1 : Int32))] []))
        refine own_go (fun _ k => XS.iload X172.here hx rfl (hb hby at_220) rfl k) ?_
        show OwnGo p e below _ (T172.setTop (mkF m 222 #[.val (.long q0), .second, .val (.long q1), .second, .val (.int p2), .val (.int p3), .val (.int p4), .val (.int ((p2 &&& (2147483647 : Int32)) % (3 : Int32))), .val (.ref aNONE), .val (.ref a140), .val (.int en), .val (.int (own_bf en)), .val (.int (1073741824 : Int32)), .val (.int (1 : Int32)), .val (.int (1 : Int32)), .val (.int (1 : Int32)), .val (.int (1 : Int32)), .val (.int (1 : Int32))] [(.int (1 : Int32))]))
        refine own_go (fun _ k => XS.ifNo X172.here hx rfl (hb hby at_222) rfl (by decide) k) ?_
        show OwnGo p e below _ (T172.setTop (mkF m 225 #[.val (.long q0), .second, .val (.long q1), .second, .val (.int p2), .val (.int p3), .val (.int p4), .val (.int ((p2 &&& (2147483647 : Int32)) % (3 : Int32))), .val (.ref aNONE), .val (.ref a140), .val (.int en), .val (.int (own_bf en)), .val (.int (1073741824 : Int32)), .val (.int (1 : Int32)), .val (.int (1 : Int32)), .val (.int (1 : Int32)), .val (.int (1 : Int32)), .val (.int (1 : Int32))] []))
        refine own_go (fun _ k => XS.iconst X172.here hx rfl (hb hby at_225) k) ?_
        show OwnGo p e below _ (T172.setTop (mkF m 226 #[.val (.long q0), .second, .val (.long q1), .second, .val (.int p2), .val (.int p3), .val (.int p4), .val (.int ((p2 &&& (2147483647 : Int32)) % (3 : Int32))), .val (.ref aNONE), .val (.ref a140), .val (.int en), .val (.int (own_bf en)), .val (.int (1073741824 : Int32)), .val (.int (1 : Int32)), .val (.int (1 : Int32)), .val (.int (1 : Int32)), .val (.int (1 : Int32)), .val (.int (1 : Int32))] [(.int (1 : Int32))]))
        refine own_go (fun _ k => XS.goto X172.here hx rfl (pc0 := 226) (pc' := 230) rfl (hb hby at_226) (by decide) (by decide) k) ?_
        show OwnGo p e below _ (T172.setTop (mkF m 230 #[.val (.long q0), .second, .val (.long q1), .second, .val (.int p2), .val (.int p3), .val (.int p4), .val (.int ((p2 &&& (2147483647 : Int32)) % (3 : Int32))), .val (.ref aNONE), .val (.ref a140), .val (.int en), .val (.int (own_bf en)), .val (.int (1073741824 : Int32)), .val (.int (1 : Int32)), .val (.int (1 : Int32)), .val (.int (1 : Int32)), .val (.int (1 : Int32)), .val (.int (1 : Int32))] [(.int (1 : Int32))]))
        obtain ⟨fs, hr, hrun, hended, hW, hsame⟩ := X172.leave (v := some (.int (1 : Int32))) (fun h => by rw [Bd.returns] at h; cases h)
        refine ⟨_, _, retOut X172 hx Bd.returns rfl (Or.inl ⟨rfl, Or.inr (Or.inl rfl), _, rfl⟩) (hb hby at_230) hr, hrun, hended, _, _, rfl, ?_, ⟨_, rfl⟩, hW, hsame.mono (by decide) (by decide)⟩
        show Q_law Z aNONE aEXPIRING_KEYS aALL_KEYS q0 q1 p2 p3 p4 h0 n0 _ T172.heap _
        rw [K172]
        exact ⟨rfl, N172⟩
    · refine own_go (fun _ k => XS.icmpYes X166.here hx rfl (pc0 := 131) (pc' := 141) rfl (hb hby at_131) rfl (flt hc167).2.2.2 (by decide) (by decide) k) ?_
      show OwnGo p e below _ (T166.setTop (mkF m 141 #[.val (.long q0), .second, .val (.long q1), .second, .val (.int p2), .val (.int p3), .val (.int p4), .val (.int ((p2 &&& (2147483647 : Int32)) % (3 : Int32))), .val (.ref aNONE), .val (.ref a140), .val (.int en), .val (.int (own_bf en)), .val (.int (1073741824 : Int32)), .val (.int (1 : Int32)), .val (.int (1 : Int32)), .unset, .unset, .unset] []))
      refine own_go (fun _ k => XS.iconst X166.here hx rfl (hb hby at_141) k) ?_
      show OwnGo p e below _ (T166.setTop (mkF m 142 #[.val (.long q0), .second, .val (.long q1), .second, .val (.int p2), .val (.int p3), .val (.int p4), .val (.int ((p2 &&& (2147483647 : Int32)) % (3 : Int32))), .val (.ref aNONE), .val (.ref a140), .val (.int en), .val (.int (own_bf en)), .val (.int (1073741824 : Int32)), .val (.int (1 : Int32)), .val (.int (1 : Int32)), .unset, .unset, .unset] [(.int (1 : Int32))]))
      refine own_go (fun _ k => XS.goto X166.here hx rfl (pc0 := 142) (pc' := 146) rfl (hb hby at_142) (by decide) (by decide) k) ?_
      show OwnGo p e below _ (T166.setTop (mkF m 146 #[.val (.long q0), .second, .val (.long q1), .second, .val (.int p2), .val (.int p3), .val (.int p4), .val (.int ((p2 &&& (2147483647 : Int32)) % (3 : Int32))), .val (.ref aNONE), .val (.ref a140), .val (.int en), .val (.int (own_bf en)), .val (.int (1073741824 : Int32)), .val (.int (1 : Int32)), .val (.int (1 : Int32)), .unset, .unset, .unset] [(.int (1 : Int32))]))
      refine own_go (fun _ k => XS.istore X166.here hx rfl (hb hby at_146) rfl (l' := #[.val (.long q0), .second, .val (.long q1), .second, .val (.int p2), .val (.int p3), .val (.int p4), .val (.int ((p2 &&& (2147483647 : Int32)) % (3 : Int32))), .val (.ref aNONE), .val (.ref a140), .val (.int en), .val (.int (own_bf en)), .val (.int (1073741824 : Int32)), .val (.int (1 : Int32)), .val (.int (1 : Int32)), .val (.int (1 : Int32)), .unset, .unset]) rfl k) ?_
      show OwnGo p e below _ (T166.setTop (mkF m 148 #[.val (.long q0), .second, .val (.long q1), .second, .val (.int p2), .val (.int p3), .val (.int p4), .val (.int ((p2 &&& (2147483647 : Int32)) % (3 : Int32))), .val (.ref aNONE), .val (.ref a140), .val (.int en), .val (.int (own_bf en)), .val (.int (1073741824 : Int32)), .val (.int (1 : Int32)), .val (.int (1 : Int32)), .val (.int (1 : Int32)), .unset, .unset] []))
      refine own_go (fun _ k => XS.iload X166.here hx rfl (hb hby at_148) rfl k) ?_
      show OwnGo p e below _ (T166.setTop (mkF m 150 #[.val (.long q0), .second, .val (.long q1), .second, .val (.int p2), .val (.int p3), .val (.int p4), .val (.int ((p2 &&& (2147483647 : Int32)) % (3 : Int32))), .val (.ref aNONE), .val (.ref a140), .val (.int en), .val (.int (own_bf en)), .val (.int (1073741824 : Int32)), .val (.int (1 : Int32)), .val (.int (1 : Int32)), .val (.int (1 : Int32)), .unset, .unset] [(.int (own_bf en))]))
      refine own_go (fun _ k => XS.bipush X166.here hx rfl (hb hby at_150) k) ?_
      show OwnGo p e below _ (T166.setTop (mkF m 152 #[.val (.long q0), .second, .val (.long q1), .second, .val (.int p2), .val (.int p3), .val (.int p4), .val (.int ((p2 &&& (2147483647 : Int32)) % (3 : Int32))), .val (.ref aNONE), .val (.ref a140), .val (.int en), .val (.int (own_bf en)), .val (.int (1073741824 : Int32)), .val (.int (1 : Int32)), .val (.int (1 : Int32)), .val (.int (1 : Int32)), .unset, .unset] [(.int (16 : Int32)), (.int (own_bf en))]))
      by_cases hc173 : (own_bf en) = (16 : Int32)
      · refine own_go (fun _ k => XS.icmpYes X166.here hx rfl (pc0 := 152) (pc' := 168) rfl (hb hby at_152) rfl (teq hc173).1 (by decide) (by decide) k) ?_
        show OwnGo p e below _ (T166.setTop (mkF m 168 #[.val (.long q0), .second, .val (.long q1), .second, .val (.int p2), .val (.int p3), .val (.int p4), .val (.int ((p2 &&& (2147483647 : Int32)) % (3 : Int32))), .val (.ref aNONE), .val (.ref a140), .val (.int en), .val (.int (own_bf en)), .val (.int (1073741824 : Int32)), .val (.int (1 : Int32)), .val (.int (1 : Int32)), .val (.int (1 : Int32)), .unset, .unset] []))
        refine own_go (fun _ k => XS.iconst X166.here hx rfl (hb hby at_168) k) ?_
        show OwnGo p e below _ (T166.setTop (mkF m 169 #[.val (.long q0), .second, .val (.long q1), .second, .val (.int p2), .val (.int p3), .val (.int p4), .val (.int ((p2 &&& (2147483647 : Int32)) % (3 : Int32))), .val (.ref aNONE), .val (.ref a140), .val (.int en), .val (.int (own_bf en)), .val (.int (1073741824 : Int32)), .val (.int (1 : Int32)), .val (.int (1 : Int32)), .val (.int (1 : Int32)), .unset, .unset] [(.int (1 : Int32))]))
        refine own_go (fun _ k => XS.goto X166.here hx rfl (pc0 := 169) (pc' := 173) rfl (hb hby at_169) (by decide) (by decide) k) ?_
        show OwnGo p e below _ (T166.setTop (mkF m 173 #[.val (.long q0), .second, .val (.long q1), .second, .val (.int p2), .val (.int p3), .val (.int p4), .val (.int ((p2 &&& (2147483647 : Int32)) % (3 : Int32))), .val (.ref aNONE), .val (.ref a140), .val (.int en), .val (.int (own_bf en)), .val (.int (1073741824 : Int32)), .val (.int (1 : Int32)), .val (.int (1 : Int32)), .val (.int (1 : Int32)), .unset, .unset] [(.int (1 : Int32))]))
        refine own_go (fun _ k => XS.istore X166.here hx rfl (hb hby at_173) rfl (l' := #[.val (.long q0), .second, .val (.long q1), .second, .val (.int p2), .val (.int p3), .val (.int p4), .val (.int ((p2 &&& (2147483647 : Int32)) % (3 : Int32))), .val (.ref aNONE), .val (.ref a140), .val (.int en), .val (.int (own_bf en)), .val (.int (1073741824 : Int32)), .val (.int (1 : Int32)), .val (.int (1 : Int32)), .val (.int (1 : Int32)), .val (.int (1 : Int32)), .unset]) rfl k) ?_
        show OwnGo p e below _ (T166.setTop (mkF m 175 #[.val (.long q0), .second, .val (.long q1), .second, .val (.int p2), .val (.int p3), .val (.int p4), .val (.int ((p2 &&& (2147483647 : Int32)) % (3 : Int32))), .val (.ref aNONE), .val (.ref a140), .val (.int en), .val (.int (own_bf en)), .val (.int (1073741824 : Int32)), .val (.int (1 : Int32)), .val (.int (1 : Int32)), .val (.int (1 : Int32)), .val (.int (1 : Int32)), .unset] []))
        refine own_go (fun _ k => XS.aload X166.here hx rfl (hb hby at_175) rfl rfl k) ?_
        show OwnGo p e below _ (T166.setTop (mkF m 177 #[.val (.long q0), .second, .val (.long q1), .second, .val (.int p2), .val (.int p3), .val (.int p4), .val (.int ((p2 &&& (2147483647 : Int32)) % (3 : Int32))), .val (.ref aNONE), .val (.ref a140), .val (.int en), .val (.int (own_bf en)), .val (.int (1073741824 : Int32)), .val (.int (1 : Int32)), .val (.int (1 : Int32)), .val (.int (1 : Int32)), .val (.int (1 : Int32)), .unset] [(.ref a140)]))
        obtain ⟨cq174, kq174, qa174, qb174, qc174⟩ := isOf hZ K166 F165
        obtain ⟨_, _, ⟨T174, L174, k174, n174⟩, -, X174, ⟨Lc174, hQ174, l174, y174, z174⟩, st174⟩ := X166.virtualBack hx (y := (⟨"com/example/vesper/vesper/store/Table", "buckets", "()I"⟩ : MethodName)) (z := (⟨"com/example/vesper/vesper/store/Table", "buckets", "()I"⟩ : MethodName)) hown (mvT hZ (hw _ (List.mem_of_getElem? (i := 48) rfl))) (mvT hZ (hw _ (List.mem_of_getElem? (i := 49) rfl))) (notFace_of_selects (args := #[]) (mvT hZ (hw _ (List.mem_of_getElem? (i := 51) rfl)))) (mvT hZ (hw _ (List.mem_of_getElem? (i := 51) rfl))) (mvT hZ (hw _ (List.mem_of_getElem? (i := 50) rfl))) (by decide) (backOf (W := 0) (rm_bk l Z a0 hw [] aNONE aEXPIRING_KEYS aALL_KEYS F0 a140 r9_161 k9_161 T161.heap n0 O161 x161_0 x161_2) hZ (hw _ (List.mem_of_getElem? (i := 52) rfl)) (hw _ (List.mem_of_getElem? (i := 6) rfl)) (by decide) (by decide)) qa174 qc174 (g := (mkF m 177 #[.val (.long q0), .second, .val (.long q1), .second, .val (.int p2), .val (.int p3), .val (.int p4), .val (.int ((p2 &&& (2147483647 : Int32)) % (3 : Int32))), .val (.ref aNONE), .val (.ref a140), .val (.int en), .val (.int (own_bf en)), .val (.int (1073741824 : Int32)), .val (.int (1 : Int32)), .val (.int (1 : Int32)), .val (.int (1 : Int32)), .val (.int (1 : Int32)), .unset] [(.ref a140)])) rfl (by rw [hml]; rfl) (Steps.refl _) (argsL := []) (rest := []) (lenOf pd___I rfl) rfl (by show 2 * 0 + _ ≤ _; exact Nat.le_of_eq rfl) (hb hby at_177) (fun _ _ => ⟨rfl, K166, (by decide : 3 + 0 ≤ _), (by decide : 24 + 0 ≤ _)⟩)
        dsimp only [Pt.U, Pt.locs, Pt.cells, Pt.slots] at X174 l174 y174 z174 st174 hQ174
        subst l174 y174 z174
        obtain ⟨rfl, Nq174, K174⟩ := hQ174
        have N174 := Fr.app N166 Nq174
        refine own_go (fun _ k => st174.trans k) ?_
        show OwnGo p e below _ (T174.setTop (mkF m 180 #[.val (.long q0), .second, .val (.long q1), .second, .val (.int p2), .val (.int p3), .val (.int p4), .val (.int ((p2 &&& (2147483647 : Int32)) % (3 : Int32))), .val (.ref aNONE), .val (.ref a140), .val (.int en), .val (.int (own_bf en)), .val (.int (1073741824 : Int32)), .val (.int (1 : Int32)), .val (.int (1 : Int32)), .val (.int (1 : Int32)), .val (.int (1 : Int32)), .unset] [(.int (16 : Int32))]))
        refine own_go (fun _ k => XS.bipush X174.here hx rfl (hb hby at_180) k) ?_
        show OwnGo p e below _ (T174.setTop (mkF m 182 #[.val (.long q0), .second, .val (.long q1), .second, .val (.int p2), .val (.int p3), .val (.int p4), .val (.int ((p2 &&& (2147483647 : Int32)) % (3 : Int32))), .val (.ref aNONE), .val (.ref a140), .val (.int en), .val (.int (own_bf en)), .val (.int (1073741824 : Int32)), .val (.int (1 : Int32)), .val (.int (1 : Int32)), .val (.int (1 : Int32)), .val (.int (1 : Int32)), .unset] [(.int (16 : Int32)), (.int (16 : Int32))]))
        refine own_go (fun _ k => XS.icmpNo X174.here hx rfl (hb hby at_182) rfl (by decide) k) ?_
        show OwnGo p e below _ (T174.setTop (mkF m 185 #[.val (.long q0), .second, .val (.long q1), .second, .val (.int p2), .val (.int p3), .val (.int p4), .val (.int ((p2 &&& (2147483647 : Int32)) % (3 : Int32))), .val (.ref aNONE), .val (.ref a140), .val (.int en), .val (.int (own_bf en)), .val (.int (1073741824 : Int32)), .val (.int (1 : Int32)), .val (.int (1 : Int32)), .val (.int (1 : Int32)), .val (.int (1 : Int32)), .unset] []))
        refine own_go (fun _ k => XS.aload X174.here hx rfl (hb hby at_185) rfl rfl k) ?_
        show OwnGo p e below _ (T174.setTop (mkF m 187 #[.val (.long q0), .second, .val (.long q1), .second, .val (.int p2), .val (.int p3), .val (.int p4), .val (.int ((p2 &&& (2147483647 : Int32)) % (3 : Int32))), .val (.ref aNONE), .val (.ref a140), .val (.int en), .val (.int (own_bf en)), .val (.int (1073741824 : Int32)), .val (.int (1 : Int32)), .val (.int (1 : Int32)), .val (.int (1 : Int32)), .val (.int (1 : Int32)), .unset] [(.ref a140)]))
        obtain ⟨cq175, kq175, qa175, qb175, qc175⟩ := isOf hZ K174 F165
        obtain ⟨_, _, ⟨T175, L175, k175, n175⟩, -, X175, ⟨Lc175, hQ175, l175, y175, z175⟩, st175⟩ := X174.virtualBack hx (y := (⟨"com/example/vesper/vesper/store/Table", "size", "()I"⟩ : MethodName)) (z := (⟨"com/example/vesper/vesper/store/Table", "size", "()I"⟩ : MethodName)) hown (mvT hZ (hw _ (List.mem_of_getElem? (i := 53) rfl))) (mvT hZ (hw _ (List.mem_of_getElem? (i := 54) rfl))) (notFace_of_selects (args := #[]) (mvT hZ (hw _ (List.mem_of_getElem? (i := 56) rfl)))) (mvT hZ (hw _ (List.mem_of_getElem? (i := 56) rfl))) (mvT hZ (hw _ (List.mem_of_getElem? (i := 55) rfl))) (by decide) (backOf (W := 0) (rm_sz l Z a0 hw [] aNONE aEXPIRING_KEYS aALL_KEYS F0 a140 T161.heap n0 O161 x161_1) hZ (hw _ (List.mem_of_getElem? (i := 57) rfl)) (hw _ (List.mem_of_getElem? (i := 6) rfl)) (by decide) (by decide)) qa175 qc175 (g := (mkF m 187 #[.val (.long q0), .second, .val (.long q1), .second, .val (.int p2), .val (.int p3), .val (.int p4), .val (.int ((p2 &&& (2147483647 : Int32)) % (3 : Int32))), .val (.ref aNONE), .val (.ref a140), .val (.int en), .val (.int (own_bf en)), .val (.int (1073741824 : Int32)), .val (.int (1 : Int32)), .val (.int (1 : Int32)), .val (.int (1 : Int32)), .val (.int (1 : Int32)), .unset] [(.ref a140)])) rfl (by rw [hml]; rfl) (Steps.refl _) (argsL := []) (rest := []) (lenOf pd___I rfl) rfl (by show 2 * 0 + _ ≤ _; exact Nat.le_of_eq rfl) (hb hby at_187) (fun _ _ => ⟨rfl, K174, (by decide : 3 + 0 ≤ _), (by decide : 24 + 0 ≤ _)⟩)
        dsimp only [Pt.U, Pt.locs, Pt.cells, Pt.slots] at X175 l175 y175 z175 st175 hQ175
        subst l175 y175 z175
        obtain ⟨rfl, Nq175, K175⟩ := hQ175
        have N175 := Fr.app N174 Nq175
        refine own_go (fun _ k => st175.trans k) ?_
        show OwnGo p e below _ (T175.setTop (mkF m 190 #[.val (.long q0), .second, .val (.long q1), .second, .val (.int p2), .val (.int p3), .val (.int p4), .val (.int ((p2 &&& (2147483647 : Int32)) % (3 : Int32))), .val (.ref aNONE), .val (.ref a140), .val (.int en), .val (.int (own_bf en)), .val (.int (1073741824 : Int32)), .val (.int (1 : Int32)), .val (.int (1 : Int32)), .val (.int (1 : Int32)), .val (.int (1 : Int32)), .unset] [(.int (0 : Int32))]))
        refine own_go (fun _ k => XS.ifNo X175.here hx rfl (hb hby at_190) rfl (by decide) k) ?_
        show OwnGo p e below _ (T175.setTop (mkF m 193 #[.val (.long q0), .second, .val (.long q1), .second, .val (.int p2), .val (.int p3), .val (.int p4), .val (.int ((p2 &&& (2147483647 : Int32)) % (3 : Int32))), .val (.ref aNONE), .val (.ref a140), .val (.int en), .val (.int (own_bf en)), .val (.int (1073741824 : Int32)), .val (.int (1 : Int32)), .val (.int (1 : Int32)), .val (.int (1 : Int32)), .val (.int (1 : Int32)), .unset] []))
        refine own_go (fun _ k => XS.iconst X175.here hx rfl (hb hby at_193) k) ?_
        show OwnGo p e below _ (T175.setTop (mkF m 194 #[.val (.long q0), .second, .val (.long q1), .second, .val (.int p2), .val (.int p3), .val (.int p4), .val (.int ((p2 &&& (2147483647 : Int32)) % (3 : Int32))), .val (.ref aNONE), .val (.ref a140), .val (.int en), .val (.int (own_bf en)), .val (.int (1073741824 : Int32)), .val (.int (1 : Int32)), .val (.int (1 : Int32)), .val (.int (1 : Int32)), .val (.int (1 : Int32)), .unset] [(.int (1 : Int32))]))
        refine own_go (fun _ k => XS.goto X175.here hx rfl (pc0 := 194) (pc' := 198) rfl (hb hby at_194) (by decide) (by decide) k) ?_
        show OwnGo p e below _ (T175.setTop (mkF m 198 #[.val (.long q0), .second, .val (.long q1), .second, .val (.int p2), .val (.int p3), .val (.int p4), .val (.int ((p2 &&& (2147483647 : Int32)) % (3 : Int32))), .val (.ref aNONE), .val (.ref a140), .val (.int en), .val (.int (own_bf en)), .val (.int (1073741824 : Int32)), .val (.int (1 : Int32)), .val (.int (1 : Int32)), .val (.int (1 : Int32)), .val (.int (1 : Int32)), .unset] [(.int (1 : Int32))]))
        refine own_go (fun _ k => XS.istore X175.here hx rfl (hb hby at_198) rfl (l' := #[.val (.long q0), .second, .val (.long q1), .second, .val (.int p2), .val (.int p3), .val (.int p4), .val (.int ((p2 &&& (2147483647 : Int32)) % (3 : Int32))), .val (.ref aNONE), .val (.ref a140), .val (.int en), .val (.int (own_bf en)), .val (.int (1073741824 : Int32)), .val (.int (1 : Int32)), .val (.int (1 : Int32)), .val (.int (1 : Int32)), .val (.int (1 : Int32)), .val (.int (1 : Int32))]) rfl k) ?_
        show OwnGo p e below _ (T175.setTop (mkF m 200 #[.val (.long q0), .second, .val (.long q1), .second, .val (.int p2), .val (.int p3), .val (.int p4), .val (.int ((p2 &&& (2147483647 : Int32)) % (3 : Int32))), .val (.ref aNONE), .val (.ref a140), .val (.int en), .val (.int (own_bf en)), .val (.int (1073741824 : Int32)), .val (.int (1 : Int32)), .val (.int (1 : Int32)), .val (.int (1 : Int32)), .val (.int (1 : Int32)), .val (.int (1 : Int32))] []))
        refine own_go (fun _ k => XS.iload X175.here hx rfl (hb hby at_200) rfl k) ?_
        show OwnGo p e below _ (T175.setTop (mkF m 202 #[.val (.long q0), .second, .val (.long q1), .second, .val (.int p2), .val (.int p3), .val (.int p4), .val (.int ((p2 &&& (2147483647 : Int32)) % (3 : Int32))), .val (.ref aNONE), .val (.ref a140), .val (.int en), .val (.int (own_bf en)), .val (.int (1073741824 : Int32)), .val (.int (1 : Int32)), .val (.int (1 : Int32)), .val (.int (1 : Int32)), .val (.int (1 : Int32)), .val (.int (1 : Int32))] [(.int (1 : Int32))]))
        refine own_go (fun _ k => XS.ifNo X175.here hx rfl (hb hby at_202) rfl (by decide) k) ?_
        show OwnGo p e below _ (T175.setTop (mkF m 205 #[.val (.long q0), .second, .val (.long q1), .second, .val (.int p2), .val (.int p3), .val (.int p4), .val (.int ((p2 &&& (2147483647 : Int32)) % (3 : Int32))), .val (.ref aNONE), .val (.ref a140), .val (.int en), .val (.int (own_bf en)), .val (.int (1073741824 : Int32)), .val (.int (1 : Int32)), .val (.int (1 : Int32)), .val (.int (1 : Int32)), .val (.int (1 : Int32)), .val (.int (1 : Int32))] []))
        refine own_go (fun _ k => XS.iload X175.here hx rfl (hb hby at_205) rfl k) ?_
        show OwnGo p e below _ (T175.setTop (mkF m 207 #[.val (.long q0), .second, .val (.long q1), .second, .val (.int p2), .val (.int p3), .val (.int p4), .val (.int ((p2 &&& (2147483647 : Int32)) % (3 : Int32))), .val (.ref aNONE), .val (.ref a140), .val (.int en), .val (.int (own_bf en)), .val (.int (1073741824 : Int32)), .val (.int (1 : Int32)), .val (.int (1 : Int32)), .val (.int (1 : Int32)), .val (.int (1 : Int32)), .val (.int (1 : Int32))] [(.int (1 : Int32))]))
        refine own_go (fun _ k => XS.ifNo X175.here hx rfl (hb hby at_207) rfl (by decide) k) ?_
        show OwnGo p e below _ (T175.setTop (mkF m 210 #[.val (.long q0), .second, .val (.long q1), .second, .val (.int p2), .val (.int p3), .val (.int p4), .val (.int ((p2 &&& (2147483647 : Int32)) % (3 : Int32))), .val (.ref aNONE), .val (.ref a140), .val (.int en), .val (.int (own_bf en)), .val (.int (1073741824 : Int32)), .val (.int (1 : Int32)), .val (.int (1 : Int32)), .val (.int (1 : Int32)), .val (.int (1 : Int32)), .val (.int (1 : Int32))] []))
        refine own_go (fun _ k => XS.iload X175.here hx rfl (hb hby at_210) rfl k) ?_
        show OwnGo p e below _ (T175.setTop (mkF m 212 #[.val (.long q0), .second, .val (.long q1), .second, .val (.int p2), .val (.int p3), .val (.int p4), .val (.int ((p2 &&& (2147483647 : Int32)) % (3 : Int32))), .val (.ref aNONE), .val (.ref a140), .val (.int en), .val (.int (own_bf en)), .val (.int (1073741824 : Int32)), .val (.int (1 : Int32)), .val (.int (1 : Int32)), .val (.int (1 : Int32)), .val (.int (1 : Int32)), .val (.int (1 : Int32))] [(.int (1 : Int32))]))
        refine own_go (fun _ k => XS.ifNo X175.here hx rfl (hb hby at_212) rfl (by decide) k) ?_
        show OwnGo p e below _ (T175.setTop (mkF m 215 #[.val (.long q0), .second, .val (.long q1), .second, .val (.int p2), .val (.int p3), .val (.int p4), .val (.int ((p2 &&& (2147483647 : Int32)) % (3 : Int32))), .val (.ref aNONE), .val (.ref a140), .val (.int en), .val (.int (own_bf en)), .val (.int (1073741824 : Int32)), .val (.int (1 : Int32)), .val (.int (1 : Int32)), .val (.int (1 : Int32)), .val (.int (1 : Int32)), .val (.int (1 : Int32))] []))
        refine own_go (fun _ k => XS.iload X175.here hx rfl (hb hby at_215) rfl k) ?_
        show OwnGo p e below _ (T175.setTop (mkF m 217 #[.val (.long q0), .second, .val (.long q1), .second, .val (.int p2), .val (.int p3), .val (.int p4), .val (.int ((p2 &&& (2147483647 : Int32)) % (3 : Int32))), .val (.ref aNONE), .val (.ref a140), .val (.int en), .val (.int (own_bf en)), .val (.int (1073741824 : Int32)), .val (.int (1 : Int32)), .val (.int (1 : Int32)), .val (.int (1 : Int32)), .val (.int (1 : Int32)), .val (.int (1 : Int32))] [(.int (1 : Int32))]))
        refine own_go (fun _ k => XS.ifNo X175.here hx rfl (hb hby at_217) rfl (by decide) k) ?_
        show OwnGo p e below _ (T175.setTop (mkF m 220 #[.val (.long q0), .second, .val (.long q1), .second, .val (.int p2), .val (.int p3), .val (.int p4), .val (.int ((p2 &&& (2147483647 : Int32)) % (3 : Int32))), .val (.ref aNONE), .val (.ref a140), .val (.int en), .val (.int (own_bf en)), .val (.int (1073741824 : Int32)), .val (.int (1 : Int32)), .val (.int (1 : Int32)), .val (.int (1 : Int32)), .val (.int (1 : Int32)), .val (.int (1 : Int32))] []))
        refine own_go (fun _ k => XS.iload X175.here hx rfl (hb hby at_220) rfl k) ?_
        show OwnGo p e below _ (T175.setTop (mkF m 222 #[.val (.long q0), .second, .val (.long q1), .second, .val (.int p2), .val (.int p3), .val (.int p4), .val (.int ((p2 &&& (2147483647 : Int32)) % (3 : Int32))), .val (.ref aNONE), .val (.ref a140), .val (.int en), .val (.int (own_bf en)), .val (.int (1073741824 : Int32)), .val (.int (1 : Int32)), .val (.int (1 : Int32)), .val (.int (1 : Int32)), .val (.int (1 : Int32)), .val (.int (1 : Int32))] [(.int (1 : Int32))]))
        refine own_go (fun _ k => XS.ifNo X175.here hx rfl (hb hby at_222) rfl (by decide) k) ?_
        show OwnGo p e below _ (T175.setTop (mkF m 225 #[.val (.long q0), .second, .val (.long q1), .second, .val (.int p2), .val (.int p3), .val (.int p4), .val (.int ((p2 &&& (2147483647 : Int32)) % (3 : Int32))), .val (.ref aNONE), .val (.ref a140), .val (.int en), .val (.int (own_bf en)), .val (.int (1073741824 : Int32)), .val (.int (1 : Int32)), .val (.int (1 : Int32)), .val (.int (1 : Int32)), .val (.int (1 : Int32)), .val (.int (1 : Int32))] []))
        refine own_go (fun _ k => XS.iconst X175.here hx rfl (hb hby at_225) k) ?_
        show OwnGo p e below _ (T175.setTop (mkF m 226 #[.val (.long q0), .second, .val (.long q1), .second, .val (.int p2), .val (.int p3), .val (.int p4), .val (.int ((p2 &&& (2147483647 : Int32)) % (3 : Int32))), .val (.ref aNONE), .val (.ref a140), .val (.int en), .val (.int (own_bf en)), .val (.int (1073741824 : Int32)), .val (.int (1 : Int32)), .val (.int (1 : Int32)), .val (.int (1 : Int32)), .val (.int (1 : Int32)), .val (.int (1 : Int32))] [(.int (1 : Int32))]))
        refine own_go (fun _ k => XS.goto X175.here hx rfl (pc0 := 226) (pc' := 230) rfl (hb hby at_226) (by decide) (by decide) k) ?_
        show OwnGo p e below _ (T175.setTop (mkF m 230 #[.val (.long q0), .second, .val (.long q1), .second, .val (.int p2), .val (.int p3), .val (.int p4), .val (.int ((p2 &&& (2147483647 : Int32)) % (3 : Int32))), .val (.ref aNONE), .val (.ref a140), .val (.int en), .val (.int (own_bf en)), .val (.int (1073741824 : Int32)), .val (.int (1 : Int32)), .val (.int (1 : Int32)), .val (.int (1 : Int32)), .val (.int (1 : Int32)), .val (.int (1 : Int32))] [(.int (1 : Int32))]))
        obtain ⟨fs, hr, hrun, hended, hW, hsame⟩ := X175.leave (v := some (.int (1 : Int32))) (fun h => by rw [Bd.returns] at h; cases h)
        refine ⟨_, _, retOut X175 hx Bd.returns rfl (Or.inl ⟨rfl, Or.inr (Or.inl rfl), _, rfl⟩) (hb hby at_230) hr, hrun, hended, _, _, rfl, ?_, ⟨_, rfl⟩, hW, hsame.mono (by decide) (by decide)⟩
        show Q_law Z aNONE aEXPIRING_KEYS aALL_KEYS q0 q1 p2 p3 p4 h0 n0 _ T175.heap _
        rw [K175]
        exact ⟨rfl, N175⟩
      · refine own_go (fun _ k => XS.icmpNo X166.here hx rfl (hb hby at_152) rfl (feq hc173).1 k) ?_
        show OwnGo p e below _ (T166.setTop (mkF m 155 #[.val (.long q0), .second, .val (.long q1), .second, .val (.int p2), .val (.int p3), .val (.int p4), .val (.int ((p2 &&& (2147483647 : Int32)) % (3 : Int32))), .val (.ref aNONE), .val (.ref a140), .val (.int en), .val (.int (own_bf en)), .val (.int (1073741824 : Int32)), .val (.int (1 : Int32)), .val (.int (1 : Int32)), .val (.int (1 : Int32)), .unset, .unset] []))
        refine own_go (fun _ k => XS.iload X166.here hx rfl (hb hby at_155) rfl k) ?_
        show OwnGo p e below _ (T166.setTop (mkF m 157 #[.val (.long q0), .second, .val (.long q1), .second, .val (.int p2), .val (.int p3), .val (.int p4), .val (.int ((p2 &&& (2147483647 : Int32)) % (3 : Int32))), .val (.ref aNONE), .val (.ref a140), .val (.int en), .val (.int (own_bf en)), .val (.int (1073741824 : Int32)), .val (.int (1 : Int32)), .val (.int (1 : Int32)), .val (.int (1 : Int32)), .unset, .unset] [(.int en)]))
        refine own_go (fun _ k => XS.iload X166.here hx rfl (hb hby at_157) rfl k) ?_
        show OwnGo p e below _ (T166.setTop (mkF m 159 #[.val (.long q0), .second, .val (.long q1), .second, .val (.int p2), .val (.int p3), .val (.int p4), .val (.int ((p2 &&& (2147483647 : Int32)) % (3 : Int32))), .val (.ref aNONE), .val (.ref a140), .val (.int en), .val (.int (own_bf en)), .val (.int (1073741824 : Int32)), .val (.int (1 : Int32)), .val (.int (1 : Int32)), .val (.int (1 : Int32)), .unset, .unset] [(.int (own_bf en)), (.int en)]))
        refine own_go (fun _ k => XS.iconst X166.here hx rfl (hb hby at_159) k) ?_
        show OwnGo p e below _ (T166.setTop (mkF m 160 #[.val (.long q0), .second, .val (.long q1), .second, .val (.int p2), .val (.int p3), .val (.int p4), .val (.int ((p2 &&& (2147483647 : Int32)) % (3 : Int32))), .val (.ref aNONE), .val (.ref a140), .val (.int en), .val (.int (own_bf en)), .val (.int (1073741824 : Int32)), .val (.int (1 : Int32)), .val (.int (1 : Int32)), .val (.int (1 : Int32)), .unset, .unset] [(.int (2 : Int32)), (.int (own_bf en)), (.int en)]))
        refine own_go (fun _ k => XS.idiv X166.here hx rfl (hb hby at_160) rfl (by decide) k) ?_
        show OwnGo p e below _ (T166.setTop (mkF m 161 #[.val (.long q0), .second, .val (.long q1), .second, .val (.int p2), .val (.int p3), .val (.int p4), .val (.int ((p2 &&& (2147483647 : Int32)) % (3 : Int32))), .val (.ref aNONE), .val (.ref a140), .val (.int en), .val (.int (own_bf en)), .val (.int (1073741824 : Int32)), .val (.int (1 : Int32)), .val (.int (1 : Int32)), .val (.int (1 : Int32)), .unset, .unset] [(.int ((own_bf en) / (2 : Int32))), (.int en)]))
        refine own_go (fun _ k => XS.iconst X166.here hx rfl (hb hby at_161) k) ?_
        show OwnGo p e below _ (T166.setTop (mkF m 162 #[.val (.long q0), .second, .val (.long q1), .second, .val (.int p2), .val (.int p3), .val (.int p4), .val (.int ((p2 &&& (2147483647 : Int32)) % (3 : Int32))), .val (.ref aNONE), .val (.ref a140), .val (.int en), .val (.int (own_bf en)), .val (.int (1073741824 : Int32)), .val (.int (1 : Int32)), .val (.int (1 : Int32)), .val (.int (1 : Int32)), .unset, .unset] [(.int (4 : Int32)), (.int ((own_bf en) / (2 : Int32))), (.int en)]))
        refine own_go (fun _ k => XS.idiv X166.here hx rfl (hb hby at_162) rfl (by decide) k) ?_
        show OwnGo p e below _ (T166.setTop (mkF m 163 #[.val (.long q0), .second, .val (.long q1), .second, .val (.int p2), .val (.int p3), .val (.int p4), .val (.int ((p2 &&& (2147483647 : Int32)) % (3 : Int32))), .val (.ref aNONE), .val (.ref a140), .val (.int en), .val (.int (own_bf en)), .val (.int (1073741824 : Int32)), .val (.int (1 : Int32)), .val (.int (1 : Int32)), .val (.int (1 : Int32)), .unset, .unset] [(.int (((own_bf en) / (2 : Int32)) / (4 : Int32))), (.int en)]))
        refine own_go (fun _ k => XS.iconst X166.here hx rfl (hb hby at_163) k) ?_
        show OwnGo p e below _ (T166.setTop (mkF m 164 #[.val (.long q0), .second, .val (.long q1), .second, .val (.int p2), .val (.int p3), .val (.int p4), .val (.int ((p2 &&& (2147483647 : Int32)) % (3 : Int32))), .val (.ref aNONE), .val (.ref a140), .val (.int en), .val (.int (own_bf en)), .val (.int (1073741824 : Int32)), .val (.int (1 : Int32)), .val (.int (1 : Int32)), .val (.int (1 : Int32)), .unset, .unset] [(.int (3 : Int32)), (.int (((own_bf en) / (2 : Int32)) / (4 : Int32))), (.int en)]))
        refine own_go (fun _ k => XS.imul X166.here hx rfl (hb hby at_164) rfl k) ?_
        show OwnGo p e below _ (T166.setTop (mkF m 165 #[.val (.long q0), .second, .val (.long q1), .second, .val (.int p2), .val (.int p3), .val (.int p4), .val (.int ((p2 &&& (2147483647 : Int32)) % (3 : Int32))), .val (.ref aNONE), .val (.ref a140), .val (.int en), .val (.int (own_bf en)), .val (.int (1073741824 : Int32)), .val (.int (1 : Int32)), .val (.int (1 : Int32)), .val (.int (1 : Int32)), .unset, .unset] [(.int ((((own_bf en) / (2 : Int32)) / (4 : Int32)) * (3 : Int32))), (.int en)]))
        refine own_go (fun _ k => XS.icmpNo X166.here hx rfl (hb hby at_165) rfl (tlt ((own_bf_spec en).2.2.2.2.2 hc173)).2.2.2 k) ?_
        show OwnGo p e below _ (T166.setTop (mkF m 168 #[.val (.long q0), .second, .val (.long q1), .second, .val (.int p2), .val (.int p3), .val (.int p4), .val (.int ((p2 &&& (2147483647 : Int32)) % (3 : Int32))), .val (.ref aNONE), .val (.ref a140), .val (.int en), .val (.int (own_bf en)), .val (.int (1073741824 : Int32)), .val (.int (1 : Int32)), .val (.int (1 : Int32)), .val (.int (1 : Int32)), .unset, .unset] []))
        refine own_go (fun _ k => XS.iconst X166.here hx rfl (hb hby at_168) k) ?_
        show OwnGo p e below _ (T166.setTop (mkF m 169 #[.val (.long q0), .second, .val (.long q1), .second, .val (.int p2), .val (.int p3), .val (.int p4), .val (.int ((p2 &&& (2147483647 : Int32)) % (3 : Int32))), .val (.ref aNONE), .val (.ref a140), .val (.int en), .val (.int (own_bf en)), .val (.int (1073741824 : Int32)), .val (.int (1 : Int32)), .val (.int (1 : Int32)), .val (.int (1 : Int32)), .unset, .unset] [(.int (1 : Int32))]))
        refine own_go (fun _ k => XS.goto X166.here hx rfl (pc0 := 169) (pc' := 173) rfl (hb hby at_169) (by decide) (by decide) k) ?_
        show OwnGo p e below _ (T166.setTop (mkF m 173 #[.val (.long q0), .second, .val (.long q1), .second, .val (.int p2), .val (.int p3), .val (.int p4), .val (.int ((p2 &&& (2147483647 : Int32)) % (3 : Int32))), .val (.ref aNONE), .val (.ref a140), .val (.int en), .val (.int (own_bf en)), .val (.int (1073741824 : Int32)), .val (.int (1 : Int32)), .val (.int (1 : Int32)), .val (.int (1 : Int32)), .unset, .unset] [(.int (1 : Int32))]))
        refine own_go (fun _ k => XS.istore X166.here hx rfl (hb hby at_173) rfl (l' := #[.val (.long q0), .second, .val (.long q1), .second, .val (.int p2), .val (.int p3), .val (.int p4), .val (.int ((p2 &&& (2147483647 : Int32)) % (3 : Int32))), .val (.ref aNONE), .val (.ref a140), .val (.int en), .val (.int (own_bf en)), .val (.int (1073741824 : Int32)), .val (.int (1 : Int32)), .val (.int (1 : Int32)), .val (.int (1 : Int32)), .val (.int (1 : Int32)), .unset]) rfl k) ?_
        show OwnGo p e below _ (T166.setTop (mkF m 175 #[.val (.long q0), .second, .val (.long q1), .second, .val (.int p2), .val (.int p3), .val (.int p4), .val (.int ((p2 &&& (2147483647 : Int32)) % (3 : Int32))), .val (.ref aNONE), .val (.ref a140), .val (.int en), .val (.int (own_bf en)), .val (.int (1073741824 : Int32)), .val (.int (1 : Int32)), .val (.int (1 : Int32)), .val (.int (1 : Int32)), .val (.int (1 : Int32)), .unset] []))
        refine own_go (fun _ k => XS.aload X166.here hx rfl (hb hby at_175) rfl rfl k) ?_
        show OwnGo p e below _ (T166.setTop (mkF m 177 #[.val (.long q0), .second, .val (.long q1), .second, .val (.int p2), .val (.int p3), .val (.int p4), .val (.int ((p2 &&& (2147483647 : Int32)) % (3 : Int32))), .val (.ref aNONE), .val (.ref a140), .val (.int en), .val (.int (own_bf en)), .val (.int (1073741824 : Int32)), .val (.int (1 : Int32)), .val (.int (1 : Int32)), .val (.int (1 : Int32)), .val (.int (1 : Int32)), .unset] [(.ref a140)]))
        obtain ⟨cq176, kq176, qa176, qb176, qc176⟩ := isOf hZ K166 F165
        obtain ⟨_, _, ⟨T176, L176, k176, n176⟩, -, X176, ⟨Lc176, hQ176, l176, y176, z176⟩, st176⟩ := X166.virtualBack hx (y := (⟨"com/example/vesper/vesper/store/Table", "buckets", "()I"⟩ : MethodName)) (z := (⟨"com/example/vesper/vesper/store/Table", "buckets", "()I"⟩ : MethodName)) hown (mvT hZ (hw _ (List.mem_of_getElem? (i := 48) rfl))) (mvT hZ (hw _ (List.mem_of_getElem? (i := 49) rfl))) (notFace_of_selects (args := #[]) (mvT hZ (hw _ (List.mem_of_getElem? (i := 51) rfl)))) (mvT hZ (hw _ (List.mem_of_getElem? (i := 51) rfl))) (mvT hZ (hw _ (List.mem_of_getElem? (i := 50) rfl))) (by decide) (backOf (W := 0) (rm_bk l Z a0 hw [] aNONE aEXPIRING_KEYS aALL_KEYS F0 a140 r9_161 k9_161 T161.heap n0 O161 x161_0 x161_2) hZ (hw _ (List.mem_of_getElem? (i := 52) rfl)) (hw _ (List.mem_of_getElem? (i := 6) rfl)) (by decide) (by decide)) qa176 qc176 (g := (mkF m 177 #[.val (.long q0), .second, .val (.long q1), .second, .val (.int p2), .val (.int p3), .val (.int p4), .val (.int ((p2 &&& (2147483647 : Int32)) % (3 : Int32))), .val (.ref aNONE), .val (.ref a140), .val (.int en), .val (.int (own_bf en)), .val (.int (1073741824 : Int32)), .val (.int (1 : Int32)), .val (.int (1 : Int32)), .val (.int (1 : Int32)), .val (.int (1 : Int32)), .unset] [(.ref a140)])) rfl (by rw [hml]; rfl) (Steps.refl _) (argsL := []) (rest := []) (lenOf pd___I rfl) rfl (by show 2 * 0 + _ ≤ _; exact Nat.le_of_eq rfl) (hb hby at_177) (fun _ _ => ⟨rfl, K166, (by decide : 3 + 0 ≤ _), (by decide : 24 + 0 ≤ _)⟩)
        dsimp only [Pt.U, Pt.locs, Pt.cells, Pt.slots] at X176 l176 y176 z176 st176 hQ176
        subst l176 y176 z176
        obtain ⟨rfl, Nq176, K176⟩ := hQ176
        have N176 := Fr.app N166 Nq176
        refine own_go (fun _ k => st176.trans k) ?_
        show OwnGo p e below _ (T176.setTop (mkF m 180 #[.val (.long q0), .second, .val (.long q1), .second, .val (.int p2), .val (.int p3), .val (.int p4), .val (.int ((p2 &&& (2147483647 : Int32)) % (3 : Int32))), .val (.ref aNONE), .val (.ref a140), .val (.int en), .val (.int (own_bf en)), .val (.int (1073741824 : Int32)), .val (.int (1 : Int32)), .val (.int (1 : Int32)), .val (.int (1 : Int32)), .val (.int (1 : Int32)), .unset] [(.int (16 : Int32))]))
        refine own_go (fun _ k => XS.bipush X176.here hx rfl (hb hby at_180) k) ?_
        show OwnGo p e below _ (T176.setTop (mkF m 182 #[.val (.long q0), .second, .val (.long q1), .second, .val (.int p2), .val (.int p3), .val (.int p4), .val (.int ((p2 &&& (2147483647 : Int32)) % (3 : Int32))), .val (.ref aNONE), .val (.ref a140), .val (.int en), .val (.int (own_bf en)), .val (.int (1073741824 : Int32)), .val (.int (1 : Int32)), .val (.int (1 : Int32)), .val (.int (1 : Int32)), .val (.int (1 : Int32)), .unset] [(.int (16 : Int32)), (.int (16 : Int32))]))
        refine own_go (fun _ k => XS.icmpNo X176.here hx rfl (hb hby at_182) rfl (by decide) k) ?_
        show OwnGo p e below _ (T176.setTop (mkF m 185 #[.val (.long q0), .second, .val (.long q1), .second, .val (.int p2), .val (.int p3), .val (.int p4), .val (.int ((p2 &&& (2147483647 : Int32)) % (3 : Int32))), .val (.ref aNONE), .val (.ref a140), .val (.int en), .val (.int (own_bf en)), .val (.int (1073741824 : Int32)), .val (.int (1 : Int32)), .val (.int (1 : Int32)), .val (.int (1 : Int32)), .val (.int (1 : Int32)), .unset] []))
        refine own_go (fun _ k => XS.aload X176.here hx rfl (hb hby at_185) rfl rfl k) ?_
        show OwnGo p e below _ (T176.setTop (mkF m 187 #[.val (.long q0), .second, .val (.long q1), .second, .val (.int p2), .val (.int p3), .val (.int p4), .val (.int ((p2 &&& (2147483647 : Int32)) % (3 : Int32))), .val (.ref aNONE), .val (.ref a140), .val (.int en), .val (.int (own_bf en)), .val (.int (1073741824 : Int32)), .val (.int (1 : Int32)), .val (.int (1 : Int32)), .val (.int (1 : Int32)), .val (.int (1 : Int32)), .unset] [(.ref a140)]))
        obtain ⟨cq177, kq177, qa177, qb177, qc177⟩ := isOf hZ K176 F165
        obtain ⟨_, _, ⟨T177, L177, k177, n177⟩, -, X177, ⟨Lc177, hQ177, l177, y177, z177⟩, st177⟩ := X176.virtualBack hx (y := (⟨"com/example/vesper/vesper/store/Table", "size", "()I"⟩ : MethodName)) (z := (⟨"com/example/vesper/vesper/store/Table", "size", "()I"⟩ : MethodName)) hown (mvT hZ (hw _ (List.mem_of_getElem? (i := 53) rfl))) (mvT hZ (hw _ (List.mem_of_getElem? (i := 54) rfl))) (notFace_of_selects (args := #[]) (mvT hZ (hw _ (List.mem_of_getElem? (i := 56) rfl)))) (mvT hZ (hw _ (List.mem_of_getElem? (i := 56) rfl))) (mvT hZ (hw _ (List.mem_of_getElem? (i := 55) rfl))) (by decide) (backOf (W := 0) (rm_sz l Z a0 hw [] aNONE aEXPIRING_KEYS aALL_KEYS F0 a140 T161.heap n0 O161 x161_1) hZ (hw _ (List.mem_of_getElem? (i := 57) rfl)) (hw _ (List.mem_of_getElem? (i := 6) rfl)) (by decide) (by decide)) qa177 qc177 (g := (mkF m 187 #[.val (.long q0), .second, .val (.long q1), .second, .val (.int p2), .val (.int p3), .val (.int p4), .val (.int ((p2 &&& (2147483647 : Int32)) % (3 : Int32))), .val (.ref aNONE), .val (.ref a140), .val (.int en), .val (.int (own_bf en)), .val (.int (1073741824 : Int32)), .val (.int (1 : Int32)), .val (.int (1 : Int32)), .val (.int (1 : Int32)), .val (.int (1 : Int32)), .unset] [(.ref a140)])) rfl (by rw [hml]; rfl) (Steps.refl _) (argsL := []) (rest := []) (lenOf pd___I rfl) rfl (by show 2 * 0 + _ ≤ _; exact Nat.le_of_eq rfl) (hb hby at_187) (fun _ _ => ⟨rfl, K176, (by decide : 3 + 0 ≤ _), (by decide : 24 + 0 ≤ _)⟩)
        dsimp only [Pt.U, Pt.locs, Pt.cells, Pt.slots] at X177 l177 y177 z177 st177 hQ177
        subst l177 y177 z177
        obtain ⟨rfl, Nq177, K177⟩ := hQ177
        have N177 := Fr.app N176 Nq177
        refine own_go (fun _ k => st177.trans k) ?_
        show OwnGo p e below _ (T177.setTop (mkF m 190 #[.val (.long q0), .second, .val (.long q1), .second, .val (.int p2), .val (.int p3), .val (.int p4), .val (.int ((p2 &&& (2147483647 : Int32)) % (3 : Int32))), .val (.ref aNONE), .val (.ref a140), .val (.int en), .val (.int (own_bf en)), .val (.int (1073741824 : Int32)), .val (.int (1 : Int32)), .val (.int (1 : Int32)), .val (.int (1 : Int32)), .val (.int (1 : Int32)), .unset] [(.int (0 : Int32))]))
        refine own_go (fun _ k => XS.ifNo X177.here hx rfl (hb hby at_190) rfl (by decide) k) ?_
        show OwnGo p e below _ (T177.setTop (mkF m 193 #[.val (.long q0), .second, .val (.long q1), .second, .val (.int p2), .val (.int p3), .val (.int p4), .val (.int ((p2 &&& (2147483647 : Int32)) % (3 : Int32))), .val (.ref aNONE), .val (.ref a140), .val (.int en), .val (.int (own_bf en)), .val (.int (1073741824 : Int32)), .val (.int (1 : Int32)), .val (.int (1 : Int32)), .val (.int (1 : Int32)), .val (.int (1 : Int32)), .unset] []))
        refine own_go (fun _ k => XS.iconst X177.here hx rfl (hb hby at_193) k) ?_
        show OwnGo p e below _ (T177.setTop (mkF m 194 #[.val (.long q0), .second, .val (.long q1), .second, .val (.int p2), .val (.int p3), .val (.int p4), .val (.int ((p2 &&& (2147483647 : Int32)) % (3 : Int32))), .val (.ref aNONE), .val (.ref a140), .val (.int en), .val (.int (own_bf en)), .val (.int (1073741824 : Int32)), .val (.int (1 : Int32)), .val (.int (1 : Int32)), .val (.int (1 : Int32)), .val (.int (1 : Int32)), .unset] [(.int (1 : Int32))]))
        refine own_go (fun _ k => XS.goto X177.here hx rfl (pc0 := 194) (pc' := 198) rfl (hb hby at_194) (by decide) (by decide) k) ?_
        show OwnGo p e below _ (T177.setTop (mkF m 198 #[.val (.long q0), .second, .val (.long q1), .second, .val (.int p2), .val (.int p3), .val (.int p4), .val (.int ((p2 &&& (2147483647 : Int32)) % (3 : Int32))), .val (.ref aNONE), .val (.ref a140), .val (.int en), .val (.int (own_bf en)), .val (.int (1073741824 : Int32)), .val (.int (1 : Int32)), .val (.int (1 : Int32)), .val (.int (1 : Int32)), .val (.int (1 : Int32)), .unset] [(.int (1 : Int32))]))
        refine own_go (fun _ k => XS.istore X177.here hx rfl (hb hby at_198) rfl (l' := #[.val (.long q0), .second, .val (.long q1), .second, .val (.int p2), .val (.int p3), .val (.int p4), .val (.int ((p2 &&& (2147483647 : Int32)) % (3 : Int32))), .val (.ref aNONE), .val (.ref a140), .val (.int en), .val (.int (own_bf en)), .val (.int (1073741824 : Int32)), .val (.int (1 : Int32)), .val (.int (1 : Int32)), .val (.int (1 : Int32)), .val (.int (1 : Int32)), .val (.int (1 : Int32))]) rfl k) ?_
        show OwnGo p e below _ (T177.setTop (mkF m 200 #[.val (.long q0), .second, .val (.long q1), .second, .val (.int p2), .val (.int p3), .val (.int p4), .val (.int ((p2 &&& (2147483647 : Int32)) % (3 : Int32))), .val (.ref aNONE), .val (.ref a140), .val (.int en), .val (.int (own_bf en)), .val (.int (1073741824 : Int32)), .val (.int (1 : Int32)), .val (.int (1 : Int32)), .val (.int (1 : Int32)), .val (.int (1 : Int32)), .val (.int (1 : Int32))] []))
        refine own_go (fun _ k => XS.iload X177.here hx rfl (hb hby at_200) rfl k) ?_
        show OwnGo p e below _ (T177.setTop (mkF m 202 #[.val (.long q0), .second, .val (.long q1), .second, .val (.int p2), .val (.int p3), .val (.int p4), .val (.int ((p2 &&& (2147483647 : Int32)) % (3 : Int32))), .val (.ref aNONE), .val (.ref a140), .val (.int en), .val (.int (own_bf en)), .val (.int (1073741824 : Int32)), .val (.int (1 : Int32)), .val (.int (1 : Int32)), .val (.int (1 : Int32)), .val (.int (1 : Int32)), .val (.int (1 : Int32))] [(.int (1 : Int32))]))
        refine own_go (fun _ k => XS.ifNo X177.here hx rfl (hb hby at_202) rfl (by decide) k) ?_
        show OwnGo p e below _ (T177.setTop (mkF m 205 #[.val (.long q0), .second, .val (.long q1), .second, .val (.int p2), .val (.int p3), .val (.int p4), .val (.int ((p2 &&& (2147483647 : Int32)) % (3 : Int32))), .val (.ref aNONE), .val (.ref a140), .val (.int en), .val (.int (own_bf en)), .val (.int (1073741824 : Int32)), .val (.int (1 : Int32)), .val (.int (1 : Int32)), .val (.int (1 : Int32)), .val (.int (1 : Int32)), .val (.int (1 : Int32))] []))
        refine own_go (fun _ k => XS.iload X177.here hx rfl (hb hby at_205) rfl k) ?_
        show OwnGo p e below _ (T177.setTop (mkF m 207 #[.val (.long q0), .second, .val (.long q1), .second, .val (.int p2), .val (.int p3), .val (.int p4), .val (.int ((p2 &&& (2147483647 : Int32)) % (3 : Int32))), .val (.ref aNONE), .val (.ref a140), .val (.int en), .val (.int (own_bf en)), .val (.int (1073741824 : Int32)), .val (.int (1 : Int32)), .val (.int (1 : Int32)), .val (.int (1 : Int32)), .val (.int (1 : Int32)), .val (.int (1 : Int32))] [(.int (1 : Int32))]))
        refine own_go (fun _ k => XS.ifNo X177.here hx rfl (hb hby at_207) rfl (by decide) k) ?_
        show OwnGo p e below _ (T177.setTop (mkF m 210 #[.val (.long q0), .second, .val (.long q1), .second, .val (.int p2), .val (.int p3), .val (.int p4), .val (.int ((p2 &&& (2147483647 : Int32)) % (3 : Int32))), .val (.ref aNONE), .val (.ref a140), .val (.int en), .val (.int (own_bf en)), .val (.int (1073741824 : Int32)), .val (.int (1 : Int32)), .val (.int (1 : Int32)), .val (.int (1 : Int32)), .val (.int (1 : Int32)), .val (.int (1 : Int32))] []))
        refine own_go (fun _ k => XS.iload X177.here hx rfl (hb hby at_210) rfl k) ?_
        show OwnGo p e below _ (T177.setTop (mkF m 212 #[.val (.long q0), .second, .val (.long q1), .second, .val (.int p2), .val (.int p3), .val (.int p4), .val (.int ((p2 &&& (2147483647 : Int32)) % (3 : Int32))), .val (.ref aNONE), .val (.ref a140), .val (.int en), .val (.int (own_bf en)), .val (.int (1073741824 : Int32)), .val (.int (1 : Int32)), .val (.int (1 : Int32)), .val (.int (1 : Int32)), .val (.int (1 : Int32)), .val (.int (1 : Int32))] [(.int (1 : Int32))]))
        refine own_go (fun _ k => XS.ifNo X177.here hx rfl (hb hby at_212) rfl (by decide) k) ?_
        show OwnGo p e below _ (T177.setTop (mkF m 215 #[.val (.long q0), .second, .val (.long q1), .second, .val (.int p2), .val (.int p3), .val (.int p4), .val (.int ((p2 &&& (2147483647 : Int32)) % (3 : Int32))), .val (.ref aNONE), .val (.ref a140), .val (.int en), .val (.int (own_bf en)), .val (.int (1073741824 : Int32)), .val (.int (1 : Int32)), .val (.int (1 : Int32)), .val (.int (1 : Int32)), .val (.int (1 : Int32)), .val (.int (1 : Int32))] []))
        refine own_go (fun _ k => XS.iload X177.here hx rfl (hb hby at_215) rfl k) ?_
        show OwnGo p e below _ (T177.setTop (mkF m 217 #[.val (.long q0), .second, .val (.long q1), .second, .val (.int p2), .val (.int p3), .val (.int p4), .val (.int ((p2 &&& (2147483647 : Int32)) % (3 : Int32))), .val (.ref aNONE), .val (.ref a140), .val (.int en), .val (.int (own_bf en)), .val (.int (1073741824 : Int32)), .val (.int (1 : Int32)), .val (.int (1 : Int32)), .val (.int (1 : Int32)), .val (.int (1 : Int32)), .val (.int (1 : Int32))] [(.int (1 : Int32))]))
        refine own_go (fun _ k => XS.ifNo X177.here hx rfl (hb hby at_217) rfl (by decide) k) ?_
        show OwnGo p e below _ (T177.setTop (mkF m 220 #[.val (.long q0), .second, .val (.long q1), .second, .val (.int p2), .val (.int p3), .val (.int p4), .val (.int ((p2 &&& (2147483647 : Int32)) % (3 : Int32))), .val (.ref aNONE), .val (.ref a140), .val (.int en), .val (.int (own_bf en)), .val (.int (1073741824 : Int32)), .val (.int (1 : Int32)), .val (.int (1 : Int32)), .val (.int (1 : Int32)), .val (.int (1 : Int32)), .val (.int (1 : Int32))] []))
        refine own_go (fun _ k => XS.iload X177.here hx rfl (hb hby at_220) rfl k) ?_
        show OwnGo p e below _ (T177.setTop (mkF m 222 #[.val (.long q0), .second, .val (.long q1), .second, .val (.int p2), .val (.int p3), .val (.int p4), .val (.int ((p2 &&& (2147483647 : Int32)) % (3 : Int32))), .val (.ref aNONE), .val (.ref a140), .val (.int en), .val (.int (own_bf en)), .val (.int (1073741824 : Int32)), .val (.int (1 : Int32)), .val (.int (1 : Int32)), .val (.int (1 : Int32)), .val (.int (1 : Int32)), .val (.int (1 : Int32))] [(.int (1 : Int32))]))
        refine own_go (fun _ k => XS.ifNo X177.here hx rfl (hb hby at_222) rfl (by decide) k) ?_
        show OwnGo p e below _ (T177.setTop (mkF m 225 #[.val (.long q0), .second, .val (.long q1), .second, .val (.int p2), .val (.int p3), .val (.int p4), .val (.int ((p2 &&& (2147483647 : Int32)) % (3 : Int32))), .val (.ref aNONE), .val (.ref a140), .val (.int en), .val (.int (own_bf en)), .val (.int (1073741824 : Int32)), .val (.int (1 : Int32)), .val (.int (1 : Int32)), .val (.int (1 : Int32)), .val (.int (1 : Int32)), .val (.int (1 : Int32))] []))
        refine own_go (fun _ k => XS.iconst X177.here hx rfl (hb hby at_225) k) ?_
        show OwnGo p e below _ (T177.setTop (mkF m 226 #[.val (.long q0), .second, .val (.long q1), .second, .val (.int p2), .val (.int p3), .val (.int p4), .val (.int ((p2 &&& (2147483647 : Int32)) % (3 : Int32))), .val (.ref aNONE), .val (.ref a140), .val (.int en), .val (.int (own_bf en)), .val (.int (1073741824 : Int32)), .val (.int (1 : Int32)), .val (.int (1 : Int32)), .val (.int (1 : Int32)), .val (.int (1 : Int32)), .val (.int (1 : Int32))] [(.int (1 : Int32))]))
        refine own_go (fun _ k => XS.goto X177.here hx rfl (pc0 := 226) (pc' := 230) rfl (hb hby at_226) (by decide) (by decide) k) ?_
        show OwnGo p e below _ (T177.setTop (mkF m 230 #[.val (.long q0), .second, .val (.long q1), .second, .val (.int p2), .val (.int p3), .val (.int p4), .val (.int ((p2 &&& (2147483647 : Int32)) % (3 : Int32))), .val (.ref aNONE), .val (.ref a140), .val (.int en), .val (.int (own_bf en)), .val (.int (1073741824 : Int32)), .val (.int (1 : Int32)), .val (.int (1 : Int32)), .val (.int (1 : Int32)), .val (.int (1 : Int32)), .val (.int (1 : Int32))] [(.int (1 : Int32))]))
        obtain ⟨fs, hr, hrun, hended, hW, hsame⟩ := X177.leave (v := some (.int (1 : Int32))) (fun h => by rw [Bd.returns] at h; cases h)
        refine ⟨_, _, retOut X177 hx Bd.returns rfl (Or.inl ⟨rfl, Or.inr (Or.inl rfl), _, rfl⟩) (hb hby at_230) hr, hrun, hended, _, _, rfl, ?_, ⟨_, rfl⟩, hW, hsame.mono (by decide) (by decide)⟩
        show Q_law Z aNONE aEXPIRING_KEYS aALL_KEYS q0 q1 p2 p3 p4 h0 n0 _ T177.heap _
        rw [K177]
        exact ⟨rfl, N177⟩
  · refine own_go (fun _ k => XS.ifYes X0.here hx rfl (pc0 := 11) (pc' := 20) rfl (hb hby at_11) rfl ((if0 _ _).trans (feq hc138).2) (by decide) (by decide) k) ?_
    show OwnGo p e below _ (s₁.setTop (mkF m 20 #[.val (.long q0), .second, .val (.long q1), .second, .val (.int p2), .val (.int p3), .val (.int p4), .val (.int ((p2 &&& (2147483647 : Int32)) % (3 : Int32))), .unset, .unset, .unset, .unset, .unset, .unset, .unset, .unset, .unset, .unset] []))
    refine own_go (fun _ k => XS.iload X0.here hx rfl (hb hby at_20) rfl k) ?_
    show OwnGo p e below _ (s₁.setTop (mkF m 22 #[.val (.long q0), .second, .val (.long q1), .second, .val (.int p2), .val (.int p3), .val (.int p4), .val (.int ((p2 &&& (2147483647 : Int32)) % (3 : Int32))), .unset, .unset, .unset, .unset, .unset, .unset, .unset, .unset, .unset, .unset] [(.int ((p2 &&& (2147483647 : Int32)) % (3 : Int32)))]))
    refine own_go (fun _ k => XS.iconst X0.here hx rfl (hb hby at_22) k) ?_
    show OwnGo p e below _ (s₁.setTop (mkF m 23 #[.val (.long q0), .second, .val (.long q1), .second, .val (.int p2), .val (.int p3), .val (.int p4), .val (.int ((p2 &&& (2147483647 : Int32)) % (3 : Int32))), .unset, .unset, .unset, .unset, .unset, .unset, .unset, .unset, .unset, .unset] [(.int (1 : Int32)), (.int ((p2 &&& (2147483647 : Int32)) % (3 : Int32)))]))
    by_cases hc178 : ((p2 &&& (2147483647 : Int32)) % (3 : Int32)) = (1 : Int32)
    · refine own_go (fun _ k => XS.icmpNo X0.here hx rfl (hb hby at_23) rfl (teq hc178).2 k) ?_
      show OwnGo p e below _ (s₁.setTop (mkF m 26 #[.val (.long q0), .second, .val (.long q1), .second, .val (.int p2), .val (.int p3), .val (.int p4), .val (.int ((p2 &&& (2147483647 : Int32)) % (3 : Int32))), .unset, .unset, .unset, .unset, .unset, .unset, .unset, .unset, .unset, .unset] []))
      obtain ⟨T179, X179, e179, st179⟩ := getS X0 hx hZ hown (host := "") (hw _ (List.mem_of_getElem? (i := 67) rfl)) Via.refl e0 (F0.2.2.2.2.2.2.1.ext O0.2) (g := (mkF m 26 #[.val (.long q0), .second, .val (.long q1), .second, .val (.int p2), .val (.int p3), .val (.int p4), .val (.int ((p2 &&& (2147483647 : Int32)) % (3 : Int32))), .unset, .unset, .unset, .unset, .unset, .unset, .unset, .unset, .unset, .unset] [])) rfl (hb hby at_26)
      refine own_go st179 ?_
      show OwnGo p e below _ (T179.setTop (mkF m 29 #[.val (.long q0), .second, .val (.long q1), .second, .val (.int p2), .val (.int p3), .val (.int p4), .val (.int ((p2 &&& (2147483647 : Int32)) % (3 : Int32))), .unset, .unset, .unset, .unset, .unset, .unset, .unset, .unset, .unset, .unset] [(.ref aALL_KEYS)]))
      refine own_go (fun _ k => XS.goto X179.here hx rfl (pc0 := 29) (pc' := 35) rfl (hb hby at_29) (by decide) (by decide) k) ?_
      show OwnGo p e below _ (T179.setTop (mkF m 35 #[.val (.long q0), .second, .val (.long q1), .second, .val (.int p2), .val (.int p3), .val (.int p4), .val (.int ((p2 &&& (2147483647 : Int32)) % (3 : Int32))), .unset, .unset, .unset, .unset, .unset, .unset, .unset, .unset, .unset, .unset] [(.ref aALL_KEYS)]))
      refine own_go (fun _ k => XS.astore X179.here hx rfl (hb hby at_35) rfl rfl (l' := #[.val (.long q0), .second, .val (.long q1), .second, .val (.int p2), .val (.int p3), .val (.int p4), .val (.int ((p2 &&& (2147483647 : Int32)) % (3 : Int32))), .val (.ref aALL_KEYS), .unset, .unset, .unset, .unset, .unset, .unset, .unset, .unset, .unset]) rfl k) ?_
      show OwnGo p e below _ (T179.setTop (mkF m 37 #[.val (.long q0), .second, .val (.long q1), .second, .val (.int p2), .val (.int p3), .val (.int p4), .val (.int ((p2 &&& (2147483647 : Int32)) % (3 : Int32))), .val (.ref aALL_KEYS), .unset, .unset, .unset, .unset, .unset, .unset, .unset, .unset, .unset] []))
      obtain ⟨T180, h180, X180, e180, E180, A180, D180, -, st180⟩ := newO X179 hx hZ hown (hw _ (List.mem_of_getElem? (i := 4) rfl)) (hw _ (List.mem_of_getElem? (i := 5) rfl)) (hw _ (List.mem_of_getElem? (i := 6) rfl)) e179 (g := (mkF m 37 #[.val (.long q0), .second, .val (.long q1), .second, .val (.int p2), .val (.int p3), .val (.int p4), .val (.int ((p2 &&& (2147483647 : Int32)) % (3 : Int32))), .val (.ref aALL_KEYS), .unset, .unset, .unset, .unset, .unset, .unset, .unset, .unset, .unset] [])) rfl (hb hby at_37) (by decide) (by decide)
      obtain ⟨a180, g180⟩ : ∃ z, z = h0.size := ⟨_, rfl⟩
      rw [← g180] at A180 D180 st180
      have ge180 : n0 ≤ a180 := Nat.le_trans (own_sz O0) (Nat.le_of_eq g180.symm)
      have gh180 : h0.size ≤ a180 := Nat.le_trans (Nat.le_refl _) (Nat.le_of_eq g180.symm)
      have O180 := O0.ext E180
      have z181 : h0.size ≤ h180.size := Nat.le_trans (Nat.le_refl _) E180.1
      have F182 : Fld Z h180 a180 "com/example/vesper/vesper/store/Table" "buckets" "[Lcom/example/vesper/vesper/store/Entry;" .null := D180 (Or.inl (hw _ (List.mem_of_getElem? (i := 27) rfl))) (ty := (.array (.object "com/example/vesper/vesper/store/Entry"))) (by decide)
      have F183 : Fld Z h180 a180 "com/example/vesper/vesper/store/Table" "hash" "Lcom/example/vesper/vesper/store/SipHash;" .null := D180 (Or.inr (hw _ (List.mem_of_getElem? (i := 29) rfl))) (ty := (.object "com/example/vesper/vesper/store/SipHash")) (by decide)
      have F184 : Fld Z h180 a180 "com/example/vesper/vesper/store/Table" "counted" "Lcom/example/vesper/vesper/store/Evictor$Scope;" .null := D180 (Or.inl (hw _ (List.mem_of_getElem? (i := 31) rfl))) (ty := (.object "com/example/vesper/vesper/store/Evictor$Scope")) (by decide)
      have F185 : Fld Z h180 a180 "com/example/vesper/vesper/store/Table" "tree" "[I" .null := D180 (Or.inl (hw _ (List.mem_of_getElem? (i := 41) rfl))) (ty := (.array .int)) (by decide)
      have F186 : Fld Z h180 a180 "com/example/vesper/vesper/store/Table" "size" "I" (.int (0 : Int32)) := D180 (Or.inl (hw _ (List.mem_of_getElem? (i := 59) rfl))) (ty := .int) (by decide)
      refine own_go st180 ?_
      show OwnGo p e below _ (T180.setTop (mkF m 40 #[.val (.long q0), .second, .val (.long q1), .second, .val (.int p2), .val (.int p3), .val (.int p4), .val (.int ((p2 &&& (2147483647 : Int32)) % (3 : Int32))), .val (.ref aALL_KEYS), .unset, .unset, .unset, .unset, .unset, .unset, .unset, .unset, .unset] [(.ref a180)]))
      refine own_go (fun _ k => XS.dup X180.here hx rfl (hb hby at_40) rfl rfl k) ?_
      show OwnGo p e below _ (T180.setTop (mkF m 41 #[.val (.long q0), .second, .val (.long q1), .second, .val (.int p2), .val (.int p3), .val (.int p4), .val (.int ((p2 &&& (2147483647 : Int32)) % (3 : Int32))), .val (.ref aALL_KEYS), .unset, .unset, .unset, .unset, .unset, .unset, .unset, .unset, .unset] [(.ref a180), (.ref a180)]))
      obtain ⟨T187, h187, X187, e187, E187, A187, D187, -, st187⟩ := newO X180 hx hZ hown (hw _ (List.mem_of_getElem? (i := 7) rfl)) (hw _ (List.mem_of_getElem? (i := 8) rfl)) (hw _ (List.mem_of_getElem? (i := 9) rfl)) e180 (g := (mkF m 41 #[.val (.long q0), .second, .val (.long q1), .second, .val (.int p2), .val (.int p3), .val (.int p4), .val (.int ((p2 &&& (2147483647 : Int32)) % (3 : Int32))), .val (.ref aALL_KEYS), .unset, .unset, .unset, .unset, .unset, .unset, .unset, .unset, .unset] [(.ref a180), (.ref a180)])) rfl (hb hby at_41) (by decide) (by decide)
      obtain ⟨a187, g187⟩ : ∃ z, z = h180.size := ⟨_, rfl⟩
      rw [← g187] at A187 D187 st187
      have ge187 : n0 ≤ a187 := Nat.le_trans (own_sz O180) (Nat.le_of_eq g187.symm)
      have gh187 : h0.size ≤ a187 := Nat.le_trans z181 (Nat.le_of_eq g187.symm)
      have ne188 : a180 ≠ a187 := own_newne g187 A180.lt
      have O187 := O180.ext E187
      have z189 : h0.size ≤ h187.size := Nat.le_trans z181 E187.1
      have F190 : Fld Z h187 a187 "com/example/vesper/vesper/store/SipHash" "k0" "J" (.long (0 : Int64)) := D187 (Or.inr (hw _ (List.mem_of_getElem? (i := 17) rfl))) (ty := .long) (by decide)
      have F191 : Fld Z h187 a187 "com/example/vesper/vesper/store/SipHash" "k1" "J" (.long (0 : Int64)) := D187 (Or.inr (hw _ (List.mem_of_getElem? (i := 19) rfl))) (ty := .long) (by decide)
      refine own_go st187 ?_
      show OwnGo p e below _ (T187.setTop (mkF m 44 #[.val (.long q0), .second, .val (.long q1), .second, .val (.int p2), .val (.int p3), .val (.int p4), .val (.int ((p2 &&& (2147483647 : Int32)) % (3 : Int32))), .val (.ref aALL_KEYS), .unset, .unset, .unset, .unset, .unset, .unset, .unset, .unset, .unset] [(.ref a187), (.ref a180), (.ref a180)]))
      refine own_go (fun _ k => XS.dup X187.here hx rfl (hb hby at_44) rfl rfl k) ?_
      show OwnGo p e below _ (T187.setTop (mkF m 45 #[.val (.long q0), .second, .val (.long q1), .second, .val (.int p2), .val (.int p3), .val (.int p4), .val (.int ((p2 &&& (2147483647 : Int32)) % (3 : Int32))), .val (.ref aALL_KEYS), .unset, .unset, .unset, .unset, .unset, .unset, .unset, .unset, .unset] [(.ref a187), (.ref a187), (.ref a180), (.ref a180)]))
      refine own_go (fun _ k => XS.lloadN X187.here hx rfl (hb hby at_45) rfl k) ?_
      show OwnGo p e below _ (T187.setTop (mkF m 46 #[.val (.long q0), .second, .val (.long q1), .second, .val (.int p2), .val (.int p3), .val (.int p4), .val (.int ((p2 &&& (2147483647 : Int32)) % (3 : Int32))), .val (.ref aALL_KEYS), .unset, .unset, .unset, .unset, .unset, .unset, .unset, .unset, .unset] [(.long q0), (.ref a187), (.ref a187), (.ref a180), (.ref a180)]))
      refine own_go (fun _ k => XS.lloadN X187.here hx rfl (hb hby at_46) rfl k) ?_
      show OwnGo p e below _ (T187.setTop (mkF m 47 #[.val (.long q0), .second, .val (.long q1), .second, .val (.int p2), .val (.int p3), .val (.int p4), .val (.int ((p2 &&& (2147483647 : Int32)) % (3 : Int32))), .val (.ref aALL_KEYS), .unset, .unset, .unset, .unset, .unset, .unset, .unset, .unset, .unset] [(.long q1), (.long q0), (.ref a187), (.ref a187), (.ref a180), (.ref a180)]))
      obtain ⟨_, _, ⟨T192, L192, k192, n192⟩, -, X192, ⟨Lc192, hQ192, l192, y192, z192⟩, st192⟩ := X187.specialBack hx (y := (⟨"com/example/vesper/vesper/store/SipHash", "<init>", "(JJ)V"⟩ : MethodName)) rfl hown (mvT hZ (hw _ (List.mem_of_getElem? (i := 10) rfl))) (mvT hZ (hw _ (List.mem_of_getElem? (i := 11) rfl))) (mvT hZ (hw _ (List.mem_of_getElem? (i := 12) rfl))) (by decide) (backOf (W := 3) (rm_sip l Z a0 hw [] aNONE aEXPIRING_KEYS aALL_KEYS F0 a187 q0 q1 h187 n0 O187 F190 F191 A187 ge187) hZ (hw _ (List.mem_of_getElem? (i := 12) rfl)) (hw _ (List.mem_of_getElem? (i := 9) rfl)) (by decide) (by decide)) (g := (mkF m 47 #[.val (.long q0), .second, .val (.long q1), .second, .val (.int p2), .val (.int p3), .val (.int p4), .val (.int ((p2 &&& (2147483647 : Int32)) % (3 : Int32))), .val (.ref aALL_KEYS), .unset, .unset, .unset, .unset, .unset, .unset, .unset, .unset, .unset] [(.long q1), (.long q0), (.ref a187), (.ref a187), (.ref a180), (.ref a180)])) rfl (by rw [hml]; rfl) (Steps.refl _) (a := a187) (argsL := [(.long q0), (.long q1)]) (rest := [(.ref a187), (.ref a180), (.ref a180)]) (lenOf pd_J_J__V rfl) rfl (by show 2 * 0 + _ ≤ _; exact Nat.le_of_eq rfl) (hb hby at_47) (fun _ _ => ⟨rfl, e187, (by decide : 2 + 0 ≤ _), (by decide : 8 + 0 ≤ _)⟩)
      dsimp only [Pt.U, Pt.locs, Pt.cells, Pt.slots] at X192 l192 y192 z192 st192 hQ192
      subst l192 y192 z192
      obtain ⟨rfl, Nq192, K192⟩ := hQ192
      have N192 := Fr.app N0 Nq192
      have O192 := O187.keep K192 (allS ge187 all0)
      have e192 : T192.heap = T192.heap := rfl
      have z193 : h0.size ≤ T192.heap.size := Nat.le_trans z189 K192.1
      refine own_go (fun _ k => st192.trans k) ?_
      show OwnGo p e below _ (T192.setTop (mkF m 50 #[.val (.long q0), .second, .val (.long q1), .second, .val (.int p2), .val (.int p3), .val (.int p4), .val (.int ((p2 &&& (2147483647 : Int32)) % (3 : Int32))), .val (.ref aALL_KEYS), .unset, .unset, .unset, .unset, .unset, .unset, .unset, .unset, .unset] [(.ref a187), (.ref a180), (.ref a180)]))
      refine own_go (fun _ k => XS.aload X192.here hx rfl (hb hby at_50) rfl rfl k) ?_
      show OwnGo p e below _ (T192.setTop (mkF m 52 #[.val (.long q0), .second, .val (.long q1), .second, .val (.int p2), .val (.int p3), .val (.int p4), .val (.int ((p2 &&& (2147483647 : Int32)) % (3 : Int32))), .val (.ref aALL_KEYS), .unset, .unset, .unset, .unset, .unset, .unset, .unset, .unset, .unset] [(.ref aALL_KEYS), (.ref a187), (.ref a180), (.ref a180)]))
      have F194 := ((F182.ext E187).keep K192 (ninS ne188 nin0))
      have F195 := ((F183.ext E187).keep K192 (ninS ne188 nin0))
      have F196 := ((F184.ext E187).keep K192 (ninS ne188 nin0))
      have F197 := ((F185.ext E187).keep K192 (ninS ne188 nin0))
      have F198 := ((F186.ext E187).keep K192 (ninS ne188 nin0))
      have F199 := ((A180.ext E187).keep K192)
      have F200 := (A187.keep K192)
      obtain ⟨_, _, ⟨T201, L201, k201, n201⟩, -, X201, ⟨Lc201, hQ201, l201, y201, z201⟩, st201⟩ := X192.specialBack hx (y := (⟨"com/example/vesper/vesper/store/Table", "<init>", "(Lcom/example/vesper/vesper/store/SipHash;Lcom/example/vesper/vesper/store/Evictor$Scope;)V"⟩ : MethodName)) rfl hown (mvT hZ (hw _ (List.mem_of_getElem? (i := 20) rfl))) (mvT hZ (hw _ (List.mem_of_getElem? (i := 21) rfl))) (mvT hZ (hw _ (List.mem_of_getElem? (i := 22) rfl))) (by decide) (backOf (W := 1) (rm_ti1 l Z a0 hw [] aNONE aEXPIRING_KEYS aALL_KEYS F0 a180 a187 T192.heap n0 O192 F194 F195 F196 F197 F198 F199 ge180) hZ (hw _ (List.mem_of_getElem? (i := 22) rfl)) (hw _ (List.mem_of_getElem? (i := 6) rfl)) (by decide) (by decide)) (g := (mkF m 52 #[.val (.long q0), .second, .val (.long q1), .second, .val (.int p2), .val (.int p3), .val (.int p4), .val (.int ((p2 &&& (2147483647 : Int32)) % (3 : Int32))), .val (.ref aALL_KEYS), .unset, .unset, .unset, .unset, .unset, .unset, .unset, .unset, .unset] [(.ref aALL_KEYS), (.ref a187), (.ref a180), (.ref a180)])) rfl (by rw [hml]; rfl) (Steps.refl _) (a := a180) (argsL := [(.ref a187), (.ref aALL_KEYS)]) (rest := [(.ref a180)]) (lenOf pd_Lcom_example_vesper_vesper_store_SipHash__Lcom_example_vesper_vesper_store_Evictor_Scope___V rfl) rfl (by show 2 * 0 + _ ≤ _; exact Nat.le_of_eq rfl) (hb hby at_52) (fun _ _ => ⟨rfl, e192, (by decide : 2 + 2 ≤ _), (by decide : 8 + 18 ≤ _)⟩)
      dsimp only [Pt.U, Pt.locs, Pt.cells, Pt.slots] at X201 l201 y201 z201 st201 hQ201
      subst l201 y201 z201
      obtain ⟨r9_201, k9_201, rfl, Nq201, K201, x201_0, x201_1, x201_2, x201_3⟩ := hQ201
      have N201 := Fr.app N192 Nq201
      have O201 := O192.keep K201 (allS ge180 all0)
      have e201 : T201.heap = T201.heap := rfl
      have z202 : h0.size ≤ T201.heap.size := Nat.le_trans z193 K201.1
      have gex201_3 : n0 ≤ r9_201 := Nat.le_trans (own_sz O192) x201_3
      have ghx201_3 : h0.size ≤ r9_201 := Nat.le_trans z193 x201_3
      have ne203 : a180 ≠ r9_201 := own_newlt F199.lt x201_3
      have ne204 : a187 ≠ r9_201 := own_newlt F200.lt x201_3
      refine own_go (fun _ k => st201.trans k) ?_
      show OwnGo p e below _ (T201.setTop (mkF m 55 #[.val (.long q0), .second, .val (.long q1), .second, .val (.int p2), .val (.int p3), .val (.int p4), .val (.int ((p2 &&& (2147483647 : Int32)) % (3 : Int32))), .val (.ref aALL_KEYS), .unset, .unset, .unset, .unset, .unset, .unset, .unset, .unset, .unset] [(.ref a180)]))
      refine own_go (fun _ k => XS.astore X201.here hx rfl (hb hby at_55) rfl rfl (l' := #[.val (.long q0), .second, .val (.long q1), .second, .val (.int p2), .val (.int p3), .val (.int p4), .val (.int ((p2 &&& (2147483647 : Int32)) % (3 : Int32))), .val (.ref aALL_KEYS), .val (.ref a180), .unset, .unset, .unset, .unset, .unset, .unset, .unset, .unset]) rfl k) ?_
      show OwnGo p e below _ (T201.setTop (mkF m 57 #[.val (.long q0), .second, .val (.long q1), .second, .val (.int p2), .val (.int p3), .val (.int p4), .val (.int ((p2 &&& (2147483647 : Int32)) % (3 : Int32))), .val (.ref aALL_KEYS), .val (.ref a180), .unset, .unset, .unset, .unset, .unset, .unset, .unset, .unset] []))
      refine own_go (fun _ k => XS.iload X201.here hx rfl (hb hby at_57) rfl k) ?_
      show OwnGo p e below _ (T201.setTop (mkF m 59 #[.val (.long q0), .second, .val (.long q1), .second, .val (.int p2), .val (.int p3), .val (.int p4), .val (.int ((p2 &&& (2147483647 : Int32)) % (3 : Int32))), .val (.ref aALL_KEYS), .val (.ref a180), .unset, .unset, .unset, .unset, .unset, .unset, .unset, .unset] [(.int p3)]))
      refine own_go (fun _ k => XS.iload X201.here hx rfl (hb hby at_59) rfl k) ?_
      show OwnGo p e below _ (T201.setTop (mkF m 61 #[.val (.long q0), .second, .val (.long q1), .second, .val (.int p2), .val (.int p3), .val (.int p4), .val (.int ((p2 &&& (2147483647 : Int32)) % (3 : Int32))), .val (.ref aALL_KEYS), .val (.ref a180), .unset, .unset, .unset, .unset, .unset, .unset, .unset, .unset] [(.int p4), (.int p3)]))
      refine own_go (fun _ k => XS.bipush X201.here hx rfl (hb hby at_61) k) ?_
      show OwnGo p e below _ (T201.setTop (mkF m 63 #[.val (.long q0), .second, .val (.long q1), .second, .val (.int p2), .val (.int p3), .val (.int p4), .val (.int ((p2 &&& (2147483647 : Int32)) % (3 : Int32))), .val (.ref aALL_KEYS), .val (.ref a180), .unset, .unset, .unset, .unset, .unset, .unset, .unset, .unset] [(.int (31 : Int32)), (.int p4), (.int p3)]))
      refine own_go (fun _ k => XS.iand X201.here hx rfl (hb hby at_63) rfl k) ?_
      show OwnGo p e below _ (T201.setTop (mkF m 64 #[.val (.long q0), .second, .val (.long q1), .second, .val (.int p2), .val (.int p3), .val (.int p4), .val (.int ((p2 &&& (2147483647 : Int32)) % (3 : Int32))), .val (.ref aALL_KEYS), .val (.ref a180), .unset, .unset, .unset, .unset, .unset, .unset, .unset, .unset] [(.int (p4 &&& (31 : Int32))), (.int p3)]))
      refine own_go (fun _ k => XS.ishr X201.here hx rfl (hb hby at_64) rfl k) ?_
      show OwnGo p e below _ (T201.setTop (mkF m 65 #[.val (.long q0), .second, .val (.long q1), .second, .val (.int p2), .val (.int p3), .val (.int p4), .val (.int ((p2 &&& (2147483647 : Int32)) % (3 : Int32))), .val (.ref aALL_KEYS), .val (.ref a180), .unset, .unset, .unset, .unset, .unset, .unset, .unset, .unset] [(.int ((p3 >>> ((p4 &&& (31 : Int32)) &&& 31))))]))
      obtain ⟨en, hen⟩ : ∃ z, z = ((p3 >>> ((p4 &&& (31 : Int32)) &&& 31))) := ⟨_, rfl⟩
      rw [← hen]
      show OwnGo p e below _ (T201.setTop (mkF m 65 #[.val (.long q0), .second, .val (.long q1), .second, .val (.int p2), .val (.int p3), .val (.int p4), .val (.int ((p2 &&& (2147483647 : Int32)) % (3 : Int32))), .val (.ref aALL_KEYS), .val (.ref a180), .unset, .unset, .unset, .unset, .unset, .unset, .unset, .unset] [(.int en)]))
      refine own_go (fun _ k => XS.istore X201.here hx rfl (hb hby at_65) rfl (l' := #[.val (.long q0), .second, .val (.long q1), .second, .val (.int p2), .val (.int p3), .val (.int p4), .val (.int ((p2 &&& (2147483647 : Int32)) % (3 : Int32))), .val (.ref aALL_KEYS), .val (.ref a180), .val (.int en), .unset, .unset, .unset, .unset, .unset, .unset, .unset]) rfl k) ?_
      show OwnGo p e below _ (T201.setTop (mkF m 67 #[.val (.long q0), .second, .val (.long q1), .second, .val (.int p2), .val (.int p3), .val (.int p4), .val (.int ((p2 &&& (2147483647 : Int32)) % (3 : Int32))), .val (.ref aALL_KEYS), .val (.ref a180), .val (.int en), .unset, .unset, .unset, .unset, .unset, .unset, .unset] []))
      refine own_go (fun _ k => XS.aload X201.here hx rfl (hb hby at_67) rfl rfl k) ?_
      show OwnGo p e below _ (T201.setTop (mkF m 69 #[.val (.long q0), .second, .val (.long q1), .second, .val (.int p2), .val (.int p3), .val (.int p4), .val (.int ((p2 &&& (2147483647 : Int32)) % (3 : Int32))), .val (.ref aALL_KEYS), .val (.ref a180), .val (.int en), .unset, .unset, .unset, .unset, .unset, .unset, .unset] [(.ref a180)]))
      refine own_go (fun _ k => XS.iload X201.here hx rfl (hb hby at_69) rfl k) ?_
      show OwnGo p e below _ (T201.setTop (mkF m 71 #[.val (.long q0), .second, .val (.long q1), .second, .val (.int p2), .val (.int p3), .val (.int p4), .val (.int ((p2 &&& (2147483647 : Int32)) % (3 : Int32))), .val (.ref aALL_KEYS), .val (.ref a180), .val (.int en), .unset, .unset, .unset, .unset, .unset, .unset, .unset] [(.int en), (.ref a180)]))
      have F205 := (F199.keep K201)
      obtain ⟨cq206, kq206, qa206, qb206, qc206⟩ := isOf hZ e201 F205
      obtain ⟨_, _, ⟨T206, L206, k206, n206⟩, -, X206, ⟨Lc206, hQ206, l206, y206, z206⟩, st206⟩ := X201.virtualBack hx (y := (⟨"com/example/vesper/vesper/store/Table", "bucketsFor", "(I)I"⟩ : MethodName)) (z := (⟨"com/example/vesper/vesper/store/Table", "bucketsFor", "(I)I"⟩ : MethodName)) hown (mvT hZ (hw _ (List.mem_of_getElem? (i := 42) rfl))) (mvT hZ (hw _ (List.mem_of_getElem? (i := 43) rfl))) (notFace_of_selects (args := #[]) (mvT hZ (hw _ (List.mem_of_getElem? (i := 45) rfl)))) (mvT hZ (hw _ (List.mem_of_getElem? (i := 45) rfl))) (mvT hZ (hw _ (List.mem_of_getElem? (i := 44) rfl))) (by decide) (backOf (W := 0) (rm_bf l Z a0 hw [] aNONE aEXPIRING_KEYS aALL_KEYS F0 a180 en r9_201 k9_201 (own_bf en) T201.heap n0 O201 x201_0 x201_2 rfl) hZ (hw _ (List.mem_of_getElem? (i := 46) rfl)) (hw _ (List.mem_of_getElem? (i := 6) rfl)) (by decide) (by decide)) qa206 qc206 (g := (mkF m 71 #[.val (.long q0), .second, .val (.long q1), .second, .val (.int p2), .val (.int p3), .val (.int p4), .val (.int ((p2 &&& (2147483647 : Int32)) % (3 : Int32))), .val (.ref aALL_KEYS), .val (.ref a180), .val (.int en), .unset, .unset, .unset, .unset, .unset, .unset, .unset] [(.int en), (.ref a180)])) rfl (by rw [hml]; rfl) (Steps.refl _) (argsL := [(.int en)]) (rest := []) (lenOf pd_I__I rfl) rfl (by show 2 * 0 + _ ≤ _; exact Nat.le_of_eq rfl) (hb hby at_71) (fun _ _ => ⟨rfl, e201, (by decide : 4 + 0 ≤ _), (by decide : 26 + 0 ≤ _)⟩)
      dsimp only [Pt.U, Pt.locs, Pt.cells, Pt.slots] at X206 l206 y206 z206 st206 hQ206
      subst l206 y206 z206
      obtain ⟨rfl, Nq206, K206⟩ := hQ206
      have N206 := Fr.app N201 Nq206
      refine own_go (fun _ k => st206.trans k) ?_
      show OwnGo p e below _ (T206.setTop (mkF m 74 #[.val (.long q0), .second, .val (.long q1), .second, .val (.int p2), .val (.int p3), .val (.int p4), .val (.int ((p2 &&& (2147483647 : Int32)) % (3 : Int32))), .val (.ref aALL_KEYS), .val (.ref a180), .val (.int en), .unset, .unset, .unset, .unset, .unset, .unset, .unset] [(.int (own_bf en))]))
      refine own_go (fun _ k => XS.istore X206.here hx rfl (hb hby at_74) rfl (l' := #[.val (.long q0), .second, .val (.long q1), .second, .val (.int p2), .val (.int p3), .val (.int p4), .val (.int ((p2 &&& (2147483647 : Int32)) % (3 : Int32))), .val (.ref aALL_KEYS), .val (.ref a180), .val (.int en), .val (.int (own_bf en)), .unset, .unset, .unset, .unset, .unset, .unset]) rfl k) ?_
      show OwnGo p e below _ (T206.setTop (mkF m 76 #[.val (.long q0), .second, .val (.long q1), .second, .val (.int p2), .val (.int p3), .val (.int p4), .val (.int ((p2 &&& (2147483647 : Int32)) % (3 : Int32))), .val (.ref aALL_KEYS), .val (.ref a180), .val (.int en), .val (.int (own_bf en)), .unset, .unset, .unset, .unset, .unset, .unset] []))
      refine own_go (fun _ k => Jvm.Stand.ldcI X206 hx hown (mvT hZ (hw _ (List.mem_of_getElem? (i := 47) rfl))) rfl (hb hby at_76) k) ?_
      show OwnGo p e below _ (T206.setTop (mkF m 78 #[.val (.long q0), .second, .val (.long q1), .second, .val (.int p2), .val (.int p3), .val (.int p4), .val (.int ((p2 &&& (2147483647 : Int32)) % (3 : Int32))), .val (.ref aALL_KEYS), .val (.ref a180), .val (.int en), .val (.int (own_bf en)), .unset, .unset, .unset, .unset, .unset, .unset] [(.int (1073741824 : Int32))]))
      refine own_go (fun _ k => XS.istore X206.here hx rfl (hb hby at_78) rfl (l' := #[.val (.long q0), .second, .val (.long q1), .second, .val (.int p2), .val (.int p3), .val (.int p4), .val (.int ((p2 &&& (2147483647 : Int32)) % (3 : Int32))), .val (.ref aALL_KEYS), .val (.ref a180), .val (.int en), .val (.int (own_bf en)), .val (.int (1073741824 : Int32)), .unset, .unset, .unset, .unset, .unset]) rfl k) ?_
      show OwnGo p e below _ (T206.setTop (mkF m 80 #[.val (.long q0), .second, .val (.long q1), .second, .val (.int p2), .val (.int p3), .val (.int p4), .val (.int ((p2 &&& (2147483647 : Int32)) % (3 : Int32))), .val (.ref aALL_KEYS), .val (.ref a180), .val (.int en), .val (.int (own_bf en)), .val (.int (1073741824 : Int32)), .unset, .unset, .unset, .unset, .unset] []))
      refine own_go (fun _ k => XS.iload X206.here hx rfl (hb hby at_80) rfl k) ?_
      show OwnGo p e below _ (T206.setTop (mkF m 82 #[.val (.long q0), .second, .val (.long q1), .second, .val (.int p2), .val (.int p3), .val (.int p4), .val (.int ((p2 &&& (2147483647 : Int32)) % (3 : Int32))), .val (.ref aALL_KEYS), .val (.ref a180), .val (.int en), .val (.int (own_bf en)), .val (.int (1073741824 : Int32)), .unset, .unset, .unset, .unset, .unset] [(.int (own_bf en))]))
      refine own_go (fun _ k => XS.ifNo X206.here hx rfl (hb hby at_82) rfl ((if0 _ _).trans (tlt (own_bf_spec en).1).2.2.2) k) ?_
      show OwnGo p e below _ (T206.setTop (mkF m 85 #[.val (.long q0), .second, .val (.long q1), .second, .val (.int p2), .val (.int p3), .val (.int p4), .val (.int ((p2 &&& (2147483647 : Int32)) % (3 : Int32))), .val (.ref aALL_KEYS), .val (.ref a180), .val (.int en), .val (.int (own_bf en)), .val (.int (1073741824 : Int32)), .unset, .unset, .unset, .unset, .unset] []))
      refine own_go (fun _ k => XS.iload X206.here hx rfl (hb hby at_85) rfl k) ?_
      show OwnGo p e below _ (T206.setTop (mkF m 87 #[.val (.long q0), .second, .val (.long q1), .second, .val (.int p2), .val (.int p3), .val (.int p4), .val (.int ((p2 &&& (2147483647 : Int32)) % (3 : Int32))), .val (.ref aALL_KEYS), .val (.ref a180), .val (.int en), .val (.int (own_bf en)), .val (.int (1073741824 : Int32)), .unset, .unset, .unset, .unset, .unset] [(.int (own_bf en))]))
      refine own_go (fun _ k => XS.iload X206.here hx rfl (hb hby at_87) rfl k) ?_
      show OwnGo p e below _ (T206.setTop (mkF m 89 #[.val (.long q0), .second, .val (.long q1), .second, .val (.int p2), .val (.int p3), .val (.int p4), .val (.int ((p2 &&& (2147483647 : Int32)) % (3 : Int32))), .val (.ref aALL_KEYS), .val (.ref a180), .val (.int en), .val (.int (own_bf en)), .val (.int (1073741824 : Int32)), .unset, .unset, .unset, .unset, .unset] [(.int (own_bf en)), (.int (own_bf en))]))
      refine own_go (fun _ k => XS.iconst X206.here hx rfl (hb hby at_89) k) ?_
      show OwnGo p e below _ (T206.setTop (mkF m 90 #[.val (.long q0), .second, .val (.long q1), .second, .val (.int p2), .val (.int p3), .val (.int p4), .val (.int ((p2 &&& (2147483647 : Int32)) % (3 : Int32))), .val (.ref aALL_KEYS), .val (.ref a180), .val (.int en), .val (.int (own_bf en)), .val (.int (1073741824 : Int32)), .unset, .unset, .unset, .unset, .unset] [(.int (1 : Int32)), (.int (own_bf en)), (.int (own_bf en))]))
      refine own_go (fun _ k => XS.isub X206.here hx rfl (hb hby at_90) rfl k) ?_
      show OwnGo p e below _ (T206.setTop (mkF m 91 #[.val (.long q0), .second, .val (.long q1), .second, .val (.int p2), .val (.int p3), .val (.int p4), .val (.int ((p2 &&& (2147483647 : Int32)) % (3 : Int32))), .val (.ref aALL_KEYS), .val (.ref a180), .val (.int en), .val (.int (own_bf en)), .val (.int (1073741824 : Int32)), .unset, .unset, .unset, .unset, .unset] [(.int ((own_bf en) - (1 : Int32))), (.int (own_bf en))]))
      refine own_go (fun _ k => XS.iand X206.here hx rfl (hb hby at_91) rfl k) ?_
      show OwnGo p e below _ (T206.setTop (mkF m 92 #[.val (.long q0), .second, .val (.long q1), .second, .val (.int p2), .val (.int p3), .val (.int p4), .val (.int ((p2 &&& (2147483647 : Int32)) % (3 : Int32))), .val (.ref aALL_KEYS), .val (.ref a180), .val (.int en), .val (.int (own_bf en)), .val (.int (1073741824 : Int32)), .unset, .unset, .unset, .unset, .unset] [(.int ((own_bf en) &&& ((own_bf en) - (1 : Int32))))]))
      refine own_go (fun _ k => XS.ifNo X206.here hx rfl (hb hby at_92) rfl ((if0 _ _).trans (teq (own_bf_spec en).2.1).2) k) ?_
      show OwnGo p e below _ (T206.setTop (mkF m 95 #[.val (.long q0), .second, .val (.long q1), .second, .val (.int p2), .val (.int p3), .val (.int p4), .val (.int ((p2 &&& (2147483647 : Int32)) % (3 : Int32))), .val (.ref aALL_KEYS), .val (.ref a180), .val (.int en), .val (.int (own_bf en)), .val (.int (1073741824 : Int32)), .unset, .unset, .unset, .unset, .unset] []))
      refine own_go (fun _ k => XS.iconst X206.here hx rfl (hb hby at_95) k) ?_
      show OwnGo p e below _ (T206.setTop (mkF m 96 #[.val (.long q0), .second, .val (.long q1), .second, .val (.int p2), .val (.int p3), .val (.int p4), .val (.int ((p2 &&& (2147483647 : Int32)) % (3 : Int32))), .val (.ref aALL_KEYS), .val (.ref a180), .val (.int en), .val (.int (own_bf en)), .val (.int (1073741824 : Int32)), .unset, .unset, .unset, .unset, .unset] [(.int (1 : Int32))]))
      refine own_go (fun _ k => XS.goto X206.here hx rfl (pc0 := 96) (pc' := 100) rfl (hb hby at_96) (by decide) (by decide) k) ?_
      show OwnGo p e below _ (T206.setTop (mkF m 100 #[.val (.long q0), .second, .val (.long q1), .second, .val (.int p2), .val (.int p3), .val (.int p4), .val (.int ((p2 &&& (2147483647 : Int32)) % (3 : Int32))), .val (.ref aALL_KEYS), .val (.ref a180), .val (.int en), .val (.int (own_bf en)), .val (.int (1073741824 : Int32)), .unset, .unset, .unset, .unset, .unset] [(.int (1 : Int32))]))
      refine own_go (fun _ k => XS.istore X206.here hx rfl (hb hby at_100) rfl (l' := #[.val (.long q0), .second, .val (.long q1), .second, .val (.int p2), .val (.int p3), .val (.int p4), .val (.int ((p2 &&& (2147483647 : Int32)) % (3 : Int32))), .val (.ref aALL_KEYS), .val (.ref a180), .val (.int en), .val (.int (own_bf en)), .val (.int (1073741824 : Int32)), .val (.int (1 : Int32)), .unset, .unset, .unset, .unset]) rfl k) ?_
      show OwnGo p e below _ (T206.setTop (mkF m 102 #[.val (.long q0), .second, .val (.long q1), .second, .val (.int p2), .val (.int p3), .val (.int p4), .val (.int ((p2 &&& (2147483647 : Int32)) % (3 : Int32))), .val (.ref aALL_KEYS), .val (.ref a180), .val (.int en), .val (.int (own_bf en)), .val (.int (1073741824 : Int32)), .val (.int (1 : Int32)), .unset, .unset, .unset, .unset] []))
      refine own_go (fun _ k => XS.iload X206.here hx rfl (hb hby at_102) rfl k) ?_
      show OwnGo p e below _ (T206.setTop (mkF m 104 #[.val (.long q0), .second, .val (.long q1), .second, .val (.int p2), .val (.int p3), .val (.int p4), .val (.int ((p2 &&& (2147483647 : Int32)) % (3 : Int32))), .val (.ref aALL_KEYS), .val (.ref a180), .val (.int en), .val (.int (own_bf en)), .val (.int (1073741824 : Int32)), .val (.int (1 : Int32)), .unset, .unset, .unset, .unset] [(.int (own_bf en))]))
      refine own_go (fun _ k => XS.bipush X206.here hx rfl (hb hby at_104) k) ?_
      show OwnGo p e below _ (T206.setTop (mkF m 106 #[.val (.long q0), .second, .val (.long q1), .second, .val (.int p2), .val (.int p3), .val (.int p4), .val (.int ((p2 &&& (2147483647 : Int32)) % (3 : Int32))), .val (.ref aALL_KEYS), .val (.ref a180), .val (.int en), .val (.int (own_bf en)), .val (.int (1073741824 : Int32)), .val (.int (1 : Int32)), .unset, .unset, .unset, .unset] [(.int (16 : Int32)), (.int (own_bf en))]))
      refine own_go (fun _ k => XS.icmpNo X206.here hx rfl (hb hby at_106) rfl (flt (own_bf_spec en).2.2.1).1 k) ?_
      show OwnGo p e below _ (T206.setTop (mkF m 109 #[.val (.long q0), .second, .val (.long q1), .second, .val (.int p2), .val (.int p3), .val (.int p4), .val (.int ((p2 &&& (2147483647 : Int32)) % (3 : Int32))), .val (.ref aALL_KEYS), .val (.ref a180), .val (.int en), .val (.int (own_bf en)), .val (.int (1073741824 : Int32)), .val (.int (1 : Int32)), .unset, .unset, .unset, .unset] []))
      refine own_go (fun _ k => XS.iload X206.here hx rfl (hb hby at_109) rfl k) ?_
      show OwnGo p e below _ (T206.setTop (mkF m 111 #[.val (.long q0), .second, .val (.long q1), .second, .val (.int p2), .val (.int p3), .val (.int p4), .val (.int ((p2 &&& (2147483647 : Int32)) % (3 : Int32))), .val (.ref aALL_KEYS), .val (.ref a180), .val (.int en), .val (.int (own_bf en)), .val (.int (1073741824 : Int32)), .val (.int (1 : Int32)), .unset, .unset, .unset, .unset] [(.int (own_bf en))]))
      refine own_go (fun _ k => XS.iload X206.here hx rfl (hb hby at_111) rfl k) ?_
      show OwnGo p e below _ (T206.setTop (mkF m 113 #[.val (.long q0), .second, .val (.long q1), .second, .val (.int p2), .val (.int p3), .val (.int p4), .val (.int ((p2 &&& (2147483647 : Int32)) % (3 : Int32))), .val (.ref aALL_KEYS), .val (.ref a180), .val (.int en), .val (.int (own_bf en)), .val (.int (1073741824 : Int32)), .val (.int (1 : Int32)), .unset, .unset, .unset, .unset] [(.int (1073741824 : Int32)), (.int (own_bf en))]))
      refine own_go (fun _ k => XS.icmpNo X206.here hx rfl (hb hby at_113) rfl (flt (own_bf_spec en).2.2.2.1).2.2.1 k) ?_
      show OwnGo p e below _ (T206.setTop (mkF m 116 #[.val (.long q0), .second, .val (.long q1), .second, .val (.int p2), .val (.int p3), .val (.int p4), .val (.int ((p2 &&& (2147483647 : Int32)) % (3 : Int32))), .val (.ref aALL_KEYS), .val (.ref a180), .val (.int en), .val (.int (own_bf en)), .val (.int (1073741824 : Int32)), .val (.int (1 : Int32)), .unset, .unset, .unset, .unset] []))
      refine own_go (fun _ k => XS.iconst X206.here hx rfl (hb hby at_116) k) ?_
      show OwnGo p e below _ (T206.setTop (mkF m 117 #[.val (.long q0), .second, .val (.long q1), .second, .val (.int p2), .val (.int p3), .val (.int p4), .val (.int ((p2 &&& (2147483647 : Int32)) % (3 : Int32))), .val (.ref aALL_KEYS), .val (.ref a180), .val (.int en), .val (.int (own_bf en)), .val (.int (1073741824 : Int32)), .val (.int (1 : Int32)), .unset, .unset, .unset, .unset] [(.int (1 : Int32))]))
      refine own_go (fun _ k => XS.goto X206.here hx rfl (pc0 := 117) (pc' := 121) rfl (hb hby at_117) (by decide) (by decide) k) ?_
      show OwnGo p e below _ (T206.setTop (mkF m 121 #[.val (.long q0), .second, .val (.long q1), .second, .val (.int p2), .val (.int p3), .val (.int p4), .val (.int ((p2 &&& (2147483647 : Int32)) % (3 : Int32))), .val (.ref aALL_KEYS), .val (.ref a180), .val (.int en), .val (.int (own_bf en)), .val (.int (1073741824 : Int32)), .val (.int (1 : Int32)), .unset, .unset, .unset, .unset] [(.int (1 : Int32))]))
      refine own_go (fun _ k => XS.istore X206.here hx rfl (hb hby at_121) rfl (l' := #[.val (.long q0), .second, .val (.long q1), .second, .val (.int p2), .val (.int p3), .val (.int p4), .val (.int ((p2 &&& (2147483647 : Int32)) % (3 : Int32))), .val (.ref aALL_KEYS), .val (.ref a180), .val (.int en), .val (.int (own_bf en)), .val (.int (1073741824 : Int32)), .val (.int (1 : Int32)), .val (.int (1 : Int32)), .unset, .unset, .unset]) rfl k) ?_
      show OwnGo p e below _ (T206.setTop (mkF m 123 #[.val (.long q0), .second, .val (.long q1), .second, .val (.int p2), .val (.int p3), .val (.int p4), .val (.int ((p2 &&& (2147483647 : Int32)) % (3 : Int32))), .val (.ref aALL_KEYS), .val (.ref a180), .val (.int en), .val (.int (own_bf en)), .val (.int (1073741824 : Int32)), .val (.int (1 : Int32)), .val (.int (1 : Int32)), .unset, .unset, .unset] []))
      refine own_go (fun _ k => XS.iload X206.here hx rfl (hb hby at_123) rfl k) ?_
      show OwnGo p e below _ (T206.setTop (mkF m 125 #[.val (.long q0), .second, .val (.long q1), .second, .val (.int p2), .val (.int p3), .val (.int p4), .val (.int ((p2 &&& (2147483647 : Int32)) % (3 : Int32))), .val (.ref aALL_KEYS), .val (.ref a180), .val (.int en), .val (.int (own_bf en)), .val (.int (1073741824 : Int32)), .val (.int (1 : Int32)), .val (.int (1 : Int32)), .unset, .unset, .unset] [(.int en)]))
      refine own_go (fun _ k => XS.iload X206.here hx rfl (hb hby at_125) rfl k) ?_
      show OwnGo p e below _ (T206.setTop (mkF m 127 #[.val (.long q0), .second, .val (.long q1), .second, .val (.int p2), .val (.int p3), .val (.int p4), .val (.int ((p2 &&& (2147483647 : Int32)) % (3 : Int32))), .val (.ref aALL_KEYS), .val (.ref a180), .val (.int en), .val (.int (own_bf en)), .val (.int (1073741824 : Int32)), .val (.int (1 : Int32)), .val (.int (1 : Int32)), .unset, .unset, .unset] [(.int (own_bf en)), (.int en)]))
      refine own_go (fun _ k => XS.iconst X206.here hx rfl (hb hby at_127) k) ?_
      show OwnGo p e below _ (T206.setTop (mkF m 128 #[.val (.long q0), .second, .val (.long q1), .second, .val (.int p2), .val (.int p3), .val (.int p4), .val (.int ((p2 &&& (2147483647 : Int32)) % (3 : Int32))), .val (.ref aALL_KEYS), .val (.ref a180), .val (.int en), .val (.int (own_bf en)), .val (.int (1073741824 : Int32)), .val (.int (1 : Int32)), .val (.int (1 : Int32)), .unset, .unset, .unset] [(.int (4 : Int32)), (.int (own_bf en)), (.int en)]))
      refine own_go (fun _ k => XS.idiv X206.here hx rfl (hb hby at_128) rfl (by decide) k) ?_
      show OwnGo p e below _ (T206.setTop (mkF m 129 #[.val (.long q0), .second, .val (.long q1), .second, .val (.int p2), .val (.int p3), .val (.int p4), .val (.int ((p2 &&& (2147483647 : Int32)) % (3 : Int32))), .val (.ref aALL_KEYS), .val (.ref a180), .val (.int en), .val (.int (own_bf en)), .val (.int (1073741824 : Int32)), .val (.int (1 : Int32)), .val (.int (1 : Int32)), .unset, .unset, .unset] [(.int ((own_bf en) / (4 : Int32))), (.int en)]))
      refine own_go (fun _ k => XS.iconst X206.here hx rfl (hb hby at_129) k) ?_
      show OwnGo p e below _ (T206.setTop (mkF m 130 #[.val (.long q0), .second, .val (.long q1), .second, .val (.int p2), .val (.int p3), .val (.int p4), .val (.int ((p2 &&& (2147483647 : Int32)) % (3 : Int32))), .val (.ref aALL_KEYS), .val (.ref a180), .val (.int en), .val (.int (own_bf en)), .val (.int (1073741824 : Int32)), .val (.int (1 : Int32)), .val (.int (1 : Int32)), .unset, .unset, .unset] [(.int (3 : Int32)), (.int ((own_bf en) / (4 : Int32))), (.int en)]))
      refine own_go (fun _ k => XS.imul X206.here hx rfl (hb hby at_130) rfl k) ?_
      show OwnGo p e below _ (T206.setTop (mkF m 131 #[.val (.long q0), .second, .val (.long q1), .second, .val (.int p2), .val (.int p3), .val (.int p4), .val (.int ((p2 &&& (2147483647 : Int32)) % (3 : Int32))), .val (.ref aALL_KEYS), .val (.ref a180), .val (.int en), .val (.int (own_bf en)), .val (.int (1073741824 : Int32)), .val (.int (1 : Int32)), .val (.int (1 : Int32)), .unset, .unset, .unset] [(.int (((own_bf en) / (4 : Int32)) * (3 : Int32))), (.int en)]))
      by_cases hc207 : (((own_bf en) / (4 : Int32)) * (3 : Int32)) < en
      · refine own_go (fun _ k => XS.icmpNo X206.here hx rfl (hb hby at_131) rfl (tlt hc207).2.2.2 k) ?_
        show OwnGo p e below _ (T206.setTop (mkF m 134 #[.val (.long q0), .second, .val (.long q1), .second, .val (.int p2), .val (.int p3), .val (.int p4), .val (.int ((p2 &&& (2147483647 : Int32)) % (3 : Int32))), .val (.ref aALL_KEYS), .val (.ref a180), .val (.int en), .val (.int (own_bf en)), .val (.int (1073741824 : Int32)), .val (.int (1 : Int32)), .val (.int (1 : Int32)), .unset, .unset, .unset] []))
        refine own_go (fun _ k => XS.iload X206.here hx rfl (hb hby at_134) rfl k) ?_
        show OwnGo p e below _ (T206.setTop (mkF m 136 #[.val (.long q0), .second, .val (.long q1), .second, .val (.int p2), .val (.int p3), .val (.int p4), .val (.int ((p2 &&& (2147483647 : Int32)) % (3 : Int32))), .val (.ref aALL_KEYS), .val (.ref a180), .val (.int en), .val (.int (own_bf en)), .val (.int (1073741824 : Int32)), .val (.int (1 : Int32)), .val (.int (1 : Int32)), .unset, .unset, .unset] [(.int (own_bf en))]))
        refine own_go (fun _ k => XS.iload X206.here hx rfl (hb hby at_136) rfl k) ?_
        show OwnGo p e below _ (T206.setTop (mkF m 138 #[.val (.long q0), .second, .val (.long q1), .second, .val (.int p2), .val (.int p3), .val (.int p4), .val (.int ((p2 &&& (2147483647 : Int32)) % (3 : Int32))), .val (.ref aALL_KEYS), .val (.ref a180), .val (.int en), .val (.int (own_bf en)), .val (.int (1073741824 : Int32)), .val (.int (1 : Int32)), .val (.int (1 : Int32)), .unset, .unset, .unset] [(.int (1073741824 : Int32)), (.int (own_bf en))]))
        refine own_go (fun _ k => XS.icmpNo X206.here hx rfl (hb hby at_138) rfl (teq ((own_bf_spec en).2.2.2.2.1 hc207)).2 k) ?_
        show OwnGo p e below _ (T206.setTop (mkF m 141 #[.val (.long q0), .second, .val (.long q1), .second, .val (.int p2), .val (.int p3), .val (.int p4), .val (.int ((p2 &&& (2147483647 : Int32)) % (3 : Int32))), .val (.ref aALL_KEYS), .val (.ref a180), .val (.int en), .val (.int (own_bf en)), .val (.int (1073741824 : Int32)), .val (.int (1 : Int32)), .val (.int (1 : Int32)), .unset, .unset, .unset] []))
        refine own_go (fun _ k => XS.iconst X206.here hx rfl (hb hby at_141) k) ?_
        show OwnGo p e below _ (T206.setTop (mkF m 142 #[.val (.long q0), .second, .val (.long q1), .second, .val (.int p2), .val (.int p3), .val (.int p4), .val (.int ((p2 &&& (2147483647 : Int32)) % (3 : Int32))), .val (.ref aALL_KEYS), .val (.ref a180), .val (.int en), .val (.int (own_bf en)), .val (.int (1073741824 : Int32)), .val (.int (1 : Int32)), .val (.int (1 : Int32)), .unset, .unset, .unset] [(.int (1 : Int32))]))
        refine own_go (fun _ k => XS.goto X206.here hx rfl (pc0 := 142) (pc' := 146) rfl (hb hby at_142) (by decide) (by decide) k) ?_
        show OwnGo p e below _ (T206.setTop (mkF m 146 #[.val (.long q0), .second, .val (.long q1), .second, .val (.int p2), .val (.int p3), .val (.int p4), .val (.int ((p2 &&& (2147483647 : Int32)) % (3 : Int32))), .val (.ref aALL_KEYS), .val (.ref a180), .val (.int en), .val (.int (own_bf en)), .val (.int (1073741824 : Int32)), .val (.int (1 : Int32)), .val (.int (1 : Int32)), .unset, .unset, .unset] [(.int (1 : Int32))]))
        refine own_go (fun _ k => XS.istore X206.here hx rfl (hb hby at_146) rfl (l' := #[.val (.long q0), .second, .val (.long q1), .second, .val (.int p2), .val (.int p3), .val (.int p4), .val (.int ((p2 &&& (2147483647 : Int32)) % (3 : Int32))), .val (.ref aALL_KEYS), .val (.ref a180), .val (.int en), .val (.int (own_bf en)), .val (.int (1073741824 : Int32)), .val (.int (1 : Int32)), .val (.int (1 : Int32)), .val (.int (1 : Int32)), .unset, .unset]) rfl k) ?_
        show OwnGo p e below _ (T206.setTop (mkF m 148 #[.val (.long q0), .second, .val (.long q1), .second, .val (.int p2), .val (.int p3), .val (.int p4), .val (.int ((p2 &&& (2147483647 : Int32)) % (3 : Int32))), .val (.ref aALL_KEYS), .val (.ref a180), .val (.int en), .val (.int (own_bf en)), .val (.int (1073741824 : Int32)), .val (.int (1 : Int32)), .val (.int (1 : Int32)), .val (.int (1 : Int32)), .unset, .unset] []))
        refine own_go (fun _ k => XS.iload X206.here hx rfl (hb hby at_148) rfl k) ?_
        show OwnGo p e below _ (T206.setTop (mkF m 150 #[.val (.long q0), .second, .val (.long q1), .second, .val (.int p2), .val (.int p3), .val (.int p4), .val (.int ((p2 &&& (2147483647 : Int32)) % (3 : Int32))), .val (.ref aALL_KEYS), .val (.ref a180), .val (.int en), .val (.int (own_bf en)), .val (.int (1073741824 : Int32)), .val (.int (1 : Int32)), .val (.int (1 : Int32)), .val (.int (1 : Int32)), .unset, .unset] [(.int (own_bf en))]))
        refine own_go (fun _ k => XS.bipush X206.here hx rfl (hb hby at_150) k) ?_
        show OwnGo p e below _ (T206.setTop (mkF m 152 #[.val (.long q0), .second, .val (.long q1), .second, .val (.int p2), .val (.int p3), .val (.int p4), .val (.int ((p2 &&& (2147483647 : Int32)) % (3 : Int32))), .val (.ref aALL_KEYS), .val (.ref a180), .val (.int en), .val (.int (own_bf en)), .val (.int (1073741824 : Int32)), .val (.int (1 : Int32)), .val (.int (1 : Int32)), .val (.int (1 : Int32)), .unset, .unset] [(.int (16 : Int32)), (.int (own_bf en))]))
        by_cases hc208 : (own_bf en) = (16 : Int32)
        · refine own_go (fun _ k => XS.icmpYes X206.here hx rfl (pc0 := 152) (pc' := 168) rfl (hb hby at_152) rfl (teq hc208).1 (by decide) (by decide) k) ?_
          show OwnGo p e below _ (T206.setTop (mkF m 168 #[.val (.long q0), .second, .val (.long q1), .second, .val (.int p2), .val (.int p3), .val (.int p4), .val (.int ((p2 &&& (2147483647 : Int32)) % (3 : Int32))), .val (.ref aALL_KEYS), .val (.ref a180), .val (.int en), .val (.int (own_bf en)), .val (.int (1073741824 : Int32)), .val (.int (1 : Int32)), .val (.int (1 : Int32)), .val (.int (1 : Int32)), .unset, .unset] []))
          refine own_go (fun _ k => XS.iconst X206.here hx rfl (hb hby at_168) k) ?_
          show OwnGo p e below _ (T206.setTop (mkF m 169 #[.val (.long q0), .second, .val (.long q1), .second, .val (.int p2), .val (.int p3), .val (.int p4), .val (.int ((p2 &&& (2147483647 : Int32)) % (3 : Int32))), .val (.ref aALL_KEYS), .val (.ref a180), .val (.int en), .val (.int (own_bf en)), .val (.int (1073741824 : Int32)), .val (.int (1 : Int32)), .val (.int (1 : Int32)), .val (.int (1 : Int32)), .unset, .unset] [(.int (1 : Int32))]))
          refine own_go (fun _ k => XS.goto X206.here hx rfl (pc0 := 169) (pc' := 173) rfl (hb hby at_169) (by decide) (by decide) k) ?_
          show OwnGo p e below _ (T206.setTop (mkF m 173 #[.val (.long q0), .second, .val (.long q1), .second, .val (.int p2), .val (.int p3), .val (.int p4), .val (.int ((p2 &&& (2147483647 : Int32)) % (3 : Int32))), .val (.ref aALL_KEYS), .val (.ref a180), .val (.int en), .val (.int (own_bf en)), .val (.int (1073741824 : Int32)), .val (.int (1 : Int32)), .val (.int (1 : Int32)), .val (.int (1 : Int32)), .unset, .unset] [(.int (1 : Int32))]))
          refine own_go (fun _ k => XS.istore X206.here hx rfl (hb hby at_173) rfl (l' := #[.val (.long q0), .second, .val (.long q1), .second, .val (.int p2), .val (.int p3), .val (.int p4), .val (.int ((p2 &&& (2147483647 : Int32)) % (3 : Int32))), .val (.ref aALL_KEYS), .val (.ref a180), .val (.int en), .val (.int (own_bf en)), .val (.int (1073741824 : Int32)), .val (.int (1 : Int32)), .val (.int (1 : Int32)), .val (.int (1 : Int32)), .val (.int (1 : Int32)), .unset]) rfl k) ?_
          show OwnGo p e below _ (T206.setTop (mkF m 175 #[.val (.long q0), .second, .val (.long q1), .second, .val (.int p2), .val (.int p3), .val (.int p4), .val (.int ((p2 &&& (2147483647 : Int32)) % (3 : Int32))), .val (.ref aALL_KEYS), .val (.ref a180), .val (.int en), .val (.int (own_bf en)), .val (.int (1073741824 : Int32)), .val (.int (1 : Int32)), .val (.int (1 : Int32)), .val (.int (1 : Int32)), .val (.int (1 : Int32)), .unset] []))
          refine own_go (fun _ k => XS.aload X206.here hx rfl (hb hby at_175) rfl rfl k) ?_
          show OwnGo p e below _ (T206.setTop (mkF m 177 #[.val (.long q0), .second, .val (.long q1), .second, .val (.int p2), .val (.int p3), .val (.int p4), .val (.int ((p2 &&& (2147483647 : Int32)) % (3 : Int32))), .val (.ref aALL_KEYS), .val (.ref a180), .val (.int en), .val (.int (own_bf en)), .val (.int (1073741824 : Int32)), .val (.int (1 : Int32)), .val (.int (1 : Int32)), .val (.int (1 : Int32)), .val (.int (1 : Int32)), .unset] [(.ref a180)]))
          obtain ⟨cq209, kq209, qa209, qb209, qc209⟩ := isOf hZ K206 F205
          obtain ⟨_, _, ⟨T209, L209, k209, n209⟩, -, X209, ⟨Lc209, hQ209, l209, y209, z209⟩, st209⟩ := X206.virtualBack hx (y := (⟨"com/example/vesper/vesper/store/Table", "buckets", "()I"⟩ : MethodName)) (z := (⟨"com/example/vesper/vesper/store/Table", "buckets", "()I"⟩ : MethodName)) hown (mvT hZ (hw _ (List.mem_of_getElem? (i := 48) rfl))) (mvT hZ (hw _ (List.mem_of_getElem? (i := 49) rfl))) (notFace_of_selects (args := #[]) (mvT hZ (hw _ (List.mem_of_getElem? (i := 51) rfl)))) (mvT hZ (hw _ (List.mem_of_getElem? (i := 51) rfl))) (mvT hZ (hw _ (List.mem_of_getElem? (i := 50) rfl))) (by decide) (backOf (W := 0) (rm_bk l Z a0 hw [] aNONE aEXPIRING_KEYS aALL_KEYS F0 a180 r9_201 k9_201 T201.heap n0 O201 x201_0 x201_2) hZ (hw _ (List.mem_of_getElem? (i := 52) rfl)) (hw _ (List.mem_of_getElem? (i := 6) rfl)) (by decide) (by decide)) qa209 qc209 (g := (mkF m 177 #[.val (.long q0), .second, .val (.long q1), .second, .val (.int p2), .val (.int p3), .val (.int p4), .val (.int ((p2 &&& (2147483647 : Int32)) % (3 : Int32))), .val (.ref aALL_KEYS), .val (.ref a180), .val (.int en), .val (.int (own_bf en)), .val (.int (1073741824 : Int32)), .val (.int (1 : Int32)), .val (.int (1 : Int32)), .val (.int (1 : Int32)), .val (.int (1 : Int32)), .unset] [(.ref a180)])) rfl (by rw [hml]; rfl) (Steps.refl _) (argsL := []) (rest := []) (lenOf pd___I rfl) rfl (by show 2 * 0 + _ ≤ _; exact Nat.le_of_eq rfl) (hb hby at_177) (fun _ _ => ⟨rfl, K206, (by decide : 4 + 0 ≤ _), (by decide : 26 + 0 ≤ _)⟩)
          dsimp only [Pt.U, Pt.locs, Pt.cells, Pt.slots] at X209 l209 y209 z209 st209 hQ209
          subst l209 y209 z209
          obtain ⟨rfl, Nq209, K209⟩ := hQ209
          have N209 := Fr.app N206 Nq209
          refine own_go (fun _ k => st209.trans k) ?_
          show OwnGo p e below _ (T209.setTop (mkF m 180 #[.val (.long q0), .second, .val (.long q1), .second, .val (.int p2), .val (.int p3), .val (.int p4), .val (.int ((p2 &&& (2147483647 : Int32)) % (3 : Int32))), .val (.ref aALL_KEYS), .val (.ref a180), .val (.int en), .val (.int (own_bf en)), .val (.int (1073741824 : Int32)), .val (.int (1 : Int32)), .val (.int (1 : Int32)), .val (.int (1 : Int32)), .val (.int (1 : Int32)), .unset] [(.int (16 : Int32))]))
          refine own_go (fun _ k => XS.bipush X209.here hx rfl (hb hby at_180) k) ?_
          show OwnGo p e below _ (T209.setTop (mkF m 182 #[.val (.long q0), .second, .val (.long q1), .second, .val (.int p2), .val (.int p3), .val (.int p4), .val (.int ((p2 &&& (2147483647 : Int32)) % (3 : Int32))), .val (.ref aALL_KEYS), .val (.ref a180), .val (.int en), .val (.int (own_bf en)), .val (.int (1073741824 : Int32)), .val (.int (1 : Int32)), .val (.int (1 : Int32)), .val (.int (1 : Int32)), .val (.int (1 : Int32)), .unset] [(.int (16 : Int32)), (.int (16 : Int32))]))
          refine own_go (fun _ k => XS.icmpNo X209.here hx rfl (hb hby at_182) rfl (by decide) k) ?_
          show OwnGo p e below _ (T209.setTop (mkF m 185 #[.val (.long q0), .second, .val (.long q1), .second, .val (.int p2), .val (.int p3), .val (.int p4), .val (.int ((p2 &&& (2147483647 : Int32)) % (3 : Int32))), .val (.ref aALL_KEYS), .val (.ref a180), .val (.int en), .val (.int (own_bf en)), .val (.int (1073741824 : Int32)), .val (.int (1 : Int32)), .val (.int (1 : Int32)), .val (.int (1 : Int32)), .val (.int (1 : Int32)), .unset] []))
          refine own_go (fun _ k => XS.aload X209.here hx rfl (hb hby at_185) rfl rfl k) ?_
          show OwnGo p e below _ (T209.setTop (mkF m 187 #[.val (.long q0), .second, .val (.long q1), .second, .val (.int p2), .val (.int p3), .val (.int p4), .val (.int ((p2 &&& (2147483647 : Int32)) % (3 : Int32))), .val (.ref aALL_KEYS), .val (.ref a180), .val (.int en), .val (.int (own_bf en)), .val (.int (1073741824 : Int32)), .val (.int (1 : Int32)), .val (.int (1 : Int32)), .val (.int (1 : Int32)), .val (.int (1 : Int32)), .unset] [(.ref a180)]))
          obtain ⟨cq210, kq210, qa210, qb210, qc210⟩ := isOf hZ K209 F205
          obtain ⟨_, _, ⟨T210, L210, k210, n210⟩, -, X210, ⟨Lc210, hQ210, l210, y210, z210⟩, st210⟩ := X209.virtualBack hx (y := (⟨"com/example/vesper/vesper/store/Table", "size", "()I"⟩ : MethodName)) (z := (⟨"com/example/vesper/vesper/store/Table", "size", "()I"⟩ : MethodName)) hown (mvT hZ (hw _ (List.mem_of_getElem? (i := 53) rfl))) (mvT hZ (hw _ (List.mem_of_getElem? (i := 54) rfl))) (notFace_of_selects (args := #[]) (mvT hZ (hw _ (List.mem_of_getElem? (i := 56) rfl)))) (mvT hZ (hw _ (List.mem_of_getElem? (i := 56) rfl))) (mvT hZ (hw _ (List.mem_of_getElem? (i := 55) rfl))) (by decide) (backOf (W := 0) (rm_sz l Z a0 hw [] aNONE aEXPIRING_KEYS aALL_KEYS F0 a180 T201.heap n0 O201 x201_1) hZ (hw _ (List.mem_of_getElem? (i := 57) rfl)) (hw _ (List.mem_of_getElem? (i := 6) rfl)) (by decide) (by decide)) qa210 qc210 (g := (mkF m 187 #[.val (.long q0), .second, .val (.long q1), .second, .val (.int p2), .val (.int p3), .val (.int p4), .val (.int ((p2 &&& (2147483647 : Int32)) % (3 : Int32))), .val (.ref aALL_KEYS), .val (.ref a180), .val (.int en), .val (.int (own_bf en)), .val (.int (1073741824 : Int32)), .val (.int (1 : Int32)), .val (.int (1 : Int32)), .val (.int (1 : Int32)), .val (.int (1 : Int32)), .unset] [(.ref a180)])) rfl (by rw [hml]; rfl) (Steps.refl _) (argsL := []) (rest := []) (lenOf pd___I rfl) rfl (by show 2 * 0 + _ ≤ _; exact Nat.le_of_eq rfl) (hb hby at_187) (fun _ _ => ⟨rfl, K209, (by decide : 4 + 0 ≤ _), (by decide : 26 + 0 ≤ _)⟩)
          dsimp only [Pt.U, Pt.locs, Pt.cells, Pt.slots] at X210 l210 y210 z210 st210 hQ210
          subst l210 y210 z210
          obtain ⟨rfl, Nq210, K210⟩ := hQ210
          have N210 := Fr.app N209 Nq210
          refine own_go (fun _ k => st210.trans k) ?_
          show OwnGo p e below _ (T210.setTop (mkF m 190 #[.val (.long q0), .second, .val (.long q1), .second, .val (.int p2), .val (.int p3), .val (.int p4), .val (.int ((p2 &&& (2147483647 : Int32)) % (3 : Int32))), .val (.ref aALL_KEYS), .val (.ref a180), .val (.int en), .val (.int (own_bf en)), .val (.int (1073741824 : Int32)), .val (.int (1 : Int32)), .val (.int (1 : Int32)), .val (.int (1 : Int32)), .val (.int (1 : Int32)), .unset] [(.int (0 : Int32))]))
          refine own_go (fun _ k => XS.ifNo X210.here hx rfl (hb hby at_190) rfl (by decide) k) ?_
          show OwnGo p e below _ (T210.setTop (mkF m 193 #[.val (.long q0), .second, .val (.long q1), .second, .val (.int p2), .val (.int p3), .val (.int p4), .val (.int ((p2 &&& (2147483647 : Int32)) % (3 : Int32))), .val (.ref aALL_KEYS), .val (.ref a180), .val (.int en), .val (.int (own_bf en)), .val (.int (1073741824 : Int32)), .val (.int (1 : Int32)), .val (.int (1 : Int32)), .val (.int (1 : Int32)), .val (.int (1 : Int32)), .unset] []))
          refine own_go (fun _ k => XS.iconst X210.here hx rfl (hb hby at_193) k) ?_
          show OwnGo p e below _ (T210.setTop (mkF m 194 #[.val (.long q0), .second, .val (.long q1), .second, .val (.int p2), .val (.int p3), .val (.int p4), .val (.int ((p2 &&& (2147483647 : Int32)) % (3 : Int32))), .val (.ref aALL_KEYS), .val (.ref a180), .val (.int en), .val (.int (own_bf en)), .val (.int (1073741824 : Int32)), .val (.int (1 : Int32)), .val (.int (1 : Int32)), .val (.int (1 : Int32)), .val (.int (1 : Int32)), .unset] [(.int (1 : Int32))]))
          refine own_go (fun _ k => XS.goto X210.here hx rfl (pc0 := 194) (pc' := 198) rfl (hb hby at_194) (by decide) (by decide) k) ?_
          show OwnGo p e below _ (T210.setTop (mkF m 198 #[.val (.long q0), .second, .val (.long q1), .second, .val (.int p2), .val (.int p3), .val (.int p4), .val (.int ((p2 &&& (2147483647 : Int32)) % (3 : Int32))), .val (.ref aALL_KEYS), .val (.ref a180), .val (.int en), .val (.int (own_bf en)), .val (.int (1073741824 : Int32)), .val (.int (1 : Int32)), .val (.int (1 : Int32)), .val (.int (1 : Int32)), .val (.int (1 : Int32)), .unset] [(.int (1 : Int32))]))
          refine own_go (fun _ k => XS.istore X210.here hx rfl (hb hby at_198) rfl (l' := #[.val (.long q0), .second, .val (.long q1), .second, .val (.int p2), .val (.int p3), .val (.int p4), .val (.int ((p2 &&& (2147483647 : Int32)) % (3 : Int32))), .val (.ref aALL_KEYS), .val (.ref a180), .val (.int en), .val (.int (own_bf en)), .val (.int (1073741824 : Int32)), .val (.int (1 : Int32)), .val (.int (1 : Int32)), .val (.int (1 : Int32)), .val (.int (1 : Int32)), .val (.int (1 : Int32))]) rfl k) ?_
          show OwnGo p e below _ (T210.setTop (mkF m 200 #[.val (.long q0), .second, .val (.long q1), .second, .val (.int p2), .val (.int p3), .val (.int p4), .val (.int ((p2 &&& (2147483647 : Int32)) % (3 : Int32))), .val (.ref aALL_KEYS), .val (.ref a180), .val (.int en), .val (.int (own_bf en)), .val (.int (1073741824 : Int32)), .val (.int (1 : Int32)), .val (.int (1 : Int32)), .val (.int (1 : Int32)), .val (.int (1 : Int32)), .val (.int (1 : Int32))] []))
          refine own_go (fun _ k => XS.iload X210.here hx rfl (hb hby at_200) rfl k) ?_
          show OwnGo p e below _ (T210.setTop (mkF m 202 #[.val (.long q0), .second, .val (.long q1), .second, .val (.int p2), .val (.int p3), .val (.int p4), .val (.int ((p2 &&& (2147483647 : Int32)) % (3 : Int32))), .val (.ref aALL_KEYS), .val (.ref a180), .val (.int en), .val (.int (own_bf en)), .val (.int (1073741824 : Int32)), .val (.int (1 : Int32)), .val (.int (1 : Int32)), .val (.int (1 : Int32)), .val (.int (1 : Int32)), .val (.int (1 : Int32))] [(.int (1 : Int32))]))
          refine own_go (fun _ k => XS.ifNo X210.here hx rfl (hb hby at_202) rfl (by decide) k) ?_
          show OwnGo p e below _ (T210.setTop (mkF m 205 #[.val (.long q0), .second, .val (.long q1), .second, .val (.int p2), .val (.int p3), .val (.int p4), .val (.int ((p2 &&& (2147483647 : Int32)) % (3 : Int32))), .val (.ref aALL_KEYS), .val (.ref a180), .val (.int en), .val (.int (own_bf en)), .val (.int (1073741824 : Int32)), .val (.int (1 : Int32)), .val (.int (1 : Int32)), .val (.int (1 : Int32)), .val (.int (1 : Int32)), .val (.int (1 : Int32))] []))
          refine own_go (fun _ k => XS.iload X210.here hx rfl (hb hby at_205) rfl k) ?_
          show OwnGo p e below _ (T210.setTop (mkF m 207 #[.val (.long q0), .second, .val (.long q1), .second, .val (.int p2), .val (.int p3), .val (.int p4), .val (.int ((p2 &&& (2147483647 : Int32)) % (3 : Int32))), .val (.ref aALL_KEYS), .val (.ref a180), .val (.int en), .val (.int (own_bf en)), .val (.int (1073741824 : Int32)), .val (.int (1 : Int32)), .val (.int (1 : Int32)), .val (.int (1 : Int32)), .val (.int (1 : Int32)), .val (.int (1 : Int32))] [(.int (1 : Int32))]))
          refine own_go (fun _ k => XS.ifNo X210.here hx rfl (hb hby at_207) rfl (by decide) k) ?_
          show OwnGo p e below _ (T210.setTop (mkF m 210 #[.val (.long q0), .second, .val (.long q1), .second, .val (.int p2), .val (.int p3), .val (.int p4), .val (.int ((p2 &&& (2147483647 : Int32)) % (3 : Int32))), .val (.ref aALL_KEYS), .val (.ref a180), .val (.int en), .val (.int (own_bf en)), .val (.int (1073741824 : Int32)), .val (.int (1 : Int32)), .val (.int (1 : Int32)), .val (.int (1 : Int32)), .val (.int (1 : Int32)), .val (.int (1 : Int32))] []))
          refine own_go (fun _ k => XS.iload X210.here hx rfl (hb hby at_210) rfl k) ?_
          show OwnGo p e below _ (T210.setTop (mkF m 212 #[.val (.long q0), .second, .val (.long q1), .second, .val (.int p2), .val (.int p3), .val (.int p4), .val (.int ((p2 &&& (2147483647 : Int32)) % (3 : Int32))), .val (.ref aALL_KEYS), .val (.ref a180), .val (.int en), .val (.int (own_bf en)), .val (.int (1073741824 : Int32)), .val (.int (1 : Int32)), .val (.int (1 : Int32)), .val (.int (1 : Int32)), .val (.int (1 : Int32)), .val (.int (1 : Int32))] [(.int (1 : Int32))]))
          refine own_go (fun _ k => XS.ifNo X210.here hx rfl (hb hby at_212) rfl (by decide) k) ?_
          show OwnGo p e below _ (T210.setTop (mkF m 215 #[.val (.long q0), .second, .val (.long q1), .second, .val (.int p2), .val (.int p3), .val (.int p4), .val (.int ((p2 &&& (2147483647 : Int32)) % (3 : Int32))), .val (.ref aALL_KEYS), .val (.ref a180), .val (.int en), .val (.int (own_bf en)), .val (.int (1073741824 : Int32)), .val (.int (1 : Int32)), .val (.int (1 : Int32)), .val (.int (1 : Int32)), .val (.int (1 : Int32)), .val (.int (1 : Int32))] []))
          refine own_go (fun _ k => XS.iload X210.here hx rfl (hb hby at_215) rfl k) ?_
          show OwnGo p e below _ (T210.setTop (mkF m 217 #[.val (.long q0), .second, .val (.long q1), .second, .val (.int p2), .val (.int p3), .val (.int p4), .val (.int ((p2 &&& (2147483647 : Int32)) % (3 : Int32))), .val (.ref aALL_KEYS), .val (.ref a180), .val (.int en), .val (.int (own_bf en)), .val (.int (1073741824 : Int32)), .val (.int (1 : Int32)), .val (.int (1 : Int32)), .val (.int (1 : Int32)), .val (.int (1 : Int32)), .val (.int (1 : Int32))] [(.int (1 : Int32))]))
          refine own_go (fun _ k => XS.ifNo X210.here hx rfl (hb hby at_217) rfl (by decide) k) ?_
          show OwnGo p e below _ (T210.setTop (mkF m 220 #[.val (.long q0), .second, .val (.long q1), .second, .val (.int p2), .val (.int p3), .val (.int p4), .val (.int ((p2 &&& (2147483647 : Int32)) % (3 : Int32))), .val (.ref aALL_KEYS), .val (.ref a180), .val (.int en), .val (.int (own_bf en)), .val (.int (1073741824 : Int32)), .val (.int (1 : Int32)), .val (.int (1 : Int32)), .val (.int (1 : Int32)), .val (.int (1 : Int32)), .val (.int (1 : Int32))] []))
          refine own_go (fun _ k => XS.iload X210.here hx rfl (hb hby at_220) rfl k) ?_
          show OwnGo p e below _ (T210.setTop (mkF m 222 #[.val (.long q0), .second, .val (.long q1), .second, .val (.int p2), .val (.int p3), .val (.int p4), .val (.int ((p2 &&& (2147483647 : Int32)) % (3 : Int32))), .val (.ref aALL_KEYS), .val (.ref a180), .val (.int en), .val (.int (own_bf en)), .val (.int (1073741824 : Int32)), .val (.int (1 : Int32)), .val (.int (1 : Int32)), .val (.int (1 : Int32)), .val (.int (1 : Int32)), .val (.int (1 : Int32))] [(.int (1 : Int32))]))
          refine own_go (fun _ k => XS.ifNo X210.here hx rfl (hb hby at_222) rfl (by decide) k) ?_
          show OwnGo p e below _ (T210.setTop (mkF m 225 #[.val (.long q0), .second, .val (.long q1), .second, .val (.int p2), .val (.int p3), .val (.int p4), .val (.int ((p2 &&& (2147483647 : Int32)) % (3 : Int32))), .val (.ref aALL_KEYS), .val (.ref a180), .val (.int en), .val (.int (own_bf en)), .val (.int (1073741824 : Int32)), .val (.int (1 : Int32)), .val (.int (1 : Int32)), .val (.int (1 : Int32)), .val (.int (1 : Int32)), .val (.int (1 : Int32))] []))
          refine own_go (fun _ k => XS.iconst X210.here hx rfl (hb hby at_225) k) ?_
          show OwnGo p e below _ (T210.setTop (mkF m 226 #[.val (.long q0), .second, .val (.long q1), .second, .val (.int p2), .val (.int p3), .val (.int p4), .val (.int ((p2 &&& (2147483647 : Int32)) % (3 : Int32))), .val (.ref aALL_KEYS), .val (.ref a180), .val (.int en), .val (.int (own_bf en)), .val (.int (1073741824 : Int32)), .val (.int (1 : Int32)), .val (.int (1 : Int32)), .val (.int (1 : Int32)), .val (.int (1 : Int32)), .val (.int (1 : Int32))] [(.int (1 : Int32))]))
          refine own_go (fun _ k => XS.goto X210.here hx rfl (pc0 := 226) (pc' := 230) rfl (hb hby at_226) (by decide) (by decide) k) ?_
          show OwnGo p e below _ (T210.setTop (mkF m 230 #[.val (.long q0), .second, .val (.long q1), .second, .val (.int p2), .val (.int p3), .val (.int p4), .val (.int ((p2 &&& (2147483647 : Int32)) % (3 : Int32))), .val (.ref aALL_KEYS), .val (.ref a180), .val (.int en), .val (.int (own_bf en)), .val (.int (1073741824 : Int32)), .val (.int (1 : Int32)), .val (.int (1 : Int32)), .val (.int (1 : Int32)), .val (.int (1 : Int32)), .val (.int (1 : Int32))] [(.int (1 : Int32))]))
          obtain ⟨fs, hr, hrun, hended, hW, hsame⟩ := X210.leave (v := some (.int (1 : Int32))) (fun h => by rw [Bd.returns] at h; cases h)
          refine ⟨_, _, retOut X210 hx Bd.returns rfl (Or.inl ⟨rfl, Or.inr (Or.inl rfl), _, rfl⟩) (hb hby at_230) hr, hrun, hended, _, _, rfl, ?_, ⟨_, rfl⟩, hW, hsame.mono (by decide) (by decide)⟩
          show Q_law Z aNONE aEXPIRING_KEYS aALL_KEYS q0 q1 p2 p3 p4 h0 n0 _ T210.heap _
          rw [K210]
          exact ⟨rfl, N210⟩
        · refine own_go (fun _ k => XS.icmpNo X206.here hx rfl (hb hby at_152) rfl (feq hc208).1 k) ?_
          show OwnGo p e below _ (T206.setTop (mkF m 155 #[.val (.long q0), .second, .val (.long q1), .second, .val (.int p2), .val (.int p3), .val (.int p4), .val (.int ((p2 &&& (2147483647 : Int32)) % (3 : Int32))), .val (.ref aALL_KEYS), .val (.ref a180), .val (.int en), .val (.int (own_bf en)), .val (.int (1073741824 : Int32)), .val (.int (1 : Int32)), .val (.int (1 : Int32)), .val (.int (1 : Int32)), .unset, .unset] []))
          refine own_go (fun _ k => XS.iload X206.here hx rfl (hb hby at_155) rfl k) ?_
          show OwnGo p e below _ (T206.setTop (mkF m 157 #[.val (.long q0), .second, .val (.long q1), .second, .val (.int p2), .val (.int p3), .val (.int p4), .val (.int ((p2 &&& (2147483647 : Int32)) % (3 : Int32))), .val (.ref aALL_KEYS), .val (.ref a180), .val (.int en), .val (.int (own_bf en)), .val (.int (1073741824 : Int32)), .val (.int (1 : Int32)), .val (.int (1 : Int32)), .val (.int (1 : Int32)), .unset, .unset] [(.int en)]))
          refine own_go (fun _ k => XS.iload X206.here hx rfl (hb hby at_157) rfl k) ?_
          show OwnGo p e below _ (T206.setTop (mkF m 159 #[.val (.long q0), .second, .val (.long q1), .second, .val (.int p2), .val (.int p3), .val (.int p4), .val (.int ((p2 &&& (2147483647 : Int32)) % (3 : Int32))), .val (.ref aALL_KEYS), .val (.ref a180), .val (.int en), .val (.int (own_bf en)), .val (.int (1073741824 : Int32)), .val (.int (1 : Int32)), .val (.int (1 : Int32)), .val (.int (1 : Int32)), .unset, .unset] [(.int (own_bf en)), (.int en)]))
          refine own_go (fun _ k => XS.iconst X206.here hx rfl (hb hby at_159) k) ?_
          show OwnGo p e below _ (T206.setTop (mkF m 160 #[.val (.long q0), .second, .val (.long q1), .second, .val (.int p2), .val (.int p3), .val (.int p4), .val (.int ((p2 &&& (2147483647 : Int32)) % (3 : Int32))), .val (.ref aALL_KEYS), .val (.ref a180), .val (.int en), .val (.int (own_bf en)), .val (.int (1073741824 : Int32)), .val (.int (1 : Int32)), .val (.int (1 : Int32)), .val (.int (1 : Int32)), .unset, .unset] [(.int (2 : Int32)), (.int (own_bf en)), (.int en)]))
          refine own_go (fun _ k => XS.idiv X206.here hx rfl (hb hby at_160) rfl (by decide) k) ?_
          show OwnGo p e below _ (T206.setTop (mkF m 161 #[.val (.long q0), .second, .val (.long q1), .second, .val (.int p2), .val (.int p3), .val (.int p4), .val (.int ((p2 &&& (2147483647 : Int32)) % (3 : Int32))), .val (.ref aALL_KEYS), .val (.ref a180), .val (.int en), .val (.int (own_bf en)), .val (.int (1073741824 : Int32)), .val (.int (1 : Int32)), .val (.int (1 : Int32)), .val (.int (1 : Int32)), .unset, .unset] [(.int ((own_bf en) / (2 : Int32))), (.int en)]))
          refine own_go (fun _ k => XS.iconst X206.here hx rfl (hb hby at_161) k) ?_
          show OwnGo p e below _ (T206.setTop (mkF m 162 #[.val (.long q0), .second, .val (.long q1), .second, .val (.int p2), .val (.int p3), .val (.int p4), .val (.int ((p2 &&& (2147483647 : Int32)) % (3 : Int32))), .val (.ref aALL_KEYS), .val (.ref a180), .val (.int en), .val (.int (own_bf en)), .val (.int (1073741824 : Int32)), .val (.int (1 : Int32)), .val (.int (1 : Int32)), .val (.int (1 : Int32)), .unset, .unset] [(.int (4 : Int32)), (.int ((own_bf en) / (2 : Int32))), (.int en)]))
          refine own_go (fun _ k => XS.idiv X206.here hx rfl (hb hby at_162) rfl (by decide) k) ?_
          show OwnGo p e below _ (T206.setTop (mkF m 163 #[.val (.long q0), .second, .val (.long q1), .second, .val (.int p2), .val (.int p3), .val (.int p4), .val (.int ((p2 &&& (2147483647 : Int32)) % (3 : Int32))), .val (.ref aALL_KEYS), .val (.ref a180), .val (.int en), .val (.int (own_bf en)), .val (.int (1073741824 : Int32)), .val (.int (1 : Int32)), .val (.int (1 : Int32)), .val (.int (1 : Int32)), .unset, .unset] [(.int (((own_bf en) / (2 : Int32)) / (4 : Int32))), (.int en)]))
          refine own_go (fun _ k => XS.iconst X206.here hx rfl (hb hby at_163) k) ?_
          show OwnGo p e below _ (T206.setTop (mkF m 164 #[.val (.long q0), .second, .val (.long q1), .second, .val (.int p2), .val (.int p3), .val (.int p4), .val (.int ((p2 &&& (2147483647 : Int32)) % (3 : Int32))), .val (.ref aALL_KEYS), .val (.ref a180), .val (.int en), .val (.int (own_bf en)), .val (.int (1073741824 : Int32)), .val (.int (1 : Int32)), .val (.int (1 : Int32)), .val (.int (1 : Int32)), .unset, .unset] [(.int (3 : Int32)), (.int (((own_bf en) / (2 : Int32)) / (4 : Int32))), (.int en)]))
          refine own_go (fun _ k => XS.imul X206.here hx rfl (hb hby at_164) rfl k) ?_
          show OwnGo p e below _ (T206.setTop (mkF m 165 #[.val (.long q0), .second, .val (.long q1), .second, .val (.int p2), .val (.int p3), .val (.int p4), .val (.int ((p2 &&& (2147483647 : Int32)) % (3 : Int32))), .val (.ref aALL_KEYS), .val (.ref a180), .val (.int en), .val (.int (own_bf en)), .val (.int (1073741824 : Int32)), .val (.int (1 : Int32)), .val (.int (1 : Int32)), .val (.int (1 : Int32)), .unset, .unset] [(.int ((((own_bf en) / (2 : Int32)) / (4 : Int32)) * (3 : Int32))), (.int en)]))
          refine own_go (fun _ k => XS.icmpNo X206.here hx rfl (hb hby at_165) rfl (tlt ((own_bf_spec en).2.2.2.2.2 hc208)).2.2.2 k) ?_
          show OwnGo p e below _ (T206.setTop (mkF m 168 #[.val (.long q0), .second, .val (.long q1), .second, .val (.int p2), .val (.int p3), .val (.int p4), .val (.int ((p2 &&& (2147483647 : Int32)) % (3 : Int32))), .val (.ref aALL_KEYS), .val (.ref a180), .val (.int en), .val (.int (own_bf en)), .val (.int (1073741824 : Int32)), .val (.int (1 : Int32)), .val (.int (1 : Int32)), .val (.int (1 : Int32)), .unset, .unset] []))
          refine own_go (fun _ k => XS.iconst X206.here hx rfl (hb hby at_168) k) ?_
          show OwnGo p e below _ (T206.setTop (mkF m 169 #[.val (.long q0), .second, .val (.long q1), .second, .val (.int p2), .val (.int p3), .val (.int p4), .val (.int ((p2 &&& (2147483647 : Int32)) % (3 : Int32))), .val (.ref aALL_KEYS), .val (.ref a180), .val (.int en), .val (.int (own_bf en)), .val (.int (1073741824 : Int32)), .val (.int (1 : Int32)), .val (.int (1 : Int32)), .val (.int (1 : Int32)), .unset, .unset] [(.int (1 : Int32))]))
          refine own_go (fun _ k => XS.goto X206.here hx rfl (pc0 := 169) (pc' := 173) rfl (hb hby at_169) (by decide) (by decide) k) ?_
          show OwnGo p e below _ (T206.setTop (mkF m 173 #[.val (.long q0), .second, .val (.long q1), .second, .val (.int p2), .val (.int p3), .val (.int p4), .val (.int ((p2 &&& (2147483647 : Int32)) % (3 : Int32))), .val (.ref aALL_KEYS), .val (.ref a180), .val (.int en), .val (.int (own_bf en)), .val (.int (1073741824 : Int32)), .val (.int (1 : Int32)), .val (.int (1 : Int32)), .val (.int (1 : Int32)), .unset, .unset] [(.int (1 : Int32))]))
          refine own_go (fun _ k => XS.istore X206.here hx rfl (hb hby at_173) rfl (l' := #[.val (.long q0), .second, .val (.long q1), .second, .val (.int p2), .val (.int p3), .val (.int p4), .val (.int ((p2 &&& (2147483647 : Int32)) % (3 : Int32))), .val (.ref aALL_KEYS), .val (.ref a180), .val (.int en), .val (.int (own_bf en)), .val (.int (1073741824 : Int32)), .val (.int (1 : Int32)), .val (.int (1 : Int32)), .val (.int (1 : Int32)), .val (.int (1 : Int32)), .unset]) rfl k) ?_
          show OwnGo p e below _ (T206.setTop (mkF m 175 #[.val (.long q0), .second, .val (.long q1), .second, .val (.int p2), .val (.int p3), .val (.int p4), .val (.int ((p2 &&& (2147483647 : Int32)) % (3 : Int32))), .val (.ref aALL_KEYS), .val (.ref a180), .val (.int en), .val (.int (own_bf en)), .val (.int (1073741824 : Int32)), .val (.int (1 : Int32)), .val (.int (1 : Int32)), .val (.int (1 : Int32)), .val (.int (1 : Int32)), .unset] []))
          refine own_go (fun _ k => XS.aload X206.here hx rfl (hb hby at_175) rfl rfl k) ?_
          show OwnGo p e below _ (T206.setTop (mkF m 177 #[.val (.long q0), .second, .val (.long q1), .second, .val (.int p2), .val (.int p3), .val (.int p4), .val (.int ((p2 &&& (2147483647 : Int32)) % (3 : Int32))), .val (.ref aALL_KEYS), .val (.ref a180), .val (.int en), .val (.int (own_bf en)), .val (.int (1073741824 : Int32)), .val (.int (1 : Int32)), .val (.int (1 : Int32)), .val (.int (1 : Int32)), .val (.int (1 : Int32)), .unset] [(.ref a180)]))
          obtain ⟨cq211, kq211, qa211, qb211, qc211⟩ := isOf hZ K206 F205
          obtain ⟨_, _, ⟨T211, L211, k211, n211⟩, -, X211, ⟨Lc211, hQ211, l211, y211, z211⟩, st211⟩ := X206.virtualBack hx (y := (⟨"com/example/vesper/vesper/store/Table", "buckets", "()I"⟩ : MethodName)) (z := (⟨"com/example/vesper/vesper/store/Table", "buckets", "()I"⟩ : MethodName)) hown (mvT hZ (hw _ (List.mem_of_getElem? (i := 48) rfl))) (mvT hZ (hw _ (List.mem_of_getElem? (i := 49) rfl))) (notFace_of_selects (args := #[]) (mvT hZ (hw _ (List.mem_of_getElem? (i := 51) rfl)))) (mvT hZ (hw _ (List.mem_of_getElem? (i := 51) rfl))) (mvT hZ (hw _ (List.mem_of_getElem? (i := 50) rfl))) (by decide) (backOf (W := 0) (rm_bk l Z a0 hw [] aNONE aEXPIRING_KEYS aALL_KEYS F0 a180 r9_201 k9_201 T201.heap n0 O201 x201_0 x201_2) hZ (hw _ (List.mem_of_getElem? (i := 52) rfl)) (hw _ (List.mem_of_getElem? (i := 6) rfl)) (by decide) (by decide)) qa211 qc211 (g := (mkF m 177 #[.val (.long q0), .second, .val (.long q1), .second, .val (.int p2), .val (.int p3), .val (.int p4), .val (.int ((p2 &&& (2147483647 : Int32)) % (3 : Int32))), .val (.ref aALL_KEYS), .val (.ref a180), .val (.int en), .val (.int (own_bf en)), .val (.int (1073741824 : Int32)), .val (.int (1 : Int32)), .val (.int (1 : Int32)), .val (.int (1 : Int32)), .val (.int (1 : Int32)), .unset] [(.ref a180)])) rfl (by rw [hml]; rfl) (Steps.refl _) (argsL := []) (rest := []) (lenOf pd___I rfl) rfl (by show 2 * 0 + _ ≤ _; exact Nat.le_of_eq rfl) (hb hby at_177) (fun _ _ => ⟨rfl, K206, (by decide : 4 + 0 ≤ _), (by decide : 26 + 0 ≤ _)⟩)
          dsimp only [Pt.U, Pt.locs, Pt.cells, Pt.slots] at X211 l211 y211 z211 st211 hQ211
          subst l211 y211 z211
          obtain ⟨rfl, Nq211, K211⟩ := hQ211
          have N211 := Fr.app N206 Nq211
          refine own_go (fun _ k => st211.trans k) ?_
          show OwnGo p e below _ (T211.setTop (mkF m 180 #[.val (.long q0), .second, .val (.long q1), .second, .val (.int p2), .val (.int p3), .val (.int p4), .val (.int ((p2 &&& (2147483647 : Int32)) % (3 : Int32))), .val (.ref aALL_KEYS), .val (.ref a180), .val (.int en), .val (.int (own_bf en)), .val (.int (1073741824 : Int32)), .val (.int (1 : Int32)), .val (.int (1 : Int32)), .val (.int (1 : Int32)), .val (.int (1 : Int32)), .unset] [(.int (16 : Int32))]))
          refine own_go (fun _ k => XS.bipush X211.here hx rfl (hb hby at_180) k) ?_
          show OwnGo p e below _ (T211.setTop (mkF m 182 #[.val (.long q0), .second, .val (.long q1), .second, .val (.int p2), .val (.int p3), .val (.int p4), .val (.int ((p2 &&& (2147483647 : Int32)) % (3 : Int32))), .val (.ref aALL_KEYS), .val (.ref a180), .val (.int en), .val (.int (own_bf en)), .val (.int (1073741824 : Int32)), .val (.int (1 : Int32)), .val (.int (1 : Int32)), .val (.int (1 : Int32)), .val (.int (1 : Int32)), .unset] [(.int (16 : Int32)), (.int (16 : Int32))]))
          refine own_go (fun _ k => XS.icmpNo X211.here hx rfl (hb hby at_182) rfl (by decide) k) ?_
          show OwnGo p e below _ (T211.setTop (mkF m 185 #[.val (.long q0), .second, .val (.long q1), .second, .val (.int p2), .val (.int p3), .val (.int p4), .val (.int ((p2 &&& (2147483647 : Int32)) % (3 : Int32))), .val (.ref aALL_KEYS), .val (.ref a180), .val (.int en), .val (.int (own_bf en)), .val (.int (1073741824 : Int32)), .val (.int (1 : Int32)), .val (.int (1 : Int32)), .val (.int (1 : Int32)), .val (.int (1 : Int32)), .unset] []))
          refine own_go (fun _ k => XS.aload X211.here hx rfl (hb hby at_185) rfl rfl k) ?_
          show OwnGo p e below _ (T211.setTop (mkF m 187 #[.val (.long q0), .second, .val (.long q1), .second, .val (.int p2), .val (.int p3), .val (.int p4), .val (.int ((p2 &&& (2147483647 : Int32)) % (3 : Int32))), .val (.ref aALL_KEYS), .val (.ref a180), .val (.int en), .val (.int (own_bf en)), .val (.int (1073741824 : Int32)), .val (.int (1 : Int32)), .val (.int (1 : Int32)), .val (.int (1 : Int32)), .val (.int (1 : Int32)), .unset] [(.ref a180)]))
          obtain ⟨cq212, kq212, qa212, qb212, qc212⟩ := isOf hZ K211 F205
          obtain ⟨_, _, ⟨T212, L212, k212, n212⟩, -, X212, ⟨Lc212, hQ212, l212, y212, z212⟩, st212⟩ := X211.virtualBack hx (y := (⟨"com/example/vesper/vesper/store/Table", "size", "()I"⟩ : MethodName)) (z := (⟨"com/example/vesper/vesper/store/Table", "size", "()I"⟩ : MethodName)) hown (mvT hZ (hw _ (List.mem_of_getElem? (i := 53) rfl))) (mvT hZ (hw _ (List.mem_of_getElem? (i := 54) rfl))) (notFace_of_selects (args := #[]) (mvT hZ (hw _ (List.mem_of_getElem? (i := 56) rfl)))) (mvT hZ (hw _ (List.mem_of_getElem? (i := 56) rfl))) (mvT hZ (hw _ (List.mem_of_getElem? (i := 55) rfl))) (by decide) (backOf (W := 0) (rm_sz l Z a0 hw [] aNONE aEXPIRING_KEYS aALL_KEYS F0 a180 T201.heap n0 O201 x201_1) hZ (hw _ (List.mem_of_getElem? (i := 57) rfl)) (hw _ (List.mem_of_getElem? (i := 6) rfl)) (by decide) (by decide)) qa212 qc212 (g := (mkF m 187 #[.val (.long q0), .second, .val (.long q1), .second, .val (.int p2), .val (.int p3), .val (.int p4), .val (.int ((p2 &&& (2147483647 : Int32)) % (3 : Int32))), .val (.ref aALL_KEYS), .val (.ref a180), .val (.int en), .val (.int (own_bf en)), .val (.int (1073741824 : Int32)), .val (.int (1 : Int32)), .val (.int (1 : Int32)), .val (.int (1 : Int32)), .val (.int (1 : Int32)), .unset] [(.ref a180)])) rfl (by rw [hml]; rfl) (Steps.refl _) (argsL := []) (rest := []) (lenOf pd___I rfl) rfl (by show 2 * 0 + _ ≤ _; exact Nat.le_of_eq rfl) (hb hby at_187) (fun _ _ => ⟨rfl, K211, (by decide : 4 + 0 ≤ _), (by decide : 26 + 0 ≤ _)⟩)
          dsimp only [Pt.U, Pt.locs, Pt.cells, Pt.slots] at X212 l212 y212 z212 st212 hQ212
          subst l212 y212 z212
          obtain ⟨rfl, Nq212, K212⟩ := hQ212
          have N212 := Fr.app N211 Nq212
          refine own_go (fun _ k => st212.trans k) ?_
          show OwnGo p e below _ (T212.setTop (mkF m 190 #[.val (.long q0), .second, .val (.long q1), .second, .val (.int p2), .val (.int p3), .val (.int p4), .val (.int ((p2 &&& (2147483647 : Int32)) % (3 : Int32))), .val (.ref aALL_KEYS), .val (.ref a180), .val (.int en), .val (.int (own_bf en)), .val (.int (1073741824 : Int32)), .val (.int (1 : Int32)), .val (.int (1 : Int32)), .val (.int (1 : Int32)), .val (.int (1 : Int32)), .unset] [(.int (0 : Int32))]))
          refine own_go (fun _ k => XS.ifNo X212.here hx rfl (hb hby at_190) rfl (by decide) k) ?_
          show OwnGo p e below _ (T212.setTop (mkF m 193 #[.val (.long q0), .second, .val (.long q1), .second, .val (.int p2), .val (.int p3), .val (.int p4), .val (.int ((p2 &&& (2147483647 : Int32)) % (3 : Int32))), .val (.ref aALL_KEYS), .val (.ref a180), .val (.int en), .val (.int (own_bf en)), .val (.int (1073741824 : Int32)), .val (.int (1 : Int32)), .val (.int (1 : Int32)), .val (.int (1 : Int32)), .val (.int (1 : Int32)), .unset] []))
          refine own_go (fun _ k => XS.iconst X212.here hx rfl (hb hby at_193) k) ?_
          show OwnGo p e below _ (T212.setTop (mkF m 194 #[.val (.long q0), .second, .val (.long q1), .second, .val (.int p2), .val (.int p3), .val (.int p4), .val (.int ((p2 &&& (2147483647 : Int32)) % (3 : Int32))), .val (.ref aALL_KEYS), .val (.ref a180), .val (.int en), .val (.int (own_bf en)), .val (.int (1073741824 : Int32)), .val (.int (1 : Int32)), .val (.int (1 : Int32)), .val (.int (1 : Int32)), .val (.int (1 : Int32)), .unset] [(.int (1 : Int32))]))
          refine own_go (fun _ k => XS.goto X212.here hx rfl (pc0 := 194) (pc' := 198) rfl (hb hby at_194) (by decide) (by decide) k) ?_
          show OwnGo p e below _ (T212.setTop (mkF m 198 #[.val (.long q0), .second, .val (.long q1), .second, .val (.int p2), .val (.int p3), .val (.int p4), .val (.int ((p2 &&& (2147483647 : Int32)) % (3 : Int32))), .val (.ref aALL_KEYS), .val (.ref a180), .val (.int en), .val (.int (own_bf en)), .val (.int (1073741824 : Int32)), .val (.int (1 : Int32)), .val (.int (1 : Int32)), .val (.int (1 : Int32)), .val (.int (1 : Int32)), .unset] [(.int (1 : Int32))]))
          refine own_go (fun _ k => XS.istore X212.here hx rfl (hb hby at_198) rfl (l' := #[.val (.long q0), .second, .val (.long q1), .second, .val (.int p2), .val (.int p3), .val (.int p4), .val (.int ((p2 &&& (2147483647 : Int32)) % (3 : Int32))), .val (.ref aALL_KEYS), .val (.ref a180), .val (.int en), .val (.int (own_bf en)), .val (.int (1073741824 : Int32)), .val (.int (1 : Int32)), .val (.int (1 : Int32)), .val (.int (1 : Int32)), .val (.int (1 : Int32)), .val (.int (1 : Int32))]) rfl k) ?_
          show OwnGo p e below _ (T212.setTop (mkF m 200 #[.val (.long q0), .second, .val (.long q1), .second, .val (.int p2), .val (.int p3), .val (.int p4), .val (.int ((p2 &&& (2147483647 : Int32)) % (3 : Int32))), .val (.ref aALL_KEYS), .val (.ref a180), .val (.int en), .val (.int (own_bf en)), .val (.int (1073741824 : Int32)), .val (.int (1 : Int32)), .val (.int (1 : Int32)), .val (.int (1 : Int32)), .val (.int (1 : Int32)), .val (.int (1 : Int32))] []))
          refine own_go (fun _ k => XS.iload X212.here hx rfl (hb hby at_200) rfl k) ?_
          show OwnGo p e below _ (T212.setTop (mkF m 202 #[.val (.long q0), .second, .val (.long q1), .second, .val (.int p2), .val (.int p3), .val (.int p4), .val (.int ((p2 &&& (2147483647 : Int32)) % (3 : Int32))), .val (.ref aALL_KEYS), .val (.ref a180), .val (.int en), .val (.int (own_bf en)), .val (.int (1073741824 : Int32)), .val (.int (1 : Int32)), .val (.int (1 : Int32)), .val (.int (1 : Int32)), .val (.int (1 : Int32)), .val (.int (1 : Int32))] [(.int (1 : Int32))]))
          refine own_go (fun _ k => XS.ifNo X212.here hx rfl (hb hby at_202) rfl (by decide) k) ?_
          show OwnGo p e below _ (T212.setTop (mkF m 205 #[.val (.long q0), .second, .val (.long q1), .second, .val (.int p2), .val (.int p3), .val (.int p4), .val (.int ((p2 &&& (2147483647 : Int32)) % (3 : Int32))), .val (.ref aALL_KEYS), .val (.ref a180), .val (.int en), .val (.int (own_bf en)), .val (.int (1073741824 : Int32)), .val (.int (1 : Int32)), .val (.int (1 : Int32)), .val (.int (1 : Int32)), .val (.int (1 : Int32)), .val (.int (1 : Int32))] []))
          refine own_go (fun _ k => XS.iload X212.here hx rfl (hb hby at_205) rfl k) ?_
          show OwnGo p e below _ (T212.setTop (mkF m 207 #[.val (.long q0), .second, .val (.long q1), .second, .val (.int p2), .val (.int p3), .val (.int p4), .val (.int ((p2 &&& (2147483647 : Int32)) % (3 : Int32))), .val (.ref aALL_KEYS), .val (.ref a180), .val (.int en), .val (.int (own_bf en)), .val (.int (1073741824 : Int32)), .val (.int (1 : Int32)), .val (.int (1 : Int32)), .val (.int (1 : Int32)), .val (.int (1 : Int32)), .val (.int (1 : Int32))] [(.int (1 : Int32))]))
          refine own_go (fun _ k => XS.ifNo X212.here hx rfl (hb hby at_207) rfl (by decide) k) ?_
          show OwnGo p e below _ (T212.setTop (mkF m 210 #[.val (.long q0), .second, .val (.long q1), .second, .val (.int p2), .val (.int p3), .val (.int p4), .val (.int ((p2 &&& (2147483647 : Int32)) % (3 : Int32))), .val (.ref aALL_KEYS), .val (.ref a180), .val (.int en), .val (.int (own_bf en)), .val (.int (1073741824 : Int32)), .val (.int (1 : Int32)), .val (.int (1 : Int32)), .val (.int (1 : Int32)), .val (.int (1 : Int32)), .val (.int (1 : Int32))] []))
          refine own_go (fun _ k => XS.iload X212.here hx rfl (hb hby at_210) rfl k) ?_
          show OwnGo p e below _ (T212.setTop (mkF m 212 #[.val (.long q0), .second, .val (.long q1), .second, .val (.int p2), .val (.int p3), .val (.int p4), .val (.int ((p2 &&& (2147483647 : Int32)) % (3 : Int32))), .val (.ref aALL_KEYS), .val (.ref a180), .val (.int en), .val (.int (own_bf en)), .val (.int (1073741824 : Int32)), .val (.int (1 : Int32)), .val (.int (1 : Int32)), .val (.int (1 : Int32)), .val (.int (1 : Int32)), .val (.int (1 : Int32))] [(.int (1 : Int32))]))
          refine own_go (fun _ k => XS.ifNo X212.here hx rfl (hb hby at_212) rfl (by decide) k) ?_
          show OwnGo p e below _ (T212.setTop (mkF m 215 #[.val (.long q0), .second, .val (.long q1), .second, .val (.int p2), .val (.int p3), .val (.int p4), .val (.int ((p2 &&& (2147483647 : Int32)) % (3 : Int32))), .val (.ref aALL_KEYS), .val (.ref a180), .val (.int en), .val (.int (own_bf en)), .val (.int (1073741824 : Int32)), .val (.int (1 : Int32)), .val (.int (1 : Int32)), .val (.int (1 : Int32)), .val (.int (1 : Int32)), .val (.int (1 : Int32))] []))
          refine own_go (fun _ k => XS.iload X212.here hx rfl (hb hby at_215) rfl k) ?_
          show OwnGo p e below _ (T212.setTop (mkF m 217 #[.val (.long q0), .second, .val (.long q1), .second, .val (.int p2), .val (.int p3), .val (.int p4), .val (.int ((p2 &&& (2147483647 : Int32)) % (3 : Int32))), .val (.ref aALL_KEYS), .val (.ref a180), .val (.int en), .val (.int (own_bf en)), .val (.int (1073741824 : Int32)), .val (.int (1 : Int32)), .val (.int (1 : Int32)), .val (.int (1 : Int32)), .val (.int (1 : Int32)), .val (.int (1 : Int32))] [(.int (1 : Int32))]))
          refine own_go (fun _ k => XS.ifNo X212.here hx rfl (hb hby at_217) rfl (by decide) k) ?_
          show OwnGo p e below _ (T212.setTop (mkF m 220 #[.val (.long q0), .second, .val (.long q1), .second, .val (.int p2), .val (.int p3), .val (.int p4), .val (.int ((p2 &&& (2147483647 : Int32)) % (3 : Int32))), .val (.ref aALL_KEYS), .val (.ref a180), .val (.int en), .val (.int (own_bf en)), .val (.int (1073741824 : Int32)), .val (.int (1 : Int32)), .val (.int (1 : Int32)), .val (.int (1 : Int32)), .val (.int (1 : Int32)), .val (.int (1 : Int32))] []))
          refine own_go (fun _ k => XS.iload X212.here hx rfl (hb hby at_220) rfl k) ?_
          show OwnGo p e below _ (T212.setTop (mkF m 222 #[.val (.long q0), .second, .val (.long q1), .second, .val (.int p2), .val (.int p3), .val (.int p4), .val (.int ((p2 &&& (2147483647 : Int32)) % (3 : Int32))), .val (.ref aALL_KEYS), .val (.ref a180), .val (.int en), .val (.int (own_bf en)), .val (.int (1073741824 : Int32)), .val (.int (1 : Int32)), .val (.int (1 : Int32)), .val (.int (1 : Int32)), .val (.int (1 : Int32)), .val (.int (1 : Int32))] [(.int (1 : Int32))]))
          refine own_go (fun _ k => XS.ifNo X212.here hx rfl (hb hby at_222) rfl (by decide) k) ?_
          show OwnGo p e below _ (T212.setTop (mkF m 225 #[.val (.long q0), .second, .val (.long q1), .second, .val (.int p2), .val (.int p3), .val (.int p4), .val (.int ((p2 &&& (2147483647 : Int32)) % (3 : Int32))), .val (.ref aALL_KEYS), .val (.ref a180), .val (.int en), .val (.int (own_bf en)), .val (.int (1073741824 : Int32)), .val (.int (1 : Int32)), .val (.int (1 : Int32)), .val (.int (1 : Int32)), .val (.int (1 : Int32)), .val (.int (1 : Int32))] []))
          refine own_go (fun _ k => XS.iconst X212.here hx rfl (hb hby at_225) k) ?_
          show OwnGo p e below _ (T212.setTop (mkF m 226 #[.val (.long q0), .second, .val (.long q1), .second, .val (.int p2), .val (.int p3), .val (.int p4), .val (.int ((p2 &&& (2147483647 : Int32)) % (3 : Int32))), .val (.ref aALL_KEYS), .val (.ref a180), .val (.int en), .val (.int (own_bf en)), .val (.int (1073741824 : Int32)), .val (.int (1 : Int32)), .val (.int (1 : Int32)), .val (.int (1 : Int32)), .val (.int (1 : Int32)), .val (.int (1 : Int32))] [(.int (1 : Int32))]))
          refine own_go (fun _ k => XS.goto X212.here hx rfl (pc0 := 226) (pc' := 230) rfl (hb hby at_226) (by decide) (by decide) k) ?_
          show OwnGo p e below _ (T212.setTop (mkF m 230 #[.val (.long q0), .second, .val (.long q1), .second, .val (.int p2), .val (.int p3), .val (.int p4), .val (.int ((p2 &&& (2147483647 : Int32)) % (3 : Int32))), .val (.ref aALL_KEYS), .val (.ref a180), .val (.int en), .val (.int (own_bf en)), .val (.int (1073741824 : Int32)), .val (.int (1 : Int32)), .val (.int (1 : Int32)), .val (.int (1 : Int32)), .val (.int (1 : Int32)), .val (.int (1 : Int32))] [(.int (1 : Int32))]))
          obtain ⟨fs, hr, hrun, hended, hW, hsame⟩ := X212.leave (v := some (.int (1 : Int32))) (fun h => by rw [Bd.returns] at h; cases h)
          refine ⟨_, _, retOut X212 hx Bd.returns rfl (Or.inl ⟨rfl, Or.inr (Or.inl rfl), _, rfl⟩) (hb hby at_230) hr, hrun, hended, _, _, rfl, ?_, ⟨_, rfl⟩, hW, hsame.mono (by decide) (by decide)⟩
          show Q_law Z aNONE aEXPIRING_KEYS aALL_KEYS q0 q1 p2 p3 p4 h0 n0 _ T212.heap _
          rw [K212]
          exact ⟨rfl, N212⟩
      · refine own_go (fun _ k => XS.icmpYes X206.here hx rfl (pc0 := 131) (pc' := 141) rfl (hb hby at_131) rfl (flt hc207).2.2.2 (by decide) (by decide) k) ?_
        show OwnGo p e below _ (T206.setTop (mkF m 141 #[.val (.long q0), .second, .val (.long q1), .second, .val (.int p2), .val (.int p3), .val (.int p4), .val (.int ((p2 &&& (2147483647 : Int32)) % (3 : Int32))), .val (.ref aALL_KEYS), .val (.ref a180), .val (.int en), .val (.int (own_bf en)), .val (.int (1073741824 : Int32)), .val (.int (1 : Int32)), .val (.int (1 : Int32)), .unset, .unset, .unset] []))
        refine own_go (fun _ k => XS.iconst X206.here hx rfl (hb hby at_141) k) ?_
        show OwnGo p e below _ (T206.setTop (mkF m 142 #[.val (.long q0), .second, .val (.long q1), .second, .val (.int p2), .val (.int p3), .val (.int p4), .val (.int ((p2 &&& (2147483647 : Int32)) % (3 : Int32))), .val (.ref aALL_KEYS), .val (.ref a180), .val (.int en), .val (.int (own_bf en)), .val (.int (1073741824 : Int32)), .val (.int (1 : Int32)), .val (.int (1 : Int32)), .unset, .unset, .unset] [(.int (1 : Int32))]))
        refine own_go (fun _ k => XS.goto X206.here hx rfl (pc0 := 142) (pc' := 146) rfl (hb hby at_142) (by decide) (by decide) k) ?_
        show OwnGo p e below _ (T206.setTop (mkF m 146 #[.val (.long q0), .second, .val (.long q1), .second, .val (.int p2), .val (.int p3), .val (.int p4), .val (.int ((p2 &&& (2147483647 : Int32)) % (3 : Int32))), .val (.ref aALL_KEYS), .val (.ref a180), .val (.int en), .val (.int (own_bf en)), .val (.int (1073741824 : Int32)), .val (.int (1 : Int32)), .val (.int (1 : Int32)), .unset, .unset, .unset] [(.int (1 : Int32))]))
        refine own_go (fun _ k => XS.istore X206.here hx rfl (hb hby at_146) rfl (l' := #[.val (.long q0), .second, .val (.long q1), .second, .val (.int p2), .val (.int p3), .val (.int p4), .val (.int ((p2 &&& (2147483647 : Int32)) % (3 : Int32))), .val (.ref aALL_KEYS), .val (.ref a180), .val (.int en), .val (.int (own_bf en)), .val (.int (1073741824 : Int32)), .val (.int (1 : Int32)), .val (.int (1 : Int32)), .val (.int (1 : Int32)), .unset, .unset]) rfl k) ?_
        show OwnGo p e below _ (T206.setTop (mkF m 148 #[.val (.long q0), .second, .val (.long q1), .second, .val (.int p2), .val (.int p3), .val (.int p4), .val (.int ((p2 &&& (2147483647 : Int32)) % (3 : Int32))), .val (.ref aALL_KEYS), .val (.ref a180), .val (.int en), .val (.int (own_bf en)), .val (.int (1073741824 : Int32)), .val (.int (1 : Int32)), .val (.int (1 : Int32)), .val (.int (1 : Int32)), .unset, .unset] []))
        refine own_go (fun _ k => XS.iload X206.here hx rfl (hb hby at_148) rfl k) ?_
        show OwnGo p e below _ (T206.setTop (mkF m 150 #[.val (.long q0), .second, .val (.long q1), .second, .val (.int p2), .val (.int p3), .val (.int p4), .val (.int ((p2 &&& (2147483647 : Int32)) % (3 : Int32))), .val (.ref aALL_KEYS), .val (.ref a180), .val (.int en), .val (.int (own_bf en)), .val (.int (1073741824 : Int32)), .val (.int (1 : Int32)), .val (.int (1 : Int32)), .val (.int (1 : Int32)), .unset, .unset] [(.int (own_bf en))]))
        refine own_go (fun _ k => XS.bipush X206.here hx rfl (hb hby at_150) k) ?_
        show OwnGo p e below _ (T206.setTop (mkF m 152 #[.val (.long q0), .second, .val (.long q1), .second, .val (.int p2), .val (.int p3), .val (.int p4), .val (.int ((p2 &&& (2147483647 : Int32)) % (3 : Int32))), .val (.ref aALL_KEYS), .val (.ref a180), .val (.int en), .val (.int (own_bf en)), .val (.int (1073741824 : Int32)), .val (.int (1 : Int32)), .val (.int (1 : Int32)), .val (.int (1 : Int32)), .unset, .unset] [(.int (16 : Int32)), (.int (own_bf en))]))
        by_cases hc213 : (own_bf en) = (16 : Int32)
        · refine own_go (fun _ k => XS.icmpYes X206.here hx rfl (pc0 := 152) (pc' := 168) rfl (hb hby at_152) rfl (teq hc213).1 (by decide) (by decide) k) ?_
          show OwnGo p e below _ (T206.setTop (mkF m 168 #[.val (.long q0), .second, .val (.long q1), .second, .val (.int p2), .val (.int p3), .val (.int p4), .val (.int ((p2 &&& (2147483647 : Int32)) % (3 : Int32))), .val (.ref aALL_KEYS), .val (.ref a180), .val (.int en), .val (.int (own_bf en)), .val (.int (1073741824 : Int32)), .val (.int (1 : Int32)), .val (.int (1 : Int32)), .val (.int (1 : Int32)), .unset, .unset] []))
          refine own_go (fun _ k => XS.iconst X206.here hx rfl (hb hby at_168) k) ?_
          show OwnGo p e below _ (T206.setTop (mkF m 169 #[.val (.long q0), .second, .val (.long q1), .second, .val (.int p2), .val (.int p3), .val (.int p4), .val (.int ((p2 &&& (2147483647 : Int32)) % (3 : Int32))), .val (.ref aALL_KEYS), .val (.ref a180), .val (.int en), .val (.int (own_bf en)), .val (.int (1073741824 : Int32)), .val (.int (1 : Int32)), .val (.int (1 : Int32)), .val (.int (1 : Int32)), .unset, .unset] [(.int (1 : Int32))]))
          refine own_go (fun _ k => XS.goto X206.here hx rfl (pc0 := 169) (pc' := 173) rfl (hb hby at_169) (by decide) (by decide) k) ?_
          show OwnGo p e below _ (T206.setTop (mkF m 173 #[.val (.long q0), .second, .val (.long q1), .second, .val (.int p2), .val (.int p3), .val (.int p4), .val (.int ((p2 &&& (2147483647 : Int32)) % (3 : Int32))), .val (.ref aALL_KEYS), .val (.ref a180), .val (.int en), .val (.int (own_bf en)), .val (.int (1073741824 : Int32)), .val (.int (1 : Int32)), .val (.int (1 : Int32)), .val (.int (1 : Int32)), .unset, .unset] [(.int (1 : Int32))]))
          refine own_go (fun _ k => XS.istore X206.here hx rfl (hb hby at_173) rfl (l' := #[.val (.long q0), .second, .val (.long q1), .second, .val (.int p2), .val (.int p3), .val (.int p4), .val (.int ((p2 &&& (2147483647 : Int32)) % (3 : Int32))), .val (.ref aALL_KEYS), .val (.ref a180), .val (.int en), .val (.int (own_bf en)), .val (.int (1073741824 : Int32)), .val (.int (1 : Int32)), .val (.int (1 : Int32)), .val (.int (1 : Int32)), .val (.int (1 : Int32)), .unset]) rfl k) ?_
          show OwnGo p e below _ (T206.setTop (mkF m 175 #[.val (.long q0), .second, .val (.long q1), .second, .val (.int p2), .val (.int p3), .val (.int p4), .val (.int ((p2 &&& (2147483647 : Int32)) % (3 : Int32))), .val (.ref aALL_KEYS), .val (.ref a180), .val (.int en), .val (.int (own_bf en)), .val (.int (1073741824 : Int32)), .val (.int (1 : Int32)), .val (.int (1 : Int32)), .val (.int (1 : Int32)), .val (.int (1 : Int32)), .unset] []))
          refine own_go (fun _ k => XS.aload X206.here hx rfl (hb hby at_175) rfl rfl k) ?_
          show OwnGo p e below _ (T206.setTop (mkF m 177 #[.val (.long q0), .second, .val (.long q1), .second, .val (.int p2), .val (.int p3), .val (.int p4), .val (.int ((p2 &&& (2147483647 : Int32)) % (3 : Int32))), .val (.ref aALL_KEYS), .val (.ref a180), .val (.int en), .val (.int (own_bf en)), .val (.int (1073741824 : Int32)), .val (.int (1 : Int32)), .val (.int (1 : Int32)), .val (.int (1 : Int32)), .val (.int (1 : Int32)), .unset] [(.ref a180)]))
          obtain ⟨cq214, kq214, qa214, qb214, qc214⟩ := isOf hZ K206 F205
          obtain ⟨_, _, ⟨T214, L214, k214, n214⟩, -, X214, ⟨Lc214, hQ214, l214, y214, z214⟩, st214⟩ := X206.virtualBack hx (y := (⟨"com/example/vesper/vesper/store/Table", "buckets", "()I"⟩ : MethodName)) (z := (⟨"com/example/vesper/vesper/store/Table", "buckets", "()I"⟩ : MethodName)) hown (mvT hZ (hw _ (List.mem_of_getElem? (i := 48) rfl))) (mvT hZ (hw _ (List.mem_of_getElem? (i := 49) rfl))) (notFace_of_selects (args := #[]) (mvT hZ (hw _ (List.mem_of_getElem? (i := 51) rfl)))) (mvT hZ (hw _ (List.mem_of_getElem? (i := 51) rfl))) (mvT hZ (hw _ (List.mem_of_getElem? (i := 50) rfl))) (by decide) (backOf (W := 0) (rm_bk l Z a0 hw [] aNONE aEXPIRING_KEYS aALL_KEYS F0 a180 r9_201 k9_201 T201.heap n0 O201 x201_0 x201_2) hZ (hw _ (List.mem_of_getElem? (i := 52) rfl)) (hw _ (List.mem_of_getElem? (i := 6) rfl)) (by decide) (by decide)) qa214 qc214 (g := (mkF m 177 #[.val (.long q0), .second, .val (.long q1), .second, .val (.int p2), .val (.int p3), .val (.int p4), .val (.int ((p2 &&& (2147483647 : Int32)) % (3 : Int32))), .val (.ref aALL_KEYS), .val (.ref a180), .val (.int en), .val (.int (own_bf en)), .val (.int (1073741824 : Int32)), .val (.int (1 : Int32)), .val (.int (1 : Int32)), .val (.int (1 : Int32)), .val (.int (1 : Int32)), .unset] [(.ref a180)])) rfl (by rw [hml]; rfl) (Steps.refl _) (argsL := []) (rest := []) (lenOf pd___I rfl) rfl (by show 2 * 0 + _ ≤ _; exact Nat.le_of_eq rfl) (hb hby at_177) (fun _ _ => ⟨rfl, K206, (by decide : 4 + 0 ≤ _), (by decide : 26 + 0 ≤ _)⟩)
          dsimp only [Pt.U, Pt.locs, Pt.cells, Pt.slots] at X214 l214 y214 z214 st214 hQ214
          subst l214 y214 z214
          obtain ⟨rfl, Nq214, K214⟩ := hQ214
          have N214 := Fr.app N206 Nq214
          refine own_go (fun _ k => st214.trans k) ?_
          show OwnGo p e below _ (T214.setTop (mkF m 180 #[.val (.long q0), .second, .val (.long q1), .second, .val (.int p2), .val (.int p3), .val (.int p4), .val (.int ((p2 &&& (2147483647 : Int32)) % (3 : Int32))), .val (.ref aALL_KEYS), .val (.ref a180), .val (.int en), .val (.int (own_bf en)), .val (.int (1073741824 : Int32)), .val (.int (1 : Int32)), .val (.int (1 : Int32)), .val (.int (1 : Int32)), .val (.int (1 : Int32)), .unset] [(.int (16 : Int32))]))
          refine own_go (fun _ k => XS.bipush X214.here hx rfl (hb hby at_180) k) ?_
          show OwnGo p e below _ (T214.setTop (mkF m 182 #[.val (.long q0), .second, .val (.long q1), .second, .val (.int p2), .val (.int p3), .val (.int p4), .val (.int ((p2 &&& (2147483647 : Int32)) % (3 : Int32))), .val (.ref aALL_KEYS), .val (.ref a180), .val (.int en), .val (.int (own_bf en)), .val (.int (1073741824 : Int32)), .val (.int (1 : Int32)), .val (.int (1 : Int32)), .val (.int (1 : Int32)), .val (.int (1 : Int32)), .unset] [(.int (16 : Int32)), (.int (16 : Int32))]))
          refine own_go (fun _ k => XS.icmpNo X214.here hx rfl (hb hby at_182) rfl (by decide) k) ?_
          show OwnGo p e below _ (T214.setTop (mkF m 185 #[.val (.long q0), .second, .val (.long q1), .second, .val (.int p2), .val (.int p3), .val (.int p4), .val (.int ((p2 &&& (2147483647 : Int32)) % (3 : Int32))), .val (.ref aALL_KEYS), .val (.ref a180), .val (.int en), .val (.int (own_bf en)), .val (.int (1073741824 : Int32)), .val (.int (1 : Int32)), .val (.int (1 : Int32)), .val (.int (1 : Int32)), .val (.int (1 : Int32)), .unset] []))
          refine own_go (fun _ k => XS.aload X214.here hx rfl (hb hby at_185) rfl rfl k) ?_
          show OwnGo p e below _ (T214.setTop (mkF m 187 #[.val (.long q0), .second, .val (.long q1), .second, .val (.int p2), .val (.int p3), .val (.int p4), .val (.int ((p2 &&& (2147483647 : Int32)) % (3 : Int32))), .val (.ref aALL_KEYS), .val (.ref a180), .val (.int en), .val (.int (own_bf en)), .val (.int (1073741824 : Int32)), .val (.int (1 : Int32)), .val (.int (1 : Int32)), .val (.int (1 : Int32)), .val (.int (1 : Int32)), .unset] [(.ref a180)]))
          obtain ⟨cq215, kq215, qa215, qb215, qc215⟩ := isOf hZ K214 F205
          obtain ⟨_, _, ⟨T215, L215, k215, n215⟩, -, X215, ⟨Lc215, hQ215, l215, y215, z215⟩, st215⟩ := X214.virtualBack hx (y := (⟨"com/example/vesper/vesper/store/Table", "size", "()I"⟩ : MethodName)) (z := (⟨"com/example/vesper/vesper/store/Table", "size", "()I"⟩ : MethodName)) hown (mvT hZ (hw _ (List.mem_of_getElem? (i := 53) rfl))) (mvT hZ (hw _ (List.mem_of_getElem? (i := 54) rfl))) (notFace_of_selects (args := #[]) (mvT hZ (hw _ (List.mem_of_getElem? (i := 56) rfl)))) (mvT hZ (hw _ (List.mem_of_getElem? (i := 56) rfl))) (mvT hZ (hw _ (List.mem_of_getElem? (i := 55) rfl))) (by decide) (backOf (W := 0) (rm_sz l Z a0 hw [] aNONE aEXPIRING_KEYS aALL_KEYS F0 a180 T201.heap n0 O201 x201_1) hZ (hw _ (List.mem_of_getElem? (i := 57) rfl)) (hw _ (List.mem_of_getElem? (i := 6) rfl)) (by decide) (by decide)) qa215 qc215 (g := (mkF m 187 #[.val (.long q0), .second, .val (.long q1), .second, .val (.int p2), .val (.int p3), .val (.int p4), .val (.int ((p2 &&& (2147483647 : Int32)) % (3 : Int32))), .val (.ref aALL_KEYS), .val (.ref a180), .val (.int en), .val (.int (own_bf en)), .val (.int (1073741824 : Int32)), .val (.int (1 : Int32)), .val (.int (1 : Int32)), .val (.int (1 : Int32)), .val (.int (1 : Int32)), .unset] [(.ref a180)])) rfl (by rw [hml]; rfl) (Steps.refl _) (argsL := []) (rest := []) (lenOf pd___I rfl) rfl (by show 2 * 0 + _ ≤ _; exact Nat.le_of_eq rfl) (hb hby at_187) (fun _ _ => ⟨rfl, K214, (by decide : 4 + 0 ≤ _), (by decide : 26 + 0 ≤ _)⟩)
          dsimp only [Pt.U, Pt.locs, Pt.cells, Pt.slots] at X215 l215 y215 z215 st215 hQ215
          subst l215 y215 z215
          obtain ⟨rfl, Nq215, K215⟩ := hQ215
          have N215 := Fr.app N214 Nq215
          refine own_go (fun _ k => st215.trans k) ?_
          show OwnGo p e below _ (T215.setTop (mkF m 190 #[.val (.long q0), .second, .val (.long q1), .second, .val (.int p2), .val (.int p3), .val (.int p4), .val (.int ((p2 &&& (2147483647 : Int32)) % (3 : Int32))), .val (.ref aALL_KEYS), .val (.ref a180), .val (.int en), .val (.int (own_bf en)), .val (.int (1073741824 : Int32)), .val (.int (1 : Int32)), .val (.int (1 : Int32)), .val (.int (1 : Int32)), .val (.int (1 : Int32)), .unset] [(.int (0 : Int32))]))
          refine own_go (fun _ k => XS.ifNo X215.here hx rfl (hb hby at_190) rfl (by decide) k) ?_
          show OwnGo p e below _ (T215.setTop (mkF m 193 #[.val (.long q0), .second, .val (.long q1), .second, .val (.int p2), .val (.int p3), .val (.int p4), .val (.int ((p2 &&& (2147483647 : Int32)) % (3 : Int32))), .val (.ref aALL_KEYS), .val (.ref a180), .val (.int en), .val (.int (own_bf en)), .val (.int (1073741824 : Int32)), .val (.int (1 : Int32)), .val (.int (1 : Int32)), .val (.int (1 : Int32)), .val (.int (1 : Int32)), .unset] []))
          refine own_go (fun _ k => XS.iconst X215.here hx rfl (hb hby at_193) k) ?_
          show OwnGo p e below _ (T215.setTop (mkF m 194 #[.val (.long q0), .second, .val (.long q1), .second, .val (.int p2), .val (.int p3), .val (.int p4), .val (.int ((p2 &&& (2147483647 : Int32)) % (3 : Int32))), .val (.ref aALL_KEYS), .val (.ref a180), .val (.int en), .val (.int (own_bf en)), .val (.int (1073741824 : Int32)), .val (.int (1 : Int32)), .val (.int (1 : Int32)), .val (.int (1 : Int32)), .val (.int (1 : Int32)), .unset] [(.int (1 : Int32))]))
          refine own_go (fun _ k => XS.goto X215.here hx rfl (pc0 := 194) (pc' := 198) rfl (hb hby at_194) (by decide) (by decide) k) ?_
          show OwnGo p e below _ (T215.setTop (mkF m 198 #[.val (.long q0), .second, .val (.long q1), .second, .val (.int p2), .val (.int p3), .val (.int p4), .val (.int ((p2 &&& (2147483647 : Int32)) % (3 : Int32))), .val (.ref aALL_KEYS), .val (.ref a180), .val (.int en), .val (.int (own_bf en)), .val (.int (1073741824 : Int32)), .val (.int (1 : Int32)), .val (.int (1 : Int32)), .val (.int (1 : Int32)), .val (.int (1 : Int32)), .unset] [(.int (1 : Int32))]))
          refine own_go (fun _ k => XS.istore X215.here hx rfl (hb hby at_198) rfl (l' := #[.val (.long q0), .second, .val (.long q1), .second, .val (.int p2), .val (.int p3), .val (.int p4), .val (.int ((p2 &&& (2147483647 : Int32)) % (3 : Int32))), .val (.ref aALL_KEYS), .val (.ref a180), .val (.int en), .val (.int (own_bf en)), .val (.int (1073741824 : Int32)), .val (.int (1 : Int32)), .val (.int (1 : Int32)), .val (.int (1 : Int32)), .val (.int (1 : Int32)), .val (.int (1 : Int32))]) rfl k) ?_
          show OwnGo p e below _ (T215.setTop (mkF m 200 #[.val (.long q0), .second, .val (.long q1), .second, .val (.int p2), .val (.int p3), .val (.int p4), .val (.int ((p2 &&& (2147483647 : Int32)) % (3 : Int32))), .val (.ref aALL_KEYS), .val (.ref a180), .val (.int en), .val (.int (own_bf en)), .val (.int (1073741824 : Int32)), .val (.int (1 : Int32)), .val (.int (1 : Int32)), .val (.int (1 : Int32)), .val (.int (1 : Int32)), .val (.int (1 : Int32))] []))
          refine own_go (fun _ k => XS.iload X215.here hx rfl (hb hby at_200) rfl k) ?_
          show OwnGo p e below _ (T215.setTop (mkF m 202 #[.val (.long q0), .second, .val (.long q1), .second, .val (.int p2), .val (.int p3), .val (.int p4), .val (.int ((p2 &&& (2147483647 : Int32)) % (3 : Int32))), .val (.ref aALL_KEYS), .val (.ref a180), .val (.int en), .val (.int (own_bf en)), .val (.int (1073741824 : Int32)), .val (.int (1 : Int32)), .val (.int (1 : Int32)), .val (.int (1 : Int32)), .val (.int (1 : Int32)), .val (.int (1 : Int32))] [(.int (1 : Int32))]))
          refine own_go (fun _ k => XS.ifNo X215.here hx rfl (hb hby at_202) rfl (by decide) k) ?_
          show OwnGo p e below _ (T215.setTop (mkF m 205 #[.val (.long q0), .second, .val (.long q1), .second, .val (.int p2), .val (.int p3), .val (.int p4), .val (.int ((p2 &&& (2147483647 : Int32)) % (3 : Int32))), .val (.ref aALL_KEYS), .val (.ref a180), .val (.int en), .val (.int (own_bf en)), .val (.int (1073741824 : Int32)), .val (.int (1 : Int32)), .val (.int (1 : Int32)), .val (.int (1 : Int32)), .val (.int (1 : Int32)), .val (.int (1 : Int32))] []))
          refine own_go (fun _ k => XS.iload X215.here hx rfl (hb hby at_205) rfl k) ?_
          show OwnGo p e below _ (T215.setTop (mkF m 207 #[.val (.long q0), .second, .val (.long q1), .second, .val (.int p2), .val (.int p3), .val (.int p4), .val (.int ((p2 &&& (2147483647 : Int32)) % (3 : Int32))), .val (.ref aALL_KEYS), .val (.ref a180), .val (.int en), .val (.int (own_bf en)), .val (.int (1073741824 : Int32)), .val (.int (1 : Int32)), .val (.int (1 : Int32)), .val (.int (1 : Int32)), .val (.int (1 : Int32)), .val (.int (1 : Int32))] [(.int (1 : Int32))]))
          refine own_go (fun _ k => XS.ifNo X215.here hx rfl (hb hby at_207) rfl (by decide) k) ?_
          show OwnGo p e below _ (T215.setTop (mkF m 210 #[.val (.long q0), .second, .val (.long q1), .second, .val (.int p2), .val (.int p3), .val (.int p4), .val (.int ((p2 &&& (2147483647 : Int32)) % (3 : Int32))), .val (.ref aALL_KEYS), .val (.ref a180), .val (.int en), .val (.int (own_bf en)), .val (.int (1073741824 : Int32)), .val (.int (1 : Int32)), .val (.int (1 : Int32)), .val (.int (1 : Int32)), .val (.int (1 : Int32)), .val (.int (1 : Int32))] []))
          refine own_go (fun _ k => XS.iload X215.here hx rfl (hb hby at_210) rfl k) ?_
          show OwnGo p e below _ (T215.setTop (mkF m 212 #[.val (.long q0), .second, .val (.long q1), .second, .val (.int p2), .val (.int p3), .val (.int p4), .val (.int ((p2 &&& (2147483647 : Int32)) % (3 : Int32))), .val (.ref aALL_KEYS), .val (.ref a180), .val (.int en), .val (.int (own_bf en)), .val (.int (1073741824 : Int32)), .val (.int (1 : Int32)), .val (.int (1 : Int32)), .val (.int (1 : Int32)), .val (.int (1 : Int32)), .val (.int (1 : Int32))] [(.int (1 : Int32))]))
          refine own_go (fun _ k => XS.ifNo X215.here hx rfl (hb hby at_212) rfl (by decide) k) ?_
          show OwnGo p e below _ (T215.setTop (mkF m 215 #[.val (.long q0), .second, .val (.long q1), .second, .val (.int p2), .val (.int p3), .val (.int p4), .val (.int ((p2 &&& (2147483647 : Int32)) % (3 : Int32))), .val (.ref aALL_KEYS), .val (.ref a180), .val (.int en), .val (.int (own_bf en)), .val (.int (1073741824 : Int32)), .val (.int (1 : Int32)), .val (.int (1 : Int32)), .val (.int (1 : Int32)), .val (.int (1 : Int32)), .val (.int (1 : Int32))] []))
          refine own_go (fun _ k => XS.iload X215.here hx rfl (hb hby at_215) rfl k) ?_
          show OwnGo p e below _ (T215.setTop (mkF m 217 #[.val (.long q0), .second, .val (.long q1), .second, .val (.int p2), .val (.int p3), .val (.int p4), .val (.int ((p2 &&& (2147483647 : Int32)) % (3 : Int32))), .val (.ref aALL_KEYS), .val (.ref a180), .val (.int en), .val (.int (own_bf en)), .val (.int (1073741824 : Int32)), .val (.int (1 : Int32)), .val (.int (1 : Int32)), .val (.int (1 : Int32)), .val (.int (1 : Int32)), .val (.int (1 : Int32))] [(.int (1 : Int32))]))
          refine own_go (fun _ k => XS.ifNo X215.here hx rfl (hb hby at_217) rfl (by decide) k) ?_
          show OwnGo p e below _ (T215.setTop (mkF m 220 #[.val (.long q0), .second, .val (.long q1), .second, .val (.int p2), .val (.int p3), .val (.int p4), .val (.int ((p2 &&& (2147483647 : Int32)) % (3 : Int32))), .val (.ref aALL_KEYS), .val (.ref a180), .val (.int en), .val (.int (own_bf en)), .val (.int (1073741824 : Int32)), .val (.int (1 : Int32)), .val (.int (1 : Int32)), .val (.int (1 : Int32)), .val (.int (1 : Int32)), .val (.int (1 : Int32))] []))
          refine own_go (fun _ k => XS.iload X215.here hx rfl (hb hby at_220) rfl k) ?_
          show OwnGo p e below _ (T215.setTop (mkF m 222 #[.val (.long q0), .second, .val (.long q1), .second, .val (.int p2), .val (.int p3), .val (.int p4), .val (.int ((p2 &&& (2147483647 : Int32)) % (3 : Int32))), .val (.ref aALL_KEYS), .val (.ref a180), .val (.int en), .val (.int (own_bf en)), .val (.int (1073741824 : Int32)), .val (.int (1 : Int32)), .val (.int (1 : Int32)), .val (.int (1 : Int32)), .val (.int (1 : Int32)), .val (.int (1 : Int32))] [(.int (1 : Int32))]))
          refine own_go (fun _ k => XS.ifNo X215.here hx rfl (hb hby at_222) rfl (by decide) k) ?_
          show OwnGo p e below _ (T215.setTop (mkF m 225 #[.val (.long q0), .second, .val (.long q1), .second, .val (.int p2), .val (.int p3), .val (.int p4), .val (.int ((p2 &&& (2147483647 : Int32)) % (3 : Int32))), .val (.ref aALL_KEYS), .val (.ref a180), .val (.int en), .val (.int (own_bf en)), .val (.int (1073741824 : Int32)), .val (.int (1 : Int32)), .val (.int (1 : Int32)), .val (.int (1 : Int32)), .val (.int (1 : Int32)), .val (.int (1 : Int32))] []))
          refine own_go (fun _ k => XS.iconst X215.here hx rfl (hb hby at_225) k) ?_
          show OwnGo p e below _ (T215.setTop (mkF m 226 #[.val (.long q0), .second, .val (.long q1), .second, .val (.int p2), .val (.int p3), .val (.int p4), .val (.int ((p2 &&& (2147483647 : Int32)) % (3 : Int32))), .val (.ref aALL_KEYS), .val (.ref a180), .val (.int en), .val (.int (own_bf en)), .val (.int (1073741824 : Int32)), .val (.int (1 : Int32)), .val (.int (1 : Int32)), .val (.int (1 : Int32)), .val (.int (1 : Int32)), .val (.int (1 : Int32))] [(.int (1 : Int32))]))
          refine own_go (fun _ k => XS.goto X215.here hx rfl (pc0 := 226) (pc' := 230) rfl (hb hby at_226) (by decide) (by decide) k) ?_
          show OwnGo p e below _ (T215.setTop (mkF m 230 #[.val (.long q0), .second, .val (.long q1), .second, .val (.int p2), .val (.int p3), .val (.int p4), .val (.int ((p2 &&& (2147483647 : Int32)) % (3 : Int32))), .val (.ref aALL_KEYS), .val (.ref a180), .val (.int en), .val (.int (own_bf en)), .val (.int (1073741824 : Int32)), .val (.int (1 : Int32)), .val (.int (1 : Int32)), .val (.int (1 : Int32)), .val (.int (1 : Int32)), .val (.int (1 : Int32))] [(.int (1 : Int32))]))
          obtain ⟨fs, hr, hrun, hended, hW, hsame⟩ := X215.leave (v := some (.int (1 : Int32))) (fun h => by rw [Bd.returns] at h; cases h)
          refine ⟨_, _, retOut X215 hx Bd.returns rfl (Or.inl ⟨rfl, Or.inr (Or.inl rfl), _, rfl⟩) (hb hby at_230) hr, hrun, hended, _, _, rfl, ?_, ⟨_, rfl⟩, hW, hsame.mono (by decide) (by decide)⟩
          show Q_law Z aNONE aEXPIRING_KEYS aALL_KEYS q0 q1 p2 p3 p4 h0 n0 _ T215.heap _
          rw [K215]
          exact ⟨rfl, N215⟩
        · refine own_go (fun _ k => XS.icmpNo X206.here hx rfl (hb hby at_152) rfl (feq hc213).1 k) ?_
          show OwnGo p e below _ (T206.setTop (mkF m 155 #[.val (.long q0), .second, .val (.long q1), .second, .val (.int p2), .val (.int p3), .val (.int p4), .val (.int ((p2 &&& (2147483647 : Int32)) % (3 : Int32))), .val (.ref aALL_KEYS), .val (.ref a180), .val (.int en), .val (.int (own_bf en)), .val (.int (1073741824 : Int32)), .val (.int (1 : Int32)), .val (.int (1 : Int32)), .val (.int (1 : Int32)), .unset, .unset] []))
          refine own_go (fun _ k => XS.iload X206.here hx rfl (hb hby at_155) rfl k) ?_
          show OwnGo p e below _ (T206.setTop (mkF m 157 #[.val (.long q0), .second, .val (.long q1), .second, .val (.int p2), .val (.int p3), .val (.int p4), .val (.int ((p2 &&& (2147483647 : Int32)) % (3 : Int32))), .val (.ref aALL_KEYS), .val (.ref a180), .val (.int en), .val (.int (own_bf en)), .val (.int (1073741824 : Int32)), .val (.int (1 : Int32)), .val (.int (1 : Int32)), .val (.int (1 : Int32)), .unset, .unset] [(.int en)]))
          refine own_go (fun _ k => XS.iload X206.here hx rfl (hb hby at_157) rfl k) ?_
          show OwnGo p e below _ (T206.setTop (mkF m 159 #[.val (.long q0), .second, .val (.long q1), .second, .val (.int p2), .val (.int p3), .val (.int p4), .val (.int ((p2 &&& (2147483647 : Int32)) % (3 : Int32))), .val (.ref aALL_KEYS), .val (.ref a180), .val (.int en), .val (.int (own_bf en)), .val (.int (1073741824 : Int32)), .val (.int (1 : Int32)), .val (.int (1 : Int32)), .val (.int (1 : Int32)), .unset, .unset] [(.int (own_bf en)), (.int en)]))
          refine own_go (fun _ k => XS.iconst X206.here hx rfl (hb hby at_159) k) ?_
          show OwnGo p e below _ (T206.setTop (mkF m 160 #[.val (.long q0), .second, .val (.long q1), .second, .val (.int p2), .val (.int p3), .val (.int p4), .val (.int ((p2 &&& (2147483647 : Int32)) % (3 : Int32))), .val (.ref aALL_KEYS), .val (.ref a180), .val (.int en), .val (.int (own_bf en)), .val (.int (1073741824 : Int32)), .val (.int (1 : Int32)), .val (.int (1 : Int32)), .val (.int (1 : Int32)), .unset, .unset] [(.int (2 : Int32)), (.int (own_bf en)), (.int en)]))
          refine own_go (fun _ k => XS.idiv X206.here hx rfl (hb hby at_160) rfl (by decide) k) ?_
          show OwnGo p e below _ (T206.setTop (mkF m 161 #[.val (.long q0), .second, .val (.long q1), .second, .val (.int p2), .val (.int p3), .val (.int p4), .val (.int ((p2 &&& (2147483647 : Int32)) % (3 : Int32))), .val (.ref aALL_KEYS), .val (.ref a180), .val (.int en), .val (.int (own_bf en)), .val (.int (1073741824 : Int32)), .val (.int (1 : Int32)), .val (.int (1 : Int32)), .val (.int (1 : Int32)), .unset, .unset] [(.int ((own_bf en) / (2 : Int32))), (.int en)]))
          refine own_go (fun _ k => XS.iconst X206.here hx rfl (hb hby at_161) k) ?_
          show OwnGo p e below _ (T206.setTop (mkF m 162 #[.val (.long q0), .second, .val (.long q1), .second, .val (.int p2), .val (.int p3), .val (.int p4), .val (.int ((p2 &&& (2147483647 : Int32)) % (3 : Int32))), .val (.ref aALL_KEYS), .val (.ref a180), .val (.int en), .val (.int (own_bf en)), .val (.int (1073741824 : Int32)), .val (.int (1 : Int32)), .val (.int (1 : Int32)), .val (.int (1 : Int32)), .unset, .unset] [(.int (4 : Int32)), (.int ((own_bf en) / (2 : Int32))), (.int en)]))
          refine own_go (fun _ k => XS.idiv X206.here hx rfl (hb hby at_162) rfl (by decide) k) ?_
          show OwnGo p e below _ (T206.setTop (mkF m 163 #[.val (.long q0), .second, .val (.long q1), .second, .val (.int p2), .val (.int p3), .val (.int p4), .val (.int ((p2 &&& (2147483647 : Int32)) % (3 : Int32))), .val (.ref aALL_KEYS), .val (.ref a180), .val (.int en), .val (.int (own_bf en)), .val (.int (1073741824 : Int32)), .val (.int (1 : Int32)), .val (.int (1 : Int32)), .val (.int (1 : Int32)), .unset, .unset] [(.int (((own_bf en) / (2 : Int32)) / (4 : Int32))), (.int en)]))
          refine own_go (fun _ k => XS.iconst X206.here hx rfl (hb hby at_163) k) ?_
          show OwnGo p e below _ (T206.setTop (mkF m 164 #[.val (.long q0), .second, .val (.long q1), .second, .val (.int p2), .val (.int p3), .val (.int p4), .val (.int ((p2 &&& (2147483647 : Int32)) % (3 : Int32))), .val (.ref aALL_KEYS), .val (.ref a180), .val (.int en), .val (.int (own_bf en)), .val (.int (1073741824 : Int32)), .val (.int (1 : Int32)), .val (.int (1 : Int32)), .val (.int (1 : Int32)), .unset, .unset] [(.int (3 : Int32)), (.int (((own_bf en) / (2 : Int32)) / (4 : Int32))), (.int en)]))
          refine own_go (fun _ k => XS.imul X206.here hx rfl (hb hby at_164) rfl k) ?_
          show OwnGo p e below _ (T206.setTop (mkF m 165 #[.val (.long q0), .second, .val (.long q1), .second, .val (.int p2), .val (.int p3), .val (.int p4), .val (.int ((p2 &&& (2147483647 : Int32)) % (3 : Int32))), .val (.ref aALL_KEYS), .val (.ref a180), .val (.int en), .val (.int (own_bf en)), .val (.int (1073741824 : Int32)), .val (.int (1 : Int32)), .val (.int (1 : Int32)), .val (.int (1 : Int32)), .unset, .unset] [(.int ((((own_bf en) / (2 : Int32)) / (4 : Int32)) * (3 : Int32))), (.int en)]))
          refine own_go (fun _ k => XS.icmpNo X206.here hx rfl (hb hby at_165) rfl (tlt ((own_bf_spec en).2.2.2.2.2 hc213)).2.2.2 k) ?_
          show OwnGo p e below _ (T206.setTop (mkF m 168 #[.val (.long q0), .second, .val (.long q1), .second, .val (.int p2), .val (.int p3), .val (.int p4), .val (.int ((p2 &&& (2147483647 : Int32)) % (3 : Int32))), .val (.ref aALL_KEYS), .val (.ref a180), .val (.int en), .val (.int (own_bf en)), .val (.int (1073741824 : Int32)), .val (.int (1 : Int32)), .val (.int (1 : Int32)), .val (.int (1 : Int32)), .unset, .unset] []))
          refine own_go (fun _ k => XS.iconst X206.here hx rfl (hb hby at_168) k) ?_
          show OwnGo p e below _ (T206.setTop (mkF m 169 #[.val (.long q0), .second, .val (.long q1), .second, .val (.int p2), .val (.int p3), .val (.int p4), .val (.int ((p2 &&& (2147483647 : Int32)) % (3 : Int32))), .val (.ref aALL_KEYS), .val (.ref a180), .val (.int en), .val (.int (own_bf en)), .val (.int (1073741824 : Int32)), .val (.int (1 : Int32)), .val (.int (1 : Int32)), .val (.int (1 : Int32)), .unset, .unset] [(.int (1 : Int32))]))
          refine own_go (fun _ k => XS.goto X206.here hx rfl (pc0 := 169) (pc' := 173) rfl (hb hby at_169) (by decide) (by decide) k) ?_
          show OwnGo p e below _ (T206.setTop (mkF m 173 #[.val (.long q0), .second, .val (.long q1), .second, .val (.int p2), .val (.int p3), .val (.int p4), .val (.int ((p2 &&& (2147483647 : Int32)) % (3 : Int32))), .val (.ref aALL_KEYS), .val (.ref a180), .val (.int en), .val (.int (own_bf en)), .val (.int (1073741824 : Int32)), .val (.int (1 : Int32)), .val (.int (1 : Int32)), .val (.int (1 : Int32)), .unset, .unset] [(.int (1 : Int32))]))
          refine own_go (fun _ k => XS.istore X206.here hx rfl (hb hby at_173) rfl (l' := #[.val (.long q0), .second, .val (.long q1), .second, .val (.int p2), .val (.int p3), .val (.int p4), .val (.int ((p2 &&& (2147483647 : Int32)) % (3 : Int32))), .val (.ref aALL_KEYS), .val (.ref a180), .val (.int en), .val (.int (own_bf en)), .val (.int (1073741824 : Int32)), .val (.int (1 : Int32)), .val (.int (1 : Int32)), .val (.int (1 : Int32)), .val (.int (1 : Int32)), .unset]) rfl k) ?_
          show OwnGo p e below _ (T206.setTop (mkF m 175 #[.val (.long q0), .second, .val (.long q1), .second, .val (.int p2), .val (.int p3), .val (.int p4), .val (.int ((p2 &&& (2147483647 : Int32)) % (3 : Int32))), .val (.ref aALL_KEYS), .val (.ref a180), .val (.int en), .val (.int (own_bf en)), .val (.int (1073741824 : Int32)), .val (.int (1 : Int32)), .val (.int (1 : Int32)), .val (.int (1 : Int32)), .val (.int (1 : Int32)), .unset] []))
          refine own_go (fun _ k => XS.aload X206.here hx rfl (hb hby at_175) rfl rfl k) ?_
          show OwnGo p e below _ (T206.setTop (mkF m 177 #[.val (.long q0), .second, .val (.long q1), .second, .val (.int p2), .val (.int p3), .val (.int p4), .val (.int ((p2 &&& (2147483647 : Int32)) % (3 : Int32))), .val (.ref aALL_KEYS), .val (.ref a180), .val (.int en), .val (.int (own_bf en)), .val (.int (1073741824 : Int32)), .val (.int (1 : Int32)), .val (.int (1 : Int32)), .val (.int (1 : Int32)), .val (.int (1 : Int32)), .unset] [(.ref a180)]))
          obtain ⟨cq216, kq216, qa216, qb216, qc216⟩ := isOf hZ K206 F205
          obtain ⟨_, _, ⟨T216, L216, k216, n216⟩, -, X216, ⟨Lc216, hQ216, l216, y216, z216⟩, st216⟩ := X206.virtualBack hx (y := (⟨"com/example/vesper/vesper/store/Table", "buckets", "()I"⟩ : MethodName)) (z := (⟨"com/example/vesper/vesper/store/Table", "buckets", "()I"⟩ : MethodName)) hown (mvT hZ (hw _ (List.mem_of_getElem? (i := 48) rfl))) (mvT hZ (hw _ (List.mem_of_getElem? (i := 49) rfl))) (notFace_of_selects (args := #[]) (mvT hZ (hw _ (List.mem_of_getElem? (i := 51) rfl)))) (mvT hZ (hw _ (List.mem_of_getElem? (i := 51) rfl))) (mvT hZ (hw _ (List.mem_of_getElem? (i := 50) rfl))) (by decide) (backOf (W := 0) (rm_bk l Z a0 hw [] aNONE aEXPIRING_KEYS aALL_KEYS F0 a180 r9_201 k9_201 T201.heap n0 O201 x201_0 x201_2) hZ (hw _ (List.mem_of_getElem? (i := 52) rfl)) (hw _ (List.mem_of_getElem? (i := 6) rfl)) (by decide) (by decide)) qa216 qc216 (g := (mkF m 177 #[.val (.long q0), .second, .val (.long q1), .second, .val (.int p2), .val (.int p3), .val (.int p4), .val (.int ((p2 &&& (2147483647 : Int32)) % (3 : Int32))), .val (.ref aALL_KEYS), .val (.ref a180), .val (.int en), .val (.int (own_bf en)), .val (.int (1073741824 : Int32)), .val (.int (1 : Int32)), .val (.int (1 : Int32)), .val (.int (1 : Int32)), .val (.int (1 : Int32)), .unset] [(.ref a180)])) rfl (by rw [hml]; rfl) (Steps.refl _) (argsL := []) (rest := []) (lenOf pd___I rfl) rfl (by show 2 * 0 + _ ≤ _; exact Nat.le_of_eq rfl) (hb hby at_177) (fun _ _ => ⟨rfl, K206, (by decide : 4 + 0 ≤ _), (by decide : 26 + 0 ≤ _)⟩)
          dsimp only [Pt.U, Pt.locs, Pt.cells, Pt.slots] at X216 l216 y216 z216 st216 hQ216
          subst l216 y216 z216
          obtain ⟨rfl, Nq216, K216⟩ := hQ216
          have N216 := Fr.app N206 Nq216
          refine own_go (fun _ k => st216.trans k) ?_
          show OwnGo p e below _ (T216.setTop (mkF m 180 #[.val (.long q0), .second, .val (.long q1), .second, .val (.int p2), .val (.int p3), .val (.int p4), .val (.int ((p2 &&& (2147483647 : Int32)) % (3 : Int32))), .val (.ref aALL_KEYS), .val (.ref a180), .val (.int en), .val (.int (own_bf en)), .val (.int (1073741824 : Int32)), .val (.int (1 : Int32)), .val (.int (1 : Int32)), .val (.int (1 : Int32)), .val (.int (1 : Int32)), .unset] [(.int (16 : Int32))]))
          refine own_go (fun _ k => XS.bipush X216.here hx rfl (hb hby at_180) k) ?_
          show OwnGo p e below _ (T216.setTop (mkF m 182 #[.val (.long q0), .second, .val (.long q1), .second, .val (.int p2), .val (.int p3), .val (.int p4), .val (.int ((p2 &&& (2147483647 : Int32)) % (3 : Int32))), .val (.ref aALL_KEYS), .val (.ref a180), .val (.int en), .val (.int (own_bf en)), .val (.int (1073741824 : Int32)), .val (.int (1 : Int32)), .val (.int (1 : Int32)), .val (.int (1 : Int32)), .val (.int (1 : Int32)), .unset] [(.int (16 : Int32)), (.int (16 : Int32))]))
          refine own_go (fun _ k => XS.icmpNo X216.here hx rfl (hb hby at_182) rfl (by decide) k) ?_
          show OwnGo p e below _ (T216.setTop (mkF m 185 #[.val (.long q0), .second, .val (.long q1), .second, .val (.int p2), .val (.int p3), .val (.int p4), .val (.int ((p2 &&& (2147483647 : Int32)) % (3 : Int32))), .val (.ref aALL_KEYS), .val (.ref a180), .val (.int en), .val (.int (own_bf en)), .val (.int (1073741824 : Int32)), .val (.int (1 : Int32)), .val (.int (1 : Int32)), .val (.int (1 : Int32)), .val (.int (1 : Int32)), .unset] []))
          refine own_go (fun _ k => XS.aload X216.here hx rfl (hb hby at_185) rfl rfl k) ?_
          show OwnGo p e below _ (T216.setTop (mkF m 187 #[.val (.long q0), .second, .val (.long q1), .second, .val (.int p2), .val (.int p3), .val (.int p4), .val (.int ((p2 &&& (2147483647 : Int32)) % (3 : Int32))), .val (.ref aALL_KEYS), .val (.ref a180), .val (.int en), .val (.int (own_bf en)), .val (.int (1073741824 : Int32)), .val (.int (1 : Int32)), .val (.int (1 : Int32)), .val (.int (1 : Int32)), .val (.int (1 : Int32)), .unset] [(.ref a180)]))
          obtain ⟨cq217, kq217, qa217, qb217, qc217⟩ := isOf hZ K216 F205
          obtain ⟨_, _, ⟨T217, L217, k217, n217⟩, -, X217, ⟨Lc217, hQ217, l217, y217, z217⟩, st217⟩ := X216.virtualBack hx (y := (⟨"com/example/vesper/vesper/store/Table", "size", "()I"⟩ : MethodName)) (z := (⟨"com/example/vesper/vesper/store/Table", "size", "()I"⟩ : MethodName)) hown (mvT hZ (hw _ (List.mem_of_getElem? (i := 53) rfl))) (mvT hZ (hw _ (List.mem_of_getElem? (i := 54) rfl))) (notFace_of_selects (args := #[]) (mvT hZ (hw _ (List.mem_of_getElem? (i := 56) rfl)))) (mvT hZ (hw _ (List.mem_of_getElem? (i := 56) rfl))) (mvT hZ (hw _ (List.mem_of_getElem? (i := 55) rfl))) (by decide) (backOf (W := 0) (rm_sz l Z a0 hw [] aNONE aEXPIRING_KEYS aALL_KEYS F0 a180 T201.heap n0 O201 x201_1) hZ (hw _ (List.mem_of_getElem? (i := 57) rfl)) (hw _ (List.mem_of_getElem? (i := 6) rfl)) (by decide) (by decide)) qa217 qc217 (g := (mkF m 187 #[.val (.long q0), .second, .val (.long q1), .second, .val (.int p2), .val (.int p3), .val (.int p4), .val (.int ((p2 &&& (2147483647 : Int32)) % (3 : Int32))), .val (.ref aALL_KEYS), .val (.ref a180), .val (.int en), .val (.int (own_bf en)), .val (.int (1073741824 : Int32)), .val (.int (1 : Int32)), .val (.int (1 : Int32)), .val (.int (1 : Int32)), .val (.int (1 : Int32)), .unset] [(.ref a180)])) rfl (by rw [hml]; rfl) (Steps.refl _) (argsL := []) (rest := []) (lenOf pd___I rfl) rfl (by show 2 * 0 + _ ≤ _; exact Nat.le_of_eq rfl) (hb hby at_187) (fun _ _ => ⟨rfl, K216, (by decide : 4 + 0 ≤ _), (by decide : 26 + 0 ≤ _)⟩)
          dsimp only [Pt.U, Pt.locs, Pt.cells, Pt.slots] at X217 l217 y217 z217 st217 hQ217
          subst l217 y217 z217
          obtain ⟨rfl, Nq217, K217⟩ := hQ217
          have N217 := Fr.app N216 Nq217
          refine own_go (fun _ k => st217.trans k) ?_
          show OwnGo p e below _ (T217.setTop (mkF m 190 #[.val (.long q0), .second, .val (.long q1), .second, .val (.int p2), .val (.int p3), .val (.int p4), .val (.int ((p2 &&& (2147483647 : Int32)) % (3 : Int32))), .val (.ref aALL_KEYS), .val (.ref a180), .val (.int en), .val (.int (own_bf en)), .val (.int (1073741824 : Int32)), .val (.int (1 : Int32)), .val (.int (1 : Int32)), .val (.int (1 : Int32)), .val (.int (1 : Int32)), .unset] [(.int (0 : Int32))]))
          refine own_go (fun _ k => XS.ifNo X217.here hx rfl (hb hby at_190) rfl (by decide) k) ?_
          show OwnGo p e below _ (T217.setTop (mkF m 193 #[.val (.long q0), .second, .val (.long q1), .second, .val (.int p2), .val (.int p3), .val (.int p4), .val (.int ((p2 &&& (2147483647 : Int32)) % (3 : Int32))), .val (.ref aALL_KEYS), .val (.ref a180), .val (.int en), .val (.int (own_bf en)), .val (.int (1073741824 : Int32)), .val (.int (1 : Int32)), .val (.int (1 : Int32)), .val (.int (1 : Int32)), .val (.int (1 : Int32)), .unset] []))
          refine own_go (fun _ k => XS.iconst X217.here hx rfl (hb hby at_193) k) ?_
          show OwnGo p e below _ (T217.setTop (mkF m 194 #[.val (.long q0), .second, .val (.long q1), .second, .val (.int p2), .val (.int p3), .val (.int p4), .val (.int ((p2 &&& (2147483647 : Int32)) % (3 : Int32))), .val (.ref aALL_KEYS), .val (.ref a180), .val (.int en), .val (.int (own_bf en)), .val (.int (1073741824 : Int32)), .val (.int (1 : Int32)), .val (.int (1 : Int32)), .val (.int (1 : Int32)), .val (.int (1 : Int32)), .unset] [(.int (1 : Int32))]))
          refine own_go (fun _ k => XS.goto X217.here hx rfl (pc0 := 194) (pc' := 198) rfl (hb hby at_194) (by decide) (by decide) k) ?_
          show OwnGo p e below _ (T217.setTop (mkF m 198 #[.val (.long q0), .second, .val (.long q1), .second, .val (.int p2), .val (.int p3), .val (.int p4), .val (.int ((p2 &&& (2147483647 : Int32)) % (3 : Int32))), .val (.ref aALL_KEYS), .val (.ref a180), .val (.int en), .val (.int (own_bf en)), .val (.int (1073741824 : Int32)), .val (.int (1 : Int32)), .val (.int (1 : Int32)), .val (.int (1 : Int32)), .val (.int (1 : Int32)), .unset] [(.int (1 : Int32))]))
          refine own_go (fun _ k => XS.istore X217.here hx rfl (hb hby at_198) rfl (l' := #[.val (.long q0), .second, .val (.long q1), .second, .val (.int p2), .val (.int p3), .val (.int p4), .val (.int ((p2 &&& (2147483647 : Int32)) % (3 : Int32))), .val (.ref aALL_KEYS), .val (.ref a180), .val (.int en), .val (.int (own_bf en)), .val (.int (1073741824 : Int32)), .val (.int (1 : Int32)), .val (.int (1 : Int32)), .val (.int (1 : Int32)), .val (.int (1 : Int32)), .val (.int (1 : Int32))]) rfl k) ?_
          show OwnGo p e below _ (T217.setTop (mkF m 200 #[.val (.long q0), .second, .val (.long q1), .second, .val (.int p2), .val (.int p3), .val (.int p4), .val (.int ((p2 &&& (2147483647 : Int32)) % (3 : Int32))), .val (.ref aALL_KEYS), .val (.ref a180), .val (.int en), .val (.int (own_bf en)), .val (.int (1073741824 : Int32)), .val (.int (1 : Int32)), .val (.int (1 : Int32)), .val (.int (1 : Int32)), .val (.int (1 : Int32)), .val (.int (1 : Int32))] []))
          refine own_go (fun _ k => XS.iload X217.here hx rfl (hb hby at_200) rfl k) ?_
          show OwnGo p e below _ (T217.setTop (mkF m 202 #[.val (.long q0), .second, .val (.long q1), .second, .val (.int p2), .val (.int p3), .val (.int p4), .val (.int ((p2 &&& (2147483647 : Int32)) % (3 : Int32))), .val (.ref aALL_KEYS), .val (.ref a180), .val (.int en), .val (.int (own_bf en)), .val (.int (1073741824 : Int32)), .val (.int (1 : Int32)), .val (.int (1 : Int32)), .val (.int (1 : Int32)), .val (.int (1 : Int32)), .val (.int (1 : Int32))] [(.int (1 : Int32))]))
          refine own_go (fun _ k => XS.ifNo X217.here hx rfl (hb hby at_202) rfl (by decide) k) ?_
          show OwnGo p e below _ (T217.setTop (mkF m 205 #[.val (.long q0), .second, .val (.long q1), .second, .val (.int p2), .val (.int p3), .val (.int p4), .val (.int ((p2 &&& (2147483647 : Int32)) % (3 : Int32))), .val (.ref aALL_KEYS), .val (.ref a180), .val (.int en), .val (.int (own_bf en)), .val (.int (1073741824 : Int32)), .val (.int (1 : Int32)), .val (.int (1 : Int32)), .val (.int (1 : Int32)), .val (.int (1 : Int32)), .val (.int (1 : Int32))] []))
          refine own_go (fun _ k => XS.iload X217.here hx rfl (hb hby at_205) rfl k) ?_
          show OwnGo p e below _ (T217.setTop (mkF m 207 #[.val (.long q0), .second, .val (.long q1), .second, .val (.int p2), .val (.int p3), .val (.int p4), .val (.int ((p2 &&& (2147483647 : Int32)) % (3 : Int32))), .val (.ref aALL_KEYS), .val (.ref a180), .val (.int en), .val (.int (own_bf en)), .val (.int (1073741824 : Int32)), .val (.int (1 : Int32)), .val (.int (1 : Int32)), .val (.int (1 : Int32)), .val (.int (1 : Int32)), .val (.int (1 : Int32))] [(.int (1 : Int32))]))
          refine own_go (fun _ k => XS.ifNo X217.here hx rfl (hb hby at_207) rfl (by decide) k) ?_
          show OwnGo p e below _ (T217.setTop (mkF m 210 #[.val (.long q0), .second, .val (.long q1), .second, .val (.int p2), .val (.int p3), .val (.int p4), .val (.int ((p2 &&& (2147483647 : Int32)) % (3 : Int32))), .val (.ref aALL_KEYS), .val (.ref a180), .val (.int en), .val (.int (own_bf en)), .val (.int (1073741824 : Int32)), .val (.int (1 : Int32)), .val (.int (1 : Int32)), .val (.int (1 : Int32)), .val (.int (1 : Int32)), .val (.int (1 : Int32))] []))
          refine own_go (fun _ k => XS.iload X217.here hx rfl (hb hby at_210) rfl k) ?_
          show OwnGo p e below _ (T217.setTop (mkF m 212 #[.val (.long q0), .second, .val (.long q1), .second, .val (.int p2), .val (.int p3), .val (.int p4), .val (.int ((p2 &&& (2147483647 : Int32)) % (3 : Int32))), .val (.ref aALL_KEYS), .val (.ref a180), .val (.int en), .val (.int (own_bf en)), .val (.int (1073741824 : Int32)), .val (.int (1 : Int32)), .val (.int (1 : Int32)), .val (.int (1 : Int32)), .val (.int (1 : Int32)), .val (.int (1 : Int32))] [(.int (1 : Int32))]))
          refine own_go (fun _ k => XS.ifNo X217.here hx rfl (hb hby at_212) rfl (by decide) k) ?_
          show OwnGo p e below _ (T217.setTop (mkF m 215 #[.val (.long q0), .second, .val (.long q1), .second, .val (.int p2), .val (.int p3), .val (.int p4), .val (.int ((p2 &&& (2147483647 : Int32)) % (3 : Int32))), .val (.ref aALL_KEYS), .val (.ref a180), .val (.int en), .val (.int (own_bf en)), .val (.int (1073741824 : Int32)), .val (.int (1 : Int32)), .val (.int (1 : Int32)), .val (.int (1 : Int32)), .val (.int (1 : Int32)), .val (.int (1 : Int32))] []))
          refine own_go (fun _ k => XS.iload X217.here hx rfl (hb hby at_215) rfl k) ?_
          show OwnGo p e below _ (T217.setTop (mkF m 217 #[.val (.long q0), .second, .val (.long q1), .second, .val (.int p2), .val (.int p3), .val (.int p4), .val (.int ((p2 &&& (2147483647 : Int32)) % (3 : Int32))), .val (.ref aALL_KEYS), .val (.ref a180), .val (.int en), .val (.int (own_bf en)), .val (.int (1073741824 : Int32)), .val (.int (1 : Int32)), .val (.int (1 : Int32)), .val (.int (1 : Int32)), .val (.int (1 : Int32)), .val (.int (1 : Int32))] [(.int (1 : Int32))]))
          refine own_go (fun _ k => XS.ifNo X217.here hx rfl (hb hby at_217) rfl (by decide) k) ?_
          show OwnGo p e below _ (T217.setTop (mkF m 220 #[.val (.long q0), .second, .val (.long q1), .second, .val (.int p2), .val (.int p3), .val (.int p4), .val (.int ((p2 &&& (2147483647 : Int32)) % (3 : Int32))), .val (.ref aALL_KEYS), .val (.ref a180), .val (.int en), .val (.int (own_bf en)), .val (.int (1073741824 : Int32)), .val (.int (1 : Int32)), .val (.int (1 : Int32)), .val (.int (1 : Int32)), .val (.int (1 : Int32)), .val (.int (1 : Int32))] []))
          refine own_go (fun _ k => XS.iload X217.here hx rfl (hb hby at_220) rfl k) ?_
          show OwnGo p e below _ (T217.setTop (mkF m 222 #[.val (.long q0), .second, .val (.long q1), .second, .val (.int p2), .val (.int p3), .val (.int p4), .val (.int ((p2 &&& (2147483647 : Int32)) % (3 : Int32))), .val (.ref aALL_KEYS), .val (.ref a180), .val (.int en), .val (.int (own_bf en)), .val (.int (1073741824 : Int32)), .val (.int (1 : Int32)), .val (.int (1 : Int32)), .val (.int (1 : Int32)), .val (.int (1 : Int32)), .val (.int (1 : Int32))] [(.int (1 : Int32))]))
          refine own_go (fun _ k => XS.ifNo X217.here hx rfl (hb hby at_222) rfl (by decide) k) ?_
          show OwnGo p e below _ (T217.setTop (mkF m 225 #[.val (.long q0), .second, .val (.long q1), .second, .val (.int p2), .val (.int p3), .val (.int p4), .val (.int ((p2 &&& (2147483647 : Int32)) % (3 : Int32))), .val (.ref aALL_KEYS), .val (.ref a180), .val (.int en), .val (.int (own_bf en)), .val (.int (1073741824 : Int32)), .val (.int (1 : Int32)), .val (.int (1 : Int32)), .val (.int (1 : Int32)), .val (.int (1 : Int32)), .val (.int (1 : Int32))] []))
          refine own_go (fun _ k => XS.iconst X217.here hx rfl (hb hby at_225) k) ?_
          show OwnGo p e below _ (T217.setTop (mkF m 226 #[.val (.long q0), .second, .val (.long q1), .second, .val (.int p2), .val (.int p3), .val (.int p4), .val (.int ((p2 &&& (2147483647 : Int32)) % (3 : Int32))), .val (.ref aALL_KEYS), .val (.ref a180), .val (.int en), .val (.int (own_bf en)), .val (.int (1073741824 : Int32)), .val (.int (1 : Int32)), .val (.int (1 : Int32)), .val (.int (1 : Int32)), .val (.int (1 : Int32)), .val (.int (1 : Int32))] [(.int (1 : Int32))]))
          refine own_go (fun _ k => XS.goto X217.here hx rfl (pc0 := 226) (pc' := 230) rfl (hb hby at_226) (by decide) (by decide) k) ?_
          show OwnGo p e below _ (T217.setTop (mkF m 230 #[.val (.long q0), .second, .val (.long q1), .second, .val (.int p2), .val (.int p3), .val (.int p4), .val (.int ((p2 &&& (2147483647 : Int32)) % (3 : Int32))), .val (.ref aALL_KEYS), .val (.ref a180), .val (.int en), .val (.int (own_bf en)), .val (.int (1073741824 : Int32)), .val (.int (1 : Int32)), .val (.int (1 : Int32)), .val (.int (1 : Int32)), .val (.int (1 : Int32)), .val (.int (1 : Int32))] [(.int (1 : Int32))]))
          obtain ⟨fs, hr, hrun, hended, hW, hsame⟩ := X217.leave (v := some (.int (1 : Int32))) (fun h => by rw [Bd.returns] at h; cases h)
          refine ⟨_, _, retOut X217 hx Bd.returns rfl (Or.inl ⟨rfl, Or.inr (Or.inl rfl), _, rfl⟩) (hb hby at_230) hr, hrun, hended, _, _, rfl, ?_, ⟨_, rfl⟩, hW, hsame.mono (by decide) (by decide)⟩
          show Q_law Z aNONE aEXPIRING_KEYS aALL_KEYS q0 q1 p2 p3 p4 h0 n0 _ T217.heap _
          rw [K217]
          exact ⟨rfl, N217⟩
    · refine own_go (fun _ k => XS.icmpYes X0.here hx rfl (pc0 := 23) (pc' := 32) rfl (hb hby at_23) rfl (feq hc178).2 (by decide) (by decide) k) ?_
      show OwnGo p e below _ (s₁.setTop (mkF m 32 #[.val (.long q0), .second, .val (.long q1), .second, .val (.int p2), .val (.int p3), .val (.int p4), .val (.int ((p2 &&& (2147483647 : Int32)) % (3 : Int32))), .unset, .unset, .unset, .unset, .unset, .unset, .unset, .unset, .unset, .unset] []))
      obtain ⟨T218, X218, e218, st218⟩ := getS X0 hx hZ hown (host := "") (hw _ (List.mem_of_getElem? (i := 60) rfl)) Via.refl e0 (F0.2.2.1.ext O0.2) (g := (mkF m 32 #[.val (.long q0), .second, .val (.long q1), .second, .val (.int p2), .val (.int p3), .val (.int p4), .val (.int ((p2 &&& (2147483647 : Int32)) % (3 : Int32))), .unset, .unset, .unset, .unset, .unset, .unset, .unset, .unset, .unset, .unset] [])) rfl (hb hby at_32)
      refine own_go st218 ?_
      show OwnGo p e below _ (T218.setTop (mkF m 35 #[.val (.long q0), .second, .val (.long q1), .second, .val (.int p2), .val (.int p3), .val (.int p4), .val (.int ((p2 &&& (2147483647 : Int32)) % (3 : Int32))), .unset, .unset, .unset, .unset, .unset, .unset, .unset, .unset, .unset, .unset] [(.ref aEXPIRING_KEYS)]))
      refine own_go (fun _ k => XS.astore X218.here hx rfl (hb hby at_35) rfl rfl (l' := #[.val (.long q0), .second, .val (.long q1), .second, .val (.int p2), .val (.int p3), .val (.int p4), .val (.int ((p2 &&& (2147483647 : Int32)) % (3 : Int32))), .val (.ref aEXPIRING_KEYS), .unset, .unset, .unset, .unset, .unset, .unset, .unset, .unset, .unset]) rfl k) ?_
      show OwnGo p e below _ (T218.setTop (mkF m 37 #[.val (.long q0), .second, .val (.long q1), .second, .val (.int p2), .val (.int p3), .val (.int p4), .val (.int ((p2 &&& (2147483647 : Int32)) % (3 : Int32))), .val (.ref aEXPIRING_KEYS), .unset, .unset, .unset, .unset, .unset, .unset, .unset, .unset, .unset] []))
      obtain ⟨T219, h219, X219, e219, E219, A219, D219, -, st219⟩ := newO X218 hx hZ hown (hw _ (List.mem_of_getElem? (i := 4) rfl)) (hw _ (List.mem_of_getElem? (i := 5) rfl)) (hw _ (List.mem_of_getElem? (i := 6) rfl)) e218 (g := (mkF m 37 #[.val (.long q0), .second, .val (.long q1), .second, .val (.int p2), .val (.int p3), .val (.int p4), .val (.int ((p2 &&& (2147483647 : Int32)) % (3 : Int32))), .val (.ref aEXPIRING_KEYS), .unset, .unset, .unset, .unset, .unset, .unset, .unset, .unset, .unset] [])) rfl (hb hby at_37) (by decide) (by decide)
      obtain ⟨a219, g219⟩ : ∃ z, z = h0.size := ⟨_, rfl⟩
      rw [← g219] at A219 D219 st219
      have ge219 : n0 ≤ a219 := Nat.le_trans (own_sz O0) (Nat.le_of_eq g219.symm)
      have gh219 : h0.size ≤ a219 := Nat.le_trans (Nat.le_refl _) (Nat.le_of_eq g219.symm)
      have O219 := O0.ext E219
      have z220 : h0.size ≤ h219.size := Nat.le_trans (Nat.le_refl _) E219.1
      have F221 : Fld Z h219 a219 "com/example/vesper/vesper/store/Table" "buckets" "[Lcom/example/vesper/vesper/store/Entry;" .null := D219 (Or.inl (hw _ (List.mem_of_getElem? (i := 27) rfl))) (ty := (.array (.object "com/example/vesper/vesper/store/Entry"))) (by decide)
      have F222 : Fld Z h219 a219 "com/example/vesper/vesper/store/Table" "hash" "Lcom/example/vesper/vesper/store/SipHash;" .null := D219 (Or.inr (hw _ (List.mem_of_getElem? (i := 29) rfl))) (ty := (.object "com/example/vesper/vesper/store/SipHash")) (by decide)
      have F223 : Fld Z h219 a219 "com/example/vesper/vesper/store/Table" "counted" "Lcom/example/vesper/vesper/store/Evictor$Scope;" .null := D219 (Or.inl (hw _ (List.mem_of_getElem? (i := 31) rfl))) (ty := (.object "com/example/vesper/vesper/store/Evictor$Scope")) (by decide)
      have F224 : Fld Z h219 a219 "com/example/vesper/vesper/store/Table" "tree" "[I" .null := D219 (Or.inl (hw _ (List.mem_of_getElem? (i := 41) rfl))) (ty := (.array .int)) (by decide)
      have F225 : Fld Z h219 a219 "com/example/vesper/vesper/store/Table" "size" "I" (.int (0 : Int32)) := D219 (Or.inl (hw _ (List.mem_of_getElem? (i := 59) rfl))) (ty := .int) (by decide)
      refine own_go st219 ?_
      show OwnGo p e below _ (T219.setTop (mkF m 40 #[.val (.long q0), .second, .val (.long q1), .second, .val (.int p2), .val (.int p3), .val (.int p4), .val (.int ((p2 &&& (2147483647 : Int32)) % (3 : Int32))), .val (.ref aEXPIRING_KEYS), .unset, .unset, .unset, .unset, .unset, .unset, .unset, .unset, .unset] [(.ref a219)]))
      refine own_go (fun _ k => XS.dup X219.here hx rfl (hb hby at_40) rfl rfl k) ?_
      show OwnGo p e below _ (T219.setTop (mkF m 41 #[.val (.long q0), .second, .val (.long q1), .second, .val (.int p2), .val (.int p3), .val (.int p4), .val (.int ((p2 &&& (2147483647 : Int32)) % (3 : Int32))), .val (.ref aEXPIRING_KEYS), .unset, .unset, .unset, .unset, .unset, .unset, .unset, .unset, .unset] [(.ref a219), (.ref a219)]))
      obtain ⟨T226, h226, X226, e226, E226, A226, D226, -, st226⟩ := newO X219 hx hZ hown (hw _ (List.mem_of_getElem? (i := 7) rfl)) (hw _ (List.mem_of_getElem? (i := 8) rfl)) (hw _ (List.mem_of_getElem? (i := 9) rfl)) e219 (g := (mkF m 41 #[.val (.long q0), .second, .val (.long q1), .second, .val (.int p2), .val (.int p3), .val (.int p4), .val (.int ((p2 &&& (2147483647 : Int32)) % (3 : Int32))), .val (.ref aEXPIRING_KEYS), .unset, .unset, .unset, .unset, .unset, .unset, .unset, .unset, .unset] [(.ref a219), (.ref a219)])) rfl (hb hby at_41) (by decide) (by decide)
      obtain ⟨a226, g226⟩ : ∃ z, z = h219.size := ⟨_, rfl⟩
      rw [← g226] at A226 D226 st226
      have ge226 : n0 ≤ a226 := Nat.le_trans (own_sz O219) (Nat.le_of_eq g226.symm)
      have gh226 : h0.size ≤ a226 := Nat.le_trans z220 (Nat.le_of_eq g226.symm)
      have ne227 : a219 ≠ a226 := own_newne g226 A219.lt
      have O226 := O219.ext E226
      have z228 : h0.size ≤ h226.size := Nat.le_trans z220 E226.1
      have F229 : Fld Z h226 a226 "com/example/vesper/vesper/store/SipHash" "k0" "J" (.long (0 : Int64)) := D226 (Or.inr (hw _ (List.mem_of_getElem? (i := 17) rfl))) (ty := .long) (by decide)
      have F230 : Fld Z h226 a226 "com/example/vesper/vesper/store/SipHash" "k1" "J" (.long (0 : Int64)) := D226 (Or.inr (hw _ (List.mem_of_getElem? (i := 19) rfl))) (ty := .long) (by decide)
      refine own_go st226 ?_
      show OwnGo p e below _ (T226.setTop (mkF m 44 #[.val (.long q0), .second, .val (.long q1), .second, .val (.int p2), .val (.int p3), .val (.int p4), .val (.int ((p2 &&& (2147483647 : Int32)) % (3 : Int32))), .val (.ref aEXPIRING_KEYS), .unset, .unset, .unset, .unset, .unset, .unset, .unset, .unset, .unset] [(.ref a226), (.ref a219), (.ref a219)]))
      refine own_go (fun _ k => XS.dup X226.here hx rfl (hb hby at_44) rfl rfl k) ?_
      show OwnGo p e below _ (T226.setTop (mkF m 45 #[.val (.long q0), .second, .val (.long q1), .second, .val (.int p2), .val (.int p3), .val (.int p4), .val (.int ((p2 &&& (2147483647 : Int32)) % (3 : Int32))), .val (.ref aEXPIRING_KEYS), .unset, .unset, .unset, .unset, .unset, .unset, .unset, .unset, .unset] [(.ref a226), (.ref a226), (.ref a219), (.ref a219)]))
      refine own_go (fun _ k => XS.lloadN X226.here hx rfl (hb hby at_45) rfl k) ?_
      show OwnGo p e below _ (T226.setTop (mkF m 46 #[.val (.long q0), .second, .val (.long q1), .second, .val (.int p2), .val (.int p3), .val (.int p4), .val (.int ((p2 &&& (2147483647 : Int32)) % (3 : Int32))), .val (.ref aEXPIRING_KEYS), .unset, .unset, .unset, .unset, .unset, .unset, .unset, .unset, .unset] [(.long q0), (.ref a226), (.ref a226), (.ref a219), (.ref a219)]))
      refine own_go (fun _ k => XS.lloadN X226.here hx rfl (hb hby at_46) rfl k) ?_
      show OwnGo p e below _ (T226.setTop (mkF m 47 #[.val (.long q0), .second, .val (.long q1), .second, .val (.int p2), .val (.int p3), .val (.int p4), .val (.int ((p2 &&& (2147483647 : Int32)) % (3 : Int32))), .val (.ref aEXPIRING_KEYS), .unset, .unset, .unset, .unset, .unset, .unset, .unset, .unset, .unset] [(.long q1), (.long q0), (.ref a226), (.ref a226), (.ref a219), (.ref a219)]))
      obtain ⟨_, _, ⟨T231, L231, k231, n231⟩, -, X231, ⟨Lc231, hQ231, l231, y231, z231⟩, st231⟩ := X226.specialBack hx (y := (⟨"com/example/vesper/vesper/store/SipHash", "<init>", "(JJ)V"⟩ : MethodName)) rfl hown (mvT hZ (hw _ (List.mem_of_getElem? (i := 10) rfl))) (mvT hZ (hw _ (List.mem_of_getElem? (i := 11) rfl))) (mvT hZ (hw _ (List.mem_of_getElem? (i := 12) rfl))) (by decide) (backOf (W := 3) (rm_sip l Z a0 hw [] aNONE aEXPIRING_KEYS aALL_KEYS F0 a226 q0 q1 h226 n0 O226 F229 F230 A226 ge226) hZ (hw _ (List.mem_of_getElem? (i := 12) rfl)) (hw _ (List.mem_of_getElem? (i := 9) rfl)) (by decide) (by decide)) (g := (mkF m 47 #[.val (.long q0), .second, .val (.long q1), .second, .val (.int p2), .val (.int p3), .val (.int p4), .val (.int ((p2 &&& (2147483647 : Int32)) % (3 : Int32))), .val (.ref aEXPIRING_KEYS), .unset, .unset, .unset, .unset, .unset, .unset, .unset, .unset, .unset] [(.long q1), (.long q0), (.ref a226), (.ref a226), (.ref a219), (.ref a219)])) rfl (by rw [hml]; rfl) (Steps.refl _) (a := a226) (argsL := [(.long q0), (.long q1)]) (rest := [(.ref a226), (.ref a219), (.ref a219)]) (lenOf pd_J_J__V rfl) rfl (by show 2 * 0 + _ ≤ _; exact Nat.le_of_eq rfl) (hb hby at_47) (fun _ _ => ⟨rfl, e226, (by decide : 2 + 0 ≤ _), (by decide : 8 + 0 ≤ _)⟩)
      dsimp only [Pt.U, Pt.locs, Pt.cells, Pt.slots] at X231 l231 y231 z231 st231 hQ231
      subst l231 y231 z231
      obtain ⟨rfl, Nq231, K231⟩ := hQ231
      have N231 := Fr.app N0 Nq231
      have O231 := O226.keep K231 (allS ge226 all0)
      have e231 : T231.heap = T231.heap := rfl
      have z232 : h0.size ≤ T231.heap.size := Nat.le_trans z228 K231.1
      refine own_go (fun _ k => st231.trans k) ?_
      show OwnGo p e below _ (T231.setTop (mkF m 50 #[.val (.long q0), .second, .val (.long q1), .second, .val (.int p2), .val (.int p3), .val (.int p4), .val (.int ((p2 &&& (2147483647 : Int32)) % (3 : Int32))), .val (.ref aEXPIRING_KEYS), .unset, .unset, .unset, .unset, .unset, .unset, .unset, .unset, .unset] [(.ref a226), (.ref a219), (.ref a219)]))
      refine own_go (fun _ k => XS.aload X231.here hx rfl (hb hby at_50) rfl rfl k) ?_
      show OwnGo p e below _ (T231.setTop (mkF m 52 #[.val (.long q0), .second, .val (.long q1), .second, .val (.int p2), .val (.int p3), .val (.int p4), .val (.int ((p2 &&& (2147483647 : Int32)) % (3 : Int32))), .val (.ref aEXPIRING_KEYS), .unset, .unset, .unset, .unset, .unset, .unset, .unset, .unset, .unset] [(.ref aEXPIRING_KEYS), (.ref a226), (.ref a219), (.ref a219)]))
      have F233 := ((F221.ext E226).keep K231 (ninS ne227 nin0))
      have F234 := ((F222.ext E226).keep K231 (ninS ne227 nin0))
      have F235 := ((F223.ext E226).keep K231 (ninS ne227 nin0))
      have F236 := ((F224.ext E226).keep K231 (ninS ne227 nin0))
      have F237 := ((F225.ext E226).keep K231 (ninS ne227 nin0))
      have F238 := ((A219.ext E226).keep K231)
      have F239 := (A226.keep K231)
      obtain ⟨_, _, ⟨T240, L240, k240, n240⟩, -, X240, ⟨Lc240, hQ240, l240, y240, z240⟩, st240⟩ := X231.specialBack hx (y := (⟨"com/example/vesper/vesper/store/Table", "<init>", "(Lcom/example/vesper/vesper/store/SipHash;Lcom/example/vesper/vesper/store/Evictor$Scope;)V"⟩ : MethodName)) rfl hown (mvT hZ (hw _ (List.mem_of_getElem? (i := 20) rfl))) (mvT hZ (hw _ (List.mem_of_getElem? (i := 21) rfl))) (mvT hZ (hw _ (List.mem_of_getElem? (i := 22) rfl))) (by decide) (backOf (W := 1) (rm_ti2 l Z a0 hw [] aNONE aEXPIRING_KEYS aALL_KEYS F0 a219 a226 T231.heap n0 O231 F233 F234 F235 F236 F237 F238 ge219) hZ (hw _ (List.mem_of_getElem? (i := 22) rfl)) (hw _ (List.mem_of_getElem? (i := 6) rfl)) (by decide) (by decide)) (g := (mkF m 52 #[.val (.long q0), .second, .val (.long q1), .second, .val (.int p2), .val (.int p3), .val (.int p4), .val (.int ((p2 &&& (2147483647 : Int32)) % (3 : Int32))), .val (.ref aEXPIRING_KEYS), .unset, .unset, .unset, .unset, .unset, .unset, .unset, .unset, .unset] [(.ref aEXPIRING_KEYS), (.ref a226), (.ref a219), (.ref a219)])) rfl (by rw [hml]; rfl) (Steps.refl _) (a := a219) (argsL := [(.ref a226), (.ref aEXPIRING_KEYS)]) (rest := [(.ref a219)]) (lenOf pd_Lcom_example_vesper_vesper_store_SipHash__Lcom_example_vesper_vesper_store_Evictor_Scope___V rfl) rfl (by show 2 * 0 + _ ≤ _; exact Nat.le_of_eq rfl) (hb hby at_52) (fun _ _ => ⟨rfl, e231, (by decide : 2 + 2 ≤ _), (by decide : 8 + 18 ≤ _)⟩)
      dsimp only [Pt.U, Pt.locs, Pt.cells, Pt.slots] at X240 l240 y240 z240 st240 hQ240
      subst l240 y240 z240
      obtain ⟨r9_240, k9_240, rfl, Nq240, K240, x240_0, x240_1, x240_2, x240_3⟩ := hQ240
      have N240 := Fr.app N231 Nq240
      have O240 := O231.keep K240 (allS ge219 all0)
      have e240 : T240.heap = T240.heap := rfl
      have z241 : h0.size ≤ T240.heap.size := Nat.le_trans z232 K240.1
      have gex240_3 : n0 ≤ r9_240 := Nat.le_trans (own_sz O231) x240_3
      have ghx240_3 : h0.size ≤ r9_240 := Nat.le_trans z232 x240_3
      have ne242 : a219 ≠ r9_240 := own_newlt F238.lt x240_3
      have ne243 : a226 ≠ r9_240 := own_newlt F239.lt x240_3
      refine own_go (fun _ k => st240.trans k) ?_
      show OwnGo p e below _ (T240.setTop (mkF m 55 #[.val (.long q0), .second, .val (.long q1), .second, .val (.int p2), .val (.int p3), .val (.int p4), .val (.int ((p2 &&& (2147483647 : Int32)) % (3 : Int32))), .val (.ref aEXPIRING_KEYS), .unset, .unset, .unset, .unset, .unset, .unset, .unset, .unset, .unset] [(.ref a219)]))
      refine own_go (fun _ k => XS.astore X240.here hx rfl (hb hby at_55) rfl rfl (l' := #[.val (.long q0), .second, .val (.long q1), .second, .val (.int p2), .val (.int p3), .val (.int p4), .val (.int ((p2 &&& (2147483647 : Int32)) % (3 : Int32))), .val (.ref aEXPIRING_KEYS), .val (.ref a219), .unset, .unset, .unset, .unset, .unset, .unset, .unset, .unset]) rfl k) ?_
      show OwnGo p e below _ (T240.setTop (mkF m 57 #[.val (.long q0), .second, .val (.long q1), .second, .val (.int p2), .val (.int p3), .val (.int p4), .val (.int ((p2 &&& (2147483647 : Int32)) % (3 : Int32))), .val (.ref aEXPIRING_KEYS), .val (.ref a219), .unset, .unset, .unset, .unset, .unset, .unset, .unset, .unset] []))
      refine own_go (fun _ k => XS.iload X240.here hx rfl (hb hby at_57) rfl k) ?_
      show OwnGo p e below _ (T240.setTop (mkF m 59 #[.val (.long q0), .second, .val (.long q1), .second, .val (.int p2), .val (.int p3), .val (.int p4), .val (.int ((p2 &&& (2147483647 : Int32)) % (3 : Int32))), .val (.ref aEXPIRING_KEYS), .val (.ref a219), .unset, .unset, .unset, .unset, .unset, .unset, .unset, .unset] [(.int p3)]))
      refine own_go (fun _ k => XS.iload X240.here hx rfl (hb hby at_59) rfl k) ?_
      show OwnGo p e below _ (T240.setTop (mkF m 61 #[.val (.long q0), .second, .val (.long q1), .second, .val (.int p2), .val (.int p3), .val (.int p4), .val (.int ((p2 &&& (2147483647 : Int32)) % (3 : Int32))), .val (.ref aEXPIRING_KEYS), .val (.ref a219), .unset, .unset, .unset, .unset, .unset, .unset, .unset, .unset] [(.int p4), (.int p3)]))
      refine own_go (fun _ k => XS.bipush X240.here hx rfl (hb hby at_61) k) ?_
      show OwnGo p e below _ (T240.setTop (mkF m 63 #[.val (.long q0), .second, .val (.long q1), .second, .val (.int p2), .val (.int p3), .val (.int p4), .val (.int ((p2 &&& (2147483647 : Int32)) % (3 : Int32))), .val (.ref aEXPIRING_KEYS), .val (.ref a219), .unset, .unset, .unset, .unset, .unset, .unset, .unset, .unset] [(.int (31 : Int32)), (.int p4), (.int p3)]))
      refine own_go (fun _ k => XS.iand X240.here hx rfl (hb hby at_63) rfl k) ?_
      show OwnGo p e below _ (T240.setTop (mkF m 64 #[.val (.long q0), .second, .val (.long q1), .second, .val (.int p2), .val (.int p3), .val (.int p4), .val (.int ((p2 &&& (2147483647 : Int32)) % (3 : Int32))), .val (.ref aEXPIRING_KEYS), .val (.ref a219), .unset, .unset, .unset, .unset, .unset, .unset, .unset, .unset] [(.int (p4 &&& (31 : Int32))), (.int p3)]))
      refine own_go (fun _ k => XS.ishr X240.here hx rfl (hb hby at_64) rfl k) ?_
      show OwnGo p e below _ (T240.setTop (mkF m 65 #[.val (.long q0), .second, .val (.long q1), .second, .val (.int p2), .val (.int p3), .val (.int p4), .val (.int ((p2 &&& (2147483647 : Int32)) % (3 : Int32))), .val (.ref aEXPIRING_KEYS), .val (.ref a219), .unset, .unset, .unset, .unset, .unset, .unset, .unset, .unset] [(.int ((p3 >>> ((p4 &&& (31 : Int32)) &&& 31))))]))
      obtain ⟨en, hen⟩ : ∃ z, z = ((p3 >>> ((p4 &&& (31 : Int32)) &&& 31))) := ⟨_, rfl⟩
      rw [← hen]
      show OwnGo p e below _ (T240.setTop (mkF m 65 #[.val (.long q0), .second, .val (.long q1), .second, .val (.int p2), .val (.int p3), .val (.int p4), .val (.int ((p2 &&& (2147483647 : Int32)) % (3 : Int32))), .val (.ref aEXPIRING_KEYS), .val (.ref a219), .unset, .unset, .unset, .unset, .unset, .unset, .unset, .unset] [(.int en)]))
      refine own_go (fun _ k => XS.istore X240.here hx rfl (hb hby at_65) rfl (l' := #[.val (.long q0), .second, .val (.long q1), .second, .val (.int p2), .val (.int p3), .val (.int p4), .val (.int ((p2 &&& (2147483647 : Int32)) % (3 : Int32))), .val (.ref aEXPIRING_KEYS), .val (.ref a219), .val (.int en), .unset, .unset, .unset, .unset, .unset, .unset, .unset]) rfl k) ?_
      show OwnGo p e below _ (T240.setTop (mkF m 67 #[.val (.long q0), .second, .val (.long q1), .second, .val (.int p2), .val (.int p3), .val (.int p4), .val (.int ((p2 &&& (2147483647 : Int32)) % (3 : Int32))), .val (.ref aEXPIRING_KEYS), .val (.ref a219), .val (.int en), .unset, .unset, .unset, .unset, .unset, .unset, .unset] []))
      refine own_go (fun _ k => XS.aload X240.here hx rfl (hb hby at_67) rfl rfl k) ?_
      show OwnGo p e below _ (T240.setTop (mkF m 69 #[.val (.long q0), .second, .val (.long q1), .second, .val (.int p2), .val (.int p3), .val (.int p4), .val (.int ((p2 &&& (2147483647 : Int32)) % (3 : Int32))), .val (.ref aEXPIRING_KEYS), .val (.ref a219), .val (.int en), .unset, .unset, .unset, .unset, .unset, .unset, .unset] [(.ref a219)]))
      refine own_go (fun _ k => XS.iload X240.here hx rfl (hb hby at_69) rfl k) ?_
      show OwnGo p e below _ (T240.setTop (mkF m 71 #[.val (.long q0), .second, .val (.long q1), .second, .val (.int p2), .val (.int p3), .val (.int p4), .val (.int ((p2 &&& (2147483647 : Int32)) % (3 : Int32))), .val (.ref aEXPIRING_KEYS), .val (.ref a219), .val (.int en), .unset, .unset, .unset, .unset, .unset, .unset, .unset] [(.int en), (.ref a219)]))
      have F244 := (F238.keep K240)
      obtain ⟨cq245, kq245, qa245, qb245, qc245⟩ := isOf hZ e240 F244
      obtain ⟨_, _, ⟨T245, L245, k245, n245⟩, -, X245, ⟨Lc245, hQ245, l245, y245, z245⟩, st245⟩ := X240.virtualBack hx (y := (⟨"com/example/vesper/vesper/store/Table", "bucketsFor", "(I)I"⟩ : MethodName)) (z := (⟨"com/example/vesper/vesper/store/Table", "bucketsFor", "(I)I"⟩ : MethodName)) hown (mvT hZ (hw _ (List.mem_of_getElem? (i := 42) rfl))) (mvT hZ (hw _ (List.mem_of_getElem? (i := 43) rfl))) (notFace_of_selects (args := #[]) (mvT hZ (hw _ (List.mem_of_getElem? (i := 45) rfl)))) (mvT hZ (hw _ (List.mem_of_getElem? (i := 45) rfl))) (mvT hZ (hw _ (List.mem_of_getElem? (i := 44) rfl))) (by decide) (backOf (W := 0) (rm_bf l Z a0 hw [] aNONE aEXPIRING_KEYS aALL_KEYS F0 a219 en r9_240 k9_240 (own_bf en) T240.heap n0 O240 x240_0 x240_2 rfl) hZ (hw _ (List.mem_of_getElem? (i := 46) rfl)) (hw _ (List.mem_of_getElem? (i := 6) rfl)) (by decide) (by decide)) qa245 qc245 (g := (mkF m 71 #[.val (.long q0), .second, .val (.long q1), .second, .val (.int p2), .val (.int p3), .val (.int p4), .val (.int ((p2 &&& (2147483647 : Int32)) % (3 : Int32))), .val (.ref aEXPIRING_KEYS), .val (.ref a219), .val (.int en), .unset, .unset, .unset, .unset, .unset, .unset, .unset] [(.int en), (.ref a219)])) rfl (by rw [hml]; rfl) (Steps.refl _) (argsL := [(.int en)]) (rest := []) (lenOf pd_I__I rfl) rfl (by show 2 * 0 + _ ≤ _; exact Nat.le_of_eq rfl) (hb hby at_71) (fun _ _ => ⟨rfl, e240, (by decide : 4 + 0 ≤ _), (by decide : 26 + 0 ≤ _)⟩)
      dsimp only [Pt.U, Pt.locs, Pt.cells, Pt.slots] at X245 l245 y245 z245 st245 hQ245
      subst l245 y245 z245
      obtain ⟨rfl, Nq245, K245⟩ := hQ245
      have N245 := Fr.app N240 Nq245
      refine own_go (fun _ k => st245.trans k) ?_
      show OwnGo p e below _ (T245.setTop (mkF m 74 #[.val (.long q0), .second, .val (.long q1), .second, .val (.int p2), .val (.int p3), .val (.int p4), .val (.int ((p2 &&& (2147483647 : Int32)) % (3 : Int32))), .val (.ref aEXPIRING_KEYS), .val (.ref a219), .val (.int en), .unset, .unset, .unset, .unset, .unset, .unset, .unset] [(.int (own_bf en))]))
      refine own_go (fun _ k => XS.istore X245.here hx rfl (hb hby at_74) rfl (l' := #[.val (.long q0), .second, .val (.long q1), .second, .val (.int p2), .val (.int p3), .val (.int p4), .val (.int ((p2 &&& (2147483647 : Int32)) % (3 : Int32))), .val (.ref aEXPIRING_KEYS), .val (.ref a219), .val (.int en), .val (.int (own_bf en)), .unset, .unset, .unset, .unset, .unset, .unset]) rfl k) ?_
      show OwnGo p e below _ (T245.setTop (mkF m 76 #[.val (.long q0), .second, .val (.long q1), .second, .val (.int p2), .val (.int p3), .val (.int p4), .val (.int ((p2 &&& (2147483647 : Int32)) % (3 : Int32))), .val (.ref aEXPIRING_KEYS), .val (.ref a219), .val (.int en), .val (.int (own_bf en)), .unset, .unset, .unset, .unset, .unset, .unset] []))
      refine own_go (fun _ k => Jvm.Stand.ldcI X245 hx hown (mvT hZ (hw _ (List.mem_of_getElem? (i := 47) rfl))) rfl (hb hby at_76) k) ?_
      show OwnGo p e below _ (T245.setTop (mkF m 78 #[.val (.long q0), .second, .val (.long q1), .second, .val (.int p2), .val (.int p3), .val (.int p4), .val (.int ((p2 &&& (2147483647 : Int32)) % (3 : Int32))), .val (.ref aEXPIRING_KEYS), .val (.ref a219), .val (.int en), .val (.int (own_bf en)), .unset, .unset, .unset, .unset, .unset, .unset] [(.int (1073741824 : Int32))]))
      refine own_go (fun _ k => XS.istore X245.here hx rfl (hb hby at_78) rfl (l' := #[.val (.long q0), .second, .val (.long q1), .second, .val (.int p2), .val (.int p3), .val (.int p4), .val (.int ((p2 &&& (2147483647 : Int32)) % (3 : Int32))), .val (.ref aEXPIRING_KEYS), .val (.ref a219), .val (.int en), .val (.int (own_bf en)), .val (.int (1073741824 : Int32)), .unset, .unset, .unset, .unset, .unset]) rfl k) ?_
      show OwnGo p e below _ (T245.setTop (mkF m 80 #[.val (.long q0), .second, .val (.long q1), .second, .val (.int p2), .val (.int p3), .val (.int p4), .val (.int ((p2 &&& (2147483647 : Int32)) % (3 : Int32))), .val (.ref aEXPIRING_KEYS), .val (.ref a219), .val (.int en), .val (.int (own_bf en)), .val (.int (1073741824 : Int32)), .unset, .unset, .unset, .unset, .unset] []))
      refine own_go (fun _ k => XS.iload X245.here hx rfl (hb hby at_80) rfl k) ?_
      show OwnGo p e below _ (T245.setTop (mkF m 82 #[.val (.long q0), .second, .val (.long q1), .second, .val (.int p2), .val (.int p3), .val (.int p4), .val (.int ((p2 &&& (2147483647 : Int32)) % (3 : Int32))), .val (.ref aEXPIRING_KEYS), .val (.ref a219), .val (.int en), .val (.int (own_bf en)), .val (.int (1073741824 : Int32)), .unset, .unset, .unset, .unset, .unset] [(.int (own_bf en))]))
      refine own_go (fun _ k => XS.ifNo X245.here hx rfl (hb hby at_82) rfl ((if0 _ _).trans (tlt (own_bf_spec en).1).2.2.2) k) ?_
      show OwnGo p e below _ (T245.setTop (mkF m 85 #[.val (.long q0), .second, .val (.long q1), .second, .val (.int p2), .val (.int p3), .val (.int p4), .val (.int ((p2 &&& (2147483647 : Int32)) % (3 : Int32))), .val (.ref aEXPIRING_KEYS), .val (.ref a219), .val (.int en), .val (.int (own_bf en)), .val (.int (1073741824 : Int32)), .unset, .unset, .unset, .unset, .unset] []))
      refine own_go (fun _ k => XS.iload X245.here hx rfl (hb hby at_85) rfl k) ?_
      show OwnGo p e below _ (T245.setTop (mkF m 87 #[.val (.long q0), .second, .val (.long q1), .second, .val (.int p2), .val (.int p3), .val (.int p4), .val (.int ((p2 &&& (2147483647 : Int32)) % (3 : Int32))), .val (.ref aEXPIRING_KEYS), .val (.ref a219), .val (.int en), .val (.int (own_bf en)), .val (.int (1073741824 : Int32)), .unset, .unset, .unset, .unset, .unset] [(.int (own_bf en))]))
      refine own_go (fun _ k => XS.iload X245.here hx rfl (hb hby at_87) rfl k) ?_
      show OwnGo p e below _ (T245.setTop (mkF m 89 #[.val (.long q0), .second, .val (.long q1), .second, .val (.int p2), .val (.int p3), .val (.int p4), .val (.int ((p2 &&& (2147483647 : Int32)) % (3 : Int32))), .val (.ref aEXPIRING_KEYS), .val (.ref a219), .val (.int en), .val (.int (own_bf en)), .val (.int (1073741824 : Int32)), .unset, .unset, .unset, .unset, .unset] [(.int (own_bf en)), (.int (own_bf en))]))
      refine own_go (fun _ k => XS.iconst X245.here hx rfl (hb hby at_89) k) ?_
      show OwnGo p e below _ (T245.setTop (mkF m 90 #[.val (.long q0), .second, .val (.long q1), .second, .val (.int p2), .val (.int p3), .val (.int p4), .val (.int ((p2 &&& (2147483647 : Int32)) % (3 : Int32))), .val (.ref aEXPIRING_KEYS), .val (.ref a219), .val (.int en), .val (.int (own_bf en)), .val (.int (1073741824 : Int32)), .unset, .unset, .unset, .unset, .unset] [(.int (1 : Int32)), (.int (own_bf en)), (.int (own_bf en))]))
      refine own_go (fun _ k => XS.isub X245.here hx rfl (hb hby at_90) rfl k) ?_
      show OwnGo p e below _ (T245.setTop (mkF m 91 #[.val (.long q0), .second, .val (.long q1), .second, .val (.int p2), .val (.int p3), .val (.int p4), .val (.int ((p2 &&& (2147483647 : Int32)) % (3 : Int32))), .val (.ref aEXPIRING_KEYS), .val (.ref a219), .val (.int en), .val (.int (own_bf en)), .val (.int (1073741824 : Int32)), .unset, .unset, .unset, .unset, .unset] [(.int ((own_bf en) - (1 : Int32))), (.int (own_bf en))]))
      refine own_go (fun _ k => XS.iand X245.here hx rfl (hb hby at_91) rfl k) ?_
      show OwnGo p e below _ (T245.setTop (mkF m 92 #[.val (.long q0), .second, .val (.long q1), .second, .val (.int p2), .val (.int p3), .val (.int p4), .val (.int ((p2 &&& (2147483647 : Int32)) % (3 : Int32))), .val (.ref aEXPIRING_KEYS), .val (.ref a219), .val (.int en), .val (.int (own_bf en)), .val (.int (1073741824 : Int32)), .unset, .unset, .unset, .unset, .unset] [(.int ((own_bf en) &&& ((own_bf en) - (1 : Int32))))]))
      refine own_go (fun _ k => XS.ifNo X245.here hx rfl (hb hby at_92) rfl ((if0 _ _).trans (teq (own_bf_spec en).2.1).2) k) ?_
      show OwnGo p e below _ (T245.setTop (mkF m 95 #[.val (.long q0), .second, .val (.long q1), .second, .val (.int p2), .val (.int p3), .val (.int p4), .val (.int ((p2 &&& (2147483647 : Int32)) % (3 : Int32))), .val (.ref aEXPIRING_KEYS), .val (.ref a219), .val (.int en), .val (.int (own_bf en)), .val (.int (1073741824 : Int32)), .unset, .unset, .unset, .unset, .unset] []))
      refine own_go (fun _ k => XS.iconst X245.here hx rfl (hb hby at_95) k) ?_
      show OwnGo p e below _ (T245.setTop (mkF m 96 #[.val (.long q0), .second, .val (.long q1), .second, .val (.int p2), .val (.int p3), .val (.int p4), .val (.int ((p2 &&& (2147483647 : Int32)) % (3 : Int32))), .val (.ref aEXPIRING_KEYS), .val (.ref a219), .val (.int en), .val (.int (own_bf en)), .val (.int (1073741824 : Int32)), .unset, .unset, .unset, .unset, .unset] [(.int (1 : Int32))]))
      refine own_go (fun _ k => XS.goto X245.here hx rfl (pc0 := 96) (pc' := 100) rfl (hb hby at_96) (by decide) (by decide) k) ?_
      show OwnGo p e below _ (T245.setTop (mkF m 100 #[.val (.long q0), .second, .val (.long q1), .second, .val (.int p2), .val (.int p3), .val (.int p4), .val (.int ((p2 &&& (2147483647 : Int32)) % (3 : Int32))), .val (.ref aEXPIRING_KEYS), .val (.ref a219), .val (.int en), .val (.int (own_bf en)), .val (.int (1073741824 : Int32)), .unset, .unset, .unset, .unset, .unset] [(.int (1 : Int32))]))
      refine own_go (fun _ k => XS.istore X245.here hx rfl (hb hby at_100) rfl (l' := #[.val (.long q0), .second, .val (.long q1), .second, .val (.int p2), .val (.int p3), .val (.int p4), .val (.int ((p2 &&& (2147483647 : Int32)) % (3 : Int32))), .val (.ref aEXPIRING_KEYS), .val (.ref a219), .val (.int en), .val (.int (own_bf en)), .val (.int (1073741824 : Int32)), .val (.int (1 : Int32)), .unset, .unset, .unset, .unset]) rfl k) ?_
      show OwnGo p e below _ (T245.setTop (mkF m 102 #[.val (.long q0), .second, .val (.long q1), .second, .val (.int p2), .val (.int p3), .val (.int p4), .val (.int ((p2 &&& (2147483647 : Int32)) % (3 : Int32))), .val (.ref aEXPIRING_KEYS), .val (.ref a219), .val (.int en), .val (.int (own_bf en)), .val (.int (1073741824 : Int32)), .val (.int (1 : Int32)), .unset, .unset, .unset, .unset] []))
      refine own_go (fun _ k => XS.iload X245.here hx rfl (hb hby at_102) rfl k) ?_
      show OwnGo p e below _ (T245.setTop (mkF m 104 #[.val (.long q0), .second, .val (.long q1), .second, .val (.int p2), .val (.int p3), .val (.int p4), .val (.int ((p2 &&& (2147483647 : Int32)) % (3 : Int32))), .val (.ref aEXPIRING_KEYS), .val (.ref a219), .val (.int en), .val (.int (own_bf en)), .val (.int (1073741824 : Int32)), .val (.int (1 : Int32)), .unset, .unset, .unset, .unset] [(.int (own_bf en))]))
      refine own_go (fun _ k => XS.bipush X245.here hx rfl (hb hby at_104) k) ?_
      show OwnGo p e below _ (T245.setTop (mkF m 106 #[.val (.long q0), .second, .val (.long q1), .second, .val (.int p2), .val (.int p3), .val (.int p4), .val (.int ((p2 &&& (2147483647 : Int32)) % (3 : Int32))), .val (.ref aEXPIRING_KEYS), .val (.ref a219), .val (.int en), .val (.int (own_bf en)), .val (.int (1073741824 : Int32)), .val (.int (1 : Int32)), .unset, .unset, .unset, .unset] [(.int (16 : Int32)), (.int (own_bf en))]))
      refine own_go (fun _ k => XS.icmpNo X245.here hx rfl (hb hby at_106) rfl (flt (own_bf_spec en).2.2.1).1 k) ?_
      show OwnGo p e below _ (T245.setTop (mkF m 109 #[.val (.long q0), .second, .val (.long q1), .second, .val (.int p2), .val (.int p3), .val (.int p4), .val (.int ((p2 &&& (2147483647 : Int32)) % (3 : Int32))), .val (.ref aEXPIRING_KEYS), .val (.ref a219), .val (.int en), .val (.int (own_bf en)), .val (.int (1073741824 : Int32)), .val (.int (1 : Int32)), .unset, .unset, .unset, .unset] []))
      refine own_go (fun _ k => XS.iload X245.here hx rfl (hb hby at_109) rfl k) ?_
      show OwnGo p e below _ (T245.setTop (mkF m 111 #[.val (.long q0), .second, .val (.long q1), .second, .val (.int p2), .val (.int p3), .val (.int p4), .val (.int ((p2 &&& (2147483647 : Int32)) % (3 : Int32))), .val (.ref aEXPIRING_KEYS), .val (.ref a219), .val (.int en), .val (.int (own_bf en)), .val (.int (1073741824 : Int32)), .val (.int (1 : Int32)), .unset, .unset, .unset, .unset] [(.int (own_bf en))]))
      refine own_go (fun _ k => XS.iload X245.here hx rfl (hb hby at_111) rfl k) ?_
      show OwnGo p e below _ (T245.setTop (mkF m 113 #[.val (.long q0), .second, .val (.long q1), .second, .val (.int p2), .val (.int p3), .val (.int p4), .val (.int ((p2 &&& (2147483647 : Int32)) % (3 : Int32))), .val (.ref aEXPIRING_KEYS), .val (.ref a219), .val (.int en), .val (.int (own_bf en)), .val (.int (1073741824 : Int32)), .val (.int (1 : Int32)), .unset, .unset, .unset, .unset] [(.int (1073741824 : Int32)), (.int (own_bf en))]))
      refine own_go (fun _ k => XS.icmpNo X245.here hx rfl (hb hby at_113) rfl (flt (own_bf_spec en).2.2.2.1).2.2.1 k) ?_
      show OwnGo p e below _ (T245.setTop (mkF m 116 #[.val (.long q0), .second, .val (.long q1), .second, .val (.int p2), .val (.int p3), .val (.int p4), .val (.int ((p2 &&& (2147483647 : Int32)) % (3 : Int32))), .val (.ref aEXPIRING_KEYS), .val (.ref a219), .val (.int en), .val (.int (own_bf en)), .val (.int (1073741824 : Int32)), .val (.int (1 : Int32)), .unset, .unset, .unset, .unset] []))
      refine own_go (fun _ k => XS.iconst X245.here hx rfl (hb hby at_116) k) ?_
      show OwnGo p e below _ (T245.setTop (mkF m 117 #[.val (.long q0), .second, .val (.long q1), .second, .val (.int p2), .val (.int p3), .val (.int p4), .val (.int ((p2 &&& (2147483647 : Int32)) % (3 : Int32))), .val (.ref aEXPIRING_KEYS), .val (.ref a219), .val (.int en), .val (.int (own_bf en)), .val (.int (1073741824 : Int32)), .val (.int (1 : Int32)), .unset, .unset, .unset, .unset] [(.int (1 : Int32))]))
      refine own_go (fun _ k => XS.goto X245.here hx rfl (pc0 := 117) (pc' := 121) rfl (hb hby at_117) (by decide) (by decide) k) ?_
      show OwnGo p e below _ (T245.setTop (mkF m 121 #[.val (.long q0), .second, .val (.long q1), .second, .val (.int p2), .val (.int p3), .val (.int p4), .val (.int ((p2 &&& (2147483647 : Int32)) % (3 : Int32))), .val (.ref aEXPIRING_KEYS), .val (.ref a219), .val (.int en), .val (.int (own_bf en)), .val (.int (1073741824 : Int32)), .val (.int (1 : Int32)), .unset, .unset, .unset, .unset] [(.int (1 : Int32))]))
      refine own_go (fun _ k => XS.istore X245.here hx rfl (hb hby at_121) rfl (l' := #[.val (.long q0), .second, .val (.long q1), .second, .val (.int p2), .val (.int p3), .val (.int p4), .val (.int ((p2 &&& (2147483647 : Int32)) % (3 : Int32))), .val (.ref aEXPIRING_KEYS), .val (.ref a219), .val (.int en), .val (.int (own_bf en)), .val (.int (1073741824 : Int32)), .val (.int (1 : Int32)), .val (.int (1 : Int32)), .unset, .unset, .unset]) rfl k) ?_
      show OwnGo p e below _ (T245.setTop (mkF m 123 #[.val (.long q0), .second, .val (.long q1), .second, .val (.int p2), .val (.int p3), .val (.int p4), .val (.int ((p2 &&& (2147483647 : Int32)) % (3 : Int32))), .val (.ref aEXPIRING_KEYS), .val (.ref a219), .val (.int en), .val (.int (own_bf en)), .val (.int (1073741824 : Int32)), .val (.int (1 : Int32)), .val (.int (1 : Int32)), .unset, .unset, .unset] []))
      refine own_go (fun _ k => XS.iload X245.here hx rfl (hb hby at_123) rfl k) ?_
      show OwnGo p e below _ (T245.setTop (mkF m 125 #[.val (.long q0), .second, .val (.long q1), .second, .val (.int p2), .val (.int p3), .val (.int p4), .val (.int ((p2 &&& (2147483647 : Int32)) % (3 : Int32))), .val (.ref aEXPIRING_KEYS), .val (.ref a219), .val (.int en), .val (.int (own_bf en)), .val (.int (1073741824 : Int32)), .val (.int (1 : Int32)), .val (.int (1 : Int32)), .unset, .unset, .unset] [(.int en)]))
      refine own_go (fun _ k => XS.iload X245.here hx rfl (hb hby at_125) rfl k) ?_
      show OwnGo p e below _ (T245.setTop (mkF m 127 #[.val (.long q0), .second, .val (.long q1), .second, .val (.int p2), .val (.int p3), .val (.int p4), .val (.int ((p2 &&& (2147483647 : Int32)) % (3 : Int32))), .val (.ref aEXPIRING_KEYS), .val (.ref a219), .val (.int en), .val (.int (own_bf en)), .val (.int (1073741824 : Int32)), .val (.int (1 : Int32)), .val (.int (1 : Int32)), .unset, .unset, .unset] [(.int (own_bf en)), (.int en)]))
      refine own_go (fun _ k => XS.iconst X245.here hx rfl (hb hby at_127) k) ?_
      show OwnGo p e below _ (T245.setTop (mkF m 128 #[.val (.long q0), .second, .val (.long q1), .second, .val (.int p2), .val (.int p3), .val (.int p4), .val (.int ((p2 &&& (2147483647 : Int32)) % (3 : Int32))), .val (.ref aEXPIRING_KEYS), .val (.ref a219), .val (.int en), .val (.int (own_bf en)), .val (.int (1073741824 : Int32)), .val (.int (1 : Int32)), .val (.int (1 : Int32)), .unset, .unset, .unset] [(.int (4 : Int32)), (.int (own_bf en)), (.int en)]))
      refine own_go (fun _ k => XS.idiv X245.here hx rfl (hb hby at_128) rfl (by decide) k) ?_
      show OwnGo p e below _ (T245.setTop (mkF m 129 #[.val (.long q0), .second, .val (.long q1), .second, .val (.int p2), .val (.int p3), .val (.int p4), .val (.int ((p2 &&& (2147483647 : Int32)) % (3 : Int32))), .val (.ref aEXPIRING_KEYS), .val (.ref a219), .val (.int en), .val (.int (own_bf en)), .val (.int (1073741824 : Int32)), .val (.int (1 : Int32)), .val (.int (1 : Int32)), .unset, .unset, .unset] [(.int ((own_bf en) / (4 : Int32))), (.int en)]))
      refine own_go (fun _ k => XS.iconst X245.here hx rfl (hb hby at_129) k) ?_
      show OwnGo p e below _ (T245.setTop (mkF m 130 #[.val (.long q0), .second, .val (.long q1), .second, .val (.int p2), .val (.int p3), .val (.int p4), .val (.int ((p2 &&& (2147483647 : Int32)) % (3 : Int32))), .val (.ref aEXPIRING_KEYS), .val (.ref a219), .val (.int en), .val (.int (own_bf en)), .val (.int (1073741824 : Int32)), .val (.int (1 : Int32)), .val (.int (1 : Int32)), .unset, .unset, .unset] [(.int (3 : Int32)), (.int ((own_bf en) / (4 : Int32))), (.int en)]))
      refine own_go (fun _ k => XS.imul X245.here hx rfl (hb hby at_130) rfl k) ?_
      show OwnGo p e below _ (T245.setTop (mkF m 131 #[.val (.long q0), .second, .val (.long q1), .second, .val (.int p2), .val (.int p3), .val (.int p4), .val (.int ((p2 &&& (2147483647 : Int32)) % (3 : Int32))), .val (.ref aEXPIRING_KEYS), .val (.ref a219), .val (.int en), .val (.int (own_bf en)), .val (.int (1073741824 : Int32)), .val (.int (1 : Int32)), .val (.int (1 : Int32)), .unset, .unset, .unset] [(.int (((own_bf en) / (4 : Int32)) * (3 : Int32))), (.int en)]))
      by_cases hc246 : (((own_bf en) / (4 : Int32)) * (3 : Int32)) < en
      · refine own_go (fun _ k => XS.icmpNo X245.here hx rfl (hb hby at_131) rfl (tlt hc246).2.2.2 k) ?_
        show OwnGo p e below _ (T245.setTop (mkF m 134 #[.val (.long q0), .second, .val (.long q1), .second, .val (.int p2), .val (.int p3), .val (.int p4), .val (.int ((p2 &&& (2147483647 : Int32)) % (3 : Int32))), .val (.ref aEXPIRING_KEYS), .val (.ref a219), .val (.int en), .val (.int (own_bf en)), .val (.int (1073741824 : Int32)), .val (.int (1 : Int32)), .val (.int (1 : Int32)), .unset, .unset, .unset] []))
        refine own_go (fun _ k => XS.iload X245.here hx rfl (hb hby at_134) rfl k) ?_
        show OwnGo p e below _ (T245.setTop (mkF m 136 #[.val (.long q0), .second, .val (.long q1), .second, .val (.int p2), .val (.int p3), .val (.int p4), .val (.int ((p2 &&& (2147483647 : Int32)) % (3 : Int32))), .val (.ref aEXPIRING_KEYS), .val (.ref a219), .val (.int en), .val (.int (own_bf en)), .val (.int (1073741824 : Int32)), .val (.int (1 : Int32)), .val (.int (1 : Int32)), .unset, .unset, .unset] [(.int (own_bf en))]))
        refine own_go (fun _ k => XS.iload X245.here hx rfl (hb hby at_136) rfl k) ?_
        show OwnGo p e below _ (T245.setTop (mkF m 138 #[.val (.long q0), .second, .val (.long q1), .second, .val (.int p2), .val (.int p3), .val (.int p4), .val (.int ((p2 &&& (2147483647 : Int32)) % (3 : Int32))), .val (.ref aEXPIRING_KEYS), .val (.ref a219), .val (.int en), .val (.int (own_bf en)), .val (.int (1073741824 : Int32)), .val (.int (1 : Int32)), .val (.int (1 : Int32)), .unset, .unset, .unset] [(.int (1073741824 : Int32)), (.int (own_bf en))]))
        refine own_go (fun _ k => XS.icmpNo X245.here hx rfl (hb hby at_138) rfl (teq ((own_bf_spec en).2.2.2.2.1 hc246)).2 k) ?_
        show OwnGo p e below _ (T245.setTop (mkF m 141 #[.val (.long q0), .second, .val (.long q1), .second, .val (.int p2), .val (.int p3), .val (.int p4), .val (.int ((p2 &&& (2147483647 : Int32)) % (3 : Int32))), .val (.ref aEXPIRING_KEYS), .val (.ref a219), .val (.int en), .val (.int (own_bf en)), .val (.int (1073741824 : Int32)), .val (.int (1 : Int32)), .val (.int (1 : Int32)), .unset, .unset, .unset] []))
        refine own_go (fun _ k => XS.iconst X245.here hx rfl (hb hby at_141) k) ?_
        show OwnGo p e below _ (T245.setTop (mkF m 142 #[.val (.long q0), .second, .val (.long q1), .second, .val (.int p2), .val (.int p3), .val (.int p4), .val (.int ((p2 &&& (2147483647 : Int32)) % (3 : Int32))), .val (.ref aEXPIRING_KEYS), .val (.ref a219), .val (.int en), .val (.int (own_bf en)), .val (.int (1073741824 : Int32)), .val (.int (1 : Int32)), .val (.int (1 : Int32)), .unset, .unset, .unset] [(.int (1 : Int32))]))
        refine own_go (fun _ k => XS.goto X245.here hx rfl (pc0 := 142) (pc' := 146) rfl (hb hby at_142) (by decide) (by decide) k) ?_
        show OwnGo p e below _ (T245.setTop (mkF m 146 #[.val (.long q0), .second, .val (.long q1), .second, .val (.int p2), .val (.int p3), .val (.int p4), .val (.int ((p2 &&& (2147483647 : Int32)) % (3 : Int32))), .val (.ref aEXPIRING_KEYS), .val (.ref a219), .val (.int en), .val (.int (own_bf en)), .val (.int (1073741824 : Int32)), .val (.int (1 : Int32)), .val (.int (1 : Int32)), .unset, .unset, .unset] [(.int (1 : Int32))]))
        refine own_go (fun _ k => XS.istore X245.here hx rfl (hb hby at_146) rfl (l' := #[.val (.long q0), .second, .val (.long q1), .second, .val (.int p2), .val (.int p3), .val (.int p4), .val (.int ((p2 &&& (2147483647 : Int32)) % (3 : Int32))), .val (.ref aEXPIRING_KEYS), .val (.ref a219), .val (.int en), .val (.int (own_bf en)), .val (.int (1073741824 : Int32)), .val (.int (1 : Int32)), .val (.int (1 : Int32)), .val (.int (1 : Int32)), .unset, .unset]) rfl k) ?_
        show OwnGo p e below _ (T245.setTop (mkF m 148 #[.val (.long q0), .second, .val (.long q1), .second, .val (.int p2), .val (.int p3), .val (.int p4), .val (.int ((p2 &&& (2147483647 : Int32)) % (3 : Int32))), .val (.ref aEXPIRING_KEYS), .val (.ref a219), .val (.int en), .val (.int (own_bf en)), .val (.int (1073741824 : Int32)), .val (.int (1 : Int32)), .val (.int (1 : Int32)), .val (.int (1 : Int32)), .unset, .unset] []))
        refine own_go (fun _ k => XS.iload X245.here hx rfl (hb hby at_148) rfl k) ?_
        show OwnGo p e below _ (T245.setTop (mkF m 150 #[.val (.long q0), .second, .val (.long q1), .second, .val (.int p2), .val (.int p3), .val (.int p4), .val (.int ((p2 &&& (2147483647 : Int32)) % (3 : Int32))), .val (.ref aEXPIRING_KEYS), .val (.ref a219), .val (.int en), .val (.int (own_bf en)), .val (.int (1073741824 : Int32)), .val (.int (1 : Int32)), .val (.int (1 : Int32)), .val (.int (1 : Int32)), .unset, .unset] [(.int (own_bf en))]))
        refine own_go (fun _ k => XS.bipush X245.here hx rfl (hb hby at_150) k) ?_
        show OwnGo p e below _ (T245.setTop (mkF m 152 #[.val (.long q0), .second, .val (.long q1), .second, .val (.int p2), .val (.int p3), .val (.int p4), .val (.int ((p2 &&& (2147483647 : Int32)) % (3 : Int32))), .val (.ref aEXPIRING_KEYS), .val (.ref a219), .val (.int en), .val (.int (own_bf en)), .val (.int (1073741824 : Int32)), .val (.int (1 : Int32)), .val (.int (1 : Int32)), .val (.int (1 : Int32)), .unset, .unset] [(.int (16 : Int32)), (.int (own_bf en))]))
        by_cases hc247 : (own_bf en) = (16 : Int32)
        · refine own_go (fun _ k => XS.icmpYes X245.here hx rfl (pc0 := 152) (pc' := 168) rfl (hb hby at_152) rfl (teq hc247).1 (by decide) (by decide) k) ?_
          show OwnGo p e below _ (T245.setTop (mkF m 168 #[.val (.long q0), .second, .val (.long q1), .second, .val (.int p2), .val (.int p3), .val (.int p4), .val (.int ((p2 &&& (2147483647 : Int32)) % (3 : Int32))), .val (.ref aEXPIRING_KEYS), .val (.ref a219), .val (.int en), .val (.int (own_bf en)), .val (.int (1073741824 : Int32)), .val (.int (1 : Int32)), .val (.int (1 : Int32)), .val (.int (1 : Int32)), .unset, .unset] []))
          refine own_go (fun _ k => XS.iconst X245.here hx rfl (hb hby at_168) k) ?_
          show OwnGo p e below _ (T245.setTop (mkF m 169 #[.val (.long q0), .second, .val (.long q1), .second, .val (.int p2), .val (.int p3), .val (.int p4), .val (.int ((p2 &&& (2147483647 : Int32)) % (3 : Int32))), .val (.ref aEXPIRING_KEYS), .val (.ref a219), .val (.int en), .val (.int (own_bf en)), .val (.int (1073741824 : Int32)), .val (.int (1 : Int32)), .val (.int (1 : Int32)), .val (.int (1 : Int32)), .unset, .unset] [(.int (1 : Int32))]))
          refine own_go (fun _ k => XS.goto X245.here hx rfl (pc0 := 169) (pc' := 173) rfl (hb hby at_169) (by decide) (by decide) k) ?_
          show OwnGo p e below _ (T245.setTop (mkF m 173 #[.val (.long q0), .second, .val (.long q1), .second, .val (.int p2), .val (.int p3), .val (.int p4), .val (.int ((p2 &&& (2147483647 : Int32)) % (3 : Int32))), .val (.ref aEXPIRING_KEYS), .val (.ref a219), .val (.int en), .val (.int (own_bf en)), .val (.int (1073741824 : Int32)), .val (.int (1 : Int32)), .val (.int (1 : Int32)), .val (.int (1 : Int32)), .unset, .unset] [(.int (1 : Int32))]))
          refine own_go (fun _ k => XS.istore X245.here hx rfl (hb hby at_173) rfl (l' := #[.val (.long q0), .second, .val (.long q1), .second, .val (.int p2), .val (.int p3), .val (.int p4), .val (.int ((p2 &&& (2147483647 : Int32)) % (3 : Int32))), .val (.ref aEXPIRING_KEYS), .val (.ref a219), .val (.int en), .val (.int (own_bf en)), .val (.int (1073741824 : Int32)), .val (.int (1 : Int32)), .val (.int (1 : Int32)), .val (.int (1 : Int32)), .val (.int (1 : Int32)), .unset]) rfl k) ?_
          show OwnGo p e below _ (T245.setTop (mkF m 175 #[.val (.long q0), .second, .val (.long q1), .second, .val (.int p2), .val (.int p3), .val (.int p4), .val (.int ((p2 &&& (2147483647 : Int32)) % (3 : Int32))), .val (.ref aEXPIRING_KEYS), .val (.ref a219), .val (.int en), .val (.int (own_bf en)), .val (.int (1073741824 : Int32)), .val (.int (1 : Int32)), .val (.int (1 : Int32)), .val (.int (1 : Int32)), .val (.int (1 : Int32)), .unset] []))
          refine own_go (fun _ k => XS.aload X245.here hx rfl (hb hby at_175) rfl rfl k) ?_
          show OwnGo p e below _ (T245.setTop (mkF m 177 #[.val (.long q0), .second, .val (.long q1), .second, .val (.int p2), .val (.int p3), .val (.int p4), .val (.int ((p2 &&& (2147483647 : Int32)) % (3 : Int32))), .val (.ref aEXPIRING_KEYS), .val (.ref a219), .val (.int en), .val (.int (own_bf en)), .val (.int (1073741824 : Int32)), .val (.int (1 : Int32)), .val (.int (1 : Int32)), .val (.int (1 : Int32)), .val (.int (1 : Int32)), .unset] [(.ref a219)]))
          obtain ⟨cq248, kq248, qa248, qb248, qc248⟩ := isOf hZ K245 F244
          obtain ⟨_, _, ⟨T248, L248, k248, n248⟩, -, X248, ⟨Lc248, hQ248, l248, y248, z248⟩, st248⟩ := X245.virtualBack hx (y := (⟨"com/example/vesper/vesper/store/Table", "buckets", "()I"⟩ : MethodName)) (z := (⟨"com/example/vesper/vesper/store/Table", "buckets", "()I"⟩ : MethodName)) hown (mvT hZ (hw _ (List.mem_of_getElem? (i := 48) rfl))) (mvT hZ (hw _ (List.mem_of_getElem? (i := 49) rfl))) (notFace_of_selects (args := #[]) (mvT hZ (hw _ (List.mem_of_getElem? (i := 51) rfl)))) (mvT hZ (hw _ (List.mem_of_getElem? (i := 51) rfl))) (mvT hZ (hw _ (List.mem_of_getElem? (i := 50) rfl))) (by decide) (backOf (W := 0) (rm_bk l Z a0 hw [] aNONE aEXPIRING_KEYS aALL_KEYS F0 a219 r9_240 k9_240 T240.heap n0 O240 x240_0 x240_2) hZ (hw _ (List.mem_of_getElem? (i := 52) rfl)) (hw _ (List.mem_of_getElem? (i := 6) rfl)) (by decide) (by decide)) qa248 qc248 (g := (mkF m 177 #[.val (.long q0), .second, .val (.long q1), .second, .val (.int p2), .val (.int p3), .val (.int p4), .val (.int ((p2 &&& (2147483647 : Int32)) % (3 : Int32))), .val (.ref aEXPIRING_KEYS), .val (.ref a219), .val (.int en), .val (.int (own_bf en)), .val (.int (1073741824 : Int32)), .val (.int (1 : Int32)), .val (.int (1 : Int32)), .val (.int (1 : Int32)), .val (.int (1 : Int32)), .unset] [(.ref a219)])) rfl (by rw [hml]; rfl) (Steps.refl _) (argsL := []) (rest := []) (lenOf pd___I rfl) rfl (by show 2 * 0 + _ ≤ _; exact Nat.le_of_eq rfl) (hb hby at_177) (fun _ _ => ⟨rfl, K245, (by decide : 4 + 0 ≤ _), (by decide : 26 + 0 ≤ _)⟩)
          dsimp only [Pt.U, Pt.locs, Pt.cells, Pt.slots] at X248 l248 y248 z248 st248 hQ248
          subst l248 y248 z248
          obtain ⟨rfl, Nq248, K248⟩ := hQ248
          have N248 := Fr.app N245 Nq248
          refine own_go (fun _ k => st248.trans k) ?_
          show OwnGo p e below _ (T248.setTop (mkF m 180 #[.val (.long q0), .second, .val (.long q1), .second, .val (.int p2), .val (.int p3), .val (.int p4), .val (.int ((p2 &&& (2147483647 : Int32)) % (3 : Int32))), .val (.ref aEXPIRING_KEYS), .val (.ref a219), .val (.int en), .val (.int (own_bf en)), .val (.int (1073741824 : Int32)), .val (.int (1 : Int32)), .val (.int (1 : Int32)), .val (.int (1 : Int32)), .val (.int (1 : Int32)), .unset] [(.int (16 : Int32))]))
          refine own_go (fun _ k => XS.bipush X248.here hx rfl (hb hby at_180) k) ?_
          show OwnGo p e below _ (T248.setTop (mkF m 182 #[.val (.long q0), .second, .val (.long q1), .second, .val (.int p2), .val (.int p3), .val (.int p4), .val (.int ((p2 &&& (2147483647 : Int32)) % (3 : Int32))), .val (.ref aEXPIRING_KEYS), .val (.ref a219), .val (.int en), .val (.int (own_bf en)), .val (.int (1073741824 : Int32)), .val (.int (1 : Int32)), .val (.int (1 : Int32)), .val (.int (1 : Int32)), .val (.int (1 : Int32)), .unset] [(.int (16 : Int32)), (.int (16 : Int32))]))
          refine own_go (fun _ k => XS.icmpNo X248.here hx rfl (hb hby at_182) rfl (by decide) k) ?_
          show OwnGo p e below _ (T248.setTop (mkF m 185 #[.val (.long q0), .second, .val (.long q1), .second, .val (.int p2), .val (.int p3), .val (.int p4), .val (.int ((p2 &&& (2147483647 : Int32)) % (3 : Int32))), .val (.ref aEXPIRING_KEYS), .val (.ref a219), .val (.int en), .val (.int (own_bf en)), .val (.int (1073741824 : Int32)), .val (.int (1 : Int32)), .val (.int (1 : Int32)), .val (.int (1 : Int32)), .val (.int (1 : Int32)), .unset] []))
          refine own_go (fun _ k => XS.aload X248.here hx rfl (hb hby at_185) rfl rfl k) ?_
          show OwnGo p e below _ (T248.setTop (mkF m 187 #[.val (.long q0), .second, .val (.long q1), .second, .val (.int p2), .val (.int p3), .val (.int p4), .val (.int ((p2 &&& (2147483647 : Int32)) % (3 : Int32))), .val (.ref aEXPIRING_KEYS), .val (.ref a219), .val (.int en), .val (.int (own_bf en)), .val (.int (1073741824 : Int32)), .val (.int (1 : Int32)), .val (.int (1 : Int32)), .val (.int (1 : Int32)), .val (.int (1 : Int32)), .unset] [(.ref a219)]))
          obtain ⟨cq249, kq249, qa249, qb249, qc249⟩ := isOf hZ K248 F244
          obtain ⟨_, _, ⟨T249, L249, k249, n249⟩, -, X249, ⟨Lc249, hQ249, l249, y249, z249⟩, st249⟩ := X248.virtualBack hx (y := (⟨"com/example/vesper/vesper/store/Table", "size", "()I"⟩ : MethodName)) (z := (⟨"com/example/vesper/vesper/store/Table", "size", "()I"⟩ : MethodName)) hown (mvT hZ (hw _ (List.mem_of_getElem? (i := 53) rfl))) (mvT hZ (hw _ (List.mem_of_getElem? (i := 54) rfl))) (notFace_of_selects (args := #[]) (mvT hZ (hw _ (List.mem_of_getElem? (i := 56) rfl)))) (mvT hZ (hw _ (List.mem_of_getElem? (i := 56) rfl))) (mvT hZ (hw _ (List.mem_of_getElem? (i := 55) rfl))) (by decide) (backOf (W := 0) (rm_sz l Z a0 hw [] aNONE aEXPIRING_KEYS aALL_KEYS F0 a219 T240.heap n0 O240 x240_1) hZ (hw _ (List.mem_of_getElem? (i := 57) rfl)) (hw _ (List.mem_of_getElem? (i := 6) rfl)) (by decide) (by decide)) qa249 qc249 (g := (mkF m 187 #[.val (.long q0), .second, .val (.long q1), .second, .val (.int p2), .val (.int p3), .val (.int p4), .val (.int ((p2 &&& (2147483647 : Int32)) % (3 : Int32))), .val (.ref aEXPIRING_KEYS), .val (.ref a219), .val (.int en), .val (.int (own_bf en)), .val (.int (1073741824 : Int32)), .val (.int (1 : Int32)), .val (.int (1 : Int32)), .val (.int (1 : Int32)), .val (.int (1 : Int32)), .unset] [(.ref a219)])) rfl (by rw [hml]; rfl) (Steps.refl _) (argsL := []) (rest := []) (lenOf pd___I rfl) rfl (by show 2 * 0 + _ ≤ _; exact Nat.le_of_eq rfl) (hb hby at_187) (fun _ _ => ⟨rfl, K248, (by decide : 4 + 0 ≤ _), (by decide : 26 + 0 ≤ _)⟩)
          dsimp only [Pt.U, Pt.locs, Pt.cells, Pt.slots] at X249 l249 y249 z249 st249 hQ249
          subst l249 y249 z249
          obtain ⟨rfl, Nq249, K249⟩ := hQ249
          have N249 := Fr.app N248 Nq249
          refine own_go (fun _ k => st249.trans k) ?_
          show OwnGo p e below _ (T249.setTop (mkF m 190 #[.val (.long q0), .second, .val (.long q1), .second, .val (.int p2), .val (.int p3), .val (.int p4), .val (.int ((p2 &&& (2147483647 : Int32)) % (3 : Int32))), .val (.ref aEXPIRING_KEYS), .val (.ref a219), .val (.int en), .val (.int (own_bf en)), .val (.int (1073741824 : Int32)), .val (.int (1 : Int32)), .val (.int (1 : Int32)), .val (.int (1 : Int32)), .val (.int (1 : Int32)), .unset] [(.int (0 : Int32))]))
          refine own_go (fun _ k => XS.ifNo X249.here hx rfl (hb hby at_190) rfl (by decide) k) ?_
          show OwnGo p e below _ (T249.setTop (mkF m 193 #[.val (.long q0), .second, .val (.long q1), .second, .val (.int p2), .val (.int p3), .val (.int p4), .val (.int ((p2 &&& (2147483647 : Int32)) % (3 : Int32))), .val (.ref aEXPIRING_KEYS), .val (.ref a219), .val (.int en), .val (.int (own_bf en)), .val (.int (1073741824 : Int32)), .val (.int (1 : Int32)), .val (.int (1 : Int32)), .val (.int (1 : Int32)), .val (.int (1 : Int32)), .unset] []))
          refine own_go (fun _ k => XS.iconst X249.here hx rfl (hb hby at_193) k) ?_
          show OwnGo p e below _ (T249.setTop (mkF m 194 #[.val (.long q0), .second, .val (.long q1), .second, .val (.int p2), .val (.int p3), .val (.int p4), .val (.int ((p2 &&& (2147483647 : Int32)) % (3 : Int32))), .val (.ref aEXPIRING_KEYS), .val (.ref a219), .val (.int en), .val (.int (own_bf en)), .val (.int (1073741824 : Int32)), .val (.int (1 : Int32)), .val (.int (1 : Int32)), .val (.int (1 : Int32)), .val (.int (1 : Int32)), .unset] [(.int (1 : Int32))]))
          refine own_go (fun _ k => XS.goto X249.here hx rfl (pc0 := 194) (pc' := 198) rfl (hb hby at_194) (by decide) (by decide) k) ?_
          show OwnGo p e below _ (T249.setTop (mkF m 198 #[.val (.long q0), .second, .val (.long q1), .second, .val (.int p2), .val (.int p3), .val (.int p4), .val (.int ((p2 &&& (2147483647 : Int32)) % (3 : Int32))), .val (.ref aEXPIRING_KEYS), .val (.ref a219), .val (.int en), .val (.int (own_bf en)), .val (.int (1073741824 : Int32)), .val (.int (1 : Int32)), .val (.int (1 : Int32)), .val (.int (1 : Int32)), .val (.int (1 : Int32)), .unset] [(.int (1 : Int32))]))
          refine own_go (fun _ k => XS.istore X249.here hx rfl (hb hby at_198) rfl (l' := #[.val (.long q0), .second, .val (.long q1), .second, .val (.int p2), .val (.int p3), .val (.int p4), .val (.int ((p2 &&& (2147483647 : Int32)) % (3 : Int32))), .val (.ref aEXPIRING_KEYS), .val (.ref a219), .val (.int en), .val (.int (own_bf en)), .val (.int (1073741824 : Int32)), .val (.int (1 : Int32)), .val (.int (1 : Int32)), .val (.int (1 : Int32)), .val (.int (1 : Int32)), .val (.int (1 : Int32))]) rfl k) ?_
          show OwnGo p e below _ (T249.setTop (mkF m 200 #[.val (.long q0), .second, .val (.long q1), .second, .val (.int p2), .val (.int p3), .val (.int p4), .val (.int ((p2 &&& (2147483647 : Int32)) % (3 : Int32))), .val (.ref aEXPIRING_KEYS), .val (.ref a219), .val (.int en), .val (.int (own_bf en)), .val (.int (1073741824 : Int32)), .val (.int (1 : Int32)), .val (.int (1 : Int32)), .val (.int (1 : Int32)), .val (.int (1 : Int32)), .val (.int (1 : Int32))] []))
          refine own_go (fun _ k => XS.iload X249.here hx rfl (hb hby at_200) rfl k) ?_
          show OwnGo p e below _ (T249.setTop (mkF m 202 #[.val (.long q0), .second, .val (.long q1), .second, .val (.int p2), .val (.int p3), .val (.int p4), .val (.int ((p2 &&& (2147483647 : Int32)) % (3 : Int32))), .val (.ref aEXPIRING_KEYS), .val (.ref a219), .val (.int en), .val (.int (own_bf en)), .val (.int (1073741824 : Int32)), .val (.int (1 : Int32)), .val (.int (1 : Int32)), .val (.int (1 : Int32)), .val (.int (1 : Int32)), .val (.int (1 : Int32))] [(.int (1 : Int32))]))
          refine own_go (fun _ k => XS.ifNo X249.here hx rfl (hb hby at_202) rfl (by decide) k) ?_
          show OwnGo p e below _ (T249.setTop (mkF m 205 #[.val (.long q0), .second, .val (.long q1), .second, .val (.int p2), .val (.int p3), .val (.int p4), .val (.int ((p2 &&& (2147483647 : Int32)) % (3 : Int32))), .val (.ref aEXPIRING_KEYS), .val (.ref a219), .val (.int en), .val (.int (own_bf en)), .val (.int (1073741824 : Int32)), .val (.int (1 : Int32)), .val (.int (1 : Int32)), .val (.int (1 : Int32)), .val (.int (1 : Int32)), .val (.int (1 : Int32))] []))
          refine own_go (fun _ k => XS.iload X249.here hx rfl (hb hby at_205) rfl k) ?_
          show OwnGo p e below _ (T249.setTop (mkF m 207 #[.val (.long q0), .second, .val (.long q1), .second, .val (.int p2), .val (.int p3), .val (.int p4), .val (.int ((p2 &&& (2147483647 : Int32)) % (3 : Int32))), .val (.ref aEXPIRING_KEYS), .val (.ref a219), .val (.int en), .val (.int (own_bf en)), .val (.int (1073741824 : Int32)), .val (.int (1 : Int32)), .val (.int (1 : Int32)), .val (.int (1 : Int32)), .val (.int (1 : Int32)), .val (.int (1 : Int32))] [(.int (1 : Int32))]))
          refine own_go (fun _ k => XS.ifNo X249.here hx rfl (hb hby at_207) rfl (by decide) k) ?_
          show OwnGo p e below _ (T249.setTop (mkF m 210 #[.val (.long q0), .second, .val (.long q1), .second, .val (.int p2), .val (.int p3), .val (.int p4), .val (.int ((p2 &&& (2147483647 : Int32)) % (3 : Int32))), .val (.ref aEXPIRING_KEYS), .val (.ref a219), .val (.int en), .val (.int (own_bf en)), .val (.int (1073741824 : Int32)), .val (.int (1 : Int32)), .val (.int (1 : Int32)), .val (.int (1 : Int32)), .val (.int (1 : Int32)), .val (.int (1 : Int32))] []))
          refine own_go (fun _ k => XS.iload X249.here hx rfl (hb hby at_210) rfl k) ?_
          show OwnGo p e below _ (T249.setTop (mkF m 212 #[.val (.long q0), .second, .val (.long q1), .second, .val (.int p2), .val (.int p3), .val (.int p4), .val (.int ((p2 &&& (2147483647 : Int32)) % (3 : Int32))), .val (.ref aEXPIRING_KEYS), .val (.ref a219), .val (.int en), .val (.int (own_bf en)), .val (.int (1073741824 : Int32)), .val (.int (1 : Int32)), .val (.int (1 : Int32)), .val (.int (1 : Int32)), .val (.int (1 : Int32)), .val (.int (1 : Int32))] [(.int (1 : Int32))]))
          refine own_go (fun _ k => XS.ifNo X249.here hx rfl (hb hby at_212) rfl (by decide) k) ?_
          show OwnGo p e below _ (T249.setTop (mkF m 215 #[.val (.long q0), .second, .val (.long q1), .second, .val (.int p2), .val (.int p3), .val (.int p4), .val (.int ((p2 &&& (2147483647 : Int32)) % (3 : Int32))), .val (.ref aEXPIRING_KEYS), .val (.ref a219), .val (.int en), .val (.int (own_bf en)), .val (.int (1073741824 : Int32)), .val (.int (1 : Int32)), .val (.int (1 : Int32)), .val (.int (1 : Int32)), .val (.int (1 : Int32)), .val (.int (1 : Int32))] []))
          refine own_go (fun _ k => XS.iload X249.here hx rfl (hb hby at_215) rfl k) ?_
          show OwnGo p e below _ (T249.setTop (mkF m 217 #[.val (.long q0), .second, .val (.long q1), .second, .val (.int p2), .val (.int p3), .val (.int p4), .val (.int ((p2 &&& (2147483647 : Int32)) % (3 : Int32))), .val (.ref aEXPIRING_KEYS), .val (.ref a219), .val (.int en), .val (.int (own_bf en)), .val (.int (1073741824 : Int32)), .val (.int (1 : Int32)), .val (.int (1 : Int32)), .val (.int (1 : Int32)), .val (.int (1 : Int32)), .val (.int (1 : Int32))] [(.int (1 : Int32))]))
          refine own_go (fun _ k => XS.ifNo X249.here hx rfl (hb hby at_217) rfl (by decide) k) ?_
          show OwnGo p e below _ (T249.setTop (mkF m 220 #[.val (.long q0), .second, .val (.long q1), .second, .val (.int p2), .val (.int p3), .val (.int p4), .val (.int ((p2 &&& (2147483647 : Int32)) % (3 : Int32))), .val (.ref aEXPIRING_KEYS), .val (.ref a219), .val (.int en), .val (.int (own_bf en)), .val (.int (1073741824 : Int32)), .val (.int (1 : Int32)), .val (.int (1 : Int32)), .val (.int (1 : Int32)), .val (.int (1 : Int32)), .val (.int (1 : Int32))] []))
          refine own_go (fun _ k => XS.iload X249.here hx rfl (hb hby at_220) rfl k) ?_
          show OwnGo p e below _ (T249.setTop (mkF m 222 #[.val (.long q0), .second, .val (.long q1), .second, .val (.int p2), .val (.int p3), .val (.int p4), .val (.int ((p2 &&& (2147483647 : Int32)) % (3 : Int32))), .val (.ref aEXPIRING_KEYS), .val (.ref a219), .val (.int en), .val (.int (own_bf en)), .val (.int (1073741824 : Int32)), .val (.int (1 : Int32)), .val (.int (1 : Int32)), .val (.int (1 : Int32)), .val (.int (1 : Int32)), .val (.int (1 : Int32))] [(.int (1 : Int32))]))
          refine own_go (fun _ k => XS.ifNo X249.here hx rfl (hb hby at_222) rfl (by decide) k) ?_
          show OwnGo p e below _ (T249.setTop (mkF m 225 #[.val (.long q0), .second, .val (.long q1), .second, .val (.int p2), .val (.int p3), .val (.int p4), .val (.int ((p2 &&& (2147483647 : Int32)) % (3 : Int32))), .val (.ref aEXPIRING_KEYS), .val (.ref a219), .val (.int en), .val (.int (own_bf en)), .val (.int (1073741824 : Int32)), .val (.int (1 : Int32)), .val (.int (1 : Int32)), .val (.int (1 : Int32)), .val (.int (1 : Int32)), .val (.int (1 : Int32))] []))
          refine own_go (fun _ k => XS.iconst X249.here hx rfl (hb hby at_225) k) ?_
          show OwnGo p e below _ (T249.setTop (mkF m 226 #[.val (.long q0), .second, .val (.long q1), .second, .val (.int p2), .val (.int p3), .val (.int p4), .val (.int ((p2 &&& (2147483647 : Int32)) % (3 : Int32))), .val (.ref aEXPIRING_KEYS), .val (.ref a219), .val (.int en), .val (.int (own_bf en)), .val (.int (1073741824 : Int32)), .val (.int (1 : Int32)), .val (.int (1 : Int32)), .val (.int (1 : Int32)), .val (.int (1 : Int32)), .val (.int (1 : Int32))] [(.int (1 : Int32))]))
          refine own_go (fun _ k => XS.goto X249.here hx rfl (pc0 := 226) (pc' := 230) rfl (hb hby at_226) (by decide) (by decide) k) ?_
          show OwnGo p e below _ (T249.setTop (mkF m 230 #[.val (.long q0), .second, .val (.long q1), .second, .val (.int p2), .val (.int p3), .val (.int p4), .val (.int ((p2 &&& (2147483647 : Int32)) % (3 : Int32))), .val (.ref aEXPIRING_KEYS), .val (.ref a219), .val (.int en), .val (.int (own_bf en)), .val (.int (1073741824 : Int32)), .val (.int (1 : Int32)), .val (.int (1 : Int32)), .val (.int (1 : Int32)), .val (.int (1 : Int32)), .val (.int (1 : Int32))] [(.int (1 : Int32))]))
          obtain ⟨fs, hr, hrun, hended, hW, hsame⟩ := X249.leave (v := some (.int (1 : Int32))) (fun h => by rw [Bd.returns] at h; cases h)
          refine ⟨_, _, retOut X249 hx Bd.returns rfl (Or.inl ⟨rfl, Or.inr (Or.inl rfl), _, rfl⟩) (hb hby at_230) hr, hrun, hended, _, _, rfl, ?_, ⟨_, rfl⟩, hW, hsame.mono (by decide) (by decide)⟩
          show Q_law Z aNONE aEXPIRING_KEYS aALL_KEYS q0 q1 p2 p3 p4 h0 n0 _ T249.heap _
          rw [K249]
          exact ⟨rfl, N249⟩
        · refine own_go (fun _ k => XS.icmpNo X245.here hx rfl (hb hby at_152) rfl (feq hc247).1 k) ?_
          show OwnGo p e below _ (T245.setTop (mkF m 155 #[.val (.long q0), .second, .val (.long q1), .second, .val (.int p2), .val (.int p3), .val (.int p4), .val (.int ((p2 &&& (2147483647 : Int32)) % (3 : Int32))), .val (.ref aEXPIRING_KEYS), .val (.ref a219), .val (.int en), .val (.int (own_bf en)), .val (.int (1073741824 : Int32)), .val (.int (1 : Int32)), .val (.int (1 : Int32)), .val (.int (1 : Int32)), .unset, .unset] []))
          refine own_go (fun _ k => XS.iload X245.here hx rfl (hb hby at_155) rfl k) ?_
          show OwnGo p e below _ (T245.setTop (mkF m 157 #[.val (.long q0), .second, .val (.long q1), .second, .val (.int p2), .val (.int p3), .val (.int p4), .val (.int ((p2 &&& (2147483647 : Int32)) % (3 : Int32))), .val (.ref aEXPIRING_KEYS), .val (.ref a219), .val (.int en), .val (.int (own_bf en)), .val (.int (1073741824 : Int32)), .val (.int (1 : Int32)), .val (.int (1 : Int32)), .val (.int (1 : Int32)), .unset, .unset] [(.int en)]))
          refine own_go (fun _ k => XS.iload X245.here hx rfl (hb hby at_157) rfl k) ?_
          show OwnGo p e below _ (T245.setTop (mkF m 159 #[.val (.long q0), .second, .val (.long q1), .second, .val (.int p2), .val (.int p3), .val (.int p4), .val (.int ((p2 &&& (2147483647 : Int32)) % (3 : Int32))), .val (.ref aEXPIRING_KEYS), .val (.ref a219), .val (.int en), .val (.int (own_bf en)), .val (.int (1073741824 : Int32)), .val (.int (1 : Int32)), .val (.int (1 : Int32)), .val (.int (1 : Int32)), .unset, .unset] [(.int (own_bf en)), (.int en)]))
          refine own_go (fun _ k => XS.iconst X245.here hx rfl (hb hby at_159) k) ?_
          show OwnGo p e below _ (T245.setTop (mkF m 160 #[.val (.long q0), .second, .val (.long q1), .second, .val (.int p2), .val (.int p3), .val (.int p4), .val (.int ((p2 &&& (2147483647 : Int32)) % (3 : Int32))), .val (.ref aEXPIRING_KEYS), .val (.ref a219), .val (.int en), .val (.int (own_bf en)), .val (.int (1073741824 : Int32)), .val (.int (1 : Int32)), .val (.int (1 : Int32)), .val (.int (1 : Int32)), .unset, .unset] [(.int (2 : Int32)), (.int (own_bf en)), (.int en)]))
          refine own_go (fun _ k => XS.idiv X245.here hx rfl (hb hby at_160) rfl (by decide) k) ?_
          show OwnGo p e below _ (T245.setTop (mkF m 161 #[.val (.long q0), .second, .val (.long q1), .second, .val (.int p2), .val (.int p3), .val (.int p4), .val (.int ((p2 &&& (2147483647 : Int32)) % (3 : Int32))), .val (.ref aEXPIRING_KEYS), .val (.ref a219), .val (.int en), .val (.int (own_bf en)), .val (.int (1073741824 : Int32)), .val (.int (1 : Int32)), .val (.int (1 : Int32)), .val (.int (1 : Int32)), .unset, .unset] [(.int ((own_bf en) / (2 : Int32))), (.int en)]))
          refine own_go (fun _ k => XS.iconst X245.here hx rfl (hb hby at_161) k) ?_
          show OwnGo p e below _ (T245.setTop (mkF m 162 #[.val (.long q0), .second, .val (.long q1), .second, .val (.int p2), .val (.int p3), .val (.int p4), .val (.int ((p2 &&& (2147483647 : Int32)) % (3 : Int32))), .val (.ref aEXPIRING_KEYS), .val (.ref a219), .val (.int en), .val (.int (own_bf en)), .val (.int (1073741824 : Int32)), .val (.int (1 : Int32)), .val (.int (1 : Int32)), .val (.int (1 : Int32)), .unset, .unset] [(.int (4 : Int32)), (.int ((own_bf en) / (2 : Int32))), (.int en)]))
          refine own_go (fun _ k => XS.idiv X245.here hx rfl (hb hby at_162) rfl (by decide) k) ?_
          show OwnGo p e below _ (T245.setTop (mkF m 163 #[.val (.long q0), .second, .val (.long q1), .second, .val (.int p2), .val (.int p3), .val (.int p4), .val (.int ((p2 &&& (2147483647 : Int32)) % (3 : Int32))), .val (.ref aEXPIRING_KEYS), .val (.ref a219), .val (.int en), .val (.int (own_bf en)), .val (.int (1073741824 : Int32)), .val (.int (1 : Int32)), .val (.int (1 : Int32)), .val (.int (1 : Int32)), .unset, .unset] [(.int (((own_bf en) / (2 : Int32)) / (4 : Int32))), (.int en)]))
          refine own_go (fun _ k => XS.iconst X245.here hx rfl (hb hby at_163) k) ?_
          show OwnGo p e below _ (T245.setTop (mkF m 164 #[.val (.long q0), .second, .val (.long q1), .second, .val (.int p2), .val (.int p3), .val (.int p4), .val (.int ((p2 &&& (2147483647 : Int32)) % (3 : Int32))), .val (.ref aEXPIRING_KEYS), .val (.ref a219), .val (.int en), .val (.int (own_bf en)), .val (.int (1073741824 : Int32)), .val (.int (1 : Int32)), .val (.int (1 : Int32)), .val (.int (1 : Int32)), .unset, .unset] [(.int (3 : Int32)), (.int (((own_bf en) / (2 : Int32)) / (4 : Int32))), (.int en)]))
          refine own_go (fun _ k => XS.imul X245.here hx rfl (hb hby at_164) rfl k) ?_
          show OwnGo p e below _ (T245.setTop (mkF m 165 #[.val (.long q0), .second, .val (.long q1), .second, .val (.int p2), .val (.int p3), .val (.int p4), .val (.int ((p2 &&& (2147483647 : Int32)) % (3 : Int32))), .val (.ref aEXPIRING_KEYS), .val (.ref a219), .val (.int en), .val (.int (own_bf en)), .val (.int (1073741824 : Int32)), .val (.int (1 : Int32)), .val (.int (1 : Int32)), .val (.int (1 : Int32)), .unset, .unset] [(.int ((((own_bf en) / (2 : Int32)) / (4 : Int32)) * (3 : Int32))), (.int en)]))
          refine own_go (fun _ k => XS.icmpNo X245.here hx rfl (hb hby at_165) rfl (tlt ((own_bf_spec en).2.2.2.2.2 hc247)).2.2.2 k) ?_
          show OwnGo p e below _ (T245.setTop (mkF m 168 #[.val (.long q0), .second, .val (.long q1), .second, .val (.int p2), .val (.int p3), .val (.int p4), .val (.int ((p2 &&& (2147483647 : Int32)) % (3 : Int32))), .val (.ref aEXPIRING_KEYS), .val (.ref a219), .val (.int en), .val (.int (own_bf en)), .val (.int (1073741824 : Int32)), .val (.int (1 : Int32)), .val (.int (1 : Int32)), .val (.int (1 : Int32)), .unset, .unset] []))
          refine own_go (fun _ k => XS.iconst X245.here hx rfl (hb hby at_168) k) ?_
          show OwnGo p e below _ (T245.setTop (mkF m 169 #[.val (.long q0), .second, .val (.long q1), .second, .val (.int p2), .val (.int p3), .val (.int p4), .val (.int ((p2 &&& (2147483647 : Int32)) % (3 : Int32))), .val (.ref aEXPIRING_KEYS), .val (.ref a219), .val (.int en), .val (.int (own_bf en)), .val (.int (1073741824 : Int32)), .val (.int (1 : Int32)), .val (.int (1 : Int32)), .val (.int (1 : Int32)), .unset, .unset] [(.int (1 : Int32))]))
          refine own_go (fun _ k => XS.goto X245.here hx rfl (pc0 := 169) (pc' := 173) rfl (hb hby at_169) (by decide) (by decide) k) ?_
          show OwnGo p e below _ (T245.setTop (mkF m 173 #[.val (.long q0), .second, .val (.long q1), .second, .val (.int p2), .val (.int p3), .val (.int p4), .val (.int ((p2 &&& (2147483647 : Int32)) % (3 : Int32))), .val (.ref aEXPIRING_KEYS), .val (.ref a219), .val (.int en), .val (.int (own_bf en)), .val (.int (1073741824 : Int32)), .val (.int (1 : Int32)), .val (.int (1 : Int32)), .val (.int (1 : Int32)), .unset, .unset] [(.int (1 : Int32))]))
          refine own_go (fun _ k => XS.istore X245.here hx rfl (hb hby at_173) rfl (l' := #[.val (.long q0), .second, .val (.long q1), .second, .val (.int p2), .val (.int p3), .val (.int p4), .val (.int ((p2 &&& (2147483647 : Int32)) % (3 : Int32))), .val (.ref aEXPIRING_KEYS), .val (.ref a219), .val (.int en), .val (.int (own_bf en)), .val (.int (1073741824 : Int32)), .val (.int (1 : Int32)), .val (.int (1 : Int32)), .val (.int (1 : Int32)), .val (.int (1 : Int32)), .unset]) rfl k) ?_
          show OwnGo p e below _ (T245.setTop (mkF m 175 #[.val (.long q0), .second, .val (.long q1), .second, .val (.int p2), .val (.int p3), .val (.int p4), .val (.int ((p2 &&& (2147483647 : Int32)) % (3 : Int32))), .val (.ref aEXPIRING_KEYS), .val (.ref a219), .val (.int en), .val (.int (own_bf en)), .val (.int (1073741824 : Int32)), .val (.int (1 : Int32)), .val (.int (1 : Int32)), .val (.int (1 : Int32)), .val (.int (1 : Int32)), .unset] []))
          refine own_go (fun _ k => XS.aload X245.here hx rfl (hb hby at_175) rfl rfl k) ?_
          show OwnGo p e below _ (T245.setTop (mkF m 177 #[.val (.long q0), .second, .val (.long q1), .second, .val (.int p2), .val (.int p3), .val (.int p4), .val (.int ((p2 &&& (2147483647 : Int32)) % (3 : Int32))), .val (.ref aEXPIRING_KEYS), .val (.ref a219), .val (.int en), .val (.int (own_bf en)), .val (.int (1073741824 : Int32)), .val (.int (1 : Int32)), .val (.int (1 : Int32)), .val (.int (1 : Int32)), .val (.int (1 : Int32)), .unset] [(.ref a219)]))
          obtain ⟨cq250, kq250, qa250, qb250, qc250⟩ := isOf hZ K245 F244
          obtain ⟨_, _, ⟨T250, L250, k250, n250⟩, -, X250, ⟨Lc250, hQ250, l250, y250, z250⟩, st250⟩ := X245.virtualBack hx (y := (⟨"com/example/vesper/vesper/store/Table", "buckets", "()I"⟩ : MethodName)) (z := (⟨"com/example/vesper/vesper/store/Table", "buckets", "()I"⟩ : MethodName)) hown (mvT hZ (hw _ (List.mem_of_getElem? (i := 48) rfl))) (mvT hZ (hw _ (List.mem_of_getElem? (i := 49) rfl))) (notFace_of_selects (args := #[]) (mvT hZ (hw _ (List.mem_of_getElem? (i := 51) rfl)))) (mvT hZ (hw _ (List.mem_of_getElem? (i := 51) rfl))) (mvT hZ (hw _ (List.mem_of_getElem? (i := 50) rfl))) (by decide) (backOf (W := 0) (rm_bk l Z a0 hw [] aNONE aEXPIRING_KEYS aALL_KEYS F0 a219 r9_240 k9_240 T240.heap n0 O240 x240_0 x240_2) hZ (hw _ (List.mem_of_getElem? (i := 52) rfl)) (hw _ (List.mem_of_getElem? (i := 6) rfl)) (by decide) (by decide)) qa250 qc250 (g := (mkF m 177 #[.val (.long q0), .second, .val (.long q1), .second, .val (.int p2), .val (.int p3), .val (.int p4), .val (.int ((p2 &&& (2147483647 : Int32)) % (3 : Int32))), .val (.ref aEXPIRING_KEYS), .val (.ref a219), .val (.int en), .val (.int (own_bf en)), .val (.int (1073741824 : Int32)), .val (.int (1 : Int32)), .val (.int (1 : Int32)), .val (.int (1 : Int32)), .val (.int (1 : Int32)), .unset] [(.ref a219)])) rfl (by rw [hml]; rfl) (Steps.refl _) (argsL := []) (rest := []) (lenOf pd___I rfl) rfl (by show 2 * 0 + _ ≤ _; exact Nat.le_of_eq rfl) (hb hby at_177) (fun _ _ => ⟨rfl, K245, (by decide : 4 + 0 ≤ _), (by decide : 26 + 0 ≤ _)⟩)
          dsimp only [Pt.U, Pt.locs, Pt.cells, Pt.slots] at X250 l250 y250 z250 st250 hQ250
          subst l250 y250 z250
          obtain ⟨rfl, Nq250, K250⟩ := hQ250
          have N250 := Fr.app N245 Nq250
          refine own_go (fun _ k => st250.trans k) ?_
          show OwnGo p e below _ (T250.setTop (mkF m 180 #[.val (.long q0), .second, .val (.long q1), .second, .val (.int p2), .val (.int p3), .val (.int p4), .val (.int ((p2 &&& (2147483647 : Int32)) % (3 : Int32))), .val (.ref aEXPIRING_KEYS), .val (.ref a219), .val (.int en), .val (.int (own_bf en)), .val (.int (1073741824 : Int32)), .val (.int (1 : Int32)), .val (.int (1 : Int32)), .val (.int (1 : Int32)), .val (.int (1 : Int32)), .unset] [(.int (16 : Int32))]))
          refine own_go (fun _ k => XS.bipush X250.here hx rfl (hb hby at_180) k) ?_
          show OwnGo p e below _ (T250.setTop (mkF m 182 #[.val (.long q0), .second, .val (.long q1), .second, .val (.int p2), .val (.int p3), .val (.int p4), .val (.int ((p2 &&& (2147483647 : Int32)) % (3 : Int32))), .val (.ref aEXPIRING_KEYS), .val (.ref a219), .val (.int en), .val (.int (own_bf en)), .val (.int (1073741824 : Int32)), .val (.int (1 : Int32)), .val (.int (1 : Int32)), .val (.int (1 : Int32)), .val (.int (1 : Int32)), .unset] [(.int (16 : Int32)), (.int (16 : Int32))]))
          refine own_go (fun _ k => XS.icmpNo X250.here hx rfl (hb hby at_182) rfl (by decide) k) ?_
          show OwnGo p e below _ (T250.setTop (mkF m 185 #[.val (.long q0), .second, .val (.long q1), .second, .val (.int p2), .val (.int p3), .val (.int p4), .val (.int ((p2 &&& (2147483647 : Int32)) % (3 : Int32))), .val (.ref aEXPIRING_KEYS), .val (.ref a219), .val (.int en), .val (.int (own_bf en)), .val (.int (1073741824 : Int32)), .val (.int (1 : Int32)), .val (.int (1 : Int32)), .val (.int (1 : Int32)), .val (.int (1 : Int32)), .unset] []))
          refine own_go (fun _ k => XS.aload X250.here hx rfl (hb hby at_185) rfl rfl k) ?_
          show OwnGo p e below _ (T250.setTop (mkF m 187 #[.val (.long q0), .second, .val (.long q1), .second, .val (.int p2), .val (.int p3), .val (.int p4), .val (.int ((p2 &&& (2147483647 : Int32)) % (3 : Int32))), .val (.ref aEXPIRING_KEYS), .val (.ref a219), .val (.int en), .val (.int (own_bf en)), .val (.int (1073741824 : Int32)), .val (.int (1 : Int32)), .val (.int (1 : Int32)), .val (.int (1 : Int32)), .val (.int (1 : Int32)), .unset] [(.ref a219)]))
          obtain ⟨cq251, kq251, qa251, qb251, qc251⟩ := isOf hZ K250 F244
          obtain ⟨_, _, ⟨T251, L251, k251, n251⟩, -, X251, ⟨Lc251, hQ251, l251, y251, z251⟩, st251⟩ := X250.virtualBack hx (y := (⟨"com/example/vesper/vesper/store/Table", "size", "()I"⟩ : MethodName)) (z := (⟨"com/example/vesper/vesper/store/Table", "size", "()I"⟩ : MethodName)) hown (mvT hZ (hw _ (List.mem_of_getElem? (i := 53) rfl))) (mvT hZ (hw _ (List.mem_of_getElem? (i := 54) rfl))) (notFace_of_selects (args := #[]) (mvT hZ (hw _ (List.mem_of_getElem? (i := 56) rfl)))) (mvT hZ (hw _ (List.mem_of_getElem? (i := 56) rfl))) (mvT hZ (hw _ (List.mem_of_getElem? (i := 55) rfl))) (by decide) (backOf (W := 0) (rm_sz l Z a0 hw [] aNONE aEXPIRING_KEYS aALL_KEYS F0 a219 T240.heap n0 O240 x240_1) hZ (hw _ (List.mem_of_getElem? (i := 57) rfl)) (hw _ (List.mem_of_getElem? (i := 6) rfl)) (by decide) (by decide)) qa251 qc251 (g := (mkF m 187 #[.val (.long q0), .second, .val (.long q1), .second, .val (.int p2), .val (.int p3), .val (.int p4), .val (.int ((p2 &&& (2147483647 : Int32)) % (3 : Int32))), .val (.ref aEXPIRING_KEYS), .val (.ref a219), .val (.int en), .val (.int (own_bf en)), .val (.int (1073741824 : Int32)), .val (.int (1 : Int32)), .val (.int (1 : Int32)), .val (.int (1 : Int32)), .val (.int (1 : Int32)), .unset] [(.ref a219)])) rfl (by rw [hml]; rfl) (Steps.refl _) (argsL := []) (rest := []) (lenOf pd___I rfl) rfl (by show 2 * 0 + _ ≤ _; exact Nat.le_of_eq rfl) (hb hby at_187) (fun _ _ => ⟨rfl, K250, (by decide : 4 + 0 ≤ _), (by decide : 26 + 0 ≤ _)⟩)
          dsimp only [Pt.U, Pt.locs, Pt.cells, Pt.slots] at X251 l251 y251 z251 st251 hQ251
          subst l251 y251 z251
          obtain ⟨rfl, Nq251, K251⟩ := hQ251
          have N251 := Fr.app N250 Nq251
          refine own_go (fun _ k => st251.trans k) ?_
          show OwnGo p e below _ (T251.setTop (mkF m 190 #[.val (.long q0), .second, .val (.long q1), .second, .val (.int p2), .val (.int p3), .val (.int p4), .val (.int ((p2 &&& (2147483647 : Int32)) % (3 : Int32))), .val (.ref aEXPIRING_KEYS), .val (.ref a219), .val (.int en), .val (.int (own_bf en)), .val (.int (1073741824 : Int32)), .val (.int (1 : Int32)), .val (.int (1 : Int32)), .val (.int (1 : Int32)), .val (.int (1 : Int32)), .unset] [(.int (0 : Int32))]))
          refine own_go (fun _ k => XS.ifNo X251.here hx rfl (hb hby at_190) rfl (by decide) k) ?_
          show OwnGo p e below _ (T251.setTop (mkF m 193 #[.val (.long q0), .second, .val (.long q1), .second, .val (.int p2), .val (.int p3), .val (.int p4), .val (.int ((p2 &&& (2147483647 : Int32)) % (3 : Int32))), .val (.ref aEXPIRING_KEYS), .val (.ref a219), .val (.int en), .val (.int (own_bf en)), .val (.int (1073741824 : Int32)), .val (.int (1 : Int32)), .val (.int (1 : Int32)), .val (.int (1 : Int32)), .val (.int (1 : Int32)), .unset] []))
          refine own_go (fun _ k => XS.iconst X251.here hx rfl (hb hby at_193) k) ?_
          show OwnGo p e below _ (T251.setTop (mkF m 194 #[.val (.long q0), .second, .val (.long q1), .second, .val (.int p2), .val (.int p3), .val (.int p4), .val (.int ((p2 &&& (2147483647 : Int32)) % (3 : Int32))), .val (.ref aEXPIRING_KEYS), .val (.ref a219), .val (.int en), .val (.int (own_bf en)), .val (.int (1073741824 : Int32)), .val (.int (1 : Int32)), .val (.int (1 : Int32)), .val (.int (1 : Int32)), .val (.int (1 : Int32)), .unset] [(.int (1 : Int32))]))
          refine own_go (fun _ k => XS.goto X251.here hx rfl (pc0 := 194) (pc' := 198) rfl (hb hby at_194) (by decide) (by decide) k) ?_
          show OwnGo p e below _ (T251.setTop (mkF m 198 #[.val (.long q0), .second, .val (.long q1), .second, .val (.int p2), .val (.int p3), .val (.int p4), .val (.int ((p2 &&& (2147483647 : Int32)) % (3 : Int32))), .val (.ref aEXPIRING_KEYS), .val (.ref a219), .val (.int en), .val (.int (own_bf en)), .val (.int (1073741824 : Int32)), .val (.int (1 : Int32)), .val (.int (1 : Int32)), .val (.int (1 : Int32)), .val (.int (1 : Int32)), .unset] [(.int (1 : Int32))]))
          refine own_go (fun _ k => XS.istore X251.here hx rfl (hb hby at_198) rfl (l' := #[.val (.long q0), .second, .val (.long q1), .second, .val (.int p2), .val (.int p3), .val (.int p4), .val (.int ((p2 &&& (2147483647 : Int32)) % (3 : Int32))), .val (.ref aEXPIRING_KEYS), .val (.ref a219), .val (.int en), .val (.int (own_bf en)), .val (.int (1073741824 : Int32)), .val (.int (1 : Int32)), .val (.int (1 : Int32)), .val (.int (1 : Int32)), .val (.int (1 : Int32)), .val (.int (1 : Int32))]) rfl k) ?_
          show OwnGo p e below _ (T251.setTop (mkF m 200 #[.val (.long q0), .second, .val (.long q1), .second, .val (.int p2), .val (.int p3), .val (.int p4), .val (.int ((p2 &&& (2147483647 : Int32)) % (3 : Int32))), .val (.ref aEXPIRING_KEYS), .val (.ref a219), .val (.int en), .val (.int (own_bf en)), .val (.int (1073741824 : Int32)), .val (.int (1 : Int32)), .val (.int (1 : Int32)), .val (.int (1 : Int32)), .val (.int (1 : Int32)), .val (.int (1 : Int32))] []))
          refine own_go (fun _ k => XS.iload X251.here hx rfl (hb hby at_200) rfl k) ?_
          show OwnGo p e below _ (T251.setTop (mkF m 202 #[.val (.long q0), .second, .val (.long q1), .second, .val (.int p2), .val (.int p3), .val (.int p4), .val (.int ((p2 &&& (2147483647 : Int32)) % (3 : Int32))), .val (.ref aEXPIRING_KEYS), .val (.ref a219), .val (.int en), .val (.int (own_bf en)), .val (.int (1073741824 : Int32)), .val (.int (1 : Int32)), .val (.int (1 : Int32)), .val (.int (1 : Int32)), .val (.int (1 : Int32)), .val (.int (1 : Int32))] [(.int (1 : Int32))]))
          refine own_go (fun _ k => XS.ifNo X251.here hx rfl (hb hby at_202) rfl (by decide) k) ?_
          show OwnGo p e below _ (T251.setTop (mkF m 205 #[.val (.long q0), .second, .val (.long q1), .second, .val (.int p2), .val (.int p3), .val (.int p4), .val (.int ((p2 &&& (2147483647 : Int32)) % (3 : Int32))), .val (.ref aEXPIRING_KEYS), .val (.ref a219), .val (.int en), .val (.int (own_bf en)), .val (.int (1073741824 : Int32)), .val (.int (1 : Int32)), .val (.int (1 : Int32)), .val (.int (1 : Int32)), .val (.int (1 : Int32)), .val (.int (1 : Int32))] []))
          refine own_go (fun _ k => XS.iload X251.here hx rfl (hb hby at_205) rfl k) ?_
          show OwnGo p e below _ (T251.setTop (mkF m 207 #[.val (.long q0), .second, .val (.long q1), .second, .val (.int p2), .val (.int p3), .val (.int p4), .val (.int ((p2 &&& (2147483647 : Int32)) % (3 : Int32))), .val (.ref aEXPIRING_KEYS), .val (.ref a219), .val (.int en), .val (.int (own_bf en)), .val (.int (1073741824 : Int32)), .val (.int (1 : Int32)), .val (.int (1 : Int32)), .val (.int (1 : Int32)), .val (.int (1 : Int32)), .val (.int (1 : Int32))] [(.int (1 : Int32))]))
          refine own_go (fun _ k => XS.ifNo X251.here hx rfl (hb hby at_207) rfl (by decide) k) ?_
          show OwnGo p e below _ (T251.setTop (mkF m 210 #[.val (.long q0), .second, .val (.long q1), .second, .val (.int p2), .val (.int p3), .val (.int p4), .val (.int ((p2 &&& (2147483647 : Int32)) % (3 : Int32))), .val (.ref aEXPIRING_KEYS), .val (.ref a219), .val (.int en), .val (.int (own_bf en)), .val (.int (1073741824 : Int32)), .val (.int (1 : Int32)), .val (.int (1 : Int32)), .val (.int (1 : Int32)), .val (.int (1 : Int32)), .val (.int (1 : Int32))] []))
          refine own_go (fun _ k => XS.iload X251.here hx rfl (hb hby at_210) rfl k) ?_
          show OwnGo p e below _ (T251.setTop (mkF m 212 #[.val (.long q0), .second, .val (.long q1), .second, .val (.int p2), .val (.int p3), .val (.int p4), .val (.int ((p2 &&& (2147483647 : Int32)) % (3 : Int32))), .val (.ref aEXPIRING_KEYS), .val (.ref a219), .val (.int en), .val (.int (own_bf en)), .val (.int (1073741824 : Int32)), .val (.int (1 : Int32)), .val (.int (1 : Int32)), .val (.int (1 : Int32)), .val (.int (1 : Int32)), .val (.int (1 : Int32))] [(.int (1 : Int32))]))
          refine own_go (fun _ k => XS.ifNo X251.here hx rfl (hb hby at_212) rfl (by decide) k) ?_
          show OwnGo p e below _ (T251.setTop (mkF m 215 #[.val (.long q0), .second, .val (.long q1), .second, .val (.int p2), .val (.int p3), .val (.int p4), .val (.int ((p2 &&& (2147483647 : Int32)) % (3 : Int32))), .val (.ref aEXPIRING_KEYS), .val (.ref a219), .val (.int en), .val (.int (own_bf en)), .val (.int (1073741824 : Int32)), .val (.int (1 : Int32)), .val (.int (1 : Int32)), .val (.int (1 : Int32)), .val (.int (1 : Int32)), .val (.int (1 : Int32))] []))
          refine own_go (fun _ k => XS.iload X251.here hx rfl (hb hby at_215) rfl k) ?_
          show OwnGo p e below _ (T251.setTop (mkF m 217 #[.val (.long q0), .second, .val (.long q1), .second, .val (.int p2), .val (.int p3), .val (.int p4), .val (.int ((p2 &&& (2147483647 : Int32)) % (3 : Int32))), .val (.ref aEXPIRING_KEYS), .val (.ref a219), .val (.int en), .val (.int (own_bf en)), .val (.int (1073741824 : Int32)), .val (.int (1 : Int32)), .val (.int (1 : Int32)), .val (.int (1 : Int32)), .val (.int (1 : Int32)), .val (.int (1 : Int32))] [(.int (1 : Int32))]))
          refine own_go (fun _ k => XS.ifNo X251.here hx rfl (hb hby at_217) rfl (by decide) k) ?_
          show OwnGo p e below _ (T251.setTop (mkF m 220 #[.val (.long q0), .second, .val (.long q1), .second, .val (.int p2), .val (.int p3), .val (.int p4), .val (.int ((p2 &&& (2147483647 : Int32)) % (3 : Int32))), .val (.ref aEXPIRING_KEYS), .val (.ref a219), .val (.int en), .val (.int (own_bf en)), .val (.int (1073741824 : Int32)), .val (.int (1 : Int32)), .val (.int (1 : Int32)), .val (.int (1 : Int32)), .val (.int (1 : Int32)), .val (.int (1 : Int32))] []))
          refine own_go (fun _ k => XS.iload X251.here hx rfl (hb hby at_220) rfl k) ?_
          show OwnGo p e below _ (T251.setTop (mkF m 222 #[.val (.long q0), .second, .val (.long q1), .second, .val (.int p2), .val (.int p3), .val (.int p4), .val (.int ((p2 &&& (2147483647 : Int32)) % (3 : Int32))), .val (.ref aEXPIRING_KEYS), .val (.ref a219), .val (.int en), .val (.int (own_bf en)), .val (.int (1073741824 : Int32)), .val (.int (1 : Int32)), .val (.int (1 : Int32)), .val (.int (1 : Int32)), .val (.int (1 : Int32)), .val (.int (1 : Int32))] [(.int (1 : Int32))]))
          refine own_go (fun _ k => XS.ifNo X251.here hx rfl (hb hby at_222) rfl (by decide) k) ?_
          show OwnGo p e below _ (T251.setTop (mkF m 225 #[.val (.long q0), .second, .val (.long q1), .second, .val (.int p2), .val (.int p3), .val (.int p4), .val (.int ((p2 &&& (2147483647 : Int32)) % (3 : Int32))), .val (.ref aEXPIRING_KEYS), .val (.ref a219), .val (.int en), .val (.int (own_bf en)), .val (.int (1073741824 : Int32)), .val (.int (1 : Int32)), .val (.int (1 : Int32)), .val (.int (1 : Int32)), .val (.int (1 : Int32)), .val (.int (1 : Int32))] []))
          refine own_go (fun _ k => XS.iconst X251.here hx rfl (hb hby at_225) k) ?_
          show OwnGo p e below _ (T251.setTop (mkF m 226 #[.val (.long q0), .second, .val (.long q1), .second, .val (.int p2), .val (.int p3), .val (.int p4), .val (.int ((p2 &&& (2147483647 : Int32)) % (3 : Int32))), .val (.ref aEXPIRING_KEYS), .val (.ref a219), .val (.int en), .val (.int (own_bf en)), .val (.int (1073741824 : Int32)), .val (.int (1 : Int32)), .val (.int (1 : Int32)), .val (.int (1 : Int32)), .val (.int (1 : Int32)), .val (.int (1 : Int32))] [(.int (1 : Int32))]))
          refine own_go (fun _ k => XS.goto X251.here hx rfl (pc0 := 226) (pc' := 230) rfl (hb hby at_226) (by decide) (by decide) k) ?_
          show OwnGo p e below _ (T251.setTop (mkF m 230 #[.val (.long q0), .second, .val (.long q1), .second, .val (.int p2), .val (.int p3), .val (.int p4), .val (.int ((p2 &&& (2147483647 : Int32)) % (3 : Int32))), .val (.ref aEXPIRING_KEYS), .val (.ref a219), .val (.int en), .val (.int (own_bf en)), .val (.int (1073741824 : Int32)), .val (.int (1 : Int32)), .val (.int (1 : Int32)), .val (.int (1 : Int32)), .val (.int (1 : Int32)), .val (.int (1 : Int32))] [(.int (1 : Int32))]))
          obtain ⟨fs, hr, hrun, hended, hW, hsame⟩ := X251.leave (v := some (.int (1 : Int32))) (fun h => by rw [Bd.returns] at h; cases h)
          refine ⟨_, _, retOut X251 hx Bd.returns rfl (Or.inl ⟨rfl, Or.inr (Or.inl rfl), _, rfl⟩) (hb hby at_230) hr, hrun, hended, _, _, rfl, ?_, ⟨_, rfl⟩, hW, hsame.mono (by decide) (by decide)⟩
          show Q_law Z aNONE aEXPIRING_KEYS aALL_KEYS q0 q1 p2 p3 p4 h0 n0 _ T251.heap _
          rw [K251]
          exact ⟨rfl, N251⟩
      · refine own_go (fun _ k => XS.icmpYes X245.here hx rfl (pc0 := 131) (pc' := 141) rfl (hb hby at_131) rfl (flt hc246).2.2.2 (by decide) (by decide) k) ?_
        show OwnGo p e below _ (T245.setTop (mkF m 141 #[.val (.long q0), .second, .val (.long q1), .second, .val (.int p2), .val (.int p3), .val (.int p4), .val (.int ((p2 &&& (2147483647 : Int32)) % (3 : Int32))), .val (.ref aEXPIRING_KEYS), .val (.ref a219), .val (.int en), .val (.int (own_bf en)), .val (.int (1073741824 : Int32)), .val (.int (1 : Int32)), .val (.int (1 : Int32)), .unset, .unset, .unset] []))
        refine own_go (fun _ k => XS.iconst X245.here hx rfl (hb hby at_141) k) ?_
        show OwnGo p e below _ (T245.setTop (mkF m 142 #[.val (.long q0), .second, .val (.long q1), .second, .val (.int p2), .val (.int p3), .val (.int p4), .val (.int ((p2 &&& (2147483647 : Int32)) % (3 : Int32))), .val (.ref aEXPIRING_KEYS), .val (.ref a219), .val (.int en), .val (.int (own_bf en)), .val (.int (1073741824 : Int32)), .val (.int (1 : Int32)), .val (.int (1 : Int32)), .unset, .unset, .unset] [(.int (1 : Int32))]))
        refine own_go (fun _ k => XS.goto X245.here hx rfl (pc0 := 142) (pc' := 146) rfl (hb hby at_142) (by decide) (by decide) k) ?_
        show OwnGo p e below _ (T245.setTop (mkF m 146 #[.val (.long q0), .second, .val (.long q1), .second, .val (.int p2), .val (.int p3), .val (.int p4), .val (.int ((p2 &&& (2147483647 : Int32)) % (3 : Int32))), .val (.ref aEXPIRING_KEYS), .val (.ref a219), .val (.int en), .val (.int (own_bf en)), .val (.int (1073741824 : Int32)), .val (.int (1 : Int32)), .val (.int (1 : Int32)), .unset, .unset, .unset] [(.int (1 : Int32))]))
        refine own_go (fun _ k => XS.istore X245.here hx rfl (hb hby at_146) rfl (l' := #[.val (.long q0), .second, .val (.long q1), .second, .val (.int p2), .val (.int p3), .val (.int p4), .val (.int ((p2 &&& (2147483647 : Int32)) % (3 : Int32))), .val (.ref aEXPIRING_KEYS), .val (.ref a219), .val (.int en), .val (.int (own_bf en)), .val (.int (1073741824 : Int32)), .val (.int (1 : Int32)), .val (.int (1 : Int32)), .val (.int (1 : Int32)), .unset, .unset]) rfl k) ?_
        show OwnGo p e below _ (T245.setTop (mkF m 148 #[.val (.long q0), .second, .val (.long q1), .second, .val (.int p2), .val (.int p3), .val (.int p4), .val (.int ((p2 &&& (2147483647 : Int32)) % (3 : Int32))), .val (.ref aEXPIRING_KEYS), .val (.ref a219), .val (.int en), .val (.int (own_bf en)), .val (.int (1073741824 : Int32)), .val (.int (1 : Int32)), .val (.int (1 : Int32)), .val (.int (1 : Int32)), .unset, .unset] []))
        refine own_go (fun _ k => XS.iload X245.here hx rfl (hb hby at_148) rfl k) ?_
        show OwnGo p e below _ (T245.setTop (mkF m 150 #[.val (.long q0), .second, .val (.long q1), .second, .val (.int p2), .val (.int p3), .val (.int p4), .val (.int ((p2 &&& (2147483647 : Int32)) % (3 : Int32))), .val (.ref aEXPIRING_KEYS), .val (.ref a219), .val (.int en), .val (.int (own_bf en)), .val (.int (1073741824 : Int32)), .val (.int (1 : Int32)), .val (.int (1 : Int32)), .val (.int (1 : Int32)), .unset, .unset] [(.int (own_bf en))]))
        refine own_go (fun _ k => XS.bipush X245.here hx rfl (hb hby at_150) k) ?_
        show OwnGo p e below _ (T245.setTop (mkF m 152 #[.val (.long q0), .second, .val (.long q1), .second, .val (.int p2), .val (.int p3), .val (.int p4), .val (.int ((p2 &&& (2147483647 : Int32)) % (3 : Int32))), .val (.ref aEXPIRING_KEYS), .val (.ref a219), .val (.int en), .val (.int (own_bf en)), .val (.int (1073741824 : Int32)), .val (.int (1 : Int32)), .val (.int (1 : Int32)), .val (.int (1 : Int32)), .unset, .unset] [(.int (16 : Int32)), (.int (own_bf en))]))
        by_cases hc252 : (own_bf en) = (16 : Int32)
        · refine own_go (fun _ k => XS.icmpYes X245.here hx rfl (pc0 := 152) (pc' := 168) rfl (hb hby at_152) rfl (teq hc252).1 (by decide) (by decide) k) ?_
          show OwnGo p e below _ (T245.setTop (mkF m 168 #[.val (.long q0), .second, .val (.long q1), .second, .val (.int p2), .val (.int p3), .val (.int p4), .val (.int ((p2 &&& (2147483647 : Int32)) % (3 : Int32))), .val (.ref aEXPIRING_KEYS), .val (.ref a219), .val (.int en), .val (.int (own_bf en)), .val (.int (1073741824 : Int32)), .val (.int (1 : Int32)), .val (.int (1 : Int32)), .val (.int (1 : Int32)), .unset, .unset] []))
          refine own_go (fun _ k => XS.iconst X245.here hx rfl (hb hby at_168) k) ?_
          show OwnGo p e below _ (T245.setTop (mkF m 169 #[.val (.long q0), .second, .val (.long q1), .second, .val (.int p2), .val (.int p3), .val (.int p4), .val (.int ((p2 &&& (2147483647 : Int32)) % (3 : Int32))), .val (.ref aEXPIRING_KEYS), .val (.ref a219), .val (.int en), .val (.int (own_bf en)), .val (.int (1073741824 : Int32)), .val (.int (1 : Int32)), .val (.int (1 : Int32)), .val (.int (1 : Int32)), .unset, .unset] [(.int (1 : Int32))]))
          refine own_go (fun _ k => XS.goto X245.here hx rfl (pc0 := 169) (pc' := 173) rfl (hb hby at_169) (by decide) (by decide) k) ?_
          show OwnGo p e below _ (T245.setTop (mkF m 173 #[.val (.long q0), .second, .val (.long q1), .second, .val (.int p2), .val (.int p3), .val (.int p4), .val (.int ((p2 &&& (2147483647 : Int32)) % (3 : Int32))), .val (.ref aEXPIRING_KEYS), .val (.ref a219), .val (.int en), .val (.int (own_bf en)), .val (.int (1073741824 : Int32)), .val (.int (1 : Int32)), .val (.int (1 : Int32)), .val (.int (1 : Int32)), .unset, .unset] [(.int (1 : Int32))]))
          refine own_go (fun _ k => XS.istore X245.here hx rfl (hb hby at_173) rfl (l' := #[.val (.long q0), .second, .val (.long q1), .second, .val (.int p2), .val (.int p3), .val (.int p4), .val (.int ((p2 &&& (2147483647 : Int32)) % (3 : Int32))), .val (.ref aEXPIRING_KEYS), .val (.ref a219), .val (.int en), .val (.int (own_bf en)), .val (.int (1073741824 : Int32)), .val (.int (1 : Int32)), .val (.int (1 : Int32)), .val (.int (1 : Int32)), .val (.int (1 : Int32)), .unset]) rfl k) ?_
          show OwnGo p e below _ (T245.setTop (mkF m 175 #[.val (.long q0), .second, .val (.long q1), .second, .val (.int p2), .val (.int p3), .val (.int p4), .val (.int ((p2 &&& (2147483647 : Int32)) % (3 : Int32))), .val (.ref aEXPIRING_KEYS), .val (.ref a219), .val (.int en), .val (.int (own_bf en)), .val (.int (1073741824 : Int32)), .val (.int (1 : Int32)), .val (.int (1 : Int32)), .val (.int (1 : Int32)), .val (.int (1 : Int32)), .unset] []))
          refine own_go (fun _ k => XS.aload X245.here hx rfl (hb hby at_175) rfl rfl k) ?_
          show OwnGo p e below _ (T245.setTop (mkF m 177 #[.val (.long q0), .second, .val (.long q1), .second, .val (.int p2), .val (.int p3), .val (.int p4), .val (.int ((p2 &&& (2147483647 : Int32)) % (3 : Int32))), .val (.ref aEXPIRING_KEYS), .val (.ref a219), .val (.int en), .val (.int (own_bf en)), .val (.int (1073741824 : Int32)), .val (.int (1 : Int32)), .val (.int (1 : Int32)), .val (.int (1 : Int32)), .val (.int (1 : Int32)), .unset] [(.ref a219)]))
          obtain ⟨cq253, kq253, qa253, qb253, qc253⟩ := isOf hZ K245 F244
          obtain ⟨_, _, ⟨T253, L253, k253, n253⟩, -, X253, ⟨Lc253, hQ253, l253, y253, z253⟩, st253⟩ := X245.virtualBack hx (y := (⟨"com/example/vesper/vesper/store/Table", "buckets", "()I"⟩ : MethodName)) (z := (⟨"com/example/vesper/vesper/store/Table", "buckets", "()I"⟩ : MethodName)) hown (mvT hZ (hw _ (List.mem_of_getElem? (i := 48) rfl))) (mvT hZ (hw _ (List.mem_of_getElem? (i := 49) rfl))) (notFace_of_selects (args := #[]) (mvT hZ (hw _ (List.mem_of_getElem? (i := 51) rfl)))) (mvT hZ (hw _ (List.mem_of_getElem? (i := 51) rfl))) (mvT hZ (hw _ (List.mem_of_getElem? (i := 50) rfl))) (by decide) (backOf (W := 0) (rm_bk l Z a0 hw [] aNONE aEXPIRING_KEYS aALL_KEYS F0 a219 r9_240 k9_240 T240.heap n0 O240 x240_0 x240_2) hZ (hw _ (List.mem_of_getElem? (i := 52) rfl)) (hw _ (List.mem_of_getElem? (i := 6) rfl)) (by decide) (by decide)) qa253 qc253 (g := (mkF m 177 #[.val (.long q0), .second, .val (.long q1), .second, .val (.int p2), .val (.int p3), .val (.int p4), .val (.int ((p2 &&& (2147483647 : Int32)) % (3 : Int32))), .val (.ref aEXPIRING_KEYS), .val (.ref a219), .val (.int en), .val (.int (own_bf en)), .val (.int (1073741824 : Int32)), .val (.int (1 : Int32)), .val (.int (1 : Int32)), .val (.int (1 : Int32)), .val (.int (1 : Int32)), .unset] [(.ref a219)])) rfl (by rw [hml]; rfl) (Steps.refl _) (argsL := []) (rest := []) (lenOf pd___I rfl) rfl (by show 2 * 0 + _ ≤ _; exact Nat.le_of_eq rfl) (hb hby at_177) (fun _ _ => ⟨rfl, K245, (by decide : 4 + 0 ≤ _), (by decide : 26 + 0 ≤ _)⟩)
          dsimp only [Pt.U, Pt.locs, Pt.cells, Pt.slots] at X253 l253 y253 z253 st253 hQ253
          subst l253 y253 z253
          obtain ⟨rfl, Nq253, K253⟩ := hQ253
          have N253 := Fr.app N245 Nq253
          refine own_go (fun _ k => st253.trans k) ?_
          show OwnGo p e below _ (T253.setTop (mkF m 180 #[.val (.long q0), .second, .val (.long q1), .second, .val (.int p2), .val (.int p3), .val (.int p4), .val (.int ((p2 &&& (2147483647 : Int32)) % (3 : Int32))), .val (.ref aEXPIRING_KEYS), .val (.ref a219), .val (.int en), .val (.int (own_bf en)), .val (.int (1073741824 : Int32)), .val (.int (1 : Int32)), .val (.int (1 : Int32)), .val (.int (1 : Int32)), .val (.int (1 : Int32)), .unset] [(.int (16 : Int32))]))
          refine own_go (fun _ k => XS.bipush X253.here hx rfl (hb hby at_180) k) ?_
          show OwnGo p e below _ (T253.setTop (mkF m 182 #[.val (.long q0), .second, .val (.long q1), .second, .val (.int p2), .val (.int p3), .val (.int p4), .val (.int ((p2 &&& (2147483647 : Int32)) % (3 : Int32))), .val (.ref aEXPIRING_KEYS), .val (.ref a219), .val (.int en), .val (.int (own_bf en)), .val (.int (1073741824 : Int32)), .val (.int (1 : Int32)), .val (.int (1 : Int32)), .val (.int (1 : Int32)), .val (.int (1 : Int32)), .unset] [(.int (16 : Int32)), (.int (16 : Int32))]))
          refine own_go (fun _ k => XS.icmpNo X253.here hx rfl (hb hby at_182) rfl (by decide) k) ?_
          show OwnGo p e below _ (T253.setTop (mkF m 185 #[.val (.long q0), .second, .val (.long q1), .second, .val (.int p2), .val (.int p3), .val (.int p4), .val (.int ((p2 &&& (2147483647 : Int32)) % (3 : Int32))), .val (.ref aEXPIRING_KEYS), .val (.ref a219), .val (.int en), .val (.int (own_bf en)), .val (.int (1073741824 : Int32)), .val (.int (1 : Int32)), .val (.int (1 : Int32)), .val (.int (1 : Int32)), .val (.int (1 : Int32)), .unset] []))
          refine own_go (fun _ k => XS.aload X253.here hx rfl (hb hby at_185) rfl rfl k) ?_
          show OwnGo p e below _ (T253.setTop (mkF m 187 #[.val (.long q0), .second, .val (.long q1), .second, .val (.int p2), .val (.int p3), .val (.int p4), .val (.int ((p2 &&& (2147483647 : Int32)) % (3 : Int32))), .val (.ref aEXPIRING_KEYS), .val (.ref a219), .val (.int en), .val (.int (own_bf en)), .val (.int (1073741824 : Int32)), .val (.int (1 : Int32)), .val (.int (1 : Int32)), .val (.int (1 : Int32)), .val (.int (1 : Int32)), .unset] [(.ref a219)]))
          obtain ⟨cq254, kq254, qa254, qb254, qc254⟩ := isOf hZ K253 F244
          obtain ⟨_, _, ⟨T254, L254, k254, n254⟩, -, X254, ⟨Lc254, hQ254, l254, y254, z254⟩, st254⟩ := X253.virtualBack hx (y := (⟨"com/example/vesper/vesper/store/Table", "size", "()I"⟩ : MethodName)) (z := (⟨"com/example/vesper/vesper/store/Table", "size", "()I"⟩ : MethodName)) hown (mvT hZ (hw _ (List.mem_of_getElem? (i := 53) rfl))) (mvT hZ (hw _ (List.mem_of_getElem? (i := 54) rfl))) (notFace_of_selects (args := #[]) (mvT hZ (hw _ (List.mem_of_getElem? (i := 56) rfl)))) (mvT hZ (hw _ (List.mem_of_getElem? (i := 56) rfl))) (mvT hZ (hw _ (List.mem_of_getElem? (i := 55) rfl))) (by decide) (backOf (W := 0) (rm_sz l Z a0 hw [] aNONE aEXPIRING_KEYS aALL_KEYS F0 a219 T240.heap n0 O240 x240_1) hZ (hw _ (List.mem_of_getElem? (i := 57) rfl)) (hw _ (List.mem_of_getElem? (i := 6) rfl)) (by decide) (by decide)) qa254 qc254 (g := (mkF m 187 #[.val (.long q0), .second, .val (.long q1), .second, .val (.int p2), .val (.int p3), .val (.int p4), .val (.int ((p2 &&& (2147483647 : Int32)) % (3 : Int32))), .val (.ref aEXPIRING_KEYS), .val (.ref a219), .val (.int en), .val (.int (own_bf en)), .val (.int (1073741824 : Int32)), .val (.int (1 : Int32)), .val (.int (1 : Int32)), .val (.int (1 : Int32)), .val (.int (1 : Int32)), .unset] [(.ref a219)])) rfl (by rw [hml]; rfl) (Steps.refl _) (argsL := []) (rest := []) (lenOf pd___I rfl) rfl (by show 2 * 0 + _ ≤ _; exact Nat.le_of_eq rfl) (hb hby at_187) (fun _ _ => ⟨rfl, K253, (by decide : 4 + 0 ≤ _), (by decide : 26 + 0 ≤ _)⟩)
          dsimp only [Pt.U, Pt.locs, Pt.cells, Pt.slots] at X254 l254 y254 z254 st254 hQ254
          subst l254 y254 z254
          obtain ⟨rfl, Nq254, K254⟩ := hQ254
          have N254 := Fr.app N253 Nq254
          refine own_go (fun _ k => st254.trans k) ?_
          show OwnGo p e below _ (T254.setTop (mkF m 190 #[.val (.long q0), .second, .val (.long q1), .second, .val (.int p2), .val (.int p3), .val (.int p4), .val (.int ((p2 &&& (2147483647 : Int32)) % (3 : Int32))), .val (.ref aEXPIRING_KEYS), .val (.ref a219), .val (.int en), .val (.int (own_bf en)), .val (.int (1073741824 : Int32)), .val (.int (1 : Int32)), .val (.int (1 : Int32)), .val (.int (1 : Int32)), .val (.int (1 : Int32)), .unset] [(.int (0 : Int32))]))
          refine own_go (fun _ k => XS.ifNo X254.here hx rfl (hb hby at_190) rfl (by decide) k) ?_
          show OwnGo p e below _ (T254.setTop (mkF m 193 #[.val (.long q0), .second, .val (.long q1), .second, .val (.int p2), .val (.int p3), .val (.int p4), .val (.int ((p2 &&& (2147483647 : Int32)) % (3 : Int32))), .val (.ref aEXPIRING_KEYS), .val (.ref a219), .val (.int en), .val (.int (own_bf en)), .val (.int (1073741824 : Int32)), .val (.int (1 : Int32)), .val (.int (1 : Int32)), .val (.int (1 : Int32)), .val (.int (1 : Int32)), .unset] []))
          refine own_go (fun _ k => XS.iconst X254.here hx rfl (hb hby at_193) k) ?_
          show OwnGo p e below _ (T254.setTop (mkF m 194 #[.val (.long q0), .second, .val (.long q1), .second, .val (.int p2), .val (.int p3), .val (.int p4), .val (.int ((p2 &&& (2147483647 : Int32)) % (3 : Int32))), .val (.ref aEXPIRING_KEYS), .val (.ref a219), .val (.int en), .val (.int (own_bf en)), .val (.int (1073741824 : Int32)), .val (.int (1 : Int32)), .val (.int (1 : Int32)), .val (.int (1 : Int32)), .val (.int (1 : Int32)), .unset] [(.int (1 : Int32))]))
          refine own_go (fun _ k => XS.goto X254.here hx rfl (pc0 := 194) (pc' := 198) rfl (hb hby at_194) (by decide) (by decide) k) ?_
          show OwnGo p e below _ (T254.setTop (mkF m 198 #[.val (.long q0), .second, .val (.long q1), .second, .val (.int p2), .val (.int p3), .val (.int p4), .val (.int ((p2 &&& (2147483647 : Int32)) % (3 : Int32))), .val (.ref aEXPIRING_KEYS), .val (.ref a219), .val (.int en), .val (.int (own_bf en)), .val (.int (1073741824 : Int32)), .val (.int (1 : Int32)), .val (.int (1 : Int32)), .val (.int (1 : Int32)), .val (.int (1 : Int32)), .unset] [(.int (1 : Int32))]))
          refine own_go (fun _ k => XS.istore X254.here hx rfl (hb hby at_198) rfl (l' := #[.val (.long q0), .second, .val (.long q1), .second, .val (.int p2), .val (.int p3), .val (.int p4), .val (.int ((p2 &&& (2147483647 : Int32)) % (3 : Int32))), .val (.ref aEXPIRING_KEYS), .val (.ref a219), .val (.int en), .val (.int (own_bf en)), .val (.int (1073741824 : Int32)), .val (.int (1 : Int32)), .val (.int (1 : Int32)), .val (.int (1 : Int32)), .val (.int (1 : Int32)), .val (.int (1 : Int32))]) rfl k) ?_
          show OwnGo p e below _ (T254.setTop (mkF m 200 #[.val (.long q0), .second, .val (.long q1), .second, .val (.int p2), .val (.int p3), .val (.int p4), .val (.int ((p2 &&& (2147483647 : Int32)) % (3 : Int32))), .val (.ref aEXPIRING_KEYS), .val (.ref a219), .val (.int en), .val (.int (own_bf en)), .val (.int (1073741824 : Int32)), .val (.int (1 : Int32)), .val (.int (1 : Int32)), .val (.int (1 : Int32)), .val (.int (1 : Int32)), .val (.int (1 : Int32))] []))
          refine own_go (fun _ k => XS.iload X254.here hx rfl (hb hby at_200) rfl k) ?_
          show OwnGo p e below _ (T254.setTop (mkF m 202 #[.val (.long q0), .second, .val (.long q1), .second, .val (.int p2), .val (.int p3), .val (.int p4), .val (.int ((p2 &&& (2147483647 : Int32)) % (3 : Int32))), .val (.ref aEXPIRING_KEYS), .val (.ref a219), .val (.int en), .val (.int (own_bf en)), .val (.int (1073741824 : Int32)), .val (.int (1 : Int32)), .val (.int (1 : Int32)), .val (.int (1 : Int32)), .val (.int (1 : Int32)), .val (.int (1 : Int32))] [(.int (1 : Int32))]))
          refine own_go (fun _ k => XS.ifNo X254.here hx rfl (hb hby at_202) rfl (by decide) k) ?_
          show OwnGo p e below _ (T254.setTop (mkF m 205 #[.val (.long q0), .second, .val (.long q1), .second, .val (.int p2), .val (.int p3), .val (.int p4), .val (.int ((p2 &&& (2147483647 : Int32)) % (3 : Int32))), .val (.ref aEXPIRING_KEYS), .val (.ref a219), .val (.int en), .val (.int (own_bf en)), .val (.int (1073741824 : Int32)), .val (.int (1 : Int32)), .val (.int (1 : Int32)), .val (.int (1 : Int32)), .val (.int (1 : Int32)), .val (.int (1 : Int32))] []))
          refine own_go (fun _ k => XS.iload X254.here hx rfl (hb hby at_205) rfl k) ?_
          show OwnGo p e below _ (T254.setTop (mkF m 207 #[.val (.long q0), .second, .val (.long q1), .second, .val (.int p2), .val (.int p3), .val (.int p4), .val (.int ((p2 &&& (2147483647 : Int32)) % (3 : Int32))), .val (.ref aEXPIRING_KEYS), .val (.ref a219), .val (.int en), .val (.int (own_bf en)), .val (.int (1073741824 : Int32)), .val (.int (1 : Int32)), .val (.int (1 : Int32)), .val (.int (1 : Int32)), .val (.int (1 : Int32)), .val (.int (1 : Int32))] [(.int (1 : Int32))]))
          refine own_go (fun _ k => XS.ifNo X254.here hx rfl (hb hby at_207) rfl (by decide) k) ?_
          show OwnGo p e below _ (T254.setTop (mkF m 210 #[.val (.long q0), .second, .val (.long q1), .second, .val (.int p2), .val (.int p3), .val (.int p4), .val (.int ((p2 &&& (2147483647 : Int32)) % (3 : Int32))), .val (.ref aEXPIRING_KEYS), .val (.ref a219), .val (.int en), .val (.int (own_bf en)), .val (.int (1073741824 : Int32)), .val (.int (1 : Int32)), .val (.int (1 : Int32)), .val (.int (1 : Int32)), .val (.int (1 : Int32)), .val (.int (1 : Int32))] []))
          refine own_go (fun _ k => XS.iload X254.here hx rfl (hb hby at_210) rfl k) ?_
          show OwnGo p e below _ (T254.setTop (mkF m 212 #[.val (.long q0), .second, .val (.long q1), .second, .val (.int p2), .val (.int p3), .val (.int p4), .val (.int ((p2 &&& (2147483647 : Int32)) % (3 : Int32))), .val (.ref aEXPIRING_KEYS), .val (.ref a219), .val (.int en), .val (.int (own_bf en)), .val (.int (1073741824 : Int32)), .val (.int (1 : Int32)), .val (.int (1 : Int32)), .val (.int (1 : Int32)), .val (.int (1 : Int32)), .val (.int (1 : Int32))] [(.int (1 : Int32))]))
          refine own_go (fun _ k => XS.ifNo X254.here hx rfl (hb hby at_212) rfl (by decide) k) ?_
          show OwnGo p e below _ (T254.setTop (mkF m 215 #[.val (.long q0), .second, .val (.long q1), .second, .val (.int p2), .val (.int p3), .val (.int p4), .val (.int ((p2 &&& (2147483647 : Int32)) % (3 : Int32))), .val (.ref aEXPIRING_KEYS), .val (.ref a219), .val (.int en), .val (.int (own_bf en)), .val (.int (1073741824 : Int32)), .val (.int (1 : Int32)), .val (.int (1 : Int32)), .val (.int (1 : Int32)), .val (.int (1 : Int32)), .val (.int (1 : Int32))] []))
          refine own_go (fun _ k => XS.iload X254.here hx rfl (hb hby at_215) rfl k) ?_
          show OwnGo p e below _ (T254.setTop (mkF m 217 #[.val (.long q0), .second, .val (.long q1), .second, .val (.int p2), .val (.int p3), .val (.int p4), .val (.int ((p2 &&& (2147483647 : Int32)) % (3 : Int32))), .val (.ref aEXPIRING_KEYS), .val (.ref a219), .val (.int en), .val (.int (own_bf en)), .val (.int (1073741824 : Int32)), .val (.int (1 : Int32)), .val (.int (1 : Int32)), .val (.int (1 : Int32)), .val (.int (1 : Int32)), .val (.int (1 : Int32))] [(.int (1 : Int32))]))
          refine own_go (fun _ k => XS.ifNo X254.here hx rfl (hb hby at_217) rfl (by decide) k) ?_
          show OwnGo p e below _ (T254.setTop (mkF m 220 #[.val (.long q0), .second, .val (.long q1), .second, .val (.int p2), .val (.int p3), .val (.int p4), .val (.int ((p2 &&& (2147483647 : Int32)) % (3 : Int32))), .val (.ref aEXPIRING_KEYS), .val (.ref a219), .val (.int en), .val (.int (own_bf en)), .val (.int (1073741824 : Int32)), .val (.int (1 : Int32)), .val (.int (1 : Int32)), .val (.int (1 : Int32)), .val (.int (1 : Int32)), .val (.int (1 : Int32))] []))
          refine own_go (fun _ k => XS.iload X254.here hx rfl (hb hby at_220) rfl k) ?_
          show OwnGo p e below _ (T254.setTop (mkF m 222 #[.val (.long q0), .second, .val (.long q1), .second, .val (.int p2), .val (.int p3), .val (.int p4), .val (.int ((p2 &&& (2147483647 : Int32)) % (3 : Int32))), .val (.ref aEXPIRING_KEYS), .val (.ref a219), .val (.int en), .val (.int (own_bf en)), .val (.int (1073741824 : Int32)), .val (.int (1 : Int32)), .val (.int (1 : Int32)), .val (.int (1 : Int32)), .val (.int (1 : Int32)), .val (.int (1 : Int32))] [(.int (1 : Int32))]))
          refine own_go (fun _ k => XS.ifNo X254.here hx rfl (hb hby at_222) rfl (by decide) k) ?_
          show OwnGo p e below _ (T254.setTop (mkF m 225 #[.val (.long q0), .second, .val (.long q1), .second, .val (.int p2), .val (.int p3), .val (.int p4), .val (.int ((p2 &&& (2147483647 : Int32)) % (3 : Int32))), .val (.ref aEXPIRING_KEYS), .val (.ref a219), .val (.int en), .val (.int (own_bf en)), .val (.int (1073741824 : Int32)), .val (.int (1 : Int32)), .val (.int (1 : Int32)), .val (.int (1 : Int32)), .val (.int (1 : Int32)), .val (.int (1 : Int32))] []))
          refine own_go (fun _ k => XS.iconst X254.here hx rfl (hb hby at_225) k) ?_
          show OwnGo p e below _ (T254.setTop (mkF m 226 #[.val (.long q0), .second, .val (.long q1), .second, .val (.int p2), .val (.int p3), .val (.int p4), .val (.int ((p2 &&& (2147483647 : Int32)) % (3 : Int32))), .val (.ref aEXPIRING_KEYS), .val (.ref a219), .val (.int en), .val (.int (own_bf en)), .val (.int (1073741824 : Int32)), .val (.int (1 : Int32)), .val (.int (1 : Int32)), .val (.int (1 : Int32)), .val (.int (1 : Int32)), .val (.int (1 : Int32))] [(.int (1 : Int32))]))
          refine own_go (fun _ k => XS.goto X254.here hx rfl (pc0 := 226) (pc' := 230) rfl (hb hby at_226) (by decide) (by decide) k) ?_
          show OwnGo p e below _ (T254.setTop (mkF m 230 #[.val (.long q0), .second, .val (.long q1), .second, .val (.int p2), .val (.int p3), .val (.int p4), .val (.int ((p2 &&& (2147483647 : Int32)) % (3 : Int32))), .val (.ref aEXPIRING_KEYS), .val (.ref a219), .val (.int en), .val (.int (own_bf en)), .val (.int (1073741824 : Int32)), .val (.int (1 : Int32)), .val (.int (1 : Int32)), .val (.int (1 : Int32)), .val (.int (1 : Int32)), .val (.int (1 : Int32))] [(.int (1 : Int32))]))
          obtain ⟨fs, hr, hrun, hended, hW, hsame⟩ := X254.leave (v := some (.int (1 : Int32))) (fun h => by rw [Bd.returns] at h; cases h)
          refine ⟨_, _, retOut X254 hx Bd.returns rfl (Or.inl ⟨rfl, Or.inr (Or.inl rfl), _, rfl⟩) (hb hby at_230) hr, hrun, hended, _, _, rfl, ?_, ⟨_, rfl⟩, hW, hsame.mono (by decide) (by decide)⟩
          show Q_law Z aNONE aEXPIRING_KEYS aALL_KEYS q0 q1 p2 p3 p4 h0 n0 _ T254.heap _
          rw [K254]
          exact ⟨rfl, N254⟩
        · refine own_go (fun _ k => XS.icmpNo X245.here hx rfl (hb hby at_152) rfl (feq hc252).1 k) ?_
          show OwnGo p e below _ (T245.setTop (mkF m 155 #[.val (.long q0), .second, .val (.long q1), .second, .val (.int p2), .val (.int p3), .val (.int p4), .val (.int ((p2 &&& (2147483647 : Int32)) % (3 : Int32))), .val (.ref aEXPIRING_KEYS), .val (.ref a219), .val (.int en), .val (.int (own_bf en)), .val (.int (1073741824 : Int32)), .val (.int (1 : Int32)), .val (.int (1 : Int32)), .val (.int (1 : Int32)), .unset, .unset] []))
          refine own_go (fun _ k => XS.iload X245.here hx rfl (hb hby at_155) rfl k) ?_
          show OwnGo p e below _ (T245.setTop (mkF m 157 #[.val (.long q0), .second, .val (.long q1), .second, .val (.int p2), .val (.int p3), .val (.int p4), .val (.int ((p2 &&& (2147483647 : Int32)) % (3 : Int32))), .val (.ref aEXPIRING_KEYS), .val (.ref a219), .val (.int en), .val (.int (own_bf en)), .val (.int (1073741824 : Int32)), .val (.int (1 : Int32)), .val (.int (1 : Int32)), .val (.int (1 : Int32)), .unset, .unset] [(.int en)]))
          refine own_go (fun _ k => XS.iload X245.here hx rfl (hb hby at_157) rfl k) ?_
          show OwnGo p e below _ (T245.setTop (mkF m 159 #[.val (.long q0), .second, .val (.long q1), .second, .val (.int p2), .val (.int p3), .val (.int p4), .val (.int ((p2 &&& (2147483647 : Int32)) % (3 : Int32))), .val (.ref aEXPIRING_KEYS), .val (.ref a219), .val (.int en), .val (.int (own_bf en)), .val (.int (1073741824 : Int32)), .val (.int (1 : Int32)), .val (.int (1 : Int32)), .val (.int (1 : Int32)), .unset, .unset] [(.int (own_bf en)), (.int en)]))
          refine own_go (fun _ k => XS.iconst X245.here hx rfl (hb hby at_159) k) ?_
          show OwnGo p e below _ (T245.setTop (mkF m 160 #[.val (.long q0), .second, .val (.long q1), .second, .val (.int p2), .val (.int p3), .val (.int p4), .val (.int ((p2 &&& (2147483647 : Int32)) % (3 : Int32))), .val (.ref aEXPIRING_KEYS), .val (.ref a219), .val (.int en), .val (.int (own_bf en)), .val (.int (1073741824 : Int32)), .val (.int (1 : Int32)), .val (.int (1 : Int32)), .val (.int (1 : Int32)), .unset, .unset] [(.int (2 : Int32)), (.int (own_bf en)), (.int en)]))
          refine own_go (fun _ k => XS.idiv X245.here hx rfl (hb hby at_160) rfl (by decide) k) ?_
          show OwnGo p e below _ (T245.setTop (mkF m 161 #[.val (.long q0), .second, .val (.long q1), .second, .val (.int p2), .val (.int p3), .val (.int p4), .val (.int ((p2 &&& (2147483647 : Int32)) % (3 : Int32))), .val (.ref aEXPIRING_KEYS), .val (.ref a219), .val (.int en), .val (.int (own_bf en)), .val (.int (1073741824 : Int32)), .val (.int (1 : Int32)), .val (.int (1 : Int32)), .val (.int (1 : Int32)), .unset, .unset] [(.int ((own_bf en) / (2 : Int32))), (.int en)]))
          refine own_go (fun _ k => XS.iconst X245.here hx rfl (hb hby at_161) k) ?_
          show OwnGo p e below _ (T245.setTop (mkF m 162 #[.val (.long q0), .second, .val (.long q1), .second, .val (.int p2), .val (.int p3), .val (.int p4), .val (.int ((p2 &&& (2147483647 : Int32)) % (3 : Int32))), .val (.ref aEXPIRING_KEYS), .val (.ref a219), .val (.int en), .val (.int (own_bf en)), .val (.int (1073741824 : Int32)), .val (.int (1 : Int32)), .val (.int (1 : Int32)), .val (.int (1 : Int32)), .unset, .unset] [(.int (4 : Int32)), (.int ((own_bf en) / (2 : Int32))), (.int en)]))
          refine own_go (fun _ k => XS.idiv X245.here hx rfl (hb hby at_162) rfl (by decide) k) ?_
          show OwnGo p e below _ (T245.setTop (mkF m 163 #[.val (.long q0), .second, .val (.long q1), .second, .val (.int p2), .val (.int p3), .val (.int p4), .val (.int ((p2 &&& (2147483647 : Int32)) % (3 : Int32))), .val (.ref aEXPIRING_KEYS), .val (.ref a219), .val (.int en), .val (.int (own_bf en)), .val (.int (1073741824 : Int32)), .val (.int (1 : Int32)), .val (.int (1 : Int32)), .val (.int (1 : Int32)), .unset, .unset] [(.int (((own_bf en) / (2 : Int32)) / (4 : Int32))), (.int en)]))
          refine own_go (fun _ k => XS.iconst X245.here hx rfl (hb hby at_163) k) ?_
          show OwnGo p e below _ (T245.setTop (mkF m 164 #[.val (.long q0), .second, .val (.long q1), .second, .val (.int p2), .val (.int p3), .val (.int p4), .val (.int ((p2 &&& (2147483647 : Int32)) % (3 : Int32))), .val (.ref aEXPIRING_KEYS), .val (.ref a219), .val (.int en), .val (.int (own_bf en)), .val (.int (1073741824 : Int32)), .val (.int (1 : Int32)), .val (.int (1 : Int32)), .val (.int (1 : Int32)), .unset, .unset] [(.int (3 : Int32)), (.int (((own_bf en) / (2 : Int32)) / (4 : Int32))), (.int en)]))
          refine own_go (fun _ k => XS.imul X245.here hx rfl (hb hby at_164) rfl k) ?_
          show OwnGo p e below _ (T245.setTop (mkF m 165 #[.val (.long q0), .second, .val (.long q1), .second, .val (.int p2), .val (.int p3), .val (.int p4), .val (.int ((p2 &&& (2147483647 : Int32)) % (3 : Int32))), .val (.ref aEXPIRING_KEYS), .val (.ref a219), .val (.int en), .val (.int (own_bf en)), .val (.int (1073741824 : Int32)), .val (.int (1 : Int32)), .val (.int (1 : Int32)), .val (.int (1 : Int32)), .unset, .unset] [(.int ((((own_bf en) / (2 : Int32)) / (4 : Int32)) * (3 : Int32))), (.int en)]))
          refine own_go (fun _ k => XS.icmpNo X245.here hx rfl (hb hby at_165) rfl (tlt ((own_bf_spec en).2.2.2.2.2 hc252)).2.2.2 k) ?_
          show OwnGo p e below _ (T245.setTop (mkF m 168 #[.val (.long q0), .second, .val (.long q1), .second, .val (.int p2), .val (.int p3), .val (.int p4), .val (.int ((p2 &&& (2147483647 : Int32)) % (3 : Int32))), .val (.ref aEXPIRING_KEYS), .val (.ref a219), .val (.int en), .val (.int (own_bf en)), .val (.int (1073741824 : Int32)), .val (.int (1 : Int32)), .val (.int (1 : Int32)), .val (.int (1 : Int32)), .unset, .unset] []))
          refine own_go (fun _ k => XS.iconst X245.here hx rfl (hb hby at_168) k) ?_
          show OwnGo p e below _ (T245.setTop (mkF m 169 #[.val (.long q0), .second, .val (.long q1), .second, .val (.int p2), .val (.int p3), .val (.int p4), .val (.int ((p2 &&& (2147483647 : Int32)) % (3 : Int32))), .val (.ref aEXPIRING_KEYS), .val (.ref a219), .val (.int en), .val (.int (own_bf en)), .val (.int (1073741824 : Int32)), .val (.int (1 : Int32)), .val (.int (1 : Int32)), .val (.int (1 : Int32)), .unset, .unset] [(.int (1 : Int32))]))
          refine own_go (fun _ k => XS.goto X245.here hx rfl (pc0 := 169) (pc' := 173) rfl (hb hby at_169) (by decide) (by decide) k) ?_
          show OwnGo p e below _ (T245.setTop (mkF m 173 #[.val (.long q0), .second, .val (.long q1), .second, .val (.int p2), .val (.int p3), .val (.int p4), .val (.int ((p2 &&& (2147483647 : Int32)) % (3 : Int32))), .val (.ref aEXPIRING_KEYS), .val (.ref a219), .val (.int en), .val (.int (own_bf en)), .val (.int (1073741824 : Int32)), .val (.int (1 : Int32)), .val (.int (1 : Int32)), .val (.int (1 : Int32)), .unset, .unset] [(.int (1 : Int32))]))
          refine own_go (fun _ k => XS.istore X245.here hx rfl (hb hby at_173) rfl (l' := #[.val (.long q0), .second, .val (.long q1), .second, .val (.int p2), .val (.int p3), .val (.int p4), .val (.int ((p2 &&& (2147483647 : Int32)) % (3 : Int32))), .val (.ref aEXPIRING_KEYS), .val (.ref a219), .val (.int en), .val (.int (own_bf en)), .val (.int (1073741824 : Int32)), .val (.int (1 : Int32)), .val (.int (1 : Int32)), .val (.int (1 : Int32)), .val (.int (1 : Int32)), .unset]) rfl k) ?_
          show OwnGo p e below _ (T245.setTop (mkF m 175 #[.val (.long q0), .second, .val (.long q1), .second, .val (.int p2), .val (.int p3), .val (.int p4), .val (.int ((p2 &&& (2147483647 : Int32)) % (3 : Int32))), .val (.ref aEXPIRING_KEYS), .val (.ref a219), .val (.int en), .val (.int (own_bf en)), .val (.int (1073741824 : Int32)), .val (.int (1 : Int32)), .val (.int (1 : Int32)), .val (.int (1 : Int32)), .val (.int (1 : Int32)), .unset] []))
          refine own_go (fun _ k => XS.aload X245.here hx rfl (hb hby at_175) rfl rfl k) ?_
          show OwnGo p e below _ (T245.setTop (mkF m 177 #[.val (.long q0), .second, .val (.long q1), .second, .val (.int p2), .val (.int p3), .val (.int p4), .val (.int ((p2 &&& (2147483647 : Int32)) % (3 : Int32))), .val (.ref aEXPIRING_KEYS), .val (.ref a219), .val (.int en), .val (.int (own_bf en)), .val (.int (1073741824 : Int32)), .val (.int (1 : Int32)), .val (.int (1 : Int32)), .val (.int (1 : Int32)), .val (.int (1 : Int32)), .unset] [(.ref a219)]))
          obtain ⟨cq255, kq255, qa255, qb255, qc255⟩ := isOf hZ K245 F244
          obtain ⟨_, _, ⟨T255, L255, k255, n255⟩, -, X255, ⟨Lc255, hQ255, l255, y255, z255⟩, st255⟩ := X245.virtualBack hx (y := (⟨"com/example/vesper/vesper/store/Table", "buckets", "()I"⟩ : MethodName)) (z := (⟨"com/example/vesper/vesper/store/Table", "buckets", "()I"⟩ : MethodName)) hown (mvT hZ (hw _ (List.mem_of_getElem? (i := 48) rfl))) (mvT hZ (hw _ (List.mem_of_getElem? (i := 49) rfl))) (notFace_of_selects (args := #[]) (mvT hZ (hw _ (List.mem_of_getElem? (i := 51) rfl)))) (mvT hZ (hw _ (List.mem_of_getElem? (i := 51) rfl))) (mvT hZ (hw _ (List.mem_of_getElem? (i := 50) rfl))) (by decide) (backOf (W := 0) (rm_bk l Z a0 hw [] aNONE aEXPIRING_KEYS aALL_KEYS F0 a219 r9_240 k9_240 T240.heap n0 O240 x240_0 x240_2) hZ (hw _ (List.mem_of_getElem? (i := 52) rfl)) (hw _ (List.mem_of_getElem? (i := 6) rfl)) (by decide) (by decide)) qa255 qc255 (g := (mkF m 177 #[.val (.long q0), .second, .val (.long q1), .second, .val (.int p2), .val (.int p3), .val (.int p4), .val (.int ((p2 &&& (2147483647 : Int32)) % (3 : Int32))), .val (.ref aEXPIRING_KEYS), .val (.ref a219), .val (.int en), .val (.int (own_bf en)), .val (.int (1073741824 : Int32)), .val (.int (1 : Int32)), .val (.int (1 : Int32)), .val (.int (1 : Int32)), .val (.int (1 : Int32)), .unset] [(.ref a219)])) rfl (by rw [hml]; rfl) (Steps.refl _) (argsL := []) (rest := []) (lenOf pd___I rfl) rfl (by show 2 * 0 + _ ≤ _; exact Nat.le_of_eq rfl) (hb hby at_177) (fun _ _ => ⟨rfl, K245, (by decide : 4 + 0 ≤ _), (by decide : 26 + 0 ≤ _)⟩)
          dsimp only [Pt.U, Pt.locs, Pt.cells, Pt.slots] at X255 l255 y255 z255 st255 hQ255
          subst l255 y255 z255
          obtain ⟨rfl, Nq255, K255⟩ := hQ255
          have N255 := Fr.app N245 Nq255
          refine own_go (fun _ k => st255.trans k) ?_
          show OwnGo p e below _ (T255.setTop (mkF m 180 #[.val (.long q0), .second, .val (.long q1), .second, .val (.int p2), .val (.int p3), .val (.int p4), .val (.int ((p2 &&& (2147483647 : Int32)) % (3 : Int32))), .val (.ref aEXPIRING_KEYS), .val (.ref a219), .val (.int en), .val (.int (own_bf en)), .val (.int (1073741824 : Int32)), .val (.int (1 : Int32)), .val (.int (1 : Int32)), .val (.int (1 : Int32)), .val (.int (1 : Int32)), .unset] [(.int (16 : Int32))]))
          refine own_go (fun _ k => XS.bipush X255.here hx rfl (hb hby at_180) k) ?_
          show OwnGo p e below _ (T255.setTop (mkF m 182 #[.val (.long q0), .second, .val (.long q1), .second, .val (.int p2), .val (.int p3), .val (.int p4), .val (.int ((p2 &&& (2147483647 : Int32)) % (3 : Int32))), .val (.ref aEXPIRING_KEYS), .val (.ref a219), .val (.int en), .val (.int (own_bf en)), .val (.int (1073741824 : Int32)), .val (.int (1 : Int32)), .val (.int (1 : Int32)), .val (.int (1 : Int32)), .val (.int (1 : Int32)), .unset] [(.int (16 : Int32)), (.int (16 : Int32))]))
          refine own_go (fun _ k => XS.icmpNo X255.here hx rfl (hb hby at_182) rfl (by decide) k) ?_
          show OwnGo p e below _ (T255.setTop (mkF m 185 #[.val (.long q0), .second, .val (.long q1), .second, .val (.int p2), .val (.int p3), .val (.int p4), .val (.int ((p2 &&& (2147483647 : Int32)) % (3 : Int32))), .val (.ref aEXPIRING_KEYS), .val (.ref a219), .val (.int en), .val (.int (own_bf en)), .val (.int (1073741824 : Int32)), .val (.int (1 : Int32)), .val (.int (1 : Int32)), .val (.int (1 : Int32)), .val (.int (1 : Int32)), .unset] []))
          refine own_go (fun _ k => XS.aload X255.here hx rfl (hb hby at_185) rfl rfl k) ?_
          show OwnGo p e below _ (T255.setTop (mkF m 187 #[.val (.long q0), .second, .val (.long q1), .second, .val (.int p2), .val (.int p3), .val (.int p4), .val (.int ((p2 &&& (2147483647 : Int32)) % (3 : Int32))), .val (.ref aEXPIRING_KEYS), .val (.ref a219), .val (.int en), .val (.int (own_bf en)), .val (.int (1073741824 : Int32)), .val (.int (1 : Int32)), .val (.int (1 : Int32)), .val (.int (1 : Int32)), .val (.int (1 : Int32)), .unset] [(.ref a219)]))
          obtain ⟨cq256, kq256, qa256, qb256, qc256⟩ := isOf hZ K255 F244
          obtain ⟨_, _, ⟨T256, L256, k256, n256⟩, -, X256, ⟨Lc256, hQ256, l256, y256, z256⟩, st256⟩ := X255.virtualBack hx (y := (⟨"com/example/vesper/vesper/store/Table", "size", "()I"⟩ : MethodName)) (z := (⟨"com/example/vesper/vesper/store/Table", "size", "()I"⟩ : MethodName)) hown (mvT hZ (hw _ (List.mem_of_getElem? (i := 53) rfl))) (mvT hZ (hw _ (List.mem_of_getElem? (i := 54) rfl))) (notFace_of_selects (args := #[]) (mvT hZ (hw _ (List.mem_of_getElem? (i := 56) rfl)))) (mvT hZ (hw _ (List.mem_of_getElem? (i := 56) rfl))) (mvT hZ (hw _ (List.mem_of_getElem? (i := 55) rfl))) (by decide) (backOf (W := 0) (rm_sz l Z a0 hw [] aNONE aEXPIRING_KEYS aALL_KEYS F0 a219 T240.heap n0 O240 x240_1) hZ (hw _ (List.mem_of_getElem? (i := 57) rfl)) (hw _ (List.mem_of_getElem? (i := 6) rfl)) (by decide) (by decide)) qa256 qc256 (g := (mkF m 187 #[.val (.long q0), .second, .val (.long q1), .second, .val (.int p2), .val (.int p3), .val (.int p4), .val (.int ((p2 &&& (2147483647 : Int32)) % (3 : Int32))), .val (.ref aEXPIRING_KEYS), .val (.ref a219), .val (.int en), .val (.int (own_bf en)), .val (.int (1073741824 : Int32)), .val (.int (1 : Int32)), .val (.int (1 : Int32)), .val (.int (1 : Int32)), .val (.int (1 : Int32)), .unset] [(.ref a219)])) rfl (by rw [hml]; rfl) (Steps.refl _) (argsL := []) (rest := []) (lenOf pd___I rfl) rfl (by show 2 * 0 + _ ≤ _; exact Nat.le_of_eq rfl) (hb hby at_187) (fun _ _ => ⟨rfl, K255, (by decide : 4 + 0 ≤ _), (by decide : 26 + 0 ≤ _)⟩)
          dsimp only [Pt.U, Pt.locs, Pt.cells, Pt.slots] at X256 l256 y256 z256 st256 hQ256
          subst l256 y256 z256
          obtain ⟨rfl, Nq256, K256⟩ := hQ256
          have N256 := Fr.app N255 Nq256
          refine own_go (fun _ k => st256.trans k) ?_
          show OwnGo p e below _ (T256.setTop (mkF m 190 #[.val (.long q0), .second, .val (.long q1), .second, .val (.int p2), .val (.int p3), .val (.int p4), .val (.int ((p2 &&& (2147483647 : Int32)) % (3 : Int32))), .val (.ref aEXPIRING_KEYS), .val (.ref a219), .val (.int en), .val (.int (own_bf en)), .val (.int (1073741824 : Int32)), .val (.int (1 : Int32)), .val (.int (1 : Int32)), .val (.int (1 : Int32)), .val (.int (1 : Int32)), .unset] [(.int (0 : Int32))]))
          refine own_go (fun _ k => XS.ifNo X256.here hx rfl (hb hby at_190) rfl (by decide) k) ?_
          show OwnGo p e below _ (T256.setTop (mkF m 193 #[.val (.long q0), .second, .val (.long q1), .second, .val (.int p2), .val (.int p3), .val (.int p4), .val (.int ((p2 &&& (2147483647 : Int32)) % (3 : Int32))), .val (.ref aEXPIRING_KEYS), .val (.ref a219), .val (.int en), .val (.int (own_bf en)), .val (.int (1073741824 : Int32)), .val (.int (1 : Int32)), .val (.int (1 : Int32)), .val (.int (1 : Int32)), .val (.int (1 : Int32)), .unset] []))
          refine own_go (fun _ k => XS.iconst X256.here hx rfl (hb hby at_193) k) ?_
          show OwnGo p e below _ (T256.setTop (mkF m 194 #[.val (.long q0), .second, .val (.long q1), .second, .val (.int p2), .val (.int p3), .val (.int p4), .val (.int ((p2 &&& (2147483647 : Int32)) % (3 : Int32))), .val (.ref aEXPIRING_KEYS), .val (.ref a219), .val (.int en), .val (.int (own_bf en)), .val (.int (1073741824 : Int32)), .val (.int (1 : Int32)), .val (.int (1 : Int32)), .val (.int (1 : Int32)), .val (.int (1 : Int32)), .unset] [(.int (1 : Int32))]))
          refine own_go (fun _ k => XS.goto X256.here hx rfl (pc0 := 194) (pc' := 198) rfl (hb hby at_194) (by decide) (by decide) k) ?_
          show OwnGo p e below _ (T256.setTop (mkF m 198 #[.val (.long q0), .second, .val (.long q1), .second, .val (.int p2), .val (.int p3), .val (.int p4), .val (.int ((p2 &&& (2147483647 : Int32)) % (3 : Int32))), .val (.ref aEXPIRING_KEYS), .val (.ref a219), .val (.int en), .val (.int (own_bf en)), .val (.int (1073741824 : Int32)), .val (.int (1 : Int32)), .val (.int (1 : Int32)), .val (.int (1 : Int32)), .val (.int (1 : Int32)), .unset] [(.int (1 : Int32))]))
          refine own_go (fun _ k => XS.istore X256.here hx rfl (hb hby at_198) rfl (l' := #[.val (.long q0), .second, .val (.long q1), .second, .val (.int p2), .val (.int p3), .val (.int p4), .val (.int ((p2 &&& (2147483647 : Int32)) % (3 : Int32))), .val (.ref aEXPIRING_KEYS), .val (.ref a219), .val (.int en), .val (.int (own_bf en)), .val (.int (1073741824 : Int32)), .val (.int (1 : Int32)), .val (.int (1 : Int32)), .val (.int (1 : Int32)), .val (.int (1 : Int32)), .val (.int (1 : Int32))]) rfl k) ?_
          show OwnGo p e below _ (T256.setTop (mkF m 200 #[.val (.long q0), .second, .val (.long q1), .second, .val (.int p2), .val (.int p3), .val (.int p4), .val (.int ((p2 &&& (2147483647 : Int32)) % (3 : Int32))), .val (.ref aEXPIRING_KEYS), .val (.ref a219), .val (.int en), .val (.int (own_bf en)), .val (.int (1073741824 : Int32)), .val (.int (1 : Int32)), .val (.int (1 : Int32)), .val (.int (1 : Int32)), .val (.int (1 : Int32)), .val (.int (1 : Int32))] []))
          refine own_go (fun _ k => XS.iload X256.here hx rfl (hb hby at_200) rfl k) ?_
          show OwnGo p e below _ (T256.setTop (mkF m 202 #[.val (.long q0), .second, .val (.long q1), .second, .val (.int p2), .val (.int p3), .val (.int p4), .val (.int ((p2 &&& (2147483647 : Int32)) % (3 : Int32))), .val (.ref aEXPIRING_KEYS), .val (.ref a219), .val (.int en), .val (.int (own_bf en)), .val (.int (1073741824 : Int32)), .val (.int (1 : Int32)), .val (.int (1 : Int32)), .val (.int (1 : Int32)), .val (.int (1 : Int32)), .val (.int (1 : Int32))] [(.int (1 : Int32))]))
          refine own_go (fun _ k => XS.ifNo X256.here hx rfl (hb hby at_202) rfl (by decide) k) ?_
          show OwnGo p e below _ (T256.setTop (mkF m 205 #[.val (.long q0), .second, .val (.long q1), .second, .val (.int p2), .val (.int p3), .val (.int p4), .val (.int ((p2 &&& (2147483647 : Int32)) % (3 : Int32))), .val (.ref aEXPIRING_KEYS), .val (.ref a219), .val (.int en), .val (.int (own_bf en)), .val (.int (1073741824 : Int32)), .val (.int (1 : Int32)), .val (.int (1 : Int32)), .val (.int (1 : Int32)), .val (.int (1 : Int32)), .val (.int (1 : Int32))] []))
          refine own_go (fun _ k => XS.iload X256.here hx rfl (hb hby at_205) rfl k) ?_
          show OwnGo p e below _ (T256.setTop (mkF m 207 #[.val (.long q0), .second, .val (.long q1), .second, .val (.int p2), .val (.int p3), .val (.int p4), .val (.int ((p2 &&& (2147483647 : Int32)) % (3 : Int32))), .val (.ref aEXPIRING_KEYS), .val (.ref a219), .val (.int en), .val (.int (own_bf en)), .val (.int (1073741824 : Int32)), .val (.int (1 : Int32)), .val (.int (1 : Int32)), .val (.int (1 : Int32)), .val (.int (1 : Int32)), .val (.int (1 : Int32))] [(.int (1 : Int32))]))
          refine own_go (fun _ k => XS.ifNo X256.here hx rfl (hb hby at_207) rfl (by decide) k) ?_
          show OwnGo p e below _ (T256.setTop (mkF m 210 #[.val (.long q0), .second, .val (.long q1), .second, .val (.int p2), .val (.int p3), .val (.int p4), .val (.int ((p2 &&& (2147483647 : Int32)) % (3 : Int32))), .val (.ref aEXPIRING_KEYS), .val (.ref a219), .val (.int en), .val (.int (own_bf en)), .val (.int (1073741824 : Int32)), .val (.int (1 : Int32)), .val (.int (1 : Int32)), .val (.int (1 : Int32)), .val (.int (1 : Int32)), .val (.int (1 : Int32))] []))
          refine own_go (fun _ k => XS.iload X256.here hx rfl (hb hby at_210) rfl k) ?_
          show OwnGo p e below _ (T256.setTop (mkF m 212 #[.val (.long q0), .second, .val (.long q1), .second, .val (.int p2), .val (.int p3), .val (.int p4), .val (.int ((p2 &&& (2147483647 : Int32)) % (3 : Int32))), .val (.ref aEXPIRING_KEYS), .val (.ref a219), .val (.int en), .val (.int (own_bf en)), .val (.int (1073741824 : Int32)), .val (.int (1 : Int32)), .val (.int (1 : Int32)), .val (.int (1 : Int32)), .val (.int (1 : Int32)), .val (.int (1 : Int32))] [(.int (1 : Int32))]))
          refine own_go (fun _ k => XS.ifNo X256.here hx rfl (hb hby at_212) rfl (by decide) k) ?_
          show OwnGo p e below _ (T256.setTop (mkF m 215 #[.val (.long q0), .second, .val (.long q1), .second, .val (.int p2), .val (.int p3), .val (.int p4), .val (.int ((p2 &&& (2147483647 : Int32)) % (3 : Int32))), .val (.ref aEXPIRING_KEYS), .val (.ref a219), .val (.int en), .val (.int (own_bf en)), .val (.int (1073741824 : Int32)), .val (.int (1 : Int32)), .val (.int (1 : Int32)), .val (.int (1 : Int32)), .val (.int (1 : Int32)), .val (.int (1 : Int32))] []))
          refine own_go (fun _ k => XS.iload X256.here hx rfl (hb hby at_215) rfl k) ?_
          show OwnGo p e below _ (T256.setTop (mkF m 217 #[.val (.long q0), .second, .val (.long q1), .second, .val (.int p2), .val (.int p3), .val (.int p4), .val (.int ((p2 &&& (2147483647 : Int32)) % (3 : Int32))), .val (.ref aEXPIRING_KEYS), .val (.ref a219), .val (.int en), .val (.int (own_bf en)), .val (.int (1073741824 : Int32)), .val (.int (1 : Int32)), .val (.int (1 : Int32)), .val (.int (1 : Int32)), .val (.int (1 : Int32)), .val (.int (1 : Int32))] [(.int (1 : Int32))]))
          refine own_go (fun _ k => XS.ifNo X256.here hx rfl (hb hby at_217) rfl (by decide) k) ?_
          show OwnGo p e below _ (T256.setTop (mkF m 220 #[.val (.long q0), .second, .val (.long q1), .second, .val (.int p2), .val (.int p3), .val (.int p4), .val (.int ((p2 &&& (2147483647 : Int32)) % (3 : Int32))), .val (.ref aEXPIRING_KEYS), .val (.ref a219), .val (.int en), .val (.int (own_bf en)), .val (.int (1073741824 : Int32)), .val (.int (1 : Int32)), .val (.int (1 : Int32)), .val (.int (1 : Int32)), .val (.int (1 : Int32)), .val (.int (1 : Int32))] []))
          refine own_go (fun _ k => XS.iload X256.here hx rfl (hb hby at_220) rfl k) ?_
          show OwnGo p e below _ (T256.setTop (mkF m 222 #[.val (.long q0), .second, .val (.long q1), .second, .val (.int p2), .val (.int p3), .val (.int p4), .val (.int ((p2 &&& (2147483647 : Int32)) % (3 : Int32))), .val (.ref aEXPIRING_KEYS), .val (.ref a219), .val (.int en), .val (.int (own_bf en)), .val (.int (1073741824 : Int32)), .val (.int (1 : Int32)), .val (.int (1 : Int32)), .val (.int (1 : Int32)), .val (.int (1 : Int32)), .val (.int (1 : Int32))] [(.int (1 : Int32))]))
          refine own_go (fun _ k => XS.ifNo X256.here hx rfl (hb hby at_222) rfl (by decide) k) ?_
          show OwnGo p e below _ (T256.setTop (mkF m 225 #[.val (.long q0), .second, .val (.long q1), .second, .val (.int p2), .val (.int p3), .val (.int p4), .val (.int ((p2 &&& (2147483647 : Int32)) % (3 : Int32))), .val (.ref aEXPIRING_KEYS), .val (.ref a219), .val (.int en), .val (.int (own_bf en)), .val (.int (1073741824 : Int32)), .val (.int (1 : Int32)), .val (.int (1 : Int32)), .val (.int (1 : Int32)), .val (.int (1 : Int32)), .val (.int (1 : Int32))] []))
          refine own_go (fun _ k => XS.iconst X256.here hx rfl (hb hby at_225) k) ?_
          show OwnGo p e below _ (T256.setTop (mkF m 226 #[.val (.long q0), .second, .val (.long q1), .second, .val (.int p2), .val (.int p3), .val (.int p4), .val (.int ((p2 &&& (2147483647 : Int32)) % (3 : Int32))), .val (.ref aEXPIRING_KEYS), .val (.ref a219), .val (.int en), .val (.int (own_bf en)), .val (.int (1073741824 : Int32)), .val (.int (1 : Int32)), .val (.int (1 : Int32)), .val (.int (1 : Int32)), .val (.int (1 : Int32)), .val (.int (1 : Int32))] [(.int (1 : Int32))]))
          refine own_go (fun _ k => XS.goto X256.here hx rfl (pc0 := 226) (pc' := 230) rfl (hb hby at_226) (by decide) (by decide) k) ?_
          show OwnGo p e below _ (T256.setTop (mkF m 230 #[.val (.long q0), .second, .val (.long q1), .second, .val (.int p2), .val (.int p3), .val (.int p4), .val (.int ((p2 &&& (2147483647 : Int32)) % (3 : Int32))), .val (.ref aEXPIRING_KEYS), .val (.ref a219), .val (.int en), .val (.int (own_bf en)), .val (.int (1073741824 : Int32)), .val (.int (1 : Int32)), .val (.int (1 : Int32)), .val (.int (1 : Int32)), .val (.int (1 : Int32)), .val (.int (1 : Int32))] [(.int (1 : Int32))]))
          obtain ⟨fs, hr, hrun, hended, hW, hsame⟩ := X256.leave (v := some (.int (1 : Int32))) (fun h => by rw [Bd.returns] at h; cases h)
          refine ⟨_, _, retOut X256 hx Bd.returns rfl (Or.inl ⟨rfl, Or.inr (Or.inl rfl), _, rfl⟩) (hb hby at_230) hr, hrun, hended, _, _, rfl, ?_, ⟨_, rfl⟩, hW, hsame.mono (by decide) (by decide)⟩
          show Q_law Z aNONE aEXPIRING_KEYS aALL_KEYS q0 q1 p2 p3 p4 h0 n0 _ T256.heap _
          rw [K256]
          exact ⟨rfl, N256⟩
set_option maxRecDepth 65536 in
set_option maxHeartbeats 40000000 in
theorem comes_1 {Post : Tables → Env → Array Value → State → Outcome → State → Prop} (hpost : ∀ tb e args s v u, (limb_1_1.after args s (.returned v) u = true ∧ limb_1_2.after args s (.returned v) u = true ∧ True) → FrameEnd s (.returned v) u (Jvm.fieldLocs frame_1_writes args s ++ Jvm.arrayLocs frame_1_arrays args s ++ Jvm.staticLocs frame_1_statics s) 16 128 → Post tb e args s (.returned v) u) :
    ArmFor flags0 classFile x code maxLocals ret World_1 tables_1 room_1 Calls_1 rest_1 Pre_1 Post := by
  intro l hfl _ _ p e ha hc hk s m args below hf hA hF happ hP
  obtain ⟨hcalls, hrest, hpre⟩ := hP
  obtain ⟨-, -, -, hnamed, -, -, -, hat⟩ := (Spec.applies_iff hf).mp happ
  obtain ⟨hg, hn0⟩ := and_e (Cond.before_iff.mp (show (Jvm.Cond.and given_1 narrow_1).before args s = true from hpre))
  obtain ⟨h1, g0⟩ := and_e hg
  obtain ⟨t0, g1⟩ := and_e g0
  obtain ⟨t1, g2⟩ := and_e g1
  obtain ⟨t2, g3⟩ := and_e g2
  obtain ⟨t3, g4⟩ := and_e g3
  obtain ⟨w0, w1, w2, w3, w4, rfl⟩ : ∃ w0 w1 w2 w3 w4 : Value, args = #[w0, w1, w2, w3, w4] := by
    have hs : args.size = 5 := by simpa [Cond.value, given_1] using h1
    obtain ⟨L⟩ := args
    match L, hs with
    | [w0, w1, w2, w3, w4], _ => exact ⟨w0, w1, w2, w3, w4, rfl⟩
  have hw := fun d (hd : d ∈ tables_1) => atoms_spec (ws := Jvm.Cond.code x code maxLocals ret :: tables_1) hat d (List.mem_cons_of_mem _ hd)
  have hfit : Fit s := fun {y c} hc i hi => by
    obtain ⟨ha, rfl⟩ := Array.getElem?_eq_some_iff.mp hc
    have q := List.all_eq_true.mp ((Array.all_eq_true_iff_forall_mem.mp hF) _ (Array.getElem_mem ha)) i (List.mem_range.mpr hi)
    simpa [Array.getElem?_eq_getElem hi] using q
  obtain ⟨i0, ev0⟩ := isL_v t0
  obtain rfl : w0 = (.long i0) := Option.some.inj ev0
  obtain ⟨i1, ev1⟩ := isL_v t1
  obtain rfl : w1 = (.long i1) := Option.some.inj ev1
  obtain ⟨i2, ev2⟩ := is_v t2
  obtain rfl : w2 = (.int i2) := Option.some.inj ev2
  obtain ⟨i3, ev3⟩ := is_v t3
  obtain rfl : w3 = (.int i3) := Option.some.inj ev3
  obtain ⟨i4, ev4⟩ := is_v g4
  obtain rfl : w4 = (.int i4) := Option.some.inj ev4
  obtain ⟨c0, hn1⟩ := and_e hn0
  obtain ⟨aNONE, ev_aNONE⟩ := exa_v c0
  obtain ⟨c1, hn2⟩ := and_e hn1
  obtain ⟨aEXPIRING_KEYS, ev_aEXPIRING_KEYS⟩ := exa_v c1
  obtain ⟨c2, hn3⟩ := and_e hn2
  obtain ⟨c3, hn4⟩ := and_e hn3
  obtain ⟨c4, hn5⟩ := and_e hn4
  obtain ⟨aALL_KEYS, ev_aALL_KEYS⟩ := exa_v c4
  have F0 : OwnFacts s aNONE aEXPIRING_KEYS aALL_KEYS := ⟨(Sta.start ev_aNONE (Or.inr ⟨(hw _ (List.mem_of_getElem? (i := 2) rfl)), (hw _ (List.mem_of_getElem? (i := 3) rfl))⟩)), (Exa.start ev_aNONE c0), (Sta.start ev_aEXPIRING_KEYS (Or.inr ⟨(hw _ (List.mem_of_getElem? (i := 2) rfl)), (hw _ (List.mem_of_getElem? (i := 61) rfl))⟩)), (Exa.start ev_aEXPIRING_KEYS c1), (own_fldI ev_aEXPIRING_KEYS c2), (own_fldI ev_aNONE c3), (Sta.start ev_aALL_KEYS (Or.inr ⟨(hw _ (List.mem_of_getElem? (i := 2) rfl)), (hw _ (List.mem_of_getElem? (i := 68) rfl))⟩)), (Exa.start ev_aALL_KEYS c4), (own_fldI ev_aALL_KEYS hn5)⟩
  obtain ⟨n, o, h1, h2, h3, _, L, rfl, ⟨rfl, N⟩, hq⟩ := rm_law l s _ hw tables_1 aNONE aEXPIRING_KEYS aALL_KEYS F0 i0 i1 i2 i3 i4 s.heap s.heap.size (Old.start s) p e ha hc hk s m _ below hf ((Spec.applies_iff_loose hf).mp happ).1 ⟨rfl, State.Warmed39.refl s, rfl⟩ trivial
  refine ⟨n, _, h1, h2, h3, hpost _ _ _ _ _ _ ⟨Cond.after_iff.mpr rfl, Cond.after_iff.mpr (eq_i res_at (Term.int_eval (1)) rfl), trivial⟩ ⟨hq.1, hq.2.1, (hq.2.2.sift fun y hy => Or.inr (N y hy)).mono (by decide) (by decide)⟩⟩
theorem main_1_1 : Claimed_1_1 := comes_1 fun _ _ _ _ _ _ h hF => ⟨h.1, hF⟩
theorem main_1_2 : Claimed_1_2 := comes_1 fun _ _ _ _ _ _ h hF => ⟨h.2.1, hF⟩
end Jvm.Pilot.@@N@@
namespace Jvm.Pilot.@@N@@
open Jvm Jvm.ClassFile Sem Op Lib Jvm.Free Jvm.Stand Jvm.Pilot.@@N@@.Jvm.D
/-! MADE BY PROGRAM (witnessworld.py) out of the Statement's table words and the real class files: 17 classes; the members and pool entries that the words name. The judged class is class 1, her method 1. -/
namespace start1
open Jvm.ClassFile
def u (s : String) : CpInfo := .utf8 (stringToUtf16 s)
/-- a pool by its gaps: so many unusable entries, then the entry; so many at the end -/
def gap : Nat → List CpInfo → List CpInfo
  | 0, r => r
  | n + 1, r => .unusable :: gap n r
def poolList (es : List (Nat × CpInfo)) (last : Nat) : List CpInfo := es.foldr (fun e r => gap e.1 (e.2 :: r)) (gap last [])
def pool (es : List (Nat × CpInfo)) (last : Nat) : Array CpInfo := ⟨poolList es last⟩
def fileOf (pool : Array CpInfo) (this : Nat) (attrs : Array Attribute := #[]) (ms : Array MethodInfo := #[]) (fl : Nat := 33) (sup : Nat := 0) (ifs : Array Nat := #[]) (fds : Array FieldInfo := #[]) : ClassFile where
  minorVersion := 0
  majorVersion := 65
  constantPool := pool
  accessFlags := fl
  thisClass := this
  superClass := sup
  interfaces := ifs
  fields := fds
  methods := ms
  attributes := attrs
def plain (name : String) (sup : Option ClassId) : Class where
  name := name
  kind := .ordinary
  loader := none
  accessFlags := 33
  super := sup
  interfaces := #[]
  cf := none
  fields := #[]
  methods := #[]
  instanceTypes := #[]
  staticTypes := #[]
  resolved := #[]
  callSites := []
  init := .initialized
  statics := none
  mirror := none

def pool0 : Array CpInfo := pool [(5, u "<init>"), (0, u "()V"), (1, .class_ 10), (1, u "java/lang/Object")] 113

def k0c0 : Code := { maxStack := 0, maxLocals := 1, code := object_method_1_code, exceptionTable := #[], attributes := #[] }
def k0m0 : Method := { name := "<init>", desc := "()V", sig := { parameters := [], returnType := none }, accessFlags := 1, code := some k0c0 }
/-- java/lang/Object -/
def k0 : Class := { plain "java/lang/Object" none with
  accessFlags := 33
  interfaces := #[]
  cf := some (fileOf pool0 8 #[] #[{ accessFlags := 1, nameIndex := 5, descriptorIndex := 6, attributes := #[] }] 33 0 #[] #[])
  fields := #[]
  methods := #[k0m0]
  instanceTypes := #[]
  staticTypes := #[]
  resolved := Array.replicate 124 none
  statics := none }

def pool1 : Array CpInfo := pool [(2, .class_ 4), (1, u "java/lang/Object"), (0, u "<init>"), (0, u "()V"), (0, .integer 2147483647), (0, .fieldref 9 10), (0, .class_ 11), (0, .nameAndType 12 13), (0, u "com/example/vesper/vesper/store/Evictor$Scope"), (0, u "NONE"), (0, u "Lcom/example/vesper/vesper/store/Evictor$Scope;"), (0, .fieldref 9 15), (0, .nameAndType 16 13), (0, u "ALL_KEYS"), (0, .fieldref 9 18), (0, .nameAndType 19 13), (0, u "EXPIRING_KEYS"), (0, .class_ 21), (0, u "com/example/vesper/vesper/store/Table"), (0, .class_ 23), (0, u "com/example/vesper/vesper/store/SipHash"), (0, .methodref 22 25), (0, .nameAndType 5 26), (0, u "(JJ)V"), (0, .methodref 20 28), (0, .nameAndType 5 29), (0, u "(Lcom/example/vesper/vesper/store/SipHash;Lcom/example/vesper/vesper/store/Evictor$Scope;)V"), (0, .methodref 20 31), (0, .nameAndType 32 33), (0, u "bucketsFor"), (0, u "(I)I"), (0, .integer 1073741824), (0, .methodref 20 36), (0, .nameAndType 37 38), (0, u "buckets"), (0, u "()I"), (0, .methodref 20 40), (0, .nameAndType 41 38), (0, u "size"), (0, .class_ 43), (0, u "com/example/vesper/vesper/store/TableBucketsForPinLaw"), (2, u "law"), (0, u "(JJIII)Z")] 7

def k1m0 : Method := { name := "<init>", desc := "()V", sig := { parameters := [], returnType := none }, accessFlags := 1, code := none }
def k1c1 : Code := { maxStack := 8, maxLocals := 18, code := code, exceptionTable := #[], attributes := #[] }
def k1m1 : Method := { name := "law", desc := "(JJIII)Z", sig := { parameters := [.long, .long, .int, .int, .int], returnType := some .boolean }, accessFlags := 9, code := some k1c1 }
/-- com/example/vesper/vesper/store/TableBucketsForPinLaw -/
def k1 : Class := { plain "com/example/vesper/vesper/store/TableBucketsForPinLaw" (some 0) with
  accessFlags := 49
  interfaces := #[]
  cf := some (fileOf pool1 42 #[] #[{ accessFlags := 1, nameIndex := 5, descriptorIndex := 6, attributes := #[] }, { accessFlags := 9, nameIndex := 46, descriptorIndex := 47, attributes := #[] }] 49 2 #[] #[])
  fields := #[]
  methods := #[k1m0, k1m1]
  instanceTypes := #[]
  staticTypes := #[]
  resolved := Array.replicate 55 none
  statics := none }

def pool2 : Array CpInfo := pool [(1, .class_ 2), (0, u "java/lang/constant/Constable"), (0, .class_ 4), (0, u "java/lang/Object")] 6

/-- java/lang/constant/Constable -/
def k2 : Class := { plain "java/lang/constant/Constable" (some 0) with
  accessFlags := 1537
  interfaces := #[]
  cf := some (fileOf pool2 1 #[] #[] 1537 3 #[] #[])
  fields := #[]
  methods := #[]
  instanceTypes := #[]
  staticTypes := #[]
  resolved := Array.replicate 11 none
  statics := none }

def pool3 : Array CpInfo := pool [(1, .class_ 2), (0, u "java/lang/Comparable"), (0, .class_ 4), (0, u "java/lang/Object")] 7

/-- java/lang/Comparable -/
def k3 : Class := { plain "java/lang/Comparable" (some 0) with
  accessFlags := 1537
  interfaces := #[]
  cf := some (fileOf pool3 1 #[] #[] 1537 3 #[] #[])
  fields := #[]
  methods := #[]
  instanceTypes := #[]
  staticTypes := #[]
  resolved := Array.replicate 12 none
  statics := none }

def pool4 : Array CpInfo := pool [(1, .class_ 2), (0, u "java/io/Serializable"), (0, .class_ 4), (0, u "java/lang/Object")] 2

/-- java/io/Serializable -/
def k4 : Class := { plain "java/io/Serializable" (some 0) with
  accessFlags := 1537
  interfaces := #[]
  cf := some (fileOf pool4 1 #[] #[] 1537 3 #[] #[])
  fields := #[]
  methods := #[]
  instanceTypes := #[]
  staticTypes := #[]
  resolved := Array.replicate 7 none
  statics := none }

def pool5 : Array CpInfo := pool [(2, .class_ 4), (1, u "java/lang/Enum"), (0, u "name"), (0, u "Ljava/lang/String;"), (2, u "ordinal"), (0, u "I"), (1, .class_ 14), (1, u "java/lang/Object"), (4, u "hash"), (86, .class_ 108), (1, u "java/lang/Enum$EnumDesc"), (2, .class_ 112), (0, u "java/lang/constant/Constable"), (0, .class_ 114), (0, u "java/lang/Comparable"), (0, .class_ 116), (0, u "java/io/Serializable")] 87

/-- java/lang/Enum -/
def k5 : Class := { plain "java/lang/Enum" (some 0) with
  accessFlags := 1057
  interfaces := #[2, 3, 4]
  cf := some (fileOf pool5 2 #[.nestMembers #[106]] #[] 1057 12 #[111, 113, 115] #[{ accessFlags := 18, nameIndex := 5, descriptorIndex := 6, attributes := #[] }, { accessFlags := 18, nameIndex := 9, descriptorIndex := 10, attributes := #[] }, { accessFlags := 2, nameIndex := 19, descriptorIndex := 10, attributes := #[] }])
  fields := #[{ name := "name", type := (.object "java/lang/String"), accessFlags := 18, slot := 0, constantValue := 0 }, { name := "ordinal", type := .int, accessFlags := 18, slot := 1, constantValue := 0 }, { name := "hash", type := .int, accessFlags := 2, slot := 2, constantValue := 0 }]
  methods := #[]
  instanceTypes := #[(.object "java/lang/String"), .int, .int]
  staticTypes := #[]
  resolved := Array.replicate 204 none
  statics := none }

def pool6 : Array CpInfo := pool [(1, .class_ 2), (0, u "com/example/vesper/vesper/store/Evictor$Scope"), (2, u "NONE"), (0, u "Lcom/example/vesper/vesper/store/Evictor$Scope;"), (2, u "ALL_KEYS"), (2, u "EXPIRING_KEYS"), (2, u "$VALUES"), (0, u "[Lcom/example/vesper/vesper/store/Evictor$Scope;"), (6, .class_ 25), (1, u "java/lang/Enum"), (44, .class_ 71), (0, u "com/example/vesper/vesper/store/Evictor")] 2

/-- com/example/vesper/vesper/store/Evictor$Scope -/
def k6 : Class := { plain "com/example/vesper/vesper/store/Evictor$Scope" (some 5) with
  accessFlags := 16433
  interfaces := #[]
  cf := some (fileOf pool6 1 #[.nestHost 70] #[] 16433 23 #[] #[{ accessFlags := 16409, nameIndex := 5, descriptorIndex := 6, attributes := #[] }, { accessFlags := 16409, nameIndex := 9, descriptorIndex := 6, attributes := #[] }, { accessFlags := 16409, nameIndex := 12, descriptorIndex := 6, attributes := #[] }, { accessFlags := 4122, nameIndex := 15, descriptorIndex := 16, attributes := #[] }])
  fields := #[{ name := "NONE", type := (.object "com/example/vesper/vesper/store/Evictor$Scope"), accessFlags := 16409, slot := 0, constantValue := 0 }, { name := "ALL_KEYS", type := (.object "com/example/vesper/vesper/store/Evictor$Scope"), accessFlags := 16409, slot := 1, constantValue := 0 }, { name := "EXPIRING_KEYS", type := (.object "com/example/vesper/vesper/store/Evictor$Scope"), accessFlags := 16409, slot := 2, constantValue := 0 }, { name := "$VALUES", type := (.array (.object "com/example/vesper/vesper/store/Evictor$Scope")), accessFlags := 4122, slot := 3, constantValue := 0 }]
  methods := #[]
  instanceTypes := #[(.object "java/lang/String"), .int, .int]
  staticTypes := #[(.object "com/example/vesper/vesper/store/Evictor$Scope"), (.object "com/example/vesper/vesper/store/Evictor$Scope"), (.object "com/example/vesper/vesper/store/Evictor$Scope"), (.array (.object "com/example/vesper/vesper/store/Evictor$Scope"))]
  resolved := Array.replicate 74 none
  statics := some 0 }

def pool7 : Array CpInfo := pool [(1, .methodref 2 3), (0, .class_ 4), (0, .nameAndType 5 6), (0, u "java/lang/Object"), (0, u "<init>"), (0, u "()V"), (0, .class_ 8), (0, u "com/example/vesper/vesper/store/Table"), (0, .class_ 10), (0, u "com/example/vesper/vesper/store/Entry"), (0, .fieldref 7 12), (0, .nameAndType 13 14), (0, u "buckets"), (0, u "[Lcom/example/vesper/vesper/store/Entry;"), (0, .fieldref 7 16), (0, .nameAndType 17 18), (0, u "hash"), (0, u "Lcom/example/vesper/vesper/store/SipHash;"), (0, .fieldref 7 20), (0, .nameAndType 21 22), (0, u "counted"), (0, u "Lcom/example/vesper/vesper/store/Evictor$Scope;"), (0, .methodref 7 24), (0, .nameAndType 25 26), (0, u "newTree"), (0, u "(I)[I"), (0, .fieldref 7 28), (0, .nameAndType 29 30), (0, u "tree"), (0, u "[I"), (18, .fieldref 7 50), (0, .nameAndType 51 52), (0, u "size"), (0, u "I"), (7, .fieldref 61 62), (0, .class_ 63), (0, .nameAndType 64 22), (0, u "com/example/vesper/vesper/store/Evictor$Scope"), (0, u "NONE"), (0, .methodref 66 67), (0, .class_ 68), (0, .nameAndType 69 70), (0, u "java/lang/Math"), (0, u "max"), (0, u "(II)I"), (0, .integer 1073741824), (6, u "countedEntries"), (8, u "(I)I"), (35, .methodref 7 124), (0, .nameAndType 125 126), (0, u "treeLength"), (0, u "(Lcom/example/vesper/vesper/store/Evictor$Scope;I)I"), (2, u "bucketsFor"), (20, u "INITIAL_BUCKETS"), (2, u "MAX_BUCKETS"), (0, u "BLOCK"), (1, u "(Lcom/example/vesper/vesper/store/SipHash;Lcom/example/vesper/vesper/store/Evictor$Scope;)V"), (14, u "()I")] 16

def k7c0 : Code := { maxStack := 3, maxLocals := 3, code := prog_42_method_1_code, exceptionTable := #[], attributes := #[] }
def k7m0 : Method := { name := "<init>", desc := "(Lcom/example/vesper/vesper/store/SipHash;Lcom/example/vesper/vesper/store/Evictor$Scope;)V", sig := { parameters := [(.object "com/example/vesper/vesper/store/SipHash"), (.object "com/example/vesper/vesper/store/Evictor$Scope")], returnType := none }, accessFlags := 0, code := some k7c0 }
def k7c1 : Code := { maxStack := 1, maxLocals := 1, code := prog_42_method_8_code, exceptionTable := #[], attributes := #[] }
def k7m1 : Method := { name := "size", desc := "()I", sig := { parameters := [], returnType := some .int }, accessFlags := 0, code := some k7c1 }
def k7c2 : Code := { maxStack := 1, maxLocals := 1, code := prog_42_method_9_code, exceptionTable := #[], attributes := #[] }
def k7m2 : Method := { name := "buckets", desc := "()I", sig := { parameters := [], returnType := some .int }, accessFlags := 0, code := some k7c2 }
def k7c3 : Code := { maxStack := 3, maxLocals := 2, code := prog_42_method_10_code, exceptionTable := #[], attributes := #[] }
def k7m3 : Method := { name := "treeLength", desc := "(Lcom/example/vesper/vesper/store/Evictor$Scope;I)I", sig := { parameters := [(.object "com/example/vesper/vesper/store/Evictor$Scope"), .int], returnType := some .int }, accessFlags := 8, code := some k7c3 }
def k7c4 : Code := { maxStack := 3, maxLocals := 3, code := prog_42_method_11_code, exceptionTable := #[], attributes := #[] }
def k7m4 : Method := { name := "bucketsFor", desc := "(I)I", sig := { parameters := [.int], returnType := some .int }, accessFlags := 0, code := some k7c4 }
def k7c5 : Code := { maxStack := 2, maxLocals := 3, code := prog_42_method_21_code, exceptionTable := #[], attributes := #[] }
def k7m5 : Method := { name := "newTree", desc := "(I)[I", sig := { parameters := [.int], returnType := some (.array .int) }, accessFlags := 2, code := some k7c5 }
/-- com/example/vesper/vesper/store/Table -/
def k7 : Class := { plain "com/example/vesper/vesper/store/Table" (some 0) with
  accessFlags := 48
  interfaces := #[]
  cf := some (fileOf pool7 7 #[] #[{ accessFlags := 0, nameIndex := 5, descriptorIndex := 156, attributes := #[] }, { accessFlags := 0, nameIndex := 51, descriptorIndex := 171, attributes := #[] }, { accessFlags := 0, nameIndex := 13, descriptorIndex := 171, attributes := #[] }, { accessFlags := 8, nameIndex := 125, descriptorIndex := 126, attributes := #[] }, { accessFlags := 0, nameIndex := 129, descriptorIndex := 87, attributes := #[] }, { accessFlags := 2, nameIndex := 25, descriptorIndex := 26, attributes := #[] }] 48 2 #[] #[{ accessFlags := 24, nameIndex := 150, descriptorIndex := 52, attributes := #[] }, { accessFlags := 26, nameIndex := 153, descriptorIndex := 52, attributes := #[] }, { accessFlags := 26, nameIndex := 154, descriptorIndex := 52, attributes := #[] }, { accessFlags := 18, nameIndex := 17, descriptorIndex := 18, attributes := #[] }, { accessFlags := 2, nameIndex := 21, descriptorIndex := 22, attributes := #[] }, { accessFlags := 2, nameIndex := 13, descriptorIndex := 14, attributes := #[] }, { accessFlags := 2, nameIndex := 51, descriptorIndex := 52, attributes := #[] }, { accessFlags := 2, nameIndex := 29, descriptorIndex := 30, attributes := #[] }, { accessFlags := 2, nameIndex := 78, descriptorIndex := 52, attributes := #[] }])
  fields := #[{ name := "INITIAL_BUCKETS", type := .int, accessFlags := 24, slot := 0, constantValue := 0 }, { name := "MAX_BUCKETS", type := .int, accessFlags := 26, slot := 1, constantValue := 0 }, { name := "BLOCK", type := .int, accessFlags := 26, slot := 2, constantValue := 0 }, { name := "hash", type := (.object "com/example/vesper/vesper/store/SipHash"), accessFlags := 18, slot := 0, constantValue := 0 }, { name := "counted", type := (.object "com/example/vesper/vesper/store/Evictor$Scope"), accessFlags := 2, slot := 1, constantValue := 0 }, { name := "buckets", type := (.array (.object "com/example/vesper/vesper/store/Entry")), accessFlags := 2, slot := 2, constantValue := 0 }, { name := "size", type := .int, accessFlags := 2, slot := 3, constantValue := 0 }, { name := "tree", type := (.array .int), accessFlags := 2, slot := 4, constantValue := 0 }, { name := "countedEntries", type := .int, accessFlags := 2, slot := 5, constantValue := 0 }]
  methods := #[k7m0, k7m1, k7m2, k7m3, k7m4, k7m5]
  instanceTypes := #[(.object "com/example/vesper/vesper/store/SipHash"), (.object "com/example/vesper/vesper/store/Evictor$Scope"), (.array (.object "com/example/vesper/vesper/store/Entry")), .int, (.array .int), .int]
  staticTypes := #[.int, .int, .int]
  resolved := Array.replicate 188 none
  statics := none }

def pool8 : Array CpInfo := pool [(1, .methodref 2 3), (0, .class_ 4), (0, .nameAndType 5 6), (0, u "java/lang/Object"), (0, u "<init>"), (0, u "()V"), (0, .fieldref 8 9), (0, .class_ 10), (0, .nameAndType 11 12), (0, u "com/example/vesper/vesper/store/SipHash"), (0, u "k0"), (0, u "J"), (0, .fieldref 8 14), (0, .nameAndType 15 12), (0, u "k1"), (0, .class_ 17), (0, u "com/example/vesper/vesper/store/SipHash$State"), (2, u "(JJ)V"), (2, u "WORD"), (0, u "Ljava/lang/invoke/VarHandle;")] 40

def k8c0 : Code := { maxStack := 3, maxLocals := 5, code := prog_38_method_1_code, exceptionTable := #[], attributes := #[] }
def k8m0 : Method := { name := "<init>", desc := "(JJ)V", sig := { parameters := [.long, .long], returnType := none }, accessFlags := 0, code := some k8c0 }
/-- com/example/vesper/vesper/store/SipHash -/
def k8 : Class := { plain "com/example/vesper/vesper/store/SipHash" (some 0) with
  accessFlags := 48
  interfaces := #[]
  cf := some (fileOf pool8 8 #[.nestMembers #[16]] #[{ accessFlags := 0, nameIndex := 5, descriptorIndex := 20, attributes := #[] }] 48 2 #[] #[{ accessFlags := 26, nameIndex := 23, descriptorIndex := 24, attributes := #[] }, { accessFlags := 18, nameIndex := 11, descriptorIndex := 12, attributes := #[] }, { accessFlags := 18, nameIndex := 15, descriptorIndex := 12, attributes := #[] }])
  fields := #[{ name := "WORD", type := (.object "java/lang/invoke/VarHandle"), accessFlags := 26, slot := 0, constantValue := 0 }, { name := "k0", type := .long, accessFlags := 18, slot := 0, constantValue := 0 }, { name := "k1", type := .long, accessFlags := 18, slot := 1, constantValue := 0 }]
  methods := #[k8m0]
  instanceTypes := #[.long, .long]
  staticTypes := #[(.object "java/lang/invoke/VarHandle")]
  resolved := Array.replicate 65 none
  statics := none }

def pool9 : Array CpInfo := pool [(2, .class_ 4), (1, u "java/lang/Object"), (3, .class_ 10), (1, u "com/example/vesper/vesper/store/Entry"), (4, u "bytes"), (0, u "[B"), (2, u "keyLength"), (0, u "I"), (2, u "use"), (0, u "J"), (8, u "expiresAt"), (24, u "BYTES"), (0, u "NO_EXPIRY"), (3, u "next"), (0, u "Lcom/example/vesper/vesper/store/Entry;")] 16

/-- com/example/vesper/vesper/store/Entry -/
def k9 : Class := { plain "com/example/vesper/vesper/store/Entry" (some 0) with
  accessFlags := 49
  interfaces := #[]
  cf := some (fileOf pool9 8 #[] #[] 49 2 #[] #[{ accessFlags := 25, nameIndex := 59, descriptorIndex := 24, attributes := #[] }, { accessFlags := 24, nameIndex := 58, descriptorIndex := 24, attributes := #[] }, { accessFlags := 0, nameIndex := 15, descriptorIndex := 16, attributes := #[] }, { accessFlags := 16, nameIndex := 19, descriptorIndex := 20, attributes := #[] }, { accessFlags := 0, nameIndex := 23, descriptorIndex := 24, attributes := #[] }, { accessFlags := 0, nameIndex := 33, descriptorIndex := 24, attributes := #[] }, { accessFlags := 0, nameIndex := 63, descriptorIndex := 64, attributes := #[] }])
  fields := #[{ name := "NO_EXPIRY", type := .long, accessFlags := 25, slot := 0, constantValue := 0 }, { name := "BYTES", type := .long, accessFlags := 24, slot := 1, constantValue := 0 }, { name := "bytes", type := (.array .byte), accessFlags := 0, slot := 0, constantValue := 0 }, { name := "keyLength", type := .int, accessFlags := 16, slot := 1, constantValue := 0 }, { name := "use", type := .long, accessFlags := 0, slot := 2, constantValue := 0 }, { name := "expiresAt", type := .long, accessFlags := 0, slot := 3, constantValue := 0 }, { name := "next", type := (.object "com/example/vesper/vesper/store/Entry"), accessFlags := 0, slot := 4, constantValue := 0 }]
  methods := #[]
  instanceTypes := #[(.array .byte), .int, .long, .long, (.object "com/example/vesper/vesper/store/Entry")]
  staticTypes := #[.long, .long]
  resolved := Array.replicate 81 none
  statics := none }

def pool10 : Array CpInfo := pool [(1, .class_ 2), (0, u "java/lang/Math"), (1, .class_ 6), (1, u "java/lang/Object"), (0, u "<init>"), (0, u "()V"), (89, .class_ 100), (1, u "java/lang/Math$RandomNumberGeneratorHolder"), (71, u "negativeZeroFloatBits"), (0, u "J"), (2, u "negativeZeroDoubleBits"), (21, u "max"), (46, u "$assertionsDisabled"), (0, u "Z"), (88, u "(II)I"), (2, u "twoToTheDoubleScaleDown"), (0, u "D"), (4, u "twoToTheDoubleScaleUp"), (9, u "E"), (3, u "PI"), (2, u "TAU"), (2, u "DEGREES_TO_RADIANS"), (0, u "RADIANS_TO_DEGREES")] 94

def k10m0 : Method := { name := "<init>", desc := "()V", sig := { parameters := [], returnType := none }, accessFlags := 2, code := none }
def k10c1 : Code := { maxStack := 2, maxLocals := 2, code := jdk_29_method_65_code, exceptionTable := #[], attributes := #[] }
def k10m1 : Method := { name := "max", desc := "(II)I", sig := { parameters := [.int, .int], returnType := some .int }, accessFlags := 9, code := some k10c1 }
/-- java/lang/Math -/
def k10 : Class := { plain "java/lang/Math" (some 0) with
  accessFlags := 49
  interfaces := #[]
  cf := some (fileOf pool10 1 #[.nestMembers #[98]] #[{ accessFlags := 2, nameIndex := 7, descriptorIndex := 8, attributes := #[] }, { accessFlags := 9, nameIndex := 198, descriptorIndex := 335, attributes := #[] }] 49 4 #[] #[{ accessFlags := 25, nameIndex := 354, descriptorIndex := 339, attributes := #[] }, { accessFlags := 25, nameIndex := 358, descriptorIndex := 339, attributes := #[] }, { accessFlags := 25, nameIndex := 361, descriptorIndex := 339, attributes := #[] }, { accessFlags := 26, nameIndex := 364, descriptorIndex := 339, attributes := #[] }, { accessFlags := 26, nameIndex := 365, descriptorIndex := 339, attributes := #[] }, { accessFlags := 26, nameIndex := 172, descriptorIndex := 173, attributes := #[] }, { accessFlags := 26, nameIndex := 176, descriptorIndex := 173, attributes := #[] }, { accessFlags := 8, nameIndex := 344, descriptorIndex := 339, attributes := #[] }, { accessFlags := 8, nameIndex := 338, descriptorIndex := 339, attributes := #[] }, { accessFlags := 4120, nameIndex := 245, descriptorIndex := 246, attributes := #[] }])
  fields := #[{ name := "E", type := .double, accessFlags := 25, slot := 0, constantValue := 0 }, { name := "PI", type := .double, accessFlags := 25, slot := 1, constantValue := 0 }, { name := "TAU", type := .double, accessFlags := 25, slot := 2, constantValue := 0 }, { name := "DEGREES_TO_RADIANS", type := .double, accessFlags := 26, slot := 3, constantValue := 0 }, { name := "RADIANS_TO_DEGREES", type := .double, accessFlags := 26, slot := 4, constantValue := 0 }, { name := "negativeZeroFloatBits", type := .long, accessFlags := 26, slot := 5, constantValue := 0 }, { name := "negativeZeroDoubleBits", type := .long, accessFlags := 26, slot := 6, constantValue := 0 }, { name := "twoToTheDoubleScaleUp", type := .double, accessFlags := 8, slot := 7, constantValue := 0 }, { name := "twoToTheDoubleScaleDown", type := .double, accessFlags := 8, slot := 8, constantValue := 0 }, { name := "$assertionsDisabled", type := .boolean, accessFlags := 4120, slot := 9, constantValue := 0 }]
  methods := #[k10m0, k10m1]
  instanceTypes := #[]
  staticTypes := #[.double, .double, .double, .double, .double, .long, .long, .double, .double, .boolean]
  resolved := Array.replicate 460 none
  statics := none }

def pool11 : Array CpInfo := pool [(1, u "java/lang/Cloneable"), (0, .class_ 1), (0, u "java/lang/Object"), (0, .class_ 3)] 3

/-- java/lang/Cloneable -/
def k11 : Class := { plain "java/lang/Cloneable" (some 0) with
  accessFlags := 1537
  interfaces := #[]
  cf := some (fileOf pool11 2 #[] #[] 1537 4 #[] #[])
  fields := #[]
  methods := #[]
  instanceTypes := #[]
  staticTypes := #[]
  resolved := Array.replicate 8 none
  statics := none }

/-- the primitive byte -/
def k12 : Class := { plain "byte" none with kind := .primitive 'B', accessFlags := 0x411 }
/-- [B -/
def k13 : Class := { plain "[B" (some 0) with kind := .array 12 .byte, interfaces := #[11, 4], accessFlags := 1041 }

/-- the primitive int -/
def k14 : Class := { plain "int" none with kind := .primitive 'I', accessFlags := 0x411 }
/-- [I -/
def k15 : Class := { plain "[I" (some 0) with kind := .array 14 .int, interfaces := #[11, 4], accessFlags := 1041 }

/-- [Lcom/example/vesper/vesper/store/Entry; -/
def k16 : Class := { plain "[Lcom/example/vesper/vesper/store/Entry;" (some 0) with kind := .array 9 (.object "com/example/vesper/vesper/store/Entry"), interfaces := #[11, 4], accessFlags := 1041 }

def heap : Heap := #[{ cls := 6, slots := #[.ref 1, .ref 3, .ref 2, .null], vm := .statics 6 },
  { cls := 6, slots := #[.null, .int 0, .int 0], vm := .none },
  { cls := 6, slots := #[.null, .int 2, .int 0], vm := .none },
  { cls := 6, slots := #[.null, .int 1, .int 0], vm := .none }]
def classes : Array Class := #[k0, k1, k2, k3, k4, k5, k6, k7, k8, k9, k10, k11, k12, k13, k14, k15, k16]
def interned : List (Array UInt16 × Addr) := []
def slotsUsed : Nat := 13
def theMethod : MethodId := ⟨1, 1⟩
def args0 : Array Value := #[.long 5, .long 7, .int 2, .int 100, .int 1]
def aboutOver (below : List Frame) : State where
  vm := { classes := classes, interned := interned.toArray }
  heap := heap
  slotsUsed := slotsUsed
  threads := #[{ frames := .invoking theMethod args0 :: below }]
def below0 : List Frame := [.native { method := ⟨0, 0⟩, args := #[] }]
def about1 : State := aboutOver below0
def p0 : Program := .bare "" "" ""
def e0 : Env := launch0.env 0 0 0
theorem w_frames : about1.frames = Frame.invoking theMethod args0 :: below0 := rfl
set_option maxRecDepth 65536 in
theorem w_args : argsFit about1.vm theMethod args0 = true := by decide +kernel
set_option maxRecDepth 65536 in
theorem w_heap : heapFits about1 = true := by decide +kernel
set_option maxRecDepth 65536 in
theorem w_runnable : about1.curStatus? = some .runnable := by decide +kernel
set_option maxRecDepth 65536 in
theorem w_alone : about1.alone = true := by decide +kernel
set_option maxRecDepth 65536 in
theorem w_named : about1.methodNamed? x = some theMethod := by decide +kernel
set_option maxRecDepth 65536 in
theorem w_hears : about1.hears theMethod below0 = true := by decide +kernel
set_option maxRecDepth 65536 in
theorem w_ripe : about1.ripe theMethod args0 below0 = true := by decide +kernel
theorem w_running : about1.status = .running := rfl
set_option maxRecDepth 65536 in
theorem w_room : about1.hasRoom e0.platform room_1 = true :=
  launch0.hasRoom_least _ room_1 (by decide +kernel) (by decide +kernel) (by decide +kernel) (by decide +kernel) (by decide +kernel) (by decide +kernel)
theorem allAtoms_all (ts : List Jvm.Cond) (a : Array Jvm.Value) (st : Jvm.State) : (allAtoms ts).before a st = ts.all (fun c => c.before a st) := by
  induction ts with
  | nil => rfl
  | cons c t ih =>
    show (Jvm.Cond.and c (allAtoms t)).before a st = _
    rw [Jvm.Cond.before_and, ih, List.all_cons]
def words1 : List Jvm.Cond := Jvm.Cond.code x code maxLocals ret :: tables_1
/-- a 'code' word, met by the world's own term for the bytes: nothing is compared byte by byte -/
theorem code_word {y : MethodName} {bytes : ByteArray} {mx : Nat} {rt : Option FieldType} {a : Array Value} {s : State} {m : MethodId} {meth : Method} {c : Code} (h1 : s.methodNamed? y = some m) (h2 : s.vm.method? m = some meth) (h3 : meth.code = some c) (h4 : c.code = bytes)
    (h5 : (c.maxLocals == mx && c.exceptionTable.isEmpty && decide (c.maxStack ≤ mostOperands) && decide (meth.sig.returnType = rt) && !meth.locks && decide (parseMethodDescriptor y.desc = some meth.sig)) = true) : (Jvm.Cond.code y bytes mx rt).before a s = true := by
  simp only [Bool.and_eq_true, beq_iff_eq, Bool.not_eq_true', decide_eq_true_eq] at h5
  obtain ⟨⟨⟨⟨⟨g1, g2⟩, g3⟩, g4⟩, g5⟩, g6⟩ := h5
  simp [Cond.before, Cond.holds, Cond.value, h1, h2, h3, h4, g1, g2, g3, g4, g5, g6]
def isCode : Jvm.Cond → Bool
  | .code _ _ _ _ => true
  | _ => false
theorem all_split {L : List Jvm.Cond} {P : Jvm.Cond → Bool} (h1 : L.all (fun c => isCode c || P c) = true) (h2 : ∀ c ∈ L.filter isCode, P c = true) : L.all P = true := by
  refine List.all_eq_true.mpr fun c hc => ?_
  have h := List.all_eq_true.mp h1 c hc
  rcases Bool.eq_false_or_eq_true (isCode c) with hi | hi
  · exact h2 c (List.mem_filter.mpr ⟨hc, hi⟩)
  · simpa [hi] using h
set_option maxRecDepth 65536 in
theorem w_c0 : (Jvm.Cond.code x code maxLocals ret).before args0 about1 = true := code_word (m := ⟨1, 1⟩) (meth := k1m1) (c := k1c1) (by decide +kernel) rfl rfl rfl (by decide +kernel)
set_option maxRecDepth 65536 in
theorem w_c1 : (Jvm.Cond.code ({ cls := "com/example/vesper/vesper/store/SipHash", name := "<init>", desc := "(JJ)V" } : Jvm.MethodName) prog_38_method_1_code (5 : Nat) (Option.none : Option Jvm.ClassFile.FieldType)).before args0 about1 = true := code_word (m := ⟨8, 0⟩) (meth := k8m0) (c := k8c0) (by decide +kernel) rfl rfl rfl (by decide +kernel)
set_option maxRecDepth 65536 in
theorem w_c2 : (Jvm.Cond.code ({ cls := "java/lang/Object", name := "<init>", desc := "()V" } : Jvm.MethodName) object_method_1_code (1 : Nat) (Option.none : Option Jvm.ClassFile.FieldType)).before args0 about1 = true := code_word (m := ⟨0, 0⟩) (meth := k0m0) (c := k0c0) (by decide +kernel) rfl rfl rfl (by decide +kernel)
set_option maxRecDepth 65536 in
theorem w_c3 : (Jvm.Cond.code ({ cls := "com/example/vesper/vesper/store/Table", name := "<init>", desc := "(Lcom/example/vesper/vesper/store/SipHash;Lcom/example/vesper/vesper/store/Evictor$Scope;)V" } : Jvm.MethodName) prog_42_method_1_code (3 : Nat) (Option.none : Option Jvm.ClassFile.FieldType)).before args0 about1 = true := code_word (m := ⟨7, 0⟩) (meth := k7m0) (c := k7c0) (by decide +kernel) rfl rfl rfl (by decide +kernel)
set_option maxRecDepth 65536 in
theorem w_c4 : (Jvm.Cond.code ({ cls := "com/example/vesper/vesper/store/Table", name := "newTree", desc := "(I)[I" } : Jvm.MethodName) prog_42_method_21_code (3 : Nat) (Option.some (Jvm.ClassFile.FieldType.array Jvm.ClassFile.FieldType.int))).before args0 about1 = true := code_word (m := ⟨7, 5⟩) (meth := k7m5) (c := k7c5) (by decide +kernel) rfl rfl rfl (by decide +kernel)
set_option maxRecDepth 65536 in
theorem w_c5 : (Jvm.Cond.code ({ cls := "com/example/vesper/vesper/store/Table", name := "treeLength", desc := "(Lcom/example/vesper/vesper/store/Evictor$Scope;I)I" } : Jvm.MethodName) prog_42_method_10_code (2 : Nat) (Option.some Jvm.ClassFile.FieldType.int)).before args0 about1 = true := code_word (m := ⟨7, 3⟩) (meth := k7m3) (c := k7c3) (by decide +kernel) rfl rfl rfl (by decide +kernel)
set_option maxRecDepth 65536 in
theorem w_c6 : (Jvm.Cond.code ({ cls := "com/example/vesper/vesper/store/Table", name := "bucketsFor", desc := "(I)I" } : Jvm.MethodName) prog_42_method_11_code (3 : Nat) (Option.some Jvm.ClassFile.FieldType.int)).before args0 about1 = true := code_word (m := ⟨7, 4⟩) (meth := k7m4) (c := k7c4) (by decide +kernel) rfl rfl rfl (by decide +kernel)
set_option maxRecDepth 65536 in
theorem w_c7 : (Jvm.Cond.code ({ cls := "com/example/vesper/vesper/store/Table", name := "buckets", desc := "()I" } : Jvm.MethodName) prog_42_method_9_code (1 : Nat) (Option.some Jvm.ClassFile.FieldType.int)).before args0 about1 = true := code_word (m := ⟨7, 2⟩) (meth := k7m2) (c := k7c2) (by decide +kernel) rfl rfl rfl (by decide +kernel)
set_option maxRecDepth 65536 in
theorem w_c8 : (Jvm.Cond.code ({ cls := "com/example/vesper/vesper/store/Table", name := "size", desc := "()I" } : Jvm.MethodName) prog_42_method_8_code (1 : Nat) (Option.some Jvm.ClassFile.FieldType.int)).before args0 about1 = true := code_word (m := ⟨7, 1⟩) (meth := k7m1) (c := k7c1) (by decide +kernel) rfl rfl rfl (by decide +kernel)
set_option maxRecDepth 65536 in
theorem w_c9 : (Jvm.Cond.code ({ cls := "java/lang/Math", name := "max", desc := "(II)I" } : Jvm.MethodName) jdk_29_method_65_code (2 : Nat) (Option.some Jvm.ClassFile.FieldType.int)).before args0 about1 = true := code_word (m := ⟨10, 1⟩) (meth := k10m1) (c := k10c1) (by decide +kernel) rfl rfl rfl (by decide +kernel)
def codes1 : List Jvm.Cond := [Jvm.Cond.code x code maxLocals ret, Jvm.Cond.code ({ cls := "com/example/vesper/vesper/store/SipHash", name := "<init>", desc := "(JJ)V" } : Jvm.MethodName) prog_38_method_1_code (5 : Nat) (Option.none : Option Jvm.ClassFile.FieldType), Jvm.Cond.code ({ cls := "java/lang/Object", name := "<init>", desc := "()V" } : Jvm.MethodName) object_method_1_code (1 : Nat) (Option.none : Option Jvm.ClassFile.FieldType), Jvm.Cond.code ({ cls := "com/example/vesper/vesper/store/Table", name := "<init>", desc := "(Lcom/example/vesper/vesper/store/SipHash;Lcom/example/vesper/vesper/store/Evictor$Scope;)V" } : Jvm.MethodName) prog_42_method_1_code (3 : Nat) (Option.none : Option Jvm.ClassFile.FieldType), Jvm.Cond.code ({ cls := "com/example/vesper/vesper/store/Table", name := "newTree", desc := "(I)[I" } : Jvm.MethodName) prog_42_method_21_code (3 : Nat) (Option.some (Jvm.ClassFile.FieldType.array Jvm.ClassFile.FieldType.int)), Jvm.Cond.code ({ cls := "com/example/vesper/vesper/store/Table", name := "treeLength", desc := "(Lcom/example/vesper/vesper/store/Evictor$Scope;I)I" } : Jvm.MethodName) prog_42_method_10_code (2 : Nat) (Option.some Jvm.ClassFile.FieldType.int), Jvm.Cond.code ({ cls := "com/example/vesper/vesper/store/Table", name := "bucketsFor", desc := "(I)I" } : Jvm.MethodName) prog_42_method_11_code (3 : Nat) (Option.some Jvm.ClassFile.FieldType.int), Jvm.Cond.code ({ cls := "com/example/vesper/vesper/store/Table", name := "buckets", desc := "()I" } : Jvm.MethodName) prog_42_method_9_code (1 : Nat) (Option.some Jvm.ClassFile.FieldType.int), Jvm.Cond.code ({ cls := "com/example/vesper/vesper/store/Table", name := "size", desc := "()I" } : Jvm.MethodName) prog_42_method_8_code (1 : Nat) (Option.some Jvm.ClassFile.FieldType.int), Jvm.Cond.code ({ cls := "java/lang/Math", name := "max", desc := "(II)I" } : Jvm.MethodName) jdk_29_method_65_code (2 : Nat) (Option.some Jvm.ClassFile.FieldType.int)]
set_option maxRecDepth 65536 in
theorem codes_eq : words1.filter isCode = codes1 := rfl
theorem w_codes : ∀ c ∈ words1.filter isCode, c.before args0 about1 = true := by
  rw [codes_eq]
  intro c hc
  simp only [codes1, List.mem_cons, List.not_mem_nil, or_false] at hc
  rcases hc with rfl | rfl | rfl | rfl | rfl | rfl | rfl | rfl | rfl | rfl
  · exact w_c0
  · exact w_c1
  · exact w_c2
  · exact w_c3
  · exact w_c4
  · exact w_c5
  · exact w_c6
  · exact w_c7
  · exact w_c8
  · exact w_c9
set_option maxRecDepth 65536 in
theorem w_t1 : (words1.take 24).all (fun c => isCode c || c.before args0 about1) = true := by decide +kernel
set_option maxRecDepth 65536 in
theorem w_t2 : ((words1.drop 24).take 24).all (fun c => isCode c || c.before args0 about1) = true := by decide +kernel
set_option maxRecDepth 65536 in
theorem w_t3 : ((words1.drop 24).drop 24).all (fun c => isCode c || c.before args0 about1) = true := by decide +kernel
theorem w_tables : (allAtoms (Jvm.Cond.code x code maxLocals ret :: tables_1)).before args0 about1 = true := by
  rw [allAtoms_all]
  show words1.all (fun c => c.before args0 about1) = true
  refine all_split ?_ w_codes
  rw [← List.take_append_drop 24 words1, List.all_append, w_t1, ← List.take_append_drop 24 (words1.drop 24), List.all_append, w_t2, w_t3]
  rfl
set_option maxRecDepth 65536 in
theorem w_case : (Jvm.Cond.and given_1 narrow_1).before args0 about1 = true := by decide +kernel
theorem w_applies : (headSpec (Jvm.Cond.code x code maxLocals ret :: tables_1) room_1).applies x e0.platform about1 = true :=
  (Spec.applies_iff w_frames).mpr ⟨w_running, w_runnable, w_alone, w_named, w_hears, w_ripe, w_room, w_tables⟩
theorem atStart : AtStart classFile x code maxLocals ret World_1 tables_1 room_1 Calls_1 rest_1 Pre_1 launch0 p0 e0 about1 theMethod args0 below0 :=
  ⟨lists_1, trivial, launch0.admits_env _ _ _, launch0.least_env, fairChoices_fair.cas, fairChoices_fair.clock, w_frames, w_args, w_heap, w_applies, trivial, trivial, w_case⟩
end start1
theorem witness_1 : WitnessClaimed_1 := ⟨start1.p0, start1.e0, start1.about1, start1.theMethod, start1.args0, start1.below0, start1.atStart⟩
end Jvm.Pilot.@@N@@

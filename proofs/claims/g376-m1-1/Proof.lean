import JvmDerived
import JvmDerived.Pilot.@@N@@Statement
import JvmDerived.Pilot.@@N@@Code
set_option linter.unusedVariables false
set_option linter.unusedSimpArgs false
@@BLOCK:NumsL.lean.txt@@
namespace Jvm.Pilot.@@N@@
open Jvm Jvm.ClassFile Sem Op Lib Jvm.Free Jvm.Stand Jvm.LawKit Jvm.RoadKit Bundle Jvm.Pilot.@@N@@.Jvm.D
/-- from the state A the body's walk comes to an end of which Q tells -/
def OwnGo (p : Program) (e : Env) (below : List Frame) (Q : Outcome → State → Prop) (A : State) : Prop :=
  ∃ s₂ o, Steps p.tables e below A s₂ ∧ s₂.status = .running ∧ Ended s₂ below o ∧ Q o s₂
theorem own_go {p : Program} {e : Env} {below : List Frame} {Q : Outcome → State → Prop} {A B : State} (st : ∀ t, Steps p.tables e below B t → Steps p.tables e below A t) (h : OwnGo p e below Q B) : OwnGo p e below Q A := by
  obtain ⟨s₂, o, h1, h2⟩ := h
  exact ⟨s₂, o, st _ h1, h2⟩
theorem own_fldI {args : Array Value} {s : State} {t : Term} {C n d : String} {k : Int32} {a : Addr} (ev : t.eval args s none [] s = some (.ref a)) (h : (Jvm.Cond.eq (Term.field t C n d) (Term.int k)).value args s none s [] = some true) : Fld s s.heap a C n d (.int k) := by
  apply Fld.start
  have q := fld_at (C := C) (n := n) (dd := d) ev
  cases hf : s.fieldOf? a C n d with
  | none => rw [hf] at q; simp [Cond.value, q] at h
  | some v => rw [hf] at q; cases v <;> simp [Cond.value, q, Term.int_eval] at h; rw [h]
theorem own_fldL {args : Array Value} {s : State} {t : Term} {C n d : String} {k : Int64} {a : Addr} (ev : t.eval args s none [] s = some (.ref a)) (h : (Jvm.Cond.eq (Term.field t C n d) (Term.long k)).value args s none s [] = some true) : Fld s s.heap a C n d (.long k) := by
  apply Fld.start
  have q := fld_at (C := C) (n := n) (dd := d) ev
  cases hf : s.fieldOf? a C n d with
  | none => rw [hf] at q; simp [Cond.value, q] at h
  | some v => rw [hf] at q; cases v <;> simp [Cond.value, q, long_at] at h; rw [h]
theorem own_refne {a b : Addr} (h : a ≠ b) : decide (Value.ref a = Value.ref b) = false := decide_eq_false fun q => h (Value.ref.inj q)
theorem own_refeq (a : Addr) : decide (Value.ref a = Value.ref a) = true := decide_eq_true rfl
theorem own_rn (a : Addr) : decide (Value.ref a = Value.null) = false := decide_eq_false fun q => by cases q
theorem own_nr (a : Addr) : decide (Value.null = Value.ref a) = false := decide_eq_false fun q => by cases q
theorem own_narb (x : Int32) : nar .byte (x.toInt8.toInt32) = x.toInt8.toInt32 := by simp [nar]
theorem own_selp {Z s : State} {a0 args : Array Value} {y : MethodName} {n : Nat} (hZ : Z.Warmed39 s.vm) (wi : (Jvm.Cond.instantiable y.cls n).before a0 Z = true) (wp : (Jvm.Cond.privateMethod y).before a0 Z = true) (wm : (Jvm.Cond.instanceMethod y).before a0 Z = true)
    (hy : y.cls ≠ "java/lang/invoke/MethodHandle" ∧ y.cls ≠ "java/lang/invoke/VarHandle") : (Jvm.Cond.selects y.cls y y).before args s = true := by
  obtain ⟨c, k, h1, h2, -, h4, -⟩ := Cond.instantiable_spec (mv hZ wi : (Jvm.Cond.instantiable y.cls n).before args s = true)
  exact selects_self_of_private h1 h2 (by revert h4; cases k.isInterface <;> simp) (Cond.privateMethod_at (mvP hZ wp (args := args))) (mv hZ wm) hy
theorem own_len {s : State} {args : Array Value} {t : Term} {a : Addr} {c : Cell} {ty : FieldType} {n : Int32} (ev : t.eval args s none [] s = some (.ref a)) (A : Arr s s.heap a c ty) (h : (Jvm.Cond.eq (Term.length t) (Term.int n)).value args s none s [] = some true) : c.slots.size < 2 ^ 31 ∧ c.slots.size.toInt32 = n := by
  have e1 := eqv_i (Term.int_eval n) h
  have hA := A.fin (Vm.Alike.refl _)
  have hs : c.slots.size < 2 ^ 31 := by
    refine Nat.lt_of_not_le fun q => ?_
    simp [Term.eval, ev, hA, Nat.not_lt.mpr q] at e1
  exact ⟨hs, by have := (len_f ev hA hs).symm.trans e1; simpa using this⟩
theorem own_monoW {s : State} {o : Outcome} {t : State} {L : List Loc} {k n k' n' : Nat} (h : ReturnedEndW s o t L k n) (hk : k ≤ k') (hn : n ≤ n') : ReturnedEndW s o t L k' n' := ⟨h.1, h.2.1, h.2.2.1, h.2.2.2.mono hk hn⟩
theorem own_newlt {a b k : Nat} (q : a < k) (g : k ≤ b) : a ≠ b := Nat.ne_of_lt (Nat.lt_of_lt_of_le q g)
theorem own_sz {Z : State} {n0 : Nat} {h : Heap} (O : Old Z n0 h) : n0 ≤ h.size := O.1 ▸ O.2.1
theorem own_newne {a b : Addr} {h : Heap} (g : b = h.size) (q : a < h.size) : a ≠ b := fun z => by rw [z, g] at q; exact Nat.lt_irrefl _ q
def OwnFacts (Z : State) (aNONE : Addr) : Prop := (Sta Z Z.heap "com/example/reweave/reweave/control/Keys" "NONE" "Lcom/example/reweave/reweave/control/Keys;" (.ref aNONE)) ∧ (Exa Z Z.heap aNONE "com/example/reweave/reweave/control/Keys") ∧ (Fld Z Z.heap aNONE "com/example/reweave/reweave/control/Keys" "size" "I" (.int (0 : Int32)))
/-- an int array: its length and, place by place, what it holds -/
def IA (Z : State) (h : Heap) (a : Addr) (n : Nat) (f : Nat → Int32) : Prop := ∃ c : Cell, Arr Z h a c .int ∧ c.slots.size = n ∧ n < 2 ^ 31 ∧ ∀ i, i < n → c.slots[i]? = some (.int (f i))
section Own
variable {Z : State} {h h' : Heap} {a b : Addr} {n sl : Nat} {f : Nat → Int32} {v : Value} {ws : List Addr}
theorem IA.lt (F : IA Z h a n f) : a < h.size := by obtain ⟨c, A, -⟩ := F; exact A.lt
theorem IA.ext (F : IA Z h a n f) (E : Ext h h') : IA Z h' a n f := by obtain ⟨c, A, r⟩ := F; exact ⟨c, A.ext E, r⟩
theorem IA.other (F : IA Z h b n f) (W : Wr h h' a sl v) (q : b ≠ a) : IA Z h' b n f := by obtain ⟨c, A, r⟩ := F; exact ⟨c, A.other W q, r⟩
theorem IA.keep (F : IA Z h a n f) (K : Keep h h' ws) (q : a ∉ ws) : IA Z h' a n f := by obtain ⟨c, A, r⟩ := F; exact ⟨c, ⟨K.2.1 a c A.1 q, A.2⟩, r⟩
def own_upd (f : Nat → Int32) (j : Nat) (x : Int32) : Nat → Int32 := fun i => if i = j then x else f i
theorem IA.set {c : Cell} {j x : Int32} (A : Arr Z h a c .int) (S : c.slots.size = n) (M : n < 2 ^ 31) (H : ∀ i, i < n → c.slots[i]? = some (.int (f i))) (W : Wr h h' a j.toNatClampNeg (.int x)) : IA Z h' a n (own_upd f j.toNatClampNeg x) := by
  refine ⟨_, A.same W, by rw [sz_set]; exact S, M, fun i hi => ?_⟩
  by_cases q : i = j.toNatClampNeg
  · subst q
    have : j.toNatClampNeg < c.slots.size := S ▸ hi
    simp [Cell.setSlot, own_upd, this]
  · simp [Cell.setSlot, own_upd, q, Ne.symm q, H i hi]
theorem own_nn {j : Int32} (h0 : 0 ≤ j.toInt) : ¬ j < 0 := fun q => by
  rw [Int32.lt_iff_toInt_lt] at q
  have : (0 : Int32).toInt = 0 := by decide
  omega
theorem own_nat {j : Int32} (h0 : 0 ≤ j.toInt) : (j.toNatClampNeg : Int) = j.toInt := (nat_of (own_nn h0)).symm
theorem own_inb {c : Cell} {j : Int32} (S : c.slots.size = n) (h0 : 0 ≤ j.toInt) (h1 : j.toInt < n) : ¬ (j < 0 ∨ c.slots.size ≤ j.toNatClampNeg) := by
  have e := own_nat h0
  rintro (q | q)
  · exact own_nn h0 q
  · omega
theorem IA.at {c : Cell} {j : Int32} (H : ∀ i, i < n → c.slots[i]? = some (.int (f i))) (h0 : 0 ≤ j.toInt) (h1 : j.toInt < n) : c.slots[j.toNatClampNeg]? = some (.int (f j.toNatClampNeg)) :=
  H _ (by have := own_nat h0; omega)
theorem IA.new {k : ClassId} {z : Int32} (A : Arr Z h a (newA k .int z) .int) (q : ¬ z < 0) : IA Z h a z.toNatClampNeg (fun _ => 0) := by
  have M := (back32 q).2
  refine ⟨_, A, sz_new _ _ _, M, fun i hi => ?_⟩
  have e := get_new (cA := k) (ty := .int) (n := z) (k := i.toInt32) (idx_in hi M)
  have e2 : i.toInt32.toNatClampNeg = i := by
    have hi31 : i < 2 ^ 31 := Nat.lt_trans hi M
    simp [Int32.toNatClampNeg, len_toInt hi31]
  rw [e2] at e
  exact e
theorem IA.of_arv {k : ClassId} {z : Int32} {vs : List Value} {d : Value} (F : Arv Z h a k .int z vs d) : ∃ f, IA Z h a z.toNatClampNeg f := by
  obtain ⟨c, A, -, S, q, H, G⟩ := F
  refine ⟨fun i => match vs.getD i d with | .int x => x | _ => 0, c, A, S, (back32 q).2, fun i hi => ?_⟩
  rw [H i (S ▸ hi)]
  obtain ⟨x, hx⟩ := fit_I (G i (S ▸ hi)) (Or.inl rfl)
  simp only [hx]
end Own
/-- where the walk over the slots ends -/
def own_probe (g f : Nat → Int32) (key mask : Int32) : Nat → Int32 → Int32
  | 0, j => j
  | t + 1, j => if g j.toNatClampNeg = 0 then j else if f (g j.toNatClampNeg - 1).toNatClampNeg = key then j else own_probe g f key mask t ((j + 1) &&& mask)
theorem own_and_rng (x m : Int32) {k : Nat} (hk : k < 31) (hm : m.toBitVec.toNat = 2 ^ k - 1) : 0 ≤ (x &&& m).toInt ∧ (x &&& m).toInt < 2 ^ k := by
  have e : (x &&& m).toInt = x.toInt % 2 ^ k := Jvm.Kit.i32_mask x m (by omega) hm
  have h0 : (0 : Int) < 2 ^ k := by exact_mod_cast Nat.two_pow_pos k
  rw [e]
  exact ⟨Int.emod_nonneg _ (by omega), Int.emod_lt_of_pos _ h0⟩
theorem own_probe_rng {g f : Nat → Int32} {key m : Int32} {k : Nat} (hk : k < 31) (hm : m.toBitVec.toNat = 2 ^ k - 1) : ∀ (t : Nat) (j : Int32), 0 ≤ j.toInt → j.toInt < 2 ^ k → 0 ≤ (own_probe g f key m t j).toInt ∧ (own_probe g f key m t j).toInt < 2 ^ k
  | 0, j, h0, h1 => ⟨h0, h1⟩
  | t + 1, j, h0, h1 => by
    unfold own_probe
    split
    · exact ⟨h0, h1⟩
    · split
      · exact ⟨h0, h1⟩
      · exact own_probe_rng hk hm t _ (own_and_rng _ m hk hm).1 (own_and_rng _ m hk hm).2
/-- the next slot, as a number -/
theorem own_next {j m : Int32} {k : Nat} (hk : k < 31) (hm : m.toBitVec.toNat = 2 ^ k - 1) (h0 : 0 ≤ j.toInt) (h1 : j.toInt < 2 ^ k) : ((j + 1) &&& m).toNatClampNeg = (j.toNatClampNeg + 1) % 2 ^ k := by
  have e : ((j + 1) &&& m).toInt = (j + 1).toInt % 2 ^ k := Jvm.Kit.i32_mask _ m (by omega) hm
  have hp : (2 : Int) ^ k ≤ 2 ^ 30 := by
    have := Nat.pow_le_pow_right (n := 2) (by decide) (show k ≤ 30 by omega)
    exact_mod_cast this
  have c1 : (1 : Int32).toInt = 1 := by decide
  have e2 : (j + 1).toInt = j.toInt + 1 := by rw [Jvm.Kit.i32_add, c1] <;> omega
  have q := own_nat (own_and_rng (j + 1) m hk hm).1
  have q2 := own_nat h0
  rw [e, e2, ← q2] at q
  have : ((((j.toNatClampNeg + 1) % 2 ^ k : Nat)) : Int) = ((j.toNatClampNeg : Int) + 1) % 2 ^ k := by push_cast; rfl
  omega
/-- how many places are taken -/
def own_cnt (g : Nat → Int32) : Nat → Nat
  | 0 => 0
  | n + 1 => own_cnt g n + (if g n = 0 then 0 else 1)
theorem own_cnt_le (g : Nat → Int32) : ∀ n, own_cnt g n ≤ n
  | 0 => Nat.le_refl _
  | n + 1 => by have := own_cnt_le g n; unfold own_cnt; split <;> omega
theorem own_cnt_free {g : Nat → Int32} : ∀ {n : Nat}, own_cnt g n < n → ∃ z, z < n ∧ g z = 0
  | 0, q => absurd q (Nat.not_lt_zero _)
  | n + 1, q => by
    unfold own_cnt at q
    by_cases e : g n = 0
    · exact ⟨n, Nat.lt_succ_self n, e⟩
    · rw [if_neg e] at q
      obtain ⟨z, h1, h2⟩ := own_cnt_free (g := g) (n := n) (by omega)
      exact ⟨z, by omega, h2⟩
theorem own_cnt_upd {g : Nat → Int32} {j : Nat} {x : Int32} : ∀ n, own_cnt (own_upd g j x) n ≤ own_cnt g n + 1 ∧ (n ≤ j → own_cnt (own_upd g j x) n = own_cnt g n)
  | 0 => ⟨by simp [own_cnt], fun _ => rfl⟩
  | n + 1 => by
    obtain ⟨h1, h2⟩ := own_cnt_upd (g := g) (j := j) (x := x) n
    unfold own_cnt
    by_cases e : n = j
    · have := h2 (by omega)
      refine ⟨?_, fun q => by omega⟩
      rw [this]
      split <;> split <;> omega
    · have u : own_upd g j x n = g n := if_neg e
      rw [u]
      refine ⟨by split <;> omega, fun q => by rw [h2 (by omega)]⟩
theorem own_cnt_zero : ∀ n, own_cnt (fun _ => 0) n = 0
  | 0 => rfl
  | n + 1 => by unfold own_cnt; rw [own_cnt_zero n]; simp
/-- a free slot lies ahead -/
theorem own_ahead {g : Nat → Int32} {S : Nat} {j : Nat} (hj : j < S) (h : ∃ z, z < S ∧ g z = 0) : ∃ d, d < S ∧ g ((j + d) % S) = 0 := by
  obtain ⟨z, hz, e⟩ := h
  refine ⟨(z + S - j) % S, Nat.mod_lt _ (by omega), ?_⟩
  have : (j + (z + S - j) % S) % S = z := by
    rw [Nat.add_mod, Nat.mod_mod, ← Nat.add_mod]
    have : j + (z + S - j) = z + S := by omega
    rw [this, Nat.add_mod_right, Nat.mod_eq_of_lt hz]
  rw [this]; exact e
theorem own_ahead_next {g : Nat → Int32} {S t j : Nat} (hj : j < S) (hn : ¬ g j = 0) (h : ∃ d, d < t + 1 ∧ g ((j + d) % S) = 0) : ∃ d, d < t ∧ g (((j + 1) % S + d) % S) = 0 := by
  obtain ⟨d, hd, e⟩ := h
  cases d with
  | zero => rw [Nat.add_zero, Nat.mod_eq_of_lt hj] at e; exact absurd e hn
  | succ d =>
    refine ⟨d, by omega, ?_⟩
    rw [Nat.mod_add_mod]
    have : j + 1 + d = j + (d + 1) := by omega
    rw [this]; exact e
/-- is the key among the first ones -/
def own_find (f : Nat → Int32) (key : Int32) : Nat → Int32 → Int32
  | 0, _ => 0
  | t + 1, i => if f i.toNatClampNeg = key then 1 else own_find f key t (i + 1)
theorem own_find_two (f : Nat → Int32) (key : Int32) : ∀ (t : Nat) (i : Int32), own_find f key t i = 0 ∨ own_find f key t i = 1
  | 0, _ => Or.inl rfl
  | t + 1, i => by unfold own_find; split; exact Or.inr rfl; exact own_find_two f key t _
theorem own_inbz {c : Cell} {j z : Int32} (S : c.slots.size = z.toNatClampNeg) (hz : 0 ≤ z.toInt) (h0 : 0 ≤ j.toInt) (h1 : j.toInt < z.toInt) : ¬ (j < 0 ∨ c.slots.size ≤ j.toNatClampNeg) :=
  own_inb S h0 (by have := own_nat hz; omega)
theorem IA.atz {c : Cell} {f : Nat → Int32} {j z : Int32} (H : ∀ i, i < z.toNatClampNeg → c.slots[i]? = some (.int (f i))) (hz : 0 ≤ z.toInt) (h0 : 0 ≤ j.toInt) (h1 : j.toInt < z.toInt) : c.slots[j.toNatClampNeg]? = some (.int (f j.toNatClampNeg)) :=
  H _ (by have := own_nat h0; have := own_nat hz; omega)
/-- the slots name places below s, and at most s of them are taken -/
def OwnS (S : Int32) (g : Nat → Int32) (s : Int32) : Prop := (∀ j, j < S.toNatClampNeg → 0 ≤ (g j).toInt ∧ (g j).toInt ≤ s.toInt) ∧ own_cnt g S.toNatClampNeg ≤ s.toNatClampNeg
theorem OwnS.free {S s : Int32} {g : Nat → Int32} (H : OwnS S g s) (h0 : 0 ≤ s.toInt) (h1 : s.toInt < S.toInt) : ∃ z, z < S.toNatClampNeg ∧ g z = 0 :=
  own_cnt_free (by have := own_nat h0; have := own_nat (j := S) (by omega); have := H.2; omega)
theorem OwnS.zero {S s : Int32} (h0 : 0 ≤ s.toInt) : OwnS S (fun _ => 0) s := by
  have c : (0 : Int32).toInt = 0 := by decide
  refine ⟨fun j _ => ?_, by rw [own_cnt_zero]; exact Nat.zero_le _⟩
  show 0 ≤ (0 : Int32).toInt ∧ (0 : Int32).toInt ≤ s.toInt
  omega
theorem own_succ {s : Int32} (h0 : 0 ≤ s.toInt) (h1 : s.toInt < 1000) : (s + (1 : Int32)).toInt = s.toInt + 1 := by
  have c1 : (1 : Int32).toInt = 1 := by decide
  rw [Jvm.Kit.i32_add, c1] <;> omega
theorem OwnS.step {S s : Int32} {g : Nat → Int32} {r : Nat} (H : OwnS S g s) (h0 : 0 ≤ s.toInt) (h1 : s.toInt < 1000) : OwnS S (own_upd g r (s + (1 : Int32))) (s + (1 : Int32)) := by
  have e := own_succ h0 h1
  refine ⟨fun j hj => ?_, ?_⟩
  · unfold own_upd
    split
    · omega
    · have := H.1 j hj; omega
  · have q := (own_cnt_upd (g := g) (j := r) (x := s + (1 : Int32)) S.toNatClampNeg).1
    have q1 := own_nat h0
    have q2 := own_nat (j := s + (1 : Int32)) (by omega)
    have := H.2
    omega
theorem OwnS.up {S s s' : Int32} {g : Nat → Int32} (H : OwnS S g s) (h0 : 0 ≤ s.toInt) (h : s.toInt ≤ s'.toInt) : OwnS S g s' := by
  refine ⟨fun j hj => ?_, ?_⟩
  · have := H.1 j hj; omega
  · have := H.2; have := own_nat h0; have := own_nat (j := s') (by omega); omega
def own_slot (S : Int32) (g f : Nat → Int32) (key : Int32) : Int32 := own_probe g f key (S - (1 : Int32)) S.toNatClampNeg (key &&& (S - (1 : Int32)))
theorem own_pred {x z : Int32} (h0 : 0 ≤ x.toInt) (hn : ¬ x = 0) (h1 : x.toInt ≤ z.toInt) : 0 ≤ (x - (1 : Int32)).toInt ∧ (x - (1 : Int32)).toInt < z.toInt := by
  have c1 : (1 : Int32).toInt = 1 := by decide
  have c0 : (0 : Int32).toInt = 0 := by decide
  have hx : x.toInt ≠ 0 := fun q => hn (Int32.toInt_inj.mp (q.trans c0.symm))
  have := x.toInt_lt
  have e : (x - (1 : Int32)).toInt = x.toInt - 1 := by rw [Jvm.Kit.i32_sub, c1] <;> omega
  omega
theorem own_n32 : (32 : Int32).toNatClampNeg = 32 := by decide
theorem own_n64 : (64 : Int32).toNatClampNeg = 64 := by decide
theorem own_n128 : (128 : Int32).toNatClampNeg = 128 := by decide
theorem own_ltI {x y : Int32} (h : x.toInt < y.toInt) : x < y := Int32.lt_iff_toInt_lt.mpr h
theorem own_geI {x y : Int32} (h : y.toInt ≤ x.toInt) : ¬ x < y := fun q => by have := Int32.lt_iff_toInt_lt.mp q; omega
theorem own_neI {x y : Int32} (h : x.toInt ≠ y.toInt) : ¬ x = y := fun q => h (congrArg Int32.toInt q)
theorem own_dbl {s : Int32} (h0 : 0 ≤ s.toInt) (h1 : s.toInt < 1000) : ((2 : Int32) * (s + (1 : Int32))).toInt = 2 * (s.toInt + 1) := by
  have c2 : (2 : Int32).toInt = 2 := by decide
  have e := own_succ h0 h1
  rw [Jvm.Kit.i32_mul (by rw [c2, e]; omega) (by rw [c2, e]; omega), c2, e]
/-- the keys while they are few -/
abbrev OwnN (Z : State) (h : Heap) (a b : Addr) (z i : Int32) : Prop := ∃ (s : Int32) (f : Nat → Int32), 0 ≤ s.toInt ∧ s.toInt ≤ 8 ∧ s.toInt ≤ i.toInt ∧ Fld Z h a "com/example/reweave/reweave/control/Keys" "size" "I" (.int s) ∧ Fld Z h a "com/example/reweave/reweave/control/Keys" "slots" "[I" .null ∧ IA Z h b z.toNatClampNeg f
/-- .. and with slots -/
abbrev OwnH (Z : State) (h : Heap) (k0 n0 : Nat) (a b : Addr) (z i S : Int32) : Prop := ∃ (s : Int32) (f g : Nat → Int32) (c : Addr), 0 ≤ s.toInt ∧ 2 * s.toInt ≤ S.toInt ∧ s.toInt ≤ i.toInt ∧ OwnS S g s ∧ Fld Z h a "com/example/reweave/reweave/control/Keys" "size" "I" (.int s) ∧ Fld Z h a "com/example/reweave/reweave/control/Keys" "slots" "[I" (.ref c) ∧ IA Z h b z.toNatClampNeg f ∧ IA Z h c S.toNatClampNeg g ∧ a ≠ c ∧ b ≠ c ∧ k0 ≤ c ∧ n0 ≤ c
theorem own_i0 : ((0 : Int32)).toNatClampNeg = 0 := by decide
theorem own_i1 : ((1 : Int32)).toNatClampNeg = 1 := by decide
theorem own_i2 : ((2 : Int32)).toNatClampNeg = 2 := by decide
theorem own_i01 : ((0 : Int32) + 1).toNatClampNeg = 1 := by decide
theorem own_hit1 {f : Nat → Int32} {x k : Int32} (h : x = k) : own_find (own_upd f ((0 : Int32)).toNatClampNeg x) k ((1 : Int32)).toNatClampNeg (0 : Int32) = (1 : Int32) := by
  rw [own_i1]; unfold own_find; exact if_pos ((if_pos rfl).trans h)
theorem own_miss1 {f : Nat → Int32} {x k : Int32} (h : ¬ x = k) : own_find (own_upd f ((0 : Int32)).toNatClampNeg x) k ((1 : Int32)).toNatClampNeg (0 : Int32) = (0 : Int32) := by
  rw [own_i1]; unfold own_find
  have e : own_upd f ((0 : Int32)).toNatClampNeg x ((0 : Int32)).toNatClampNeg = x := if_pos rfl
  rw [e, if_neg h]
  first | rfl | (unfold own_find; rfl)
theorem own_get0 {f : Nat → Int32} {x y : Int32} : (own_upd (own_upd f ((0 : Int32)).toNatClampNeg x) ((1 : Int32)).toNatClampNeg y) ((0 : Int32)).toNatClampNeg = x := by
  rw [own_i0, own_i1]; rfl
theorem own_c0 {f : Nat → Int32} {x y k : Int32} (h : x = k) : own_find (own_upd (own_upd f ((0 : Int32)).toNatClampNeg x) ((1 : Int32)).toNatClampNeg y) k ((2 : Int32)).toNatClampNeg (0 : Int32) = (1 : Int32) := by
  rw [own_i2]; unfold own_find; exact if_pos (own_get0.trans h)
theorem own_c1 {f : Nat → Int32} {x y : Int32} : own_find (own_upd (own_upd f ((0 : Int32)).toNatClampNeg x) ((1 : Int32)).toNatClampNeg y) y ((2 : Int32)).toNatClampNeg (0 : Int32) = (1 : Int32) := by
  rw [own_i2]; unfold own_find
  split
  · rfl
  · unfold own_find; rw [own_i01]; exact if_pos (by rw [own_i1]; rfl)
theorem own_arv1 {Z : State} {h : Heap} {b : Addr} {f : Nat → Int32} (F : IA Z h b ((1 : Int32)).toNatClampNeg f) : ∃ k, Arv Z h b k .int (1 : Int32) [.int (f ((0 : Int32)).toNatClampNeg)] (.int (0 : Int32)) := by
  obtain ⟨c, A, S, M, H⟩ := F
  rw [own_i0]
  refine ⟨c.cls, c, A, rfl, S, by decide, fun i hi => ?_, fun i hi => ?_⟩
  all_goals
    rw [S, own_i1] at hi
    obtain rfl : i = 0 := by omega
  · exact H 0 (by rw [own_i1]; omega)
  · rfl
theorem own_ia2 {Z : State} {h : Heap} {r : Addr} {k : ClassId} {x y : Int32} (F : Arv Z h r k .int (2 : Int32) [.int x, .int y] (.int (0 : Int32))) : IA Z h r ((2 : Int32)).toNatClampNeg (own_upd (own_upd (fun _ => 0) ((0 : Int32)).toNatClampNeg x) ((1 : Int32)).toNatClampNeg y) := by
  obtain ⟨c, A, -, S, q, H, G⟩ := F
  refine ⟨c, A, S, by decide, fun i hi => ?_⟩
  rw [own_i2] at hi
  rw [H i (by rw [S, own_i2]; exact hi), own_i0, own_i1]
  obtain rfl | rfl : i = 0 ∨ i = 1 := by omega
  · rfl
  · rfl
theorem own_mod35 (x : Int32) : 0 ≤ ((x &&& (2147483647 : Int32)) % (35 : Int32)).toInt ∧ ((x &&& (2147483647 : Int32)) % (35 : Int32)).toInt ≤ 34 := by
  have e1 : (x &&& (2147483647 : Int32)).toInt = x.toInt % 2 ^ 31 := Jvm.Kit.i32_mask x _ (k := 31) (by decide) (by decide)
  have e2 : ((x &&& (2147483647 : Int32)) % (35 : Int32)).toInt = (x &&& (2147483647 : Int32)).toInt % (35 : Int32).toInt := Jvm.Kit.i32_rem_nonneg (by omega)
  have e3 : (35 : Int32).toInt = 35 := by decide
  rw [e3] at e2
  omega
theorem own_nI {x y : Int32} (h : ¬ x = y) : x.toInt ≠ y.toInt := fun q => h (Int32.toInt_inj.mp q)
theorem own_posN {N : Int32} (h0 : 0 ≤ N.toInt) (h : ¬ N = (0 : Int32)) : 0 < N.toInt := by
  have := own_nI h
  rw [show (0 : Int32).toInt = 0 from by decide] at this
  omega
theorem own_le0 {N : Int32} (h : 0 ≤ N.toInt) : ((0 : Int32)).toInt ≤ N.toInt := by rw [show (0 : Int32).toInt = 0 from by decide]; exact h
theorem own_lt0 {N : Int32} (h : 0 < N.toInt) : ((0 : Int32)).toInt < N.toInt := by rw [show (0 : Int32).toInt = 0 from by decide]; exact h
theorem own_le1 {N : Int32} (h : 0 < N.toInt) : ((1 : Int32)).toInt ≤ N.toInt := by rw [show (1 : Int32).toInt = 1 from by decide]; omega
theorem own_lt1 {N : Int32} (h : 0 < N.toInt) (hn : ¬ N = (1 : Int32)) : ((1 : Int32)).toInt < N.toInt := by
  have := own_nI hn
  rw [show (1 : Int32).toInt = 1 from by decide] at *
  omega
theorem own_le2 {N : Int32} (h : 0 < N.toInt) (hn : ¬ N = (1 : Int32)) : ((2 : Int32)).toInt ≤ N.toInt := by
  have := own_nI hn
  rw [show (1 : Int32).toInt = 1 from by decide] at this
  rw [show (2 : Int32).toInt = 2 from by decide]
  omega
theorem d_prog_46_method_13_0 : decode prog_46_method_13_code 0 = .ok (.aload_n 0, 1) := by decide +kernel
theorem d_prog_46_method_13_1 : decode prog_46_method_13_code 1 = .ok (.getfield 20, 3) := by decide +kernel
theorem d_prog_46_method_13_4 : decode prog_46_method_13_code 4 = .ok (.arraylength, 1) := by decide +kernel
theorem d_prog_46_method_13_5 : decode prog_46_method_13_code 5 = .ok (.iconst 1, 1) := by decide +kernel
theorem d_prog_46_method_13_6 : decode prog_46_method_13_code 6 = .ok (.isub, 1) := by decide +kernel
theorem d_prog_46_method_13_7 : decode prog_46_method_13_code 7 = .ok (.istore_n 2, 1) := by decide +kernel
theorem d_prog_46_method_13_8 : decode prog_46_method_13_code 8 = .ok (.iload_n 1, 1) := by decide +kernel
theorem d_prog_46_method_13_9 : decode prog_46_method_13_code 9 = .ok (.iload_n 2, 1) := by decide +kernel
theorem d_prog_46_method_13_10 : decode prog_46_method_13_code 10 = .ok (.iand, 1) := by decide +kernel
theorem d_prog_46_method_13_11 : decode prog_46_method_13_code 11 = .ok (.istore_n 3, 1) := by decide +kernel
theorem d_prog_46_method_13_12 : decode prog_46_method_13_code 12 = .ok (.aload_n 0, 1) := by decide +kernel
theorem d_prog_46_method_13_13 : decode prog_46_method_13_code 13 = .ok (.getfield 20, 3) := by decide +kernel
theorem d_prog_46_method_13_16 : decode prog_46_method_13_code 16 = .ok (.iload_n 3, 1) := by decide +kernel
theorem d_prog_46_method_13_17 : decode prog_46_method_13_code 17 = .ok (.iaload, 1) := by decide +kernel
theorem d_prog_46_method_13_18 : decode prog_46_method_13_code 18 = .ok (.ifCond .eq 29, 3) := by decide +kernel
theorem d_prog_46_method_13_47 : decode prog_46_method_13_code 47 = .ok (.iload_n 3, 1) := by decide +kernel
theorem d_prog_46_method_13_48 : decode prog_46_method_13_code 48 = .ok (.ireturn, 1) := by decide +kernel
theorem d_prog_46_method_13_21 : decode prog_46_method_13_code 21 = .ok (.aload_n 0, 1) := by decide +kernel
theorem d_prog_46_method_13_22 : decode prog_46_method_13_code 22 = .ok (.getfield 12, 3) := by decide +kernel
theorem d_prog_46_method_13_25 : decode prog_46_method_13_code 25 = .ok (.aload_n 0, 1) := by decide +kernel
theorem d_prog_46_method_13_26 : decode prog_46_method_13_code 26 = .ok (.getfield 20, 3) := by decide +kernel
theorem d_prog_46_method_13_29 : decode prog_46_method_13_code 29 = .ok (.iload_n 3, 1) := by decide +kernel
theorem d_prog_46_method_13_30 : decode prog_46_method_13_code 30 = .ok (.iaload, 1) := by decide +kernel
theorem d_prog_46_method_13_31 : decode prog_46_method_13_code 31 = .ok (.iconst 1, 1) := by decide +kernel
theorem d_prog_46_method_13_32 : decode prog_46_method_13_code 32 = .ok (.isub, 1) := by decide +kernel
theorem d_prog_46_method_13_33 : decode prog_46_method_13_code 33 = .ok (.iaload, 1) := by decide +kernel
theorem d_prog_46_method_13_34 : decode prog_46_method_13_code 34 = .ok (.iload_n 1, 1) := by decide +kernel
theorem d_prog_46_method_13_35 : decode prog_46_method_13_code 35 = .ok (.if_icmp .eq 12, 3) := by decide +kernel
theorem d_prog_46_method_13_38 : decode prog_46_method_13_code 38 = .ok (.iload_n 3, 1) := by decide +kernel
theorem d_prog_46_method_13_39 : decode prog_46_method_13_code 39 = .ok (.iconst 1, 1) := by decide +kernel
theorem d_prog_46_method_13_40 : decode prog_46_method_13_code 40 = .ok (.iadd, 1) := by decide +kernel
theorem d_prog_46_method_13_41 : decode prog_46_method_13_code 41 = .ok (.iload_n 2, 1) := by decide +kernel
theorem d_prog_46_method_13_42 : decode prog_46_method_13_code 42 = .ok (.iand, 1) := by decide +kernel
theorem d_prog_46_method_13_43 : decode prog_46_method_13_code 43 = .ok (.istore_n 3, 1) := by decide +kernel
theorem d_prog_46_method_13_44 : decode prog_46_method_13_code 44 = .ok (.goto (-32), 3) := by decide +kernel
theorem pn_com_example_reweave_reweave_control_Keys : plainName "com/example/reweave/reweave/control/Keys" = true := by first | (simp [plainName, overriddenIn]; done) | decide +kernel
def Q_slot32 (Z : State) (aNONE : Addr) (a1 : Addr) (p2 : Int32) (b1 : Addr) (b2 : Addr) (z1 : Int32) (f1 : Nat → Int32) (g1 : Nat → Int32) (r0 : Int32) (h0 : Heap) (n0 : Nat) (v : Option Value) (h : Heap) (L : List Loc) : Prop := v = some (.int r0) ∧ Fr n0 L ∧ h = h0
theorem ef_slot32 (m : MethodId) (x0 : Addr) (x1 : Int32) : entryFrame m #[(.ref x0), (.int x1)] 4 = mkF m 0 #[.val (.ref x0), .val (.int x1), .unset, .unset] [] := by first | (simp [entryFrame, mkF, argsToLocals, Value.category]; done) | rfl
set_option maxRecDepth 65536 in
set_option maxHeartbeats 40000000 in
theorem rm_slot32 (l : Launch) (Z : State) (a0 : Array Value) (hw : ∀ d ∈ tables_1, d.before a0 Z = true) (ws : List Jvm.Cond) (aNONE : Addr) (F0 : OwnFacts Z aNONE) (a1 : Addr) (p2 : Int32) (b1 : Addr) (b2 : Addr) (z1 : Int32) (f1 : Nat → Int32) (g1 : Nat → Int32) (r0 : Int32) (h0 : Heap) (n0 : Nat) (O0 : Old Z n0 h0) (PF1 : Fld Z h0 a1 "com/example/reweave/reweave/control/Keys" "numbers" "[I" (.ref b1)) (PF2 : Fld Z h0 a1 "com/example/reweave/reweave/control/Keys" "slots" "[I" (.ref b2)) (PV1 : IA Z h0 b1 (z1).toNatClampNeg f1) (PV2 : IA Z h0 b2 ((32 : Int32)).toNatClampNeg g1) (hz1 : 0 ≤ z1.toInt) (hbb : ∀ j, j < 32 → 0 ≤ (g1 j).toInt ∧ (g1 j).toInt ≤ z1.toInt) (hfr : ∃ z, z < 32 ∧ g1 z = 0) (hr0 : own_probe g1 f1 p2 (31 : Int32) 32 (p2 &&& (31 : Int32)) = r0) :
    MetFree l (⟨"com/example/reweave/reweave/control/Keys", "slotOf", "(I)I"⟩ : MethodName) (head1 (Jvm.Cond.code (⟨"com/example/reweave/reweave/control/Keys", "slotOf", "(I)I"⟩ : MethodName) prog_46_method_13_code 4 (some .int) :: ws) ({ frames := 0, cells := 0, slots := 0, locals := 0 } : Room)) (fun a U => a = #[(.ref a1), (.int p2)] ∧ Z.Warmed39 U.vm ∧ U.heap = h0) (fun _ _ _ _ _ => True) (fun _ U o U' => ∃ v L, o = .returned v ∧ Q_slot32 Z aNONE a1 p2 b1 b2 z1 f1 g1 r0 h0 n0 v U'.heap L ∧ FrameEnd U o U' L ({ frames := 0, cells := 0, slots := 0, locals := 0 } : Room).cells ({ frames := 0, cells := 0, slots := 0, locals := 0 } : Room).slots) := by
  refine MetFree.of_bodySF (plainFor_of_name pn_com_example_reweave_reweave_control_Keys) hisR ?_
  intro p e s m args below meth c s₁ Bd hml0 hP hK
  obtain ⟨rfl, hZ, hh⟩ := hP
  have hx := Bd.exec
  have hby := Bd.bytes
  have hml : c.maxLocals = 4 := hml0
  have hown : s.vm.findClass "com/example/reweave/reweave/control/Keys" = some m.cls := findClass_of_methodNamed Bd.named
  have hnm := (name_of_methodNamed Bd.named Bd.method).1
  have X0 : Stand p l e ({ frames := 0, cells := 0, slots := 0, locals := 0 } : Room) s m #[(.ref a1), (.int p2)] below meth c s₁ [] 0 0 := Stand.of_body Bd
  have e0 : s₁.heap = h0 := by rw [← hh, Bd.state]; rfl
  have N0 := Fr.nil n0
  refine own_go (Q := fun o U' => ∃ v L, o = .returned v ∧ Q_slot32 Z aNONE a1 p2 b1 b2 z1 f1 g1 r0 h0 n0 v U'.heap L ∧ FrameEnd s o U' L ({ frames := 0, cells := 0, slots := 0, locals := 0 } : Room).cells ({ frames := 0, cells := 0, slots := 0, locals := 0 } : Room).slots) (fun t k => castTop (ef_slot32 m a1 p2) k) ?_
  show OwnGo p e below _ (s₁.setTop (mkF m 0 #[.val (.ref a1), .val (.int p2), .unset, .unset] []))
  refine own_go (fun _ k => XS.aloadN X0.here hx rfl (hb hby d_prog_46_method_13_0) rfl rfl k) ?_
  show OwnGo p e below _ (s₁.setTop (mkF m 1 #[.val (.ref a1), .val (.int p2), .unset, .unset] [(.ref a1)]))
  obtain ⟨T1, X1, e1, st1⟩ := getF X0 hx hZ hown (host := "") (Or.inl (hw _ (List.mem_of_getElem? (i := 34) rfl))) Via.refl e0 PF2 (g := (mkF m 1 #[.val (.ref a1), .val (.int p2), .unset, .unset] [(.ref a1)])) rfl rfl (hb hby d_prog_46_method_13_1)
  refine own_go st1 ?_
  show OwnGo p e below _ (T1.setTop (mkF m 4 #[.val (.ref a1), .val (.int p2), .unset, .unset] [(.ref b2)]))
  obtain ⟨c2, Ar2, S2, M2, H2⟩ := (id PV2)
  refine own_go (fun _ k => X1.arraylength hx (cell := c2) (by rw [e1]; exact Ar2.1) (State.isArrayOf_alike hZ.alike Ar2.2.1) (g := (mkF m 4 #[.val (.ref a1), .val (.int p2), .unset, .unset] [(.ref b2)])) rfl (rest := []) rfl (hb hby d_prog_46_method_13_4) _ k) ?_
  rw [len_of S2 (own_nn (by decide))]
  show OwnGo p e below _ (T1.setTop (mkF m 5 #[.val (.ref a1), .val (.int p2), .unset, .unset] [(.int (32 : Int32))]))
  refine own_go (fun _ k => XS.iconst X1.here hx rfl (hb hby d_prog_46_method_13_5) k) ?_
  show OwnGo p e below _ (T1.setTop (mkF m 6 #[.val (.ref a1), .val (.int p2), .unset, .unset] [(.int (1 : Int32)), (.int (32 : Int32))]))
  refine own_go (fun _ k => XS.isub X1.here hx rfl (hb hby d_prog_46_method_13_6) rfl k) ?_
  show OwnGo p e below _ (T1.setTop (mkF m 7 #[.val (.ref a1), .val (.int p2), .unset, .unset] [(.int ((32 : Int32) - (1 : Int32)))]))
  rw [show ((32 : Int32) - (1 : Int32)) = (31 : Int32) from by decide]
  show OwnGo p e below _ (T1.setTop (mkF m 7 #[.val (.ref a1), .val (.int p2), .unset, .unset] [(.int (31 : Int32))]))
  refine own_go (fun _ k => XS.istoreN X1.here hx rfl (hb hby d_prog_46_method_13_7) rfl (l' := #[.val (.ref a1), .val (.int p2), .val (.int (31 : Int32)), .unset]) rfl k) ?_
  show OwnGo p e below _ (T1.setTop (mkF m 8 #[.val (.ref a1), .val (.int p2), .val (.int (31 : Int32)), .unset] []))
  refine own_go (fun _ k => XS.iloadN X1.here hx rfl (hb hby d_prog_46_method_13_8) rfl k) ?_
  show OwnGo p e below _ (T1.setTop (mkF m 9 #[.val (.ref a1), .val (.int p2), .val (.int (31 : Int32)), .unset] [(.int p2)]))
  refine own_go (fun _ k => XS.iloadN X1.here hx rfl (hb hby d_prog_46_method_13_9) rfl k) ?_
  show OwnGo p e below _ (T1.setTop (mkF m 10 #[.val (.ref a1), .val (.int p2), .val (.int (31 : Int32)), .unset] [(.int (31 : Int32)), (.int p2)]))
  refine own_go (fun _ k => XS.iand X1.here hx rfl (hb hby d_prog_46_method_13_10) rfl k) ?_
  show OwnGo p e below _ (T1.setTop (mkF m 11 #[.val (.ref a1), .val (.int p2), .val (.int (31 : Int32)), .unset] [(.int (p2 &&& (31 : Int32)))]))
  refine own_go (fun _ k => XS.istoreN X1.here hx rfl (hb hby d_prog_46_method_13_11) rfl (l' := #[.val (.ref a1), .val (.int p2), .val (.int (31 : Int32)), .val (.int (p2 &&& (31 : Int32)))]) rfl k) ?_
  show OwnGo p e below _ (T1.setTop (mkF m 12 #[.val (.ref a1), .val (.int p2), .val (.int (31 : Int32)), .val (.int (p2 &&& (31 : Int32)))] []))
  suffices loop : ∀ (t : Nat) (j : Int32) (T : State), Stand p l e ({ frames := 0, cells := 0, slots := 0, locals := 0 } : Room) s m #[(.ref a1), (.int p2)] below meth c T [] 0 0 → T.heap = h0 → 0 ≤ j.toInt → j.toInt < 32 → (∃ d, d < t ∧ g1 ((j.toNatClampNeg + d) % 32) = 0) → own_probe g1 f1 p2 (31 : Int32) t j = r0 → OwnGo p e below (fun o U' => ∃ v L, o = .returned v ∧ Q_slot32 Z aNONE a1 p2 b1 b2 z1 f1 g1 r0 h0 n0 v U'.heap L ∧ FrameEnd s o U' L ({ frames := 0, cells := 0, slots := 0, locals := 0 } : Room).cells ({ frames := 0, cells := 0, slots := 0, locals := 0 } : Room).slots) (T.setTop (mkF m 12 #[.val (.ref a1), .val (.int p2), .val (.int (31 : Int32)), .val (.int j)] [])) from
    loop 32 _ _ X1 e1 (by have q := own_and_rng p2 (31 : Int32) (k := 5) (by decide) (by decide); omega) (by have q := own_and_rng p2 (31 : Int32) (k := 5) (by decide) (by decide); omega) (own_ahead (by have q := own_and_rng p2 (31 : Int32) (k := 5) (by decide) (by decide); have := own_nat q.1; omega) hfr) hr0
  intro t
  induction t with
  | zero =>
    intro j T XL eL hj0 hj1 hd hp
    obtain ⟨d, hd, -⟩ := hd
    exact absurd hd (Nat.not_lt_zero _)
  | succ t ih =>
    intro j T XL eL hj0 hj1 hd hp
    unfold own_probe at hp
    show OwnGo p e below _ (T.setTop (mkF m 12 #[.val (.ref a1), .val (.int p2), .val (.int (31 : Int32)), .val (.int j)] []))
    refine own_go (fun _ k => XS.aloadN XL.here hx rfl (hb hby d_prog_46_method_13_12) rfl rfl k) ?_
    show OwnGo p e below _ (T.setTop (mkF m 13 #[.val (.ref a1), .val (.int p2), .val (.int (31 : Int32)), .val (.int j)] [(.ref a1)]))
    obtain ⟨T3, X3, e3, st3⟩ := getF XL hx hZ hown (host := "") (Or.inl (hw _ (List.mem_of_getElem? (i := 34) rfl))) Via.refl eL PF2 (g := (mkF m 13 #[.val (.ref a1), .val (.int p2), .val (.int (31 : Int32)), .val (.int j)] [(.ref a1)])) rfl rfl (hb hby d_prog_46_method_13_13)
    refine own_go st3 ?_
    show OwnGo p e below _ (T3.setTop (mkF m 16 #[.val (.ref a1), .val (.int p2), .val (.int (31 : Int32)), .val (.int j)] [(.ref b2)]))
    refine own_go (fun _ k => XS.iloadN X3.here hx rfl (hb hby d_prog_46_method_13_16) rfl k) ?_
    show OwnGo p e below _ (T3.setTop (mkF m 17 #[.val (.ref a1), .val (.int p2), .val (.int (31 : Int32)), .val (.int j)] [(.int j), (.ref b2)]))
    obtain ⟨c4, Ar4, S4, M4, H4⟩ := (id PV2)
    have b4 : 0 ≤ (j).toInt ∧ (j).toInt < ((32 : Int32)).toInt := ⟨hj0, (by rw [(show (32 : Int32).toInt = 32 from by decide)]; exact hj1)⟩
    refine own_go (fun _ k => X3.iaload hx (j := j) (v := (.int (g1 (j).toNatClampNeg))) (by rw [e3]; exact Ar4.1) (State.isArrayOf_alike hZ.alike Ar4.2.1) Ar4.2.2 (own_inbz S4 (by decide) b4.1 b4.2) (IA.atz H4 (by decide) b4.1 b4.2) (g := (mkF m 17 #[.val (.ref a1), .val (.int p2), .val (.int (31 : Int32)), .val (.int j)] [(.int j), (.ref b2)])) rfl rfl (hb hby d_prog_46_method_13_17) _ k) ?_
    show OwnGo p e below _ (T3.setTop (mkF m 18 #[.val (.ref a1), .val (.int p2), .val (.int (31 : Int32)), .val (.int j)] [(.int (g1 (j).toNatClampNeg))]))
    by_cases hc5 : (g1 (j).toNatClampNeg) = (0 : Int32)
    · refine own_go (fun _ k => XS.ifYes X3.here hx rfl (pc0 := 18) (pc' := 47) rfl (hb hby d_prog_46_method_13_18) rfl ((if0 _ _).trans (teq hc5).1) (by decide) (by decide) k) ?_
      show OwnGo p e below _ (T3.setTop (mkF m 47 #[.val (.ref a1), .val (.int p2), .val (.int (31 : Int32)), .val (.int j)] []))
      refine own_go (fun _ k => XS.iloadN X3.here hx rfl (hb hby d_prog_46_method_13_47) rfl k) ?_
      show OwnGo p e below _ (T3.setTop (mkF m 48 #[.val (.ref a1), .val (.int p2), .val (.int (31 : Int32)), .val (.int j)] [(.int j)]))
      obtain ⟨fs, hr, hrun, hended, hW, hsame⟩ := X3.leave (v := some (.int j)) (fun h => by rw [Bd.returns] at h; cases h)
      refine ⟨_, _, retOut X3 hx Bd.returns rfl (Or.inl ⟨rfl, Or.inl rfl, _, rfl⟩) (hb hby d_prog_46_method_13_48) hr, hrun, hended, _, _, rfl, ?_, ⟨_, rfl⟩, hW, hsame.mono (by decide) (by decide)⟩
      show Q_slot32 Z aNONE a1 p2 b1 b2 z1 f1 g1 r0 h0 n0 _ T3.heap _
      rw [e3]
      exact ⟨(by rw [← hp, if_pos hc5]), N0, rfl⟩
    · refine own_go (fun _ k => XS.ifNo X3.here hx rfl (hb hby d_prog_46_method_13_18) rfl ((if0 _ _).trans (feq hc5).1) k) ?_
      show OwnGo p e below _ (T3.setTop (mkF m 21 #[.val (.ref a1), .val (.int p2), .val (.int (31 : Int32)), .val (.int j)] []))
      refine own_go (fun _ k => XS.aloadN X3.here hx rfl (hb hby d_prog_46_method_13_21) rfl rfl k) ?_
      show OwnGo p e below _ (T3.setTop (mkF m 22 #[.val (.ref a1), .val (.int p2), .val (.int (31 : Int32)), .val (.int j)] [(.ref a1)]))
      obtain ⟨T6, X6, e6, st6⟩ := getF X3 hx hZ hown (host := "") (Or.inl (hw _ (List.mem_of_getElem? (i := 27) rfl))) Via.refl e3 PF1 (g := (mkF m 22 #[.val (.ref a1), .val (.int p2), .val (.int (31 : Int32)), .val (.int j)] [(.ref a1)])) rfl rfl (hb hby d_prog_46_method_13_22)
      refine own_go st6 ?_
      show OwnGo p e below _ (T6.setTop (mkF m 25 #[.val (.ref a1), .val (.int p2), .val (.int (31 : Int32)), .val (.int j)] [(.ref b1)]))
      refine own_go (fun _ k => XS.aloadN X6.here hx rfl (hb hby d_prog_46_method_13_25) rfl rfl k) ?_
      show OwnGo p e below _ (T6.setTop (mkF m 26 #[.val (.ref a1), .val (.int p2), .val (.int (31 : Int32)), .val (.int j)] [(.ref a1), (.ref b1)]))
      obtain ⟨T7, X7, e7, st7⟩ := getF X6 hx hZ hown (host := "") (Or.inl (hw _ (List.mem_of_getElem? (i := 34) rfl))) Via.refl e6 PF2 (g := (mkF m 26 #[.val (.ref a1), .val (.int p2), .val (.int (31 : Int32)), .val (.int j)] [(.ref a1), (.ref b1)])) rfl rfl (hb hby d_prog_46_method_13_26)
      refine own_go st7 ?_
      show OwnGo p e below _ (T7.setTop (mkF m 29 #[.val (.ref a1), .val (.int p2), .val (.int (31 : Int32)), .val (.int j)] [(.ref b2), (.ref b1)]))
      refine own_go (fun _ k => XS.iloadN X7.here hx rfl (hb hby d_prog_46_method_13_29) rfl k) ?_
      show OwnGo p e below _ (T7.setTop (mkF m 30 #[.val (.ref a1), .val (.int p2), .val (.int (31 : Int32)), .val (.int j)] [(.int j), (.ref b2), (.ref b1)]))
      obtain ⟨c8, Ar8, S8, M8, H8⟩ := (id PV2)
      have b8 : 0 ≤ (j).toInt ∧ (j).toInt < ((32 : Int32)).toInt := ⟨hj0, (by rw [(show (32 : Int32).toInt = 32 from by decide)]; exact hj1)⟩
      refine own_go (fun _ k => X7.iaload hx (j := j) (v := (.int (g1 (j).toNatClampNeg))) (by rw [e7]; exact Ar8.1) (State.isArrayOf_alike hZ.alike Ar8.2.1) Ar8.2.2 (own_inbz S8 (by decide) b8.1 b8.2) (IA.atz H8 (by decide) b8.1 b8.2) (g := (mkF m 30 #[.val (.ref a1), .val (.int p2), .val (.int (31 : Int32)), .val (.int j)] [(.int j), (.ref b2), (.ref b1)])) rfl rfl (hb hby d_prog_46_method_13_30) _ k) ?_
      show OwnGo p e below _ (T7.setTop (mkF m 31 #[.val (.ref a1), .val (.int p2), .val (.int (31 : Int32)), .val (.int j)] [(.int (g1 (j).toNatClampNeg)), (.ref b1)]))
      refine own_go (fun _ k => XS.iconst X7.here hx rfl (hb hby d_prog_46_method_13_31) k) ?_
      show OwnGo p e below _ (T7.setTop (mkF m 32 #[.val (.ref a1), .val (.int p2), .val (.int (31 : Int32)), .val (.int j)] [(.int (1 : Int32)), (.int (g1 (j).toNatClampNeg)), (.ref b1)]))
      refine own_go (fun _ k => XS.isub X7.here hx rfl (hb hby d_prog_46_method_13_32) rfl k) ?_
      show OwnGo p e below _ (T7.setTop (mkF m 33 #[.val (.ref a1), .val (.int p2), .val (.int (31 : Int32)), .val (.int j)] [(.int ((g1 (j).toNatClampNeg) - (1 : Int32))), (.ref b1)]))
      obtain ⟨c9, Ar9, S9, M9, H9⟩ := (id PV1)
      have b9 : 0 ≤ (((g1 (j).toNatClampNeg) - (1 : Int32))).toInt ∧ (((g1 (j).toNatClampNeg) - (1 : Int32))).toInt < (z1).toInt := ⟨(own_pred (hbb (j).toNatClampNeg (by have := own_nat hj0; omega)).1 hc5 (hbb (j).toNatClampNeg (by have := own_nat hj0; omega)).2).1, (own_pred (hbb (j).toNatClampNeg (by have := own_nat hj0; omega)).1 hc5 (hbb (j).toNatClampNeg (by have := own_nat hj0; omega)).2).2⟩
      refine own_go (fun _ k => X7.iaload hx (j := ((g1 (j).toNatClampNeg) - (1 : Int32))) (v := (.int (f1 (((g1 (j).toNatClampNeg) - (1 : Int32))).toNatClampNeg))) (by rw [e7]; exact Ar9.1) (State.isArrayOf_alike hZ.alike Ar9.2.1) Ar9.2.2 (own_inbz S9 hz1 b9.1 b9.2) (IA.atz H9 hz1 b9.1 b9.2) (g := (mkF m 33 #[.val (.ref a1), .val (.int p2), .val (.int (31 : Int32)), .val (.int j)] [(.int ((g1 (j).toNatClampNeg) - (1 : Int32))), (.ref b1)])) rfl rfl (hb hby d_prog_46_method_13_33) _ k) ?_
      show OwnGo p e below _ (T7.setTop (mkF m 34 #[.val (.ref a1), .val (.int p2), .val (.int (31 : Int32)), .val (.int j)] [(.int (f1 (((g1 (j).toNatClampNeg) - (1 : Int32))).toNatClampNeg))]))
      refine own_go (fun _ k => XS.iloadN X7.here hx rfl (hb hby d_prog_46_method_13_34) rfl k) ?_
      show OwnGo p e below _ (T7.setTop (mkF m 35 #[.val (.ref a1), .val (.int p2), .val (.int (31 : Int32)), .val (.int j)] [(.int p2), (.int (f1 (((g1 (j).toNatClampNeg) - (1 : Int32))).toNatClampNeg))]))
      by_cases hc10 : (f1 (((g1 (j).toNatClampNeg) - (1 : Int32))).toNatClampNeg) = p2
      · refine own_go (fun _ k => XS.icmpYes X7.here hx rfl (pc0 := 35) (pc' := 47) rfl (hb hby d_prog_46_method_13_35) rfl (teq hc10).1 (by decide) (by decide) k) ?_
        show OwnGo p e below _ (T7.setTop (mkF m 47 #[.val (.ref a1), .val (.int p2), .val (.int (31 : Int32)), .val (.int j)] []))
        refine own_go (fun _ k => XS.iloadN X7.here hx rfl (hb hby d_prog_46_method_13_47) rfl k) ?_
        show OwnGo p e below _ (T7.setTop (mkF m 48 #[.val (.ref a1), .val (.int p2), .val (.int (31 : Int32)), .val (.int j)] [(.int j)]))
        obtain ⟨fs, hr, hrun, hended, hW, hsame⟩ := X7.leave (v := some (.int j)) (fun h => by rw [Bd.returns] at h; cases h)
        refine ⟨_, _, retOut X7 hx Bd.returns rfl (Or.inl ⟨rfl, Or.inl rfl, _, rfl⟩) (hb hby d_prog_46_method_13_48) hr, hrun, hended, _, _, rfl, ?_, ⟨_, rfl⟩, hW, hsame.mono (by decide) (by decide)⟩
        show Q_slot32 Z aNONE a1 p2 b1 b2 z1 f1 g1 r0 h0 n0 _ T7.heap _
        rw [e7]
        exact ⟨(by rw [← hp, if_neg hc5, if_pos hc10]), N0, rfl⟩
      · refine own_go (fun _ k => XS.icmpNo X7.here hx rfl (hb hby d_prog_46_method_13_35) rfl (feq hc10).1 k) ?_
        show OwnGo p e below _ (T7.setTop (mkF m 38 #[.val (.ref a1), .val (.int p2), .val (.int (31 : Int32)), .val (.int j)] []))
        refine own_go (fun _ k => XS.iloadN X7.here hx rfl (hb hby d_prog_46_method_13_38) rfl k) ?_
        show OwnGo p e below _ (T7.setTop (mkF m 39 #[.val (.ref a1), .val (.int p2), .val (.int (31 : Int32)), .val (.int j)] [(.int j)]))
        refine own_go (fun _ k => XS.iconst X7.here hx rfl (hb hby d_prog_46_method_13_39) k) ?_
        show OwnGo p e below _ (T7.setTop (mkF m 40 #[.val (.ref a1), .val (.int p2), .val (.int (31 : Int32)), .val (.int j)] [(.int (1 : Int32)), (.int j)]))
        refine own_go (fun _ k => XS.iadd X7.here hx rfl (hb hby d_prog_46_method_13_40) rfl k) ?_
        show OwnGo p e below _ (T7.setTop (mkF m 41 #[.val (.ref a1), .val (.int p2), .val (.int (31 : Int32)), .val (.int j)] [(.int (j + (1 : Int32)))]))
        refine own_go (fun _ k => XS.iloadN X7.here hx rfl (hb hby d_prog_46_method_13_41) rfl k) ?_
        show OwnGo p e below _ (T7.setTop (mkF m 42 #[.val (.ref a1), .val (.int p2), .val (.int (31 : Int32)), .val (.int j)] [(.int (31 : Int32)), (.int (j + (1 : Int32)))]))
        refine own_go (fun _ k => XS.iand X7.here hx rfl (hb hby d_prog_46_method_13_42) rfl k) ?_
        show OwnGo p e below _ (T7.setTop (mkF m 43 #[.val (.ref a1), .val (.int p2), .val (.int (31 : Int32)), .val (.int j)] [(.int ((j + (1 : Int32)) &&& (31 : Int32)))]))
        refine own_go (fun _ k => XS.istoreN X7.here hx rfl (hb hby d_prog_46_method_13_43) rfl (l' := #[.val (.ref a1), .val (.int p2), .val (.int (31 : Int32)), .val (.int ((j + (1 : Int32)) &&& (31 : Int32)))]) rfl k) ?_
        show OwnGo p e below _ (T7.setTop (mkF m 44 #[.val (.ref a1), .val (.int p2), .val (.int (31 : Int32)), .val (.int ((j + (1 : Int32)) &&& (31 : Int32)))] []))
        refine own_go (fun _ k => XS.goto X7.here hx rfl (pc0 := 44) (pc' := 12) rfl (hb hby d_prog_46_method_13_44) (by decide) (by decide) k) ?_
        show OwnGo p e below _ (T7.setTop (mkF m 12 #[.val (.ref a1), .val (.int p2), .val (.int (31 : Int32)), .val (.int ((j + (1 : Int32)) &&& (31 : Int32)))] []))
        exact ih _ _ X7 e7 (by have q := own_and_rng (j + (1 : Int32)) (31 : Int32) (k := 5) (by decide) (by decide); omega) (by have q := own_and_rng (j + (1 : Int32)) (31 : Int32) (k := 5) (by decide) (by decide); omega) (by rw [own_next (k := 5) (by decide) (by decide) hj0 (by omega)]; exact own_ahead_next (by have := own_nat hj0; omega) hc5 hd) (by rw [if_neg hc5, if_neg hc10] at hp; exact hp)
def Q_slot64 (Z : State) (aNONE : Addr) (a1 : Addr) (p2 : Int32) (b1 : Addr) (b2 : Addr) (z1 : Int32) (f1 : Nat → Int32) (g1 : Nat → Int32) (r0 : Int32) (h0 : Heap) (n0 : Nat) (v : Option Value) (h : Heap) (L : List Loc) : Prop := v = some (.int r0) ∧ Fr n0 L ∧ h = h0
theorem ef_slot64 (m : MethodId) (x0 : Addr) (x1 : Int32) : entryFrame m #[(.ref x0), (.int x1)] 4 = mkF m 0 #[.val (.ref x0), .val (.int x1), .unset, .unset] [] := by first | (simp [entryFrame, mkF, argsToLocals, Value.category]; done) | rfl
set_option maxRecDepth 65536 in
set_option maxHeartbeats 40000000 in
theorem rm_slot64 (l : Launch) (Z : State) (a0 : Array Value) (hw : ∀ d ∈ tables_1, d.before a0 Z = true) (ws : List Jvm.Cond) (aNONE : Addr) (F0 : OwnFacts Z aNONE) (a1 : Addr) (p2 : Int32) (b1 : Addr) (b2 : Addr) (z1 : Int32) (f1 : Nat → Int32) (g1 : Nat → Int32) (r0 : Int32) (h0 : Heap) (n0 : Nat) (O0 : Old Z n0 h0) (PF1 : Fld Z h0 a1 "com/example/reweave/reweave/control/Keys" "numbers" "[I" (.ref b1)) (PF2 : Fld Z h0 a1 "com/example/reweave/reweave/control/Keys" "slots" "[I" (.ref b2)) (PV1 : IA Z h0 b1 (z1).toNatClampNeg f1) (PV2 : IA Z h0 b2 ((64 : Int32)).toNatClampNeg g1) (hz1 : 0 ≤ z1.toInt) (hbb : ∀ j, j < 64 → 0 ≤ (g1 j).toInt ∧ (g1 j).toInt ≤ z1.toInt) (hfr : ∃ z, z < 64 ∧ g1 z = 0) (hr0 : own_probe g1 f1 p2 (63 : Int32) 64 (p2 &&& (63 : Int32)) = r0) :
    MetFree l (⟨"com/example/reweave/reweave/control/Keys", "slotOf", "(I)I"⟩ : MethodName) (head1 (Jvm.Cond.code (⟨"com/example/reweave/reweave/control/Keys", "slotOf", "(I)I"⟩ : MethodName) prog_46_method_13_code 4 (some .int) :: ws) ({ frames := 0, cells := 0, slots := 0, locals := 0 } : Room)) (fun a U => a = #[(.ref a1), (.int p2)] ∧ Z.Warmed39 U.vm ∧ U.heap = h0) (fun _ _ _ _ _ => True) (fun _ U o U' => ∃ v L, o = .returned v ∧ Q_slot64 Z aNONE a1 p2 b1 b2 z1 f1 g1 r0 h0 n0 v U'.heap L ∧ FrameEnd U o U' L ({ frames := 0, cells := 0, slots := 0, locals := 0 } : Room).cells ({ frames := 0, cells := 0, slots := 0, locals := 0 } : Room).slots) := by
  refine MetFree.of_bodySF (plainFor_of_name pn_com_example_reweave_reweave_control_Keys) hisR ?_
  intro p e s m args below meth c s₁ Bd hml0 hP hK
  obtain ⟨rfl, hZ, hh⟩ := hP
  have hx := Bd.exec
  have hby := Bd.bytes
  have hml : c.maxLocals = 4 := hml0
  have hown : s.vm.findClass "com/example/reweave/reweave/control/Keys" = some m.cls := findClass_of_methodNamed Bd.named
  have hnm := (name_of_methodNamed Bd.named Bd.method).1
  have X0 : Stand p l e ({ frames := 0, cells := 0, slots := 0, locals := 0 } : Room) s m #[(.ref a1), (.int p2)] below meth c s₁ [] 0 0 := Stand.of_body Bd
  have e0 : s₁.heap = h0 := by rw [← hh, Bd.state]; rfl
  have N0 := Fr.nil n0
  refine own_go (Q := fun o U' => ∃ v L, o = .returned v ∧ Q_slot64 Z aNONE a1 p2 b1 b2 z1 f1 g1 r0 h0 n0 v U'.heap L ∧ FrameEnd s o U' L ({ frames := 0, cells := 0, slots := 0, locals := 0 } : Room).cells ({ frames := 0, cells := 0, slots := 0, locals := 0 } : Room).slots) (fun t k => castTop (ef_slot64 m a1 p2) k) ?_
  show OwnGo p e below _ (s₁.setTop (mkF m 0 #[.val (.ref a1), .val (.int p2), .unset, .unset] []))
  refine own_go (fun _ k => XS.aloadN X0.here hx rfl (hb hby d_prog_46_method_13_0) rfl rfl k) ?_
  show OwnGo p e below _ (s₁.setTop (mkF m 1 #[.val (.ref a1), .val (.int p2), .unset, .unset] [(.ref a1)]))
  obtain ⟨T11, X11, e11, st11⟩ := getF X0 hx hZ hown (host := "") (Or.inl (hw _ (List.mem_of_getElem? (i := 34) rfl))) Via.refl e0 PF2 (g := (mkF m 1 #[.val (.ref a1), .val (.int p2), .unset, .unset] [(.ref a1)])) rfl rfl (hb hby d_prog_46_method_13_1)
  refine own_go st11 ?_
  show OwnGo p e below _ (T11.setTop (mkF m 4 #[.val (.ref a1), .val (.int p2), .unset, .unset] [(.ref b2)]))
  obtain ⟨c12, Ar12, S12, M12, H12⟩ := (id PV2)
  refine own_go (fun _ k => X11.arraylength hx (cell := c12) (by rw [e11]; exact Ar12.1) (State.isArrayOf_alike hZ.alike Ar12.2.1) (g := (mkF m 4 #[.val (.ref a1), .val (.int p2), .unset, .unset] [(.ref b2)])) rfl (rest := []) rfl (hb hby d_prog_46_method_13_4) _ k) ?_
  rw [len_of S12 (own_nn (by decide))]
  show OwnGo p e below _ (T11.setTop (mkF m 5 #[.val (.ref a1), .val (.int p2), .unset, .unset] [(.int (64 : Int32))]))
  refine own_go (fun _ k => XS.iconst X11.here hx rfl (hb hby d_prog_46_method_13_5) k) ?_
  show OwnGo p e below _ (T11.setTop (mkF m 6 #[.val (.ref a1), .val (.int p2), .unset, .unset] [(.int (1 : Int32)), (.int (64 : Int32))]))
  refine own_go (fun _ k => XS.isub X11.here hx rfl (hb hby d_prog_46_method_13_6) rfl k) ?_
  show OwnGo p e below _ (T11.setTop (mkF m 7 #[.val (.ref a1), .val (.int p2), .unset, .unset] [(.int ((64 : Int32) - (1 : Int32)))]))
  rw [show ((64 : Int32) - (1 : Int32)) = (63 : Int32) from by decide]
  show OwnGo p e below _ (T11.setTop (mkF m 7 #[.val (.ref a1), .val (.int p2), .unset, .unset] [(.int (63 : Int32))]))
  refine own_go (fun _ k => XS.istoreN X11.here hx rfl (hb hby d_prog_46_method_13_7) rfl (l' := #[.val (.ref a1), .val (.int p2), .val (.int (63 : Int32)), .unset]) rfl k) ?_
  show OwnGo p e below _ (T11.setTop (mkF m 8 #[.val (.ref a1), .val (.int p2), .val (.int (63 : Int32)), .unset] []))
  refine own_go (fun _ k => XS.iloadN X11.here hx rfl (hb hby d_prog_46_method_13_8) rfl k) ?_
  show OwnGo p e below _ (T11.setTop (mkF m 9 #[.val (.ref a1), .val (.int p2), .val (.int (63 : Int32)), .unset] [(.int p2)]))
  refine own_go (fun _ k => XS.iloadN X11.here hx rfl (hb hby d_prog_46_method_13_9) rfl k) ?_
  show OwnGo p e below _ (T11.setTop (mkF m 10 #[.val (.ref a1), .val (.int p2), .val (.int (63 : Int32)), .unset] [(.int (63 : Int32)), (.int p2)]))
  refine own_go (fun _ k => XS.iand X11.here hx rfl (hb hby d_prog_46_method_13_10) rfl k) ?_
  show OwnGo p e below _ (T11.setTop (mkF m 11 #[.val (.ref a1), .val (.int p2), .val (.int (63 : Int32)), .unset] [(.int (p2 &&& (63 : Int32)))]))
  refine own_go (fun _ k => XS.istoreN X11.here hx rfl (hb hby d_prog_46_method_13_11) rfl (l' := #[.val (.ref a1), .val (.int p2), .val (.int (63 : Int32)), .val (.int (p2 &&& (63 : Int32)))]) rfl k) ?_
  show OwnGo p e below _ (T11.setTop (mkF m 12 #[.val (.ref a1), .val (.int p2), .val (.int (63 : Int32)), .val (.int (p2 &&& (63 : Int32)))] []))
  suffices loop : ∀ (t : Nat) (j : Int32) (T : State), Stand p l e ({ frames := 0, cells := 0, slots := 0, locals := 0 } : Room) s m #[(.ref a1), (.int p2)] below meth c T [] 0 0 → T.heap = h0 → 0 ≤ j.toInt → j.toInt < 64 → (∃ d, d < t ∧ g1 ((j.toNatClampNeg + d) % 64) = 0) → own_probe g1 f1 p2 (63 : Int32) t j = r0 → OwnGo p e below (fun o U' => ∃ v L, o = .returned v ∧ Q_slot64 Z aNONE a1 p2 b1 b2 z1 f1 g1 r0 h0 n0 v U'.heap L ∧ FrameEnd s o U' L ({ frames := 0, cells := 0, slots := 0, locals := 0 } : Room).cells ({ frames := 0, cells := 0, slots := 0, locals := 0 } : Room).slots) (T.setTop (mkF m 12 #[.val (.ref a1), .val (.int p2), .val (.int (63 : Int32)), .val (.int j)] [])) from
    loop 64 _ _ X11 e11 (by have q := own_and_rng p2 (63 : Int32) (k := 6) (by decide) (by decide); omega) (by have q := own_and_rng p2 (63 : Int32) (k := 6) (by decide) (by decide); omega) (own_ahead (by have q := own_and_rng p2 (63 : Int32) (k := 6) (by decide) (by decide); have := own_nat q.1; omega) hfr) hr0
  intro t
  induction t with
  | zero =>
    intro j T XL eL hj0 hj1 hd hp
    obtain ⟨d, hd, -⟩ := hd
    exact absurd hd (Nat.not_lt_zero _)
  | succ t ih =>
    intro j T XL eL hj0 hj1 hd hp
    unfold own_probe at hp
    show OwnGo p e below _ (T.setTop (mkF m 12 #[.val (.ref a1), .val (.int p2), .val (.int (63 : Int32)), .val (.int j)] []))
    refine own_go (fun _ k => XS.aloadN XL.here hx rfl (hb hby d_prog_46_method_13_12) rfl rfl k) ?_
    show OwnGo p e below _ (T.setTop (mkF m 13 #[.val (.ref a1), .val (.int p2), .val (.int (63 : Int32)), .val (.int j)] [(.ref a1)]))
    obtain ⟨T13, X13, e13, st13⟩ := getF XL hx hZ hown (host := "") (Or.inl (hw _ (List.mem_of_getElem? (i := 34) rfl))) Via.refl eL PF2 (g := (mkF m 13 #[.val (.ref a1), .val (.int p2), .val (.int (63 : Int32)), .val (.int j)] [(.ref a1)])) rfl rfl (hb hby d_prog_46_method_13_13)
    refine own_go st13 ?_
    show OwnGo p e below _ (T13.setTop (mkF m 16 #[.val (.ref a1), .val (.int p2), .val (.int (63 : Int32)), .val (.int j)] [(.ref b2)]))
    refine own_go (fun _ k => XS.iloadN X13.here hx rfl (hb hby d_prog_46_method_13_16) rfl k) ?_
    show OwnGo p e below _ (T13.setTop (mkF m 17 #[.val (.ref a1), .val (.int p2), .val (.int (63 : Int32)), .val (.int j)] [(.int j), (.ref b2)]))
    obtain ⟨c14, Ar14, S14, M14, H14⟩ := (id PV2)
    have b14 : 0 ≤ (j).toInt ∧ (j).toInt < ((64 : Int32)).toInt := ⟨hj0, (by rw [(show (64 : Int32).toInt = 64 from by decide)]; exact hj1)⟩
    refine own_go (fun _ k => X13.iaload hx (j := j) (v := (.int (g1 (j).toNatClampNeg))) (by rw [e13]; exact Ar14.1) (State.isArrayOf_alike hZ.alike Ar14.2.1) Ar14.2.2 (own_inbz S14 (by decide) b14.1 b14.2) (IA.atz H14 (by decide) b14.1 b14.2) (g := (mkF m 17 #[.val (.ref a1), .val (.int p2), .val (.int (63 : Int32)), .val (.int j)] [(.int j), (.ref b2)])) rfl rfl (hb hby d_prog_46_method_13_17) _ k) ?_
    show OwnGo p e below _ (T13.setTop (mkF m 18 #[.val (.ref a1), .val (.int p2), .val (.int (63 : Int32)), .val (.int j)] [(.int (g1 (j).toNatClampNeg))]))
    by_cases hc15 : (g1 (j).toNatClampNeg) = (0 : Int32)
    · refine own_go (fun _ k => XS.ifYes X13.here hx rfl (pc0 := 18) (pc' := 47) rfl (hb hby d_prog_46_method_13_18) rfl ((if0 _ _).trans (teq hc15).1) (by decide) (by decide) k) ?_
      show OwnGo p e below _ (T13.setTop (mkF m 47 #[.val (.ref a1), .val (.int p2), .val (.int (63 : Int32)), .val (.int j)] []))
      refine own_go (fun _ k => XS.iloadN X13.here hx rfl (hb hby d_prog_46_method_13_47) rfl k) ?_
      show OwnGo p e below _ (T13.setTop (mkF m 48 #[.val (.ref a1), .val (.int p2), .val (.int (63 : Int32)), .val (.int j)] [(.int j)]))
      obtain ⟨fs, hr, hrun, hended, hW, hsame⟩ := X13.leave (v := some (.int j)) (fun h => by rw [Bd.returns] at h; cases h)
      refine ⟨_, _, retOut X13 hx Bd.returns rfl (Or.inl ⟨rfl, Or.inl rfl, _, rfl⟩) (hb hby d_prog_46_method_13_48) hr, hrun, hended, _, _, rfl, ?_, ⟨_, rfl⟩, hW, hsame.mono (by decide) (by decide)⟩
      show Q_slot64 Z aNONE a1 p2 b1 b2 z1 f1 g1 r0 h0 n0 _ T13.heap _
      rw [e13]
      exact ⟨(by rw [← hp, if_pos hc15]), N0, rfl⟩
    · refine own_go (fun _ k => XS.ifNo X13.here hx rfl (hb hby d_prog_46_method_13_18) rfl ((if0 _ _).trans (feq hc15).1) k) ?_
      show OwnGo p e below _ (T13.setTop (mkF m 21 #[.val (.ref a1), .val (.int p2), .val (.int (63 : Int32)), .val (.int j)] []))
      refine own_go (fun _ k => XS.aloadN X13.here hx rfl (hb hby d_prog_46_method_13_21) rfl rfl k) ?_
      show OwnGo p e below _ (T13.setTop (mkF m 22 #[.val (.ref a1), .val (.int p2), .val (.int (63 : Int32)), .val (.int j)] [(.ref a1)]))
      obtain ⟨T16, X16, e16, st16⟩ := getF X13 hx hZ hown (host := "") (Or.inl (hw _ (List.mem_of_getElem? (i := 27) rfl))) Via.refl e13 PF1 (g := (mkF m 22 #[.val (.ref a1), .val (.int p2), .val (.int (63 : Int32)), .val (.int j)] [(.ref a1)])) rfl rfl (hb hby d_prog_46_method_13_22)
      refine own_go st16 ?_
      show OwnGo p e below _ (T16.setTop (mkF m 25 #[.val (.ref a1), .val (.int p2), .val (.int (63 : Int32)), .val (.int j)] [(.ref b1)]))
      refine own_go (fun _ k => XS.aloadN X16.here hx rfl (hb hby d_prog_46_method_13_25) rfl rfl k) ?_
      show OwnGo p e below _ (T16.setTop (mkF m 26 #[.val (.ref a1), .val (.int p2), .val (.int (63 : Int32)), .val (.int j)] [(.ref a1), (.ref b1)]))
      obtain ⟨T17, X17, e17, st17⟩ := getF X16 hx hZ hown (host := "") (Or.inl (hw _ (List.mem_of_getElem? (i := 34) rfl))) Via.refl e16 PF2 (g := (mkF m 26 #[.val (.ref a1), .val (.int p2), .val (.int (63 : Int32)), .val (.int j)] [(.ref a1), (.ref b1)])) rfl rfl (hb hby d_prog_46_method_13_26)
      refine own_go st17 ?_
      show OwnGo p e below _ (T17.setTop (mkF m 29 #[.val (.ref a1), .val (.int p2), .val (.int (63 : Int32)), .val (.int j)] [(.ref b2), (.ref b1)]))
      refine own_go (fun _ k => XS.iloadN X17.here hx rfl (hb hby d_prog_46_method_13_29) rfl k) ?_
      show OwnGo p e below _ (T17.setTop (mkF m 30 #[.val (.ref a1), .val (.int p2), .val (.int (63 : Int32)), .val (.int j)] [(.int j), (.ref b2), (.ref b1)]))
      obtain ⟨c18, Ar18, S18, M18, H18⟩ := (id PV2)
      have b18 : 0 ≤ (j).toInt ∧ (j).toInt < ((64 : Int32)).toInt := ⟨hj0, (by rw [(show (64 : Int32).toInt = 64 from by decide)]; exact hj1)⟩
      refine own_go (fun _ k => X17.iaload hx (j := j) (v := (.int (g1 (j).toNatClampNeg))) (by rw [e17]; exact Ar18.1) (State.isArrayOf_alike hZ.alike Ar18.2.1) Ar18.2.2 (own_inbz S18 (by decide) b18.1 b18.2) (IA.atz H18 (by decide) b18.1 b18.2) (g := (mkF m 30 #[.val (.ref a1), .val (.int p2), .val (.int (63 : Int32)), .val (.int j)] [(.int j), (.ref b2), (.ref b1)])) rfl rfl (hb hby d_prog_46_method_13_30) _ k) ?_
      show OwnGo p e below _ (T17.setTop (mkF m 31 #[.val (.ref a1), .val (.int p2), .val (.int (63 : Int32)), .val (.int j)] [(.int (g1 (j).toNatClampNeg)), (.ref b1)]))
      refine own_go (fun _ k => XS.iconst X17.here hx rfl (hb hby d_prog_46_method_13_31) k) ?_
      show OwnGo p e below _ (T17.setTop (mkF m 32 #[.val (.ref a1), .val (.int p2), .val (.int (63 : Int32)), .val (.int j)] [(.int (1 : Int32)), (.int (g1 (j).toNatClampNeg)), (.ref b1)]))
      refine own_go (fun _ k => XS.isub X17.here hx rfl (hb hby d_prog_46_method_13_32) rfl k) ?_
      show OwnGo p e below _ (T17.setTop (mkF m 33 #[.val (.ref a1), .val (.int p2), .val (.int (63 : Int32)), .val (.int j)] [(.int ((g1 (j).toNatClampNeg) - (1 : Int32))), (.ref b1)]))
      obtain ⟨c19, Ar19, S19, M19, H19⟩ := (id PV1)
      have b19 : 0 ≤ (((g1 (j).toNatClampNeg) - (1 : Int32))).toInt ∧ (((g1 (j).toNatClampNeg) - (1 : Int32))).toInt < (z1).toInt := ⟨(own_pred (hbb (j).toNatClampNeg (by have := own_nat hj0; omega)).1 hc15 (hbb (j).toNatClampNeg (by have := own_nat hj0; omega)).2).1, (own_pred (hbb (j).toNatClampNeg (by have := own_nat hj0; omega)).1 hc15 (hbb (j).toNatClampNeg (by have := own_nat hj0; omega)).2).2⟩
      refine own_go (fun _ k => X17.iaload hx (j := ((g1 (j).toNatClampNeg) - (1 : Int32))) (v := (.int (f1 (((g1 (j).toNatClampNeg) - (1 : Int32))).toNatClampNeg))) (by rw [e17]; exact Ar19.1) (State.isArrayOf_alike hZ.alike Ar19.2.1) Ar19.2.2 (own_inbz S19 hz1 b19.1 b19.2) (IA.atz H19 hz1 b19.1 b19.2) (g := (mkF m 33 #[.val (.ref a1), .val (.int p2), .val (.int (63 : Int32)), .val (.int j)] [(.int ((g1 (j).toNatClampNeg) - (1 : Int32))), (.ref b1)])) rfl rfl (hb hby d_prog_46_method_13_33) _ k) ?_
      show OwnGo p e below _ (T17.setTop (mkF m 34 #[.val (.ref a1), .val (.int p2), .val (.int (63 : Int32)), .val (.int j)] [(.int (f1 (((g1 (j).toNatClampNeg) - (1 : Int32))).toNatClampNeg))]))
      refine own_go (fun _ k => XS.iloadN X17.here hx rfl (hb hby d_prog_46_method_13_34) rfl k) ?_
      show OwnGo p e below _ (T17.setTop (mkF m 35 #[.val (.ref a1), .val (.int p2), .val (.int (63 : Int32)), .val (.int j)] [(.int p2), (.int (f1 (((g1 (j).toNatClampNeg) - (1 : Int32))).toNatClampNeg))]))
      by_cases hc20 : (f1 (((g1 (j).toNatClampNeg) - (1 : Int32))).toNatClampNeg) = p2
      · refine own_go (fun _ k => XS.icmpYes X17.here hx rfl (pc0 := 35) (pc' := 47) rfl (hb hby d_prog_46_method_13_35) rfl (teq hc20).1 (by decide) (by decide) k) ?_
        show OwnGo p e below _ (T17.setTop (mkF m 47 #[.val (.ref a1), .val (.int p2), .val (.int (63 : Int32)), .val (.int j)] []))
        refine own_go (fun _ k => XS.iloadN X17.here hx rfl (hb hby d_prog_46_method_13_47) rfl k) ?_
        show OwnGo p e below _ (T17.setTop (mkF m 48 #[.val (.ref a1), .val (.int p2), .val (.int (63 : Int32)), .val (.int j)] [(.int j)]))
        obtain ⟨fs, hr, hrun, hended, hW, hsame⟩ := X17.leave (v := some (.int j)) (fun h => by rw [Bd.returns] at h; cases h)
        refine ⟨_, _, retOut X17 hx Bd.returns rfl (Or.inl ⟨rfl, Or.inl rfl, _, rfl⟩) (hb hby d_prog_46_method_13_48) hr, hrun, hended, _, _, rfl, ?_, ⟨_, rfl⟩, hW, hsame.mono (by decide) (by decide)⟩
        show Q_slot64 Z aNONE a1 p2 b1 b2 z1 f1 g1 r0 h0 n0 _ T17.heap _
        rw [e17]
        exact ⟨(by rw [← hp, if_neg hc15, if_pos hc20]), N0, rfl⟩
      · refine own_go (fun _ k => XS.icmpNo X17.here hx rfl (hb hby d_prog_46_method_13_35) rfl (feq hc20).1 k) ?_
        show OwnGo p e below _ (T17.setTop (mkF m 38 #[.val (.ref a1), .val (.int p2), .val (.int (63 : Int32)), .val (.int j)] []))
        refine own_go (fun _ k => XS.iloadN X17.here hx rfl (hb hby d_prog_46_method_13_38) rfl k) ?_
        show OwnGo p e below _ (T17.setTop (mkF m 39 #[.val (.ref a1), .val (.int p2), .val (.int (63 : Int32)), .val (.int j)] [(.int j)]))
        refine own_go (fun _ k => XS.iconst X17.here hx rfl (hb hby d_prog_46_method_13_39) k) ?_
        show OwnGo p e below _ (T17.setTop (mkF m 40 #[.val (.ref a1), .val (.int p2), .val (.int (63 : Int32)), .val (.int j)] [(.int (1 : Int32)), (.int j)]))
        refine own_go (fun _ k => XS.iadd X17.here hx rfl (hb hby d_prog_46_method_13_40) rfl k) ?_
        show OwnGo p e below _ (T17.setTop (mkF m 41 #[.val (.ref a1), .val (.int p2), .val (.int (63 : Int32)), .val (.int j)] [(.int (j + (1 : Int32)))]))
        refine own_go (fun _ k => XS.iloadN X17.here hx rfl (hb hby d_prog_46_method_13_41) rfl k) ?_
        show OwnGo p e below _ (T17.setTop (mkF m 42 #[.val (.ref a1), .val (.int p2), .val (.int (63 : Int32)), .val (.int j)] [(.int (63 : Int32)), (.int (j + (1 : Int32)))]))
        refine own_go (fun _ k => XS.iand X17.here hx rfl (hb hby d_prog_46_method_13_42) rfl k) ?_
        show OwnGo p e below _ (T17.setTop (mkF m 43 #[.val (.ref a1), .val (.int p2), .val (.int (63 : Int32)), .val (.int j)] [(.int ((j + (1 : Int32)) &&& (63 : Int32)))]))
        refine own_go (fun _ k => XS.istoreN X17.here hx rfl (hb hby d_prog_46_method_13_43) rfl (l' := #[.val (.ref a1), .val (.int p2), .val (.int (63 : Int32)), .val (.int ((j + (1 : Int32)) &&& (63 : Int32)))]) rfl k) ?_
        show OwnGo p e below _ (T17.setTop (mkF m 44 #[.val (.ref a1), .val (.int p2), .val (.int (63 : Int32)), .val (.int ((j + (1 : Int32)) &&& (63 : Int32)))] []))
        refine own_go (fun _ k => XS.goto X17.here hx rfl (pc0 := 44) (pc' := 12) rfl (hb hby d_prog_46_method_13_44) (by decide) (by decide) k) ?_
        show OwnGo p e below _ (T17.setTop (mkF m 12 #[.val (.ref a1), .val (.int p2), .val (.int (63 : Int32)), .val (.int ((j + (1 : Int32)) &&& (63 : Int32)))] []))
        exact ih _ _ X17 e17 (by have q := own_and_rng (j + (1 : Int32)) (63 : Int32) (k := 6) (by decide) (by decide); omega) (by have q := own_and_rng (j + (1 : Int32)) (63 : Int32) (k := 6) (by decide) (by decide); omega) (by rw [own_next (k := 6) (by decide) (by decide) hj0 (by omega)]; exact own_ahead_next (by have := own_nat hj0; omega) hc15 hd) (by rw [if_neg hc15, if_neg hc20] at hp; exact hp)
def Q_slot128 (Z : State) (aNONE : Addr) (a1 : Addr) (p2 : Int32) (b1 : Addr) (b2 : Addr) (z1 : Int32) (f1 : Nat → Int32) (g1 : Nat → Int32) (r0 : Int32) (h0 : Heap) (n0 : Nat) (v : Option Value) (h : Heap) (L : List Loc) : Prop := v = some (.int r0) ∧ Fr n0 L ∧ h = h0
theorem ef_slot128 (m : MethodId) (x0 : Addr) (x1 : Int32) : entryFrame m #[(.ref x0), (.int x1)] 4 = mkF m 0 #[.val (.ref x0), .val (.int x1), .unset, .unset] [] := by first | (simp [entryFrame, mkF, argsToLocals, Value.category]; done) | rfl
set_option maxRecDepth 65536 in
set_option maxHeartbeats 40000000 in
theorem rm_slot128 (l : Launch) (Z : State) (a0 : Array Value) (hw : ∀ d ∈ tables_1, d.before a0 Z = true) (ws : List Jvm.Cond) (aNONE : Addr) (F0 : OwnFacts Z aNONE) (a1 : Addr) (p2 : Int32) (b1 : Addr) (b2 : Addr) (z1 : Int32) (f1 : Nat → Int32) (g1 : Nat → Int32) (r0 : Int32) (h0 : Heap) (n0 : Nat) (O0 : Old Z n0 h0) (PF1 : Fld Z h0 a1 "com/example/reweave/reweave/control/Keys" "numbers" "[I" (.ref b1)) (PF2 : Fld Z h0 a1 "com/example/reweave/reweave/control/Keys" "slots" "[I" (.ref b2)) (PV1 : IA Z h0 b1 (z1).toNatClampNeg f1) (PV2 : IA Z h0 b2 ((128 : Int32)).toNatClampNeg g1) (hz1 : 0 ≤ z1.toInt) (hbb : ∀ j, j < 128 → 0 ≤ (g1 j).toInt ∧ (g1 j).toInt ≤ z1.toInt) (hfr : ∃ z, z < 128 ∧ g1 z = 0) (hr0 : own_probe g1 f1 p2 (127 : Int32) 128 (p2 &&& (127 : Int32)) = r0) :
    MetFree l (⟨"com/example/reweave/reweave/control/Keys", "slotOf", "(I)I"⟩ : MethodName) (head1 (Jvm.Cond.code (⟨"com/example/reweave/reweave/control/Keys", "slotOf", "(I)I"⟩ : MethodName) prog_46_method_13_code 4 (some .int) :: ws) ({ frames := 0, cells := 0, slots := 0, locals := 0 } : Room)) (fun a U => a = #[(.ref a1), (.int p2)] ∧ Z.Warmed39 U.vm ∧ U.heap = h0) (fun _ _ _ _ _ => True) (fun _ U o U' => ∃ v L, o = .returned v ∧ Q_slot128 Z aNONE a1 p2 b1 b2 z1 f1 g1 r0 h0 n0 v U'.heap L ∧ FrameEnd U o U' L ({ frames := 0, cells := 0, slots := 0, locals := 0 } : Room).cells ({ frames := 0, cells := 0, slots := 0, locals := 0 } : Room).slots) := by
  refine MetFree.of_bodySF (plainFor_of_name pn_com_example_reweave_reweave_control_Keys) hisR ?_
  intro p e s m args below meth c s₁ Bd hml0 hP hK
  obtain ⟨rfl, hZ, hh⟩ := hP
  have hx := Bd.exec
  have hby := Bd.bytes
  have hml : c.maxLocals = 4 := hml0
  have hown : s.vm.findClass "com/example/reweave/reweave/control/Keys" = some m.cls := findClass_of_methodNamed Bd.named
  have hnm := (name_of_methodNamed Bd.named Bd.method).1
  have X0 : Stand p l e ({ frames := 0, cells := 0, slots := 0, locals := 0 } : Room) s m #[(.ref a1), (.int p2)] below meth c s₁ [] 0 0 := Stand.of_body Bd
  have e0 : s₁.heap = h0 := by rw [← hh, Bd.state]; rfl
  have N0 := Fr.nil n0
  refine own_go (Q := fun o U' => ∃ v L, o = .returned v ∧ Q_slot128 Z aNONE a1 p2 b1 b2 z1 f1 g1 r0 h0 n0 v U'.heap L ∧ FrameEnd s o U' L ({ frames := 0, cells := 0, slots := 0, locals := 0 } : Room).cells ({ frames := 0, cells := 0, slots := 0, locals := 0 } : Room).slots) (fun t k => castTop (ef_slot128 m a1 p2) k) ?_
  show OwnGo p e below _ (s₁.setTop (mkF m 0 #[.val (.ref a1), .val (.int p2), .unset, .unset] []))
  refine own_go (fun _ k => XS.aloadN X0.here hx rfl (hb hby d_prog_46_method_13_0) rfl rfl k) ?_
  show OwnGo p e below _ (s₁.setTop (mkF m 1 #[.val (.ref a1), .val (.int p2), .unset, .unset] [(.ref a1)]))
  obtain ⟨T21, X21, e21, st21⟩ := getF X0 hx hZ hown (host := "") (Or.inl (hw _ (List.mem_of_getElem? (i := 34) rfl))) Via.refl e0 PF2 (g := (mkF m 1 #[.val (.ref a1), .val (.int p2), .unset, .unset] [(.ref a1)])) rfl rfl (hb hby d_prog_46_method_13_1)
  refine own_go st21 ?_
  show OwnGo p e below _ (T21.setTop (mkF m 4 #[.val (.ref a1), .val (.int p2), .unset, .unset] [(.ref b2)]))
  obtain ⟨c22, Ar22, S22, M22, H22⟩ := (id PV2)
  refine own_go (fun _ k => X21.arraylength hx (cell := c22) (by rw [e21]; exact Ar22.1) (State.isArrayOf_alike hZ.alike Ar22.2.1) (g := (mkF m 4 #[.val (.ref a1), .val (.int p2), .unset, .unset] [(.ref b2)])) rfl (rest := []) rfl (hb hby d_prog_46_method_13_4) _ k) ?_
  rw [len_of S22 (own_nn (by decide))]
  show OwnGo p e below _ (T21.setTop (mkF m 5 #[.val (.ref a1), .val (.int p2), .unset, .unset] [(.int (128 : Int32))]))
  refine own_go (fun _ k => XS.iconst X21.here hx rfl (hb hby d_prog_46_method_13_5) k) ?_
  show OwnGo p e below _ (T21.setTop (mkF m 6 #[.val (.ref a1), .val (.int p2), .unset, .unset] [(.int (1 : Int32)), (.int (128 : Int32))]))
  refine own_go (fun _ k => XS.isub X21.here hx rfl (hb hby d_prog_46_method_13_6) rfl k) ?_
  show OwnGo p e below _ (T21.setTop (mkF m 7 #[.val (.ref a1), .val (.int p2), .unset, .unset] [(.int ((128 : Int32) - (1 : Int32)))]))
  rw [show ((128 : Int32) - (1 : Int32)) = (127 : Int32) from by decide]
  show OwnGo p e below _ (T21.setTop (mkF m 7 #[.val (.ref a1), .val (.int p2), .unset, .unset] [(.int (127 : Int32))]))
  refine own_go (fun _ k => XS.istoreN X21.here hx rfl (hb hby d_prog_46_method_13_7) rfl (l' := #[.val (.ref a1), .val (.int p2), .val (.int (127 : Int32)), .unset]) rfl k) ?_
  show OwnGo p e below _ (T21.setTop (mkF m 8 #[.val (.ref a1), .val (.int p2), .val (.int (127 : Int32)), .unset] []))
  refine own_go (fun _ k => XS.iloadN X21.here hx rfl (hb hby d_prog_46_method_13_8) rfl k) ?_
  show OwnGo p e below _ (T21.setTop (mkF m 9 #[.val (.ref a1), .val (.int p2), .val (.int (127 : Int32)), .unset] [(.int p2)]))
  refine own_go (fun _ k => XS.iloadN X21.here hx rfl (hb hby d_prog_46_method_13_9) rfl k) ?_
  show OwnGo p e below _ (T21.setTop (mkF m 10 #[.val (.ref a1), .val (.int p2), .val (.int (127 : Int32)), .unset] [(.int (127 : Int32)), (.int p2)]))
  refine own_go (fun _ k => XS.iand X21.here hx rfl (hb hby d_prog_46_method_13_10) rfl k) ?_
  show OwnGo p e below _ (T21.setTop (mkF m 11 #[.val (.ref a1), .val (.int p2), .val (.int (127 : Int32)), .unset] [(.int (p2 &&& (127 : Int32)))]))
  refine own_go (fun _ k => XS.istoreN X21.here hx rfl (hb hby d_prog_46_method_13_11) rfl (l' := #[.val (.ref a1), .val (.int p2), .val (.int (127 : Int32)), .val (.int (p2 &&& (127 : Int32)))]) rfl k) ?_
  show OwnGo p e below _ (T21.setTop (mkF m 12 #[.val (.ref a1), .val (.int p2), .val (.int (127 : Int32)), .val (.int (p2 &&& (127 : Int32)))] []))
  suffices loop : ∀ (t : Nat) (j : Int32) (T : State), Stand p l e ({ frames := 0, cells := 0, slots := 0, locals := 0 } : Room) s m #[(.ref a1), (.int p2)] below meth c T [] 0 0 → T.heap = h0 → 0 ≤ j.toInt → j.toInt < 128 → (∃ d, d < t ∧ g1 ((j.toNatClampNeg + d) % 128) = 0) → own_probe g1 f1 p2 (127 : Int32) t j = r0 → OwnGo p e below (fun o U' => ∃ v L, o = .returned v ∧ Q_slot128 Z aNONE a1 p2 b1 b2 z1 f1 g1 r0 h0 n0 v U'.heap L ∧ FrameEnd s o U' L ({ frames := 0, cells := 0, slots := 0, locals := 0 } : Room).cells ({ frames := 0, cells := 0, slots := 0, locals := 0 } : Room).slots) (T.setTop (mkF m 12 #[.val (.ref a1), .val (.int p2), .val (.int (127 : Int32)), .val (.int j)] [])) from
    loop 128 _ _ X21 e21 (by have q := own_and_rng p2 (127 : Int32) (k := 7) (by decide) (by decide); omega) (by have q := own_and_rng p2 (127 : Int32) (k := 7) (by decide) (by decide); omega) (own_ahead (by have q := own_and_rng p2 (127 : Int32) (k := 7) (by decide) (by decide); have := own_nat q.1; omega) hfr) hr0
  intro t
  induction t with
  | zero =>
    intro j T XL eL hj0 hj1 hd hp
    obtain ⟨d, hd, -⟩ := hd
    exact absurd hd (Nat.not_lt_zero _)
  | succ t ih =>
    intro j T XL eL hj0 hj1 hd hp
    unfold own_probe at hp
    show OwnGo p e below _ (T.setTop (mkF m 12 #[.val (.ref a1), .val (.int p2), .val (.int (127 : Int32)), .val (.int j)] []))
    refine own_go (fun _ k => XS.aloadN XL.here hx rfl (hb hby d_prog_46_method_13_12) rfl rfl k) ?_
    show OwnGo p e below _ (T.setTop (mkF m 13 #[.val (.ref a1), .val (.int p2), .val (.int (127 : Int32)), .val (.int j)] [(.ref a1)]))
    obtain ⟨T23, X23, e23, st23⟩ := getF XL hx hZ hown (host := "") (Or.inl (hw _ (List.mem_of_getElem? (i := 34) rfl))) Via.refl eL PF2 (g := (mkF m 13 #[.val (.ref a1), .val (.int p2), .val (.int (127 : Int32)), .val (.int j)] [(.ref a1)])) rfl rfl (hb hby d_prog_46_method_13_13)
    refine own_go st23 ?_
    show OwnGo p e below _ (T23.setTop (mkF m 16 #[.val (.ref a1), .val (.int p2), .val (.int (127 : Int32)), .val (.int j)] [(.ref b2)]))
    refine own_go (fun _ k => XS.iloadN X23.here hx rfl (hb hby d_prog_46_method_13_16) rfl k) ?_
    show OwnGo p e below _ (T23.setTop (mkF m 17 #[.val (.ref a1), .val (.int p2), .val (.int (127 : Int32)), .val (.int j)] [(.int j), (.ref b2)]))
    obtain ⟨c24, Ar24, S24, M24, H24⟩ := (id PV2)
    have b24 : 0 ≤ (j).toInt ∧ (j).toInt < ((128 : Int32)).toInt := ⟨hj0, (by rw [(show (128 : Int32).toInt = 128 from by decide)]; exact hj1)⟩
    refine own_go (fun _ k => X23.iaload hx (j := j) (v := (.int (g1 (j).toNatClampNeg))) (by rw [e23]; exact Ar24.1) (State.isArrayOf_alike hZ.alike Ar24.2.1) Ar24.2.2 (own_inbz S24 (by decide) b24.1 b24.2) (IA.atz H24 (by decide) b24.1 b24.2) (g := (mkF m 17 #[.val (.ref a1), .val (.int p2), .val (.int (127 : Int32)), .val (.int j)] [(.int j), (.ref b2)])) rfl rfl (hb hby d_prog_46_method_13_17) _ k) ?_
    show OwnGo p e below _ (T23.setTop (mkF m 18 #[.val (.ref a1), .val (.int p2), .val (.int (127 : Int32)), .val (.int j)] [(.int (g1 (j).toNatClampNeg))]))
    by_cases hc25 : (g1 (j).toNatClampNeg) = (0 : Int32)
    · refine own_go (fun _ k => XS.ifYes X23.here hx rfl (pc0 := 18) (pc' := 47) rfl (hb hby d_prog_46_method_13_18) rfl ((if0 _ _).trans (teq hc25).1) (by decide) (by decide) k) ?_
      show OwnGo p e below _ (T23.setTop (mkF m 47 #[.val (.ref a1), .val (.int p2), .val (.int (127 : Int32)), .val (.int j)] []))
      refine own_go (fun _ k => XS.iloadN X23.here hx rfl (hb hby d_prog_46_method_13_47) rfl k) ?_
      show OwnGo p e below _ (T23.setTop (mkF m 48 #[.val (.ref a1), .val (.int p2), .val (.int (127 : Int32)), .val (.int j)] [(.int j)]))
      obtain ⟨fs, hr, hrun, hended, hW, hsame⟩ := X23.leave (v := some (.int j)) (fun h => by rw [Bd.returns] at h; cases h)
      refine ⟨_, _, retOut X23 hx Bd.returns rfl (Or.inl ⟨rfl, Or.inl rfl, _, rfl⟩) (hb hby d_prog_46_method_13_48) hr, hrun, hended, _, _, rfl, ?_, ⟨_, rfl⟩, hW, hsame.mono (by decide) (by decide)⟩
      show Q_slot128 Z aNONE a1 p2 b1 b2 z1 f1 g1 r0 h0 n0 _ T23.heap _
      rw [e23]
      exact ⟨(by rw [← hp, if_pos hc25]), N0, rfl⟩
    · refine own_go (fun _ k => XS.ifNo X23.here hx rfl (hb hby d_prog_46_method_13_18) rfl ((if0 _ _).trans (feq hc25).1) k) ?_
      show OwnGo p e below _ (T23.setTop (mkF m 21 #[.val (.ref a1), .val (.int p2), .val (.int (127 : Int32)), .val (.int j)] []))
      refine own_go (fun _ k => XS.aloadN X23.here hx rfl (hb hby d_prog_46_method_13_21) rfl rfl k) ?_
      show OwnGo p e below _ (T23.setTop (mkF m 22 #[.val (.ref a1), .val (.int p2), .val (.int (127 : Int32)), .val (.int j)] [(.ref a1)]))
      obtain ⟨T26, X26, e26, st26⟩ := getF X23 hx hZ hown (host := "") (Or.inl (hw _ (List.mem_of_getElem? (i := 27) rfl))) Via.refl e23 PF1 (g := (mkF m 22 #[.val (.ref a1), .val (.int p2), .val (.int (127 : Int32)), .val (.int j)] [(.ref a1)])) rfl rfl (hb hby d_prog_46_method_13_22)
      refine own_go st26 ?_
      show OwnGo p e below _ (T26.setTop (mkF m 25 #[.val (.ref a1), .val (.int p2), .val (.int (127 : Int32)), .val (.int j)] [(.ref b1)]))
      refine own_go (fun _ k => XS.aloadN X26.here hx rfl (hb hby d_prog_46_method_13_25) rfl rfl k) ?_
      show OwnGo p e below _ (T26.setTop (mkF m 26 #[.val (.ref a1), .val (.int p2), .val (.int (127 : Int32)), .val (.int j)] [(.ref a1), (.ref b1)]))
      obtain ⟨T27, X27, e27, st27⟩ := getF X26 hx hZ hown (host := "") (Or.inl (hw _ (List.mem_of_getElem? (i := 34) rfl))) Via.refl e26 PF2 (g := (mkF m 26 #[.val (.ref a1), .val (.int p2), .val (.int (127 : Int32)), .val (.int j)] [(.ref a1), (.ref b1)])) rfl rfl (hb hby d_prog_46_method_13_26)
      refine own_go st27 ?_
      show OwnGo p e below _ (T27.setTop (mkF m 29 #[.val (.ref a1), .val (.int p2), .val (.int (127 : Int32)), .val (.int j)] [(.ref b2), (.ref b1)]))
      refine own_go (fun _ k => XS.iloadN X27.here hx rfl (hb hby d_prog_46_method_13_29) rfl k) ?_
      show OwnGo p e below _ (T27.setTop (mkF m 30 #[.val (.ref a1), .val (.int p2), .val (.int (127 : Int32)), .val (.int j)] [(.int j), (.ref b2), (.ref b1)]))
      obtain ⟨c28, Ar28, S28, M28, H28⟩ := (id PV2)
      have b28 : 0 ≤ (j).toInt ∧ (j).toInt < ((128 : Int32)).toInt := ⟨hj0, (by rw [(show (128 : Int32).toInt = 128 from by decide)]; exact hj1)⟩
      refine own_go (fun _ k => X27.iaload hx (j := j) (v := (.int (g1 (j).toNatClampNeg))) (by rw [e27]; exact Ar28.1) (State.isArrayOf_alike hZ.alike Ar28.2.1) Ar28.2.2 (own_inbz S28 (by decide) b28.1 b28.2) (IA.atz H28 (by decide) b28.1 b28.2) (g := (mkF m 30 #[.val (.ref a1), .val (.int p2), .val (.int (127 : Int32)), .val (.int j)] [(.int j), (.ref b2), (.ref b1)])) rfl rfl (hb hby d_prog_46_method_13_30) _ k) ?_
      show OwnGo p e below _ (T27.setTop (mkF m 31 #[.val (.ref a1), .val (.int p2), .val (.int (127 : Int32)), .val (.int j)] [(.int (g1 (j).toNatClampNeg)), (.ref b1)]))
      refine own_go (fun _ k => XS.iconst X27.here hx rfl (hb hby d_prog_46_method_13_31) k) ?_
      show OwnGo p e below _ (T27.setTop (mkF m 32 #[.val (.ref a1), .val (.int p2), .val (.int (127 : Int32)), .val (.int j)] [(.int (1 : Int32)), (.int (g1 (j).toNatClampNeg)), (.ref b1)]))
      refine own_go (fun _ k => XS.isub X27.here hx rfl (hb hby d_prog_46_method_13_32) rfl k) ?_
      show OwnGo p e below _ (T27.setTop (mkF m 33 #[.val (.ref a1), .val (.int p2), .val (.int (127 : Int32)), .val (.int j)] [(.int ((g1 (j).toNatClampNeg) - (1 : Int32))), (.ref b1)]))
      obtain ⟨c29, Ar29, S29, M29, H29⟩ := (id PV1)
      have b29 : 0 ≤ (((g1 (j).toNatClampNeg) - (1 : Int32))).toInt ∧ (((g1 (j).toNatClampNeg) - (1 : Int32))).toInt < (z1).toInt := ⟨(own_pred (hbb (j).toNatClampNeg (by have := own_nat hj0; omega)).1 hc25 (hbb (j).toNatClampNeg (by have := own_nat hj0; omega)).2).1, (own_pred (hbb (j).toNatClampNeg (by have := own_nat hj0; omega)).1 hc25 (hbb (j).toNatClampNeg (by have := own_nat hj0; omega)).2).2⟩
      refine own_go (fun _ k => X27.iaload hx (j := ((g1 (j).toNatClampNeg) - (1 : Int32))) (v := (.int (f1 (((g1 (j).toNatClampNeg) - (1 : Int32))).toNatClampNeg))) (by rw [e27]; exact Ar29.1) (State.isArrayOf_alike hZ.alike Ar29.2.1) Ar29.2.2 (own_inbz S29 hz1 b29.1 b29.2) (IA.atz H29 hz1 b29.1 b29.2) (g := (mkF m 33 #[.val (.ref a1), .val (.int p2), .val (.int (127 : Int32)), .val (.int j)] [(.int ((g1 (j).toNatClampNeg) - (1 : Int32))), (.ref b1)])) rfl rfl (hb hby d_prog_46_method_13_33) _ k) ?_
      show OwnGo p e below _ (T27.setTop (mkF m 34 #[.val (.ref a1), .val (.int p2), .val (.int (127 : Int32)), .val (.int j)] [(.int (f1 (((g1 (j).toNatClampNeg) - (1 : Int32))).toNatClampNeg))]))
      refine own_go (fun _ k => XS.iloadN X27.here hx rfl (hb hby d_prog_46_method_13_34) rfl k) ?_
      show OwnGo p e below _ (T27.setTop (mkF m 35 #[.val (.ref a1), .val (.int p2), .val (.int (127 : Int32)), .val (.int j)] [(.int p2), (.int (f1 (((g1 (j).toNatClampNeg) - (1 : Int32))).toNatClampNeg))]))
      by_cases hc30 : (f1 (((g1 (j).toNatClampNeg) - (1 : Int32))).toNatClampNeg) = p2
      · refine own_go (fun _ k => XS.icmpYes X27.here hx rfl (pc0 := 35) (pc' := 47) rfl (hb hby d_prog_46_method_13_35) rfl (teq hc30).1 (by decide) (by decide) k) ?_
        show OwnGo p e below _ (T27.setTop (mkF m 47 #[.val (.ref a1), .val (.int p2), .val (.int (127 : Int32)), .val (.int j)] []))
        refine own_go (fun _ k => XS.iloadN X27.here hx rfl (hb hby d_prog_46_method_13_47) rfl k) ?_
        show OwnGo p e below _ (T27.setTop (mkF m 48 #[.val (.ref a1), .val (.int p2), .val (.int (127 : Int32)), .val (.int j)] [(.int j)]))
        obtain ⟨fs, hr, hrun, hended, hW, hsame⟩ := X27.leave (v := some (.int j)) (fun h => by rw [Bd.returns] at h; cases h)
        refine ⟨_, _, retOut X27 hx Bd.returns rfl (Or.inl ⟨rfl, Or.inl rfl, _, rfl⟩) (hb hby d_prog_46_method_13_48) hr, hrun, hended, _, _, rfl, ?_, ⟨_, rfl⟩, hW, hsame.mono (by decide) (by decide)⟩
        show Q_slot128 Z aNONE a1 p2 b1 b2 z1 f1 g1 r0 h0 n0 _ T27.heap _
        rw [e27]
        exact ⟨(by rw [← hp, if_neg hc25, if_pos hc30]), N0, rfl⟩
      · refine own_go (fun _ k => XS.icmpNo X27.here hx rfl (hb hby d_prog_46_method_13_35) rfl (feq hc30).1 k) ?_
        show OwnGo p e below _ (T27.setTop (mkF m 38 #[.val (.ref a1), .val (.int p2), .val (.int (127 : Int32)), .val (.int j)] []))
        refine own_go (fun _ k => XS.iloadN X27.here hx rfl (hb hby d_prog_46_method_13_38) rfl k) ?_
        show OwnGo p e below _ (T27.setTop (mkF m 39 #[.val (.ref a1), .val (.int p2), .val (.int (127 : Int32)), .val (.int j)] [(.int j)]))
        refine own_go (fun _ k => XS.iconst X27.here hx rfl (hb hby d_prog_46_method_13_39) k) ?_
        show OwnGo p e below _ (T27.setTop (mkF m 40 #[.val (.ref a1), .val (.int p2), .val (.int (127 : Int32)), .val (.int j)] [(.int (1 : Int32)), (.int j)]))
        refine own_go (fun _ k => XS.iadd X27.here hx rfl (hb hby d_prog_46_method_13_40) rfl k) ?_
        show OwnGo p e below _ (T27.setTop (mkF m 41 #[.val (.ref a1), .val (.int p2), .val (.int (127 : Int32)), .val (.int j)] [(.int (j + (1 : Int32)))]))
        refine own_go (fun _ k => XS.iloadN X27.here hx rfl (hb hby d_prog_46_method_13_41) rfl k) ?_
        show OwnGo p e below _ (T27.setTop (mkF m 42 #[.val (.ref a1), .val (.int p2), .val (.int (127 : Int32)), .val (.int j)] [(.int (127 : Int32)), (.int (j + (1 : Int32)))]))
        refine own_go (fun _ k => XS.iand X27.here hx rfl (hb hby d_prog_46_method_13_42) rfl k) ?_
        show OwnGo p e below _ (T27.setTop (mkF m 43 #[.val (.ref a1), .val (.int p2), .val (.int (127 : Int32)), .val (.int j)] [(.int ((j + (1 : Int32)) &&& (127 : Int32)))]))
        refine own_go (fun _ k => XS.istoreN X27.here hx rfl (hb hby d_prog_46_method_13_43) rfl (l' := #[.val (.ref a1), .val (.int p2), .val (.int (127 : Int32)), .val (.int ((j + (1 : Int32)) &&& (127 : Int32)))]) rfl k) ?_
        show OwnGo p e below _ (T27.setTop (mkF m 44 #[.val (.ref a1), .val (.int p2), .val (.int (127 : Int32)), .val (.int ((j + (1 : Int32)) &&& (127 : Int32)))] []))
        refine own_go (fun _ k => XS.goto X27.here hx rfl (pc0 := 44) (pc' := 12) rfl (hb hby d_prog_46_method_13_44) (by decide) (by decide) k) ?_
        show OwnGo p e below _ (T27.setTop (mkF m 12 #[.val (.ref a1), .val (.int p2), .val (.int (127 : Int32)), .val (.int ((j + (1 : Int32)) &&& (127 : Int32)))] []))
        exact ih _ _ X27 e27 (by have q := own_and_rng (j + (1 : Int32)) (127 : Int32) (k := 7) (by decide) (by decide); omega) (by have q := own_and_rng (j + (1 : Int32)) (127 : Int32) (k := 7) (by decide) (by decide); omega) (by rw [own_next (k := 7) (by decide) (by decide) hj0 (by omega)]; exact own_ahead_next (by have := own_nat hj0; omega) hc25 hd) (by rw [if_neg hc25, if_neg hc30] at hp; exact hp)
theorem d_prog_46_method_6_0 : decode prog_46_method_6_code 0 = .ok (.aload_n 0, 1) := by decide +kernel
theorem d_prog_46_method_6_1 : decode prog_46_method_6_code 1 = .ok (.getfield 20, 3) := by decide +kernel
theorem d_prog_46_method_6_4 : decode prog_46_method_6_code 4 = .ok (.ifnonnull 33, 3) := by decide +kernel
theorem d_prog_46_method_6_7 : decode prog_46_method_6_code 7 = .ok (.iconst 0, 1) := by decide +kernel
theorem d_prog_46_method_6_8 : decode prog_46_method_6_code 8 = .ok (.istore_n 2, 1) := by decide +kernel
theorem d_prog_46_method_6_9 : decode prog_46_method_6_code 9 = .ok (.iload_n 2, 1) := by decide +kernel
theorem d_prog_46_method_6_10 : decode prog_46_method_6_code 10 = .ok (.aload_n 0, 1) := by decide +kernel
theorem d_prog_46_method_6_11 : decode prog_46_method_6_code 11 = .ok (.getfield 16, 3) := by decide +kernel
theorem d_prog_46_method_6_14 : decode prog_46_method_6_code 14 = .ok (.if_icmp .ge 21, 3) := by decide +kernel
theorem d_prog_46_method_6_35 : decode prog_46_method_6_code 35 = .ok (.iconst 0, 1) := by decide +kernel
theorem d_prog_46_method_6_36 : decode prog_46_method_6_code 36 = .ok (.ireturn, 1) := by decide +kernel
theorem d_prog_46_method_6_17 : decode prog_46_method_6_code 17 = .ok (.aload_n 0, 1) := by decide +kernel
theorem d_prog_46_method_6_18 : decode prog_46_method_6_code 18 = .ok (.getfield 12, 3) := by decide +kernel
theorem d_prog_46_method_6_21 : decode prog_46_method_6_code 21 = .ok (.iload_n 2, 1) := by decide +kernel
theorem d_prog_46_method_6_22 : decode prog_46_method_6_code 22 = .ok (.iaload, 1) := by decide +kernel
theorem d_prog_46_method_6_23 : decode prog_46_method_6_code 23 = .ok (.iload_n 1, 1) := by decide +kernel
theorem d_prog_46_method_6_24 : decode prog_46_method_6_code 24 = .ok (.if_icmp .ne 5, 3) := by decide +kernel
theorem d_prog_46_method_6_27 : decode prog_46_method_6_code 27 = .ok (.iconst 1, 1) := by decide +kernel
theorem d_prog_46_method_6_28 : decode prog_46_method_6_code 28 = .ok (.ireturn, 1) := by decide +kernel
theorem d_prog_46_method_6_29 : decode prog_46_method_6_code 29 = .ok (.iinc 2 1, 3) := by decide +kernel
theorem d_prog_46_method_6_32 : decode prog_46_method_6_code 32 = .ok (.goto (-23), 3) := by decide +kernel
def Q_con (Z : State) (aNONE : Addr) (a1 : Addr) (p2 : Int32) (b1 : Addr) (z1 : Int32) (f1 : Nat → Int32) (s1 : Int32) (r0 : Int32) (h0 : Heap) (n0 : Nat) (v : Option Value) (h : Heap) (L : List Loc) : Prop := v = some (.int r0) ∧ Fr n0 L ∧ h = h0
theorem ef_con (m : MethodId) (x0 : Addr) (x1 : Int32) : entryFrame m #[(.ref x0), (.int x1)] 3 = mkF m 0 #[.val (.ref x0), .val (.int x1), .unset] [] := by first | (simp [entryFrame, mkF, argsToLocals, Value.category]; done) | rfl
set_option maxRecDepth 65536 in
set_option maxHeartbeats 40000000 in
theorem rm_con (l : Launch) (Z : State) (a0 : Array Value) (hw : ∀ d ∈ tables_1, d.before a0 Z = true) (ws : List Jvm.Cond) (aNONE : Addr) (F0 : OwnFacts Z aNONE) (a1 : Addr) (p2 : Int32) (b1 : Addr) (z1 : Int32) (f1 : Nat → Int32) (s1 : Int32) (r0 : Int32) (h0 : Heap) (n0 : Nat) (O0 : Old Z n0 h0) (PF1 : Fld Z h0 a1 "com/example/reweave/reweave/control/Keys" "numbers" "[I" (.ref b1)) (PF2 : Fld Z h0 a1 "com/example/reweave/reweave/control/Keys" "slots" "[I" .null) (PF3 : Fld Z h0 a1 "com/example/reweave/reweave/control/Keys" "size" "I" (.int s1)) (PV1 : IA Z h0 b1 (z1).toNatClampNeg f1) (hz1 : 0 ≤ z1.toInt) (hs0 : 0 ≤ (s1).toInt) (hsz : (s1).toInt ≤ z1.toInt) (hzz : z1.toInt < 1000) (hr0 : own_find f1 p2 (s1).toNatClampNeg (0 : Int32) = r0) :
    MetFree l (⟨"com/example/reweave/reweave/control/Keys", "contains", "(I)Z"⟩ : MethodName) (head1 (Jvm.Cond.code (⟨"com/example/reweave/reweave/control/Keys", "contains", "(I)Z"⟩ : MethodName) prog_46_method_6_code 3 (some .boolean) :: ws) ({ frames := 0, cells := 0, slots := 0, locals := 0 } : Room)) (fun a U => a = #[(.ref a1), (.int p2)] ∧ Z.Warmed39 U.vm ∧ U.heap = h0) (fun _ _ _ _ _ => True) (fun _ U o U' => ∃ v L, o = .returned v ∧ Q_con Z aNONE a1 p2 b1 z1 f1 s1 r0 h0 n0 v U'.heap L ∧ FrameEnd U o U' L ({ frames := 0, cells := 0, slots := 0, locals := 0 } : Room).cells ({ frames := 0, cells := 0, slots := 0, locals := 0 } : Room).slots) := by
  refine MetFree.of_bodySF (plainFor_of_name pn_com_example_reweave_reweave_control_Keys) hisR ?_
  intro p e s m args below meth c s₁ Bd hml0 hP hK
  obtain ⟨rfl, hZ, hh⟩ := hP
  have hx := Bd.exec
  have hby := Bd.bytes
  have hml : c.maxLocals = 3 := hml0
  have hown : s.vm.findClass "com/example/reweave/reweave/control/Keys" = some m.cls := findClass_of_methodNamed Bd.named
  have hnm := (name_of_methodNamed Bd.named Bd.method).1
  have X0 : Stand p l e ({ frames := 0, cells := 0, slots := 0, locals := 0 } : Room) s m #[(.ref a1), (.int p2)] below meth c s₁ [] 0 0 := Stand.of_body Bd
  have e0 : s₁.heap = h0 := by rw [← hh, Bd.state]; rfl
  have N0 := Fr.nil n0
  refine own_go (Q := fun o U' => ∃ v L, o = .returned v ∧ Q_con Z aNONE a1 p2 b1 z1 f1 s1 r0 h0 n0 v U'.heap L ∧ FrameEnd s o U' L ({ frames := 0, cells := 0, slots := 0, locals := 0 } : Room).cells ({ frames := 0, cells := 0, slots := 0, locals := 0 } : Room).slots) (fun t k => castTop (ef_con m a1 p2) k) ?_
  show OwnGo p e below _ (s₁.setTop (mkF m 0 #[.val (.ref a1), .val (.int p2), .unset] []))
  refine own_go (fun _ k => XS.aloadN X0.here hx rfl (hb hby d_prog_46_method_6_0) rfl rfl k) ?_
  show OwnGo p e below _ (s₁.setTop (mkF m 1 #[.val (.ref a1), .val (.int p2), .unset] [(.ref a1)]))
  obtain ⟨T31, X31, e31, st31⟩ := getF X0 hx hZ hown (host := "") (Or.inl (hw _ (List.mem_of_getElem? (i := 34) rfl))) Via.refl e0 PF2 (g := (mkF m 1 #[.val (.ref a1), .val (.int p2), .unset] [(.ref a1)])) rfl rfl (hb hby d_prog_46_method_6_1)
  refine own_go st31 ?_
  show OwnGo p e below _ (T31.setTop (mkF m 4 #[.val (.ref a1), .val (.int p2), .unset] [.null]))
  refine own_go (fun _ k => XS.ifnonnullNo X31.here hx rfl (hb hby d_prog_46_method_6_4) rfl k) ?_
  show OwnGo p e below _ (T31.setTop (mkF m 7 #[.val (.ref a1), .val (.int p2), .unset] []))
  refine own_go (fun _ k => XS.iconst X31.here hx rfl (hb hby d_prog_46_method_6_7) k) ?_
  show OwnGo p e below _ (T31.setTop (mkF m 8 #[.val (.ref a1), .val (.int p2), .unset] [(.int (0 : Int32))]))
  refine own_go (fun _ k => XS.istoreN X31.here hx rfl (hb hby d_prog_46_method_6_8) rfl (l' := #[.val (.ref a1), .val (.int p2), .val (.int (0 : Int32))]) rfl k) ?_
  show OwnGo p e below _ (T31.setTop (mkF m 9 #[.val (.ref a1), .val (.int p2), .val (.int (0 : Int32))] []))
  suffices loop : ∀ (t : Nat) (i : Int32) (T : State), Stand p l e ({ frames := 0, cells := 0, slots := 0, locals := 0 } : Room) s m #[(.ref a1), (.int p2)] below meth c T [] 0 0 → T.heap = h0 → 0 ≤ i.toInt → i.toInt + t = (s1).toInt → own_find f1 p2 t i = r0 → OwnGo p e below (fun o U' => ∃ v L, o = .returned v ∧ Q_con Z aNONE a1 p2 b1 z1 f1 s1 r0 h0 n0 v U'.heap L ∧ FrameEnd s o U' L ({ frames := 0, cells := 0, slots := 0, locals := 0 } : Room).cells ({ frames := 0, cells := 0, slots := 0, locals := 0 } : Room).slots) (T.setTop (mkF m 9 #[.val (.ref a1), .val (.int p2), .val (.int i)] [])) from
    loop (s1).toNatClampNeg (0 : Int32) _ X31 e31 (by decide) (by have c0 := (show (0 : Int32).toInt = 0 from by decide); have := own_nat hs0; omega) hr0
  intro t
  induction t with
  | zero =>
    intro i T XL eL hi0 hi hp
    show OwnGo p e below _ (T.setTop (mkF m 9 #[.val (.ref a1), .val (.int p2), .val (.int i)] []))
    refine own_go (fun _ k => XS.iloadN XL.here hx rfl (hb hby d_prog_46_method_6_9) rfl k) ?_
    show OwnGo p e below _ (T.setTop (mkF m 10 #[.val (.ref a1), .val (.int p2), .val (.int i)] [(.int i)]))
    refine own_go (fun _ k => XS.aloadN XL.here hx rfl (hb hby d_prog_46_method_6_10) rfl rfl k) ?_
    show OwnGo p e below _ (T.setTop (mkF m 11 #[.val (.ref a1), .val (.int p2), .val (.int i)] [(.ref a1), (.int i)]))
    obtain ⟨T32, X32, e32, st32⟩ := getF XL hx hZ hown (host := "") (Or.inl (hw _ (List.mem_of_getElem? (i := 17) rfl))) Via.refl eL PF3 (g := (mkF m 11 #[.val (.ref a1), .val (.int p2), .val (.int i)] [(.ref a1), (.int i)])) rfl rfl (hb hby d_prog_46_method_6_11)
    refine own_go st32 ?_
    show OwnGo p e below _ (T32.setTop (mkF m 14 #[.val (.ref a1), .val (.int p2), .val (.int i)] [(.int s1), (.int i)]))
    refine own_go (fun _ k => XS.icmpYes X32.here hx rfl (pc0 := 14) (pc' := 35) rfl (hb hby d_prog_46_method_6_14) rfl (flt (own_geI (by omega))).2.1 (by decide) (by decide) k) ?_
    show OwnGo p e below _ (T32.setTop (mkF m 35 #[.val (.ref a1), .val (.int p2), .val (.int i)] []))
    refine own_go (fun _ k => XS.iconst X32.here hx rfl (hb hby d_prog_46_method_6_35) k) ?_
    show OwnGo p e below _ (T32.setTop (mkF m 36 #[.val (.ref a1), .val (.int p2), .val (.int i)] [(.int (0 : Int32))]))
    obtain ⟨fs, hr, hrun, hended, hW, hsame⟩ := X32.leave (v := some (.int (0 : Int32))) (fun h => by rw [Bd.returns] at h; cases h)
    refine ⟨_, _, retOut X32 hx Bd.returns rfl (Or.inl ⟨rfl, Or.inr (Or.inl rfl), _, rfl⟩) (hb hby d_prog_46_method_6_36) hr, hrun, hended, _, _, rfl, ?_, ⟨_, rfl⟩, hW, hsame.mono (by decide) (by decide)⟩
    show Q_con Z aNONE a1 p2 b1 z1 f1 s1 r0 h0 n0 _ T32.heap _
    rw [e32]
    exact ⟨(by rw [← hp]; rfl), N0, rfl⟩
  | succ t ih =>
    intro i T XL eL hi0 hi hp
    have hlt : i.toInt < (s1).toInt := by omega
    unfold own_find at hp
    show OwnGo p e below _ (T.setTop (mkF m 9 #[.val (.ref a1), .val (.int p2), .val (.int i)] []))
    refine own_go (fun _ k => XS.iloadN XL.here hx rfl (hb hby d_prog_46_method_6_9) rfl k) ?_
    show OwnGo p e below _ (T.setTop (mkF m 10 #[.val (.ref a1), .val (.int p2), .val (.int i)] [(.int i)]))
    refine own_go (fun _ k => XS.aloadN XL.here hx rfl (hb hby d_prog_46_method_6_10) rfl rfl k) ?_
    show OwnGo p e below _ (T.setTop (mkF m 11 #[.val (.ref a1), .val (.int p2), .val (.int i)] [(.ref a1), (.int i)]))
    obtain ⟨T33, X33, e33, st33⟩ := getF XL hx hZ hown (host := "") (Or.inl (hw _ (List.mem_of_getElem? (i := 17) rfl))) Via.refl eL PF3 (g := (mkF m 11 #[.val (.ref a1), .val (.int p2), .val (.int i)] [(.ref a1), (.int i)])) rfl rfl (hb hby d_prog_46_method_6_11)
    refine own_go st33 ?_
    show OwnGo p e below _ (T33.setTop (mkF m 14 #[.val (.ref a1), .val (.int p2), .val (.int i)] [(.int s1), (.int i)]))
    refine own_go (fun _ k => XS.icmpNo X33.here hx rfl (hb hby d_prog_46_method_6_14) rfl (tlt (own_ltI hlt)).2.1 k) ?_
    show OwnGo p e below _ (T33.setTop (mkF m 17 #[.val (.ref a1), .val (.int p2), .val (.int i)] []))
    refine own_go (fun _ k => XS.aloadN X33.here hx rfl (hb hby d_prog_46_method_6_17) rfl rfl k) ?_
    show OwnGo p e below _ (T33.setTop (mkF m 18 #[.val (.ref a1), .val (.int p2), .val (.int i)] [(.ref a1)]))
    obtain ⟨T34, X34, e34, st34⟩ := getF X33 hx hZ hown (host := "") (Or.inl (hw _ (List.mem_of_getElem? (i := 27) rfl))) Via.refl e33 PF1 (g := (mkF m 18 #[.val (.ref a1), .val (.int p2), .val (.int i)] [(.ref a1)])) rfl rfl (hb hby d_prog_46_method_6_18)
    refine own_go st34 ?_
    show OwnGo p e below _ (T34.setTop (mkF m 21 #[.val (.ref a1), .val (.int p2), .val (.int i)] [(.ref b1)]))
    refine own_go (fun _ k => XS.iloadN X34.here hx rfl (hb hby d_prog_46_method_6_21) rfl k) ?_
    show OwnGo p e below _ (T34.setTop (mkF m 22 #[.val (.ref a1), .val (.int p2), .val (.int i)] [(.int i), (.ref b1)]))
    obtain ⟨c35, Ar35, S35, M35, H35⟩ := (id PV1)
    have b35 : 0 ≤ (i).toInt ∧ (i).toInt < (z1).toInt := ⟨hi0, (by have := hlt; omega)⟩
    refine own_go (fun _ k => X34.iaload hx (j := i) (v := (.int (f1 (i).toNatClampNeg))) (by rw [e34]; exact Ar35.1) (State.isArrayOf_alike hZ.alike Ar35.2.1) Ar35.2.2 (own_inbz S35 hz1 b35.1 b35.2) (IA.atz H35 hz1 b35.1 b35.2) (g := (mkF m 22 #[.val (.ref a1), .val (.int p2), .val (.int i)] [(.int i), (.ref b1)])) rfl rfl (hb hby d_prog_46_method_6_22) _ k) ?_
    show OwnGo p e below _ (T34.setTop (mkF m 23 #[.val (.ref a1), .val (.int p2), .val (.int i)] [(.int (f1 (i).toNatClampNeg))]))
    refine own_go (fun _ k => XS.iloadN X34.here hx rfl (hb hby d_prog_46_method_6_23) rfl k) ?_
    show OwnGo p e below _ (T34.setTop (mkF m 24 #[.val (.ref a1), .val (.int p2), .val (.int i)] [(.int p2), (.int (f1 (i).toNatClampNeg))]))
    by_cases hc36 : (f1 (i).toNatClampNeg) = p2
    · refine own_go (fun _ k => XS.icmpNo X34.here hx rfl (hb hby d_prog_46_method_6_24) rfl (teq hc36).2 k) ?_
      show OwnGo p e below _ (T34.setTop (mkF m 27 #[.val (.ref a1), .val (.int p2), .val (.int i)] []))
      refine own_go (fun _ k => XS.iconst X34.here hx rfl (hb hby d_prog_46_method_6_27) k) ?_
      show OwnGo p e below _ (T34.setTop (mkF m 28 #[.val (.ref a1), .val (.int p2), .val (.int i)] [(.int (1 : Int32))]))
      obtain ⟨fs, hr, hrun, hended, hW, hsame⟩ := X34.leave (v := some (.int (1 : Int32))) (fun h => by rw [Bd.returns] at h; cases h)
      refine ⟨_, _, retOut X34 hx Bd.returns rfl (Or.inl ⟨rfl, Or.inr (Or.inl rfl), _, rfl⟩) (hb hby d_prog_46_method_6_28) hr, hrun, hended, _, _, rfl, ?_, ⟨_, rfl⟩, hW, hsame.mono (by decide) (by decide)⟩
      show Q_con Z aNONE a1 p2 b1 z1 f1 s1 r0 h0 n0 _ T34.heap _
      rw [e34]
      exact ⟨(by rw [← hp, if_pos hc36]), N0, rfl⟩
    · refine own_go (fun _ k => XS.icmpYes X34.here hx rfl (pc0 := 24) (pc' := 29) rfl (hb hby d_prog_46_method_6_24) rfl (feq hc36).2 (by decide) (by decide) k) ?_
      show OwnGo p e below _ (T34.setTop (mkF m 29 #[.val (.ref a1), .val (.int p2), .val (.int i)] []))
      refine own_go (fun _ k => XS.iinc X34.here hx rfl (hb hby d_prog_46_method_6_29) rfl (l' := #[.val (.ref a1), .val (.int p2), .val (.int (i + (1 : Int32)))]) rfl k) ?_
      show OwnGo p e below _ (T34.setTop (mkF m 32 #[.val (.ref a1), .val (.int p2), .val (.int (i + (1 : Int32)))] []))
      refine own_go (fun _ k => XS.goto X34.here hx rfl (pc0 := 32) (pc' := 9) rfl (hb hby d_prog_46_method_6_32) (by decide) (by decide) k) ?_
      show OwnGo p e below _ (T34.setTop (mkF m 9 #[.val (.ref a1), .val (.int p2), .val (.int (i + (1 : Int32)))] []))
      have hs := own_succ hi0 (by omega)
      exact ih _ _ X34 e34 (by omega) (by omega) (by rw [if_neg hc36] at hp; exact hp)
theorem d_prog_46_method_14_0 : decode prog_46_method_14_code 0 = .ok (.aload_n 0, 1) := by decide +kernel
theorem d_prog_46_method_14_1 : decode prog_46_method_14_code 1 = .ok (.iload_n 1, 1) := by decide +kernel
theorem d_prog_46_method_14_2 : decode prog_46_method_14_code 2 = .ok (.newarray .int, 2) := by decide +kernel
theorem d_prog_46_method_14_4 : decode prog_46_method_14_code 4 = .ok (.putfield 20, 3) := by decide +kernel
theorem d_prog_46_method_14_7 : decode prog_46_method_14_code 7 = .ok (.iconst 0, 1) := by decide +kernel
theorem d_prog_46_method_14_8 : decode prog_46_method_14_code 8 = .ok (.istore_n 2, 1) := by decide +kernel
theorem d_prog_46_method_14_9 : decode prog_46_method_14_code 9 = .ok (.iload_n 2, 1) := by decide +kernel
theorem d_prog_46_method_14_10 : decode prog_46_method_14_code 10 = .ok (.aload_n 0, 1) := by decide +kernel
theorem d_prog_46_method_14_11 : decode prog_46_method_14_code 11 = .ok (.getfield 16, 3) := by decide +kernel
theorem d_prog_46_method_14_14 : decode prog_46_method_14_code 14 = .ok (.if_icmp .ge 27, 3) := by decide +kernel
theorem d_prog_46_method_14_41 : decode prog_46_method_14_code 41 = .ok (.return_, 1) := by decide +kernel
theorem d_prog_46_method_14_17 : decode prog_46_method_14_code 17 = .ok (.aload_n 0, 1) := by decide +kernel
theorem d_prog_46_method_14_18 : decode prog_46_method_14_code 18 = .ok (.getfield 20, 3) := by decide +kernel
theorem d_prog_46_method_14_21 : decode prog_46_method_14_code 21 = .ok (.aload_n 0, 1) := by decide +kernel
theorem d_prog_46_method_14_22 : decode prog_46_method_14_code 22 = .ok (.aload_n 0, 1) := by decide +kernel
theorem d_prog_46_method_14_23 : decode prog_46_method_14_code 23 = .ok (.getfield 12, 3) := by decide +kernel
theorem d_prog_46_method_14_26 : decode prog_46_method_14_code 26 = .ok (.iload_n 2, 1) := by decide +kernel
theorem d_prog_46_method_14_27 : decode prog_46_method_14_code 27 = .ok (.iaload, 1) := by decide +kernel
theorem d_prog_46_method_14_28 : decode prog_46_method_14_code 28 = .ok (.invokevirtual 23, 3) := by decide +kernel
theorem pd_I__I : parseMethodDescriptor "(I)I" = some ⟨[.int], some .int⟩ := by decide +kernel
theorem d_prog_46_method_14_31 : decode prog_46_method_14_code 31 = .ok (.iload_n 2, 1) := by decide +kernel
theorem d_prog_46_method_14_32 : decode prog_46_method_14_code 32 = .ok (.iconst 1, 1) := by decide +kernel
theorem d_prog_46_method_14_33 : decode prog_46_method_14_code 33 = .ok (.iadd, 1) := by decide +kernel
theorem d_prog_46_method_14_34 : decode prog_46_method_14_code 34 = .ok (.iastore, 1) := by decide +kernel
theorem d_prog_46_method_14_35 : decode prog_46_method_14_code 35 = .ok (.iinc 2 1, 3) := by decide +kernel
theorem d_prog_46_method_14_38 : decode prog_46_method_14_code 38 = .ok (.goto (-29), 3) := by decide +kernel
def Q_re32 (Z : State) (aNONE : Addr) (a1 : Addr) (b1 : Addr) (z1 : Int32) (f1 : Nat → Int32) (s1 : Int32) (o1 : Value) (h0 : Heap) (n0 : Nat) (v : Option Value) (h : Heap) (L : List Loc) : Prop := ∃ (r9 : Addr) (g9 : Nat → Int32), v = none ∧ Fr n0 L ∧ Keep h0 h [a1] ∧ Fld Z h a1 "com/example/reweave/reweave/control/Keys" "numbers" "[I" (.ref b1) ∧ Fld Z h a1 "com/example/reweave/reweave/control/Keys" "size" "I" (.int s1) ∧ Fld Z h a1 "com/example/reweave/reweave/control/Keys" "slots" "[I" (.ref r9) ∧ IA Z h r9 ((32 : Int32)).toNatClampNeg g9 ∧ OwnS (32 : Int32) g9 s1 ∧ h0.size ≤ r9
theorem ef_re32 (m : MethodId) (x0 : Addr) (x1 : Int32) : entryFrame m #[(.ref x0), (.int x1)] 3 = mkF m 0 #[.val (.ref x0), .val (.int x1), .unset] [] := by first | (simp [entryFrame, mkF, argsToLocals, Value.category]; done) | rfl
set_option maxRecDepth 65536 in
set_option maxHeartbeats 40000000 in
theorem rm_re32 (l : Launch) (Z : State) (a0 : Array Value) (hw : ∀ d ∈ tables_1, d.before a0 Z = true) (ws : List Jvm.Cond) (aNONE : Addr) (F0 : OwnFacts Z aNONE) (a1 : Addr) (b1 : Addr) (z1 : Int32) (f1 : Nat → Int32) (s1 : Int32) (o1 : Value) (h0 : Heap) (n0 : Nat) (O0 : Old Z n0 h0) (PE1 : Exa Z h0 a1 "com/example/reweave/reweave/control/Keys") (PF1 : Fld Z h0 a1 "com/example/reweave/reweave/control/Keys" "numbers" "[I" (.ref b1)) (PF2 : Fld Z h0 a1 "com/example/reweave/reweave/control/Keys" "size" "I" (.int s1)) (PF3 : Fld Z h0 a1 "com/example/reweave/reweave/control/Keys" "slots" "[I" o1) (PV1 : IA Z h0 b1 (z1).toNatClampNeg f1) (ge1 : n0 ≤ a1) (nab : a1 ≠ b1) (hz1 : 0 ≤ z1.toInt) (hs0 : 0 ≤ s1.toInt) (hsz : s1.toInt ≤ z1.toInt) (hsS : s1.toInt < 32) :
    MetFree l (⟨"com/example/reweave/reweave/control/Keys", "reslot", "(I)V"⟩ : MethodName) (head1 (Jvm.Cond.code (⟨"com/example/reweave/reweave/control/Keys", "reslot", "(I)V"⟩ : MethodName) prog_46_method_14_code 3 none :: ws) ({ frames := 1, cells := 1, slots := 32, locals := 16 } : Room)) (fun a U => a = #[(.ref a1), (.int (32 : Int32))] ∧ Z.Warmed39 U.vm ∧ U.heap = h0) (fun _ _ _ _ _ => True) (fun _ U o U' => ∃ v L, o = .returned v ∧ Q_re32 Z aNONE a1 b1 z1 f1 s1 o1 h0 n0 v U'.heap L ∧ FrameEnd U o U' L ({ frames := 1, cells := 1, slots := 32, locals := 16 } : Room).cells ({ frames := 1, cells := 1, slots := 32, locals := 16 } : Room).slots) := by
  refine MetFree.of_bodySF (plainFor_of_name pn_com_example_reweave_reweave_control_Keys) hisR ?_
  intro p e s m args below meth c s₁ Bd hml0 hP hK
  obtain ⟨rfl, hZ, hh⟩ := hP
  have hx := Bd.exec
  have hby := Bd.bytes
  have hml : c.maxLocals = 3 := hml0
  have hown : s.vm.findClass "com/example/reweave/reweave/control/Keys" = some m.cls := findClass_of_methodNamed Bd.named
  have hnm := (name_of_methodNamed Bd.named Bd.method).1
  have X0 : Stand p l e ({ frames := 1, cells := 1, slots := 32, locals := 16 } : Room) s m #[(.ref a1), (.int (32 : Int32))] below meth c s₁ [] 0 0 := Stand.of_body Bd
  have e0 : s₁.heap = h0 := by rw [← hh, Bd.state]; rfl
  have N0 := Fr.nil n0
  refine own_go (Q := fun o U' => ∃ v L, o = .returned v ∧ Q_re32 Z aNONE a1 b1 z1 f1 s1 o1 h0 n0 v U'.heap L ∧ FrameEnd s o U' L ({ frames := 1, cells := 1, slots := 32, locals := 16 } : Room).cells ({ frames := 1, cells := 1, slots := 32, locals := 16 } : Room).slots) (fun t k => castTop (ef_re32 m a1 (32 : Int32)) k) ?_
  show OwnGo p e below _ (s₁.setTop (mkF m 0 #[.val (.ref a1), .val (.int (32 : Int32)), .unset] []))
  refine own_go (fun _ k => XS.aloadN X0.here hx rfl (hb hby d_prog_46_method_14_0) rfl rfl k) ?_
  show OwnGo p e below _ (s₁.setTop (mkF m 1 #[.val (.ref a1), .val (.int (32 : Int32)), .unset] [(.ref a1)]))
  refine own_go (fun _ k => XS.iloadN X0.here hx rfl (hb hby d_prog_46_method_14_1) rfl k) ?_
  show OwnGo p e below _ (s₁.setTop (mkF m 2 #[.val (.ref a1), .val (.int (32 : Int32)), .unset] [(.int (32 : Int32)), (.ref a1)]))
  obtain ⟨T37, h37, k37, X37, e37, E37, A37, st37⟩ := newP X0 hx hZ (hw _ (List.mem_of_getElem? (i := 1) rfl)) e0 (g := (mkF m 2 #[.val (.ref a1), .val (.int (32 : Int32)), .unset] [(.int (32 : Int32)), (.ref a1)])) rfl (hb hby d_prog_46_method_14_2) rfl (own_nn (by decide)) (cap := 32) (by decide) (by decide) (by decide) (by decide)
  obtain ⟨a37, g37⟩ : ∃ z, z = h0.size := ⟨_, rfl⟩
  rw [← g37] at A37 st37
  have ge37 : n0 ≤ a37 := Nat.le_trans (own_sz O0) (Nat.le_of_eq g37.symm)
  have gh37 : h0.size ≤ a37 := Nat.le_trans (Nat.le_refl _) (Nat.le_of_eq g37.symm)
  have ne38 : a1 ≠ a37 := own_newne g37 PE1.lt
  have ne39 : b1 ≠ a37 := own_newne g37 PV1.lt
  have O37 := O0.ext E37
  have z40 : h0.size ≤ h37.size := Nat.le_trans (Nat.le_refl _) E37.1
  have V37 : IA Z h37 a37 ((32 : Int32)).toNatClampNeg (fun _ => 0) := IA.new A37 (own_nn (by decide))
  refine own_go st37 ?_
  show OwnGo p e below _ (T37.setTop (mkF m 4 #[.val (.ref a1), .val (.int (32 : Int32)), .unset] [(.ref a37), (.ref a1)]))
  have F41 := (PF3.ext E37)
  have F42 := (PE1.ext E37)
  obtain ⟨T43, h43, X43, e43, W43, st43⟩ := putF X37 hx hZ hown (host := "") (Or.inl (hw _ (List.mem_of_getElem? (i := 34) rfl))) Via.refl e37 F41 F42 (Or.inl (hw _ (List.mem_of_getElem? (i := 35) rfl))) (hw _ (List.mem_of_getElem? (i := 20) rfl)) (ty := (.array .int)) (by decide) rfl rfl (g := (mkF m 4 #[.val (.ref a1), .val (.int (32 : Int32)), .unset] [(.ref a37), (.ref a1)])) rfl rfl (hb hby d_prog_46_method_14_4)
  have N43 := Fr.snoc X43 N0 ge1
  have O43 := O37.wr W43 ge1
  have z44 : h0.size ≤ h43.size := Nat.le_trans z40 (Nat.le_of_eq W43.size.symm)
  have F43 : Fld Z h43 a1 "com/example/reweave/reweave/control/Keys" "slots" "[I" (.ref a37) := F41.same W43
  refine own_go st43 ?_
  show OwnGo p e below _ (T43.setTop (mkF m 7 #[.val (.ref a1), .val (.int (32 : Int32)), .unset] []))
  refine own_go (fun _ k => XS.iconst X43.here hx rfl (hb hby d_prog_46_method_14_7) k) ?_
  show OwnGo p e below _ (T43.setTop (mkF m 8 #[.val (.ref a1), .val (.int (32 : Int32)), .unset] [(.int (0 : Int32))]))
  refine own_go (fun _ k => XS.istoreN X43.here hx rfl (hb hby d_prog_46_method_14_8) rfl (l' := #[.val (.ref a1), .val (.int (32 : Int32)), .val (.int (0 : Int32))]) rfl k) ?_
  show OwnGo p e below _ (T43.setTop (mkF m 9 #[.val (.ref a1), .val (.int (32 : Int32)), .val (.int (0 : Int32))] []))
  have F45 := (F42.wr W43)
  have F46 := ((PF1.ext E37).other W43 (Or.inr (slot_ne (a0 := a0) (C := "com/example/reweave/reweave/control/Keys") (Or.inl (hw _ (List.mem_of_getElem? (i := 28) rfl))) (Or.inl (hw _ (List.mem_of_getElem? (i := 35) rfl))) (by decide) (t := (.array .int)) (t' := (.array .int)) (by decide) (by decide))))
  have F47 := ((PF2.ext E37).other W43 (Or.inr (slot_ne (a0 := a0) (C := "com/example/reweave/reweave/control/Keys") (Or.inl (hw _ (List.mem_of_getElem? (i := 18) rfl))) (Or.inl (hw _ (List.mem_of_getElem? (i := 35) rfl))) (by decide) (t := .int) (t' := (.array .int)) (by decide) (by decide))))
  have F48 := ((PV1.ext E37).other W43 (Ne.symm nab))
  have F49 := (V37.other W43 (Ne.symm ne38))
  suffices loop : ∀ (t : Nat) (i : Int32) (T : State) (h : Heap) (locs : List Loc) (g : Nat → Int32), Stand p l e ({ frames := 1, cells := 1, slots := 32, locals := 16 } : Room) s m #[(.ref a1), (.int (32 : Int32))] below meth c T locs 1 32 → T.heap = h → Fr n0 locs → Old Z n0 h → Keep h0 h [a1] → 0 ≤ i.toInt → i.toInt + t = s1.toInt → Exa Z h a1 "com/example/reweave/reweave/control/Keys" → Fld Z h a1 "com/example/reweave/reweave/control/Keys" "numbers" "[I" (.ref b1) → Fld Z h a1 "com/example/reweave/reweave/control/Keys" "size" "I" (.int s1) → Fld Z h a1 "com/example/reweave/reweave/control/Keys" "slots" "[I" (.ref a37) → IA Z h b1 (z1).toNatClampNeg f1 → IA Z h a37 ((32 : Int32)).toNatClampNeg g → OwnS (32 : Int32) g i → OwnGo p e below (fun o U' => ∃ v L, o = .returned v ∧ Q_re32 Z aNONE a1 b1 z1 f1 s1 o1 h0 n0 v U'.heap L ∧ FrameEnd s o U' L ({ frames := 1, cells := 1, slots := 32, locals := 16 } : Room).cells ({ frames := 1, cells := 1, slots := 32, locals := 16 } : Room).slots) (T.setTop (mkF m 9 #[.val (.ref a1), .val (.int (32 : Int32)), .val (.int i)] [])) from
    loop s1.toNatClampNeg (0 : Int32) _ _ _ _ X43 e43 N43 O43 (((Keep.refl _ [a1]).ext E37).wr W43 (Or.inl (List.mem_of_getElem? (i := 0) rfl))) (by decide) (by have c0 := (show (0 : Int32).toInt = 0 from by decide); have := own_nat hs0; omega) F45 F46 F47 F43 F48 F49 (OwnS.zero (by decide))
  intro t
  induction t with
  | zero =>
    intro i T h locs g XL eL NL OL KL hi0 hi EL FL1 FL2 FL3 VL1 VL2 hOL
    show OwnGo p e below _ (T.setTop (mkF m 9 #[.val (.ref a1), .val (.int (32 : Int32)), .val (.int i)] []))
    refine own_go (fun _ k => XS.iloadN XL.here hx rfl (hb hby d_prog_46_method_14_9) rfl k) ?_
    show OwnGo p e below _ (T.setTop (mkF m 10 #[.val (.ref a1), .val (.int (32 : Int32)), .val (.int i)] [(.int i)]))
    refine own_go (fun _ k => XS.aloadN XL.here hx rfl (hb hby d_prog_46_method_14_10) rfl rfl k) ?_
    show OwnGo p e below _ (T.setTop (mkF m 11 #[.val (.ref a1), .val (.int (32 : Int32)), .val (.int i)] [(.ref a1), (.int i)]))
    obtain ⟨T50, X50, e50, st50⟩ := getF XL hx hZ hown (host := "") (Or.inl (hw _ (List.mem_of_getElem? (i := 17) rfl))) Via.refl eL FL2 (g := (mkF m 11 #[.val (.ref a1), .val (.int (32 : Int32)), .val (.int i)] [(.ref a1), (.int i)])) rfl rfl (hb hby d_prog_46_method_14_11)
    refine own_go st50 ?_
    show OwnGo p e below _ (T50.setTop (mkF m 14 #[.val (.ref a1), .val (.int (32 : Int32)), .val (.int i)] [(.int s1), (.int i)]))
    refine own_go (fun _ k => XS.icmpYes X50.here hx rfl (pc0 := 14) (pc' := 41) rfl (hb hby d_prog_46_method_14_14) rfl (flt (own_geI (by omega))).2.1 (by decide) (by decide) k) ?_
    show OwnGo p e below _ (T50.setTop (mkF m 41 #[.val (.ref a1), .val (.int (32 : Int32)), .val (.int i)] []))
    obtain ⟨fs, hr, hrun, hended, hW, hsame⟩ := X50.leave (v := none) (fun h => rfl)
    refine ⟨_, _, X50.returnOut hx Bd.returns (hb hby d_prog_46_method_14_41) hr, hrun, hended, _, _, rfl, ?_, ⟨_, rfl⟩, hW, hsame.mono (by decide) (by decide)⟩
    show Q_re32 Z aNONE a1 b1 z1 f1 s1 o1 h0 n0 _ T50.heap _
    rw [e50]
    exact ⟨a37, g, rfl, NL, KL, FL1, FL2, FL3, VL2, (hOL.up hi0 (by omega)), gh37⟩
  | succ t ih =>
    intro i T h locs g XL eL NL OL KL hi0 hi EL FL1 FL2 FL3 VL1 VL2 hOL
    have hlt : i.toInt < s1.toInt := by omega
    show OwnGo p e below _ (T.setTop (mkF m 9 #[.val (.ref a1), .val (.int (32 : Int32)), .val (.int i)] []))
    refine own_go (fun _ k => XS.iloadN XL.here hx rfl (hb hby d_prog_46_method_14_9) rfl k) ?_
    show OwnGo p e below _ (T.setTop (mkF m 10 #[.val (.ref a1), .val (.int (32 : Int32)), .val (.int i)] [(.int i)]))
    refine own_go (fun _ k => XS.aloadN XL.here hx rfl (hb hby d_prog_46_method_14_10) rfl rfl k) ?_
    show OwnGo p e below _ (T.setTop (mkF m 11 #[.val (.ref a1), .val (.int (32 : Int32)), .val (.int i)] [(.ref a1), (.int i)]))
    obtain ⟨T51, X51, e51, st51⟩ := getF XL hx hZ hown (host := "") (Or.inl (hw _ (List.mem_of_getElem? (i := 17) rfl))) Via.refl eL FL2 (g := (mkF m 11 #[.val (.ref a1), .val (.int (32 : Int32)), .val (.int i)] [(.ref a1), (.int i)])) rfl rfl (hb hby d_prog_46_method_14_11)
    refine own_go st51 ?_
    show OwnGo p e below _ (T51.setTop (mkF m 14 #[.val (.ref a1), .val (.int (32 : Int32)), .val (.int i)] [(.int s1), (.int i)]))
    refine own_go (fun _ k => XS.icmpNo X51.here hx rfl (hb hby d_prog_46_method_14_14) rfl (tlt (own_ltI hlt)).2.1 k) ?_
    show OwnGo p e below _ (T51.setTop (mkF m 17 #[.val (.ref a1), .val (.int (32 : Int32)), .val (.int i)] []))
    refine own_go (fun _ k => XS.aloadN X51.here hx rfl (hb hby d_prog_46_method_14_17) rfl rfl k) ?_
    show OwnGo p e below _ (T51.setTop (mkF m 18 #[.val (.ref a1), .val (.int (32 : Int32)), .val (.int i)] [(.ref a1)]))
    obtain ⟨T52, X52, e52, st52⟩ := getF X51 hx hZ hown (host := "") (Or.inl (hw _ (List.mem_of_getElem? (i := 34) rfl))) Via.refl e51 FL3 (g := (mkF m 18 #[.val (.ref a1), .val (.int (32 : Int32)), .val (.int i)] [(.ref a1)])) rfl rfl (hb hby d_prog_46_method_14_18)
    refine own_go st52 ?_
    show OwnGo p e below _ (T52.setTop (mkF m 21 #[.val (.ref a1), .val (.int (32 : Int32)), .val (.int i)] [(.ref a37)]))
    refine own_go (fun _ k => XS.aloadN X52.here hx rfl (hb hby d_prog_46_method_14_21) rfl rfl k) ?_
    show OwnGo p e below _ (T52.setTop (mkF m 22 #[.val (.ref a1), .val (.int (32 : Int32)), .val (.int i)] [(.ref a1), (.ref a37)]))
    refine own_go (fun _ k => XS.aloadN X52.here hx rfl (hb hby d_prog_46_method_14_22) rfl rfl k) ?_
    show OwnGo p e below _ (T52.setTop (mkF m 23 #[.val (.ref a1), .val (.int (32 : Int32)), .val (.int i)] [(.ref a1), (.ref a1), (.ref a37)]))
    obtain ⟨T53, X53, e53, st53⟩ := getF X52 hx hZ hown (host := "") (Or.inl (hw _ (List.mem_of_getElem? (i := 27) rfl))) Via.refl e52 FL1 (g := (mkF m 23 #[.val (.ref a1), .val (.int (32 : Int32)), .val (.int i)] [(.ref a1), (.ref a1), (.ref a37)])) rfl rfl (hb hby d_prog_46_method_14_23)
    refine own_go st53 ?_
    show OwnGo p e below _ (T53.setTop (mkF m 26 #[.val (.ref a1), .val (.int (32 : Int32)), .val (.int i)] [(.ref b1), (.ref a1), (.ref a37)]))
    refine own_go (fun _ k => XS.iloadN X53.here hx rfl (hb hby d_prog_46_method_14_26) rfl k) ?_
    show OwnGo p e below _ (T53.setTop (mkF m 27 #[.val (.ref a1), .val (.int (32 : Int32)), .val (.int i)] [(.int i), (.ref b1), (.ref a1), (.ref a37)]))
    obtain ⟨c54, Ar54, S54, M54, H54⟩ := (id VL1)
    have b54 : 0 ≤ (i).toInt ∧ (i).toInt < (z1).toInt := ⟨hi0, (by omega)⟩
    refine own_go (fun _ k => X53.iaload hx (j := i) (v := (.int (f1 (i).toNatClampNeg))) (by rw [e53]; exact Ar54.1) (State.isArrayOf_alike hZ.alike Ar54.2.1) Ar54.2.2 (own_inbz S54 hz1 b54.1 b54.2) (IA.atz H54 hz1 b54.1 b54.2) (g := (mkF m 27 #[.val (.ref a1), .val (.int (32 : Int32)), .val (.int i)] [(.int i), (.ref b1), (.ref a1), (.ref a37)])) rfl rfl (hb hby d_prog_46_method_14_27) _ k) ?_
    show OwnGo p e below _ (T53.setTop (mkF m 28 #[.val (.ref a1), .val (.int (32 : Int32)), .val (.int i)] [(.int (f1 (i).toNatClampNeg)), (.ref a1), (.ref a37)]))
    obtain ⟨cl55, hcl55, hob55⟩ := EL.cell
    obtain ⟨_, _, ⟨T55, L55, k55, n55⟩, -, X55, ⟨Lc55, hQ55, l55, y55, z55⟩, st55⟩ := X53.privateBack hx (y := (⟨"com/example/reweave/reweave/control/Keys", "slotOf", "(I)I"⟩ : MethodName)) hown (mvT hZ (hw _ (List.mem_of_getElem? (i := 45) rfl))) (mvT hZ (hw _ (List.mem_of_getElem? (i := 46) rfl))) (own_selp hZ (hw _ (List.mem_of_getElem? (i := 20) rfl)) (hw _ (List.mem_of_getElem? (i := 47) rfl)) (hw _ (List.mem_of_getElem? (i := 46) rfl)) (by decide)) (Cond.privateMethod_at (mvP hZ (hw _ (List.mem_of_getElem? (i := 47) rfl)) (args := #[]))) (mvT hZ (hw _ (List.mem_of_getElem? (i := 48) rfl))) (by decide) (backOf (W := 1) (rm_slot32 l Z a0 hw [] aNONE F0 a1 (f1 (i).toNatClampNeg) b1 a37 z1 f1 g (own_probe g f1 (f1 (i).toNatClampNeg) (31 : Int32) 32 ((f1 (i).toNatClampNeg) &&& (31 : Int32))) h n0 OL FL1 FL3 VL1 VL2 hz1 (fun j hj => ⟨(hOL.1 j (by rw [own_n32]; exact hj)).1, Int.le_trans (hOL.1 j (by rw [own_n32]; exact hj)).2 (show i.toInt ≤ z1.toInt by omega)⟩) (by have q := OwnS.free hOL hi0 (by rw [(show (32 : Int32).toInt = 32 from by decide)]; omega); rw [own_n32] at q; exact q) rfl) hZ (hw _ (List.mem_of_getElem? (i := 48) rfl)) (hw _ (List.mem_of_getElem? (i := 4) rfl)) (by decide) (by decide)) (g := (mkF m 28 #[.val (.ref a1), .val (.int (32 : Int32)), .val (.int i)] [(.int (f1 (i).toNatClampNeg)), (.ref a1), (.ref a37)])) rfl (by rw [hml]; rfl) (Steps.refl _) (a := a1) (by rw [e53]; exact hcl55) hob55 (argsL := [(.int (f1 (i).toNatClampNeg))]) (rest := [(.ref a37)]) (lenOf pd_I__I rfl) rfl (by show 2 * 0 + _ ≤ _; exact Nat.le_of_eq rfl) (hb hby d_prog_46_method_14_28) (fun _ _ => ⟨rfl, e53, (by decide : 1 + 0 ≤ _), (by decide : 32 + 0 ≤ _)⟩)
    dsimp only [Pt.U, Pt.locs, Pt.cells, Pt.slots] at X55 l55 y55 z55 st55 hQ55
    subst l55 y55 z55
    obtain ⟨rfl, Nq55, K55⟩ := hQ55
    have N55 := Fr.app NL Nq55
    refine own_go (fun _ k => st55.trans k) ?_
    show OwnGo p e below _ (T55.setTop (mkF m 31 #[.val (.ref a1), .val (.int (32 : Int32)), .val (.int i)] [(.int (own_probe g f1 (f1 (i).toNatClampNeg) (31 : Int32) 32 ((f1 (i).toNatClampNeg) &&& (31 : Int32)))), (.ref a37)]))
    refine own_go (fun _ k => XS.iloadN X55.here hx rfl (hb hby d_prog_46_method_14_31) rfl k) ?_
    show OwnGo p e below _ (T55.setTop (mkF m 32 #[.val (.ref a1), .val (.int (32 : Int32)), .val (.int i)] [(.int i), (.int (own_probe g f1 (f1 (i).toNatClampNeg) (31 : Int32) 32 ((f1 (i).toNatClampNeg) &&& (31 : Int32)))), (.ref a37)]))
    refine own_go (fun _ k => XS.iconst X55.here hx rfl (hb hby d_prog_46_method_14_32) k) ?_
    show OwnGo p e below _ (T55.setTop (mkF m 33 #[.val (.ref a1), .val (.int (32 : Int32)), .val (.int i)] [(.int (1 : Int32)), (.int i), (.int (own_probe g f1 (f1 (i).toNatClampNeg) (31 : Int32) 32 ((f1 (i).toNatClampNeg) &&& (31 : Int32)))), (.ref a37)]))
    refine own_go (fun _ k => XS.iadd X55.here hx rfl (hb hby d_prog_46_method_14_33) rfl k) ?_
    show OwnGo p e below _ (T55.setTop (mkF m 34 #[.val (.ref a1), .val (.int (32 : Int32)), .val (.int i)] [(.int (i + (1 : Int32))), (.int (own_probe g f1 (f1 (i).toNatClampNeg) (31 : Int32) 32 ((f1 (i).toNatClampNeg) &&& (31 : Int32)))), (.ref a37)]))
    obtain ⟨c56, Ar56, S56, M56, H56⟩ := (id VL2)
    have b56 : 0 ≤ ((own_probe g f1 (f1 (i).toNatClampNeg) (31 : Int32) 32 ((f1 (i).toNatClampNeg) &&& (31 : Int32)))).toInt ∧ ((own_probe g f1 (f1 (i).toNatClampNeg) (31 : Int32) 32 ((f1 (i).toNatClampNeg) &&& (31 : Int32)))).toInt < ((32 : Int32)).toInt := ⟨(own_probe_rng (k := 5) (by decide) (by decide) 32 _ (own_and_rng _ (31 : Int32) (k := 5) (by decide) (by decide)).1 (own_and_rng _ (31 : Int32) (k := 5) (by decide) (by decide)).2).1, (by rw [(show (32 : Int32).toInt = 32 from by decide)]; exact (own_probe_rng (k := 5) (by decide) (by decide) 32 _ (own_and_rng _ (31 : Int32) (k := 5) (by decide) (by decide)).1 (own_and_rng _ (31 : Int32) (k := 5) (by decide) (by decide)).2).2)⟩
    obtain ⟨T56, h56, X56, e56, W56, st56⟩ := stI X55 hx hZ K55 Ar56 (j := (own_probe g f1 (f1 (i).toNatClampNeg) (31 : Int32) 32 ((f1 (i).toNatClampNeg) &&& (31 : Int32)))) (own_inbz S56 (by decide) b56.1 b56.2) (g := (mkF m 34 #[.val (.ref a1), .val (.int (32 : Int32)), .val (.int i)] [(.int (i + (1 : Int32))), (.int (own_probe g f1 (f1 (i).toNatClampNeg) (31 : Int32) 32 ((f1 (i).toNatClampNeg) &&& (31 : Int32)))), (.ref a37)])) rfl rfl (hb hby d_prog_46_method_14_34)
    have N56 := Fr.snoc X56 N55 ge37
    have O56 := OL.wr W56 ge37
    have z57 : h0.size ≤ h56.size := Nat.le_trans KL.1 (Nat.le_of_eq W56.size.symm)
    have V56 : IA Z h56 a37 ((32 : Int32)).toNatClampNeg (own_upd g ((own_probe g f1 (f1 (i).toNatClampNeg) (31 : Int32) 32 ((f1 (i).toNatClampNeg) &&& (31 : Int32)))).toNatClampNeg (i + (1 : Int32))) := IA.set Ar56 S56 M56 H56 W56
    refine own_go st56 ?_
    show OwnGo p e below _ (T56.setTop (mkF m 35 #[.val (.ref a1), .val (.int (32 : Int32)), .val (.int i)] []))
    refine own_go (fun _ k => XS.iinc X56.here hx rfl (hb hby d_prog_46_method_14_35) rfl (l' := #[.val (.ref a1), .val (.int (32 : Int32)), .val (.int (i + (1 : Int32)))]) rfl k) ?_
    show OwnGo p e below _ (T56.setTop (mkF m 38 #[.val (.ref a1), .val (.int (32 : Int32)), .val (.int (i + (1 : Int32)))] []))
    refine own_go (fun _ k => XS.goto X56.here hx rfl (pc0 := 38) (pc' := 9) rfl (hb hby d_prog_46_method_14_38) (by decide) (by decide) k) ?_
    show OwnGo p e below _ (T56.setTop (mkF m 9 #[.val (.ref a1), .val (.int (32 : Int32)), .val (.int (i + (1 : Int32)))] []))
    have hs := own_succ hi0 (by omega)
    have hO2 := OwnS.step (r := ((own_probe g f1 (f1 (i).toNatClampNeg) (31 : Int32) 32 ((f1 (i).toNatClampNeg) &&& (31 : Int32)))).toNatClampNeg) hOL hi0 (by omega)
    have F58 := (EL.wr W56)
    have F59 := (FL1.other W56 (Or.inl ne38))
    have F60 := (FL2.other W56 (Or.inl ne38))
    have F61 := (FL3.other W56 (Or.inl ne38))
    have F62 := (VL1.other W56 ne39)
    exact ih _ _ _ _ _ X56 e56 N56 O56 (KL.wr W56 (Or.inr gh37)) (by omega) (by omega) F58 F59 F60 F61 F62 V56 hO2
def Q_re64 (Z : State) (aNONE : Addr) (a1 : Addr) (b1 : Addr) (z1 : Int32) (f1 : Nat → Int32) (s1 : Int32) (o1 : Value) (h0 : Heap) (n0 : Nat) (v : Option Value) (h : Heap) (L : List Loc) : Prop := ∃ (r9 : Addr) (g9 : Nat → Int32), v = none ∧ Fr n0 L ∧ Keep h0 h [a1] ∧ Fld Z h a1 "com/example/reweave/reweave/control/Keys" "numbers" "[I" (.ref b1) ∧ Fld Z h a1 "com/example/reweave/reweave/control/Keys" "size" "I" (.int s1) ∧ Fld Z h a1 "com/example/reweave/reweave/control/Keys" "slots" "[I" (.ref r9) ∧ IA Z h r9 ((64 : Int32)).toNatClampNeg g9 ∧ OwnS (64 : Int32) g9 s1 ∧ h0.size ≤ r9
theorem ef_re64 (m : MethodId) (x0 : Addr) (x1 : Int32) : entryFrame m #[(.ref x0), (.int x1)] 3 = mkF m 0 #[.val (.ref x0), .val (.int x1), .unset] [] := by first | (simp [entryFrame, mkF, argsToLocals, Value.category]; done) | rfl
set_option maxRecDepth 65536 in
set_option maxHeartbeats 40000000 in
theorem rm_re64 (l : Launch) (Z : State) (a0 : Array Value) (hw : ∀ d ∈ tables_1, d.before a0 Z = true) (ws : List Jvm.Cond) (aNONE : Addr) (F0 : OwnFacts Z aNONE) (a1 : Addr) (b1 : Addr) (z1 : Int32) (f1 : Nat → Int32) (s1 : Int32) (o1 : Value) (h0 : Heap) (n0 : Nat) (O0 : Old Z n0 h0) (PE1 : Exa Z h0 a1 "com/example/reweave/reweave/control/Keys") (PF1 : Fld Z h0 a1 "com/example/reweave/reweave/control/Keys" "numbers" "[I" (.ref b1)) (PF2 : Fld Z h0 a1 "com/example/reweave/reweave/control/Keys" "size" "I" (.int s1)) (PF3 : Fld Z h0 a1 "com/example/reweave/reweave/control/Keys" "slots" "[I" o1) (PV1 : IA Z h0 b1 (z1).toNatClampNeg f1) (ge1 : n0 ≤ a1) (nab : a1 ≠ b1) (hz1 : 0 ≤ z1.toInt) (hs0 : 0 ≤ s1.toInt) (hsz : s1.toInt ≤ z1.toInt) (hsS : s1.toInt < 64) :
    MetFree l (⟨"com/example/reweave/reweave/control/Keys", "reslot", "(I)V"⟩ : MethodName) (head1 (Jvm.Cond.code (⟨"com/example/reweave/reweave/control/Keys", "reslot", "(I)V"⟩ : MethodName) prog_46_method_14_code 3 none :: ws) ({ frames := 1, cells := 1, slots := 64, locals := 16 } : Room)) (fun a U => a = #[(.ref a1), (.int (64 : Int32))] ∧ Z.Warmed39 U.vm ∧ U.heap = h0) (fun _ _ _ _ _ => True) (fun _ U o U' => ∃ v L, o = .returned v ∧ Q_re64 Z aNONE a1 b1 z1 f1 s1 o1 h0 n0 v U'.heap L ∧ FrameEnd U o U' L ({ frames := 1, cells := 1, slots := 64, locals := 16 } : Room).cells ({ frames := 1, cells := 1, slots := 64, locals := 16 } : Room).slots) := by
  refine MetFree.of_bodySF (plainFor_of_name pn_com_example_reweave_reweave_control_Keys) hisR ?_
  intro p e s m args below meth c s₁ Bd hml0 hP hK
  obtain ⟨rfl, hZ, hh⟩ := hP
  have hx := Bd.exec
  have hby := Bd.bytes
  have hml : c.maxLocals = 3 := hml0
  have hown : s.vm.findClass "com/example/reweave/reweave/control/Keys" = some m.cls := findClass_of_methodNamed Bd.named
  have hnm := (name_of_methodNamed Bd.named Bd.method).1
  have X0 : Stand p l e ({ frames := 1, cells := 1, slots := 64, locals := 16 } : Room) s m #[(.ref a1), (.int (64 : Int32))] below meth c s₁ [] 0 0 := Stand.of_body Bd
  have e0 : s₁.heap = h0 := by rw [← hh, Bd.state]; rfl
  have N0 := Fr.nil n0
  refine own_go (Q := fun o U' => ∃ v L, o = .returned v ∧ Q_re64 Z aNONE a1 b1 z1 f1 s1 o1 h0 n0 v U'.heap L ∧ FrameEnd s o U' L ({ frames := 1, cells := 1, slots := 64, locals := 16 } : Room).cells ({ frames := 1, cells := 1, slots := 64, locals := 16 } : Room).slots) (fun t k => castTop (ef_re64 m a1 (64 : Int32)) k) ?_
  show OwnGo p e below _ (s₁.setTop (mkF m 0 #[.val (.ref a1), .val (.int (64 : Int32)), .unset] []))
  refine own_go (fun _ k => XS.aloadN X0.here hx rfl (hb hby d_prog_46_method_14_0) rfl rfl k) ?_
  show OwnGo p e below _ (s₁.setTop (mkF m 1 #[.val (.ref a1), .val (.int (64 : Int32)), .unset] [(.ref a1)]))
  refine own_go (fun _ k => XS.iloadN X0.here hx rfl (hb hby d_prog_46_method_14_1) rfl k) ?_
  show OwnGo p e below _ (s₁.setTop (mkF m 2 #[.val (.ref a1), .val (.int (64 : Int32)), .unset] [(.int (64 : Int32)), (.ref a1)]))
  obtain ⟨T63, h63, k63, X63, e63, E63, A63, st63⟩ := newP X0 hx hZ (hw _ (List.mem_of_getElem? (i := 1) rfl)) e0 (g := (mkF m 2 #[.val (.ref a1), .val (.int (64 : Int32)), .unset] [(.int (64 : Int32)), (.ref a1)])) rfl (hb hby d_prog_46_method_14_2) rfl (own_nn (by decide)) (cap := 64) (by decide) (by decide) (by decide) (by decide)
  obtain ⟨a63, g63⟩ : ∃ z, z = h0.size := ⟨_, rfl⟩
  rw [← g63] at A63 st63
  have ge63 : n0 ≤ a63 := Nat.le_trans (own_sz O0) (Nat.le_of_eq g63.symm)
  have gh63 : h0.size ≤ a63 := Nat.le_trans (Nat.le_refl _) (Nat.le_of_eq g63.symm)
  have ne64 : a1 ≠ a63 := own_newne g63 PE1.lt
  have ne65 : b1 ≠ a63 := own_newne g63 PV1.lt
  have O63 := O0.ext E63
  have z66 : h0.size ≤ h63.size := Nat.le_trans (Nat.le_refl _) E63.1
  have V63 : IA Z h63 a63 ((64 : Int32)).toNatClampNeg (fun _ => 0) := IA.new A63 (own_nn (by decide))
  refine own_go st63 ?_
  show OwnGo p e below _ (T63.setTop (mkF m 4 #[.val (.ref a1), .val (.int (64 : Int32)), .unset] [(.ref a63), (.ref a1)]))
  have F67 := (PF3.ext E63)
  have F68 := (PE1.ext E63)
  obtain ⟨T69, h69, X69, e69, W69, st69⟩ := putF X63 hx hZ hown (host := "") (Or.inl (hw _ (List.mem_of_getElem? (i := 34) rfl))) Via.refl e63 F67 F68 (Or.inl (hw _ (List.mem_of_getElem? (i := 35) rfl))) (hw _ (List.mem_of_getElem? (i := 20) rfl)) (ty := (.array .int)) (by decide) rfl rfl (g := (mkF m 4 #[.val (.ref a1), .val (.int (64 : Int32)), .unset] [(.ref a63), (.ref a1)])) rfl rfl (hb hby d_prog_46_method_14_4)
  have N69 := Fr.snoc X69 N0 ge1
  have O69 := O63.wr W69 ge1
  have z70 : h0.size ≤ h69.size := Nat.le_trans z66 (Nat.le_of_eq W69.size.symm)
  have F69 : Fld Z h69 a1 "com/example/reweave/reweave/control/Keys" "slots" "[I" (.ref a63) := F67.same W69
  refine own_go st69 ?_
  show OwnGo p e below _ (T69.setTop (mkF m 7 #[.val (.ref a1), .val (.int (64 : Int32)), .unset] []))
  refine own_go (fun _ k => XS.iconst X69.here hx rfl (hb hby d_prog_46_method_14_7) k) ?_
  show OwnGo p e below _ (T69.setTop (mkF m 8 #[.val (.ref a1), .val (.int (64 : Int32)), .unset] [(.int (0 : Int32))]))
  refine own_go (fun _ k => XS.istoreN X69.here hx rfl (hb hby d_prog_46_method_14_8) rfl (l' := #[.val (.ref a1), .val (.int (64 : Int32)), .val (.int (0 : Int32))]) rfl k) ?_
  show OwnGo p e below _ (T69.setTop (mkF m 9 #[.val (.ref a1), .val (.int (64 : Int32)), .val (.int (0 : Int32))] []))
  have F71 := (F68.wr W69)
  have F72 := ((PF1.ext E63).other W69 (Or.inr (slot_ne (a0 := a0) (C := "com/example/reweave/reweave/control/Keys") (Or.inl (hw _ (List.mem_of_getElem? (i := 28) rfl))) (Or.inl (hw _ (List.mem_of_getElem? (i := 35) rfl))) (by decide) (t := (.array .int)) (t' := (.array .int)) (by decide) (by decide))))
  have F73 := ((PF2.ext E63).other W69 (Or.inr (slot_ne (a0 := a0) (C := "com/example/reweave/reweave/control/Keys") (Or.inl (hw _ (List.mem_of_getElem? (i := 18) rfl))) (Or.inl (hw _ (List.mem_of_getElem? (i := 35) rfl))) (by decide) (t := .int) (t' := (.array .int)) (by decide) (by decide))))
  have F74 := ((PV1.ext E63).other W69 (Ne.symm nab))
  have F75 := (V63.other W69 (Ne.symm ne64))
  suffices loop : ∀ (t : Nat) (i : Int32) (T : State) (h : Heap) (locs : List Loc) (g : Nat → Int32), Stand p l e ({ frames := 1, cells := 1, slots := 64, locals := 16 } : Room) s m #[(.ref a1), (.int (64 : Int32))] below meth c T locs 1 64 → T.heap = h → Fr n0 locs → Old Z n0 h → Keep h0 h [a1] → 0 ≤ i.toInt → i.toInt + t = s1.toInt → Exa Z h a1 "com/example/reweave/reweave/control/Keys" → Fld Z h a1 "com/example/reweave/reweave/control/Keys" "numbers" "[I" (.ref b1) → Fld Z h a1 "com/example/reweave/reweave/control/Keys" "size" "I" (.int s1) → Fld Z h a1 "com/example/reweave/reweave/control/Keys" "slots" "[I" (.ref a63) → IA Z h b1 (z1).toNatClampNeg f1 → IA Z h a63 ((64 : Int32)).toNatClampNeg g → OwnS (64 : Int32) g i → OwnGo p e below (fun o U' => ∃ v L, o = .returned v ∧ Q_re64 Z aNONE a1 b1 z1 f1 s1 o1 h0 n0 v U'.heap L ∧ FrameEnd s o U' L ({ frames := 1, cells := 1, slots := 64, locals := 16 } : Room).cells ({ frames := 1, cells := 1, slots := 64, locals := 16 } : Room).slots) (T.setTop (mkF m 9 #[.val (.ref a1), .val (.int (64 : Int32)), .val (.int i)] [])) from
    loop s1.toNatClampNeg (0 : Int32) _ _ _ _ X69 e69 N69 O69 (((Keep.refl _ [a1]).ext E63).wr W69 (Or.inl (List.mem_of_getElem? (i := 0) rfl))) (by decide) (by have c0 := (show (0 : Int32).toInt = 0 from by decide); have := own_nat hs0; omega) F71 F72 F73 F69 F74 F75 (OwnS.zero (by decide))
  intro t
  induction t with
  | zero =>
    intro i T h locs g XL eL NL OL KL hi0 hi EL FL1 FL2 FL3 VL1 VL2 hOL
    show OwnGo p e below _ (T.setTop (mkF m 9 #[.val (.ref a1), .val (.int (64 : Int32)), .val (.int i)] []))
    refine own_go (fun _ k => XS.iloadN XL.here hx rfl (hb hby d_prog_46_method_14_9) rfl k) ?_
    show OwnGo p e below _ (T.setTop (mkF m 10 #[.val (.ref a1), .val (.int (64 : Int32)), .val (.int i)] [(.int i)]))
    refine own_go (fun _ k => XS.aloadN XL.here hx rfl (hb hby d_prog_46_method_14_10) rfl rfl k) ?_
    show OwnGo p e below _ (T.setTop (mkF m 11 #[.val (.ref a1), .val (.int (64 : Int32)), .val (.int i)] [(.ref a1), (.int i)]))
    obtain ⟨T76, X76, e76, st76⟩ := getF XL hx hZ hown (host := "") (Or.inl (hw _ (List.mem_of_getElem? (i := 17) rfl))) Via.refl eL FL2 (g := (mkF m 11 #[.val (.ref a1), .val (.int (64 : Int32)), .val (.int i)] [(.ref a1), (.int i)])) rfl rfl (hb hby d_prog_46_method_14_11)
    refine own_go st76 ?_
    show OwnGo p e below _ (T76.setTop (mkF m 14 #[.val (.ref a1), .val (.int (64 : Int32)), .val (.int i)] [(.int s1), (.int i)]))
    refine own_go (fun _ k => XS.icmpYes X76.here hx rfl (pc0 := 14) (pc' := 41) rfl (hb hby d_prog_46_method_14_14) rfl (flt (own_geI (by omega))).2.1 (by decide) (by decide) k) ?_
    show OwnGo p e below _ (T76.setTop (mkF m 41 #[.val (.ref a1), .val (.int (64 : Int32)), .val (.int i)] []))
    obtain ⟨fs, hr, hrun, hended, hW, hsame⟩ := X76.leave (v := none) (fun h => rfl)
    refine ⟨_, _, X76.returnOut hx Bd.returns (hb hby d_prog_46_method_14_41) hr, hrun, hended, _, _, rfl, ?_, ⟨_, rfl⟩, hW, hsame.mono (by decide) (by decide)⟩
    show Q_re64 Z aNONE a1 b1 z1 f1 s1 o1 h0 n0 _ T76.heap _
    rw [e76]
    exact ⟨a63, g, rfl, NL, KL, FL1, FL2, FL3, VL2, (hOL.up hi0 (by omega)), gh63⟩
  | succ t ih =>
    intro i T h locs g XL eL NL OL KL hi0 hi EL FL1 FL2 FL3 VL1 VL2 hOL
    have hlt : i.toInt < s1.toInt := by omega
    show OwnGo p e below _ (T.setTop (mkF m 9 #[.val (.ref a1), .val (.int (64 : Int32)), .val (.int i)] []))
    refine own_go (fun _ k => XS.iloadN XL.here hx rfl (hb hby d_prog_46_method_14_9) rfl k) ?_
    show OwnGo p e below _ (T.setTop (mkF m 10 #[.val (.ref a1), .val (.int (64 : Int32)), .val (.int i)] [(.int i)]))
    refine own_go (fun _ k => XS.aloadN XL.here hx rfl (hb hby d_prog_46_method_14_10) rfl rfl k) ?_
    show OwnGo p e below _ (T.setTop (mkF m 11 #[.val (.ref a1), .val (.int (64 : Int32)), .val (.int i)] [(.ref a1), (.int i)]))
    obtain ⟨T77, X77, e77, st77⟩ := getF XL hx hZ hown (host := "") (Or.inl (hw _ (List.mem_of_getElem? (i := 17) rfl))) Via.refl eL FL2 (g := (mkF m 11 #[.val (.ref a1), .val (.int (64 : Int32)), .val (.int i)] [(.ref a1), (.int i)])) rfl rfl (hb hby d_prog_46_method_14_11)
    refine own_go st77 ?_
    show OwnGo p e below _ (T77.setTop (mkF m 14 #[.val (.ref a1), .val (.int (64 : Int32)), .val (.int i)] [(.int s1), (.int i)]))
    refine own_go (fun _ k => XS.icmpNo X77.here hx rfl (hb hby d_prog_46_method_14_14) rfl (tlt (own_ltI hlt)).2.1 k) ?_
    show OwnGo p e below _ (T77.setTop (mkF m 17 #[.val (.ref a1), .val (.int (64 : Int32)), .val (.int i)] []))
    refine own_go (fun _ k => XS.aloadN X77.here hx rfl (hb hby d_prog_46_method_14_17) rfl rfl k) ?_
    show OwnGo p e below _ (T77.setTop (mkF m 18 #[.val (.ref a1), .val (.int (64 : Int32)), .val (.int i)] [(.ref a1)]))
    obtain ⟨T78, X78, e78, st78⟩ := getF X77 hx hZ hown (host := "") (Or.inl (hw _ (List.mem_of_getElem? (i := 34) rfl))) Via.refl e77 FL3 (g := (mkF m 18 #[.val (.ref a1), .val (.int (64 : Int32)), .val (.int i)] [(.ref a1)])) rfl rfl (hb hby d_prog_46_method_14_18)
    refine own_go st78 ?_
    show OwnGo p e below _ (T78.setTop (mkF m 21 #[.val (.ref a1), .val (.int (64 : Int32)), .val (.int i)] [(.ref a63)]))
    refine own_go (fun _ k => XS.aloadN X78.here hx rfl (hb hby d_prog_46_method_14_21) rfl rfl k) ?_
    show OwnGo p e below _ (T78.setTop (mkF m 22 #[.val (.ref a1), .val (.int (64 : Int32)), .val (.int i)] [(.ref a1), (.ref a63)]))
    refine own_go (fun _ k => XS.aloadN X78.here hx rfl (hb hby d_prog_46_method_14_22) rfl rfl k) ?_
    show OwnGo p e below _ (T78.setTop (mkF m 23 #[.val (.ref a1), .val (.int (64 : Int32)), .val (.int i)] [(.ref a1), (.ref a1), (.ref a63)]))
    obtain ⟨T79, X79, e79, st79⟩ := getF X78 hx hZ hown (host := "") (Or.inl (hw _ (List.mem_of_getElem? (i := 27) rfl))) Via.refl e78 FL1 (g := (mkF m 23 #[.val (.ref a1), .val (.int (64 : Int32)), .val (.int i)] [(.ref a1), (.ref a1), (.ref a63)])) rfl rfl (hb hby d_prog_46_method_14_23)
    refine own_go st79 ?_
    show OwnGo p e below _ (T79.setTop (mkF m 26 #[.val (.ref a1), .val (.int (64 : Int32)), .val (.int i)] [(.ref b1), (.ref a1), (.ref a63)]))
    refine own_go (fun _ k => XS.iloadN X79.here hx rfl (hb hby d_prog_46_method_14_26) rfl k) ?_
    show OwnGo p e below _ (T79.setTop (mkF m 27 #[.val (.ref a1), .val (.int (64 : Int32)), .val (.int i)] [(.int i), (.ref b1), (.ref a1), (.ref a63)]))
    obtain ⟨c80, Ar80, S80, M80, H80⟩ := (id VL1)
    have b80 : 0 ≤ (i).toInt ∧ (i).toInt < (z1).toInt := ⟨hi0, (by omega)⟩
    refine own_go (fun _ k => X79.iaload hx (j := i) (v := (.int (f1 (i).toNatClampNeg))) (by rw [e79]; exact Ar80.1) (State.isArrayOf_alike hZ.alike Ar80.2.1) Ar80.2.2 (own_inbz S80 hz1 b80.1 b80.2) (IA.atz H80 hz1 b80.1 b80.2) (g := (mkF m 27 #[.val (.ref a1), .val (.int (64 : Int32)), .val (.int i)] [(.int i), (.ref b1), (.ref a1), (.ref a63)])) rfl rfl (hb hby d_prog_46_method_14_27) _ k) ?_
    show OwnGo p e below _ (T79.setTop (mkF m 28 #[.val (.ref a1), .val (.int (64 : Int32)), .val (.int i)] [(.int (f1 (i).toNatClampNeg)), (.ref a1), (.ref a63)]))
    obtain ⟨cl81, hcl81, hob81⟩ := EL.cell
    obtain ⟨_, _, ⟨T81, L81, k81, n81⟩, -, X81, ⟨Lc81, hQ81, l81, y81, z81⟩, st81⟩ := X79.privateBack hx (y := (⟨"com/example/reweave/reweave/control/Keys", "slotOf", "(I)I"⟩ : MethodName)) hown (mvT hZ (hw _ (List.mem_of_getElem? (i := 45) rfl))) (mvT hZ (hw _ (List.mem_of_getElem? (i := 46) rfl))) (own_selp hZ (hw _ (List.mem_of_getElem? (i := 20) rfl)) (hw _ (List.mem_of_getElem? (i := 47) rfl)) (hw _ (List.mem_of_getElem? (i := 46) rfl)) (by decide)) (Cond.privateMethod_at (mvP hZ (hw _ (List.mem_of_getElem? (i := 47) rfl)) (args := #[]))) (mvT hZ (hw _ (List.mem_of_getElem? (i := 48) rfl))) (by decide) (backOf (W := 1) (rm_slot64 l Z a0 hw [] aNONE F0 a1 (f1 (i).toNatClampNeg) b1 a63 z1 f1 g (own_probe g f1 (f1 (i).toNatClampNeg) (63 : Int32) 64 ((f1 (i).toNatClampNeg) &&& (63 : Int32))) h n0 OL FL1 FL3 VL1 VL2 hz1 (fun j hj => ⟨(hOL.1 j (by rw [own_n64]; exact hj)).1, Int.le_trans (hOL.1 j (by rw [own_n64]; exact hj)).2 (show i.toInt ≤ z1.toInt by omega)⟩) (by have q := OwnS.free hOL hi0 (by rw [(show (64 : Int32).toInt = 64 from by decide)]; omega); rw [own_n64] at q; exact q) rfl) hZ (hw _ (List.mem_of_getElem? (i := 48) rfl)) (hw _ (List.mem_of_getElem? (i := 4) rfl)) (by decide) (by decide)) (g := (mkF m 28 #[.val (.ref a1), .val (.int (64 : Int32)), .val (.int i)] [(.int (f1 (i).toNatClampNeg)), (.ref a1), (.ref a63)])) rfl (by rw [hml]; rfl) (Steps.refl _) (a := a1) (by rw [e79]; exact hcl81) hob81 (argsL := [(.int (f1 (i).toNatClampNeg))]) (rest := [(.ref a63)]) (lenOf pd_I__I rfl) rfl (by show 2 * 0 + _ ≤ _; exact Nat.le_of_eq rfl) (hb hby d_prog_46_method_14_28) (fun _ _ => ⟨rfl, e79, (by decide : 1 + 0 ≤ _), (by decide : 64 + 0 ≤ _)⟩)
    dsimp only [Pt.U, Pt.locs, Pt.cells, Pt.slots] at X81 l81 y81 z81 st81 hQ81
    subst l81 y81 z81
    obtain ⟨rfl, Nq81, K81⟩ := hQ81
    have N81 := Fr.app NL Nq81
    refine own_go (fun _ k => st81.trans k) ?_
    show OwnGo p e below _ (T81.setTop (mkF m 31 #[.val (.ref a1), .val (.int (64 : Int32)), .val (.int i)] [(.int (own_probe g f1 (f1 (i).toNatClampNeg) (63 : Int32) 64 ((f1 (i).toNatClampNeg) &&& (63 : Int32)))), (.ref a63)]))
    refine own_go (fun _ k => XS.iloadN X81.here hx rfl (hb hby d_prog_46_method_14_31) rfl k) ?_
    show OwnGo p e below _ (T81.setTop (mkF m 32 #[.val (.ref a1), .val (.int (64 : Int32)), .val (.int i)] [(.int i), (.int (own_probe g f1 (f1 (i).toNatClampNeg) (63 : Int32) 64 ((f1 (i).toNatClampNeg) &&& (63 : Int32)))), (.ref a63)]))
    refine own_go (fun _ k => XS.iconst X81.here hx rfl (hb hby d_prog_46_method_14_32) k) ?_
    show OwnGo p e below _ (T81.setTop (mkF m 33 #[.val (.ref a1), .val (.int (64 : Int32)), .val (.int i)] [(.int (1 : Int32)), (.int i), (.int (own_probe g f1 (f1 (i).toNatClampNeg) (63 : Int32) 64 ((f1 (i).toNatClampNeg) &&& (63 : Int32)))), (.ref a63)]))
    refine own_go (fun _ k => XS.iadd X81.here hx rfl (hb hby d_prog_46_method_14_33) rfl k) ?_
    show OwnGo p e below _ (T81.setTop (mkF m 34 #[.val (.ref a1), .val (.int (64 : Int32)), .val (.int i)] [(.int (i + (1 : Int32))), (.int (own_probe g f1 (f1 (i).toNatClampNeg) (63 : Int32) 64 ((f1 (i).toNatClampNeg) &&& (63 : Int32)))), (.ref a63)]))
    obtain ⟨c82, Ar82, S82, M82, H82⟩ := (id VL2)
    have b82 : 0 ≤ ((own_probe g f1 (f1 (i).toNatClampNeg) (63 : Int32) 64 ((f1 (i).toNatClampNeg) &&& (63 : Int32)))).toInt ∧ ((own_probe g f1 (f1 (i).toNatClampNeg) (63 : Int32) 64 ((f1 (i).toNatClampNeg) &&& (63 : Int32)))).toInt < ((64 : Int32)).toInt := ⟨(own_probe_rng (k := 6) (by decide) (by decide) 64 _ (own_and_rng _ (63 : Int32) (k := 6) (by decide) (by decide)).1 (own_and_rng _ (63 : Int32) (k := 6) (by decide) (by decide)).2).1, (by rw [(show (64 : Int32).toInt = 64 from by decide)]; exact (own_probe_rng (k := 6) (by decide) (by decide) 64 _ (own_and_rng _ (63 : Int32) (k := 6) (by decide) (by decide)).1 (own_and_rng _ (63 : Int32) (k := 6) (by decide) (by decide)).2).2)⟩
    obtain ⟨T82, h82, X82, e82, W82, st82⟩ := stI X81 hx hZ K81 Ar82 (j := (own_probe g f1 (f1 (i).toNatClampNeg) (63 : Int32) 64 ((f1 (i).toNatClampNeg) &&& (63 : Int32)))) (own_inbz S82 (by decide) b82.1 b82.2) (g := (mkF m 34 #[.val (.ref a1), .val (.int (64 : Int32)), .val (.int i)] [(.int (i + (1 : Int32))), (.int (own_probe g f1 (f1 (i).toNatClampNeg) (63 : Int32) 64 ((f1 (i).toNatClampNeg) &&& (63 : Int32)))), (.ref a63)])) rfl rfl (hb hby d_prog_46_method_14_34)
    have N82 := Fr.snoc X82 N81 ge63
    have O82 := OL.wr W82 ge63
    have z83 : h0.size ≤ h82.size := Nat.le_trans KL.1 (Nat.le_of_eq W82.size.symm)
    have V82 : IA Z h82 a63 ((64 : Int32)).toNatClampNeg (own_upd g ((own_probe g f1 (f1 (i).toNatClampNeg) (63 : Int32) 64 ((f1 (i).toNatClampNeg) &&& (63 : Int32)))).toNatClampNeg (i + (1 : Int32))) := IA.set Ar82 S82 M82 H82 W82
    refine own_go st82 ?_
    show OwnGo p e below _ (T82.setTop (mkF m 35 #[.val (.ref a1), .val (.int (64 : Int32)), .val (.int i)] []))
    refine own_go (fun _ k => XS.iinc X82.here hx rfl (hb hby d_prog_46_method_14_35) rfl (l' := #[.val (.ref a1), .val (.int (64 : Int32)), .val (.int (i + (1 : Int32)))]) rfl k) ?_
    show OwnGo p e below _ (T82.setTop (mkF m 38 #[.val (.ref a1), .val (.int (64 : Int32)), .val (.int (i + (1 : Int32)))] []))
    refine own_go (fun _ k => XS.goto X82.here hx rfl (pc0 := 38) (pc' := 9) rfl (hb hby d_prog_46_method_14_38) (by decide) (by decide) k) ?_
    show OwnGo p e below _ (T82.setTop (mkF m 9 #[.val (.ref a1), .val (.int (64 : Int32)), .val (.int (i + (1 : Int32)))] []))
    have hs := own_succ hi0 (by omega)
    have hO2 := OwnS.step (r := ((own_probe g f1 (f1 (i).toNatClampNeg) (63 : Int32) 64 ((f1 (i).toNatClampNeg) &&& (63 : Int32)))).toNatClampNeg) hOL hi0 (by omega)
    have F84 := (EL.wr W82)
    have F85 := (FL1.other W82 (Or.inl ne64))
    have F86 := (FL2.other W82 (Or.inl ne64))
    have F87 := (FL3.other W82 (Or.inl ne64))
    have F88 := (VL1.other W82 ne65)
    exact ih _ _ _ _ _ X82 e82 N82 O82 (KL.wr W82 (Or.inr gh63)) (by omega) (by omega) F84 F85 F86 F87 F88 V82 hO2
def Q_re128 (Z : State) (aNONE : Addr) (a1 : Addr) (b1 : Addr) (z1 : Int32) (f1 : Nat → Int32) (s1 : Int32) (o1 : Value) (h0 : Heap) (n0 : Nat) (v : Option Value) (h : Heap) (L : List Loc) : Prop := ∃ (r9 : Addr) (g9 : Nat → Int32), v = none ∧ Fr n0 L ∧ Keep h0 h [a1] ∧ Fld Z h a1 "com/example/reweave/reweave/control/Keys" "numbers" "[I" (.ref b1) ∧ Fld Z h a1 "com/example/reweave/reweave/control/Keys" "size" "I" (.int s1) ∧ Fld Z h a1 "com/example/reweave/reweave/control/Keys" "slots" "[I" (.ref r9) ∧ IA Z h r9 ((128 : Int32)).toNatClampNeg g9 ∧ OwnS (128 : Int32) g9 s1 ∧ h0.size ≤ r9
theorem ef_re128 (m : MethodId) (x0 : Addr) (x1 : Int32) : entryFrame m #[(.ref x0), (.int x1)] 3 = mkF m 0 #[.val (.ref x0), .val (.int x1), .unset] [] := by first | (simp [entryFrame, mkF, argsToLocals, Value.category]; done) | rfl
set_option maxRecDepth 65536 in
set_option maxHeartbeats 40000000 in
theorem rm_re128 (l : Launch) (Z : State) (a0 : Array Value) (hw : ∀ d ∈ tables_1, d.before a0 Z = true) (ws : List Jvm.Cond) (aNONE : Addr) (F0 : OwnFacts Z aNONE) (a1 : Addr) (b1 : Addr) (z1 : Int32) (f1 : Nat → Int32) (s1 : Int32) (o1 : Value) (h0 : Heap) (n0 : Nat) (O0 : Old Z n0 h0) (PE1 : Exa Z h0 a1 "com/example/reweave/reweave/control/Keys") (PF1 : Fld Z h0 a1 "com/example/reweave/reweave/control/Keys" "numbers" "[I" (.ref b1)) (PF2 : Fld Z h0 a1 "com/example/reweave/reweave/control/Keys" "size" "I" (.int s1)) (PF3 : Fld Z h0 a1 "com/example/reweave/reweave/control/Keys" "slots" "[I" o1) (PV1 : IA Z h0 b1 (z1).toNatClampNeg f1) (ge1 : n0 ≤ a1) (nab : a1 ≠ b1) (hz1 : 0 ≤ z1.toInt) (hs0 : 0 ≤ s1.toInt) (hsz : s1.toInt ≤ z1.toInt) (hsS : s1.toInt < 128) :
    MetFree l (⟨"com/example/reweave/reweave/control/Keys", "reslot", "(I)V"⟩ : MethodName) (head1 (Jvm.Cond.code (⟨"com/example/reweave/reweave/control/Keys", "reslot", "(I)V"⟩ : MethodName) prog_46_method_14_code 3 none :: ws) ({ frames := 1, cells := 1, slots := 128, locals := 16 } : Room)) (fun a U => a = #[(.ref a1), (.int (128 : Int32))] ∧ Z.Warmed39 U.vm ∧ U.heap = h0) (fun _ _ _ _ _ => True) (fun _ U o U' => ∃ v L, o = .returned v ∧ Q_re128 Z aNONE a1 b1 z1 f1 s1 o1 h0 n0 v U'.heap L ∧ FrameEnd U o U' L ({ frames := 1, cells := 1, slots := 128, locals := 16 } : Room).cells ({ frames := 1, cells := 1, slots := 128, locals := 16 } : Room).slots) := by
  refine MetFree.of_bodySF (plainFor_of_name pn_com_example_reweave_reweave_control_Keys) hisR ?_
  intro p e s m args below meth c s₁ Bd hml0 hP hK
  obtain ⟨rfl, hZ, hh⟩ := hP
  have hx := Bd.exec
  have hby := Bd.bytes
  have hml : c.maxLocals = 3 := hml0
  have hown : s.vm.findClass "com/example/reweave/reweave/control/Keys" = some m.cls := findClass_of_methodNamed Bd.named
  have hnm := (name_of_methodNamed Bd.named Bd.method).1
  have X0 : Stand p l e ({ frames := 1, cells := 1, slots := 128, locals := 16 } : Room) s m #[(.ref a1), (.int (128 : Int32))] below meth c s₁ [] 0 0 := Stand.of_body Bd
  have e0 : s₁.heap = h0 := by rw [← hh, Bd.state]; rfl
  have N0 := Fr.nil n0
  refine own_go (Q := fun o U' => ∃ v L, o = .returned v ∧ Q_re128 Z aNONE a1 b1 z1 f1 s1 o1 h0 n0 v U'.heap L ∧ FrameEnd s o U' L ({ frames := 1, cells := 1, slots := 128, locals := 16 } : Room).cells ({ frames := 1, cells := 1, slots := 128, locals := 16 } : Room).slots) (fun t k => castTop (ef_re128 m a1 (128 : Int32)) k) ?_
  show OwnGo p e below _ (s₁.setTop (mkF m 0 #[.val (.ref a1), .val (.int (128 : Int32)), .unset] []))
  refine own_go (fun _ k => XS.aloadN X0.here hx rfl (hb hby d_prog_46_method_14_0) rfl rfl k) ?_
  show OwnGo p e below _ (s₁.setTop (mkF m 1 #[.val (.ref a1), .val (.int (128 : Int32)), .unset] [(.ref a1)]))
  refine own_go (fun _ k => XS.iloadN X0.here hx rfl (hb hby d_prog_46_method_14_1) rfl k) ?_
  show OwnGo p e below _ (s₁.setTop (mkF m 2 #[.val (.ref a1), .val (.int (128 : Int32)), .unset] [(.int (128 : Int32)), (.ref a1)]))
  obtain ⟨T89, h89, k89, X89, e89, E89, A89, st89⟩ := newP X0 hx hZ (hw _ (List.mem_of_getElem? (i := 1) rfl)) e0 (g := (mkF m 2 #[.val (.ref a1), .val (.int (128 : Int32)), .unset] [(.int (128 : Int32)), (.ref a1)])) rfl (hb hby d_prog_46_method_14_2) rfl (own_nn (by decide)) (cap := 128) (by decide) (by decide) (by decide) (by decide)
  obtain ⟨a89, g89⟩ : ∃ z, z = h0.size := ⟨_, rfl⟩
  rw [← g89] at A89 st89
  have ge89 : n0 ≤ a89 := Nat.le_trans (own_sz O0) (Nat.le_of_eq g89.symm)
  have gh89 : h0.size ≤ a89 := Nat.le_trans (Nat.le_refl _) (Nat.le_of_eq g89.symm)
  have ne90 : a1 ≠ a89 := own_newne g89 PE1.lt
  have ne91 : b1 ≠ a89 := own_newne g89 PV1.lt
  have O89 := O0.ext E89
  have z92 : h0.size ≤ h89.size := Nat.le_trans (Nat.le_refl _) E89.1
  have V89 : IA Z h89 a89 ((128 : Int32)).toNatClampNeg (fun _ => 0) := IA.new A89 (own_nn (by decide))
  refine own_go st89 ?_
  show OwnGo p e below _ (T89.setTop (mkF m 4 #[.val (.ref a1), .val (.int (128 : Int32)), .unset] [(.ref a89), (.ref a1)]))
  have F93 := (PF3.ext E89)
  have F94 := (PE1.ext E89)
  obtain ⟨T95, h95, X95, e95, W95, st95⟩ := putF X89 hx hZ hown (host := "") (Or.inl (hw _ (List.mem_of_getElem? (i := 34) rfl))) Via.refl e89 F93 F94 (Or.inl (hw _ (List.mem_of_getElem? (i := 35) rfl))) (hw _ (List.mem_of_getElem? (i := 20) rfl)) (ty := (.array .int)) (by decide) rfl rfl (g := (mkF m 4 #[.val (.ref a1), .val (.int (128 : Int32)), .unset] [(.ref a89), (.ref a1)])) rfl rfl (hb hby d_prog_46_method_14_4)
  have N95 := Fr.snoc X95 N0 ge1
  have O95 := O89.wr W95 ge1
  have z96 : h0.size ≤ h95.size := Nat.le_trans z92 (Nat.le_of_eq W95.size.symm)
  have F95 : Fld Z h95 a1 "com/example/reweave/reweave/control/Keys" "slots" "[I" (.ref a89) := F93.same W95
  refine own_go st95 ?_
  show OwnGo p e below _ (T95.setTop (mkF m 7 #[.val (.ref a1), .val (.int (128 : Int32)), .unset] []))
  refine own_go (fun _ k => XS.iconst X95.here hx rfl (hb hby d_prog_46_method_14_7) k) ?_
  show OwnGo p e below _ (T95.setTop (mkF m 8 #[.val (.ref a1), .val (.int (128 : Int32)), .unset] [(.int (0 : Int32))]))
  refine own_go (fun _ k => XS.istoreN X95.here hx rfl (hb hby d_prog_46_method_14_8) rfl (l' := #[.val (.ref a1), .val (.int (128 : Int32)), .val (.int (0 : Int32))]) rfl k) ?_
  show OwnGo p e below _ (T95.setTop (mkF m 9 #[.val (.ref a1), .val (.int (128 : Int32)), .val (.int (0 : Int32))] []))
  have F97 := (F94.wr W95)
  have F98 := ((PF1.ext E89).other W95 (Or.inr (slot_ne (a0 := a0) (C := "com/example/reweave/reweave/control/Keys") (Or.inl (hw _ (List.mem_of_getElem? (i := 28) rfl))) (Or.inl (hw _ (List.mem_of_getElem? (i := 35) rfl))) (by decide) (t := (.array .int)) (t' := (.array .int)) (by decide) (by decide))))
  have F99 := ((PF2.ext E89).other W95 (Or.inr (slot_ne (a0 := a0) (C := "com/example/reweave/reweave/control/Keys") (Or.inl (hw _ (List.mem_of_getElem? (i := 18) rfl))) (Or.inl (hw _ (List.mem_of_getElem? (i := 35) rfl))) (by decide) (t := .int) (t' := (.array .int)) (by decide) (by decide))))
  have F100 := ((PV1.ext E89).other W95 (Ne.symm nab))
  have F101 := (V89.other W95 (Ne.symm ne90))
  suffices loop : ∀ (t : Nat) (i : Int32) (T : State) (h : Heap) (locs : List Loc) (g : Nat → Int32), Stand p l e ({ frames := 1, cells := 1, slots := 128, locals := 16 } : Room) s m #[(.ref a1), (.int (128 : Int32))] below meth c T locs 1 128 → T.heap = h → Fr n0 locs → Old Z n0 h → Keep h0 h [a1] → 0 ≤ i.toInt → i.toInt + t = s1.toInt → Exa Z h a1 "com/example/reweave/reweave/control/Keys" → Fld Z h a1 "com/example/reweave/reweave/control/Keys" "numbers" "[I" (.ref b1) → Fld Z h a1 "com/example/reweave/reweave/control/Keys" "size" "I" (.int s1) → Fld Z h a1 "com/example/reweave/reweave/control/Keys" "slots" "[I" (.ref a89) → IA Z h b1 (z1).toNatClampNeg f1 → IA Z h a89 ((128 : Int32)).toNatClampNeg g → OwnS (128 : Int32) g i → OwnGo p e below (fun o U' => ∃ v L, o = .returned v ∧ Q_re128 Z aNONE a1 b1 z1 f1 s1 o1 h0 n0 v U'.heap L ∧ FrameEnd s o U' L ({ frames := 1, cells := 1, slots := 128, locals := 16 } : Room).cells ({ frames := 1, cells := 1, slots := 128, locals := 16 } : Room).slots) (T.setTop (mkF m 9 #[.val (.ref a1), .val (.int (128 : Int32)), .val (.int i)] [])) from
    loop s1.toNatClampNeg (0 : Int32) _ _ _ _ X95 e95 N95 O95 (((Keep.refl _ [a1]).ext E89).wr W95 (Or.inl (List.mem_of_getElem? (i := 0) rfl))) (by decide) (by have c0 := (show (0 : Int32).toInt = 0 from by decide); have := own_nat hs0; omega) F97 F98 F99 F95 F100 F101 (OwnS.zero (by decide))
  intro t
  induction t with
  | zero =>
    intro i T h locs g XL eL NL OL KL hi0 hi EL FL1 FL2 FL3 VL1 VL2 hOL
    show OwnGo p e below _ (T.setTop (mkF m 9 #[.val (.ref a1), .val (.int (128 : Int32)), .val (.int i)] []))
    refine own_go (fun _ k => XS.iloadN XL.here hx rfl (hb hby d_prog_46_method_14_9) rfl k) ?_
    show OwnGo p e below _ (T.setTop (mkF m 10 #[.val (.ref a1), .val (.int (128 : Int32)), .val (.int i)] [(.int i)]))
    refine own_go (fun _ k => XS.aloadN XL.here hx rfl (hb hby d_prog_46_method_14_10) rfl rfl k) ?_
    show OwnGo p e below _ (T.setTop (mkF m 11 #[.val (.ref a1), .val (.int (128 : Int32)), .val (.int i)] [(.ref a1), (.int i)]))
    obtain ⟨T102, X102, e102, st102⟩ := getF XL hx hZ hown (host := "") (Or.inl (hw _ (List.mem_of_getElem? (i := 17) rfl))) Via.refl eL FL2 (g := (mkF m 11 #[.val (.ref a1), .val (.int (128 : Int32)), .val (.int i)] [(.ref a1), (.int i)])) rfl rfl (hb hby d_prog_46_method_14_11)
    refine own_go st102 ?_
    show OwnGo p e below _ (T102.setTop (mkF m 14 #[.val (.ref a1), .val (.int (128 : Int32)), .val (.int i)] [(.int s1), (.int i)]))
    refine own_go (fun _ k => XS.icmpYes X102.here hx rfl (pc0 := 14) (pc' := 41) rfl (hb hby d_prog_46_method_14_14) rfl (flt (own_geI (by omega))).2.1 (by decide) (by decide) k) ?_
    show OwnGo p e below _ (T102.setTop (mkF m 41 #[.val (.ref a1), .val (.int (128 : Int32)), .val (.int i)] []))
    obtain ⟨fs, hr, hrun, hended, hW, hsame⟩ := X102.leave (v := none) (fun h => rfl)
    refine ⟨_, _, X102.returnOut hx Bd.returns (hb hby d_prog_46_method_14_41) hr, hrun, hended, _, _, rfl, ?_, ⟨_, rfl⟩, hW, hsame.mono (by decide) (by decide)⟩
    show Q_re128 Z aNONE a1 b1 z1 f1 s1 o1 h0 n0 _ T102.heap _
    rw [e102]
    exact ⟨a89, g, rfl, NL, KL, FL1, FL2, FL3, VL2, (hOL.up hi0 (by omega)), gh89⟩
  | succ t ih =>
    intro i T h locs g XL eL NL OL KL hi0 hi EL FL1 FL2 FL3 VL1 VL2 hOL
    have hlt : i.toInt < s1.toInt := by omega
    show OwnGo p e below _ (T.setTop (mkF m 9 #[.val (.ref a1), .val (.int (128 : Int32)), .val (.int i)] []))
    refine own_go (fun _ k => XS.iloadN XL.here hx rfl (hb hby d_prog_46_method_14_9) rfl k) ?_
    show OwnGo p e below _ (T.setTop (mkF m 10 #[.val (.ref a1), .val (.int (128 : Int32)), .val (.int i)] [(.int i)]))
    refine own_go (fun _ k => XS.aloadN XL.here hx rfl (hb hby d_prog_46_method_14_10) rfl rfl k) ?_
    show OwnGo p e below _ (T.setTop (mkF m 11 #[.val (.ref a1), .val (.int (128 : Int32)), .val (.int i)] [(.ref a1), (.int i)]))
    obtain ⟨T103, X103, e103, st103⟩ := getF XL hx hZ hown (host := "") (Or.inl (hw _ (List.mem_of_getElem? (i := 17) rfl))) Via.refl eL FL2 (g := (mkF m 11 #[.val (.ref a1), .val (.int (128 : Int32)), .val (.int i)] [(.ref a1), (.int i)])) rfl rfl (hb hby d_prog_46_method_14_11)
    refine own_go st103 ?_
    show OwnGo p e below _ (T103.setTop (mkF m 14 #[.val (.ref a1), .val (.int (128 : Int32)), .val (.int i)] [(.int s1), (.int i)]))
    refine own_go (fun _ k => XS.icmpNo X103.here hx rfl (hb hby d_prog_46_method_14_14) rfl (tlt (own_ltI hlt)).2.1 k) ?_
    show OwnGo p e below _ (T103.setTop (mkF m 17 #[.val (.ref a1), .val (.int (128 : Int32)), .val (.int i)] []))
    refine own_go (fun _ k => XS.aloadN X103.here hx rfl (hb hby d_prog_46_method_14_17) rfl rfl k) ?_
    show OwnGo p e below _ (T103.setTop (mkF m 18 #[.val (.ref a1), .val (.int (128 : Int32)), .val (.int i)] [(.ref a1)]))
    obtain ⟨T104, X104, e104, st104⟩ := getF X103 hx hZ hown (host := "") (Or.inl (hw _ (List.mem_of_getElem? (i := 34) rfl))) Via.refl e103 FL3 (g := (mkF m 18 #[.val (.ref a1), .val (.int (128 : Int32)), .val (.int i)] [(.ref a1)])) rfl rfl (hb hby d_prog_46_method_14_18)
    refine own_go st104 ?_
    show OwnGo p e below _ (T104.setTop (mkF m 21 #[.val (.ref a1), .val (.int (128 : Int32)), .val (.int i)] [(.ref a89)]))
    refine own_go (fun _ k => XS.aloadN X104.here hx rfl (hb hby d_prog_46_method_14_21) rfl rfl k) ?_
    show OwnGo p e below _ (T104.setTop (mkF m 22 #[.val (.ref a1), .val (.int (128 : Int32)), .val (.int i)] [(.ref a1), (.ref a89)]))
    refine own_go (fun _ k => XS.aloadN X104.here hx rfl (hb hby d_prog_46_method_14_22) rfl rfl k) ?_
    show OwnGo p e below _ (T104.setTop (mkF m 23 #[.val (.ref a1), .val (.int (128 : Int32)), .val (.int i)] [(.ref a1), (.ref a1), (.ref a89)]))
    obtain ⟨T105, X105, e105, st105⟩ := getF X104 hx hZ hown (host := "") (Or.inl (hw _ (List.mem_of_getElem? (i := 27) rfl))) Via.refl e104 FL1 (g := (mkF m 23 #[.val (.ref a1), .val (.int (128 : Int32)), .val (.int i)] [(.ref a1), (.ref a1), (.ref a89)])) rfl rfl (hb hby d_prog_46_method_14_23)
    refine own_go st105 ?_
    show OwnGo p e below _ (T105.setTop (mkF m 26 #[.val (.ref a1), .val (.int (128 : Int32)), .val (.int i)] [(.ref b1), (.ref a1), (.ref a89)]))
    refine own_go (fun _ k => XS.iloadN X105.here hx rfl (hb hby d_prog_46_method_14_26) rfl k) ?_
    show OwnGo p e below _ (T105.setTop (mkF m 27 #[.val (.ref a1), .val (.int (128 : Int32)), .val (.int i)] [(.int i), (.ref b1), (.ref a1), (.ref a89)]))
    obtain ⟨c106, Ar106, S106, M106, H106⟩ := (id VL1)
    have b106 : 0 ≤ (i).toInt ∧ (i).toInt < (z1).toInt := ⟨hi0, (by omega)⟩
    refine own_go (fun _ k => X105.iaload hx (j := i) (v := (.int (f1 (i).toNatClampNeg))) (by rw [e105]; exact Ar106.1) (State.isArrayOf_alike hZ.alike Ar106.2.1) Ar106.2.2 (own_inbz S106 hz1 b106.1 b106.2) (IA.atz H106 hz1 b106.1 b106.2) (g := (mkF m 27 #[.val (.ref a1), .val (.int (128 : Int32)), .val (.int i)] [(.int i), (.ref b1), (.ref a1), (.ref a89)])) rfl rfl (hb hby d_prog_46_method_14_27) _ k) ?_
    show OwnGo p e below _ (T105.setTop (mkF m 28 #[.val (.ref a1), .val (.int (128 : Int32)), .val (.int i)] [(.int (f1 (i).toNatClampNeg)), (.ref a1), (.ref a89)]))
    obtain ⟨cl107, hcl107, hob107⟩ := EL.cell
    obtain ⟨_, _, ⟨T107, L107, k107, n107⟩, -, X107, ⟨Lc107, hQ107, l107, y107, z107⟩, st107⟩ := X105.privateBack hx (y := (⟨"com/example/reweave/reweave/control/Keys", "slotOf", "(I)I"⟩ : MethodName)) hown (mvT hZ (hw _ (List.mem_of_getElem? (i := 45) rfl))) (mvT hZ (hw _ (List.mem_of_getElem? (i := 46) rfl))) (own_selp hZ (hw _ (List.mem_of_getElem? (i := 20) rfl)) (hw _ (List.mem_of_getElem? (i := 47) rfl)) (hw _ (List.mem_of_getElem? (i := 46) rfl)) (by decide)) (Cond.privateMethod_at (mvP hZ (hw _ (List.mem_of_getElem? (i := 47) rfl)) (args := #[]))) (mvT hZ (hw _ (List.mem_of_getElem? (i := 48) rfl))) (by decide) (backOf (W := 1) (rm_slot128 l Z a0 hw [] aNONE F0 a1 (f1 (i).toNatClampNeg) b1 a89 z1 f1 g (own_probe g f1 (f1 (i).toNatClampNeg) (127 : Int32) 128 ((f1 (i).toNatClampNeg) &&& (127 : Int32))) h n0 OL FL1 FL3 VL1 VL2 hz1 (fun j hj => ⟨(hOL.1 j (by rw [own_n128]; exact hj)).1, Int.le_trans (hOL.1 j (by rw [own_n128]; exact hj)).2 (show i.toInt ≤ z1.toInt by omega)⟩) (by have q := OwnS.free hOL hi0 (by rw [(show (128 : Int32).toInt = 128 from by decide)]; omega); rw [own_n128] at q; exact q) rfl) hZ (hw _ (List.mem_of_getElem? (i := 48) rfl)) (hw _ (List.mem_of_getElem? (i := 4) rfl)) (by decide) (by decide)) (g := (mkF m 28 #[.val (.ref a1), .val (.int (128 : Int32)), .val (.int i)] [(.int (f1 (i).toNatClampNeg)), (.ref a1), (.ref a89)])) rfl (by rw [hml]; rfl) (Steps.refl _) (a := a1) (by rw [e105]; exact hcl107) hob107 (argsL := [(.int (f1 (i).toNatClampNeg))]) (rest := [(.ref a89)]) (lenOf pd_I__I rfl) rfl (by show 2 * 0 + _ ≤ _; exact Nat.le_of_eq rfl) (hb hby d_prog_46_method_14_28) (fun _ _ => ⟨rfl, e105, (by decide : 1 + 0 ≤ _), (by decide : 128 + 0 ≤ _)⟩)
    dsimp only [Pt.U, Pt.locs, Pt.cells, Pt.slots] at X107 l107 y107 z107 st107 hQ107
    subst l107 y107 z107
    obtain ⟨rfl, Nq107, K107⟩ := hQ107
    have N107 := Fr.app NL Nq107
    refine own_go (fun _ k => st107.trans k) ?_
    show OwnGo p e below _ (T107.setTop (mkF m 31 #[.val (.ref a1), .val (.int (128 : Int32)), .val (.int i)] [(.int (own_probe g f1 (f1 (i).toNatClampNeg) (127 : Int32) 128 ((f1 (i).toNatClampNeg) &&& (127 : Int32)))), (.ref a89)]))
    refine own_go (fun _ k => XS.iloadN X107.here hx rfl (hb hby d_prog_46_method_14_31) rfl k) ?_
    show OwnGo p e below _ (T107.setTop (mkF m 32 #[.val (.ref a1), .val (.int (128 : Int32)), .val (.int i)] [(.int i), (.int (own_probe g f1 (f1 (i).toNatClampNeg) (127 : Int32) 128 ((f1 (i).toNatClampNeg) &&& (127 : Int32)))), (.ref a89)]))
    refine own_go (fun _ k => XS.iconst X107.here hx rfl (hb hby d_prog_46_method_14_32) k) ?_
    show OwnGo p e below _ (T107.setTop (mkF m 33 #[.val (.ref a1), .val (.int (128 : Int32)), .val (.int i)] [(.int (1 : Int32)), (.int i), (.int (own_probe g f1 (f1 (i).toNatClampNeg) (127 : Int32) 128 ((f1 (i).toNatClampNeg) &&& (127 : Int32)))), (.ref a89)]))
    refine own_go (fun _ k => XS.iadd X107.here hx rfl (hb hby d_prog_46_method_14_33) rfl k) ?_
    show OwnGo p e below _ (T107.setTop (mkF m 34 #[.val (.ref a1), .val (.int (128 : Int32)), .val (.int i)] [(.int (i + (1 : Int32))), (.int (own_probe g f1 (f1 (i).toNatClampNeg) (127 : Int32) 128 ((f1 (i).toNatClampNeg) &&& (127 : Int32)))), (.ref a89)]))
    obtain ⟨c108, Ar108, S108, M108, H108⟩ := (id VL2)
    have b108 : 0 ≤ ((own_probe g f1 (f1 (i).toNatClampNeg) (127 : Int32) 128 ((f1 (i).toNatClampNeg) &&& (127 : Int32)))).toInt ∧ ((own_probe g f1 (f1 (i).toNatClampNeg) (127 : Int32) 128 ((f1 (i).toNatClampNeg) &&& (127 : Int32)))).toInt < ((128 : Int32)).toInt := ⟨(own_probe_rng (k := 7) (by decide) (by decide) 128 _ (own_and_rng _ (127 : Int32) (k := 7) (by decide) (by decide)).1 (own_and_rng _ (127 : Int32) (k := 7) (by decide) (by decide)).2).1, (by rw [(show (128 : Int32).toInt = 128 from by decide)]; exact (own_probe_rng (k := 7) (by decide) (by decide) 128 _ (own_and_rng _ (127 : Int32) (k := 7) (by decide) (by decide)).1 (own_and_rng _ (127 : Int32) (k := 7) (by decide) (by decide)).2).2)⟩
    obtain ⟨T108, h108, X108, e108, W108, st108⟩ := stI X107 hx hZ K107 Ar108 (j := (own_probe g f1 (f1 (i).toNatClampNeg) (127 : Int32) 128 ((f1 (i).toNatClampNeg) &&& (127 : Int32)))) (own_inbz S108 (by decide) b108.1 b108.2) (g := (mkF m 34 #[.val (.ref a1), .val (.int (128 : Int32)), .val (.int i)] [(.int (i + (1 : Int32))), (.int (own_probe g f1 (f1 (i).toNatClampNeg) (127 : Int32) 128 ((f1 (i).toNatClampNeg) &&& (127 : Int32)))), (.ref a89)])) rfl rfl (hb hby d_prog_46_method_14_34)
    have N108 := Fr.snoc X108 N107 ge89
    have O108 := OL.wr W108 ge89
    have z109 : h0.size ≤ h108.size := Nat.le_trans KL.1 (Nat.le_of_eq W108.size.symm)
    have V108 : IA Z h108 a89 ((128 : Int32)).toNatClampNeg (own_upd g ((own_probe g f1 (f1 (i).toNatClampNeg) (127 : Int32) 128 ((f1 (i).toNatClampNeg) &&& (127 : Int32)))).toNatClampNeg (i + (1 : Int32))) := IA.set Ar108 S108 M108 H108 W108
    refine own_go st108 ?_
    show OwnGo p e below _ (T108.setTop (mkF m 35 #[.val (.ref a1), .val (.int (128 : Int32)), .val (.int i)] []))
    refine own_go (fun _ k => XS.iinc X108.here hx rfl (hb hby d_prog_46_method_14_35) rfl (l' := #[.val (.ref a1), .val (.int (128 : Int32)), .val (.int (i + (1 : Int32)))]) rfl k) ?_
    show OwnGo p e below _ (T108.setTop (mkF m 38 #[.val (.ref a1), .val (.int (128 : Int32)), .val (.int (i + (1 : Int32)))] []))
    refine own_go (fun _ k => XS.goto X108.here hx rfl (pc0 := 38) (pc' := 9) rfl (hb hby d_prog_46_method_14_38) (by decide) (by decide) k) ?_
    show OwnGo p e below _ (T108.setTop (mkF m 9 #[.val (.ref a1), .val (.int (128 : Int32)), .val (.int (i + (1 : Int32)))] []))
    have hs := own_succ hi0 (by omega)
    have hO2 := OwnS.step (r := ((own_probe g f1 (f1 (i).toNatClampNeg) (127 : Int32) 128 ((f1 (i).toNatClampNeg) &&& (127 : Int32)))).toNatClampNeg) hOL hi0 (by omega)
    have F110 := (EL.wr W108)
    have F111 := (FL1.other W108 (Or.inl ne90))
    have F112 := (FL2.other W108 (Or.inl ne90))
    have F113 := (FL3.other W108 (Or.inl ne90))
    have F114 := (VL1.other W108 ne91)
    exact ih _ _ _ _ _ X108 e108 N108 O108 (KL.wr W108 (Or.inr gh89)) (by omega) (by omega) F110 F111 F112 F113 F114 V108 hO2
theorem d_prog_46_method_7_0 : decode prog_46_method_7_code 0 = .ok (.aload_n 0, 1) := by decide +kernel
theorem d_prog_46_method_7_1 : decode prog_46_method_7_code 1 = .ok (.getstatic 27, 3) := by decide +kernel
theorem d_prog_46_method_7_4 : decode prog_46_method_7_code 4 = .ok (.if_acmp .ne 13, 3) := by decide +kernel
theorem d_prog_46_method_7_17 : decode prog_46_method_7_code 17 = .ok (.iconst (-1), 1) := by decide +kernel
theorem d_prog_46_method_7_18 : decode prog_46_method_7_code 18 = .ok (.istore_n 2, 1) := by decide +kernel
theorem d_prog_46_method_7_19 : decode prog_46_method_7_code 19 = .ok (.aload_n 0, 1) := by decide +kernel
theorem d_prog_46_method_7_20 : decode prog_46_method_7_code 20 = .ok (.getfield 20, 3) := by decide +kernel
theorem d_prog_46_method_7_23 : decode prog_46_method_7_code 23 = .ok (.ifnull 19, 3) := by decide +kernel
theorem d_prog_46_method_7_42 : decode prog_46_method_7_code 42 = .ok (.aload_n 0, 1) := by decide +kernel
theorem d_prog_46_method_7_43 : decode prog_46_method_7_code 43 = .ok (.iload_n 1, 1) := by decide +kernel
theorem d_prog_46_method_7_44 : decode prog_46_method_7_code 44 = .ok (.invokevirtual 38, 3) := by decide +kernel
theorem pd_I__Z : parseMethodDescriptor "(I)Z" = some ⟨[.int], some .boolean⟩ := by decide +kernel
theorem d_prog_46_method_7_47 : decode prog_46_method_7_code 47 = .ok (.ifCond .eq 4, 3) := by decide +kernel
theorem d_prog_46_method_7_50 : decode prog_46_method_7_code 50 = .ok (.return_, 1) := by decide +kernel
def Q_addNhit (Z : State) (aNONE : Addr) (a1 : Addr) (p2 : Int32) (b1 : Addr) (z1 : Int32) (f1 : Nat → Int32) (s1 : Int32) (h0 : Heap) (n0 : Nat) (v : Option Value) (h : Heap) (L : List Loc) : Prop := v = none ∧ Fr n0 L ∧ h = h0
theorem ef_addNhit (m : MethodId) (x0 : Addr) (x1 : Int32) : entryFrame m #[(.ref x0), (.int x1)] 3 = mkF m 0 #[.val (.ref x0), .val (.int x1), .unset] [] := by first | (simp [entryFrame, mkF, argsToLocals, Value.category]; done) | rfl
set_option maxRecDepth 65536 in
set_option maxHeartbeats 40000000 in
theorem rm_addNhit (l : Launch) (Z : State) (a0 : Array Value) (hw : ∀ d ∈ tables_1, d.before a0 Z = true) (ws : List Jvm.Cond) (aNONE : Addr) (F0 : OwnFacts Z aNONE) (a1 : Addr) (p2 : Int32) (b1 : Addr) (z1 : Int32) (f1 : Nat → Int32) (s1 : Int32) (h0 : Heap) (n0 : Nat) (O0 : Old Z n0 h0) (PE1 : Exa Z h0 a1 "com/example/reweave/reweave/control/Keys") (PF1 : Fld Z h0 a1 "com/example/reweave/reweave/control/Keys" "numbers" "[I" (.ref b1)) (PF2 : Fld Z h0 a1 "com/example/reweave/reweave/control/Keys" "size" "I" (.int s1)) (PV1 : IA Z h0 b1 (z1).toNatClampNeg f1) (ge1 : n0 ≤ a1) (ge2 : n0 ≤ b1) (nab : a1 ≠ b1) (hz1 : 0 ≤ z1.toInt) (hs0 : 0 ≤ (s1).toInt) (hsz : (s1).toInt ≤ z1.toInt) (hzz : z1.toInt < 1000) (PF3 : Fld Z h0 a1 "com/example/reweave/reweave/control/Keys" "slots" "[I" .null) (hfd : own_find f1 p2 (s1).toNatClampNeg (0 : Int32) = (1 : Int32)) :
    MetFree l (⟨"com/example/reweave/reweave/control/Keys", "add", "(I)V"⟩ : MethodName) (head1 (Jvm.Cond.code (⟨"com/example/reweave/reweave/control/Keys", "add", "(I)V"⟩ : MethodName) prog_46_method_7_code 3 none :: ws) ({ frames := 1, cells := 0, slots := 0, locals := 14 } : Room)) (fun a U => a = #[(.ref a1), (.int p2)] ∧ Z.Warmed39 U.vm ∧ U.heap = h0) (fun _ _ _ _ _ => True) (fun _ U o U' => ∃ v L, o = .returned v ∧ Q_addNhit Z aNONE a1 p2 b1 z1 f1 s1 h0 n0 v U'.heap L ∧ FrameEnd U o U' L ({ frames := 1, cells := 0, slots := 0, locals := 14 } : Room).cells ({ frames := 1, cells := 0, slots := 0, locals := 14 } : Room).slots) := by
  refine MetFree.of_bodySF (plainFor_of_name pn_com_example_reweave_reweave_control_Keys) hisR ?_
  intro p e s m args below meth c s₁ Bd hml0 hP hK
  obtain ⟨rfl, hZ, hh⟩ := hP
  have hx := Bd.exec
  have hby := Bd.bytes
  have hml : c.maxLocals = 3 := hml0
  have hown : s.vm.findClass "com/example/reweave/reweave/control/Keys" = some m.cls := findClass_of_methodNamed Bd.named
  have hnm := (name_of_methodNamed Bd.named Bd.method).1
  have X0 : Stand p l e ({ frames := 1, cells := 0, slots := 0, locals := 14 } : Room) s m #[(.ref a1), (.int p2)] below meth c s₁ [] 0 0 := Stand.of_body Bd
  have e0 : s₁.heap = h0 := by rw [← hh, Bd.state]; rfl
  have N0 := Fr.nil n0
  refine own_go (Q := fun o U' => ∃ v L, o = .returned v ∧ Q_addNhit Z aNONE a1 p2 b1 z1 f1 s1 h0 n0 v U'.heap L ∧ FrameEnd s o U' L ({ frames := 1, cells := 0, slots := 0, locals := 14 } : Room).cells ({ frames := 1, cells := 0, slots := 0, locals := 14 } : Room).slots) (fun t k => castTop (ef_addNhit m a1 p2) k) ?_
  show OwnGo p e below _ (s₁.setTop (mkF m 0 #[.val (.ref a1), .val (.int p2), .unset] []))
  refine own_go (fun _ k => XS.aloadN X0.here hx rfl (hb hby d_prog_46_method_7_0) rfl rfl k) ?_
  show OwnGo p e below _ (s₁.setTop (mkF m 1 #[.val (.ref a1), .val (.int p2), .unset] [(.ref a1)]))
  obtain ⟨T115, X115, e115, st115⟩ := getS X0 hx hZ hown (host := "") (hw _ (List.mem_of_getElem? (i := 6) rfl)) Via.refl e0 (F0.1.ext O0.2) (g := (mkF m 1 #[.val (.ref a1), .val (.int p2), .unset] [(.ref a1)])) rfl (hb hby d_prog_46_method_7_1)
  refine own_go st115 ?_
  show OwnGo p e below _ (T115.setTop (mkF m 4 #[.val (.ref a1), .val (.int p2), .unset] [(.ref aNONE), (.ref a1)]))
  refine own_go (fun _ k => acmp X115 hx rfl (cd := .ne) (o := 13) (x := (.ref a1)) (y := (.ref aNONE)) (pc0 := 4) (pc' := 17) rfl rfl rfl (hb hby d_prog_46_method_7_4) rfl (own_refne (Ne.symm (O0.ne F0.2.1.lt ge1))) (by decide) (by decide) k) ?_
  show OwnGo p e below _ (T115.setTop (mkF m 17 #[.val (.ref a1), .val (.int p2), .unset] []))
  refine own_go (fun _ k => XS.iconst X115.here hx rfl (hb hby d_prog_46_method_7_17) k) ?_
  show OwnGo p e below _ (T115.setTop (mkF m 18 #[.val (.ref a1), .val (.int p2), .unset] [(.int (-1 : Int32))]))
  refine own_go (fun _ k => XS.istoreN X115.here hx rfl (hb hby d_prog_46_method_7_18) rfl (l' := #[.val (.ref a1), .val (.int p2), .val (.int (-1 : Int32))]) rfl k) ?_
  show OwnGo p e below _ (T115.setTop (mkF m 19 #[.val (.ref a1), .val (.int p2), .val (.int (-1 : Int32))] []))
  refine own_go (fun _ k => XS.aloadN X115.here hx rfl (hb hby d_prog_46_method_7_19) rfl rfl k) ?_
  show OwnGo p e below _ (T115.setTop (mkF m 20 #[.val (.ref a1), .val (.int p2), .val (.int (-1 : Int32))] [(.ref a1)]))
  obtain ⟨T116, X116, e116, st116⟩ := getF X115 hx hZ hown (host := "") (Or.inl (hw _ (List.mem_of_getElem? (i := 34) rfl))) Via.refl e115 PF3 (g := (mkF m 20 #[.val (.ref a1), .val (.int p2), .val (.int (-1 : Int32))] [(.ref a1)])) rfl rfl (hb hby d_prog_46_method_7_20)
  refine own_go st116 ?_
  show OwnGo p e below _ (T116.setTop (mkF m 23 #[.val (.ref a1), .val (.int p2), .val (.int (-1 : Int32))] [.null]))
  refine own_go (fun _ k => XS.ifnullYes X116.here hx rfl (pc0 := 23) (pc' := 42) rfl (hb hby d_prog_46_method_7_23) rfl (by decide) (by decide) k) ?_
  show OwnGo p e below _ (T116.setTop (mkF m 42 #[.val (.ref a1), .val (.int p2), .val (.int (-1 : Int32))] []))
  refine own_go (fun _ k => XS.aloadN X116.here hx rfl (hb hby d_prog_46_method_7_42) rfl rfl k) ?_
  show OwnGo p e below _ (T116.setTop (mkF m 43 #[.val (.ref a1), .val (.int p2), .val (.int (-1 : Int32))] [(.ref a1)]))
  refine own_go (fun _ k => XS.iloadN X116.here hx rfl (hb hby d_prog_46_method_7_43) rfl k) ?_
  show OwnGo p e below _ (T116.setTop (mkF m 44 #[.val (.ref a1), .val (.int p2), .val (.int (-1 : Int32))] [(.int p2), (.ref a1)]))
  obtain ⟨cq117, kq117, qa117, qb117, qc117⟩ := isOf hZ e116 PE1
  obtain ⟨_, _, ⟨T117, L117, k117, n117⟩, -, X117, ⟨Lc117, hQ117, l117, y117, z117⟩, st117⟩ := X116.virtualBack hx (y := (⟨"com/example/reweave/reweave/control/Keys", "contains", "(I)Z"⟩ : MethodName)) (z := (⟨"com/example/reweave/reweave/control/Keys", "contains", "(I)Z"⟩ : MethodName)) hown (mvT hZ (hw _ (List.mem_of_getElem? (i := 36) rfl))) (mvT hZ (hw _ (List.mem_of_getElem? (i := 37) rfl))) (notFace_of_selects (args := #[]) (mvT hZ (hw _ (List.mem_of_getElem? (i := 39) rfl)))) (mvT hZ (hw _ (List.mem_of_getElem? (i := 39) rfl))) (mvT hZ (hw _ (List.mem_of_getElem? (i := 38) rfl))) (by decide) (backOf (W := 0) (rm_con l Z a0 hw [] aNONE F0 a1 p2 b1 z1 f1 s1 (1 : Int32) h0 n0 O0 PF1 PF3 PF2 PV1 hz1 hs0 hsz hzz hfd) hZ (hw _ (List.mem_of_getElem? (i := 40) rfl)) (hw _ (List.mem_of_getElem? (i := 4) rfl)) (by decide) (by decide)) qa117 qc117 (g := (mkF m 44 #[.val (.ref a1), .val (.int p2), .val (.int (-1 : Int32))] [(.int p2), (.ref a1)])) rfl (by rw [hml]; rfl) (Steps.refl _) (argsL := [(.int p2)]) (rest := []) (lenOf pd_I__Z rfl) rfl (by show 2 * 0 + _ ≤ _; exact Nat.le_of_eq rfl) (hb hby d_prog_46_method_7_44) (fun _ _ => ⟨rfl, e116, (by decide : 0 + 0 ≤ _), (by decide : 0 + 0 ≤ _)⟩)
  dsimp only [Pt.U, Pt.locs, Pt.cells, Pt.slots] at X117 l117 y117 z117 st117 hQ117
  subst l117 y117 z117
  obtain ⟨rfl, Nq117, K117⟩ := hQ117
  have N117 := Fr.app N0 Nq117
  refine own_go (fun _ k => st117.trans k) ?_
  show OwnGo p e below _ (T117.setTop (mkF m 47 #[.val (.ref a1), .val (.int p2), .val (.int (-1 : Int32))] [(.int (1 : Int32))]))
  refine own_go (fun _ k => XS.ifNo X117.here hx rfl (hb hby d_prog_46_method_7_47) rfl (by decide) k) ?_
  show OwnGo p e below _ (T117.setTop (mkF m 50 #[.val (.ref a1), .val (.int p2), .val (.int (-1 : Int32))] []))
  obtain ⟨fs, hr, hrun, hended, hW, hsame⟩ := X117.leave (v := none) (fun h => rfl)
  refine ⟨_, _, X117.returnOut hx Bd.returns (hb hby d_prog_46_method_7_50) hr, hrun, hended, _, _, rfl, ?_, ⟨_, rfl⟩, hW, hsame.mono (by decide) (by decide)⟩
  show Q_addNhit Z aNONE a1 p2 b1 z1 f1 s1 h0 n0 _ T117.heap _
  rw [K117]
  exact ⟨rfl, N117, rfl⟩
theorem d_prog_46_method_7_51 : decode prog_46_method_7_code 51 = .ok (.aload_n 0, 1) := by decide +kernel
theorem d_prog_46_method_7_52 : decode prog_46_method_7_code 52 = .ok (.getfield 16, 3) := by decide +kernel
theorem d_prog_46_method_7_55 : decode prog_46_method_7_code 55 = .ok (.aload_n 0, 1) := by decide +kernel
theorem d_prog_46_method_7_56 : decode prog_46_method_7_code 56 = .ok (.getfield 12, 3) := by decide +kernel
theorem d_prog_46_method_7_59 : decode prog_46_method_7_code 59 = .ok (.arraylength, 1) := by decide +kernel
theorem d_prog_46_method_7_60 : decode prog_46_method_7_code 60 = .ok (.if_icmp .ne 20, 3) := by decide +kernel
theorem d_prog_46_method_7_80 : decode prog_46_method_7_code 80 = .ok (.aload_n 0, 1) := by decide +kernel
theorem d_prog_46_method_7_81 : decode prog_46_method_7_code 81 = .ok (.getfield 12, 3) := by decide +kernel
theorem d_prog_46_method_7_84 : decode prog_46_method_7_code 84 = .ok (.aload_n 0, 1) := by decide +kernel
theorem d_prog_46_method_7_85 : decode prog_46_method_7_code 85 = .ok (.getfield 16, 3) := by decide +kernel
theorem d_prog_46_method_7_88 : decode prog_46_method_7_code 88 = .ok (.iload_n 1, 1) := by decide +kernel
theorem d_prog_46_method_7_89 : decode prog_46_method_7_code 89 = .ok (.iastore, 1) := by decide +kernel
theorem d_prog_46_method_7_90 : decode prog_46_method_7_code 90 = .ok (.aload_n 0, 1) := by decide +kernel
theorem d_prog_46_method_7_91 : decode prog_46_method_7_code 91 = .ok (.dup, 1) := by decide +kernel
theorem d_prog_46_method_7_92 : decode prog_46_method_7_code 92 = .ok (.getfield 16, 3) := by decide +kernel
theorem d_prog_46_method_7_95 : decode prog_46_method_7_code 95 = .ok (.iconst 1, 1) := by decide +kernel
theorem d_prog_46_method_7_96 : decode prog_46_method_7_code 96 = .ok (.iadd, 1) := by decide +kernel
theorem d_prog_46_method_7_97 : decode prog_46_method_7_code 97 = .ok (.putfield 16, 3) := by decide +kernel
theorem d_prog_46_method_7_100 : decode prog_46_method_7_code 100 = .ok (.aload_n 0, 1) := by decide +kernel
theorem d_prog_46_method_7_101 : decode prog_46_method_7_code 101 = .ok (.getfield 20, 3) := by decide +kernel
theorem d_prog_46_method_7_104 : decode prog_46_method_7_code 104 = .ok (.ifnull 41, 3) := by decide +kernel
theorem d_prog_46_method_7_145 : decode prog_46_method_7_code 145 = .ok (.aload_n 0, 1) := by decide +kernel
theorem d_prog_46_method_7_146 : decode prog_46_method_7_code 146 = .ok (.getfield 16, 3) := by decide +kernel
theorem d_prog_46_method_7_149 : decode prog_46_method_7_code 149 = .ok (.bipush 8, 2) := by decide +kernel
theorem d_prog_46_method_7_151 : decode prog_46_method_7_code 151 = .ok (.if_icmp .le 9, 3) := by decide +kernel
theorem d_prog_46_method_7_160 : decode prog_46_method_7_code 160 = .ok (.return_, 1) := by decide +kernel
def Q_addNmiss (Z : State) (aNONE : Addr) (a1 : Addr) (p2 : Int32) (b1 : Addr) (z1 : Int32) (f1 : Nat → Int32) (s1 : Int32) (h0 : Heap) (n0 : Nat) (v : Option Value) (h : Heap) (L : List Loc) : Prop := v = none ∧ Fr n0 L ∧ Keep h0 h [a1, b1] ∧ Fld Z h a1 "com/example/reweave/reweave/control/Keys" "numbers" "[I" (.ref b1) ∧ Fld Z h a1 "com/example/reweave/reweave/control/Keys" "size" "I" (.int (s1 + (1 : Int32))) ∧ IA Z h b1 (z1).toNatClampNeg (own_upd f1 (s1).toNatClampNeg p2) ∧ Fld Z h a1 "com/example/reweave/reweave/control/Keys" "slots" "[I" .null
theorem ef_addNmiss (m : MethodId) (x0 : Addr) (x1 : Int32) : entryFrame m #[(.ref x0), (.int x1)] 3 = mkF m 0 #[.val (.ref x0), .val (.int x1), .unset] [] := by first | (simp [entryFrame, mkF, argsToLocals, Value.category]; done) | rfl
set_option maxRecDepth 65536 in
set_option maxHeartbeats 40000000 in
theorem rm_addNmiss (l : Launch) (Z : State) (a0 : Array Value) (hw : ∀ d ∈ tables_1, d.before a0 Z = true) (ws : List Jvm.Cond) (aNONE : Addr) (F0 : OwnFacts Z aNONE) (a1 : Addr) (p2 : Int32) (b1 : Addr) (z1 : Int32) (f1 : Nat → Int32) (s1 : Int32) (h0 : Heap) (n0 : Nat) (O0 : Old Z n0 h0) (PE1 : Exa Z h0 a1 "com/example/reweave/reweave/control/Keys") (PF1 : Fld Z h0 a1 "com/example/reweave/reweave/control/Keys" "numbers" "[I" (.ref b1)) (PF2 : Fld Z h0 a1 "com/example/reweave/reweave/control/Keys" "size" "I" (.int s1)) (PV1 : IA Z h0 b1 (z1).toNatClampNeg f1) (ge1 : n0 ≤ a1) (ge2 : n0 ≤ b1) (nab : a1 ≠ b1) (hz1 : 0 ≤ z1.toInt) (hs0 : 0 ≤ (s1).toInt) (hsz : (s1).toInt ≤ z1.toInt) (hzz : z1.toInt < 1000) (PF3 : Fld Z h0 a1 "com/example/reweave/reweave/control/Keys" "slots" "[I" .null) (hfd : own_find f1 p2 (s1).toNatClampNeg (0 : Int32) = (0 : Int32)) (hlt : (s1).toInt < z1.toInt) (h8 : s1.toInt < 8) :
    MetFree l (⟨"com/example/reweave/reweave/control/Keys", "add", "(I)V"⟩ : MethodName) (head1 (Jvm.Cond.code (⟨"com/example/reweave/reweave/control/Keys", "add", "(I)V"⟩ : MethodName) prog_46_method_7_code 3 none :: ws) ({ frames := 1, cells := 0, slots := 0, locals := 14 } : Room)) (fun a U => a = #[(.ref a1), (.int p2)] ∧ Z.Warmed39 U.vm ∧ U.heap = h0) (fun _ _ _ _ _ => True) (fun _ U o U' => ∃ v L, o = .returned v ∧ Q_addNmiss Z aNONE a1 p2 b1 z1 f1 s1 h0 n0 v U'.heap L ∧ FrameEnd U o U' L ({ frames := 1, cells := 0, slots := 0, locals := 14 } : Room).cells ({ frames := 1, cells := 0, slots := 0, locals := 14 } : Room).slots) := by
  refine MetFree.of_bodySF (plainFor_of_name pn_com_example_reweave_reweave_control_Keys) hisR ?_
  intro p e s m args below meth c s₁ Bd hml0 hP hK
  obtain ⟨rfl, hZ, hh⟩ := hP
  have hx := Bd.exec
  have hby := Bd.bytes
  have hml : c.maxLocals = 3 := hml0
  have hown : s.vm.findClass "com/example/reweave/reweave/control/Keys" = some m.cls := findClass_of_methodNamed Bd.named
  have hnm := (name_of_methodNamed Bd.named Bd.method).1
  have X0 : Stand p l e ({ frames := 1, cells := 0, slots := 0, locals := 14 } : Room) s m #[(.ref a1), (.int p2)] below meth c s₁ [] 0 0 := Stand.of_body Bd
  have e0 : s₁.heap = h0 := by rw [← hh, Bd.state]; rfl
  have N0 := Fr.nil n0
  refine own_go (Q := fun o U' => ∃ v L, o = .returned v ∧ Q_addNmiss Z aNONE a1 p2 b1 z1 f1 s1 h0 n0 v U'.heap L ∧ FrameEnd s o U' L ({ frames := 1, cells := 0, slots := 0, locals := 14 } : Room).cells ({ frames := 1, cells := 0, slots := 0, locals := 14 } : Room).slots) (fun t k => castTop (ef_addNmiss m a1 p2) k) ?_
  show OwnGo p e below _ (s₁.setTop (mkF m 0 #[.val (.ref a1), .val (.int p2), .unset] []))
  refine own_go (fun _ k => XS.aloadN X0.here hx rfl (hb hby d_prog_46_method_7_0) rfl rfl k) ?_
  show OwnGo p e below _ (s₁.setTop (mkF m 1 #[.val (.ref a1), .val (.int p2), .unset] [(.ref a1)]))
  obtain ⟨T118, X118, e118, st118⟩ := getS X0 hx hZ hown (host := "") (hw _ (List.mem_of_getElem? (i := 6) rfl)) Via.refl e0 (F0.1.ext O0.2) (g := (mkF m 1 #[.val (.ref a1), .val (.int p2), .unset] [(.ref a1)])) rfl (hb hby d_prog_46_method_7_1)
  refine own_go st118 ?_
  show OwnGo p e below _ (T118.setTop (mkF m 4 #[.val (.ref a1), .val (.int p2), .unset] [(.ref aNONE), (.ref a1)]))
  refine own_go (fun _ k => acmp X118 hx rfl (cd := .ne) (o := 13) (x := (.ref a1)) (y := (.ref aNONE)) (pc0 := 4) (pc' := 17) rfl rfl rfl (hb hby d_prog_46_method_7_4) rfl (own_refne (Ne.symm (O0.ne F0.2.1.lt ge1))) (by decide) (by decide) k) ?_
  show OwnGo p e below _ (T118.setTop (mkF m 17 #[.val (.ref a1), .val (.int p2), .unset] []))
  refine own_go (fun _ k => XS.iconst X118.here hx rfl (hb hby d_prog_46_method_7_17) k) ?_
  show OwnGo p e below _ (T118.setTop (mkF m 18 #[.val (.ref a1), .val (.int p2), .unset] [(.int (-1 : Int32))]))
  refine own_go (fun _ k => XS.istoreN X118.here hx rfl (hb hby d_prog_46_method_7_18) rfl (l' := #[.val (.ref a1), .val (.int p2), .val (.int (-1 : Int32))]) rfl k) ?_
  show OwnGo p e below _ (T118.setTop (mkF m 19 #[.val (.ref a1), .val (.int p2), .val (.int (-1 : Int32))] []))
  refine own_go (fun _ k => XS.aloadN X118.here hx rfl (hb hby d_prog_46_method_7_19) rfl rfl k) ?_
  show OwnGo p e below _ (T118.setTop (mkF m 20 #[.val (.ref a1), .val (.int p2), .val (.int (-1 : Int32))] [(.ref a1)]))
  obtain ⟨T119, X119, e119, st119⟩ := getF X118 hx hZ hown (host := "") (Or.inl (hw _ (List.mem_of_getElem? (i := 34) rfl))) Via.refl e118 PF3 (g := (mkF m 20 #[.val (.ref a1), .val (.int p2), .val (.int (-1 : Int32))] [(.ref a1)])) rfl rfl (hb hby d_prog_46_method_7_20)
  refine own_go st119 ?_
  show OwnGo p e below _ (T119.setTop (mkF m 23 #[.val (.ref a1), .val (.int p2), .val (.int (-1 : Int32))] [.null]))
  refine own_go (fun _ k => XS.ifnullYes X119.here hx rfl (pc0 := 23) (pc' := 42) rfl (hb hby d_prog_46_method_7_23) rfl (by decide) (by decide) k) ?_
  show OwnGo p e below _ (T119.setTop (mkF m 42 #[.val (.ref a1), .val (.int p2), .val (.int (-1 : Int32))] []))
  refine own_go (fun _ k => XS.aloadN X119.here hx rfl (hb hby d_prog_46_method_7_42) rfl rfl k) ?_
  show OwnGo p e below _ (T119.setTop (mkF m 43 #[.val (.ref a1), .val (.int p2), .val (.int (-1 : Int32))] [(.ref a1)]))
  refine own_go (fun _ k => XS.iloadN X119.here hx rfl (hb hby d_prog_46_method_7_43) rfl k) ?_
  show OwnGo p e below _ (T119.setTop (mkF m 44 #[.val (.ref a1), .val (.int p2), .val (.int (-1 : Int32))] [(.int p2), (.ref a1)]))
  obtain ⟨cq120, kq120, qa120, qb120, qc120⟩ := isOf hZ e119 PE1
  obtain ⟨_, _, ⟨T120, L120, k120, n120⟩, -, X120, ⟨Lc120, hQ120, l120, y120, z120⟩, st120⟩ := X119.virtualBack hx (y := (⟨"com/example/reweave/reweave/control/Keys", "contains", "(I)Z"⟩ : MethodName)) (z := (⟨"com/example/reweave/reweave/control/Keys", "contains", "(I)Z"⟩ : MethodName)) hown (mvT hZ (hw _ (List.mem_of_getElem? (i := 36) rfl))) (mvT hZ (hw _ (List.mem_of_getElem? (i := 37) rfl))) (notFace_of_selects (args := #[]) (mvT hZ (hw _ (List.mem_of_getElem? (i := 39) rfl)))) (mvT hZ (hw _ (List.mem_of_getElem? (i := 39) rfl))) (mvT hZ (hw _ (List.mem_of_getElem? (i := 38) rfl))) (by decide) (backOf (W := 0) (rm_con l Z a0 hw [] aNONE F0 a1 p2 b1 z1 f1 s1 (0 : Int32) h0 n0 O0 PF1 PF3 PF2 PV1 hz1 hs0 hsz hzz hfd) hZ (hw _ (List.mem_of_getElem? (i := 40) rfl)) (hw _ (List.mem_of_getElem? (i := 4) rfl)) (by decide) (by decide)) qa120 qc120 (g := (mkF m 44 #[.val (.ref a1), .val (.int p2), .val (.int (-1 : Int32))] [(.int p2), (.ref a1)])) rfl (by rw [hml]; rfl) (Steps.refl _) (argsL := [(.int p2)]) (rest := []) (lenOf pd_I__Z rfl) rfl (by show 2 * 0 + _ ≤ _; exact Nat.le_of_eq rfl) (hb hby d_prog_46_method_7_44) (fun _ _ => ⟨rfl, e119, (by decide : 0 + 0 ≤ _), (by decide : 0 + 0 ≤ _)⟩)
  dsimp only [Pt.U, Pt.locs, Pt.cells, Pt.slots] at X120 l120 y120 z120 st120 hQ120
  subst l120 y120 z120
  obtain ⟨rfl, Nq120, K120⟩ := hQ120
  have N120 := Fr.app N0 Nq120
  refine own_go (fun _ k => st120.trans k) ?_
  show OwnGo p e below _ (T120.setTop (mkF m 47 #[.val (.ref a1), .val (.int p2), .val (.int (-1 : Int32))] [(.int (0 : Int32))]))
  refine own_go (fun _ k => XS.ifYes X120.here hx rfl (pc0 := 47) (pc' := 51) rfl (hb hby d_prog_46_method_7_47) rfl (by decide) (by decide) (by decide) k) ?_
  show OwnGo p e below _ (T120.setTop (mkF m 51 #[.val (.ref a1), .val (.int p2), .val (.int (-1 : Int32))] []))
  refine own_go (fun _ k => XS.aloadN X120.here hx rfl (hb hby d_prog_46_method_7_51) rfl rfl k) ?_
  show OwnGo p e below _ (T120.setTop (mkF m 52 #[.val (.ref a1), .val (.int p2), .val (.int (-1 : Int32))] [(.ref a1)]))
  obtain ⟨T121, X121, e121, st121⟩ := getF X120 hx hZ hown (host := "") (Or.inl (hw _ (List.mem_of_getElem? (i := 17) rfl))) Via.refl K120 PF2 (g := (mkF m 52 #[.val (.ref a1), .val (.int p2), .val (.int (-1 : Int32))] [(.ref a1)])) rfl rfl (hb hby d_prog_46_method_7_52)
  refine own_go st121 ?_
  show OwnGo p e below _ (T121.setTop (mkF m 55 #[.val (.ref a1), .val (.int p2), .val (.int (-1 : Int32))] [(.int s1)]))
  refine own_go (fun _ k => XS.aloadN X121.here hx rfl (hb hby d_prog_46_method_7_55) rfl rfl k) ?_
  show OwnGo p e below _ (T121.setTop (mkF m 56 #[.val (.ref a1), .val (.int p2), .val (.int (-1 : Int32))] [(.ref a1), (.int s1)]))
  obtain ⟨T122, X122, e122, st122⟩ := getF X121 hx hZ hown (host := "") (Or.inl (hw _ (List.mem_of_getElem? (i := 27) rfl))) Via.refl e121 PF1 (g := (mkF m 56 #[.val (.ref a1), .val (.int p2), .val (.int (-1 : Int32))] [(.ref a1), (.int s1)])) rfl rfl (hb hby d_prog_46_method_7_56)
  refine own_go st122 ?_
  show OwnGo p e below _ (T122.setTop (mkF m 59 #[.val (.ref a1), .val (.int p2), .val (.int (-1 : Int32))] [(.ref b1), (.int s1)]))
  obtain ⟨c123, Ar123, S123, M123, H123⟩ := (id PV1)
  refine own_go (fun _ k => X122.arraylength hx (cell := c123) (by rw [e122]; exact Ar123.1) (State.isArrayOf_alike hZ.alike Ar123.2.1) (g := (mkF m 59 #[.val (.ref a1), .val (.int p2), .val (.int (-1 : Int32))] [(.ref b1), (.int s1)])) rfl (rest := [(.int s1)]) rfl (hb hby d_prog_46_method_7_59) _ k) ?_
  rw [len_of S123 (own_nn hz1)]
  show OwnGo p e below _ (T122.setTop (mkF m 60 #[.val (.ref a1), .val (.int p2), .val (.int (-1 : Int32))] [(.int z1), (.int s1)]))
  refine own_go (fun _ k => XS.icmpYes X122.here hx rfl (pc0 := 60) (pc' := 80) rfl (hb hby d_prog_46_method_7_60) rfl (feq (own_neI (by omega))).2 (by decide) (by decide) k) ?_
  show OwnGo p e below _ (T122.setTop (mkF m 80 #[.val (.ref a1), .val (.int p2), .val (.int (-1 : Int32))] []))
  refine own_go (fun _ k => XS.aloadN X122.here hx rfl (hb hby d_prog_46_method_7_80) rfl rfl k) ?_
  show OwnGo p e below _ (T122.setTop (mkF m 81 #[.val (.ref a1), .val (.int p2), .val (.int (-1 : Int32))] [(.ref a1)]))
  obtain ⟨T124, X124, e124, st124⟩ := getF X122 hx hZ hown (host := "") (Or.inl (hw _ (List.mem_of_getElem? (i := 27) rfl))) Via.refl e122 PF1 (g := (mkF m 81 #[.val (.ref a1), .val (.int p2), .val (.int (-1 : Int32))] [(.ref a1)])) rfl rfl (hb hby d_prog_46_method_7_81)
  refine own_go st124 ?_
  show OwnGo p e below _ (T124.setTop (mkF m 84 #[.val (.ref a1), .val (.int p2), .val (.int (-1 : Int32))] [(.ref b1)]))
  refine own_go (fun _ k => XS.aloadN X124.here hx rfl (hb hby d_prog_46_method_7_84) rfl rfl k) ?_
  show OwnGo p e below _ (T124.setTop (mkF m 85 #[.val (.ref a1), .val (.int p2), .val (.int (-1 : Int32))] [(.ref a1), (.ref b1)]))
  obtain ⟨T125, X125, e125, st125⟩ := getF X124 hx hZ hown (host := "") (Or.inl (hw _ (List.mem_of_getElem? (i := 17) rfl))) Via.refl e124 PF2 (g := (mkF m 85 #[.val (.ref a1), .val (.int p2), .val (.int (-1 : Int32))] [(.ref a1), (.ref b1)])) rfl rfl (hb hby d_prog_46_method_7_85)
  refine own_go st125 ?_
  show OwnGo p e below _ (T125.setTop (mkF m 88 #[.val (.ref a1), .val (.int p2), .val (.int (-1 : Int32))] [(.int s1), (.ref b1)]))
  refine own_go (fun _ k => XS.iloadN X125.here hx rfl (hb hby d_prog_46_method_7_88) rfl k) ?_
  show OwnGo p e below _ (T125.setTop (mkF m 89 #[.val (.ref a1), .val (.int p2), .val (.int (-1 : Int32))] [(.int p2), (.int s1), (.ref b1)]))
  obtain ⟨c126, Ar126, S126, M126, H126⟩ := (id PV1)
  have b126 : 0 ≤ (s1).toInt ∧ (s1).toInt < (z1).toInt := ⟨hs0, hlt⟩
  obtain ⟨T126, h126, X126, e126, W126, st126⟩ := stI X125 hx hZ e125 Ar126 (j := s1) (own_inbz S126 hz1 b126.1 b126.2) (g := (mkF m 89 #[.val (.ref a1), .val (.int p2), .val (.int (-1 : Int32))] [(.int p2), (.int s1), (.ref b1)])) rfl rfl (hb hby d_prog_46_method_7_89)
  have N126 := Fr.snoc X126 N120 ge2
  have O126 := O0.wr W126 ge2
  have z127 : h0.size ≤ h126.size := Nat.le_trans (Nat.le_refl _) (Nat.le_of_eq W126.size.symm)
  have V126 : IA Z h126 b1 (z1).toNatClampNeg (own_upd f1 (s1).toNatClampNeg p2) := IA.set Ar126 S126 M126 H126 W126
  refine own_go st126 ?_
  show OwnGo p e below _ (T126.setTop (mkF m 90 #[.val (.ref a1), .val (.int p2), .val (.int (-1 : Int32))] []))
  refine own_go (fun _ k => XS.aloadN X126.here hx rfl (hb hby d_prog_46_method_7_90) rfl rfl k) ?_
  show OwnGo p e below _ (T126.setTop (mkF m 91 #[.val (.ref a1), .val (.int p2), .val (.int (-1 : Int32))] [(.ref a1)]))
  refine own_go (fun _ k => XS.dup X126.here hx rfl (hb hby d_prog_46_method_7_91) rfl rfl k) ?_
  show OwnGo p e below _ (T126.setTop (mkF m 92 #[.val (.ref a1), .val (.int p2), .val (.int (-1 : Int32))] [(.ref a1), (.ref a1)]))
  have F128 := (PF2.other W126 (Or.inl nab))
  obtain ⟨T129, X129, e129, st129⟩ := getF X126 hx hZ hown (host := "") (Or.inl (hw _ (List.mem_of_getElem? (i := 17) rfl))) Via.refl e126 F128 (g := (mkF m 92 #[.val (.ref a1), .val (.int p2), .val (.int (-1 : Int32))] [(.ref a1), (.ref a1)])) rfl rfl (hb hby d_prog_46_method_7_92)
  refine own_go st129 ?_
  show OwnGo p e below _ (T129.setTop (mkF m 95 #[.val (.ref a1), .val (.int p2), .val (.int (-1 : Int32))] [(.int s1), (.ref a1)]))
  refine own_go (fun _ k => XS.iconst X129.here hx rfl (hb hby d_prog_46_method_7_95) k) ?_
  show OwnGo p e below _ (T129.setTop (mkF m 96 #[.val (.ref a1), .val (.int p2), .val (.int (-1 : Int32))] [(.int (1 : Int32)), (.int s1), (.ref a1)]))
  refine own_go (fun _ k => XS.iadd X129.here hx rfl (hb hby d_prog_46_method_7_96) rfl k) ?_
  show OwnGo p e below _ (T129.setTop (mkF m 97 #[.val (.ref a1), .val (.int p2), .val (.int (-1 : Int32))] [(.int (s1 + (1 : Int32))), (.ref a1)]))
  have F130 := (PE1.wr W126)
  obtain ⟨T131, h131, X131, e131, W131, st131⟩ := putF X129 hx hZ hown (host := "") (Or.inl (hw _ (List.mem_of_getElem? (i := 17) rfl))) Via.refl e129 F128 F130 (Or.inl (hw _ (List.mem_of_getElem? (i := 18) rfl))) (hw _ (List.mem_of_getElem? (i := 20) rfl)) (ty := .int) (by decide) rfl rfl (g := (mkF m 97 #[.val (.ref a1), .val (.int p2), .val (.int (-1 : Int32))] [(.int (s1 + (1 : Int32))), (.ref a1)])) rfl rfl (hb hby d_prog_46_method_7_97)
  have N131 := Fr.snoc X131 N126 ge1
  have O131 := O126.wr W131 ge1
  have z132 : h0.size ≤ h131.size := Nat.le_trans z127 (Nat.le_of_eq W131.size.symm)
  have F131 : Fld Z h131 a1 "com/example/reweave/reweave/control/Keys" "size" "I" (.int (s1 + (1 : Int32))) := F128.same W131
  refine own_go st131 ?_
  show OwnGo p e below _ (T131.setTop (mkF m 100 #[.val (.ref a1), .val (.int p2), .val (.int (-1 : Int32))] []))
  refine own_go (fun _ k => XS.aloadN X131.here hx rfl (hb hby d_prog_46_method_7_100) rfl rfl k) ?_
  show OwnGo p e below _ (T131.setTop (mkF m 101 #[.val (.ref a1), .val (.int p2), .val (.int (-1 : Int32))] [(.ref a1)]))
  have F133 := ((PF3.other W126 (Or.inl nab)).other W131 (Or.inr (slot_ne (a0 := a0) (C := "com/example/reweave/reweave/control/Keys") (Or.inl (hw _ (List.mem_of_getElem? (i := 35) rfl))) (Or.inl (hw _ (List.mem_of_getElem? (i := 18) rfl))) (by decide) (t := (.array .int)) (t' := .int) (by decide) (by decide))))
  obtain ⟨T134, X134, e134, st134⟩ := getF X131 hx hZ hown (host := "") (Or.inl (hw _ (List.mem_of_getElem? (i := 34) rfl))) Via.refl e131 F133 (g := (mkF m 101 #[.val (.ref a1), .val (.int p2), .val (.int (-1 : Int32))] [(.ref a1)])) rfl rfl (hb hby d_prog_46_method_7_101)
  refine own_go st134 ?_
  show OwnGo p e below _ (T134.setTop (mkF m 104 #[.val (.ref a1), .val (.int p2), .val (.int (-1 : Int32))] [.null]))
  refine own_go (fun _ k => XS.ifnullYes X134.here hx rfl (pc0 := 104) (pc' := 145) rfl (hb hby d_prog_46_method_7_104) rfl (by decide) (by decide) k) ?_
  show OwnGo p e below _ (T134.setTop (mkF m 145 #[.val (.ref a1), .val (.int p2), .val (.int (-1 : Int32))] []))
  refine own_go (fun _ k => XS.aloadN X134.here hx rfl (hb hby d_prog_46_method_7_145) rfl rfl k) ?_
  show OwnGo p e below _ (T134.setTop (mkF m 146 #[.val (.ref a1), .val (.int p2), .val (.int (-1 : Int32))] [(.ref a1)]))
  obtain ⟨T135, X135, e135, st135⟩ := getF X134 hx hZ hown (host := "") (Or.inl (hw _ (List.mem_of_getElem? (i := 17) rfl))) Via.refl e134 F131 (g := (mkF m 146 #[.val (.ref a1), .val (.int p2), .val (.int (-1 : Int32))] [(.ref a1)])) rfl rfl (hb hby d_prog_46_method_7_146)
  refine own_go st135 ?_
  show OwnGo p e below _ (T135.setTop (mkF m 149 #[.val (.ref a1), .val (.int p2), .val (.int (-1 : Int32))] [(.int (s1 + (1 : Int32)))]))
  refine own_go (fun _ k => XS.bipush X135.here hx rfl (hb hby d_prog_46_method_7_149) k) ?_
  show OwnGo p e below _ (T135.setTop (mkF m 151 #[.val (.ref a1), .val (.int p2), .val (.int (-1 : Int32))] [(.int (8 : Int32)), (.int (s1 + (1 : Int32)))]))
  refine own_go (fun _ k => XS.icmpYes X135.here hx rfl (pc0 := 151) (pc' := 160) rfl (hb hby d_prog_46_method_7_151) rfl (flt (own_geI (by rw [(own_succ hs0 (by omega)), (show (8 : Int32).toInt = 8 from by decide)]; omega))).2.2.2 (by decide) (by decide) k) ?_
  show OwnGo p e below _ (T135.setTop (mkF m 160 #[.val (.ref a1), .val (.int p2), .val (.int (-1 : Int32))] []))
  obtain ⟨fs, hr, hrun, hended, hW, hsame⟩ := X135.leave (v := none) (fun h => rfl)
  refine ⟨_, _, X135.returnOut hx Bd.returns (hb hby d_prog_46_method_7_160) hr, hrun, hended, _, _, rfl, ?_, ⟨_, rfl⟩, hW, hsame.mono (by decide) (by decide)⟩
  show Q_addNmiss Z aNONE a1 p2 b1 z1 f1 s1 h0 n0 _ T135.heap _
  rw [e135]
  have F136 := ((PF1.other W126 (Or.inl nab)).other W131 (Or.inr (slot_ne (a0 := a0) (C := "com/example/reweave/reweave/control/Keys") (Or.inl (hw _ (List.mem_of_getElem? (i := 28) rfl))) (Or.inl (hw _ (List.mem_of_getElem? (i := 18) rfl))) (by decide) (t := (.array .int)) (t' := .int) (by decide) (by decide))))
  have F137 := (V126.other W131 (Ne.symm nab))
  exact ⟨rfl, N131, (((Keep.refl _ [a1, b1]).wr W126 (Or.inl (List.mem_of_getElem? (i := 1) rfl))).wr W131 (Or.inl (List.mem_of_getElem? (i := 0) rfl))), F136, F131, F137, F133⟩
theorem d_prog_46_method_7_154 : decode prog_46_method_7_code 154 = .ok (.aload_n 0, 1) := by decide +kernel
theorem d_prog_46_method_7_155 : decode prog_46_method_7_code 155 = .ok (.bipush 32, 2) := by decide +kernel
theorem d_prog_46_method_7_157 : decode prog_46_method_7_code 157 = .ok (.invokevirtual 48, 3) := by decide +kernel
theorem pd_I__V : parseMethodDescriptor "(I)V" = some ⟨[.int], none⟩ := by decide +kernel
def Q_addNgrow (Z : State) (aNONE : Addr) (a1 : Addr) (p2 : Int32) (b1 : Addr) (z1 : Int32) (f1 : Nat → Int32) (s1 : Int32) (h0 : Heap) (n0 : Nat) (v : Option Value) (h : Heap) (L : List Loc) : Prop := ∃ (r9 : Addr) (g9 : Nat → Int32), v = none ∧ Fr n0 L ∧ Keep h0 h [a1, b1] ∧ Fld Z h a1 "com/example/reweave/reweave/control/Keys" "numbers" "[I" (.ref b1) ∧ Fld Z h a1 "com/example/reweave/reweave/control/Keys" "size" "I" (.int (s1 + (1 : Int32))) ∧ IA Z h b1 (z1).toNatClampNeg (own_upd f1 (s1).toNatClampNeg p2) ∧ Fld Z h a1 "com/example/reweave/reweave/control/Keys" "slots" "[I" (.ref r9) ∧ IA Z h r9 ((32 : Int32)).toNatClampNeg g9 ∧ OwnS (32 : Int32) g9 (s1 + (1 : Int32)) ∧ h0.size ≤ r9
theorem ef_addNgrow (m : MethodId) (x0 : Addr) (x1 : Int32) : entryFrame m #[(.ref x0), (.int x1)] 3 = mkF m 0 #[.val (.ref x0), .val (.int x1), .unset] [] := by first | (simp [entryFrame, mkF, argsToLocals, Value.category]; done) | rfl
set_option maxRecDepth 65536 in
set_option maxHeartbeats 40000000 in
theorem rm_addNgrow (l : Launch) (Z : State) (a0 : Array Value) (hw : ∀ d ∈ tables_1, d.before a0 Z = true) (ws : List Jvm.Cond) (aNONE : Addr) (F0 : OwnFacts Z aNONE) (a1 : Addr) (p2 : Int32) (b1 : Addr) (z1 : Int32) (f1 : Nat → Int32) (s1 : Int32) (h0 : Heap) (n0 : Nat) (O0 : Old Z n0 h0) (PE1 : Exa Z h0 a1 "com/example/reweave/reweave/control/Keys") (PF1 : Fld Z h0 a1 "com/example/reweave/reweave/control/Keys" "numbers" "[I" (.ref b1)) (PF2 : Fld Z h0 a1 "com/example/reweave/reweave/control/Keys" "size" "I" (.int s1)) (PV1 : IA Z h0 b1 (z1).toNatClampNeg f1) (ge1 : n0 ≤ a1) (ge2 : n0 ≤ b1) (nab : a1 ≠ b1) (hz1 : 0 ≤ z1.toInt) (hs0 : 0 ≤ (s1).toInt) (hsz : (s1).toInt ≤ z1.toInt) (hzz : z1.toInt < 1000) (PF3 : Fld Z h0 a1 "com/example/reweave/reweave/control/Keys" "slots" "[I" .null) (hfd : own_find f1 p2 (s1).toNatClampNeg (0 : Int32) = (0 : Int32)) (hlt : (s1).toInt < z1.toInt) (h8 : s1.toInt = 8) :
    MetFree l (⟨"com/example/reweave/reweave/control/Keys", "add", "(I)V"⟩ : MethodName) (head1 (Jvm.Cond.code (⟨"com/example/reweave/reweave/control/Keys", "add", "(I)V"⟩ : MethodName) prog_46_method_7_code 3 none :: ws) ({ frames := 2, cells := 1, slots := 32, locals := 30 } : Room)) (fun a U => a = #[(.ref a1), (.int p2)] ∧ Z.Warmed39 U.vm ∧ U.heap = h0) (fun _ _ _ _ _ => True) (fun _ U o U' => ∃ v L, o = .returned v ∧ Q_addNgrow Z aNONE a1 p2 b1 z1 f1 s1 h0 n0 v U'.heap L ∧ FrameEnd U o U' L ({ frames := 2, cells := 1, slots := 32, locals := 30 } : Room).cells ({ frames := 2, cells := 1, slots := 32, locals := 30 } : Room).slots) := by
  refine MetFree.of_bodySF (plainFor_of_name pn_com_example_reweave_reweave_control_Keys) hisR ?_
  intro p e s m args below meth c s₁ Bd hml0 hP hK
  obtain ⟨rfl, hZ, hh⟩ := hP
  have hx := Bd.exec
  have hby := Bd.bytes
  have hml : c.maxLocals = 3 := hml0
  have hown : s.vm.findClass "com/example/reweave/reweave/control/Keys" = some m.cls := findClass_of_methodNamed Bd.named
  have hnm := (name_of_methodNamed Bd.named Bd.method).1
  have X0 : Stand p l e ({ frames := 2, cells := 1, slots := 32, locals := 30 } : Room) s m #[(.ref a1), (.int p2)] below meth c s₁ [] 0 0 := Stand.of_body Bd
  have e0 : s₁.heap = h0 := by rw [← hh, Bd.state]; rfl
  have N0 := Fr.nil n0
  refine own_go (Q := fun o U' => ∃ v L, o = .returned v ∧ Q_addNgrow Z aNONE a1 p2 b1 z1 f1 s1 h0 n0 v U'.heap L ∧ FrameEnd s o U' L ({ frames := 2, cells := 1, slots := 32, locals := 30 } : Room).cells ({ frames := 2, cells := 1, slots := 32, locals := 30 } : Room).slots) (fun t k => castTop (ef_addNgrow m a1 p2) k) ?_
  show OwnGo p e below _ (s₁.setTop (mkF m 0 #[.val (.ref a1), .val (.int p2), .unset] []))
  refine own_go (fun _ k => XS.aloadN X0.here hx rfl (hb hby d_prog_46_method_7_0) rfl rfl k) ?_
  show OwnGo p e below _ (s₁.setTop (mkF m 1 #[.val (.ref a1), .val (.int p2), .unset] [(.ref a1)]))
  obtain ⟨T138, X138, e138, st138⟩ := getS X0 hx hZ hown (host := "") (hw _ (List.mem_of_getElem? (i := 6) rfl)) Via.refl e0 (F0.1.ext O0.2) (g := (mkF m 1 #[.val (.ref a1), .val (.int p2), .unset] [(.ref a1)])) rfl (hb hby d_prog_46_method_7_1)
  refine own_go st138 ?_
  show OwnGo p e below _ (T138.setTop (mkF m 4 #[.val (.ref a1), .val (.int p2), .unset] [(.ref aNONE), (.ref a1)]))
  refine own_go (fun _ k => acmp X138 hx rfl (cd := .ne) (o := 13) (x := (.ref a1)) (y := (.ref aNONE)) (pc0 := 4) (pc' := 17) rfl rfl rfl (hb hby d_prog_46_method_7_4) rfl (own_refne (Ne.symm (O0.ne F0.2.1.lt ge1))) (by decide) (by decide) k) ?_
  show OwnGo p e below _ (T138.setTop (mkF m 17 #[.val (.ref a1), .val (.int p2), .unset] []))
  refine own_go (fun _ k => XS.iconst X138.here hx rfl (hb hby d_prog_46_method_7_17) k) ?_
  show OwnGo p e below _ (T138.setTop (mkF m 18 #[.val (.ref a1), .val (.int p2), .unset] [(.int (-1 : Int32))]))
  refine own_go (fun _ k => XS.istoreN X138.here hx rfl (hb hby d_prog_46_method_7_18) rfl (l' := #[.val (.ref a1), .val (.int p2), .val (.int (-1 : Int32))]) rfl k) ?_
  show OwnGo p e below _ (T138.setTop (mkF m 19 #[.val (.ref a1), .val (.int p2), .val (.int (-1 : Int32))] []))
  refine own_go (fun _ k => XS.aloadN X138.here hx rfl (hb hby d_prog_46_method_7_19) rfl rfl k) ?_
  show OwnGo p e below _ (T138.setTop (mkF m 20 #[.val (.ref a1), .val (.int p2), .val (.int (-1 : Int32))] [(.ref a1)]))
  obtain ⟨T139, X139, e139, st139⟩ := getF X138 hx hZ hown (host := "") (Or.inl (hw _ (List.mem_of_getElem? (i := 34) rfl))) Via.refl e138 PF3 (g := (mkF m 20 #[.val (.ref a1), .val (.int p2), .val (.int (-1 : Int32))] [(.ref a1)])) rfl rfl (hb hby d_prog_46_method_7_20)
  refine own_go st139 ?_
  show OwnGo p e below _ (T139.setTop (mkF m 23 #[.val (.ref a1), .val (.int p2), .val (.int (-1 : Int32))] [.null]))
  refine own_go (fun _ k => XS.ifnullYes X139.here hx rfl (pc0 := 23) (pc' := 42) rfl (hb hby d_prog_46_method_7_23) rfl (by decide) (by decide) k) ?_
  show OwnGo p e below _ (T139.setTop (mkF m 42 #[.val (.ref a1), .val (.int p2), .val (.int (-1 : Int32))] []))
  refine own_go (fun _ k => XS.aloadN X139.here hx rfl (hb hby d_prog_46_method_7_42) rfl rfl k) ?_
  show OwnGo p e below _ (T139.setTop (mkF m 43 #[.val (.ref a1), .val (.int p2), .val (.int (-1 : Int32))] [(.ref a1)]))
  refine own_go (fun _ k => XS.iloadN X139.here hx rfl (hb hby d_prog_46_method_7_43) rfl k) ?_
  show OwnGo p e below _ (T139.setTop (mkF m 44 #[.val (.ref a1), .val (.int p2), .val (.int (-1 : Int32))] [(.int p2), (.ref a1)]))
  obtain ⟨cq140, kq140, qa140, qb140, qc140⟩ := isOf hZ e139 PE1
  obtain ⟨_, _, ⟨T140, L140, k140, n140⟩, -, X140, ⟨Lc140, hQ140, l140, y140, z140⟩, st140⟩ := X139.virtualBack hx (y := (⟨"com/example/reweave/reweave/control/Keys", "contains", "(I)Z"⟩ : MethodName)) (z := (⟨"com/example/reweave/reweave/control/Keys", "contains", "(I)Z"⟩ : MethodName)) hown (mvT hZ (hw _ (List.mem_of_getElem? (i := 36) rfl))) (mvT hZ (hw _ (List.mem_of_getElem? (i := 37) rfl))) (notFace_of_selects (args := #[]) (mvT hZ (hw _ (List.mem_of_getElem? (i := 39) rfl)))) (mvT hZ (hw _ (List.mem_of_getElem? (i := 39) rfl))) (mvT hZ (hw _ (List.mem_of_getElem? (i := 38) rfl))) (by decide) (backOf (W := 0) (rm_con l Z a0 hw [] aNONE F0 a1 p2 b1 z1 f1 s1 (0 : Int32) h0 n0 O0 PF1 PF3 PF2 PV1 hz1 hs0 hsz hzz hfd) hZ (hw _ (List.mem_of_getElem? (i := 40) rfl)) (hw _ (List.mem_of_getElem? (i := 4) rfl)) (by decide) (by decide)) qa140 qc140 (g := (mkF m 44 #[.val (.ref a1), .val (.int p2), .val (.int (-1 : Int32))] [(.int p2), (.ref a1)])) rfl (by rw [hml]; rfl) (Steps.refl _) (argsL := [(.int p2)]) (rest := []) (lenOf pd_I__Z rfl) rfl (by show 2 * 0 + _ ≤ _; exact Nat.le_of_eq rfl) (hb hby d_prog_46_method_7_44) (fun _ _ => ⟨rfl, e139, (by decide : 0 + 0 ≤ _), (by decide : 0 + 0 ≤ _)⟩)
  dsimp only [Pt.U, Pt.locs, Pt.cells, Pt.slots] at X140 l140 y140 z140 st140 hQ140
  subst l140 y140 z140
  obtain ⟨rfl, Nq140, K140⟩ := hQ140
  have N140 := Fr.app N0 Nq140
  refine own_go (fun _ k => st140.trans k) ?_
  show OwnGo p e below _ (T140.setTop (mkF m 47 #[.val (.ref a1), .val (.int p2), .val (.int (-1 : Int32))] [(.int (0 : Int32))]))
  refine own_go (fun _ k => XS.ifYes X140.here hx rfl (pc0 := 47) (pc' := 51) rfl (hb hby d_prog_46_method_7_47) rfl (by decide) (by decide) (by decide) k) ?_
  show OwnGo p e below _ (T140.setTop (mkF m 51 #[.val (.ref a1), .val (.int p2), .val (.int (-1 : Int32))] []))
  refine own_go (fun _ k => XS.aloadN X140.here hx rfl (hb hby d_prog_46_method_7_51) rfl rfl k) ?_
  show OwnGo p e below _ (T140.setTop (mkF m 52 #[.val (.ref a1), .val (.int p2), .val (.int (-1 : Int32))] [(.ref a1)]))
  obtain ⟨T141, X141, e141, st141⟩ := getF X140 hx hZ hown (host := "") (Or.inl (hw _ (List.mem_of_getElem? (i := 17) rfl))) Via.refl K140 PF2 (g := (mkF m 52 #[.val (.ref a1), .val (.int p2), .val (.int (-1 : Int32))] [(.ref a1)])) rfl rfl (hb hby d_prog_46_method_7_52)
  refine own_go st141 ?_
  show OwnGo p e below _ (T141.setTop (mkF m 55 #[.val (.ref a1), .val (.int p2), .val (.int (-1 : Int32))] [(.int s1)]))
  refine own_go (fun _ k => XS.aloadN X141.here hx rfl (hb hby d_prog_46_method_7_55) rfl rfl k) ?_
  show OwnGo p e below _ (T141.setTop (mkF m 56 #[.val (.ref a1), .val (.int p2), .val (.int (-1 : Int32))] [(.ref a1), (.int s1)]))
  obtain ⟨T142, X142, e142, st142⟩ := getF X141 hx hZ hown (host := "") (Or.inl (hw _ (List.mem_of_getElem? (i := 27) rfl))) Via.refl e141 PF1 (g := (mkF m 56 #[.val (.ref a1), .val (.int p2), .val (.int (-1 : Int32))] [(.ref a1), (.int s1)])) rfl rfl (hb hby d_prog_46_method_7_56)
  refine own_go st142 ?_
  show OwnGo p e below _ (T142.setTop (mkF m 59 #[.val (.ref a1), .val (.int p2), .val (.int (-1 : Int32))] [(.ref b1), (.int s1)]))
  obtain ⟨c143, Ar143, S143, M143, H143⟩ := (id PV1)
  refine own_go (fun _ k => X142.arraylength hx (cell := c143) (by rw [e142]; exact Ar143.1) (State.isArrayOf_alike hZ.alike Ar143.2.1) (g := (mkF m 59 #[.val (.ref a1), .val (.int p2), .val (.int (-1 : Int32))] [(.ref b1), (.int s1)])) rfl (rest := [(.int s1)]) rfl (hb hby d_prog_46_method_7_59) _ k) ?_
  rw [len_of S143 (own_nn hz1)]
  show OwnGo p e below _ (T142.setTop (mkF m 60 #[.val (.ref a1), .val (.int p2), .val (.int (-1 : Int32))] [(.int z1), (.int s1)]))
  refine own_go (fun _ k => XS.icmpYes X142.here hx rfl (pc0 := 60) (pc' := 80) rfl (hb hby d_prog_46_method_7_60) rfl (feq (own_neI (by omega))).2 (by decide) (by decide) k) ?_
  show OwnGo p e below _ (T142.setTop (mkF m 80 #[.val (.ref a1), .val (.int p2), .val (.int (-1 : Int32))] []))
  refine own_go (fun _ k => XS.aloadN X142.here hx rfl (hb hby d_prog_46_method_7_80) rfl rfl k) ?_
  show OwnGo p e below _ (T142.setTop (mkF m 81 #[.val (.ref a1), .val (.int p2), .val (.int (-1 : Int32))] [(.ref a1)]))
  obtain ⟨T144, X144, e144, st144⟩ := getF X142 hx hZ hown (host := "") (Or.inl (hw _ (List.mem_of_getElem? (i := 27) rfl))) Via.refl e142 PF1 (g := (mkF m 81 #[.val (.ref a1), .val (.int p2), .val (.int (-1 : Int32))] [(.ref a1)])) rfl rfl (hb hby d_prog_46_method_7_81)
  refine own_go st144 ?_
  show OwnGo p e below _ (T144.setTop (mkF m 84 #[.val (.ref a1), .val (.int p2), .val (.int (-1 : Int32))] [(.ref b1)]))
  refine own_go (fun _ k => XS.aloadN X144.here hx rfl (hb hby d_prog_46_method_7_84) rfl rfl k) ?_
  show OwnGo p e below _ (T144.setTop (mkF m 85 #[.val (.ref a1), .val (.int p2), .val (.int (-1 : Int32))] [(.ref a1), (.ref b1)]))
  obtain ⟨T145, X145, e145, st145⟩ := getF X144 hx hZ hown (host := "") (Or.inl (hw _ (List.mem_of_getElem? (i := 17) rfl))) Via.refl e144 PF2 (g := (mkF m 85 #[.val (.ref a1), .val (.int p2), .val (.int (-1 : Int32))] [(.ref a1), (.ref b1)])) rfl rfl (hb hby d_prog_46_method_7_85)
  refine own_go st145 ?_
  show OwnGo p e below _ (T145.setTop (mkF m 88 #[.val (.ref a1), .val (.int p2), .val (.int (-1 : Int32))] [(.int s1), (.ref b1)]))
  refine own_go (fun _ k => XS.iloadN X145.here hx rfl (hb hby d_prog_46_method_7_88) rfl k) ?_
  show OwnGo p e below _ (T145.setTop (mkF m 89 #[.val (.ref a1), .val (.int p2), .val (.int (-1 : Int32))] [(.int p2), (.int s1), (.ref b1)]))
  obtain ⟨c146, Ar146, S146, M146, H146⟩ := (id PV1)
  have b146 : 0 ≤ (s1).toInt ∧ (s1).toInt < (z1).toInt := ⟨hs0, hlt⟩
  obtain ⟨T146, h146, X146, e146, W146, st146⟩ := stI X145 hx hZ e145 Ar146 (j := s1) (own_inbz S146 hz1 b146.1 b146.2) (g := (mkF m 89 #[.val (.ref a1), .val (.int p2), .val (.int (-1 : Int32))] [(.int p2), (.int s1), (.ref b1)])) rfl rfl (hb hby d_prog_46_method_7_89)
  have N146 := Fr.snoc X146 N140 ge2
  have O146 := O0.wr W146 ge2
  have z147 : h0.size ≤ h146.size := Nat.le_trans (Nat.le_refl _) (Nat.le_of_eq W146.size.symm)
  have V146 : IA Z h146 b1 (z1).toNatClampNeg (own_upd f1 (s1).toNatClampNeg p2) := IA.set Ar146 S146 M146 H146 W146
  refine own_go st146 ?_
  show OwnGo p e below _ (T146.setTop (mkF m 90 #[.val (.ref a1), .val (.int p2), .val (.int (-1 : Int32))] []))
  refine own_go (fun _ k => XS.aloadN X146.here hx rfl (hb hby d_prog_46_method_7_90) rfl rfl k) ?_
  show OwnGo p e below _ (T146.setTop (mkF m 91 #[.val (.ref a1), .val (.int p2), .val (.int (-1 : Int32))] [(.ref a1)]))
  refine own_go (fun _ k => XS.dup X146.here hx rfl (hb hby d_prog_46_method_7_91) rfl rfl k) ?_
  show OwnGo p e below _ (T146.setTop (mkF m 92 #[.val (.ref a1), .val (.int p2), .val (.int (-1 : Int32))] [(.ref a1), (.ref a1)]))
  have F148 := (PF2.other W146 (Or.inl nab))
  obtain ⟨T149, X149, e149, st149⟩ := getF X146 hx hZ hown (host := "") (Or.inl (hw _ (List.mem_of_getElem? (i := 17) rfl))) Via.refl e146 F148 (g := (mkF m 92 #[.val (.ref a1), .val (.int p2), .val (.int (-1 : Int32))] [(.ref a1), (.ref a1)])) rfl rfl (hb hby d_prog_46_method_7_92)
  refine own_go st149 ?_
  show OwnGo p e below _ (T149.setTop (mkF m 95 #[.val (.ref a1), .val (.int p2), .val (.int (-1 : Int32))] [(.int s1), (.ref a1)]))
  refine own_go (fun _ k => XS.iconst X149.here hx rfl (hb hby d_prog_46_method_7_95) k) ?_
  show OwnGo p e below _ (T149.setTop (mkF m 96 #[.val (.ref a1), .val (.int p2), .val (.int (-1 : Int32))] [(.int (1 : Int32)), (.int s1), (.ref a1)]))
  refine own_go (fun _ k => XS.iadd X149.here hx rfl (hb hby d_prog_46_method_7_96) rfl k) ?_
  show OwnGo p e below _ (T149.setTop (mkF m 97 #[.val (.ref a1), .val (.int p2), .val (.int (-1 : Int32))] [(.int (s1 + (1 : Int32))), (.ref a1)]))
  have F150 := (PE1.wr W146)
  obtain ⟨T151, h151, X151, e151, W151, st151⟩ := putF X149 hx hZ hown (host := "") (Or.inl (hw _ (List.mem_of_getElem? (i := 17) rfl))) Via.refl e149 F148 F150 (Or.inl (hw _ (List.mem_of_getElem? (i := 18) rfl))) (hw _ (List.mem_of_getElem? (i := 20) rfl)) (ty := .int) (by decide) rfl rfl (g := (mkF m 97 #[.val (.ref a1), .val (.int p2), .val (.int (-1 : Int32))] [(.int (s1 + (1 : Int32))), (.ref a1)])) rfl rfl (hb hby d_prog_46_method_7_97)
  have N151 := Fr.snoc X151 N146 ge1
  have O151 := O146.wr W151 ge1
  have z152 : h0.size ≤ h151.size := Nat.le_trans z147 (Nat.le_of_eq W151.size.symm)
  have F151 : Fld Z h151 a1 "com/example/reweave/reweave/control/Keys" "size" "I" (.int (s1 + (1 : Int32))) := F148.same W151
  refine own_go st151 ?_
  show OwnGo p e below _ (T151.setTop (mkF m 100 #[.val (.ref a1), .val (.int p2), .val (.int (-1 : Int32))] []))
  refine own_go (fun _ k => XS.aloadN X151.here hx rfl (hb hby d_prog_46_method_7_100) rfl rfl k) ?_
  show OwnGo p e below _ (T151.setTop (mkF m 101 #[.val (.ref a1), .val (.int p2), .val (.int (-1 : Int32))] [(.ref a1)]))
  have F153 := ((PF3.other W146 (Or.inl nab)).other W151 (Or.inr (slot_ne (a0 := a0) (C := "com/example/reweave/reweave/control/Keys") (Or.inl (hw _ (List.mem_of_getElem? (i := 35) rfl))) (Or.inl (hw _ (List.mem_of_getElem? (i := 18) rfl))) (by decide) (t := (.array .int)) (t' := .int) (by decide) (by decide))))
  obtain ⟨T154, X154, e154, st154⟩ := getF X151 hx hZ hown (host := "") (Or.inl (hw _ (List.mem_of_getElem? (i := 34) rfl))) Via.refl e151 F153 (g := (mkF m 101 #[.val (.ref a1), .val (.int p2), .val (.int (-1 : Int32))] [(.ref a1)])) rfl rfl (hb hby d_prog_46_method_7_101)
  refine own_go st154 ?_
  show OwnGo p e below _ (T154.setTop (mkF m 104 #[.val (.ref a1), .val (.int p2), .val (.int (-1 : Int32))] [.null]))
  refine own_go (fun _ k => XS.ifnullYes X154.here hx rfl (pc0 := 104) (pc' := 145) rfl (hb hby d_prog_46_method_7_104) rfl (by decide) (by decide) k) ?_
  show OwnGo p e below _ (T154.setTop (mkF m 145 #[.val (.ref a1), .val (.int p2), .val (.int (-1 : Int32))] []))
  refine own_go (fun _ k => XS.aloadN X154.here hx rfl (hb hby d_prog_46_method_7_145) rfl rfl k) ?_
  show OwnGo p e below _ (T154.setTop (mkF m 146 #[.val (.ref a1), .val (.int p2), .val (.int (-1 : Int32))] [(.ref a1)]))
  obtain ⟨T155, X155, e155, st155⟩ := getF X154 hx hZ hown (host := "") (Or.inl (hw _ (List.mem_of_getElem? (i := 17) rfl))) Via.refl e154 F151 (g := (mkF m 146 #[.val (.ref a1), .val (.int p2), .val (.int (-1 : Int32))] [(.ref a1)])) rfl rfl (hb hby d_prog_46_method_7_146)
  refine own_go st155 ?_
  show OwnGo p e below _ (T155.setTop (mkF m 149 #[.val (.ref a1), .val (.int p2), .val (.int (-1 : Int32))] [(.int (s1 + (1 : Int32)))]))
  refine own_go (fun _ k => XS.bipush X155.here hx rfl (hb hby d_prog_46_method_7_149) k) ?_
  show OwnGo p e below _ (T155.setTop (mkF m 151 #[.val (.ref a1), .val (.int p2), .val (.int (-1 : Int32))] [(.int (8 : Int32)), (.int (s1 + (1 : Int32)))]))
  refine own_go (fun _ k => XS.icmpNo X155.here hx rfl (hb hby d_prog_46_method_7_151) rfl (tlt (own_ltI (by rw [(own_succ hs0 (by omega)), (show (8 : Int32).toInt = 8 from by decide)]; omega))).2.2.2 k) ?_
  show OwnGo p e below _ (T155.setTop (mkF m 154 #[.val (.ref a1), .val (.int p2), .val (.int (-1 : Int32))] []))
  refine own_go (fun _ k => XS.aloadN X155.here hx rfl (hb hby d_prog_46_method_7_154) rfl rfl k) ?_
  show OwnGo p e below _ (T155.setTop (mkF m 155 #[.val (.ref a1), .val (.int p2), .val (.int (-1 : Int32))] [(.ref a1)]))
  refine own_go (fun _ k => XS.bipush X155.here hx rfl (hb hby d_prog_46_method_7_155) k) ?_
  show OwnGo p e below _ (T155.setTop (mkF m 157 #[.val (.ref a1), .val (.int p2), .val (.int (-1 : Int32))] [(.int (32 : Int32)), (.ref a1)]))
  have F156 := (F150.wr W151)
  have F157 := ((PF1.other W146 (Or.inl nab)).other W151 (Or.inr (slot_ne (a0 := a0) (C := "com/example/reweave/reweave/control/Keys") (Or.inl (hw _ (List.mem_of_getElem? (i := 28) rfl))) (Or.inl (hw _ (List.mem_of_getElem? (i := 18) rfl))) (by decide) (t := (.array .int)) (t' := .int) (by decide) (by decide))))
  have F158 := (V146.other W151 (Ne.symm nab))
  obtain ⟨cl159, hcl159, hob159⟩ := F156.cell
  obtain ⟨_, _, ⟨T159, L159, k159, n159⟩, -, X159, ⟨Lc159, hQ159, l159, y159, z159⟩, st159⟩ := X155.privateBack hx (y := (⟨"com/example/reweave/reweave/control/Keys", "reslot", "(I)V"⟩ : MethodName)) hown (mvT hZ (hw _ (List.mem_of_getElem? (i := 41) rfl))) (mvT hZ (hw _ (List.mem_of_getElem? (i := 42) rfl))) (own_selp hZ (hw _ (List.mem_of_getElem? (i := 20) rfl)) (hw _ (List.mem_of_getElem? (i := 43) rfl)) (hw _ (List.mem_of_getElem? (i := 42) rfl)) (by decide)) (Cond.privateMethod_at (mvP hZ (hw _ (List.mem_of_getElem? (i := 43) rfl)) (args := #[]))) (mvT hZ (hw _ (List.mem_of_getElem? (i := 44) rfl))) (by decide) (backOf (W := 0) (rm_re32 l Z a0 hw [] aNONE F0 a1 b1 z1 (own_upd f1 (s1).toNatClampNeg p2) (s1 + (1 : Int32)) Value.null h151 n0 O151 F156 F157 F151 F153 F158 ge1 nab hz1 (by rw [(own_succ hs0 (by omega))]; omega) (by rw [(own_succ hs0 (by omega))]; omega) (by rw [(own_succ hs0 (by omega))]; omega)) hZ (hw _ (List.mem_of_getElem? (i := 44) rfl)) (hw _ (List.mem_of_getElem? (i := 4) rfl)) (by decide) (by decide)) (g := (mkF m 157 #[.val (.ref a1), .val (.int p2), .val (.int (-1 : Int32))] [(.int (32 : Int32)), (.ref a1)])) rfl (by rw [hml]; rfl) (Steps.refl _) (a := a1) (by rw [e155]; exact hcl159) hob159 (argsL := [(.int (32 : Int32))]) (rest := []) (lenOf pd_I__V rfl) rfl (by show 2 * 0 + _ ≤ _; exact Nat.le_of_eq rfl) (hb hby d_prog_46_method_7_157) (fun _ _ => ⟨rfl, e155, (by decide : 0 + 1 ≤ _), (by decide : 0 + 32 ≤ _)⟩)
  dsimp only [Pt.U, Pt.locs, Pt.cells, Pt.slots] at X159 l159 y159 z159 st159 hQ159
  subst l159 y159 z159
  obtain ⟨r9_159, g9_159, rfl, Nq159, K159, x159_0, x159_1, x159_2, x159_3, x159_4, x159_5⟩ := hQ159
  have N159 := Fr.app N151 Nq159
  have O159 := O151.keep K159 (allS ge1 all0)
  have e159 : T159.heap = T159.heap := rfl
  have z160 : h0.size ≤ T159.heap.size := Nat.le_trans z152 K159.1
  have gex159_5 : n0 ≤ r9_159 := Nat.le_trans (own_sz O151) x159_5
  have ghx159_5 : h0.size ≤ r9_159 := Nat.le_trans z152 x159_5
  have ne161 : a1 ≠ r9_159 := own_newlt F156.lt x159_5
  have ne162 : b1 ≠ r9_159 := own_newlt F158.lt x159_5
  refine own_go (fun _ k => st159.trans k) ?_
  show OwnGo p e below _ (T159.setTop (mkF m 160 #[.val (.ref a1), .val (.int p2), .val (.int (-1 : Int32))] []))
  obtain ⟨fs, hr, hrun, hended, hW, hsame⟩ := X159.leave (v := none) (fun h => rfl)
  refine ⟨_, _, X159.returnOut hx Bd.returns (hb hby d_prog_46_method_7_160) hr, hrun, hended, _, _, rfl, ?_, ⟨_, rfl⟩, hW, hsame.mono (by decide) (by decide)⟩
  show Q_addNgrow Z aNONE a1 p2 b1 z1 f1 s1 h0 n0 _ T159.heap _
  rw [e159]
  have F163 := (F158.keep K159 (ninS (Ne.symm nab) nin0))
  exact ⟨r9_159, g9_159, rfl, N159, ((((Keep.refl _ [a1, b1]).wr W146 (Or.inl (List.mem_of_getElem? (i := 1) rfl))).wr W151 (Or.inl (List.mem_of_getElem? (i := 0) rfl))).trans K159 (allS (P := fun x => x ∈ _ ∨ _ ≤ x) (Or.inl (List.mem_of_getElem? (i := 0) rfl)) all0)), x159_0, x159_1, F163, x159_2, x159_3, x159_4, ghx159_5⟩
theorem d_prog_46_method_7_26 : decode prog_46_method_7_code 26 = .ok (.aload_n 0, 1) := by decide +kernel
theorem d_prog_46_method_7_27 : decode prog_46_method_7_code 27 = .ok (.iload_n 1, 1) := by decide +kernel
theorem d_prog_46_method_7_28 : decode prog_46_method_7_code 28 = .ok (.invokevirtual 23, 3) := by decide +kernel
theorem d_prog_46_method_7_31 : decode prog_46_method_7_code 31 = .ok (.istore_n 2, 1) := by decide +kernel
theorem d_prog_46_method_7_32 : decode prog_46_method_7_code 32 = .ok (.aload_n 0, 1) := by decide +kernel
theorem d_prog_46_method_7_33 : decode prog_46_method_7_code 33 = .ok (.getfield 20, 3) := by decide +kernel
theorem d_prog_46_method_7_36 : decode prog_46_method_7_code 36 = .ok (.iload_n 2, 1) := by decide +kernel
theorem d_prog_46_method_7_37 : decode prog_46_method_7_code 37 = .ok (.iaload, 1) := by decide +kernel
theorem d_prog_46_method_7_38 : decode prog_46_method_7_code 38 = .ok (.ifCond .eq 13, 3) := by decide +kernel
theorem d_prog_46_method_7_41 : decode prog_46_method_7_code 41 = .ok (.return_, 1) := by decide +kernel
def Q_add32hit (Z : State) (aNONE : Addr) (a1 : Addr) (p2 : Int32) (b1 : Addr) (z1 : Int32) (f1 : Nat → Int32) (s1 : Int32) (b2 : Addr) (g1 : Nat → Int32) (h0 : Heap) (n0 : Nat) (v : Option Value) (h : Heap) (L : List Loc) : Prop := v = none ∧ Fr n0 L ∧ h = h0
theorem ef_add32hit (m : MethodId) (x0 : Addr) (x1 : Int32) : entryFrame m #[(.ref x0), (.int x1)] 3 = mkF m 0 #[.val (.ref x0), .val (.int x1), .unset] [] := by first | (simp [entryFrame, mkF, argsToLocals, Value.category]; done) | rfl
set_option maxRecDepth 65536 in
set_option maxHeartbeats 40000000 in
theorem rm_add32hit (l : Launch) (Z : State) (a0 : Array Value) (hw : ∀ d ∈ tables_1, d.before a0 Z = true) (ws : List Jvm.Cond) (aNONE : Addr) (F0 : OwnFacts Z aNONE) (a1 : Addr) (p2 : Int32) (b1 : Addr) (z1 : Int32) (f1 : Nat → Int32) (s1 : Int32) (b2 : Addr) (g1 : Nat → Int32) (h0 : Heap) (n0 : Nat) (O0 : Old Z n0 h0) (PE1 : Exa Z h0 a1 "com/example/reweave/reweave/control/Keys") (PF1 : Fld Z h0 a1 "com/example/reweave/reweave/control/Keys" "numbers" "[I" (.ref b1)) (PF2 : Fld Z h0 a1 "com/example/reweave/reweave/control/Keys" "size" "I" (.int s1)) (PV1 : IA Z h0 b1 (z1).toNatClampNeg f1) (ge1 : n0 ≤ a1) (ge2 : n0 ≤ b1) (nab : a1 ≠ b1) (hz1 : 0 ≤ z1.toInt) (hs0 : 0 ≤ (s1).toInt) (hsz : (s1).toInt ≤ z1.toInt) (hzz : z1.toInt < 1000) (PF3 : Fld Z h0 a1 "com/example/reweave/reweave/control/Keys" "slots" "[I" (.ref b2)) (PV2 : IA Z h0 b2 ((32 : Int32)).toNatClampNeg g1) (ge3 : n0 ≤ b2) (nac : a1 ≠ b2) (nbc : b1 ≠ b2) (hO : OwnS (32 : Int32) g1 s1) (hsS : s1.toInt < 32) (hq : ¬ (g1 ((own_probe g1 f1 p2 (31 : Int32) 32 (p2 &&& (31 : Int32)))).toNatClampNeg) = (0 : Int32)) :
    MetFree l (⟨"com/example/reweave/reweave/control/Keys", "add", "(I)V"⟩ : MethodName) (head1 (Jvm.Cond.code (⟨"com/example/reweave/reweave/control/Keys", "add", "(I)V"⟩ : MethodName) prog_46_method_7_code 3 none :: ws) ({ frames := 1, cells := 0, slots := 0, locals := 15 } : Room)) (fun a U => a = #[(.ref a1), (.int p2)] ∧ Z.Warmed39 U.vm ∧ U.heap = h0) (fun _ _ _ _ _ => True) (fun _ U o U' => ∃ v L, o = .returned v ∧ Q_add32hit Z aNONE a1 p2 b1 z1 f1 s1 b2 g1 h0 n0 v U'.heap L ∧ FrameEnd U o U' L ({ frames := 1, cells := 0, slots := 0, locals := 15 } : Room).cells ({ frames := 1, cells := 0, slots := 0, locals := 15 } : Room).slots) := by
  refine MetFree.of_bodySF (plainFor_of_name pn_com_example_reweave_reweave_control_Keys) hisR ?_
  intro p e s m args below meth c s₁ Bd hml0 hP hK
  obtain ⟨rfl, hZ, hh⟩ := hP
  have hx := Bd.exec
  have hby := Bd.bytes
  have hml : c.maxLocals = 3 := hml0
  have hown : s.vm.findClass "com/example/reweave/reweave/control/Keys" = some m.cls := findClass_of_methodNamed Bd.named
  have hnm := (name_of_methodNamed Bd.named Bd.method).1
  have X0 : Stand p l e ({ frames := 1, cells := 0, slots := 0, locals := 15 } : Room) s m #[(.ref a1), (.int p2)] below meth c s₁ [] 0 0 := Stand.of_body Bd
  have e0 : s₁.heap = h0 := by rw [← hh, Bd.state]; rfl
  have N0 := Fr.nil n0
  refine own_go (Q := fun o U' => ∃ v L, o = .returned v ∧ Q_add32hit Z aNONE a1 p2 b1 z1 f1 s1 b2 g1 h0 n0 v U'.heap L ∧ FrameEnd s o U' L ({ frames := 1, cells := 0, slots := 0, locals := 15 } : Room).cells ({ frames := 1, cells := 0, slots := 0, locals := 15 } : Room).slots) (fun t k => castTop (ef_add32hit m a1 p2) k) ?_
  show OwnGo p e below _ (s₁.setTop (mkF m 0 #[.val (.ref a1), .val (.int p2), .unset] []))
  refine own_go (fun _ k => XS.aloadN X0.here hx rfl (hb hby d_prog_46_method_7_0) rfl rfl k) ?_
  show OwnGo p e below _ (s₁.setTop (mkF m 1 #[.val (.ref a1), .val (.int p2), .unset] [(.ref a1)]))
  obtain ⟨T164, X164, e164, st164⟩ := getS X0 hx hZ hown (host := "") (hw _ (List.mem_of_getElem? (i := 6) rfl)) Via.refl e0 (F0.1.ext O0.2) (g := (mkF m 1 #[.val (.ref a1), .val (.int p2), .unset] [(.ref a1)])) rfl (hb hby d_prog_46_method_7_1)
  refine own_go st164 ?_
  show OwnGo p e below _ (T164.setTop (mkF m 4 #[.val (.ref a1), .val (.int p2), .unset] [(.ref aNONE), (.ref a1)]))
  refine own_go (fun _ k => acmp X164 hx rfl (cd := .ne) (o := 13) (x := (.ref a1)) (y := (.ref aNONE)) (pc0 := 4) (pc' := 17) rfl rfl rfl (hb hby d_prog_46_method_7_4) rfl (own_refne (Ne.symm (O0.ne F0.2.1.lt ge1))) (by decide) (by decide) k) ?_
  show OwnGo p e below _ (T164.setTop (mkF m 17 #[.val (.ref a1), .val (.int p2), .unset] []))
  refine own_go (fun _ k => XS.iconst X164.here hx rfl (hb hby d_prog_46_method_7_17) k) ?_
  show OwnGo p e below _ (T164.setTop (mkF m 18 #[.val (.ref a1), .val (.int p2), .unset] [(.int (-1 : Int32))]))
  refine own_go (fun _ k => XS.istoreN X164.here hx rfl (hb hby d_prog_46_method_7_18) rfl (l' := #[.val (.ref a1), .val (.int p2), .val (.int (-1 : Int32))]) rfl k) ?_
  show OwnGo p e below _ (T164.setTop (mkF m 19 #[.val (.ref a1), .val (.int p2), .val (.int (-1 : Int32))] []))
  refine own_go (fun _ k => XS.aloadN X164.here hx rfl (hb hby d_prog_46_method_7_19) rfl rfl k) ?_
  show OwnGo p e below _ (T164.setTop (mkF m 20 #[.val (.ref a1), .val (.int p2), .val (.int (-1 : Int32))] [(.ref a1)]))
  obtain ⟨T165, X165, e165, st165⟩ := getF X164 hx hZ hown (host := "") (Or.inl (hw _ (List.mem_of_getElem? (i := 34) rfl))) Via.refl e164 PF3 (g := (mkF m 20 #[.val (.ref a1), .val (.int p2), .val (.int (-1 : Int32))] [(.ref a1)])) rfl rfl (hb hby d_prog_46_method_7_20)
  refine own_go st165 ?_
  show OwnGo p e below _ (T165.setTop (mkF m 23 #[.val (.ref a1), .val (.int p2), .val (.int (-1 : Int32))] [(.ref b2)]))
  refine own_go (fun _ k => XS.ifnullNo X165.here hx rfl (hb hby d_prog_46_method_7_23) rfl k) ?_
  show OwnGo p e below _ (T165.setTop (mkF m 26 #[.val (.ref a1), .val (.int p2), .val (.int (-1 : Int32))] []))
  refine own_go (fun _ k => XS.aloadN X165.here hx rfl (hb hby d_prog_46_method_7_26) rfl rfl k) ?_
  show OwnGo p e below _ (T165.setTop (mkF m 27 #[.val (.ref a1), .val (.int p2), .val (.int (-1 : Int32))] [(.ref a1)]))
  refine own_go (fun _ k => XS.iloadN X165.here hx rfl (hb hby d_prog_46_method_7_27) rfl k) ?_
  show OwnGo p e below _ (T165.setTop (mkF m 28 #[.val (.ref a1), .val (.int p2), .val (.int (-1 : Int32))] [(.int p2), (.ref a1)]))
  obtain ⟨cl166, hcl166, hob166⟩ := PE1.cell
  obtain ⟨_, _, ⟨T166, L166, k166, n166⟩, -, X166, ⟨Lc166, hQ166, l166, y166, z166⟩, st166⟩ := X165.privateBack hx (y := (⟨"com/example/reweave/reweave/control/Keys", "slotOf", "(I)I"⟩ : MethodName)) hown (mvT hZ (hw _ (List.mem_of_getElem? (i := 45) rfl))) (mvT hZ (hw _ (List.mem_of_getElem? (i := 46) rfl))) (own_selp hZ (hw _ (List.mem_of_getElem? (i := 20) rfl)) (hw _ (List.mem_of_getElem? (i := 47) rfl)) (hw _ (List.mem_of_getElem? (i := 46) rfl)) (by decide)) (Cond.privateMethod_at (mvP hZ (hw _ (List.mem_of_getElem? (i := 47) rfl)) (args := #[]))) (mvT hZ (hw _ (List.mem_of_getElem? (i := 48) rfl))) (by decide) (backOf (W := 0) (rm_slot32 l Z a0 hw [] aNONE F0 a1 p2 b1 b2 z1 f1 g1 (own_probe g1 f1 p2 (31 : Int32) 32 (p2 &&& (31 : Int32))) h0 n0 O0 PF1 PF3 PV1 PV2 hz1 (fun j hj => ⟨(hO.1 j (by rw [own_n32]; exact hj)).1, Int.le_trans (hO.1 j (by rw [own_n32]; exact hj)).2 hsz⟩) (by have q := OwnS.free hO hs0 (by rw [(show (32 : Int32).toInt = 32 from by decide)]; omega); rw [own_n32] at q; exact q) rfl) hZ (hw _ (List.mem_of_getElem? (i := 48) rfl)) (hw _ (List.mem_of_getElem? (i := 4) rfl)) (by decide) (by decide)) (g := (mkF m 28 #[.val (.ref a1), .val (.int p2), .val (.int (-1 : Int32))] [(.int p2), (.ref a1)])) rfl (by rw [hml]; rfl) (Steps.refl _) (a := a1) (by rw [e165]; exact hcl166) hob166 (argsL := [(.int p2)]) (rest := []) (lenOf pd_I__I rfl) rfl (by show 2 * 0 + _ ≤ _; exact Nat.le_of_eq rfl) (hb hby d_prog_46_method_7_28) (fun _ _ => ⟨rfl, e165, (by decide : 0 + 0 ≤ _), (by decide : 0 + 0 ≤ _)⟩)
  dsimp only [Pt.U, Pt.locs, Pt.cells, Pt.slots] at X166 l166 y166 z166 st166 hQ166
  subst l166 y166 z166
  obtain ⟨rfl, Nq166, K166⟩ := hQ166
  have N166 := Fr.app N0 Nq166
  refine own_go (fun _ k => st166.trans k) ?_
  show OwnGo p e below _ (T166.setTop (mkF m 31 #[.val (.ref a1), .val (.int p2), .val (.int (-1 : Int32))] [(.int (own_probe g1 f1 p2 (31 : Int32) 32 (p2 &&& (31 : Int32))))]))
  refine own_go (fun _ k => XS.istoreN X166.here hx rfl (hb hby d_prog_46_method_7_31) rfl (l' := #[.val (.ref a1), .val (.int p2), .val (.int (own_probe g1 f1 p2 (31 : Int32) 32 (p2 &&& (31 : Int32))))]) rfl k) ?_
  show OwnGo p e below _ (T166.setTop (mkF m 32 #[.val (.ref a1), .val (.int p2), .val (.int (own_probe g1 f1 p2 (31 : Int32) 32 (p2 &&& (31 : Int32))))] []))
  refine own_go (fun _ k => XS.aloadN X166.here hx rfl (hb hby d_prog_46_method_7_32) rfl rfl k) ?_
  show OwnGo p e below _ (T166.setTop (mkF m 33 #[.val (.ref a1), .val (.int p2), .val (.int (own_probe g1 f1 p2 (31 : Int32) 32 (p2 &&& (31 : Int32))))] [(.ref a1)]))
  obtain ⟨T167, X167, e167, st167⟩ := getF X166 hx hZ hown (host := "") (Or.inl (hw _ (List.mem_of_getElem? (i := 34) rfl))) Via.refl K166 PF3 (g := (mkF m 33 #[.val (.ref a1), .val (.int p2), .val (.int (own_probe g1 f1 p2 (31 : Int32) 32 (p2 &&& (31 : Int32))))] [(.ref a1)])) rfl rfl (hb hby d_prog_46_method_7_33)
  refine own_go st167 ?_
  show OwnGo p e below _ (T167.setTop (mkF m 36 #[.val (.ref a1), .val (.int p2), .val (.int (own_probe g1 f1 p2 (31 : Int32) 32 (p2 &&& (31 : Int32))))] [(.ref b2)]))
  refine own_go (fun _ k => XS.iloadN X167.here hx rfl (hb hby d_prog_46_method_7_36) rfl k) ?_
  show OwnGo p e below _ (T167.setTop (mkF m 37 #[.val (.ref a1), .val (.int p2), .val (.int (own_probe g1 f1 p2 (31 : Int32) 32 (p2 &&& (31 : Int32))))] [(.int (own_probe g1 f1 p2 (31 : Int32) 32 (p2 &&& (31 : Int32)))), (.ref b2)]))
  obtain ⟨c168, Ar168, S168, M168, H168⟩ := (id PV2)
  have b168 : 0 ≤ ((own_probe g1 f1 p2 (31 : Int32) 32 (p2 &&& (31 : Int32)))).toInt ∧ ((own_probe g1 f1 p2 (31 : Int32) 32 (p2 &&& (31 : Int32)))).toInt < ((32 : Int32)).toInt := ⟨(own_probe_rng (k := 5) (by decide) (by decide) 32 _ (own_and_rng _ (31 : Int32) (k := 5) (by decide) (by decide)).1 (own_and_rng _ (31 : Int32) (k := 5) (by decide) (by decide)).2).1, (by rw [(show (32 : Int32).toInt = 32 from by decide)]; exact (own_probe_rng (k := 5) (by decide) (by decide) 32 _ (own_and_rng _ (31 : Int32) (k := 5) (by decide) (by decide)).1 (own_and_rng _ (31 : Int32) (k := 5) (by decide) (by decide)).2).2)⟩
  refine own_go (fun _ k => X167.iaload hx (j := (own_probe g1 f1 p2 (31 : Int32) 32 (p2 &&& (31 : Int32)))) (v := (.int (g1 ((own_probe g1 f1 p2 (31 : Int32) 32 (p2 &&& (31 : Int32)))).toNatClampNeg))) (by rw [e167]; exact Ar168.1) (State.isArrayOf_alike hZ.alike Ar168.2.1) Ar168.2.2 (own_inbz S168 (by decide) b168.1 b168.2) (IA.atz H168 (by decide) b168.1 b168.2) (g := (mkF m 37 #[.val (.ref a1), .val (.int p2), .val (.int (own_probe g1 f1 p2 (31 : Int32) 32 (p2 &&& (31 : Int32))))] [(.int (own_probe g1 f1 p2 (31 : Int32) 32 (p2 &&& (31 : Int32)))), (.ref b2)])) rfl rfl (hb hby d_prog_46_method_7_37) _ k) ?_
  show OwnGo p e below _ (T167.setTop (mkF m 38 #[.val (.ref a1), .val (.int p2), .val (.int (own_probe g1 f1 p2 (31 : Int32) 32 (p2 &&& (31 : Int32))))] [(.int (g1 ((own_probe g1 f1 p2 (31 : Int32) 32 (p2 &&& (31 : Int32)))).toNatClampNeg))]))
  refine own_go (fun _ k => XS.ifNo X167.here hx rfl (hb hby d_prog_46_method_7_38) rfl ((if0 _ _).trans (feq hq).1) k) ?_
  show OwnGo p e below _ (T167.setTop (mkF m 41 #[.val (.ref a1), .val (.int p2), .val (.int (own_probe g1 f1 p2 (31 : Int32) 32 (p2 &&& (31 : Int32))))] []))
  obtain ⟨fs, hr, hrun, hended, hW, hsame⟩ := X167.leave (v := none) (fun h => rfl)
  refine ⟨_, _, X167.returnOut hx Bd.returns (hb hby d_prog_46_method_7_41) hr, hrun, hended, _, _, rfl, ?_, ⟨_, rfl⟩, hW, hsame.mono (by decide) (by decide)⟩
  show Q_add32hit Z aNONE a1 p2 b1 z1 f1 s1 b2 g1 h0 n0 _ T167.heap _
  rw [e167]
  exact ⟨rfl, N166, rfl⟩
theorem d_prog_46_method_7_107 : decode prog_46_method_7_code 107 = .ok (.aload_n 0, 1) := by decide +kernel
theorem d_prog_46_method_7_108 : decode prog_46_method_7_code 108 = .ok (.getfield 20, 3) := by decide +kernel
theorem d_prog_46_method_7_111 : decode prog_46_method_7_code 111 = .ok (.iload_n 2, 1) := by decide +kernel
theorem d_prog_46_method_7_112 : decode prog_46_method_7_code 112 = .ok (.aload_n 0, 1) := by decide +kernel
theorem d_prog_46_method_7_113 : decode prog_46_method_7_code 113 = .ok (.getfield 16, 3) := by decide +kernel
theorem d_prog_46_method_7_116 : decode prog_46_method_7_code 116 = .ok (.iastore, 1) := by decide +kernel
theorem d_prog_46_method_7_117 : decode prog_46_method_7_code 117 = .ok (.iconst 2, 1) := by decide +kernel
theorem d_prog_46_method_7_118 : decode prog_46_method_7_code 118 = .ok (.aload_n 0, 1) := by decide +kernel
theorem d_prog_46_method_7_119 : decode prog_46_method_7_code 119 = .ok (.getfield 16, 3) := by decide +kernel
theorem d_prog_46_method_7_122 : decode prog_46_method_7_code 122 = .ok (.imul, 1) := by decide +kernel
theorem d_prog_46_method_7_123 : decode prog_46_method_7_code 123 = .ok (.aload_n 0, 1) := by decide +kernel
theorem d_prog_46_method_7_124 : decode prog_46_method_7_code 124 = .ok (.getfield 20, 3) := by decide +kernel
theorem d_prog_46_method_7_127 : decode prog_46_method_7_code 127 = .ok (.arraylength, 1) := by decide +kernel
theorem d_prog_46_method_7_128 : decode prog_46_method_7_code 128 = .ok (.if_icmp .le 32, 3) := by decide +kernel
def Q_add32miss (Z : State) (aNONE : Addr) (a1 : Addr) (p2 : Int32) (b1 : Addr) (z1 : Int32) (f1 : Nat → Int32) (s1 : Int32) (b2 : Addr) (g1 : Nat → Int32) (h0 : Heap) (n0 : Nat) (v : Option Value) (h : Heap) (L : List Loc) : Prop := v = none ∧ Fr n0 L ∧ Keep h0 h [a1, b1, b2] ∧ Fld Z h a1 "com/example/reweave/reweave/control/Keys" "numbers" "[I" (.ref b1) ∧ Fld Z h a1 "com/example/reweave/reweave/control/Keys" "size" "I" (.int (s1 + (1 : Int32))) ∧ IA Z h b1 (z1).toNatClampNeg (own_upd f1 (s1).toNatClampNeg p2) ∧ Fld Z h a1 "com/example/reweave/reweave/control/Keys" "slots" "[I" (.ref b2) ∧ IA Z h b2 ((32 : Int32)).toNatClampNeg (own_upd g1 ((own_probe g1 f1 p2 (31 : Int32) 32 (p2 &&& (31 : Int32)))).toNatClampNeg (s1 + (1 : Int32))) ∧ OwnS (32 : Int32) (own_upd g1 ((own_probe g1 f1 p2 (31 : Int32) 32 (p2 &&& (31 : Int32)))).toNatClampNeg (s1 + (1 : Int32))) (s1 + (1 : Int32))
theorem ef_add32miss (m : MethodId) (x0 : Addr) (x1 : Int32) : entryFrame m #[(.ref x0), (.int x1)] 3 = mkF m 0 #[.val (.ref x0), .val (.int x1), .unset] [] := by first | (simp [entryFrame, mkF, argsToLocals, Value.category]; done) | rfl
set_option maxRecDepth 65536 in
set_option maxHeartbeats 40000000 in
theorem rm_add32miss (l : Launch) (Z : State) (a0 : Array Value) (hw : ∀ d ∈ tables_1, d.before a0 Z = true) (ws : List Jvm.Cond) (aNONE : Addr) (F0 : OwnFacts Z aNONE) (a1 : Addr) (p2 : Int32) (b1 : Addr) (z1 : Int32) (f1 : Nat → Int32) (s1 : Int32) (b2 : Addr) (g1 : Nat → Int32) (h0 : Heap) (n0 : Nat) (O0 : Old Z n0 h0) (PE1 : Exa Z h0 a1 "com/example/reweave/reweave/control/Keys") (PF1 : Fld Z h0 a1 "com/example/reweave/reweave/control/Keys" "numbers" "[I" (.ref b1)) (PF2 : Fld Z h0 a1 "com/example/reweave/reweave/control/Keys" "size" "I" (.int s1)) (PV1 : IA Z h0 b1 (z1).toNatClampNeg f1) (ge1 : n0 ≤ a1) (ge2 : n0 ≤ b1) (nab : a1 ≠ b1) (hz1 : 0 ≤ z1.toInt) (hs0 : 0 ≤ (s1).toInt) (hsz : (s1).toInt ≤ z1.toInt) (hzz : z1.toInt < 1000) (PF3 : Fld Z h0 a1 "com/example/reweave/reweave/control/Keys" "slots" "[I" (.ref b2)) (PV2 : IA Z h0 b2 ((32 : Int32)).toNatClampNeg g1) (ge3 : n0 ≤ b2) (nac : a1 ≠ b2) (nbc : b1 ≠ b2) (hO : OwnS (32 : Int32) g1 s1) (hsS : s1.toInt < 32) (hq : (g1 ((own_probe g1 f1 p2 (31 : Int32) 32 (p2 &&& (31 : Int32)))).toNatClampNeg) = (0 : Int32)) (hlt : (s1).toInt < z1.toInt) (h2 : 2 * (s1.toInt + 1) ≤ 32) :
    MetFree l (⟨"com/example/reweave/reweave/control/Keys", "add", "(I)V"⟩ : MethodName) (head1 (Jvm.Cond.code (⟨"com/example/reweave/reweave/control/Keys", "add", "(I)V"⟩ : MethodName) prog_46_method_7_code 3 none :: ws) ({ frames := 1, cells := 0, slots := 0, locals := 15 } : Room)) (fun a U => a = #[(.ref a1), (.int p2)] ∧ Z.Warmed39 U.vm ∧ U.heap = h0) (fun _ _ _ _ _ => True) (fun _ U o U' => ∃ v L, o = .returned v ∧ Q_add32miss Z aNONE a1 p2 b1 z1 f1 s1 b2 g1 h0 n0 v U'.heap L ∧ FrameEnd U o U' L ({ frames := 1, cells := 0, slots := 0, locals := 15 } : Room).cells ({ frames := 1, cells := 0, slots := 0, locals := 15 } : Room).slots) := by
  refine MetFree.of_bodySF (plainFor_of_name pn_com_example_reweave_reweave_control_Keys) hisR ?_
  intro p e s m args below meth c s₁ Bd hml0 hP hK
  obtain ⟨rfl, hZ, hh⟩ := hP
  have hx := Bd.exec
  have hby := Bd.bytes
  have hml : c.maxLocals = 3 := hml0
  have hown : s.vm.findClass "com/example/reweave/reweave/control/Keys" = some m.cls := findClass_of_methodNamed Bd.named
  have hnm := (name_of_methodNamed Bd.named Bd.method).1
  have X0 : Stand p l e ({ frames := 1, cells := 0, slots := 0, locals := 15 } : Room) s m #[(.ref a1), (.int p2)] below meth c s₁ [] 0 0 := Stand.of_body Bd
  have e0 : s₁.heap = h0 := by rw [← hh, Bd.state]; rfl
  have N0 := Fr.nil n0
  refine own_go (Q := fun o U' => ∃ v L, o = .returned v ∧ Q_add32miss Z aNONE a1 p2 b1 z1 f1 s1 b2 g1 h0 n0 v U'.heap L ∧ FrameEnd s o U' L ({ frames := 1, cells := 0, slots := 0, locals := 15 } : Room).cells ({ frames := 1, cells := 0, slots := 0, locals := 15 } : Room).slots) (fun t k => castTop (ef_add32miss m a1 p2) k) ?_
  show OwnGo p e below _ (s₁.setTop (mkF m 0 #[.val (.ref a1), .val (.int p2), .unset] []))
  refine own_go (fun _ k => XS.aloadN X0.here hx rfl (hb hby d_prog_46_method_7_0) rfl rfl k) ?_
  show OwnGo p e below _ (s₁.setTop (mkF m 1 #[.val (.ref a1), .val (.int p2), .unset] [(.ref a1)]))
  obtain ⟨T169, X169, e169, st169⟩ := getS X0 hx hZ hown (host := "") (hw _ (List.mem_of_getElem? (i := 6) rfl)) Via.refl e0 (F0.1.ext O0.2) (g := (mkF m 1 #[.val (.ref a1), .val (.int p2), .unset] [(.ref a1)])) rfl (hb hby d_prog_46_method_7_1)
  refine own_go st169 ?_
  show OwnGo p e below _ (T169.setTop (mkF m 4 #[.val (.ref a1), .val (.int p2), .unset] [(.ref aNONE), (.ref a1)]))
  refine own_go (fun _ k => acmp X169 hx rfl (cd := .ne) (o := 13) (x := (.ref a1)) (y := (.ref aNONE)) (pc0 := 4) (pc' := 17) rfl rfl rfl (hb hby d_prog_46_method_7_4) rfl (own_refne (Ne.symm (O0.ne F0.2.1.lt ge1))) (by decide) (by decide) k) ?_
  show OwnGo p e below _ (T169.setTop (mkF m 17 #[.val (.ref a1), .val (.int p2), .unset] []))
  refine own_go (fun _ k => XS.iconst X169.here hx rfl (hb hby d_prog_46_method_7_17) k) ?_
  show OwnGo p e below _ (T169.setTop (mkF m 18 #[.val (.ref a1), .val (.int p2), .unset] [(.int (-1 : Int32))]))
  refine own_go (fun _ k => XS.istoreN X169.here hx rfl (hb hby d_prog_46_method_7_18) rfl (l' := #[.val (.ref a1), .val (.int p2), .val (.int (-1 : Int32))]) rfl k) ?_
  show OwnGo p e below _ (T169.setTop (mkF m 19 #[.val (.ref a1), .val (.int p2), .val (.int (-1 : Int32))] []))
  refine own_go (fun _ k => XS.aloadN X169.here hx rfl (hb hby d_prog_46_method_7_19) rfl rfl k) ?_
  show OwnGo p e below _ (T169.setTop (mkF m 20 #[.val (.ref a1), .val (.int p2), .val (.int (-1 : Int32))] [(.ref a1)]))
  obtain ⟨T170, X170, e170, st170⟩ := getF X169 hx hZ hown (host := "") (Or.inl (hw _ (List.mem_of_getElem? (i := 34) rfl))) Via.refl e169 PF3 (g := (mkF m 20 #[.val (.ref a1), .val (.int p2), .val (.int (-1 : Int32))] [(.ref a1)])) rfl rfl (hb hby d_prog_46_method_7_20)
  refine own_go st170 ?_
  show OwnGo p e below _ (T170.setTop (mkF m 23 #[.val (.ref a1), .val (.int p2), .val (.int (-1 : Int32))] [(.ref b2)]))
  refine own_go (fun _ k => XS.ifnullNo X170.here hx rfl (hb hby d_prog_46_method_7_23) rfl k) ?_
  show OwnGo p e below _ (T170.setTop (mkF m 26 #[.val (.ref a1), .val (.int p2), .val (.int (-1 : Int32))] []))
  refine own_go (fun _ k => XS.aloadN X170.here hx rfl (hb hby d_prog_46_method_7_26) rfl rfl k) ?_
  show OwnGo p e below _ (T170.setTop (mkF m 27 #[.val (.ref a1), .val (.int p2), .val (.int (-1 : Int32))] [(.ref a1)]))
  refine own_go (fun _ k => XS.iloadN X170.here hx rfl (hb hby d_prog_46_method_7_27) rfl k) ?_
  show OwnGo p e below _ (T170.setTop (mkF m 28 #[.val (.ref a1), .val (.int p2), .val (.int (-1 : Int32))] [(.int p2), (.ref a1)]))
  obtain ⟨cl171, hcl171, hob171⟩ := PE1.cell
  obtain ⟨_, _, ⟨T171, L171, k171, n171⟩, -, X171, ⟨Lc171, hQ171, l171, y171, z171⟩, st171⟩ := X170.privateBack hx (y := (⟨"com/example/reweave/reweave/control/Keys", "slotOf", "(I)I"⟩ : MethodName)) hown (mvT hZ (hw _ (List.mem_of_getElem? (i := 45) rfl))) (mvT hZ (hw _ (List.mem_of_getElem? (i := 46) rfl))) (own_selp hZ (hw _ (List.mem_of_getElem? (i := 20) rfl)) (hw _ (List.mem_of_getElem? (i := 47) rfl)) (hw _ (List.mem_of_getElem? (i := 46) rfl)) (by decide)) (Cond.privateMethod_at (mvP hZ (hw _ (List.mem_of_getElem? (i := 47) rfl)) (args := #[]))) (mvT hZ (hw _ (List.mem_of_getElem? (i := 48) rfl))) (by decide) (backOf (W := 0) (rm_slot32 l Z a0 hw [] aNONE F0 a1 p2 b1 b2 z1 f1 g1 (own_probe g1 f1 p2 (31 : Int32) 32 (p2 &&& (31 : Int32))) h0 n0 O0 PF1 PF3 PV1 PV2 hz1 (fun j hj => ⟨(hO.1 j (by rw [own_n32]; exact hj)).1, Int.le_trans (hO.1 j (by rw [own_n32]; exact hj)).2 hsz⟩) (by have q := OwnS.free hO hs0 (by rw [(show (32 : Int32).toInt = 32 from by decide)]; omega); rw [own_n32] at q; exact q) rfl) hZ (hw _ (List.mem_of_getElem? (i := 48) rfl)) (hw _ (List.mem_of_getElem? (i := 4) rfl)) (by decide) (by decide)) (g := (mkF m 28 #[.val (.ref a1), .val (.int p2), .val (.int (-1 : Int32))] [(.int p2), (.ref a1)])) rfl (by rw [hml]; rfl) (Steps.refl _) (a := a1) (by rw [e170]; exact hcl171) hob171 (argsL := [(.int p2)]) (rest := []) (lenOf pd_I__I rfl) rfl (by show 2 * 0 + _ ≤ _; exact Nat.le_of_eq rfl) (hb hby d_prog_46_method_7_28) (fun _ _ => ⟨rfl, e170, (by decide : 0 + 0 ≤ _), (by decide : 0 + 0 ≤ _)⟩)
  dsimp only [Pt.U, Pt.locs, Pt.cells, Pt.slots] at X171 l171 y171 z171 st171 hQ171
  subst l171 y171 z171
  obtain ⟨rfl, Nq171, K171⟩ := hQ171
  have N171 := Fr.app N0 Nq171
  refine own_go (fun _ k => st171.trans k) ?_
  show OwnGo p e below _ (T171.setTop (mkF m 31 #[.val (.ref a1), .val (.int p2), .val (.int (-1 : Int32))] [(.int (own_probe g1 f1 p2 (31 : Int32) 32 (p2 &&& (31 : Int32))))]))
  refine own_go (fun _ k => XS.istoreN X171.here hx rfl (hb hby d_prog_46_method_7_31) rfl (l' := #[.val (.ref a1), .val (.int p2), .val (.int (own_probe g1 f1 p2 (31 : Int32) 32 (p2 &&& (31 : Int32))))]) rfl k) ?_
  show OwnGo p e below _ (T171.setTop (mkF m 32 #[.val (.ref a1), .val (.int p2), .val (.int (own_probe g1 f1 p2 (31 : Int32) 32 (p2 &&& (31 : Int32))))] []))
  refine own_go (fun _ k => XS.aloadN X171.here hx rfl (hb hby d_prog_46_method_7_32) rfl rfl k) ?_
  show OwnGo p e below _ (T171.setTop (mkF m 33 #[.val (.ref a1), .val (.int p2), .val (.int (own_probe g1 f1 p2 (31 : Int32) 32 (p2 &&& (31 : Int32))))] [(.ref a1)]))
  obtain ⟨T172, X172, e172, st172⟩ := getF X171 hx hZ hown (host := "") (Or.inl (hw _ (List.mem_of_getElem? (i := 34) rfl))) Via.refl K171 PF3 (g := (mkF m 33 #[.val (.ref a1), .val (.int p2), .val (.int (own_probe g1 f1 p2 (31 : Int32) 32 (p2 &&& (31 : Int32))))] [(.ref a1)])) rfl rfl (hb hby d_prog_46_method_7_33)
  refine own_go st172 ?_
  show OwnGo p e below _ (T172.setTop (mkF m 36 #[.val (.ref a1), .val (.int p2), .val (.int (own_probe g1 f1 p2 (31 : Int32) 32 (p2 &&& (31 : Int32))))] [(.ref b2)]))
  refine own_go (fun _ k => XS.iloadN X172.here hx rfl (hb hby d_prog_46_method_7_36) rfl k) ?_
  show OwnGo p e below _ (T172.setTop (mkF m 37 #[.val (.ref a1), .val (.int p2), .val (.int (own_probe g1 f1 p2 (31 : Int32) 32 (p2 &&& (31 : Int32))))] [(.int (own_probe g1 f1 p2 (31 : Int32) 32 (p2 &&& (31 : Int32)))), (.ref b2)]))
  obtain ⟨c173, Ar173, S173, M173, H173⟩ := (id PV2)
  have b173 : 0 ≤ ((own_probe g1 f1 p2 (31 : Int32) 32 (p2 &&& (31 : Int32)))).toInt ∧ ((own_probe g1 f1 p2 (31 : Int32) 32 (p2 &&& (31 : Int32)))).toInt < ((32 : Int32)).toInt := ⟨(own_probe_rng (k := 5) (by decide) (by decide) 32 _ (own_and_rng _ (31 : Int32) (k := 5) (by decide) (by decide)).1 (own_and_rng _ (31 : Int32) (k := 5) (by decide) (by decide)).2).1, (by rw [(show (32 : Int32).toInt = 32 from by decide)]; exact (own_probe_rng (k := 5) (by decide) (by decide) 32 _ (own_and_rng _ (31 : Int32) (k := 5) (by decide) (by decide)).1 (own_and_rng _ (31 : Int32) (k := 5) (by decide) (by decide)).2).2)⟩
  refine own_go (fun _ k => X172.iaload hx (j := (own_probe g1 f1 p2 (31 : Int32) 32 (p2 &&& (31 : Int32)))) (v := (.int (g1 ((own_probe g1 f1 p2 (31 : Int32) 32 (p2 &&& (31 : Int32)))).toNatClampNeg))) (by rw [e172]; exact Ar173.1) (State.isArrayOf_alike hZ.alike Ar173.2.1) Ar173.2.2 (own_inbz S173 (by decide) b173.1 b173.2) (IA.atz H173 (by decide) b173.1 b173.2) (g := (mkF m 37 #[.val (.ref a1), .val (.int p2), .val (.int (own_probe g1 f1 p2 (31 : Int32) 32 (p2 &&& (31 : Int32))))] [(.int (own_probe g1 f1 p2 (31 : Int32) 32 (p2 &&& (31 : Int32)))), (.ref b2)])) rfl rfl (hb hby d_prog_46_method_7_37) _ k) ?_
  show OwnGo p e below _ (T172.setTop (mkF m 38 #[.val (.ref a1), .val (.int p2), .val (.int (own_probe g1 f1 p2 (31 : Int32) 32 (p2 &&& (31 : Int32))))] [(.int (g1 ((own_probe g1 f1 p2 (31 : Int32) 32 (p2 &&& (31 : Int32)))).toNatClampNeg))]))
  refine own_go (fun _ k => XS.ifYes X172.here hx rfl (pc0 := 38) (pc' := 51) rfl (hb hby d_prog_46_method_7_38) rfl ((if0 _ _).trans (teq hq).1) (by decide) (by decide) k) ?_
  show OwnGo p e below _ (T172.setTop (mkF m 51 #[.val (.ref a1), .val (.int p2), .val (.int (own_probe g1 f1 p2 (31 : Int32) 32 (p2 &&& (31 : Int32))))] []))
  refine own_go (fun _ k => XS.aloadN X172.here hx rfl (hb hby d_prog_46_method_7_51) rfl rfl k) ?_
  show OwnGo p e below _ (T172.setTop (mkF m 52 #[.val (.ref a1), .val (.int p2), .val (.int (own_probe g1 f1 p2 (31 : Int32) 32 (p2 &&& (31 : Int32))))] [(.ref a1)]))
  obtain ⟨T174, X174, e174, st174⟩ := getF X172 hx hZ hown (host := "") (Or.inl (hw _ (List.mem_of_getElem? (i := 17) rfl))) Via.refl e172 PF2 (g := (mkF m 52 #[.val (.ref a1), .val (.int p2), .val (.int (own_probe g1 f1 p2 (31 : Int32) 32 (p2 &&& (31 : Int32))))] [(.ref a1)])) rfl rfl (hb hby d_prog_46_method_7_52)
  refine own_go st174 ?_
  show OwnGo p e below _ (T174.setTop (mkF m 55 #[.val (.ref a1), .val (.int p2), .val (.int (own_probe g1 f1 p2 (31 : Int32) 32 (p2 &&& (31 : Int32))))] [(.int s1)]))
  refine own_go (fun _ k => XS.aloadN X174.here hx rfl (hb hby d_prog_46_method_7_55) rfl rfl k) ?_
  show OwnGo p e below _ (T174.setTop (mkF m 56 #[.val (.ref a1), .val (.int p2), .val (.int (own_probe g1 f1 p2 (31 : Int32) 32 (p2 &&& (31 : Int32))))] [(.ref a1), (.int s1)]))
  obtain ⟨T175, X175, e175, st175⟩ := getF X174 hx hZ hown (host := "") (Or.inl (hw _ (List.mem_of_getElem? (i := 27) rfl))) Via.refl e174 PF1 (g := (mkF m 56 #[.val (.ref a1), .val (.int p2), .val (.int (own_probe g1 f1 p2 (31 : Int32) 32 (p2 &&& (31 : Int32))))] [(.ref a1), (.int s1)])) rfl rfl (hb hby d_prog_46_method_7_56)
  refine own_go st175 ?_
  show OwnGo p e below _ (T175.setTop (mkF m 59 #[.val (.ref a1), .val (.int p2), .val (.int (own_probe g1 f1 p2 (31 : Int32) 32 (p2 &&& (31 : Int32))))] [(.ref b1), (.int s1)]))
  obtain ⟨c176, Ar176, S176, M176, H176⟩ := (id PV1)
  refine own_go (fun _ k => X175.arraylength hx (cell := c176) (by rw [e175]; exact Ar176.1) (State.isArrayOf_alike hZ.alike Ar176.2.1) (g := (mkF m 59 #[.val (.ref a1), .val (.int p2), .val (.int (own_probe g1 f1 p2 (31 : Int32) 32 (p2 &&& (31 : Int32))))] [(.ref b1), (.int s1)])) rfl (rest := [(.int s1)]) rfl (hb hby d_prog_46_method_7_59) _ k) ?_
  rw [len_of S176 (own_nn hz1)]
  show OwnGo p e below _ (T175.setTop (mkF m 60 #[.val (.ref a1), .val (.int p2), .val (.int (own_probe g1 f1 p2 (31 : Int32) 32 (p2 &&& (31 : Int32))))] [(.int z1), (.int s1)]))
  refine own_go (fun _ k => XS.icmpYes X175.here hx rfl (pc0 := 60) (pc' := 80) rfl (hb hby d_prog_46_method_7_60) rfl (feq (own_neI (by omega))).2 (by decide) (by decide) k) ?_
  show OwnGo p e below _ (T175.setTop (mkF m 80 #[.val (.ref a1), .val (.int p2), .val (.int (own_probe g1 f1 p2 (31 : Int32) 32 (p2 &&& (31 : Int32))))] []))
  refine own_go (fun _ k => XS.aloadN X175.here hx rfl (hb hby d_prog_46_method_7_80) rfl rfl k) ?_
  show OwnGo p e below _ (T175.setTop (mkF m 81 #[.val (.ref a1), .val (.int p2), .val (.int (own_probe g1 f1 p2 (31 : Int32) 32 (p2 &&& (31 : Int32))))] [(.ref a1)]))
  obtain ⟨T177, X177, e177, st177⟩ := getF X175 hx hZ hown (host := "") (Or.inl (hw _ (List.mem_of_getElem? (i := 27) rfl))) Via.refl e175 PF1 (g := (mkF m 81 #[.val (.ref a1), .val (.int p2), .val (.int (own_probe g1 f1 p2 (31 : Int32) 32 (p2 &&& (31 : Int32))))] [(.ref a1)])) rfl rfl (hb hby d_prog_46_method_7_81)
  refine own_go st177 ?_
  show OwnGo p e below _ (T177.setTop (mkF m 84 #[.val (.ref a1), .val (.int p2), .val (.int (own_probe g1 f1 p2 (31 : Int32) 32 (p2 &&& (31 : Int32))))] [(.ref b1)]))
  refine own_go (fun _ k => XS.aloadN X177.here hx rfl (hb hby d_prog_46_method_7_84) rfl rfl k) ?_
  show OwnGo p e below _ (T177.setTop (mkF m 85 #[.val (.ref a1), .val (.int p2), .val (.int (own_probe g1 f1 p2 (31 : Int32) 32 (p2 &&& (31 : Int32))))] [(.ref a1), (.ref b1)]))
  obtain ⟨T178, X178, e178, st178⟩ := getF X177 hx hZ hown (host := "") (Or.inl (hw _ (List.mem_of_getElem? (i := 17) rfl))) Via.refl e177 PF2 (g := (mkF m 85 #[.val (.ref a1), .val (.int p2), .val (.int (own_probe g1 f1 p2 (31 : Int32) 32 (p2 &&& (31 : Int32))))] [(.ref a1), (.ref b1)])) rfl rfl (hb hby d_prog_46_method_7_85)
  refine own_go st178 ?_
  show OwnGo p e below _ (T178.setTop (mkF m 88 #[.val (.ref a1), .val (.int p2), .val (.int (own_probe g1 f1 p2 (31 : Int32) 32 (p2 &&& (31 : Int32))))] [(.int s1), (.ref b1)]))
  refine own_go (fun _ k => XS.iloadN X178.here hx rfl (hb hby d_prog_46_method_7_88) rfl k) ?_
  show OwnGo p e below _ (T178.setTop (mkF m 89 #[.val (.ref a1), .val (.int p2), .val (.int (own_probe g1 f1 p2 (31 : Int32) 32 (p2 &&& (31 : Int32))))] [(.int p2), (.int s1), (.ref b1)]))
  obtain ⟨c179, Ar179, S179, M179, H179⟩ := (id PV1)
  have b179 : 0 ≤ (s1).toInt ∧ (s1).toInt < (z1).toInt := ⟨hs0, hlt⟩
  obtain ⟨T179, h179, X179, e179, W179, st179⟩ := stI X178 hx hZ e178 Ar179 (j := s1) (own_inbz S179 hz1 b179.1 b179.2) (g := (mkF m 89 #[.val (.ref a1), .val (.int p2), .val (.int (own_probe g1 f1 p2 (31 : Int32) 32 (p2 &&& (31 : Int32))))] [(.int p2), (.int s1), (.ref b1)])) rfl rfl (hb hby d_prog_46_method_7_89)
  have N179 := Fr.snoc X179 N171 ge2
  have O179 := O0.wr W179 ge2
  have z180 : h0.size ≤ h179.size := Nat.le_trans (Nat.le_refl _) (Nat.le_of_eq W179.size.symm)
  have V179 : IA Z h179 b1 (z1).toNatClampNeg (own_upd f1 (s1).toNatClampNeg p2) := IA.set Ar179 S179 M179 H179 W179
  refine own_go st179 ?_
  show OwnGo p e below _ (T179.setTop (mkF m 90 #[.val (.ref a1), .val (.int p2), .val (.int (own_probe g1 f1 p2 (31 : Int32) 32 (p2 &&& (31 : Int32))))] []))
  refine own_go (fun _ k => XS.aloadN X179.here hx rfl (hb hby d_prog_46_method_7_90) rfl rfl k) ?_
  show OwnGo p e below _ (T179.setTop (mkF m 91 #[.val (.ref a1), .val (.int p2), .val (.int (own_probe g1 f1 p2 (31 : Int32) 32 (p2 &&& (31 : Int32))))] [(.ref a1)]))
  refine own_go (fun _ k => XS.dup X179.here hx rfl (hb hby d_prog_46_method_7_91) rfl rfl k) ?_
  show OwnGo p e below _ (T179.setTop (mkF m 92 #[.val (.ref a1), .val (.int p2), .val (.int (own_probe g1 f1 p2 (31 : Int32) 32 (p2 &&& (31 : Int32))))] [(.ref a1), (.ref a1)]))
  have F181 := (PF2.other W179 (Or.inl nab))
  obtain ⟨T182, X182, e182, st182⟩ := getF X179 hx hZ hown (host := "") (Or.inl (hw _ (List.mem_of_getElem? (i := 17) rfl))) Via.refl e179 F181 (g := (mkF m 92 #[.val (.ref a1), .val (.int p2), .val (.int (own_probe g1 f1 p2 (31 : Int32) 32 (p2 &&& (31 : Int32))))] [(.ref a1), (.ref a1)])) rfl rfl (hb hby d_prog_46_method_7_92)
  refine own_go st182 ?_
  show OwnGo p e below _ (T182.setTop (mkF m 95 #[.val (.ref a1), .val (.int p2), .val (.int (own_probe g1 f1 p2 (31 : Int32) 32 (p2 &&& (31 : Int32))))] [(.int s1), (.ref a1)]))
  refine own_go (fun _ k => XS.iconst X182.here hx rfl (hb hby d_prog_46_method_7_95) k) ?_
  show OwnGo p e below _ (T182.setTop (mkF m 96 #[.val (.ref a1), .val (.int p2), .val (.int (own_probe g1 f1 p2 (31 : Int32) 32 (p2 &&& (31 : Int32))))] [(.int (1 : Int32)), (.int s1), (.ref a1)]))
  refine own_go (fun _ k => XS.iadd X182.here hx rfl (hb hby d_prog_46_method_7_96) rfl k) ?_
  show OwnGo p e below _ (T182.setTop (mkF m 97 #[.val (.ref a1), .val (.int p2), .val (.int (own_probe g1 f1 p2 (31 : Int32) 32 (p2 &&& (31 : Int32))))] [(.int (s1 + (1 : Int32))), (.ref a1)]))
  have F183 := (PE1.wr W179)
  obtain ⟨T184, h184, X184, e184, W184, st184⟩ := putF X182 hx hZ hown (host := "") (Or.inl (hw _ (List.mem_of_getElem? (i := 17) rfl))) Via.refl e182 F181 F183 (Or.inl (hw _ (List.mem_of_getElem? (i := 18) rfl))) (hw _ (List.mem_of_getElem? (i := 20) rfl)) (ty := .int) (by decide) rfl rfl (g := (mkF m 97 #[.val (.ref a1), .val (.int p2), .val (.int (own_probe g1 f1 p2 (31 : Int32) 32 (p2 &&& (31 : Int32))))] [(.int (s1 + (1 : Int32))), (.ref a1)])) rfl rfl (hb hby d_prog_46_method_7_97)
  have N184 := Fr.snoc X184 N179 ge1
  have O184 := O179.wr W184 ge1
  have z185 : h0.size ≤ h184.size := Nat.le_trans z180 (Nat.le_of_eq W184.size.symm)
  have F184 : Fld Z h184 a1 "com/example/reweave/reweave/control/Keys" "size" "I" (.int (s1 + (1 : Int32))) := F181.same W184
  refine own_go st184 ?_
  show OwnGo p e below _ (T184.setTop (mkF m 100 #[.val (.ref a1), .val (.int p2), .val (.int (own_probe g1 f1 p2 (31 : Int32) 32 (p2 &&& (31 : Int32))))] []))
  refine own_go (fun _ k => XS.aloadN X184.here hx rfl (hb hby d_prog_46_method_7_100) rfl rfl k) ?_
  show OwnGo p e below _ (T184.setTop (mkF m 101 #[.val (.ref a1), .val (.int p2), .val (.int (own_probe g1 f1 p2 (31 : Int32) 32 (p2 &&& (31 : Int32))))] [(.ref a1)]))
  have F186 := ((PF3.other W179 (Or.inl nab)).other W184 (Or.inr (slot_ne (a0 := a0) (C := "com/example/reweave/reweave/control/Keys") (Or.inl (hw _ (List.mem_of_getElem? (i := 35) rfl))) (Or.inl (hw _ (List.mem_of_getElem? (i := 18) rfl))) (by decide) (t := (.array .int)) (t' := .int) (by decide) (by decide))))
  obtain ⟨T187, X187, e187, st187⟩ := getF X184 hx hZ hown (host := "") (Or.inl (hw _ (List.mem_of_getElem? (i := 34) rfl))) Via.refl e184 F186 (g := (mkF m 101 #[.val (.ref a1), .val (.int p2), .val (.int (own_probe g1 f1 p2 (31 : Int32) 32 (p2 &&& (31 : Int32))))] [(.ref a1)])) rfl rfl (hb hby d_prog_46_method_7_101)
  refine own_go st187 ?_
  show OwnGo p e below _ (T187.setTop (mkF m 104 #[.val (.ref a1), .val (.int p2), .val (.int (own_probe g1 f1 p2 (31 : Int32) 32 (p2 &&& (31 : Int32))))] [(.ref b2)]))
  refine own_go (fun _ k => XS.ifnullNo X187.here hx rfl (hb hby d_prog_46_method_7_104) rfl k) ?_
  show OwnGo p e below _ (T187.setTop (mkF m 107 #[.val (.ref a1), .val (.int p2), .val (.int (own_probe g1 f1 p2 (31 : Int32) 32 (p2 &&& (31 : Int32))))] []))
  refine own_go (fun _ k => XS.aloadN X187.here hx rfl (hb hby d_prog_46_method_7_107) rfl rfl k) ?_
  show OwnGo p e below _ (T187.setTop (mkF m 108 #[.val (.ref a1), .val (.int p2), .val (.int (own_probe g1 f1 p2 (31 : Int32) 32 (p2 &&& (31 : Int32))))] [(.ref a1)]))
  obtain ⟨T188, X188, e188, st188⟩ := getF X187 hx hZ hown (host := "") (Or.inl (hw _ (List.mem_of_getElem? (i := 34) rfl))) Via.refl e187 F186 (g := (mkF m 108 #[.val (.ref a1), .val (.int p2), .val (.int (own_probe g1 f1 p2 (31 : Int32) 32 (p2 &&& (31 : Int32))))] [(.ref a1)])) rfl rfl (hb hby d_prog_46_method_7_108)
  refine own_go st188 ?_
  show OwnGo p e below _ (T188.setTop (mkF m 111 #[.val (.ref a1), .val (.int p2), .val (.int (own_probe g1 f1 p2 (31 : Int32) 32 (p2 &&& (31 : Int32))))] [(.ref b2)]))
  refine own_go (fun _ k => XS.iloadN X188.here hx rfl (hb hby d_prog_46_method_7_111) rfl k) ?_
  show OwnGo p e below _ (T188.setTop (mkF m 112 #[.val (.ref a1), .val (.int p2), .val (.int (own_probe g1 f1 p2 (31 : Int32) 32 (p2 &&& (31 : Int32))))] [(.int (own_probe g1 f1 p2 (31 : Int32) 32 (p2 &&& (31 : Int32)))), (.ref b2)]))
  refine own_go (fun _ k => XS.aloadN X188.here hx rfl (hb hby d_prog_46_method_7_112) rfl rfl k) ?_
  show OwnGo p e below _ (T188.setTop (mkF m 113 #[.val (.ref a1), .val (.int p2), .val (.int (own_probe g1 f1 p2 (31 : Int32) 32 (p2 &&& (31 : Int32))))] [(.ref a1), (.int (own_probe g1 f1 p2 (31 : Int32) 32 (p2 &&& (31 : Int32)))), (.ref b2)]))
  obtain ⟨T189, X189, e189, st189⟩ := getF X188 hx hZ hown (host := "") (Or.inl (hw _ (List.mem_of_getElem? (i := 17) rfl))) Via.refl e188 F184 (g := (mkF m 113 #[.val (.ref a1), .val (.int p2), .val (.int (own_probe g1 f1 p2 (31 : Int32) 32 (p2 &&& (31 : Int32))))] [(.ref a1), (.int (own_probe g1 f1 p2 (31 : Int32) 32 (p2 &&& (31 : Int32)))), (.ref b2)])) rfl rfl (hb hby d_prog_46_method_7_113)
  refine own_go st189 ?_
  show OwnGo p e below _ (T189.setTop (mkF m 116 #[.val (.ref a1), .val (.int p2), .val (.int (own_probe g1 f1 p2 (31 : Int32) 32 (p2 &&& (31 : Int32))))] [(.int (s1 + (1 : Int32))), (.int (own_probe g1 f1 p2 (31 : Int32) 32 (p2 &&& (31 : Int32)))), (.ref b2)]))
  have F190 := ((PV2.other W179 (Ne.symm nbc)).other W184 (Ne.symm nac))
  obtain ⟨c191, Ar191, S191, M191, H191⟩ := (id F190)
  have b191 : 0 ≤ ((own_probe g1 f1 p2 (31 : Int32) 32 (p2 &&& (31 : Int32)))).toInt ∧ ((own_probe g1 f1 p2 (31 : Int32) 32 (p2 &&& (31 : Int32)))).toInt < ((32 : Int32)).toInt := ⟨(own_probe_rng (k := 5) (by decide) (by decide) 32 _ (own_and_rng _ (31 : Int32) (k := 5) (by decide) (by decide)).1 (own_and_rng _ (31 : Int32) (k := 5) (by decide) (by decide)).2).1, (by rw [(show (32 : Int32).toInt = 32 from by decide)]; exact (own_probe_rng (k := 5) (by decide) (by decide) 32 _ (own_and_rng _ (31 : Int32) (k := 5) (by decide) (by decide)).1 (own_and_rng _ (31 : Int32) (k := 5) (by decide) (by decide)).2).2)⟩
  obtain ⟨T191, h191, X191, e191, W191, st191⟩ := stI X189 hx hZ e189 Ar191 (j := (own_probe g1 f1 p2 (31 : Int32) 32 (p2 &&& (31 : Int32)))) (own_inbz S191 (by decide) b191.1 b191.2) (g := (mkF m 116 #[.val (.ref a1), .val (.int p2), .val (.int (own_probe g1 f1 p2 (31 : Int32) 32 (p2 &&& (31 : Int32))))] [(.int (s1 + (1 : Int32))), (.int (own_probe g1 f1 p2 (31 : Int32) 32 (p2 &&& (31 : Int32)))), (.ref b2)])) rfl rfl (hb hby d_prog_46_method_7_116)
  have N191 := Fr.snoc X191 N184 ge3
  have O191 := O184.wr W191 ge3
  have z192 : h0.size ≤ h191.size := Nat.le_trans z185 (Nat.le_of_eq W191.size.symm)
  have V191 : IA Z h191 b2 ((32 : Int32)).toNatClampNeg (own_upd g1 ((own_probe g1 f1 p2 (31 : Int32) 32 (p2 &&& (31 : Int32)))).toNatClampNeg (s1 + (1 : Int32))) := IA.set Ar191 S191 M191 H191 W191
  refine own_go st191 ?_
  show OwnGo p e below _ (T191.setTop (mkF m 117 #[.val (.ref a1), .val (.int p2), .val (.int (own_probe g1 f1 p2 (31 : Int32) 32 (p2 &&& (31 : Int32))))] []))
  refine own_go (fun _ k => XS.iconst X191.here hx rfl (hb hby d_prog_46_method_7_117) k) ?_
  show OwnGo p e below _ (T191.setTop (mkF m 118 #[.val (.ref a1), .val (.int p2), .val (.int (own_probe g1 f1 p2 (31 : Int32) 32 (p2 &&& (31 : Int32))))] [(.int (2 : Int32))]))
  refine own_go (fun _ k => XS.aloadN X191.here hx rfl (hb hby d_prog_46_method_7_118) rfl rfl k) ?_
  show OwnGo p e below _ (T191.setTop (mkF m 119 #[.val (.ref a1), .val (.int p2), .val (.int (own_probe g1 f1 p2 (31 : Int32) 32 (p2 &&& (31 : Int32))))] [(.ref a1), (.int (2 : Int32))]))
  have F193 := (F184.other W191 (Or.inl nac))
  obtain ⟨T194, X194, e194, st194⟩ := getF X191 hx hZ hown (host := "") (Or.inl (hw _ (List.mem_of_getElem? (i := 17) rfl))) Via.refl e191 F193 (g := (mkF m 119 #[.val (.ref a1), .val (.int p2), .val (.int (own_probe g1 f1 p2 (31 : Int32) 32 (p2 &&& (31 : Int32))))] [(.ref a1), (.int (2 : Int32))])) rfl rfl (hb hby d_prog_46_method_7_119)
  refine own_go st194 ?_
  show OwnGo p e below _ (T194.setTop (mkF m 122 #[.val (.ref a1), .val (.int p2), .val (.int (own_probe g1 f1 p2 (31 : Int32) 32 (p2 &&& (31 : Int32))))] [(.int (s1 + (1 : Int32))), (.int (2 : Int32))]))
  refine own_go (fun _ k => XS.imul X194.here hx rfl (hb hby d_prog_46_method_7_122) rfl k) ?_
  show OwnGo p e below _ (T194.setTop (mkF m 123 #[.val (.ref a1), .val (.int p2), .val (.int (own_probe g1 f1 p2 (31 : Int32) 32 (p2 &&& (31 : Int32))))] [(.int ((2 : Int32) * (s1 + (1 : Int32))))]))
  refine own_go (fun _ k => XS.aloadN X194.here hx rfl (hb hby d_prog_46_method_7_123) rfl rfl k) ?_
  show OwnGo p e below _ (T194.setTop (mkF m 124 #[.val (.ref a1), .val (.int p2), .val (.int (own_probe g1 f1 p2 (31 : Int32) 32 (p2 &&& (31 : Int32))))] [(.ref a1), (.int ((2 : Int32) * (s1 + (1 : Int32))))]))
  have F195 := (F186.other W191 (Or.inl nac))
  obtain ⟨T196, X196, e196, st196⟩ := getF X194 hx hZ hown (host := "") (Or.inl (hw _ (List.mem_of_getElem? (i := 34) rfl))) Via.refl e194 F195 (g := (mkF m 124 #[.val (.ref a1), .val (.int p2), .val (.int (own_probe g1 f1 p2 (31 : Int32) 32 (p2 &&& (31 : Int32))))] [(.ref a1), (.int ((2 : Int32) * (s1 + (1 : Int32))))])) rfl rfl (hb hby d_prog_46_method_7_124)
  refine own_go st196 ?_
  show OwnGo p e below _ (T196.setTop (mkF m 127 #[.val (.ref a1), .val (.int p2), .val (.int (own_probe g1 f1 p2 (31 : Int32) 32 (p2 &&& (31 : Int32))))] [(.ref b2), (.int ((2 : Int32) * (s1 + (1 : Int32))))]))
  obtain ⟨c197, Ar197, S197, M197, H197⟩ := (id V191)
  refine own_go (fun _ k => X196.arraylength hx (cell := c197) (by rw [e196]; exact Ar197.1) (State.isArrayOf_alike hZ.alike Ar197.2.1) (g := (mkF m 127 #[.val (.ref a1), .val (.int p2), .val (.int (own_probe g1 f1 p2 (31 : Int32) 32 (p2 &&& (31 : Int32))))] [(.ref b2), (.int ((2 : Int32) * (s1 + (1 : Int32))))])) rfl (rest := [(.int ((2 : Int32) * (s1 + (1 : Int32))))]) rfl (hb hby d_prog_46_method_7_127) _ k) ?_
  rw [len_of S197 (own_nn (by decide))]
  show OwnGo p e below _ (T196.setTop (mkF m 128 #[.val (.ref a1), .val (.int p2), .val (.int (own_probe g1 f1 p2 (31 : Int32) 32 (p2 &&& (31 : Int32))))] [(.int (32 : Int32)), (.int ((2 : Int32) * (s1 + (1 : Int32))))]))
  refine own_go (fun _ k => XS.icmpYes X196.here hx rfl (pc0 := 128) (pc' := 160) rfl (hb hby d_prog_46_method_7_128) rfl (flt (own_geI (by rw [own_dbl hs0 (by omega), (show (32 : Int32).toInt = 32 from by decide)]; omega))).2.2.2 (by decide) (by decide) k) ?_
  show OwnGo p e below _ (T196.setTop (mkF m 160 #[.val (.ref a1), .val (.int p2), .val (.int (own_probe g1 f1 p2 (31 : Int32) 32 (p2 &&& (31 : Int32))))] []))
  obtain ⟨fs, hr, hrun, hended, hW, hsame⟩ := X196.leave (v := none) (fun h => rfl)
  refine ⟨_, _, X196.returnOut hx Bd.returns (hb hby d_prog_46_method_7_160) hr, hrun, hended, _, _, rfl, ?_, ⟨_, rfl⟩, hW, hsame.mono (by decide) (by decide)⟩
  show Q_add32miss Z aNONE a1 p2 b1 z1 f1 s1 b2 g1 h0 n0 _ T196.heap _
  rw [e196]
  have F198 := (((PF1.other W179 (Or.inl nab)).other W184 (Or.inr (slot_ne (a0 := a0) (C := "com/example/reweave/reweave/control/Keys") (Or.inl (hw _ (List.mem_of_getElem? (i := 28) rfl))) (Or.inl (hw _ (List.mem_of_getElem? (i := 18) rfl))) (by decide) (t := (.array .int)) (t' := .int) (by decide) (by decide)))).other W191 (Or.inl nac))
  have F199 := ((V179.other W184 (Ne.symm nab)).other W191 nbc)
  exact ⟨rfl, N191, ((((Keep.refl _ [a1, b1, b2]).wr W179 (Or.inl (List.mem_of_getElem? (i := 1) rfl))).wr W184 (Or.inl (List.mem_of_getElem? (i := 0) rfl))).wr W191 (Or.inl (List.mem_of_getElem? (i := 2) rfl))), F198, F193, F199, F195, V191, (OwnS.step hO hs0 (by omega))⟩
theorem d_prog_46_method_7_131 : decode prog_46_method_7_code 131 = .ok (.aload_n 0, 1) := by decide +kernel
theorem d_prog_46_method_7_132 : decode prog_46_method_7_code 132 = .ok (.aload_n 0, 1) := by decide +kernel
theorem d_prog_46_method_7_133 : decode prog_46_method_7_code 133 = .ok (.getfield 20, 3) := by decide +kernel
theorem d_prog_46_method_7_136 : decode prog_46_method_7_code 136 = .ok (.arraylength, 1) := by decide +kernel
theorem d_prog_46_method_7_137 : decode prog_46_method_7_code 137 = .ok (.iconst 2, 1) := by decide +kernel
theorem d_prog_46_method_7_138 : decode prog_46_method_7_code 138 = .ok (.imul, 1) := by decide +kernel
theorem d_prog_46_method_7_139 : decode prog_46_method_7_code 139 = .ok (.invokevirtual 48, 3) := by decide +kernel
theorem d_prog_46_method_7_142 : decode prog_46_method_7_code 142 = .ok (.goto 18, 3) := by decide +kernel
def Q_add32grow (Z : State) (aNONE : Addr) (a1 : Addr) (p2 : Int32) (b1 : Addr) (z1 : Int32) (f1 : Nat → Int32) (s1 : Int32) (b2 : Addr) (g1 : Nat → Int32) (h0 : Heap) (n0 : Nat) (v : Option Value) (h : Heap) (L : List Loc) : Prop := ∃ (r9 : Addr) (g9 : Nat → Int32), v = none ∧ Fr n0 L ∧ Keep h0 h [a1, b1, b2] ∧ Fld Z h a1 "com/example/reweave/reweave/control/Keys" "numbers" "[I" (.ref b1) ∧ Fld Z h a1 "com/example/reweave/reweave/control/Keys" "size" "I" (.int (s1 + (1 : Int32))) ∧ IA Z h b1 (z1).toNatClampNeg (own_upd f1 (s1).toNatClampNeg p2) ∧ Fld Z h a1 "com/example/reweave/reweave/control/Keys" "slots" "[I" (.ref r9) ∧ IA Z h r9 ((64 : Int32)).toNatClampNeg g9 ∧ OwnS (64 : Int32) g9 (s1 + (1 : Int32)) ∧ h0.size ≤ r9
theorem ef_add32grow (m : MethodId) (x0 : Addr) (x1 : Int32) : entryFrame m #[(.ref x0), (.int x1)] 3 = mkF m 0 #[.val (.ref x0), .val (.int x1), .unset] [] := by first | (simp [entryFrame, mkF, argsToLocals, Value.category]; done) | rfl
set_option maxRecDepth 65536 in
set_option maxHeartbeats 40000000 in
theorem rm_add32grow (l : Launch) (Z : State) (a0 : Array Value) (hw : ∀ d ∈ tables_1, d.before a0 Z = true) (ws : List Jvm.Cond) (aNONE : Addr) (F0 : OwnFacts Z aNONE) (a1 : Addr) (p2 : Int32) (b1 : Addr) (z1 : Int32) (f1 : Nat → Int32) (s1 : Int32) (b2 : Addr) (g1 : Nat → Int32) (h0 : Heap) (n0 : Nat) (O0 : Old Z n0 h0) (PE1 : Exa Z h0 a1 "com/example/reweave/reweave/control/Keys") (PF1 : Fld Z h0 a1 "com/example/reweave/reweave/control/Keys" "numbers" "[I" (.ref b1)) (PF2 : Fld Z h0 a1 "com/example/reweave/reweave/control/Keys" "size" "I" (.int s1)) (PV1 : IA Z h0 b1 (z1).toNatClampNeg f1) (ge1 : n0 ≤ a1) (ge2 : n0 ≤ b1) (nab : a1 ≠ b1) (hz1 : 0 ≤ z1.toInt) (hs0 : 0 ≤ (s1).toInt) (hsz : (s1).toInt ≤ z1.toInt) (hzz : z1.toInt < 1000) (PF3 : Fld Z h0 a1 "com/example/reweave/reweave/control/Keys" "slots" "[I" (.ref b2)) (PV2 : IA Z h0 b2 ((32 : Int32)).toNatClampNeg g1) (ge3 : n0 ≤ b2) (nac : a1 ≠ b2) (nbc : b1 ≠ b2) (hO : OwnS (32 : Int32) g1 s1) (hsS : s1.toInt < 32) (hq : (g1 ((own_probe g1 f1 p2 (31 : Int32) 32 (p2 &&& (31 : Int32)))).toNatClampNeg) = (0 : Int32)) (hlt : (s1).toInt < z1.toInt) (h2 : 32 < 2 * (s1.toInt + 1)) (hsz2 : s1.toInt + 1 < 64) :
    MetFree l (⟨"com/example/reweave/reweave/control/Keys", "add", "(I)V"⟩ : MethodName) (head1 (Jvm.Cond.code (⟨"com/example/reweave/reweave/control/Keys", "add", "(I)V"⟩ : MethodName) prog_46_method_7_code 3 none :: ws) ({ frames := 2, cells := 1, slots := 64, locals := 30 } : Room)) (fun a U => a = #[(.ref a1), (.int p2)] ∧ Z.Warmed39 U.vm ∧ U.heap = h0) (fun _ _ _ _ _ => True) (fun _ U o U' => ∃ v L, o = .returned v ∧ Q_add32grow Z aNONE a1 p2 b1 z1 f1 s1 b2 g1 h0 n0 v U'.heap L ∧ FrameEnd U o U' L ({ frames := 2, cells := 1, slots := 64, locals := 30 } : Room).cells ({ frames := 2, cells := 1, slots := 64, locals := 30 } : Room).slots) := by
  refine MetFree.of_bodySF (plainFor_of_name pn_com_example_reweave_reweave_control_Keys) hisR ?_
  intro p e s m args below meth c s₁ Bd hml0 hP hK
  obtain ⟨rfl, hZ, hh⟩ := hP
  have hx := Bd.exec
  have hby := Bd.bytes
  have hml : c.maxLocals = 3 := hml0
  have hown : s.vm.findClass "com/example/reweave/reweave/control/Keys" = some m.cls := findClass_of_methodNamed Bd.named
  have hnm := (name_of_methodNamed Bd.named Bd.method).1
  have X0 : Stand p l e ({ frames := 2, cells := 1, slots := 64, locals := 30 } : Room) s m #[(.ref a1), (.int p2)] below meth c s₁ [] 0 0 := Stand.of_body Bd
  have e0 : s₁.heap = h0 := by rw [← hh, Bd.state]; rfl
  have N0 := Fr.nil n0
  refine own_go (Q := fun o U' => ∃ v L, o = .returned v ∧ Q_add32grow Z aNONE a1 p2 b1 z1 f1 s1 b2 g1 h0 n0 v U'.heap L ∧ FrameEnd s o U' L ({ frames := 2, cells := 1, slots := 64, locals := 30 } : Room).cells ({ frames := 2, cells := 1, slots := 64, locals := 30 } : Room).slots) (fun t k => castTop (ef_add32grow m a1 p2) k) ?_
  show OwnGo p e below _ (s₁.setTop (mkF m 0 #[.val (.ref a1), .val (.int p2), .unset] []))
  refine own_go (fun _ k => XS.aloadN X0.here hx rfl (hb hby d_prog_46_method_7_0) rfl rfl k) ?_
  show OwnGo p e below _ (s₁.setTop (mkF m 1 #[.val (.ref a1), .val (.int p2), .unset] [(.ref a1)]))
  obtain ⟨T200, X200, e200, st200⟩ := getS X0 hx hZ hown (host := "") (hw _ (List.mem_of_getElem? (i := 6) rfl)) Via.refl e0 (F0.1.ext O0.2) (g := (mkF m 1 #[.val (.ref a1), .val (.int p2), .unset] [(.ref a1)])) rfl (hb hby d_prog_46_method_7_1)
  refine own_go st200 ?_
  show OwnGo p e below _ (T200.setTop (mkF m 4 #[.val (.ref a1), .val (.int p2), .unset] [(.ref aNONE), (.ref a1)]))
  refine own_go (fun _ k => acmp X200 hx rfl (cd := .ne) (o := 13) (x := (.ref a1)) (y := (.ref aNONE)) (pc0 := 4) (pc' := 17) rfl rfl rfl (hb hby d_prog_46_method_7_4) rfl (own_refne (Ne.symm (O0.ne F0.2.1.lt ge1))) (by decide) (by decide) k) ?_
  show OwnGo p e below _ (T200.setTop (mkF m 17 #[.val (.ref a1), .val (.int p2), .unset] []))
  refine own_go (fun _ k => XS.iconst X200.here hx rfl (hb hby d_prog_46_method_7_17) k) ?_
  show OwnGo p e below _ (T200.setTop (mkF m 18 #[.val (.ref a1), .val (.int p2), .unset] [(.int (-1 : Int32))]))
  refine own_go (fun _ k => XS.istoreN X200.here hx rfl (hb hby d_prog_46_method_7_18) rfl (l' := #[.val (.ref a1), .val (.int p2), .val (.int (-1 : Int32))]) rfl k) ?_
  show OwnGo p e below _ (T200.setTop (mkF m 19 #[.val (.ref a1), .val (.int p2), .val (.int (-1 : Int32))] []))
  refine own_go (fun _ k => XS.aloadN X200.here hx rfl (hb hby d_prog_46_method_7_19) rfl rfl k) ?_
  show OwnGo p e below _ (T200.setTop (mkF m 20 #[.val (.ref a1), .val (.int p2), .val (.int (-1 : Int32))] [(.ref a1)]))
  obtain ⟨T201, X201, e201, st201⟩ := getF X200 hx hZ hown (host := "") (Or.inl (hw _ (List.mem_of_getElem? (i := 34) rfl))) Via.refl e200 PF3 (g := (mkF m 20 #[.val (.ref a1), .val (.int p2), .val (.int (-1 : Int32))] [(.ref a1)])) rfl rfl (hb hby d_prog_46_method_7_20)
  refine own_go st201 ?_
  show OwnGo p e below _ (T201.setTop (mkF m 23 #[.val (.ref a1), .val (.int p2), .val (.int (-1 : Int32))] [(.ref b2)]))
  refine own_go (fun _ k => XS.ifnullNo X201.here hx rfl (hb hby d_prog_46_method_7_23) rfl k) ?_
  show OwnGo p e below _ (T201.setTop (mkF m 26 #[.val (.ref a1), .val (.int p2), .val (.int (-1 : Int32))] []))
  refine own_go (fun _ k => XS.aloadN X201.here hx rfl (hb hby d_prog_46_method_7_26) rfl rfl k) ?_
  show OwnGo p e below _ (T201.setTop (mkF m 27 #[.val (.ref a1), .val (.int p2), .val (.int (-1 : Int32))] [(.ref a1)]))
  refine own_go (fun _ k => XS.iloadN X201.here hx rfl (hb hby d_prog_46_method_7_27) rfl k) ?_
  show OwnGo p e below _ (T201.setTop (mkF m 28 #[.val (.ref a1), .val (.int p2), .val (.int (-1 : Int32))] [(.int p2), (.ref a1)]))
  obtain ⟨cl202, hcl202, hob202⟩ := PE1.cell
  obtain ⟨_, _, ⟨T202, L202, k202, n202⟩, -, X202, ⟨Lc202, hQ202, l202, y202, z202⟩, st202⟩ := X201.privateBack hx (y := (⟨"com/example/reweave/reweave/control/Keys", "slotOf", "(I)I"⟩ : MethodName)) hown (mvT hZ (hw _ (List.mem_of_getElem? (i := 45) rfl))) (mvT hZ (hw _ (List.mem_of_getElem? (i := 46) rfl))) (own_selp hZ (hw _ (List.mem_of_getElem? (i := 20) rfl)) (hw _ (List.mem_of_getElem? (i := 47) rfl)) (hw _ (List.mem_of_getElem? (i := 46) rfl)) (by decide)) (Cond.privateMethod_at (mvP hZ (hw _ (List.mem_of_getElem? (i := 47) rfl)) (args := #[]))) (mvT hZ (hw _ (List.mem_of_getElem? (i := 48) rfl))) (by decide) (backOf (W := 0) (rm_slot32 l Z a0 hw [] aNONE F0 a1 p2 b1 b2 z1 f1 g1 (own_probe g1 f1 p2 (31 : Int32) 32 (p2 &&& (31 : Int32))) h0 n0 O0 PF1 PF3 PV1 PV2 hz1 (fun j hj => ⟨(hO.1 j (by rw [own_n32]; exact hj)).1, Int.le_trans (hO.1 j (by rw [own_n32]; exact hj)).2 hsz⟩) (by have q := OwnS.free hO hs0 (by rw [(show (32 : Int32).toInt = 32 from by decide)]; omega); rw [own_n32] at q; exact q) rfl) hZ (hw _ (List.mem_of_getElem? (i := 48) rfl)) (hw _ (List.mem_of_getElem? (i := 4) rfl)) (by decide) (by decide)) (g := (mkF m 28 #[.val (.ref a1), .val (.int p2), .val (.int (-1 : Int32))] [(.int p2), (.ref a1)])) rfl (by rw [hml]; rfl) (Steps.refl _) (a := a1) (by rw [e201]; exact hcl202) hob202 (argsL := [(.int p2)]) (rest := []) (lenOf pd_I__I rfl) rfl (by show 2 * 0 + _ ≤ _; exact Nat.le_of_eq rfl) (hb hby d_prog_46_method_7_28) (fun _ _ => ⟨rfl, e201, (by decide : 0 + 0 ≤ _), (by decide : 0 + 0 ≤ _)⟩)
  dsimp only [Pt.U, Pt.locs, Pt.cells, Pt.slots] at X202 l202 y202 z202 st202 hQ202
  subst l202 y202 z202
  obtain ⟨rfl, Nq202, K202⟩ := hQ202
  have N202 := Fr.app N0 Nq202
  refine own_go (fun _ k => st202.trans k) ?_
  show OwnGo p e below _ (T202.setTop (mkF m 31 #[.val (.ref a1), .val (.int p2), .val (.int (-1 : Int32))] [(.int (own_probe g1 f1 p2 (31 : Int32) 32 (p2 &&& (31 : Int32))))]))
  refine own_go (fun _ k => XS.istoreN X202.here hx rfl (hb hby d_prog_46_method_7_31) rfl (l' := #[.val (.ref a1), .val (.int p2), .val (.int (own_probe g1 f1 p2 (31 : Int32) 32 (p2 &&& (31 : Int32))))]) rfl k) ?_
  show OwnGo p e below _ (T202.setTop (mkF m 32 #[.val (.ref a1), .val (.int p2), .val (.int (own_probe g1 f1 p2 (31 : Int32) 32 (p2 &&& (31 : Int32))))] []))
  refine own_go (fun _ k => XS.aloadN X202.here hx rfl (hb hby d_prog_46_method_7_32) rfl rfl k) ?_
  show OwnGo p e below _ (T202.setTop (mkF m 33 #[.val (.ref a1), .val (.int p2), .val (.int (own_probe g1 f1 p2 (31 : Int32) 32 (p2 &&& (31 : Int32))))] [(.ref a1)]))
  obtain ⟨T203, X203, e203, st203⟩ := getF X202 hx hZ hown (host := "") (Or.inl (hw _ (List.mem_of_getElem? (i := 34) rfl))) Via.refl K202 PF3 (g := (mkF m 33 #[.val (.ref a1), .val (.int p2), .val (.int (own_probe g1 f1 p2 (31 : Int32) 32 (p2 &&& (31 : Int32))))] [(.ref a1)])) rfl rfl (hb hby d_prog_46_method_7_33)
  refine own_go st203 ?_
  show OwnGo p e below _ (T203.setTop (mkF m 36 #[.val (.ref a1), .val (.int p2), .val (.int (own_probe g1 f1 p2 (31 : Int32) 32 (p2 &&& (31 : Int32))))] [(.ref b2)]))
  refine own_go (fun _ k => XS.iloadN X203.here hx rfl (hb hby d_prog_46_method_7_36) rfl k) ?_
  show OwnGo p e below _ (T203.setTop (mkF m 37 #[.val (.ref a1), .val (.int p2), .val (.int (own_probe g1 f1 p2 (31 : Int32) 32 (p2 &&& (31 : Int32))))] [(.int (own_probe g1 f1 p2 (31 : Int32) 32 (p2 &&& (31 : Int32)))), (.ref b2)]))
  obtain ⟨c204, Ar204, S204, M204, H204⟩ := (id PV2)
  have b204 : 0 ≤ ((own_probe g1 f1 p2 (31 : Int32) 32 (p2 &&& (31 : Int32)))).toInt ∧ ((own_probe g1 f1 p2 (31 : Int32) 32 (p2 &&& (31 : Int32)))).toInt < ((32 : Int32)).toInt := ⟨(own_probe_rng (k := 5) (by decide) (by decide) 32 _ (own_and_rng _ (31 : Int32) (k := 5) (by decide) (by decide)).1 (own_and_rng _ (31 : Int32) (k := 5) (by decide) (by decide)).2).1, (by rw [(show (32 : Int32).toInt = 32 from by decide)]; exact (own_probe_rng (k := 5) (by decide) (by decide) 32 _ (own_and_rng _ (31 : Int32) (k := 5) (by decide) (by decide)).1 (own_and_rng _ (31 : Int32) (k := 5) (by decide) (by decide)).2).2)⟩
  refine own_go (fun _ k => X203.iaload hx (j := (own_probe g1 f1 p2 (31 : Int32) 32 (p2 &&& (31 : Int32)))) (v := (.int (g1 ((own_probe g1 f1 p2 (31 : Int32) 32 (p2 &&& (31 : Int32)))).toNatClampNeg))) (by rw [e203]; exact Ar204.1) (State.isArrayOf_alike hZ.alike Ar204.2.1) Ar204.2.2 (own_inbz S204 (by decide) b204.1 b204.2) (IA.atz H204 (by decide) b204.1 b204.2) (g := (mkF m 37 #[.val (.ref a1), .val (.int p2), .val (.int (own_probe g1 f1 p2 (31 : Int32) 32 (p2 &&& (31 : Int32))))] [(.int (own_probe g1 f1 p2 (31 : Int32) 32 (p2 &&& (31 : Int32)))), (.ref b2)])) rfl rfl (hb hby d_prog_46_method_7_37) _ k) ?_
  show OwnGo p e below _ (T203.setTop (mkF m 38 #[.val (.ref a1), .val (.int p2), .val (.int (own_probe g1 f1 p2 (31 : Int32) 32 (p2 &&& (31 : Int32))))] [(.int (g1 ((own_probe g1 f1 p2 (31 : Int32) 32 (p2 &&& (31 : Int32)))).toNatClampNeg))]))
  refine own_go (fun _ k => XS.ifYes X203.here hx rfl (pc0 := 38) (pc' := 51) rfl (hb hby d_prog_46_method_7_38) rfl ((if0 _ _).trans (teq hq).1) (by decide) (by decide) k) ?_
  show OwnGo p e below _ (T203.setTop (mkF m 51 #[.val (.ref a1), .val (.int p2), .val (.int (own_probe g1 f1 p2 (31 : Int32) 32 (p2 &&& (31 : Int32))))] []))
  refine own_go (fun _ k => XS.aloadN X203.here hx rfl (hb hby d_prog_46_method_7_51) rfl rfl k) ?_
  show OwnGo p e below _ (T203.setTop (mkF m 52 #[.val (.ref a1), .val (.int p2), .val (.int (own_probe g1 f1 p2 (31 : Int32) 32 (p2 &&& (31 : Int32))))] [(.ref a1)]))
  obtain ⟨T205, X205, e205, st205⟩ := getF X203 hx hZ hown (host := "") (Or.inl (hw _ (List.mem_of_getElem? (i := 17) rfl))) Via.refl e203 PF2 (g := (mkF m 52 #[.val (.ref a1), .val (.int p2), .val (.int (own_probe g1 f1 p2 (31 : Int32) 32 (p2 &&& (31 : Int32))))] [(.ref a1)])) rfl rfl (hb hby d_prog_46_method_7_52)
  refine own_go st205 ?_
  show OwnGo p e below _ (T205.setTop (mkF m 55 #[.val (.ref a1), .val (.int p2), .val (.int (own_probe g1 f1 p2 (31 : Int32) 32 (p2 &&& (31 : Int32))))] [(.int s1)]))
  refine own_go (fun _ k => XS.aloadN X205.here hx rfl (hb hby d_prog_46_method_7_55) rfl rfl k) ?_
  show OwnGo p e below _ (T205.setTop (mkF m 56 #[.val (.ref a1), .val (.int p2), .val (.int (own_probe g1 f1 p2 (31 : Int32) 32 (p2 &&& (31 : Int32))))] [(.ref a1), (.int s1)]))
  obtain ⟨T206, X206, e206, st206⟩ := getF X205 hx hZ hown (host := "") (Or.inl (hw _ (List.mem_of_getElem? (i := 27) rfl))) Via.refl e205 PF1 (g := (mkF m 56 #[.val (.ref a1), .val (.int p2), .val (.int (own_probe g1 f1 p2 (31 : Int32) 32 (p2 &&& (31 : Int32))))] [(.ref a1), (.int s1)])) rfl rfl (hb hby d_prog_46_method_7_56)
  refine own_go st206 ?_
  show OwnGo p e below _ (T206.setTop (mkF m 59 #[.val (.ref a1), .val (.int p2), .val (.int (own_probe g1 f1 p2 (31 : Int32) 32 (p2 &&& (31 : Int32))))] [(.ref b1), (.int s1)]))
  obtain ⟨c207, Ar207, S207, M207, H207⟩ := (id PV1)
  refine own_go (fun _ k => X206.arraylength hx (cell := c207) (by rw [e206]; exact Ar207.1) (State.isArrayOf_alike hZ.alike Ar207.2.1) (g := (mkF m 59 #[.val (.ref a1), .val (.int p2), .val (.int (own_probe g1 f1 p2 (31 : Int32) 32 (p2 &&& (31 : Int32))))] [(.ref b1), (.int s1)])) rfl (rest := [(.int s1)]) rfl (hb hby d_prog_46_method_7_59) _ k) ?_
  rw [len_of S207 (own_nn hz1)]
  show OwnGo p e below _ (T206.setTop (mkF m 60 #[.val (.ref a1), .val (.int p2), .val (.int (own_probe g1 f1 p2 (31 : Int32) 32 (p2 &&& (31 : Int32))))] [(.int z1), (.int s1)]))
  refine own_go (fun _ k => XS.icmpYes X206.here hx rfl (pc0 := 60) (pc' := 80) rfl (hb hby d_prog_46_method_7_60) rfl (feq (own_neI (by omega))).2 (by decide) (by decide) k) ?_
  show OwnGo p e below _ (T206.setTop (mkF m 80 #[.val (.ref a1), .val (.int p2), .val (.int (own_probe g1 f1 p2 (31 : Int32) 32 (p2 &&& (31 : Int32))))] []))
  refine own_go (fun _ k => XS.aloadN X206.here hx rfl (hb hby d_prog_46_method_7_80) rfl rfl k) ?_
  show OwnGo p e below _ (T206.setTop (mkF m 81 #[.val (.ref a1), .val (.int p2), .val (.int (own_probe g1 f1 p2 (31 : Int32) 32 (p2 &&& (31 : Int32))))] [(.ref a1)]))
  obtain ⟨T208, X208, e208, st208⟩ := getF X206 hx hZ hown (host := "") (Or.inl (hw _ (List.mem_of_getElem? (i := 27) rfl))) Via.refl e206 PF1 (g := (mkF m 81 #[.val (.ref a1), .val (.int p2), .val (.int (own_probe g1 f1 p2 (31 : Int32) 32 (p2 &&& (31 : Int32))))] [(.ref a1)])) rfl rfl (hb hby d_prog_46_method_7_81)
  refine own_go st208 ?_
  show OwnGo p e below _ (T208.setTop (mkF m 84 #[.val (.ref a1), .val (.int p2), .val (.int (own_probe g1 f1 p2 (31 : Int32) 32 (p2 &&& (31 : Int32))))] [(.ref b1)]))
  refine own_go (fun _ k => XS.aloadN X208.here hx rfl (hb hby d_prog_46_method_7_84) rfl rfl k) ?_
  show OwnGo p e below _ (T208.setTop (mkF m 85 #[.val (.ref a1), .val (.int p2), .val (.int (own_probe g1 f1 p2 (31 : Int32) 32 (p2 &&& (31 : Int32))))] [(.ref a1), (.ref b1)]))
  obtain ⟨T209, X209, e209, st209⟩ := getF X208 hx hZ hown (host := "") (Or.inl (hw _ (List.mem_of_getElem? (i := 17) rfl))) Via.refl e208 PF2 (g := (mkF m 85 #[.val (.ref a1), .val (.int p2), .val (.int (own_probe g1 f1 p2 (31 : Int32) 32 (p2 &&& (31 : Int32))))] [(.ref a1), (.ref b1)])) rfl rfl (hb hby d_prog_46_method_7_85)
  refine own_go st209 ?_
  show OwnGo p e below _ (T209.setTop (mkF m 88 #[.val (.ref a1), .val (.int p2), .val (.int (own_probe g1 f1 p2 (31 : Int32) 32 (p2 &&& (31 : Int32))))] [(.int s1), (.ref b1)]))
  refine own_go (fun _ k => XS.iloadN X209.here hx rfl (hb hby d_prog_46_method_7_88) rfl k) ?_
  show OwnGo p e below _ (T209.setTop (mkF m 89 #[.val (.ref a1), .val (.int p2), .val (.int (own_probe g1 f1 p2 (31 : Int32) 32 (p2 &&& (31 : Int32))))] [(.int p2), (.int s1), (.ref b1)]))
  obtain ⟨c210, Ar210, S210, M210, H210⟩ := (id PV1)
  have b210 : 0 ≤ (s1).toInt ∧ (s1).toInt < (z1).toInt := ⟨hs0, hlt⟩
  obtain ⟨T210, h210, X210, e210, W210, st210⟩ := stI X209 hx hZ e209 Ar210 (j := s1) (own_inbz S210 hz1 b210.1 b210.2) (g := (mkF m 89 #[.val (.ref a1), .val (.int p2), .val (.int (own_probe g1 f1 p2 (31 : Int32) 32 (p2 &&& (31 : Int32))))] [(.int p2), (.int s1), (.ref b1)])) rfl rfl (hb hby d_prog_46_method_7_89)
  have N210 := Fr.snoc X210 N202 ge2
  have O210 := O0.wr W210 ge2
  have z211 : h0.size ≤ h210.size := Nat.le_trans (Nat.le_refl _) (Nat.le_of_eq W210.size.symm)
  have V210 : IA Z h210 b1 (z1).toNatClampNeg (own_upd f1 (s1).toNatClampNeg p2) := IA.set Ar210 S210 M210 H210 W210
  refine own_go st210 ?_
  show OwnGo p e below _ (T210.setTop (mkF m 90 #[.val (.ref a1), .val (.int p2), .val (.int (own_probe g1 f1 p2 (31 : Int32) 32 (p2 &&& (31 : Int32))))] []))
  refine own_go (fun _ k => XS.aloadN X210.here hx rfl (hb hby d_prog_46_method_7_90) rfl rfl k) ?_
  show OwnGo p e below _ (T210.setTop (mkF m 91 #[.val (.ref a1), .val (.int p2), .val (.int (own_probe g1 f1 p2 (31 : Int32) 32 (p2 &&& (31 : Int32))))] [(.ref a1)]))
  refine own_go (fun _ k => XS.dup X210.here hx rfl (hb hby d_prog_46_method_7_91) rfl rfl k) ?_
  show OwnGo p e below _ (T210.setTop (mkF m 92 #[.val (.ref a1), .val (.int p2), .val (.int (own_probe g1 f1 p2 (31 : Int32) 32 (p2 &&& (31 : Int32))))] [(.ref a1), (.ref a1)]))
  have F212 := (PF2.other W210 (Or.inl nab))
  obtain ⟨T213, X213, e213, st213⟩ := getF X210 hx hZ hown (host := "") (Or.inl (hw _ (List.mem_of_getElem? (i := 17) rfl))) Via.refl e210 F212 (g := (mkF m 92 #[.val (.ref a1), .val (.int p2), .val (.int (own_probe g1 f1 p2 (31 : Int32) 32 (p2 &&& (31 : Int32))))] [(.ref a1), (.ref a1)])) rfl rfl (hb hby d_prog_46_method_7_92)
  refine own_go st213 ?_
  show OwnGo p e below _ (T213.setTop (mkF m 95 #[.val (.ref a1), .val (.int p2), .val (.int (own_probe g1 f1 p2 (31 : Int32) 32 (p2 &&& (31 : Int32))))] [(.int s1), (.ref a1)]))
  refine own_go (fun _ k => XS.iconst X213.here hx rfl (hb hby d_prog_46_method_7_95) k) ?_
  show OwnGo p e below _ (T213.setTop (mkF m 96 #[.val (.ref a1), .val (.int p2), .val (.int (own_probe g1 f1 p2 (31 : Int32) 32 (p2 &&& (31 : Int32))))] [(.int (1 : Int32)), (.int s1), (.ref a1)]))
  refine own_go (fun _ k => XS.iadd X213.here hx rfl (hb hby d_prog_46_method_7_96) rfl k) ?_
  show OwnGo p e below _ (T213.setTop (mkF m 97 #[.val (.ref a1), .val (.int p2), .val (.int (own_probe g1 f1 p2 (31 : Int32) 32 (p2 &&& (31 : Int32))))] [(.int (s1 + (1 : Int32))), (.ref a1)]))
  have F214 := (PE1.wr W210)
  obtain ⟨T215, h215, X215, e215, W215, st215⟩ := putF X213 hx hZ hown (host := "") (Or.inl (hw _ (List.mem_of_getElem? (i := 17) rfl))) Via.refl e213 F212 F214 (Or.inl (hw _ (List.mem_of_getElem? (i := 18) rfl))) (hw _ (List.mem_of_getElem? (i := 20) rfl)) (ty := .int) (by decide) rfl rfl (g := (mkF m 97 #[.val (.ref a1), .val (.int p2), .val (.int (own_probe g1 f1 p2 (31 : Int32) 32 (p2 &&& (31 : Int32))))] [(.int (s1 + (1 : Int32))), (.ref a1)])) rfl rfl (hb hby d_prog_46_method_7_97)
  have N215 := Fr.snoc X215 N210 ge1
  have O215 := O210.wr W215 ge1
  have z216 : h0.size ≤ h215.size := Nat.le_trans z211 (Nat.le_of_eq W215.size.symm)
  have F215 : Fld Z h215 a1 "com/example/reweave/reweave/control/Keys" "size" "I" (.int (s1 + (1 : Int32))) := F212.same W215
  refine own_go st215 ?_
  show OwnGo p e below _ (T215.setTop (mkF m 100 #[.val (.ref a1), .val (.int p2), .val (.int (own_probe g1 f1 p2 (31 : Int32) 32 (p2 &&& (31 : Int32))))] []))
  refine own_go (fun _ k => XS.aloadN X215.here hx rfl (hb hby d_prog_46_method_7_100) rfl rfl k) ?_
  show OwnGo p e below _ (T215.setTop (mkF m 101 #[.val (.ref a1), .val (.int p2), .val (.int (own_probe g1 f1 p2 (31 : Int32) 32 (p2 &&& (31 : Int32))))] [(.ref a1)]))
  have F217 := ((PF3.other W210 (Or.inl nab)).other W215 (Or.inr (slot_ne (a0 := a0) (C := "com/example/reweave/reweave/control/Keys") (Or.inl (hw _ (List.mem_of_getElem? (i := 35) rfl))) (Or.inl (hw _ (List.mem_of_getElem? (i := 18) rfl))) (by decide) (t := (.array .int)) (t' := .int) (by decide) (by decide))))
  obtain ⟨T218, X218, e218, st218⟩ := getF X215 hx hZ hown (host := "") (Or.inl (hw _ (List.mem_of_getElem? (i := 34) rfl))) Via.refl e215 F217 (g := (mkF m 101 #[.val (.ref a1), .val (.int p2), .val (.int (own_probe g1 f1 p2 (31 : Int32) 32 (p2 &&& (31 : Int32))))] [(.ref a1)])) rfl rfl (hb hby d_prog_46_method_7_101)
  refine own_go st218 ?_
  show OwnGo p e below _ (T218.setTop (mkF m 104 #[.val (.ref a1), .val (.int p2), .val (.int (own_probe g1 f1 p2 (31 : Int32) 32 (p2 &&& (31 : Int32))))] [(.ref b2)]))
  refine own_go (fun _ k => XS.ifnullNo X218.here hx rfl (hb hby d_prog_46_method_7_104) rfl k) ?_
  show OwnGo p e below _ (T218.setTop (mkF m 107 #[.val (.ref a1), .val (.int p2), .val (.int (own_probe g1 f1 p2 (31 : Int32) 32 (p2 &&& (31 : Int32))))] []))
  refine own_go (fun _ k => XS.aloadN X218.here hx rfl (hb hby d_prog_46_method_7_107) rfl rfl k) ?_
  show OwnGo p e below _ (T218.setTop (mkF m 108 #[.val (.ref a1), .val (.int p2), .val (.int (own_probe g1 f1 p2 (31 : Int32) 32 (p2 &&& (31 : Int32))))] [(.ref a1)]))
  obtain ⟨T219, X219, e219, st219⟩ := getF X218 hx hZ hown (host := "") (Or.inl (hw _ (List.mem_of_getElem? (i := 34) rfl))) Via.refl e218 F217 (g := (mkF m 108 #[.val (.ref a1), .val (.int p2), .val (.int (own_probe g1 f1 p2 (31 : Int32) 32 (p2 &&& (31 : Int32))))] [(.ref a1)])) rfl rfl (hb hby d_prog_46_method_7_108)
  refine own_go st219 ?_
  show OwnGo p e below _ (T219.setTop (mkF m 111 #[.val (.ref a1), .val (.int p2), .val (.int (own_probe g1 f1 p2 (31 : Int32) 32 (p2 &&& (31 : Int32))))] [(.ref b2)]))
  refine own_go (fun _ k => XS.iloadN X219.here hx rfl (hb hby d_prog_46_method_7_111) rfl k) ?_
  show OwnGo p e below _ (T219.setTop (mkF m 112 #[.val (.ref a1), .val (.int p2), .val (.int (own_probe g1 f1 p2 (31 : Int32) 32 (p2 &&& (31 : Int32))))] [(.int (own_probe g1 f1 p2 (31 : Int32) 32 (p2 &&& (31 : Int32)))), (.ref b2)]))
  refine own_go (fun _ k => XS.aloadN X219.here hx rfl (hb hby d_prog_46_method_7_112) rfl rfl k) ?_
  show OwnGo p e below _ (T219.setTop (mkF m 113 #[.val (.ref a1), .val (.int p2), .val (.int (own_probe g1 f1 p2 (31 : Int32) 32 (p2 &&& (31 : Int32))))] [(.ref a1), (.int (own_probe g1 f1 p2 (31 : Int32) 32 (p2 &&& (31 : Int32)))), (.ref b2)]))
  obtain ⟨T220, X220, e220, st220⟩ := getF X219 hx hZ hown (host := "") (Or.inl (hw _ (List.mem_of_getElem? (i := 17) rfl))) Via.refl e219 F215 (g := (mkF m 113 #[.val (.ref a1), .val (.int p2), .val (.int (own_probe g1 f1 p2 (31 : Int32) 32 (p2 &&& (31 : Int32))))] [(.ref a1), (.int (own_probe g1 f1 p2 (31 : Int32) 32 (p2 &&& (31 : Int32)))), (.ref b2)])) rfl rfl (hb hby d_prog_46_method_7_113)
  refine own_go st220 ?_
  show OwnGo p e below _ (T220.setTop (mkF m 116 #[.val (.ref a1), .val (.int p2), .val (.int (own_probe g1 f1 p2 (31 : Int32) 32 (p2 &&& (31 : Int32))))] [(.int (s1 + (1 : Int32))), (.int (own_probe g1 f1 p2 (31 : Int32) 32 (p2 &&& (31 : Int32)))), (.ref b2)]))
  have F221 := ((PV2.other W210 (Ne.symm nbc)).other W215 (Ne.symm nac))
  obtain ⟨c222, Ar222, S222, M222, H222⟩ := (id F221)
  have b222 : 0 ≤ ((own_probe g1 f1 p2 (31 : Int32) 32 (p2 &&& (31 : Int32)))).toInt ∧ ((own_probe g1 f1 p2 (31 : Int32) 32 (p2 &&& (31 : Int32)))).toInt < ((32 : Int32)).toInt := ⟨(own_probe_rng (k := 5) (by decide) (by decide) 32 _ (own_and_rng _ (31 : Int32) (k := 5) (by decide) (by decide)).1 (own_and_rng _ (31 : Int32) (k := 5) (by decide) (by decide)).2).1, (by rw [(show (32 : Int32).toInt = 32 from by decide)]; exact (own_probe_rng (k := 5) (by decide) (by decide) 32 _ (own_and_rng _ (31 : Int32) (k := 5) (by decide) (by decide)).1 (own_and_rng _ (31 : Int32) (k := 5) (by decide) (by decide)).2).2)⟩
  obtain ⟨T222, h222, X222, e222, W222, st222⟩ := stI X220 hx hZ e220 Ar222 (j := (own_probe g1 f1 p2 (31 : Int32) 32 (p2 &&& (31 : Int32)))) (own_inbz S222 (by decide) b222.1 b222.2) (g := (mkF m 116 #[.val (.ref a1), .val (.int p2), .val (.int (own_probe g1 f1 p2 (31 : Int32) 32 (p2 &&& (31 : Int32))))] [(.int (s1 + (1 : Int32))), (.int (own_probe g1 f1 p2 (31 : Int32) 32 (p2 &&& (31 : Int32)))), (.ref b2)])) rfl rfl (hb hby d_prog_46_method_7_116)
  have N222 := Fr.snoc X222 N215 ge3
  have O222 := O215.wr W222 ge3
  have z223 : h0.size ≤ h222.size := Nat.le_trans z216 (Nat.le_of_eq W222.size.symm)
  have V222 : IA Z h222 b2 ((32 : Int32)).toNatClampNeg (own_upd g1 ((own_probe g1 f1 p2 (31 : Int32) 32 (p2 &&& (31 : Int32)))).toNatClampNeg (s1 + (1 : Int32))) := IA.set Ar222 S222 M222 H222 W222
  refine own_go st222 ?_
  show OwnGo p e below _ (T222.setTop (mkF m 117 #[.val (.ref a1), .val (.int p2), .val (.int (own_probe g1 f1 p2 (31 : Int32) 32 (p2 &&& (31 : Int32))))] []))
  refine own_go (fun _ k => XS.iconst X222.here hx rfl (hb hby d_prog_46_method_7_117) k) ?_
  show OwnGo p e below _ (T222.setTop (mkF m 118 #[.val (.ref a1), .val (.int p2), .val (.int (own_probe g1 f1 p2 (31 : Int32) 32 (p2 &&& (31 : Int32))))] [(.int (2 : Int32))]))
  refine own_go (fun _ k => XS.aloadN X222.here hx rfl (hb hby d_prog_46_method_7_118) rfl rfl k) ?_
  show OwnGo p e below _ (T222.setTop (mkF m 119 #[.val (.ref a1), .val (.int p2), .val (.int (own_probe g1 f1 p2 (31 : Int32) 32 (p2 &&& (31 : Int32))))] [(.ref a1), (.int (2 : Int32))]))
  have F224 := (F215.other W222 (Or.inl nac))
  obtain ⟨T225, X225, e225, st225⟩ := getF X222 hx hZ hown (host := "") (Or.inl (hw _ (List.mem_of_getElem? (i := 17) rfl))) Via.refl e222 F224 (g := (mkF m 119 #[.val (.ref a1), .val (.int p2), .val (.int (own_probe g1 f1 p2 (31 : Int32) 32 (p2 &&& (31 : Int32))))] [(.ref a1), (.int (2 : Int32))])) rfl rfl (hb hby d_prog_46_method_7_119)
  refine own_go st225 ?_
  show OwnGo p e below _ (T225.setTop (mkF m 122 #[.val (.ref a1), .val (.int p2), .val (.int (own_probe g1 f1 p2 (31 : Int32) 32 (p2 &&& (31 : Int32))))] [(.int (s1 + (1 : Int32))), (.int (2 : Int32))]))
  refine own_go (fun _ k => XS.imul X225.here hx rfl (hb hby d_prog_46_method_7_122) rfl k) ?_
  show OwnGo p e below _ (T225.setTop (mkF m 123 #[.val (.ref a1), .val (.int p2), .val (.int (own_probe g1 f1 p2 (31 : Int32) 32 (p2 &&& (31 : Int32))))] [(.int ((2 : Int32) * (s1 + (1 : Int32))))]))
  refine own_go (fun _ k => XS.aloadN X225.here hx rfl (hb hby d_prog_46_method_7_123) rfl rfl k) ?_
  show OwnGo p e below _ (T225.setTop (mkF m 124 #[.val (.ref a1), .val (.int p2), .val (.int (own_probe g1 f1 p2 (31 : Int32) 32 (p2 &&& (31 : Int32))))] [(.ref a1), (.int ((2 : Int32) * (s1 + (1 : Int32))))]))
  have F226 := (F217.other W222 (Or.inl nac))
  obtain ⟨T227, X227, e227, st227⟩ := getF X225 hx hZ hown (host := "") (Or.inl (hw _ (List.mem_of_getElem? (i := 34) rfl))) Via.refl e225 F226 (g := (mkF m 124 #[.val (.ref a1), .val (.int p2), .val (.int (own_probe g1 f1 p2 (31 : Int32) 32 (p2 &&& (31 : Int32))))] [(.ref a1), (.int ((2 : Int32) * (s1 + (1 : Int32))))])) rfl rfl (hb hby d_prog_46_method_7_124)
  refine own_go st227 ?_
  show OwnGo p e below _ (T227.setTop (mkF m 127 #[.val (.ref a1), .val (.int p2), .val (.int (own_probe g1 f1 p2 (31 : Int32) 32 (p2 &&& (31 : Int32))))] [(.ref b2), (.int ((2 : Int32) * (s1 + (1 : Int32))))]))
  obtain ⟨c228, Ar228, S228, M228, H228⟩ := (id V222)
  refine own_go (fun _ k => X227.arraylength hx (cell := c228) (by rw [e227]; exact Ar228.1) (State.isArrayOf_alike hZ.alike Ar228.2.1) (g := (mkF m 127 #[.val (.ref a1), .val (.int p2), .val (.int (own_probe g1 f1 p2 (31 : Int32) 32 (p2 &&& (31 : Int32))))] [(.ref b2), (.int ((2 : Int32) * (s1 + (1 : Int32))))])) rfl (rest := [(.int ((2 : Int32) * (s1 + (1 : Int32))))]) rfl (hb hby d_prog_46_method_7_127) _ k) ?_
  rw [len_of S228 (own_nn (by decide))]
  show OwnGo p e below _ (T227.setTop (mkF m 128 #[.val (.ref a1), .val (.int p2), .val (.int (own_probe g1 f1 p2 (31 : Int32) 32 (p2 &&& (31 : Int32))))] [(.int (32 : Int32)), (.int ((2 : Int32) * (s1 + (1 : Int32))))]))
  refine own_go (fun _ k => XS.icmpNo X227.here hx rfl (hb hby d_prog_46_method_7_128) rfl (tlt (own_ltI (by rw [own_dbl hs0 (by omega), (show (32 : Int32).toInt = 32 from by decide)]; omega))).2.2.2 k) ?_
  show OwnGo p e below _ (T227.setTop (mkF m 131 #[.val (.ref a1), .val (.int p2), .val (.int (own_probe g1 f1 p2 (31 : Int32) 32 (p2 &&& (31 : Int32))))] []))
  refine own_go (fun _ k => XS.aloadN X227.here hx rfl (hb hby d_prog_46_method_7_131) rfl rfl k) ?_
  show OwnGo p e below _ (T227.setTop (mkF m 132 #[.val (.ref a1), .val (.int p2), .val (.int (own_probe g1 f1 p2 (31 : Int32) 32 (p2 &&& (31 : Int32))))] [(.ref a1)]))
  refine own_go (fun _ k => XS.aloadN X227.here hx rfl (hb hby d_prog_46_method_7_132) rfl rfl k) ?_
  show OwnGo p e below _ (T227.setTop (mkF m 133 #[.val (.ref a1), .val (.int p2), .val (.int (own_probe g1 f1 p2 (31 : Int32) 32 (p2 &&& (31 : Int32))))] [(.ref a1), (.ref a1)]))
  obtain ⟨T229, X229, e229, st229⟩ := getF X227 hx hZ hown (host := "") (Or.inl (hw _ (List.mem_of_getElem? (i := 34) rfl))) Via.refl e227 F226 (g := (mkF m 133 #[.val (.ref a1), .val (.int p2), .val (.int (own_probe g1 f1 p2 (31 : Int32) 32 (p2 &&& (31 : Int32))))] [(.ref a1), (.ref a1)])) rfl rfl (hb hby d_prog_46_method_7_133)
  refine own_go st229 ?_
  show OwnGo p e below _ (T229.setTop (mkF m 136 #[.val (.ref a1), .val (.int p2), .val (.int (own_probe g1 f1 p2 (31 : Int32) 32 (p2 &&& (31 : Int32))))] [(.ref b2), (.ref a1)]))
  obtain ⟨c230, Ar230, S230, M230, H230⟩ := (id V222)
  refine own_go (fun _ k => X229.arraylength hx (cell := c230) (by rw [e229]; exact Ar230.1) (State.isArrayOf_alike hZ.alike Ar230.2.1) (g := (mkF m 136 #[.val (.ref a1), .val (.int p2), .val (.int (own_probe g1 f1 p2 (31 : Int32) 32 (p2 &&& (31 : Int32))))] [(.ref b2), (.ref a1)])) rfl (rest := [(.ref a1)]) rfl (hb hby d_prog_46_method_7_136) _ k) ?_
  rw [len_of S230 (own_nn (by decide))]
  show OwnGo p e below _ (T229.setTop (mkF m 137 #[.val (.ref a1), .val (.int p2), .val (.int (own_probe g1 f1 p2 (31 : Int32) 32 (p2 &&& (31 : Int32))))] [(.int (32 : Int32)), (.ref a1)]))
  refine own_go (fun _ k => XS.iconst X229.here hx rfl (hb hby d_prog_46_method_7_137) k) ?_
  show OwnGo p e below _ (T229.setTop (mkF m 138 #[.val (.ref a1), .val (.int p2), .val (.int (own_probe g1 f1 p2 (31 : Int32) 32 (p2 &&& (31 : Int32))))] [(.int (2 : Int32)), (.int (32 : Int32)), (.ref a1)]))
  refine own_go (fun _ k => XS.imul X229.here hx rfl (hb hby d_prog_46_method_7_138) rfl k) ?_
  show OwnGo p e below _ (T229.setTop (mkF m 139 #[.val (.ref a1), .val (.int p2), .val (.int (own_probe g1 f1 p2 (31 : Int32) 32 (p2 &&& (31 : Int32))))] [(.int ((32 : Int32) * (2 : Int32))), (.ref a1)]))
  rw [show ((32 : Int32) * (2 : Int32)) = (64 : Int32) from by decide]
  show OwnGo p e below _ (T229.setTop (mkF m 139 #[.val (.ref a1), .val (.int p2), .val (.int (own_probe g1 f1 p2 (31 : Int32) 32 (p2 &&& (31 : Int32))))] [(.int (64 : Int32)), (.ref a1)]))
  have F231 := ((F214.wr W215).wr W222)
  have F232 := (((PF1.other W210 (Or.inl nab)).other W215 (Or.inr (slot_ne (a0 := a0) (C := "com/example/reweave/reweave/control/Keys") (Or.inl (hw _ (List.mem_of_getElem? (i := 28) rfl))) (Or.inl (hw _ (List.mem_of_getElem? (i := 18) rfl))) (by decide) (t := (.array .int)) (t' := .int) (by decide) (by decide)))).other W222 (Or.inl nac))
  have F233 := ((V210.other W215 (Ne.symm nab)).other W222 nbc)
  obtain ⟨cl234, hcl234, hob234⟩ := F231.cell
  obtain ⟨_, _, ⟨T234, L234, k234, n234⟩, -, X234, ⟨Lc234, hQ234, l234, y234, z234⟩, st234⟩ := X229.privateBack hx (y := (⟨"com/example/reweave/reweave/control/Keys", "reslot", "(I)V"⟩ : MethodName)) hown (mvT hZ (hw _ (List.mem_of_getElem? (i := 41) rfl))) (mvT hZ (hw _ (List.mem_of_getElem? (i := 42) rfl))) (own_selp hZ (hw _ (List.mem_of_getElem? (i := 20) rfl)) (hw _ (List.mem_of_getElem? (i := 43) rfl)) (hw _ (List.mem_of_getElem? (i := 42) rfl)) (by decide)) (Cond.privateMethod_at (mvP hZ (hw _ (List.mem_of_getElem? (i := 43) rfl)) (args := #[]))) (mvT hZ (hw _ (List.mem_of_getElem? (i := 44) rfl))) (by decide) (backOf (W := 0) (rm_re64 l Z a0 hw [] aNONE F0 a1 b1 z1 (own_upd f1 (s1).toNatClampNeg p2) (s1 + (1 : Int32)) (Value.ref b2) h222 n0 O222 F231 F232 F224 F226 F233 ge1 nab hz1 (by rw [(own_succ hs0 (by omega))]; omega) (by rw [(own_succ hs0 (by omega))]; omega) (by rw [(own_succ hs0 (by omega))]; omega)) hZ (hw _ (List.mem_of_getElem? (i := 44) rfl)) (hw _ (List.mem_of_getElem? (i := 4) rfl)) (by decide) (by decide)) (g := (mkF m 139 #[.val (.ref a1), .val (.int p2), .val (.int (own_probe g1 f1 p2 (31 : Int32) 32 (p2 &&& (31 : Int32))))] [(.int (64 : Int32)), (.ref a1)])) rfl (by rw [hml]; rfl) (Steps.refl _) (a := a1) (by rw [e229]; exact hcl234) hob234 (argsL := [(.int (64 : Int32))]) (rest := []) (lenOf pd_I__V rfl) rfl (by show 2 * 0 + _ ≤ _; exact Nat.le_of_eq rfl) (hb hby d_prog_46_method_7_139) (fun _ _ => ⟨rfl, e229, (by decide : 0 + 1 ≤ _), (by decide : 0 + 64 ≤ _)⟩)
  dsimp only [Pt.U, Pt.locs, Pt.cells, Pt.slots] at X234 l234 y234 z234 st234 hQ234
  subst l234 y234 z234
  obtain ⟨r9_234, g9_234, rfl, Nq234, K234, x234_0, x234_1, x234_2, x234_3, x234_4, x234_5⟩ := hQ234
  have N234 := Fr.app N222 Nq234
  have O234 := O222.keep K234 (allS ge1 all0)
  have e234 : T234.heap = T234.heap := rfl
  have z235 : h0.size ≤ T234.heap.size := Nat.le_trans z223 K234.1
  have gex234_5 : n0 ≤ r9_234 := Nat.le_trans (own_sz O222) x234_5
  have ghx234_5 : h0.size ≤ r9_234 := Nat.le_trans z223 x234_5
  have ne236 : a1 ≠ r9_234 := own_newlt F231.lt x234_5
  have ne237 : b1 ≠ r9_234 := own_newlt F233.lt x234_5
  have ne238 : b2 ≠ r9_234 := own_newlt V222.lt x234_5
  refine own_go (fun _ k => st234.trans k) ?_
  show OwnGo p e below _ (T234.setTop (mkF m 142 #[.val (.ref a1), .val (.int p2), .val (.int (own_probe g1 f1 p2 (31 : Int32) 32 (p2 &&& (31 : Int32))))] []))
  refine own_go (fun _ k => XS.goto X234.here hx rfl (pc0 := 142) (pc' := 160) rfl (hb hby d_prog_46_method_7_142) (by decide) (by decide) k) ?_
  show OwnGo p e below _ (T234.setTop (mkF m 160 #[.val (.ref a1), .val (.int p2), .val (.int (own_probe g1 f1 p2 (31 : Int32) 32 (p2 &&& (31 : Int32))))] []))
  obtain ⟨fs, hr, hrun, hended, hW, hsame⟩ := X234.leave (v := none) (fun h => rfl)
  refine ⟨_, _, X234.returnOut hx Bd.returns (hb hby d_prog_46_method_7_160) hr, hrun, hended, _, _, rfl, ?_, ⟨_, rfl⟩, hW, hsame.mono (by decide) (by decide)⟩
  show Q_add32grow Z aNONE a1 p2 b1 z1 f1 s1 b2 g1 h0 n0 _ T234.heap _
  rw [e234]
  have F239 := (F233.keep K234 (ninS (Ne.symm nab) nin0))
  exact ⟨r9_234, g9_234, rfl, N234, (((((Keep.refl _ [a1, b1, b2]).wr W210 (Or.inl (List.mem_of_getElem? (i := 1) rfl))).wr W215 (Or.inl (List.mem_of_getElem? (i := 0) rfl))).wr W222 (Or.inl (List.mem_of_getElem? (i := 2) rfl))).trans K234 (allS (P := fun x => x ∈ _ ∨ _ ≤ x) (Or.inl (List.mem_of_getElem? (i := 0) rfl)) all0)), x234_0, x234_1, F239, x234_2, x234_3, x234_4, ghx234_5⟩
def Q_add64hit (Z : State) (aNONE : Addr) (a1 : Addr) (p2 : Int32) (b1 : Addr) (z1 : Int32) (f1 : Nat → Int32) (s1 : Int32) (b2 : Addr) (g1 : Nat → Int32) (h0 : Heap) (n0 : Nat) (v : Option Value) (h : Heap) (L : List Loc) : Prop := v = none ∧ Fr n0 L ∧ h = h0
theorem ef_add64hit (m : MethodId) (x0 : Addr) (x1 : Int32) : entryFrame m #[(.ref x0), (.int x1)] 3 = mkF m 0 #[.val (.ref x0), .val (.int x1), .unset] [] := by first | (simp [entryFrame, mkF, argsToLocals, Value.category]; done) | rfl
set_option maxRecDepth 65536 in
set_option maxHeartbeats 40000000 in
theorem rm_add64hit (l : Launch) (Z : State) (a0 : Array Value) (hw : ∀ d ∈ tables_1, d.before a0 Z = true) (ws : List Jvm.Cond) (aNONE : Addr) (F0 : OwnFacts Z aNONE) (a1 : Addr) (p2 : Int32) (b1 : Addr) (z1 : Int32) (f1 : Nat → Int32) (s1 : Int32) (b2 : Addr) (g1 : Nat → Int32) (h0 : Heap) (n0 : Nat) (O0 : Old Z n0 h0) (PE1 : Exa Z h0 a1 "com/example/reweave/reweave/control/Keys") (PF1 : Fld Z h0 a1 "com/example/reweave/reweave/control/Keys" "numbers" "[I" (.ref b1)) (PF2 : Fld Z h0 a1 "com/example/reweave/reweave/control/Keys" "size" "I" (.int s1)) (PV1 : IA Z h0 b1 (z1).toNatClampNeg f1) (ge1 : n0 ≤ a1) (ge2 : n0 ≤ b1) (nab : a1 ≠ b1) (hz1 : 0 ≤ z1.toInt) (hs0 : 0 ≤ (s1).toInt) (hsz : (s1).toInt ≤ z1.toInt) (hzz : z1.toInt < 1000) (PF3 : Fld Z h0 a1 "com/example/reweave/reweave/control/Keys" "slots" "[I" (.ref b2)) (PV2 : IA Z h0 b2 ((64 : Int32)).toNatClampNeg g1) (ge3 : n0 ≤ b2) (nac : a1 ≠ b2) (nbc : b1 ≠ b2) (hO : OwnS (64 : Int32) g1 s1) (hsS : s1.toInt < 64) (hq : ¬ (g1 ((own_probe g1 f1 p2 (63 : Int32) 64 (p2 &&& (63 : Int32)))).toNatClampNeg) = (0 : Int32)) :
    MetFree l (⟨"com/example/reweave/reweave/control/Keys", "add", "(I)V"⟩ : MethodName) (head1 (Jvm.Cond.code (⟨"com/example/reweave/reweave/control/Keys", "add", "(I)V"⟩ : MethodName) prog_46_method_7_code 3 none :: ws) ({ frames := 1, cells := 0, slots := 0, locals := 15 } : Room)) (fun a U => a = #[(.ref a1), (.int p2)] ∧ Z.Warmed39 U.vm ∧ U.heap = h0) (fun _ _ _ _ _ => True) (fun _ U o U' => ∃ v L, o = .returned v ∧ Q_add64hit Z aNONE a1 p2 b1 z1 f1 s1 b2 g1 h0 n0 v U'.heap L ∧ FrameEnd U o U' L ({ frames := 1, cells := 0, slots := 0, locals := 15 } : Room).cells ({ frames := 1, cells := 0, slots := 0, locals := 15 } : Room).slots) := by
  refine MetFree.of_bodySF (plainFor_of_name pn_com_example_reweave_reweave_control_Keys) hisR ?_
  intro p e s m args below meth c s₁ Bd hml0 hP hK
  obtain ⟨rfl, hZ, hh⟩ := hP
  have hx := Bd.exec
  have hby := Bd.bytes
  have hml : c.maxLocals = 3 := hml0
  have hown : s.vm.findClass "com/example/reweave/reweave/control/Keys" = some m.cls := findClass_of_methodNamed Bd.named
  have hnm := (name_of_methodNamed Bd.named Bd.method).1
  have X0 : Stand p l e ({ frames := 1, cells := 0, slots := 0, locals := 15 } : Room) s m #[(.ref a1), (.int p2)] below meth c s₁ [] 0 0 := Stand.of_body Bd
  have e0 : s₁.heap = h0 := by rw [← hh, Bd.state]; rfl
  have N0 := Fr.nil n0
  refine own_go (Q := fun o U' => ∃ v L, o = .returned v ∧ Q_add64hit Z aNONE a1 p2 b1 z1 f1 s1 b2 g1 h0 n0 v U'.heap L ∧ FrameEnd s o U' L ({ frames := 1, cells := 0, slots := 0, locals := 15 } : Room).cells ({ frames := 1, cells := 0, slots := 0, locals := 15 } : Room).slots) (fun t k => castTop (ef_add64hit m a1 p2) k) ?_
  show OwnGo p e below _ (s₁.setTop (mkF m 0 #[.val (.ref a1), .val (.int p2), .unset] []))
  refine own_go (fun _ k => XS.aloadN X0.here hx rfl (hb hby d_prog_46_method_7_0) rfl rfl k) ?_
  show OwnGo p e below _ (s₁.setTop (mkF m 1 #[.val (.ref a1), .val (.int p2), .unset] [(.ref a1)]))
  obtain ⟨T240, X240, e240, st240⟩ := getS X0 hx hZ hown (host := "") (hw _ (List.mem_of_getElem? (i := 6) rfl)) Via.refl e0 (F0.1.ext O0.2) (g := (mkF m 1 #[.val (.ref a1), .val (.int p2), .unset] [(.ref a1)])) rfl (hb hby d_prog_46_method_7_1)
  refine own_go st240 ?_
  show OwnGo p e below _ (T240.setTop (mkF m 4 #[.val (.ref a1), .val (.int p2), .unset] [(.ref aNONE), (.ref a1)]))
  refine own_go (fun _ k => acmp X240 hx rfl (cd := .ne) (o := 13) (x := (.ref a1)) (y := (.ref aNONE)) (pc0 := 4) (pc' := 17) rfl rfl rfl (hb hby d_prog_46_method_7_4) rfl (own_refne (Ne.symm (O0.ne F0.2.1.lt ge1))) (by decide) (by decide) k) ?_
  show OwnGo p e below _ (T240.setTop (mkF m 17 #[.val (.ref a1), .val (.int p2), .unset] []))
  refine own_go (fun _ k => XS.iconst X240.here hx rfl (hb hby d_prog_46_method_7_17) k) ?_
  show OwnGo p e below _ (T240.setTop (mkF m 18 #[.val (.ref a1), .val (.int p2), .unset] [(.int (-1 : Int32))]))
  refine own_go (fun _ k => XS.istoreN X240.here hx rfl (hb hby d_prog_46_method_7_18) rfl (l' := #[.val (.ref a1), .val (.int p2), .val (.int (-1 : Int32))]) rfl k) ?_
  show OwnGo p e below _ (T240.setTop (mkF m 19 #[.val (.ref a1), .val (.int p2), .val (.int (-1 : Int32))] []))
  refine own_go (fun _ k => XS.aloadN X240.here hx rfl (hb hby d_prog_46_method_7_19) rfl rfl k) ?_
  show OwnGo p e below _ (T240.setTop (mkF m 20 #[.val (.ref a1), .val (.int p2), .val (.int (-1 : Int32))] [(.ref a1)]))
  obtain ⟨T241, X241, e241, st241⟩ := getF X240 hx hZ hown (host := "") (Or.inl (hw _ (List.mem_of_getElem? (i := 34) rfl))) Via.refl e240 PF3 (g := (mkF m 20 #[.val (.ref a1), .val (.int p2), .val (.int (-1 : Int32))] [(.ref a1)])) rfl rfl (hb hby d_prog_46_method_7_20)
  refine own_go st241 ?_
  show OwnGo p e below _ (T241.setTop (mkF m 23 #[.val (.ref a1), .val (.int p2), .val (.int (-1 : Int32))] [(.ref b2)]))
  refine own_go (fun _ k => XS.ifnullNo X241.here hx rfl (hb hby d_prog_46_method_7_23) rfl k) ?_
  show OwnGo p e below _ (T241.setTop (mkF m 26 #[.val (.ref a1), .val (.int p2), .val (.int (-1 : Int32))] []))
  refine own_go (fun _ k => XS.aloadN X241.here hx rfl (hb hby d_prog_46_method_7_26) rfl rfl k) ?_
  show OwnGo p e below _ (T241.setTop (mkF m 27 #[.val (.ref a1), .val (.int p2), .val (.int (-1 : Int32))] [(.ref a1)]))
  refine own_go (fun _ k => XS.iloadN X241.here hx rfl (hb hby d_prog_46_method_7_27) rfl k) ?_
  show OwnGo p e below _ (T241.setTop (mkF m 28 #[.val (.ref a1), .val (.int p2), .val (.int (-1 : Int32))] [(.int p2), (.ref a1)]))
  obtain ⟨cl242, hcl242, hob242⟩ := PE1.cell
  obtain ⟨_, _, ⟨T242, L242, k242, n242⟩, -, X242, ⟨Lc242, hQ242, l242, y242, z242⟩, st242⟩ := X241.privateBack hx (y := (⟨"com/example/reweave/reweave/control/Keys", "slotOf", "(I)I"⟩ : MethodName)) hown (mvT hZ (hw _ (List.mem_of_getElem? (i := 45) rfl))) (mvT hZ (hw _ (List.mem_of_getElem? (i := 46) rfl))) (own_selp hZ (hw _ (List.mem_of_getElem? (i := 20) rfl)) (hw _ (List.mem_of_getElem? (i := 47) rfl)) (hw _ (List.mem_of_getElem? (i := 46) rfl)) (by decide)) (Cond.privateMethod_at (mvP hZ (hw _ (List.mem_of_getElem? (i := 47) rfl)) (args := #[]))) (mvT hZ (hw _ (List.mem_of_getElem? (i := 48) rfl))) (by decide) (backOf (W := 0) (rm_slot64 l Z a0 hw [] aNONE F0 a1 p2 b1 b2 z1 f1 g1 (own_probe g1 f1 p2 (63 : Int32) 64 (p2 &&& (63 : Int32))) h0 n0 O0 PF1 PF3 PV1 PV2 hz1 (fun j hj => ⟨(hO.1 j (by rw [own_n64]; exact hj)).1, Int.le_trans (hO.1 j (by rw [own_n64]; exact hj)).2 hsz⟩) (by have q := OwnS.free hO hs0 (by rw [(show (64 : Int32).toInt = 64 from by decide)]; omega); rw [own_n64] at q; exact q) rfl) hZ (hw _ (List.mem_of_getElem? (i := 48) rfl)) (hw _ (List.mem_of_getElem? (i := 4) rfl)) (by decide) (by decide)) (g := (mkF m 28 #[.val (.ref a1), .val (.int p2), .val (.int (-1 : Int32))] [(.int p2), (.ref a1)])) rfl (by rw [hml]; rfl) (Steps.refl _) (a := a1) (by rw [e241]; exact hcl242) hob242 (argsL := [(.int p2)]) (rest := []) (lenOf pd_I__I rfl) rfl (by show 2 * 0 + _ ≤ _; exact Nat.le_of_eq rfl) (hb hby d_prog_46_method_7_28) (fun _ _ => ⟨rfl, e241, (by decide : 0 + 0 ≤ _), (by decide : 0 + 0 ≤ _)⟩)
  dsimp only [Pt.U, Pt.locs, Pt.cells, Pt.slots] at X242 l242 y242 z242 st242 hQ242
  subst l242 y242 z242
  obtain ⟨rfl, Nq242, K242⟩ := hQ242
  have N242 := Fr.app N0 Nq242
  refine own_go (fun _ k => st242.trans k) ?_
  show OwnGo p e below _ (T242.setTop (mkF m 31 #[.val (.ref a1), .val (.int p2), .val (.int (-1 : Int32))] [(.int (own_probe g1 f1 p2 (63 : Int32) 64 (p2 &&& (63 : Int32))))]))
  refine own_go (fun _ k => XS.istoreN X242.here hx rfl (hb hby d_prog_46_method_7_31) rfl (l' := #[.val (.ref a1), .val (.int p2), .val (.int (own_probe g1 f1 p2 (63 : Int32) 64 (p2 &&& (63 : Int32))))]) rfl k) ?_
  show OwnGo p e below _ (T242.setTop (mkF m 32 #[.val (.ref a1), .val (.int p2), .val (.int (own_probe g1 f1 p2 (63 : Int32) 64 (p2 &&& (63 : Int32))))] []))
  refine own_go (fun _ k => XS.aloadN X242.here hx rfl (hb hby d_prog_46_method_7_32) rfl rfl k) ?_
  show OwnGo p e below _ (T242.setTop (mkF m 33 #[.val (.ref a1), .val (.int p2), .val (.int (own_probe g1 f1 p2 (63 : Int32) 64 (p2 &&& (63 : Int32))))] [(.ref a1)]))
  obtain ⟨T243, X243, e243, st243⟩ := getF X242 hx hZ hown (host := "") (Or.inl (hw _ (List.mem_of_getElem? (i := 34) rfl))) Via.refl K242 PF3 (g := (mkF m 33 #[.val (.ref a1), .val (.int p2), .val (.int (own_probe g1 f1 p2 (63 : Int32) 64 (p2 &&& (63 : Int32))))] [(.ref a1)])) rfl rfl (hb hby d_prog_46_method_7_33)
  refine own_go st243 ?_
  show OwnGo p e below _ (T243.setTop (mkF m 36 #[.val (.ref a1), .val (.int p2), .val (.int (own_probe g1 f1 p2 (63 : Int32) 64 (p2 &&& (63 : Int32))))] [(.ref b2)]))
  refine own_go (fun _ k => XS.iloadN X243.here hx rfl (hb hby d_prog_46_method_7_36) rfl k) ?_
  show OwnGo p e below _ (T243.setTop (mkF m 37 #[.val (.ref a1), .val (.int p2), .val (.int (own_probe g1 f1 p2 (63 : Int32) 64 (p2 &&& (63 : Int32))))] [(.int (own_probe g1 f1 p2 (63 : Int32) 64 (p2 &&& (63 : Int32)))), (.ref b2)]))
  obtain ⟨c244, Ar244, S244, M244, H244⟩ := (id PV2)
  have b244 : 0 ≤ ((own_probe g1 f1 p2 (63 : Int32) 64 (p2 &&& (63 : Int32)))).toInt ∧ ((own_probe g1 f1 p2 (63 : Int32) 64 (p2 &&& (63 : Int32)))).toInt < ((64 : Int32)).toInt := ⟨(own_probe_rng (k := 6) (by decide) (by decide) 64 _ (own_and_rng _ (63 : Int32) (k := 6) (by decide) (by decide)).1 (own_and_rng _ (63 : Int32) (k := 6) (by decide) (by decide)).2).1, (by rw [(show (64 : Int32).toInt = 64 from by decide)]; exact (own_probe_rng (k := 6) (by decide) (by decide) 64 _ (own_and_rng _ (63 : Int32) (k := 6) (by decide) (by decide)).1 (own_and_rng _ (63 : Int32) (k := 6) (by decide) (by decide)).2).2)⟩
  refine own_go (fun _ k => X243.iaload hx (j := (own_probe g1 f1 p2 (63 : Int32) 64 (p2 &&& (63 : Int32)))) (v := (.int (g1 ((own_probe g1 f1 p2 (63 : Int32) 64 (p2 &&& (63 : Int32)))).toNatClampNeg))) (by rw [e243]; exact Ar244.1) (State.isArrayOf_alike hZ.alike Ar244.2.1) Ar244.2.2 (own_inbz S244 (by decide) b244.1 b244.2) (IA.atz H244 (by decide) b244.1 b244.2) (g := (mkF m 37 #[.val (.ref a1), .val (.int p2), .val (.int (own_probe g1 f1 p2 (63 : Int32) 64 (p2 &&& (63 : Int32))))] [(.int (own_probe g1 f1 p2 (63 : Int32) 64 (p2 &&& (63 : Int32)))), (.ref b2)])) rfl rfl (hb hby d_prog_46_method_7_37) _ k) ?_
  show OwnGo p e below _ (T243.setTop (mkF m 38 #[.val (.ref a1), .val (.int p2), .val (.int (own_probe g1 f1 p2 (63 : Int32) 64 (p2 &&& (63 : Int32))))] [(.int (g1 ((own_probe g1 f1 p2 (63 : Int32) 64 (p2 &&& (63 : Int32)))).toNatClampNeg))]))
  refine own_go (fun _ k => XS.ifNo X243.here hx rfl (hb hby d_prog_46_method_7_38) rfl ((if0 _ _).trans (feq hq).1) k) ?_
  show OwnGo p e below _ (T243.setTop (mkF m 41 #[.val (.ref a1), .val (.int p2), .val (.int (own_probe g1 f1 p2 (63 : Int32) 64 (p2 &&& (63 : Int32))))] []))
  obtain ⟨fs, hr, hrun, hended, hW, hsame⟩ := X243.leave (v := none) (fun h => rfl)
  refine ⟨_, _, X243.returnOut hx Bd.returns (hb hby d_prog_46_method_7_41) hr, hrun, hended, _, _, rfl, ?_, ⟨_, rfl⟩, hW, hsame.mono (by decide) (by decide)⟩
  show Q_add64hit Z aNONE a1 p2 b1 z1 f1 s1 b2 g1 h0 n0 _ T243.heap _
  rw [e243]
  exact ⟨rfl, N242, rfl⟩
def Q_add64miss (Z : State) (aNONE : Addr) (a1 : Addr) (p2 : Int32) (b1 : Addr) (z1 : Int32) (f1 : Nat → Int32) (s1 : Int32) (b2 : Addr) (g1 : Nat → Int32) (h0 : Heap) (n0 : Nat) (v : Option Value) (h : Heap) (L : List Loc) : Prop := v = none ∧ Fr n0 L ∧ Keep h0 h [a1, b1, b2] ∧ Fld Z h a1 "com/example/reweave/reweave/control/Keys" "numbers" "[I" (.ref b1) ∧ Fld Z h a1 "com/example/reweave/reweave/control/Keys" "size" "I" (.int (s1 + (1 : Int32))) ∧ IA Z h b1 (z1).toNatClampNeg (own_upd f1 (s1).toNatClampNeg p2) ∧ Fld Z h a1 "com/example/reweave/reweave/control/Keys" "slots" "[I" (.ref b2) ∧ IA Z h b2 ((64 : Int32)).toNatClampNeg (own_upd g1 ((own_probe g1 f1 p2 (63 : Int32) 64 (p2 &&& (63 : Int32)))).toNatClampNeg (s1 + (1 : Int32))) ∧ OwnS (64 : Int32) (own_upd g1 ((own_probe g1 f1 p2 (63 : Int32) 64 (p2 &&& (63 : Int32)))).toNatClampNeg (s1 + (1 : Int32))) (s1 + (1 : Int32))
theorem ef_add64miss (m : MethodId) (x0 : Addr) (x1 : Int32) : entryFrame m #[(.ref x0), (.int x1)] 3 = mkF m 0 #[.val (.ref x0), .val (.int x1), .unset] [] := by first | (simp [entryFrame, mkF, argsToLocals, Value.category]; done) | rfl
set_option maxRecDepth 65536 in
set_option maxHeartbeats 40000000 in
theorem rm_add64miss (l : Launch) (Z : State) (a0 : Array Value) (hw : ∀ d ∈ tables_1, d.before a0 Z = true) (ws : List Jvm.Cond) (aNONE : Addr) (F0 : OwnFacts Z aNONE) (a1 : Addr) (p2 : Int32) (b1 : Addr) (z1 : Int32) (f1 : Nat → Int32) (s1 : Int32) (b2 : Addr) (g1 : Nat → Int32) (h0 : Heap) (n0 : Nat) (O0 : Old Z n0 h0) (PE1 : Exa Z h0 a1 "com/example/reweave/reweave/control/Keys") (PF1 : Fld Z h0 a1 "com/example/reweave/reweave/control/Keys" "numbers" "[I" (.ref b1)) (PF2 : Fld Z h0 a1 "com/example/reweave/reweave/control/Keys" "size" "I" (.int s1)) (PV1 : IA Z h0 b1 (z1).toNatClampNeg f1) (ge1 : n0 ≤ a1) (ge2 : n0 ≤ b1) (nab : a1 ≠ b1) (hz1 : 0 ≤ z1.toInt) (hs0 : 0 ≤ (s1).toInt) (hsz : (s1).toInt ≤ z1.toInt) (hzz : z1.toInt < 1000) (PF3 : Fld Z h0 a1 "com/example/reweave/reweave/control/Keys" "slots" "[I" (.ref b2)) (PV2 : IA Z h0 b2 ((64 : Int32)).toNatClampNeg g1) (ge3 : n0 ≤ b2) (nac : a1 ≠ b2) (nbc : b1 ≠ b2) (hO : OwnS (64 : Int32) g1 s1) (hsS : s1.toInt < 64) (hq : (g1 ((own_probe g1 f1 p2 (63 : Int32) 64 (p2 &&& (63 : Int32)))).toNatClampNeg) = (0 : Int32)) (hlt : (s1).toInt < z1.toInt) (h2 : 2 * (s1.toInt + 1) ≤ 64) :
    MetFree l (⟨"com/example/reweave/reweave/control/Keys", "add", "(I)V"⟩ : MethodName) (head1 (Jvm.Cond.code (⟨"com/example/reweave/reweave/control/Keys", "add", "(I)V"⟩ : MethodName) prog_46_method_7_code 3 none :: ws) ({ frames := 1, cells := 0, slots := 0, locals := 15 } : Room)) (fun a U => a = #[(.ref a1), (.int p2)] ∧ Z.Warmed39 U.vm ∧ U.heap = h0) (fun _ _ _ _ _ => True) (fun _ U o U' => ∃ v L, o = .returned v ∧ Q_add64miss Z aNONE a1 p2 b1 z1 f1 s1 b2 g1 h0 n0 v U'.heap L ∧ FrameEnd U o U' L ({ frames := 1, cells := 0, slots := 0, locals := 15 } : Room).cells ({ frames := 1, cells := 0, slots := 0, locals := 15 } : Room).slots) := by
  refine MetFree.of_bodySF (plainFor_of_name pn_com_example_reweave_reweave_control_Keys) hisR ?_
  intro p e s m args below meth c s₁ Bd hml0 hP hK
  obtain ⟨rfl, hZ, hh⟩ := hP
  have hx := Bd.exec
  have hby := Bd.bytes
  have hml : c.maxLocals = 3 := hml0
  have hown : s.vm.findClass "com/example/reweave/reweave/control/Keys" = some m.cls := findClass_of_methodNamed Bd.named
  have hnm := (name_of_methodNamed Bd.named Bd.method).1
  have X0 : Stand p l e ({ frames := 1, cells := 0, slots := 0, locals := 15 } : Room) s m #[(.ref a1), (.int p2)] below meth c s₁ [] 0 0 := Stand.of_body Bd
  have e0 : s₁.heap = h0 := by rw [← hh, Bd.state]; rfl
  have N0 := Fr.nil n0
  refine own_go (Q := fun o U' => ∃ v L, o = .returned v ∧ Q_add64miss Z aNONE a1 p2 b1 z1 f1 s1 b2 g1 h0 n0 v U'.heap L ∧ FrameEnd s o U' L ({ frames := 1, cells := 0, slots := 0, locals := 15 } : Room).cells ({ frames := 1, cells := 0, slots := 0, locals := 15 } : Room).slots) (fun t k => castTop (ef_add64miss m a1 p2) k) ?_
  show OwnGo p e below _ (s₁.setTop (mkF m 0 #[.val (.ref a1), .val (.int p2), .unset] []))
  refine own_go (fun _ k => XS.aloadN X0.here hx rfl (hb hby d_prog_46_method_7_0) rfl rfl k) ?_
  show OwnGo p e below _ (s₁.setTop (mkF m 1 #[.val (.ref a1), .val (.int p2), .unset] [(.ref a1)]))
  obtain ⟨T245, X245, e245, st245⟩ := getS X0 hx hZ hown (host := "") (hw _ (List.mem_of_getElem? (i := 6) rfl)) Via.refl e0 (F0.1.ext O0.2) (g := (mkF m 1 #[.val (.ref a1), .val (.int p2), .unset] [(.ref a1)])) rfl (hb hby d_prog_46_method_7_1)
  refine own_go st245 ?_
  show OwnGo p e below _ (T245.setTop (mkF m 4 #[.val (.ref a1), .val (.int p2), .unset] [(.ref aNONE), (.ref a1)]))
  refine own_go (fun _ k => acmp X245 hx rfl (cd := .ne) (o := 13) (x := (.ref a1)) (y := (.ref aNONE)) (pc0 := 4) (pc' := 17) rfl rfl rfl (hb hby d_prog_46_method_7_4) rfl (own_refne (Ne.symm (O0.ne F0.2.1.lt ge1))) (by decide) (by decide) k) ?_
  show OwnGo p e below _ (T245.setTop (mkF m 17 #[.val (.ref a1), .val (.int p2), .unset] []))
  refine own_go (fun _ k => XS.iconst X245.here hx rfl (hb hby d_prog_46_method_7_17) k) ?_
  show OwnGo p e below _ (T245.setTop (mkF m 18 #[.val (.ref a1), .val (.int p2), .unset] [(.int (-1 : Int32))]))
  refine own_go (fun _ k => XS.istoreN X245.here hx rfl (hb hby d_prog_46_method_7_18) rfl (l' := #[.val (.ref a1), .val (.int p2), .val (.int (-1 : Int32))]) rfl k) ?_
  show OwnGo p e below _ (T245.setTop (mkF m 19 #[.val (.ref a1), .val (.int p2), .val (.int (-1 : Int32))] []))
  refine own_go (fun _ k => XS.aloadN X245.here hx rfl (hb hby d_prog_46_method_7_19) rfl rfl k) ?_
  show OwnGo p e below _ (T245.setTop (mkF m 20 #[.val (.ref a1), .val (.int p2), .val (.int (-1 : Int32))] [(.ref a1)]))
  obtain ⟨T246, X246, e246, st246⟩ := getF X245 hx hZ hown (host := "") (Or.inl (hw _ (List.mem_of_getElem? (i := 34) rfl))) Via.refl e245 PF3 (g := (mkF m 20 #[.val (.ref a1), .val (.int p2), .val (.int (-1 : Int32))] [(.ref a1)])) rfl rfl (hb hby d_prog_46_method_7_20)
  refine own_go st246 ?_
  show OwnGo p e below _ (T246.setTop (mkF m 23 #[.val (.ref a1), .val (.int p2), .val (.int (-1 : Int32))] [(.ref b2)]))
  refine own_go (fun _ k => XS.ifnullNo X246.here hx rfl (hb hby d_prog_46_method_7_23) rfl k) ?_
  show OwnGo p e below _ (T246.setTop (mkF m 26 #[.val (.ref a1), .val (.int p2), .val (.int (-1 : Int32))] []))
  refine own_go (fun _ k => XS.aloadN X246.here hx rfl (hb hby d_prog_46_method_7_26) rfl rfl k) ?_
  show OwnGo p e below _ (T246.setTop (mkF m 27 #[.val (.ref a1), .val (.int p2), .val (.int (-1 : Int32))] [(.ref a1)]))
  refine own_go (fun _ k => XS.iloadN X246.here hx rfl (hb hby d_prog_46_method_7_27) rfl k) ?_
  show OwnGo p e below _ (T246.setTop (mkF m 28 #[.val (.ref a1), .val (.int p2), .val (.int (-1 : Int32))] [(.int p2), (.ref a1)]))
  obtain ⟨cl247, hcl247, hob247⟩ := PE1.cell
  obtain ⟨_, _, ⟨T247, L247, k247, n247⟩, -, X247, ⟨Lc247, hQ247, l247, y247, z247⟩, st247⟩ := X246.privateBack hx (y := (⟨"com/example/reweave/reweave/control/Keys", "slotOf", "(I)I"⟩ : MethodName)) hown (mvT hZ (hw _ (List.mem_of_getElem? (i := 45) rfl))) (mvT hZ (hw _ (List.mem_of_getElem? (i := 46) rfl))) (own_selp hZ (hw _ (List.mem_of_getElem? (i := 20) rfl)) (hw _ (List.mem_of_getElem? (i := 47) rfl)) (hw _ (List.mem_of_getElem? (i := 46) rfl)) (by decide)) (Cond.privateMethod_at (mvP hZ (hw _ (List.mem_of_getElem? (i := 47) rfl)) (args := #[]))) (mvT hZ (hw _ (List.mem_of_getElem? (i := 48) rfl))) (by decide) (backOf (W := 0) (rm_slot64 l Z a0 hw [] aNONE F0 a1 p2 b1 b2 z1 f1 g1 (own_probe g1 f1 p2 (63 : Int32) 64 (p2 &&& (63 : Int32))) h0 n0 O0 PF1 PF3 PV1 PV2 hz1 (fun j hj => ⟨(hO.1 j (by rw [own_n64]; exact hj)).1, Int.le_trans (hO.1 j (by rw [own_n64]; exact hj)).2 hsz⟩) (by have q := OwnS.free hO hs0 (by rw [(show (64 : Int32).toInt = 64 from by decide)]; omega); rw [own_n64] at q; exact q) rfl) hZ (hw _ (List.mem_of_getElem? (i := 48) rfl)) (hw _ (List.mem_of_getElem? (i := 4) rfl)) (by decide) (by decide)) (g := (mkF m 28 #[.val (.ref a1), .val (.int p2), .val (.int (-1 : Int32))] [(.int p2), (.ref a1)])) rfl (by rw [hml]; rfl) (Steps.refl _) (a := a1) (by rw [e246]; exact hcl247) hob247 (argsL := [(.int p2)]) (rest := []) (lenOf pd_I__I rfl) rfl (by show 2 * 0 + _ ≤ _; exact Nat.le_of_eq rfl) (hb hby d_prog_46_method_7_28) (fun _ _ => ⟨rfl, e246, (by decide : 0 + 0 ≤ _), (by decide : 0 + 0 ≤ _)⟩)
  dsimp only [Pt.U, Pt.locs, Pt.cells, Pt.slots] at X247 l247 y247 z247 st247 hQ247
  subst l247 y247 z247
  obtain ⟨rfl, Nq247, K247⟩ := hQ247
  have N247 := Fr.app N0 Nq247
  refine own_go (fun _ k => st247.trans k) ?_
  show OwnGo p e below _ (T247.setTop (mkF m 31 #[.val (.ref a1), .val (.int p2), .val (.int (-1 : Int32))] [(.int (own_probe g1 f1 p2 (63 : Int32) 64 (p2 &&& (63 : Int32))))]))
  refine own_go (fun _ k => XS.istoreN X247.here hx rfl (hb hby d_prog_46_method_7_31) rfl (l' := #[.val (.ref a1), .val (.int p2), .val (.int (own_probe g1 f1 p2 (63 : Int32) 64 (p2 &&& (63 : Int32))))]) rfl k) ?_
  show OwnGo p e below _ (T247.setTop (mkF m 32 #[.val (.ref a1), .val (.int p2), .val (.int (own_probe g1 f1 p2 (63 : Int32) 64 (p2 &&& (63 : Int32))))] []))
  refine own_go (fun _ k => XS.aloadN X247.here hx rfl (hb hby d_prog_46_method_7_32) rfl rfl k) ?_
  show OwnGo p e below _ (T247.setTop (mkF m 33 #[.val (.ref a1), .val (.int p2), .val (.int (own_probe g1 f1 p2 (63 : Int32) 64 (p2 &&& (63 : Int32))))] [(.ref a1)]))
  obtain ⟨T248, X248, e248, st248⟩ := getF X247 hx hZ hown (host := "") (Or.inl (hw _ (List.mem_of_getElem? (i := 34) rfl))) Via.refl K247 PF3 (g := (mkF m 33 #[.val (.ref a1), .val (.int p2), .val (.int (own_probe g1 f1 p2 (63 : Int32) 64 (p2 &&& (63 : Int32))))] [(.ref a1)])) rfl rfl (hb hby d_prog_46_method_7_33)
  refine own_go st248 ?_
  show OwnGo p e below _ (T248.setTop (mkF m 36 #[.val (.ref a1), .val (.int p2), .val (.int (own_probe g1 f1 p2 (63 : Int32) 64 (p2 &&& (63 : Int32))))] [(.ref b2)]))
  refine own_go (fun _ k => XS.iloadN X248.here hx rfl (hb hby d_prog_46_method_7_36) rfl k) ?_
  show OwnGo p e below _ (T248.setTop (mkF m 37 #[.val (.ref a1), .val (.int p2), .val (.int (own_probe g1 f1 p2 (63 : Int32) 64 (p2 &&& (63 : Int32))))] [(.int (own_probe g1 f1 p2 (63 : Int32) 64 (p2 &&& (63 : Int32)))), (.ref b2)]))
  obtain ⟨c249, Ar249, S249, M249, H249⟩ := (id PV2)
  have b249 : 0 ≤ ((own_probe g1 f1 p2 (63 : Int32) 64 (p2 &&& (63 : Int32)))).toInt ∧ ((own_probe g1 f1 p2 (63 : Int32) 64 (p2 &&& (63 : Int32)))).toInt < ((64 : Int32)).toInt := ⟨(own_probe_rng (k := 6) (by decide) (by decide) 64 _ (own_and_rng _ (63 : Int32) (k := 6) (by decide) (by decide)).1 (own_and_rng _ (63 : Int32) (k := 6) (by decide) (by decide)).2).1, (by rw [(show (64 : Int32).toInt = 64 from by decide)]; exact (own_probe_rng (k := 6) (by decide) (by decide) 64 _ (own_and_rng _ (63 : Int32) (k := 6) (by decide) (by decide)).1 (own_and_rng _ (63 : Int32) (k := 6) (by decide) (by decide)).2).2)⟩
  refine own_go (fun _ k => X248.iaload hx (j := (own_probe g1 f1 p2 (63 : Int32) 64 (p2 &&& (63 : Int32)))) (v := (.int (g1 ((own_probe g1 f1 p2 (63 : Int32) 64 (p2 &&& (63 : Int32)))).toNatClampNeg))) (by rw [e248]; exact Ar249.1) (State.isArrayOf_alike hZ.alike Ar249.2.1) Ar249.2.2 (own_inbz S249 (by decide) b249.1 b249.2) (IA.atz H249 (by decide) b249.1 b249.2) (g := (mkF m 37 #[.val (.ref a1), .val (.int p2), .val (.int (own_probe g1 f1 p2 (63 : Int32) 64 (p2 &&& (63 : Int32))))] [(.int (own_probe g1 f1 p2 (63 : Int32) 64 (p2 &&& (63 : Int32)))), (.ref b2)])) rfl rfl (hb hby d_prog_46_method_7_37) _ k) ?_
  show OwnGo p e below _ (T248.setTop (mkF m 38 #[.val (.ref a1), .val (.int p2), .val (.int (own_probe g1 f1 p2 (63 : Int32) 64 (p2 &&& (63 : Int32))))] [(.int (g1 ((own_probe g1 f1 p2 (63 : Int32) 64 (p2 &&& (63 : Int32)))).toNatClampNeg))]))
  refine own_go (fun _ k => XS.ifYes X248.here hx rfl (pc0 := 38) (pc' := 51) rfl (hb hby d_prog_46_method_7_38) rfl ((if0 _ _).trans (teq hq).1) (by decide) (by decide) k) ?_
  show OwnGo p e below _ (T248.setTop (mkF m 51 #[.val (.ref a1), .val (.int p2), .val (.int (own_probe g1 f1 p2 (63 : Int32) 64 (p2 &&& (63 : Int32))))] []))
  refine own_go (fun _ k => XS.aloadN X248.here hx rfl (hb hby d_prog_46_method_7_51) rfl rfl k) ?_
  show OwnGo p e below _ (T248.setTop (mkF m 52 #[.val (.ref a1), .val (.int p2), .val (.int (own_probe g1 f1 p2 (63 : Int32) 64 (p2 &&& (63 : Int32))))] [(.ref a1)]))
  obtain ⟨T250, X250, e250, st250⟩ := getF X248 hx hZ hown (host := "") (Or.inl (hw _ (List.mem_of_getElem? (i := 17) rfl))) Via.refl e248 PF2 (g := (mkF m 52 #[.val (.ref a1), .val (.int p2), .val (.int (own_probe g1 f1 p2 (63 : Int32) 64 (p2 &&& (63 : Int32))))] [(.ref a1)])) rfl rfl (hb hby d_prog_46_method_7_52)
  refine own_go st250 ?_
  show OwnGo p e below _ (T250.setTop (mkF m 55 #[.val (.ref a1), .val (.int p2), .val (.int (own_probe g1 f1 p2 (63 : Int32) 64 (p2 &&& (63 : Int32))))] [(.int s1)]))
  refine own_go (fun _ k => XS.aloadN X250.here hx rfl (hb hby d_prog_46_method_7_55) rfl rfl k) ?_
  show OwnGo p e below _ (T250.setTop (mkF m 56 #[.val (.ref a1), .val (.int p2), .val (.int (own_probe g1 f1 p2 (63 : Int32) 64 (p2 &&& (63 : Int32))))] [(.ref a1), (.int s1)]))
  obtain ⟨T251, X251, e251, st251⟩ := getF X250 hx hZ hown (host := "") (Or.inl (hw _ (List.mem_of_getElem? (i := 27) rfl))) Via.refl e250 PF1 (g := (mkF m 56 #[.val (.ref a1), .val (.int p2), .val (.int (own_probe g1 f1 p2 (63 : Int32) 64 (p2 &&& (63 : Int32))))] [(.ref a1), (.int s1)])) rfl rfl (hb hby d_prog_46_method_7_56)
  refine own_go st251 ?_
  show OwnGo p e below _ (T251.setTop (mkF m 59 #[.val (.ref a1), .val (.int p2), .val (.int (own_probe g1 f1 p2 (63 : Int32) 64 (p2 &&& (63 : Int32))))] [(.ref b1), (.int s1)]))
  obtain ⟨c252, Ar252, S252, M252, H252⟩ := (id PV1)
  refine own_go (fun _ k => X251.arraylength hx (cell := c252) (by rw [e251]; exact Ar252.1) (State.isArrayOf_alike hZ.alike Ar252.2.1) (g := (mkF m 59 #[.val (.ref a1), .val (.int p2), .val (.int (own_probe g1 f1 p2 (63 : Int32) 64 (p2 &&& (63 : Int32))))] [(.ref b1), (.int s1)])) rfl (rest := [(.int s1)]) rfl (hb hby d_prog_46_method_7_59) _ k) ?_
  rw [len_of S252 (own_nn hz1)]
  show OwnGo p e below _ (T251.setTop (mkF m 60 #[.val (.ref a1), .val (.int p2), .val (.int (own_probe g1 f1 p2 (63 : Int32) 64 (p2 &&& (63 : Int32))))] [(.int z1), (.int s1)]))
  refine own_go (fun _ k => XS.icmpYes X251.here hx rfl (pc0 := 60) (pc' := 80) rfl (hb hby d_prog_46_method_7_60) rfl (feq (own_neI (by omega))).2 (by decide) (by decide) k) ?_
  show OwnGo p e below _ (T251.setTop (mkF m 80 #[.val (.ref a1), .val (.int p2), .val (.int (own_probe g1 f1 p2 (63 : Int32) 64 (p2 &&& (63 : Int32))))] []))
  refine own_go (fun _ k => XS.aloadN X251.here hx rfl (hb hby d_prog_46_method_7_80) rfl rfl k) ?_
  show OwnGo p e below _ (T251.setTop (mkF m 81 #[.val (.ref a1), .val (.int p2), .val (.int (own_probe g1 f1 p2 (63 : Int32) 64 (p2 &&& (63 : Int32))))] [(.ref a1)]))
  obtain ⟨T253, X253, e253, st253⟩ := getF X251 hx hZ hown (host := "") (Or.inl (hw _ (List.mem_of_getElem? (i := 27) rfl))) Via.refl e251 PF1 (g := (mkF m 81 #[.val (.ref a1), .val (.int p2), .val (.int (own_probe g1 f1 p2 (63 : Int32) 64 (p2 &&& (63 : Int32))))] [(.ref a1)])) rfl rfl (hb hby d_prog_46_method_7_81)
  refine own_go st253 ?_
  show OwnGo p e below _ (T253.setTop (mkF m 84 #[.val (.ref a1), .val (.int p2), .val (.int (own_probe g1 f1 p2 (63 : Int32) 64 (p2 &&& (63 : Int32))))] [(.ref b1)]))
  refine own_go (fun _ k => XS.aloadN X253.here hx rfl (hb hby d_prog_46_method_7_84) rfl rfl k) ?_
  show OwnGo p e below _ (T253.setTop (mkF m 85 #[.val (.ref a1), .val (.int p2), .val (.int (own_probe g1 f1 p2 (63 : Int32) 64 (p2 &&& (63 : Int32))))] [(.ref a1), (.ref b1)]))
  obtain ⟨T254, X254, e254, st254⟩ := getF X253 hx hZ hown (host := "") (Or.inl (hw _ (List.mem_of_getElem? (i := 17) rfl))) Via.refl e253 PF2 (g := (mkF m 85 #[.val (.ref a1), .val (.int p2), .val (.int (own_probe g1 f1 p2 (63 : Int32) 64 (p2 &&& (63 : Int32))))] [(.ref a1), (.ref b1)])) rfl rfl (hb hby d_prog_46_method_7_85)
  refine own_go st254 ?_
  show OwnGo p e below _ (T254.setTop (mkF m 88 #[.val (.ref a1), .val (.int p2), .val (.int (own_probe g1 f1 p2 (63 : Int32) 64 (p2 &&& (63 : Int32))))] [(.int s1), (.ref b1)]))
  refine own_go (fun _ k => XS.iloadN X254.here hx rfl (hb hby d_prog_46_method_7_88) rfl k) ?_
  show OwnGo p e below _ (T254.setTop (mkF m 89 #[.val (.ref a1), .val (.int p2), .val (.int (own_probe g1 f1 p2 (63 : Int32) 64 (p2 &&& (63 : Int32))))] [(.int p2), (.int s1), (.ref b1)]))
  obtain ⟨c255, Ar255, S255, M255, H255⟩ := (id PV1)
  have b255 : 0 ≤ (s1).toInt ∧ (s1).toInt < (z1).toInt := ⟨hs0, hlt⟩
  obtain ⟨T255, h255, X255, e255, W255, st255⟩ := stI X254 hx hZ e254 Ar255 (j := s1) (own_inbz S255 hz1 b255.1 b255.2) (g := (mkF m 89 #[.val (.ref a1), .val (.int p2), .val (.int (own_probe g1 f1 p2 (63 : Int32) 64 (p2 &&& (63 : Int32))))] [(.int p2), (.int s1), (.ref b1)])) rfl rfl (hb hby d_prog_46_method_7_89)
  have N255 := Fr.snoc X255 N247 ge2
  have O255 := O0.wr W255 ge2
  have z256 : h0.size ≤ h255.size := Nat.le_trans (Nat.le_refl _) (Nat.le_of_eq W255.size.symm)
  have V255 : IA Z h255 b1 (z1).toNatClampNeg (own_upd f1 (s1).toNatClampNeg p2) := IA.set Ar255 S255 M255 H255 W255
  refine own_go st255 ?_
  show OwnGo p e below _ (T255.setTop (mkF m 90 #[.val (.ref a1), .val (.int p2), .val (.int (own_probe g1 f1 p2 (63 : Int32) 64 (p2 &&& (63 : Int32))))] []))
  refine own_go (fun _ k => XS.aloadN X255.here hx rfl (hb hby d_prog_46_method_7_90) rfl rfl k) ?_
  show OwnGo p e below _ (T255.setTop (mkF m 91 #[.val (.ref a1), .val (.int p2), .val (.int (own_probe g1 f1 p2 (63 : Int32) 64 (p2 &&& (63 : Int32))))] [(.ref a1)]))
  refine own_go (fun _ k => XS.dup X255.here hx rfl (hb hby d_prog_46_method_7_91) rfl rfl k) ?_
  show OwnGo p e below _ (T255.setTop (mkF m 92 #[.val (.ref a1), .val (.int p2), .val (.int (own_probe g1 f1 p2 (63 : Int32) 64 (p2 &&& (63 : Int32))))] [(.ref a1), (.ref a1)]))
  have F257 := (PF2.other W255 (Or.inl nab))
  obtain ⟨T258, X258, e258, st258⟩ := getF X255 hx hZ hown (host := "") (Or.inl (hw _ (List.mem_of_getElem? (i := 17) rfl))) Via.refl e255 F257 (g := (mkF m 92 #[.val (.ref a1), .val (.int p2), .val (.int (own_probe g1 f1 p2 (63 : Int32) 64 (p2 &&& (63 : Int32))))] [(.ref a1), (.ref a1)])) rfl rfl (hb hby d_prog_46_method_7_92)
  refine own_go st258 ?_
  show OwnGo p e below _ (T258.setTop (mkF m 95 #[.val (.ref a1), .val (.int p2), .val (.int (own_probe g1 f1 p2 (63 : Int32) 64 (p2 &&& (63 : Int32))))] [(.int s1), (.ref a1)]))
  refine own_go (fun _ k => XS.iconst X258.here hx rfl (hb hby d_prog_46_method_7_95) k) ?_
  show OwnGo p e below _ (T258.setTop (mkF m 96 #[.val (.ref a1), .val (.int p2), .val (.int (own_probe g1 f1 p2 (63 : Int32) 64 (p2 &&& (63 : Int32))))] [(.int (1 : Int32)), (.int s1), (.ref a1)]))
  refine own_go (fun _ k => XS.iadd X258.here hx rfl (hb hby d_prog_46_method_7_96) rfl k) ?_
  show OwnGo p e below _ (T258.setTop (mkF m 97 #[.val (.ref a1), .val (.int p2), .val (.int (own_probe g1 f1 p2 (63 : Int32) 64 (p2 &&& (63 : Int32))))] [(.int (s1 + (1 : Int32))), (.ref a1)]))
  have F259 := (PE1.wr W255)
  obtain ⟨T260, h260, X260, e260, W260, st260⟩ := putF X258 hx hZ hown (host := "") (Or.inl (hw _ (List.mem_of_getElem? (i := 17) rfl))) Via.refl e258 F257 F259 (Or.inl (hw _ (List.mem_of_getElem? (i := 18) rfl))) (hw _ (List.mem_of_getElem? (i := 20) rfl)) (ty := .int) (by decide) rfl rfl (g := (mkF m 97 #[.val (.ref a1), .val (.int p2), .val (.int (own_probe g1 f1 p2 (63 : Int32) 64 (p2 &&& (63 : Int32))))] [(.int (s1 + (1 : Int32))), (.ref a1)])) rfl rfl (hb hby d_prog_46_method_7_97)
  have N260 := Fr.snoc X260 N255 ge1
  have O260 := O255.wr W260 ge1
  have z261 : h0.size ≤ h260.size := Nat.le_trans z256 (Nat.le_of_eq W260.size.symm)
  have F260 : Fld Z h260 a1 "com/example/reweave/reweave/control/Keys" "size" "I" (.int (s1 + (1 : Int32))) := F257.same W260
  refine own_go st260 ?_
  show OwnGo p e below _ (T260.setTop (mkF m 100 #[.val (.ref a1), .val (.int p2), .val (.int (own_probe g1 f1 p2 (63 : Int32) 64 (p2 &&& (63 : Int32))))] []))
  refine own_go (fun _ k => XS.aloadN X260.here hx rfl (hb hby d_prog_46_method_7_100) rfl rfl k) ?_
  show OwnGo p e below _ (T260.setTop (mkF m 101 #[.val (.ref a1), .val (.int p2), .val (.int (own_probe g1 f1 p2 (63 : Int32) 64 (p2 &&& (63 : Int32))))] [(.ref a1)]))
  have F262 := ((PF3.other W255 (Or.inl nab)).other W260 (Or.inr (slot_ne (a0 := a0) (C := "com/example/reweave/reweave/control/Keys") (Or.inl (hw _ (List.mem_of_getElem? (i := 35) rfl))) (Or.inl (hw _ (List.mem_of_getElem? (i := 18) rfl))) (by decide) (t := (.array .int)) (t' := .int) (by decide) (by decide))))
  obtain ⟨T263, X263, e263, st263⟩ := getF X260 hx hZ hown (host := "") (Or.inl (hw _ (List.mem_of_getElem? (i := 34) rfl))) Via.refl e260 F262 (g := (mkF m 101 #[.val (.ref a1), .val (.int p2), .val (.int (own_probe g1 f1 p2 (63 : Int32) 64 (p2 &&& (63 : Int32))))] [(.ref a1)])) rfl rfl (hb hby d_prog_46_method_7_101)
  refine own_go st263 ?_
  show OwnGo p e below _ (T263.setTop (mkF m 104 #[.val (.ref a1), .val (.int p2), .val (.int (own_probe g1 f1 p2 (63 : Int32) 64 (p2 &&& (63 : Int32))))] [(.ref b2)]))
  refine own_go (fun _ k => XS.ifnullNo X263.here hx rfl (hb hby d_prog_46_method_7_104) rfl k) ?_
  show OwnGo p e below _ (T263.setTop (mkF m 107 #[.val (.ref a1), .val (.int p2), .val (.int (own_probe g1 f1 p2 (63 : Int32) 64 (p2 &&& (63 : Int32))))] []))
  refine own_go (fun _ k => XS.aloadN X263.here hx rfl (hb hby d_prog_46_method_7_107) rfl rfl k) ?_
  show OwnGo p e below _ (T263.setTop (mkF m 108 #[.val (.ref a1), .val (.int p2), .val (.int (own_probe g1 f1 p2 (63 : Int32) 64 (p2 &&& (63 : Int32))))] [(.ref a1)]))
  obtain ⟨T264, X264, e264, st264⟩ := getF X263 hx hZ hown (host := "") (Or.inl (hw _ (List.mem_of_getElem? (i := 34) rfl))) Via.refl e263 F262 (g := (mkF m 108 #[.val (.ref a1), .val (.int p2), .val (.int (own_probe g1 f1 p2 (63 : Int32) 64 (p2 &&& (63 : Int32))))] [(.ref a1)])) rfl rfl (hb hby d_prog_46_method_7_108)
  refine own_go st264 ?_
  show OwnGo p e below _ (T264.setTop (mkF m 111 #[.val (.ref a1), .val (.int p2), .val (.int (own_probe g1 f1 p2 (63 : Int32) 64 (p2 &&& (63 : Int32))))] [(.ref b2)]))
  refine own_go (fun _ k => XS.iloadN X264.here hx rfl (hb hby d_prog_46_method_7_111) rfl k) ?_
  show OwnGo p e below _ (T264.setTop (mkF m 112 #[.val (.ref a1), .val (.int p2), .val (.int (own_probe g1 f1 p2 (63 : Int32) 64 (p2 &&& (63 : Int32))))] [(.int (own_probe g1 f1 p2 (63 : Int32) 64 (p2 &&& (63 : Int32)))), (.ref b2)]))
  refine own_go (fun _ k => XS.aloadN X264.here hx rfl (hb hby d_prog_46_method_7_112) rfl rfl k) ?_
  show OwnGo p e below _ (T264.setTop (mkF m 113 #[.val (.ref a1), .val (.int p2), .val (.int (own_probe g1 f1 p2 (63 : Int32) 64 (p2 &&& (63 : Int32))))] [(.ref a1), (.int (own_probe g1 f1 p2 (63 : Int32) 64 (p2 &&& (63 : Int32)))), (.ref b2)]))
  obtain ⟨T265, X265, e265, st265⟩ := getF X264 hx hZ hown (host := "") (Or.inl (hw _ (List.mem_of_getElem? (i := 17) rfl))) Via.refl e264 F260 (g := (mkF m 113 #[.val (.ref a1), .val (.int p2), .val (.int (own_probe g1 f1 p2 (63 : Int32) 64 (p2 &&& (63 : Int32))))] [(.ref a1), (.int (own_probe g1 f1 p2 (63 : Int32) 64 (p2 &&& (63 : Int32)))), (.ref b2)])) rfl rfl (hb hby d_prog_46_method_7_113)
  refine own_go st265 ?_
  show OwnGo p e below _ (T265.setTop (mkF m 116 #[.val (.ref a1), .val (.int p2), .val (.int (own_probe g1 f1 p2 (63 : Int32) 64 (p2 &&& (63 : Int32))))] [(.int (s1 + (1 : Int32))), (.int (own_probe g1 f1 p2 (63 : Int32) 64 (p2 &&& (63 : Int32)))), (.ref b2)]))
  have F266 := ((PV2.other W255 (Ne.symm nbc)).other W260 (Ne.symm nac))
  obtain ⟨c267, Ar267, S267, M267, H267⟩ := (id F266)
  have b267 : 0 ≤ ((own_probe g1 f1 p2 (63 : Int32) 64 (p2 &&& (63 : Int32)))).toInt ∧ ((own_probe g1 f1 p2 (63 : Int32) 64 (p2 &&& (63 : Int32)))).toInt < ((64 : Int32)).toInt := ⟨(own_probe_rng (k := 6) (by decide) (by decide) 64 _ (own_and_rng _ (63 : Int32) (k := 6) (by decide) (by decide)).1 (own_and_rng _ (63 : Int32) (k := 6) (by decide) (by decide)).2).1, (by rw [(show (64 : Int32).toInt = 64 from by decide)]; exact (own_probe_rng (k := 6) (by decide) (by decide) 64 _ (own_and_rng _ (63 : Int32) (k := 6) (by decide) (by decide)).1 (own_and_rng _ (63 : Int32) (k := 6) (by decide) (by decide)).2).2)⟩
  obtain ⟨T267, h267, X267, e267, W267, st267⟩ := stI X265 hx hZ e265 Ar267 (j := (own_probe g1 f1 p2 (63 : Int32) 64 (p2 &&& (63 : Int32)))) (own_inbz S267 (by decide) b267.1 b267.2) (g := (mkF m 116 #[.val (.ref a1), .val (.int p2), .val (.int (own_probe g1 f1 p2 (63 : Int32) 64 (p2 &&& (63 : Int32))))] [(.int (s1 + (1 : Int32))), (.int (own_probe g1 f1 p2 (63 : Int32) 64 (p2 &&& (63 : Int32)))), (.ref b2)])) rfl rfl (hb hby d_prog_46_method_7_116)
  have N267 := Fr.snoc X267 N260 ge3
  have O267 := O260.wr W267 ge3
  have z268 : h0.size ≤ h267.size := Nat.le_trans z261 (Nat.le_of_eq W267.size.symm)
  have V267 : IA Z h267 b2 ((64 : Int32)).toNatClampNeg (own_upd g1 ((own_probe g1 f1 p2 (63 : Int32) 64 (p2 &&& (63 : Int32)))).toNatClampNeg (s1 + (1 : Int32))) := IA.set Ar267 S267 M267 H267 W267
  refine own_go st267 ?_
  show OwnGo p e below _ (T267.setTop (mkF m 117 #[.val (.ref a1), .val (.int p2), .val (.int (own_probe g1 f1 p2 (63 : Int32) 64 (p2 &&& (63 : Int32))))] []))
  refine own_go (fun _ k => XS.iconst X267.here hx rfl (hb hby d_prog_46_method_7_117) k) ?_
  show OwnGo p e below _ (T267.setTop (mkF m 118 #[.val (.ref a1), .val (.int p2), .val (.int (own_probe g1 f1 p2 (63 : Int32) 64 (p2 &&& (63 : Int32))))] [(.int (2 : Int32))]))
  refine own_go (fun _ k => XS.aloadN X267.here hx rfl (hb hby d_prog_46_method_7_118) rfl rfl k) ?_
  show OwnGo p e below _ (T267.setTop (mkF m 119 #[.val (.ref a1), .val (.int p2), .val (.int (own_probe g1 f1 p2 (63 : Int32) 64 (p2 &&& (63 : Int32))))] [(.ref a1), (.int (2 : Int32))]))
  have F269 := (F260.other W267 (Or.inl nac))
  obtain ⟨T270, X270, e270, st270⟩ := getF X267 hx hZ hown (host := "") (Or.inl (hw _ (List.mem_of_getElem? (i := 17) rfl))) Via.refl e267 F269 (g := (mkF m 119 #[.val (.ref a1), .val (.int p2), .val (.int (own_probe g1 f1 p2 (63 : Int32) 64 (p2 &&& (63 : Int32))))] [(.ref a1), (.int (2 : Int32))])) rfl rfl (hb hby d_prog_46_method_7_119)
  refine own_go st270 ?_
  show OwnGo p e below _ (T270.setTop (mkF m 122 #[.val (.ref a1), .val (.int p2), .val (.int (own_probe g1 f1 p2 (63 : Int32) 64 (p2 &&& (63 : Int32))))] [(.int (s1 + (1 : Int32))), (.int (2 : Int32))]))
  refine own_go (fun _ k => XS.imul X270.here hx rfl (hb hby d_prog_46_method_7_122) rfl k) ?_
  show OwnGo p e below _ (T270.setTop (mkF m 123 #[.val (.ref a1), .val (.int p2), .val (.int (own_probe g1 f1 p2 (63 : Int32) 64 (p2 &&& (63 : Int32))))] [(.int ((2 : Int32) * (s1 + (1 : Int32))))]))
  refine own_go (fun _ k => XS.aloadN X270.here hx rfl (hb hby d_prog_46_method_7_123) rfl rfl k) ?_
  show OwnGo p e below _ (T270.setTop (mkF m 124 #[.val (.ref a1), .val (.int p2), .val (.int (own_probe g1 f1 p2 (63 : Int32) 64 (p2 &&& (63 : Int32))))] [(.ref a1), (.int ((2 : Int32) * (s1 + (1 : Int32))))]))
  have F271 := (F262.other W267 (Or.inl nac))
  obtain ⟨T272, X272, e272, st272⟩ := getF X270 hx hZ hown (host := "") (Or.inl (hw _ (List.mem_of_getElem? (i := 34) rfl))) Via.refl e270 F271 (g := (mkF m 124 #[.val (.ref a1), .val (.int p2), .val (.int (own_probe g1 f1 p2 (63 : Int32) 64 (p2 &&& (63 : Int32))))] [(.ref a1), (.int ((2 : Int32) * (s1 + (1 : Int32))))])) rfl rfl (hb hby d_prog_46_method_7_124)
  refine own_go st272 ?_
  show OwnGo p e below _ (T272.setTop (mkF m 127 #[.val (.ref a1), .val (.int p2), .val (.int (own_probe g1 f1 p2 (63 : Int32) 64 (p2 &&& (63 : Int32))))] [(.ref b2), (.int ((2 : Int32) * (s1 + (1 : Int32))))]))
  obtain ⟨c273, Ar273, S273, M273, H273⟩ := (id V267)
  refine own_go (fun _ k => X272.arraylength hx (cell := c273) (by rw [e272]; exact Ar273.1) (State.isArrayOf_alike hZ.alike Ar273.2.1) (g := (mkF m 127 #[.val (.ref a1), .val (.int p2), .val (.int (own_probe g1 f1 p2 (63 : Int32) 64 (p2 &&& (63 : Int32))))] [(.ref b2), (.int ((2 : Int32) * (s1 + (1 : Int32))))])) rfl (rest := [(.int ((2 : Int32) * (s1 + (1 : Int32))))]) rfl (hb hby d_prog_46_method_7_127) _ k) ?_
  rw [len_of S273 (own_nn (by decide))]
  show OwnGo p e below _ (T272.setTop (mkF m 128 #[.val (.ref a1), .val (.int p2), .val (.int (own_probe g1 f1 p2 (63 : Int32) 64 (p2 &&& (63 : Int32))))] [(.int (64 : Int32)), (.int ((2 : Int32) * (s1 + (1 : Int32))))]))
  refine own_go (fun _ k => XS.icmpYes X272.here hx rfl (pc0 := 128) (pc' := 160) rfl (hb hby d_prog_46_method_7_128) rfl (flt (own_geI (by rw [own_dbl hs0 (by omega), (show (64 : Int32).toInt = 64 from by decide)]; omega))).2.2.2 (by decide) (by decide) k) ?_
  show OwnGo p e below _ (T272.setTop (mkF m 160 #[.val (.ref a1), .val (.int p2), .val (.int (own_probe g1 f1 p2 (63 : Int32) 64 (p2 &&& (63 : Int32))))] []))
  obtain ⟨fs, hr, hrun, hended, hW, hsame⟩ := X272.leave (v := none) (fun h => rfl)
  refine ⟨_, _, X272.returnOut hx Bd.returns (hb hby d_prog_46_method_7_160) hr, hrun, hended, _, _, rfl, ?_, ⟨_, rfl⟩, hW, hsame.mono (by decide) (by decide)⟩
  show Q_add64miss Z aNONE a1 p2 b1 z1 f1 s1 b2 g1 h0 n0 _ T272.heap _
  rw [e272]
  have F274 := (((PF1.other W255 (Or.inl nab)).other W260 (Or.inr (slot_ne (a0 := a0) (C := "com/example/reweave/reweave/control/Keys") (Or.inl (hw _ (List.mem_of_getElem? (i := 28) rfl))) (Or.inl (hw _ (List.mem_of_getElem? (i := 18) rfl))) (by decide) (t := (.array .int)) (t' := .int) (by decide) (by decide)))).other W267 (Or.inl nac))
  have F275 := ((V255.other W260 (Ne.symm nab)).other W267 nbc)
  exact ⟨rfl, N267, ((((Keep.refl _ [a1, b1, b2]).wr W255 (Or.inl (List.mem_of_getElem? (i := 1) rfl))).wr W260 (Or.inl (List.mem_of_getElem? (i := 0) rfl))).wr W267 (Or.inl (List.mem_of_getElem? (i := 2) rfl))), F274, F269, F275, F271, V267, (OwnS.step hO hs0 (by omega))⟩
def Q_add64grow (Z : State) (aNONE : Addr) (a1 : Addr) (p2 : Int32) (b1 : Addr) (z1 : Int32) (f1 : Nat → Int32) (s1 : Int32) (b2 : Addr) (g1 : Nat → Int32) (h0 : Heap) (n0 : Nat) (v : Option Value) (h : Heap) (L : List Loc) : Prop := ∃ (r9 : Addr) (g9 : Nat → Int32), v = none ∧ Fr n0 L ∧ Keep h0 h [a1, b1, b2] ∧ Fld Z h a1 "com/example/reweave/reweave/control/Keys" "numbers" "[I" (.ref b1) ∧ Fld Z h a1 "com/example/reweave/reweave/control/Keys" "size" "I" (.int (s1 + (1 : Int32))) ∧ IA Z h b1 (z1).toNatClampNeg (own_upd f1 (s1).toNatClampNeg p2) ∧ Fld Z h a1 "com/example/reweave/reweave/control/Keys" "slots" "[I" (.ref r9) ∧ IA Z h r9 ((128 : Int32)).toNatClampNeg g9 ∧ OwnS (128 : Int32) g9 (s1 + (1 : Int32)) ∧ h0.size ≤ r9
theorem ef_add64grow (m : MethodId) (x0 : Addr) (x1 : Int32) : entryFrame m #[(.ref x0), (.int x1)] 3 = mkF m 0 #[.val (.ref x0), .val (.int x1), .unset] [] := by first | (simp [entryFrame, mkF, argsToLocals, Value.category]; done) | rfl
set_option maxRecDepth 65536 in
set_option maxHeartbeats 40000000 in
theorem rm_add64grow (l : Launch) (Z : State) (a0 : Array Value) (hw : ∀ d ∈ tables_1, d.before a0 Z = true) (ws : List Jvm.Cond) (aNONE : Addr) (F0 : OwnFacts Z aNONE) (a1 : Addr) (p2 : Int32) (b1 : Addr) (z1 : Int32) (f1 : Nat → Int32) (s1 : Int32) (b2 : Addr) (g1 : Nat → Int32) (h0 : Heap) (n0 : Nat) (O0 : Old Z n0 h0) (PE1 : Exa Z h0 a1 "com/example/reweave/reweave/control/Keys") (PF1 : Fld Z h0 a1 "com/example/reweave/reweave/control/Keys" "numbers" "[I" (.ref b1)) (PF2 : Fld Z h0 a1 "com/example/reweave/reweave/control/Keys" "size" "I" (.int s1)) (PV1 : IA Z h0 b1 (z1).toNatClampNeg f1) (ge1 : n0 ≤ a1) (ge2 : n0 ≤ b1) (nab : a1 ≠ b1) (hz1 : 0 ≤ z1.toInt) (hs0 : 0 ≤ (s1).toInt) (hsz : (s1).toInt ≤ z1.toInt) (hzz : z1.toInt < 1000) (PF3 : Fld Z h0 a1 "com/example/reweave/reweave/control/Keys" "slots" "[I" (.ref b2)) (PV2 : IA Z h0 b2 ((64 : Int32)).toNatClampNeg g1) (ge3 : n0 ≤ b2) (nac : a1 ≠ b2) (nbc : b1 ≠ b2) (hO : OwnS (64 : Int32) g1 s1) (hsS : s1.toInt < 64) (hq : (g1 ((own_probe g1 f1 p2 (63 : Int32) 64 (p2 &&& (63 : Int32)))).toNatClampNeg) = (0 : Int32)) (hlt : (s1).toInt < z1.toInt) (h2 : 64 < 2 * (s1.toInt + 1)) (hsz2 : s1.toInt + 1 < 128) :
    MetFree l (⟨"com/example/reweave/reweave/control/Keys", "add", "(I)V"⟩ : MethodName) (head1 (Jvm.Cond.code (⟨"com/example/reweave/reweave/control/Keys", "add", "(I)V"⟩ : MethodName) prog_46_method_7_code 3 none :: ws) ({ frames := 2, cells := 1, slots := 128, locals := 30 } : Room)) (fun a U => a = #[(.ref a1), (.int p2)] ∧ Z.Warmed39 U.vm ∧ U.heap = h0) (fun _ _ _ _ _ => True) (fun _ U o U' => ∃ v L, o = .returned v ∧ Q_add64grow Z aNONE a1 p2 b1 z1 f1 s1 b2 g1 h0 n0 v U'.heap L ∧ FrameEnd U o U' L ({ frames := 2, cells := 1, slots := 128, locals := 30 } : Room).cells ({ frames := 2, cells := 1, slots := 128, locals := 30 } : Room).slots) := by
  refine MetFree.of_bodySF (plainFor_of_name pn_com_example_reweave_reweave_control_Keys) hisR ?_
  intro p e s m args below meth c s₁ Bd hml0 hP hK
  obtain ⟨rfl, hZ, hh⟩ := hP
  have hx := Bd.exec
  have hby := Bd.bytes
  have hml : c.maxLocals = 3 := hml0
  have hown : s.vm.findClass "com/example/reweave/reweave/control/Keys" = some m.cls := findClass_of_methodNamed Bd.named
  have hnm := (name_of_methodNamed Bd.named Bd.method).1
  have X0 : Stand p l e ({ frames := 2, cells := 1, slots := 128, locals := 30 } : Room) s m #[(.ref a1), (.int p2)] below meth c s₁ [] 0 0 := Stand.of_body Bd
  have e0 : s₁.heap = h0 := by rw [← hh, Bd.state]; rfl
  have N0 := Fr.nil n0
  refine own_go (Q := fun o U' => ∃ v L, o = .returned v ∧ Q_add64grow Z aNONE a1 p2 b1 z1 f1 s1 b2 g1 h0 n0 v U'.heap L ∧ FrameEnd s o U' L ({ frames := 2, cells := 1, slots := 128, locals := 30 } : Room).cells ({ frames := 2, cells := 1, slots := 128, locals := 30 } : Room).slots) (fun t k => castTop (ef_add64grow m a1 p2) k) ?_
  show OwnGo p e below _ (s₁.setTop (mkF m 0 #[.val (.ref a1), .val (.int p2), .unset] []))
  refine own_go (fun _ k => XS.aloadN X0.here hx rfl (hb hby d_prog_46_method_7_0) rfl rfl k) ?_
  show OwnGo p e below _ (s₁.setTop (mkF m 1 #[.val (.ref a1), .val (.int p2), .unset] [(.ref a1)]))
  obtain ⟨T276, X276, e276, st276⟩ := getS X0 hx hZ hown (host := "") (hw _ (List.mem_of_getElem? (i := 6) rfl)) Via.refl e0 (F0.1.ext O0.2) (g := (mkF m 1 #[.val (.ref a1), .val (.int p2), .unset] [(.ref a1)])) rfl (hb hby d_prog_46_method_7_1)
  refine own_go st276 ?_
  show OwnGo p e below _ (T276.setTop (mkF m 4 #[.val (.ref a1), .val (.int p2), .unset] [(.ref aNONE), (.ref a1)]))
  refine own_go (fun _ k => acmp X276 hx rfl (cd := .ne) (o := 13) (x := (.ref a1)) (y := (.ref aNONE)) (pc0 := 4) (pc' := 17) rfl rfl rfl (hb hby d_prog_46_method_7_4) rfl (own_refne (Ne.symm (O0.ne F0.2.1.lt ge1))) (by decide) (by decide) k) ?_
  show OwnGo p e below _ (T276.setTop (mkF m 17 #[.val (.ref a1), .val (.int p2), .unset] []))
  refine own_go (fun _ k => XS.iconst X276.here hx rfl (hb hby d_prog_46_method_7_17) k) ?_
  show OwnGo p e below _ (T276.setTop (mkF m 18 #[.val (.ref a1), .val (.int p2), .unset] [(.int (-1 : Int32))]))
  refine own_go (fun _ k => XS.istoreN X276.here hx rfl (hb hby d_prog_46_method_7_18) rfl (l' := #[.val (.ref a1), .val (.int p2), .val (.int (-1 : Int32))]) rfl k) ?_
  show OwnGo p e below _ (T276.setTop (mkF m 19 #[.val (.ref a1), .val (.int p2), .val (.int (-1 : Int32))] []))
  refine own_go (fun _ k => XS.aloadN X276.here hx rfl (hb hby d_prog_46_method_7_19) rfl rfl k) ?_
  show OwnGo p e below _ (T276.setTop (mkF m 20 #[.val (.ref a1), .val (.int p2), .val (.int (-1 : Int32))] [(.ref a1)]))
  obtain ⟨T277, X277, e277, st277⟩ := getF X276 hx hZ hown (host := "") (Or.inl (hw _ (List.mem_of_getElem? (i := 34) rfl))) Via.refl e276 PF3 (g := (mkF m 20 #[.val (.ref a1), .val (.int p2), .val (.int (-1 : Int32))] [(.ref a1)])) rfl rfl (hb hby d_prog_46_method_7_20)
  refine own_go st277 ?_
  show OwnGo p e below _ (T277.setTop (mkF m 23 #[.val (.ref a1), .val (.int p2), .val (.int (-1 : Int32))] [(.ref b2)]))
  refine own_go (fun _ k => XS.ifnullNo X277.here hx rfl (hb hby d_prog_46_method_7_23) rfl k) ?_
  show OwnGo p e below _ (T277.setTop (mkF m 26 #[.val (.ref a1), .val (.int p2), .val (.int (-1 : Int32))] []))
  refine own_go (fun _ k => XS.aloadN X277.here hx rfl (hb hby d_prog_46_method_7_26) rfl rfl k) ?_
  show OwnGo p e below _ (T277.setTop (mkF m 27 #[.val (.ref a1), .val (.int p2), .val (.int (-1 : Int32))] [(.ref a1)]))
  refine own_go (fun _ k => XS.iloadN X277.here hx rfl (hb hby d_prog_46_method_7_27) rfl k) ?_
  show OwnGo p e below _ (T277.setTop (mkF m 28 #[.val (.ref a1), .val (.int p2), .val (.int (-1 : Int32))] [(.int p2), (.ref a1)]))
  obtain ⟨cl278, hcl278, hob278⟩ := PE1.cell
  obtain ⟨_, _, ⟨T278, L278, k278, n278⟩, -, X278, ⟨Lc278, hQ278, l278, y278, z278⟩, st278⟩ := X277.privateBack hx (y := (⟨"com/example/reweave/reweave/control/Keys", "slotOf", "(I)I"⟩ : MethodName)) hown (mvT hZ (hw _ (List.mem_of_getElem? (i := 45) rfl))) (mvT hZ (hw _ (List.mem_of_getElem? (i := 46) rfl))) (own_selp hZ (hw _ (List.mem_of_getElem? (i := 20) rfl)) (hw _ (List.mem_of_getElem? (i := 47) rfl)) (hw _ (List.mem_of_getElem? (i := 46) rfl)) (by decide)) (Cond.privateMethod_at (mvP hZ (hw _ (List.mem_of_getElem? (i := 47) rfl)) (args := #[]))) (mvT hZ (hw _ (List.mem_of_getElem? (i := 48) rfl))) (by decide) (backOf (W := 0) (rm_slot64 l Z a0 hw [] aNONE F0 a1 p2 b1 b2 z1 f1 g1 (own_probe g1 f1 p2 (63 : Int32) 64 (p2 &&& (63 : Int32))) h0 n0 O0 PF1 PF3 PV1 PV2 hz1 (fun j hj => ⟨(hO.1 j (by rw [own_n64]; exact hj)).1, Int.le_trans (hO.1 j (by rw [own_n64]; exact hj)).2 hsz⟩) (by have q := OwnS.free hO hs0 (by rw [(show (64 : Int32).toInt = 64 from by decide)]; omega); rw [own_n64] at q; exact q) rfl) hZ (hw _ (List.mem_of_getElem? (i := 48) rfl)) (hw _ (List.mem_of_getElem? (i := 4) rfl)) (by decide) (by decide)) (g := (mkF m 28 #[.val (.ref a1), .val (.int p2), .val (.int (-1 : Int32))] [(.int p2), (.ref a1)])) rfl (by rw [hml]; rfl) (Steps.refl _) (a := a1) (by rw [e277]; exact hcl278) hob278 (argsL := [(.int p2)]) (rest := []) (lenOf pd_I__I rfl) rfl (by show 2 * 0 + _ ≤ _; exact Nat.le_of_eq rfl) (hb hby d_prog_46_method_7_28) (fun _ _ => ⟨rfl, e277, (by decide : 0 + 0 ≤ _), (by decide : 0 + 0 ≤ _)⟩)
  dsimp only [Pt.U, Pt.locs, Pt.cells, Pt.slots] at X278 l278 y278 z278 st278 hQ278
  subst l278 y278 z278
  obtain ⟨rfl, Nq278, K278⟩ := hQ278
  have N278 := Fr.app N0 Nq278
  refine own_go (fun _ k => st278.trans k) ?_
  show OwnGo p e below _ (T278.setTop (mkF m 31 #[.val (.ref a1), .val (.int p2), .val (.int (-1 : Int32))] [(.int (own_probe g1 f1 p2 (63 : Int32) 64 (p2 &&& (63 : Int32))))]))
  refine own_go (fun _ k => XS.istoreN X278.here hx rfl (hb hby d_prog_46_method_7_31) rfl (l' := #[.val (.ref a1), .val (.int p2), .val (.int (own_probe g1 f1 p2 (63 : Int32) 64 (p2 &&& (63 : Int32))))]) rfl k) ?_
  show OwnGo p e below _ (T278.setTop (mkF m 32 #[.val (.ref a1), .val (.int p2), .val (.int (own_probe g1 f1 p2 (63 : Int32) 64 (p2 &&& (63 : Int32))))] []))
  refine own_go (fun _ k => XS.aloadN X278.here hx rfl (hb hby d_prog_46_method_7_32) rfl rfl k) ?_
  show OwnGo p e below _ (T278.setTop (mkF m 33 #[.val (.ref a1), .val (.int p2), .val (.int (own_probe g1 f1 p2 (63 : Int32) 64 (p2 &&& (63 : Int32))))] [(.ref a1)]))
  obtain ⟨T279, X279, e279, st279⟩ := getF X278 hx hZ hown (host := "") (Or.inl (hw _ (List.mem_of_getElem? (i := 34) rfl))) Via.refl K278 PF3 (g := (mkF m 33 #[.val (.ref a1), .val (.int p2), .val (.int (own_probe g1 f1 p2 (63 : Int32) 64 (p2 &&& (63 : Int32))))] [(.ref a1)])) rfl rfl (hb hby d_prog_46_method_7_33)
  refine own_go st279 ?_
  show OwnGo p e below _ (T279.setTop (mkF m 36 #[.val (.ref a1), .val (.int p2), .val (.int (own_probe g1 f1 p2 (63 : Int32) 64 (p2 &&& (63 : Int32))))] [(.ref b2)]))
  refine own_go (fun _ k => XS.iloadN X279.here hx rfl (hb hby d_prog_46_method_7_36) rfl k) ?_
  show OwnGo p e below _ (T279.setTop (mkF m 37 #[.val (.ref a1), .val (.int p2), .val (.int (own_probe g1 f1 p2 (63 : Int32) 64 (p2 &&& (63 : Int32))))] [(.int (own_probe g1 f1 p2 (63 : Int32) 64 (p2 &&& (63 : Int32)))), (.ref b2)]))
  obtain ⟨c280, Ar280, S280, M280, H280⟩ := (id PV2)
  have b280 : 0 ≤ ((own_probe g1 f1 p2 (63 : Int32) 64 (p2 &&& (63 : Int32)))).toInt ∧ ((own_probe g1 f1 p2 (63 : Int32) 64 (p2 &&& (63 : Int32)))).toInt < ((64 : Int32)).toInt := ⟨(own_probe_rng (k := 6) (by decide) (by decide) 64 _ (own_and_rng _ (63 : Int32) (k := 6) (by decide) (by decide)).1 (own_and_rng _ (63 : Int32) (k := 6) (by decide) (by decide)).2).1, (by rw [(show (64 : Int32).toInt = 64 from by decide)]; exact (own_probe_rng (k := 6) (by decide) (by decide) 64 _ (own_and_rng _ (63 : Int32) (k := 6) (by decide) (by decide)).1 (own_and_rng _ (63 : Int32) (k := 6) (by decide) (by decide)).2).2)⟩
  refine own_go (fun _ k => X279.iaload hx (j := (own_probe g1 f1 p2 (63 : Int32) 64 (p2 &&& (63 : Int32)))) (v := (.int (g1 ((own_probe g1 f1 p2 (63 : Int32) 64 (p2 &&& (63 : Int32)))).toNatClampNeg))) (by rw [e279]; exact Ar280.1) (State.isArrayOf_alike hZ.alike Ar280.2.1) Ar280.2.2 (own_inbz S280 (by decide) b280.1 b280.2) (IA.atz H280 (by decide) b280.1 b280.2) (g := (mkF m 37 #[.val (.ref a1), .val (.int p2), .val (.int (own_probe g1 f1 p2 (63 : Int32) 64 (p2 &&& (63 : Int32))))] [(.int (own_probe g1 f1 p2 (63 : Int32) 64 (p2 &&& (63 : Int32)))), (.ref b2)])) rfl rfl (hb hby d_prog_46_method_7_37) _ k) ?_
  show OwnGo p e below _ (T279.setTop (mkF m 38 #[.val (.ref a1), .val (.int p2), .val (.int (own_probe g1 f1 p2 (63 : Int32) 64 (p2 &&& (63 : Int32))))] [(.int (g1 ((own_probe g1 f1 p2 (63 : Int32) 64 (p2 &&& (63 : Int32)))).toNatClampNeg))]))
  refine own_go (fun _ k => XS.ifYes X279.here hx rfl (pc0 := 38) (pc' := 51) rfl (hb hby d_prog_46_method_7_38) rfl ((if0 _ _).trans (teq hq).1) (by decide) (by decide) k) ?_
  show OwnGo p e below _ (T279.setTop (mkF m 51 #[.val (.ref a1), .val (.int p2), .val (.int (own_probe g1 f1 p2 (63 : Int32) 64 (p2 &&& (63 : Int32))))] []))
  refine own_go (fun _ k => XS.aloadN X279.here hx rfl (hb hby d_prog_46_method_7_51) rfl rfl k) ?_
  show OwnGo p e below _ (T279.setTop (mkF m 52 #[.val (.ref a1), .val (.int p2), .val (.int (own_probe g1 f1 p2 (63 : Int32) 64 (p2 &&& (63 : Int32))))] [(.ref a1)]))
  obtain ⟨T281, X281, e281, st281⟩ := getF X279 hx hZ hown (host := "") (Or.inl (hw _ (List.mem_of_getElem? (i := 17) rfl))) Via.refl e279 PF2 (g := (mkF m 52 #[.val (.ref a1), .val (.int p2), .val (.int (own_probe g1 f1 p2 (63 : Int32) 64 (p2 &&& (63 : Int32))))] [(.ref a1)])) rfl rfl (hb hby d_prog_46_method_7_52)
  refine own_go st281 ?_
  show OwnGo p e below _ (T281.setTop (mkF m 55 #[.val (.ref a1), .val (.int p2), .val (.int (own_probe g1 f1 p2 (63 : Int32) 64 (p2 &&& (63 : Int32))))] [(.int s1)]))
  refine own_go (fun _ k => XS.aloadN X281.here hx rfl (hb hby d_prog_46_method_7_55) rfl rfl k) ?_
  show OwnGo p e below _ (T281.setTop (mkF m 56 #[.val (.ref a1), .val (.int p2), .val (.int (own_probe g1 f1 p2 (63 : Int32) 64 (p2 &&& (63 : Int32))))] [(.ref a1), (.int s1)]))
  obtain ⟨T282, X282, e282, st282⟩ := getF X281 hx hZ hown (host := "") (Or.inl (hw _ (List.mem_of_getElem? (i := 27) rfl))) Via.refl e281 PF1 (g := (mkF m 56 #[.val (.ref a1), .val (.int p2), .val (.int (own_probe g1 f1 p2 (63 : Int32) 64 (p2 &&& (63 : Int32))))] [(.ref a1), (.int s1)])) rfl rfl (hb hby d_prog_46_method_7_56)
  refine own_go st282 ?_
  show OwnGo p e below _ (T282.setTop (mkF m 59 #[.val (.ref a1), .val (.int p2), .val (.int (own_probe g1 f1 p2 (63 : Int32) 64 (p2 &&& (63 : Int32))))] [(.ref b1), (.int s1)]))
  obtain ⟨c283, Ar283, S283, M283, H283⟩ := (id PV1)
  refine own_go (fun _ k => X282.arraylength hx (cell := c283) (by rw [e282]; exact Ar283.1) (State.isArrayOf_alike hZ.alike Ar283.2.1) (g := (mkF m 59 #[.val (.ref a1), .val (.int p2), .val (.int (own_probe g1 f1 p2 (63 : Int32) 64 (p2 &&& (63 : Int32))))] [(.ref b1), (.int s1)])) rfl (rest := [(.int s1)]) rfl (hb hby d_prog_46_method_7_59) _ k) ?_
  rw [len_of S283 (own_nn hz1)]
  show OwnGo p e below _ (T282.setTop (mkF m 60 #[.val (.ref a1), .val (.int p2), .val (.int (own_probe g1 f1 p2 (63 : Int32) 64 (p2 &&& (63 : Int32))))] [(.int z1), (.int s1)]))
  refine own_go (fun _ k => XS.icmpYes X282.here hx rfl (pc0 := 60) (pc' := 80) rfl (hb hby d_prog_46_method_7_60) rfl (feq (own_neI (by omega))).2 (by decide) (by decide) k) ?_
  show OwnGo p e below _ (T282.setTop (mkF m 80 #[.val (.ref a1), .val (.int p2), .val (.int (own_probe g1 f1 p2 (63 : Int32) 64 (p2 &&& (63 : Int32))))] []))
  refine own_go (fun _ k => XS.aloadN X282.here hx rfl (hb hby d_prog_46_method_7_80) rfl rfl k) ?_
  show OwnGo p e below _ (T282.setTop (mkF m 81 #[.val (.ref a1), .val (.int p2), .val (.int (own_probe g1 f1 p2 (63 : Int32) 64 (p2 &&& (63 : Int32))))] [(.ref a1)]))
  obtain ⟨T284, X284, e284, st284⟩ := getF X282 hx hZ hown (host := "") (Or.inl (hw _ (List.mem_of_getElem? (i := 27) rfl))) Via.refl e282 PF1 (g := (mkF m 81 #[.val (.ref a1), .val (.int p2), .val (.int (own_probe g1 f1 p2 (63 : Int32) 64 (p2 &&& (63 : Int32))))] [(.ref a1)])) rfl rfl (hb hby d_prog_46_method_7_81)
  refine own_go st284 ?_
  show OwnGo p e below _ (T284.setTop (mkF m 84 #[.val (.ref a1), .val (.int p2), .val (.int (own_probe g1 f1 p2 (63 : Int32) 64 (p2 &&& (63 : Int32))))] [(.ref b1)]))
  refine own_go (fun _ k => XS.aloadN X284.here hx rfl (hb hby d_prog_46_method_7_84) rfl rfl k) ?_
  show OwnGo p e below _ (T284.setTop (mkF m 85 #[.val (.ref a1), .val (.int p2), .val (.int (own_probe g1 f1 p2 (63 : Int32) 64 (p2 &&& (63 : Int32))))] [(.ref a1), (.ref b1)]))
  obtain ⟨T285, X285, e285, st285⟩ := getF X284 hx hZ hown (host := "") (Or.inl (hw _ (List.mem_of_getElem? (i := 17) rfl))) Via.refl e284 PF2 (g := (mkF m 85 #[.val (.ref a1), .val (.int p2), .val (.int (own_probe g1 f1 p2 (63 : Int32) 64 (p2 &&& (63 : Int32))))] [(.ref a1), (.ref b1)])) rfl rfl (hb hby d_prog_46_method_7_85)
  refine own_go st285 ?_
  show OwnGo p e below _ (T285.setTop (mkF m 88 #[.val (.ref a1), .val (.int p2), .val (.int (own_probe g1 f1 p2 (63 : Int32) 64 (p2 &&& (63 : Int32))))] [(.int s1), (.ref b1)]))
  refine own_go (fun _ k => XS.iloadN X285.here hx rfl (hb hby d_prog_46_method_7_88) rfl k) ?_
  show OwnGo p e below _ (T285.setTop (mkF m 89 #[.val (.ref a1), .val (.int p2), .val (.int (own_probe g1 f1 p2 (63 : Int32) 64 (p2 &&& (63 : Int32))))] [(.int p2), (.int s1), (.ref b1)]))
  obtain ⟨c286, Ar286, S286, M286, H286⟩ := (id PV1)
  have b286 : 0 ≤ (s1).toInt ∧ (s1).toInt < (z1).toInt := ⟨hs0, hlt⟩
  obtain ⟨T286, h286, X286, e286, W286, st286⟩ := stI X285 hx hZ e285 Ar286 (j := s1) (own_inbz S286 hz1 b286.1 b286.2) (g := (mkF m 89 #[.val (.ref a1), .val (.int p2), .val (.int (own_probe g1 f1 p2 (63 : Int32) 64 (p2 &&& (63 : Int32))))] [(.int p2), (.int s1), (.ref b1)])) rfl rfl (hb hby d_prog_46_method_7_89)
  have N286 := Fr.snoc X286 N278 ge2
  have O286 := O0.wr W286 ge2
  have z287 : h0.size ≤ h286.size := Nat.le_trans (Nat.le_refl _) (Nat.le_of_eq W286.size.symm)
  have V286 : IA Z h286 b1 (z1).toNatClampNeg (own_upd f1 (s1).toNatClampNeg p2) := IA.set Ar286 S286 M286 H286 W286
  refine own_go st286 ?_
  show OwnGo p e below _ (T286.setTop (mkF m 90 #[.val (.ref a1), .val (.int p2), .val (.int (own_probe g1 f1 p2 (63 : Int32) 64 (p2 &&& (63 : Int32))))] []))
  refine own_go (fun _ k => XS.aloadN X286.here hx rfl (hb hby d_prog_46_method_7_90) rfl rfl k) ?_
  show OwnGo p e below _ (T286.setTop (mkF m 91 #[.val (.ref a1), .val (.int p2), .val (.int (own_probe g1 f1 p2 (63 : Int32) 64 (p2 &&& (63 : Int32))))] [(.ref a1)]))
  refine own_go (fun _ k => XS.dup X286.here hx rfl (hb hby d_prog_46_method_7_91) rfl rfl k) ?_
  show OwnGo p e below _ (T286.setTop (mkF m 92 #[.val (.ref a1), .val (.int p2), .val (.int (own_probe g1 f1 p2 (63 : Int32) 64 (p2 &&& (63 : Int32))))] [(.ref a1), (.ref a1)]))
  have F288 := (PF2.other W286 (Or.inl nab))
  obtain ⟨T289, X289, e289, st289⟩ := getF X286 hx hZ hown (host := "") (Or.inl (hw _ (List.mem_of_getElem? (i := 17) rfl))) Via.refl e286 F288 (g := (mkF m 92 #[.val (.ref a1), .val (.int p2), .val (.int (own_probe g1 f1 p2 (63 : Int32) 64 (p2 &&& (63 : Int32))))] [(.ref a1), (.ref a1)])) rfl rfl (hb hby d_prog_46_method_7_92)
  refine own_go st289 ?_
  show OwnGo p e below _ (T289.setTop (mkF m 95 #[.val (.ref a1), .val (.int p2), .val (.int (own_probe g1 f1 p2 (63 : Int32) 64 (p2 &&& (63 : Int32))))] [(.int s1), (.ref a1)]))
  refine own_go (fun _ k => XS.iconst X289.here hx rfl (hb hby d_prog_46_method_7_95) k) ?_
  show OwnGo p e below _ (T289.setTop (mkF m 96 #[.val (.ref a1), .val (.int p2), .val (.int (own_probe g1 f1 p2 (63 : Int32) 64 (p2 &&& (63 : Int32))))] [(.int (1 : Int32)), (.int s1), (.ref a1)]))
  refine own_go (fun _ k => XS.iadd X289.here hx rfl (hb hby d_prog_46_method_7_96) rfl k) ?_
  show OwnGo p e below _ (T289.setTop (mkF m 97 #[.val (.ref a1), .val (.int p2), .val (.int (own_probe g1 f1 p2 (63 : Int32) 64 (p2 &&& (63 : Int32))))] [(.int (s1 + (1 : Int32))), (.ref a1)]))
  have F290 := (PE1.wr W286)
  obtain ⟨T291, h291, X291, e291, W291, st291⟩ := putF X289 hx hZ hown (host := "") (Or.inl (hw _ (List.mem_of_getElem? (i := 17) rfl))) Via.refl e289 F288 F290 (Or.inl (hw _ (List.mem_of_getElem? (i := 18) rfl))) (hw _ (List.mem_of_getElem? (i := 20) rfl)) (ty := .int) (by decide) rfl rfl (g := (mkF m 97 #[.val (.ref a1), .val (.int p2), .val (.int (own_probe g1 f1 p2 (63 : Int32) 64 (p2 &&& (63 : Int32))))] [(.int (s1 + (1 : Int32))), (.ref a1)])) rfl rfl (hb hby d_prog_46_method_7_97)
  have N291 := Fr.snoc X291 N286 ge1
  have O291 := O286.wr W291 ge1
  have z292 : h0.size ≤ h291.size := Nat.le_trans z287 (Nat.le_of_eq W291.size.symm)
  have F291 : Fld Z h291 a1 "com/example/reweave/reweave/control/Keys" "size" "I" (.int (s1 + (1 : Int32))) := F288.same W291
  refine own_go st291 ?_
  show OwnGo p e below _ (T291.setTop (mkF m 100 #[.val (.ref a1), .val (.int p2), .val (.int (own_probe g1 f1 p2 (63 : Int32) 64 (p2 &&& (63 : Int32))))] []))
  refine own_go (fun _ k => XS.aloadN X291.here hx rfl (hb hby d_prog_46_method_7_100) rfl rfl k) ?_
  show OwnGo p e below _ (T291.setTop (mkF m 101 #[.val (.ref a1), .val (.int p2), .val (.int (own_probe g1 f1 p2 (63 : Int32) 64 (p2 &&& (63 : Int32))))] [(.ref a1)]))
  have F293 := ((PF3.other W286 (Or.inl nab)).other W291 (Or.inr (slot_ne (a0 := a0) (C := "com/example/reweave/reweave/control/Keys") (Or.inl (hw _ (List.mem_of_getElem? (i := 35) rfl))) (Or.inl (hw _ (List.mem_of_getElem? (i := 18) rfl))) (by decide) (t := (.array .int)) (t' := .int) (by decide) (by decide))))
  obtain ⟨T294, X294, e294, st294⟩ := getF X291 hx hZ hown (host := "") (Or.inl (hw _ (List.mem_of_getElem? (i := 34) rfl))) Via.refl e291 F293 (g := (mkF m 101 #[.val (.ref a1), .val (.int p2), .val (.int (own_probe g1 f1 p2 (63 : Int32) 64 (p2 &&& (63 : Int32))))] [(.ref a1)])) rfl rfl (hb hby d_prog_46_method_7_101)
  refine own_go st294 ?_
  show OwnGo p e below _ (T294.setTop (mkF m 104 #[.val (.ref a1), .val (.int p2), .val (.int (own_probe g1 f1 p2 (63 : Int32) 64 (p2 &&& (63 : Int32))))] [(.ref b2)]))
  refine own_go (fun _ k => XS.ifnullNo X294.here hx rfl (hb hby d_prog_46_method_7_104) rfl k) ?_
  show OwnGo p e below _ (T294.setTop (mkF m 107 #[.val (.ref a1), .val (.int p2), .val (.int (own_probe g1 f1 p2 (63 : Int32) 64 (p2 &&& (63 : Int32))))] []))
  refine own_go (fun _ k => XS.aloadN X294.here hx rfl (hb hby d_prog_46_method_7_107) rfl rfl k) ?_
  show OwnGo p e below _ (T294.setTop (mkF m 108 #[.val (.ref a1), .val (.int p2), .val (.int (own_probe g1 f1 p2 (63 : Int32) 64 (p2 &&& (63 : Int32))))] [(.ref a1)]))
  obtain ⟨T295, X295, e295, st295⟩ := getF X294 hx hZ hown (host := "") (Or.inl (hw _ (List.mem_of_getElem? (i := 34) rfl))) Via.refl e294 F293 (g := (mkF m 108 #[.val (.ref a1), .val (.int p2), .val (.int (own_probe g1 f1 p2 (63 : Int32) 64 (p2 &&& (63 : Int32))))] [(.ref a1)])) rfl rfl (hb hby d_prog_46_method_7_108)
  refine own_go st295 ?_
  show OwnGo p e below _ (T295.setTop (mkF m 111 #[.val (.ref a1), .val (.int p2), .val (.int (own_probe g1 f1 p2 (63 : Int32) 64 (p2 &&& (63 : Int32))))] [(.ref b2)]))
  refine own_go (fun _ k => XS.iloadN X295.here hx rfl (hb hby d_prog_46_method_7_111) rfl k) ?_
  show OwnGo p e below _ (T295.setTop (mkF m 112 #[.val (.ref a1), .val (.int p2), .val (.int (own_probe g1 f1 p2 (63 : Int32) 64 (p2 &&& (63 : Int32))))] [(.int (own_probe g1 f1 p2 (63 : Int32) 64 (p2 &&& (63 : Int32)))), (.ref b2)]))
  refine own_go (fun _ k => XS.aloadN X295.here hx rfl (hb hby d_prog_46_method_7_112) rfl rfl k) ?_
  show OwnGo p e below _ (T295.setTop (mkF m 113 #[.val (.ref a1), .val (.int p2), .val (.int (own_probe g1 f1 p2 (63 : Int32) 64 (p2 &&& (63 : Int32))))] [(.ref a1), (.int (own_probe g1 f1 p2 (63 : Int32) 64 (p2 &&& (63 : Int32)))), (.ref b2)]))
  obtain ⟨T296, X296, e296, st296⟩ := getF X295 hx hZ hown (host := "") (Or.inl (hw _ (List.mem_of_getElem? (i := 17) rfl))) Via.refl e295 F291 (g := (mkF m 113 #[.val (.ref a1), .val (.int p2), .val (.int (own_probe g1 f1 p2 (63 : Int32) 64 (p2 &&& (63 : Int32))))] [(.ref a1), (.int (own_probe g1 f1 p2 (63 : Int32) 64 (p2 &&& (63 : Int32)))), (.ref b2)])) rfl rfl (hb hby d_prog_46_method_7_113)
  refine own_go st296 ?_
  show OwnGo p e below _ (T296.setTop (mkF m 116 #[.val (.ref a1), .val (.int p2), .val (.int (own_probe g1 f1 p2 (63 : Int32) 64 (p2 &&& (63 : Int32))))] [(.int (s1 + (1 : Int32))), (.int (own_probe g1 f1 p2 (63 : Int32) 64 (p2 &&& (63 : Int32)))), (.ref b2)]))
  have F297 := ((PV2.other W286 (Ne.symm nbc)).other W291 (Ne.symm nac))
  obtain ⟨c298, Ar298, S298, M298, H298⟩ := (id F297)
  have b298 : 0 ≤ ((own_probe g1 f1 p2 (63 : Int32) 64 (p2 &&& (63 : Int32)))).toInt ∧ ((own_probe g1 f1 p2 (63 : Int32) 64 (p2 &&& (63 : Int32)))).toInt < ((64 : Int32)).toInt := ⟨(own_probe_rng (k := 6) (by decide) (by decide) 64 _ (own_and_rng _ (63 : Int32) (k := 6) (by decide) (by decide)).1 (own_and_rng _ (63 : Int32) (k := 6) (by decide) (by decide)).2).1, (by rw [(show (64 : Int32).toInt = 64 from by decide)]; exact (own_probe_rng (k := 6) (by decide) (by decide) 64 _ (own_and_rng _ (63 : Int32) (k := 6) (by decide) (by decide)).1 (own_and_rng _ (63 : Int32) (k := 6) (by decide) (by decide)).2).2)⟩
  obtain ⟨T298, h298, X298, e298, W298, st298⟩ := stI X296 hx hZ e296 Ar298 (j := (own_probe g1 f1 p2 (63 : Int32) 64 (p2 &&& (63 : Int32)))) (own_inbz S298 (by decide) b298.1 b298.2) (g := (mkF m 116 #[.val (.ref a1), .val (.int p2), .val (.int (own_probe g1 f1 p2 (63 : Int32) 64 (p2 &&& (63 : Int32))))] [(.int (s1 + (1 : Int32))), (.int (own_probe g1 f1 p2 (63 : Int32) 64 (p2 &&& (63 : Int32)))), (.ref b2)])) rfl rfl (hb hby d_prog_46_method_7_116)
  have N298 := Fr.snoc X298 N291 ge3
  have O298 := O291.wr W298 ge3
  have z299 : h0.size ≤ h298.size := Nat.le_trans z292 (Nat.le_of_eq W298.size.symm)
  have V298 : IA Z h298 b2 ((64 : Int32)).toNatClampNeg (own_upd g1 ((own_probe g1 f1 p2 (63 : Int32) 64 (p2 &&& (63 : Int32)))).toNatClampNeg (s1 + (1 : Int32))) := IA.set Ar298 S298 M298 H298 W298
  refine own_go st298 ?_
  show OwnGo p e below _ (T298.setTop (mkF m 117 #[.val (.ref a1), .val (.int p2), .val (.int (own_probe g1 f1 p2 (63 : Int32) 64 (p2 &&& (63 : Int32))))] []))
  refine own_go (fun _ k => XS.iconst X298.here hx rfl (hb hby d_prog_46_method_7_117) k) ?_
  show OwnGo p e below _ (T298.setTop (mkF m 118 #[.val (.ref a1), .val (.int p2), .val (.int (own_probe g1 f1 p2 (63 : Int32) 64 (p2 &&& (63 : Int32))))] [(.int (2 : Int32))]))
  refine own_go (fun _ k => XS.aloadN X298.here hx rfl (hb hby d_prog_46_method_7_118) rfl rfl k) ?_
  show OwnGo p e below _ (T298.setTop (mkF m 119 #[.val (.ref a1), .val (.int p2), .val (.int (own_probe g1 f1 p2 (63 : Int32) 64 (p2 &&& (63 : Int32))))] [(.ref a1), (.int (2 : Int32))]))
  have F300 := (F291.other W298 (Or.inl nac))
  obtain ⟨T301, X301, e301, st301⟩ := getF X298 hx hZ hown (host := "") (Or.inl (hw _ (List.mem_of_getElem? (i := 17) rfl))) Via.refl e298 F300 (g := (mkF m 119 #[.val (.ref a1), .val (.int p2), .val (.int (own_probe g1 f1 p2 (63 : Int32) 64 (p2 &&& (63 : Int32))))] [(.ref a1), (.int (2 : Int32))])) rfl rfl (hb hby d_prog_46_method_7_119)
  refine own_go st301 ?_
  show OwnGo p e below _ (T301.setTop (mkF m 122 #[.val (.ref a1), .val (.int p2), .val (.int (own_probe g1 f1 p2 (63 : Int32) 64 (p2 &&& (63 : Int32))))] [(.int (s1 + (1 : Int32))), (.int (2 : Int32))]))
  refine own_go (fun _ k => XS.imul X301.here hx rfl (hb hby d_prog_46_method_7_122) rfl k) ?_
  show OwnGo p e below _ (T301.setTop (mkF m 123 #[.val (.ref a1), .val (.int p2), .val (.int (own_probe g1 f1 p2 (63 : Int32) 64 (p2 &&& (63 : Int32))))] [(.int ((2 : Int32) * (s1 + (1 : Int32))))]))
  refine own_go (fun _ k => XS.aloadN X301.here hx rfl (hb hby d_prog_46_method_7_123) rfl rfl k) ?_
  show OwnGo p e below _ (T301.setTop (mkF m 124 #[.val (.ref a1), .val (.int p2), .val (.int (own_probe g1 f1 p2 (63 : Int32) 64 (p2 &&& (63 : Int32))))] [(.ref a1), (.int ((2 : Int32) * (s1 + (1 : Int32))))]))
  have F302 := (F293.other W298 (Or.inl nac))
  obtain ⟨T303, X303, e303, st303⟩ := getF X301 hx hZ hown (host := "") (Or.inl (hw _ (List.mem_of_getElem? (i := 34) rfl))) Via.refl e301 F302 (g := (mkF m 124 #[.val (.ref a1), .val (.int p2), .val (.int (own_probe g1 f1 p2 (63 : Int32) 64 (p2 &&& (63 : Int32))))] [(.ref a1), (.int ((2 : Int32) * (s1 + (1 : Int32))))])) rfl rfl (hb hby d_prog_46_method_7_124)
  refine own_go st303 ?_
  show OwnGo p e below _ (T303.setTop (mkF m 127 #[.val (.ref a1), .val (.int p2), .val (.int (own_probe g1 f1 p2 (63 : Int32) 64 (p2 &&& (63 : Int32))))] [(.ref b2), (.int ((2 : Int32) * (s1 + (1 : Int32))))]))
  obtain ⟨c304, Ar304, S304, M304, H304⟩ := (id V298)
  refine own_go (fun _ k => X303.arraylength hx (cell := c304) (by rw [e303]; exact Ar304.1) (State.isArrayOf_alike hZ.alike Ar304.2.1) (g := (mkF m 127 #[.val (.ref a1), .val (.int p2), .val (.int (own_probe g1 f1 p2 (63 : Int32) 64 (p2 &&& (63 : Int32))))] [(.ref b2), (.int ((2 : Int32) * (s1 + (1 : Int32))))])) rfl (rest := [(.int ((2 : Int32) * (s1 + (1 : Int32))))]) rfl (hb hby d_prog_46_method_7_127) _ k) ?_
  rw [len_of S304 (own_nn (by decide))]
  show OwnGo p e below _ (T303.setTop (mkF m 128 #[.val (.ref a1), .val (.int p2), .val (.int (own_probe g1 f1 p2 (63 : Int32) 64 (p2 &&& (63 : Int32))))] [(.int (64 : Int32)), (.int ((2 : Int32) * (s1 + (1 : Int32))))]))
  refine own_go (fun _ k => XS.icmpNo X303.here hx rfl (hb hby d_prog_46_method_7_128) rfl (tlt (own_ltI (by rw [own_dbl hs0 (by omega), (show (64 : Int32).toInt = 64 from by decide)]; omega))).2.2.2 k) ?_
  show OwnGo p e below _ (T303.setTop (mkF m 131 #[.val (.ref a1), .val (.int p2), .val (.int (own_probe g1 f1 p2 (63 : Int32) 64 (p2 &&& (63 : Int32))))] []))
  refine own_go (fun _ k => XS.aloadN X303.here hx rfl (hb hby d_prog_46_method_7_131) rfl rfl k) ?_
  show OwnGo p e below _ (T303.setTop (mkF m 132 #[.val (.ref a1), .val (.int p2), .val (.int (own_probe g1 f1 p2 (63 : Int32) 64 (p2 &&& (63 : Int32))))] [(.ref a1)]))
  refine own_go (fun _ k => XS.aloadN X303.here hx rfl (hb hby d_prog_46_method_7_132) rfl rfl k) ?_
  show OwnGo p e below _ (T303.setTop (mkF m 133 #[.val (.ref a1), .val (.int p2), .val (.int (own_probe g1 f1 p2 (63 : Int32) 64 (p2 &&& (63 : Int32))))] [(.ref a1), (.ref a1)]))
  obtain ⟨T305, X305, e305, st305⟩ := getF X303 hx hZ hown (host := "") (Or.inl (hw _ (List.mem_of_getElem? (i := 34) rfl))) Via.refl e303 F302 (g := (mkF m 133 #[.val (.ref a1), .val (.int p2), .val (.int (own_probe g1 f1 p2 (63 : Int32) 64 (p2 &&& (63 : Int32))))] [(.ref a1), (.ref a1)])) rfl rfl (hb hby d_prog_46_method_7_133)
  refine own_go st305 ?_
  show OwnGo p e below _ (T305.setTop (mkF m 136 #[.val (.ref a1), .val (.int p2), .val (.int (own_probe g1 f1 p2 (63 : Int32) 64 (p2 &&& (63 : Int32))))] [(.ref b2), (.ref a1)]))
  obtain ⟨c306, Ar306, S306, M306, H306⟩ := (id V298)
  refine own_go (fun _ k => X305.arraylength hx (cell := c306) (by rw [e305]; exact Ar306.1) (State.isArrayOf_alike hZ.alike Ar306.2.1) (g := (mkF m 136 #[.val (.ref a1), .val (.int p2), .val (.int (own_probe g1 f1 p2 (63 : Int32) 64 (p2 &&& (63 : Int32))))] [(.ref b2), (.ref a1)])) rfl (rest := [(.ref a1)]) rfl (hb hby d_prog_46_method_7_136) _ k) ?_
  rw [len_of S306 (own_nn (by decide))]
  show OwnGo p e below _ (T305.setTop (mkF m 137 #[.val (.ref a1), .val (.int p2), .val (.int (own_probe g1 f1 p2 (63 : Int32) 64 (p2 &&& (63 : Int32))))] [(.int (64 : Int32)), (.ref a1)]))
  refine own_go (fun _ k => XS.iconst X305.here hx rfl (hb hby d_prog_46_method_7_137) k) ?_
  show OwnGo p e below _ (T305.setTop (mkF m 138 #[.val (.ref a1), .val (.int p2), .val (.int (own_probe g1 f1 p2 (63 : Int32) 64 (p2 &&& (63 : Int32))))] [(.int (2 : Int32)), (.int (64 : Int32)), (.ref a1)]))
  refine own_go (fun _ k => XS.imul X305.here hx rfl (hb hby d_prog_46_method_7_138) rfl k) ?_
  show OwnGo p e below _ (T305.setTop (mkF m 139 #[.val (.ref a1), .val (.int p2), .val (.int (own_probe g1 f1 p2 (63 : Int32) 64 (p2 &&& (63 : Int32))))] [(.int ((64 : Int32) * (2 : Int32))), (.ref a1)]))
  rw [show ((64 : Int32) * (2 : Int32)) = (128 : Int32) from by decide]
  show OwnGo p e below _ (T305.setTop (mkF m 139 #[.val (.ref a1), .val (.int p2), .val (.int (own_probe g1 f1 p2 (63 : Int32) 64 (p2 &&& (63 : Int32))))] [(.int (128 : Int32)), (.ref a1)]))
  have F307 := ((F290.wr W291).wr W298)
  have F308 := (((PF1.other W286 (Or.inl nab)).other W291 (Or.inr (slot_ne (a0 := a0) (C := "com/example/reweave/reweave/control/Keys") (Or.inl (hw _ (List.mem_of_getElem? (i := 28) rfl))) (Or.inl (hw _ (List.mem_of_getElem? (i := 18) rfl))) (by decide) (t := (.array .int)) (t' := .int) (by decide) (by decide)))).other W298 (Or.inl nac))
  have F309 := ((V286.other W291 (Ne.symm nab)).other W298 nbc)
  obtain ⟨cl310, hcl310, hob310⟩ := F307.cell
  obtain ⟨_, _, ⟨T310, L310, k310, n310⟩, -, X310, ⟨Lc310, hQ310, l310, y310, z310⟩, st310⟩ := X305.privateBack hx (y := (⟨"com/example/reweave/reweave/control/Keys", "reslot", "(I)V"⟩ : MethodName)) hown (mvT hZ (hw _ (List.mem_of_getElem? (i := 41) rfl))) (mvT hZ (hw _ (List.mem_of_getElem? (i := 42) rfl))) (own_selp hZ (hw _ (List.mem_of_getElem? (i := 20) rfl)) (hw _ (List.mem_of_getElem? (i := 43) rfl)) (hw _ (List.mem_of_getElem? (i := 42) rfl)) (by decide)) (Cond.privateMethod_at (mvP hZ (hw _ (List.mem_of_getElem? (i := 43) rfl)) (args := #[]))) (mvT hZ (hw _ (List.mem_of_getElem? (i := 44) rfl))) (by decide) (backOf (W := 0) (rm_re128 l Z a0 hw [] aNONE F0 a1 b1 z1 (own_upd f1 (s1).toNatClampNeg p2) (s1 + (1 : Int32)) (Value.ref b2) h298 n0 O298 F307 F308 F300 F302 F309 ge1 nab hz1 (by rw [(own_succ hs0 (by omega))]; omega) (by rw [(own_succ hs0 (by omega))]; omega) (by rw [(own_succ hs0 (by omega))]; omega)) hZ (hw _ (List.mem_of_getElem? (i := 44) rfl)) (hw _ (List.mem_of_getElem? (i := 4) rfl)) (by decide) (by decide)) (g := (mkF m 139 #[.val (.ref a1), .val (.int p2), .val (.int (own_probe g1 f1 p2 (63 : Int32) 64 (p2 &&& (63 : Int32))))] [(.int (128 : Int32)), (.ref a1)])) rfl (by rw [hml]; rfl) (Steps.refl _) (a := a1) (by rw [e305]; exact hcl310) hob310 (argsL := [(.int (128 : Int32))]) (rest := []) (lenOf pd_I__V rfl) rfl (by show 2 * 0 + _ ≤ _; exact Nat.le_of_eq rfl) (hb hby d_prog_46_method_7_139) (fun _ _ => ⟨rfl, e305, (by decide : 0 + 1 ≤ _), (by decide : 0 + 128 ≤ _)⟩)
  dsimp only [Pt.U, Pt.locs, Pt.cells, Pt.slots] at X310 l310 y310 z310 st310 hQ310
  subst l310 y310 z310
  obtain ⟨r9_310, g9_310, rfl, Nq310, K310, x310_0, x310_1, x310_2, x310_3, x310_4, x310_5⟩ := hQ310
  have N310 := Fr.app N298 Nq310
  have O310 := O298.keep K310 (allS ge1 all0)
  have e310 : T310.heap = T310.heap := rfl
  have z311 : h0.size ≤ T310.heap.size := Nat.le_trans z299 K310.1
  have gex310_5 : n0 ≤ r9_310 := Nat.le_trans (own_sz O298) x310_5
  have ghx310_5 : h0.size ≤ r9_310 := Nat.le_trans z299 x310_5
  have ne312 : a1 ≠ r9_310 := own_newlt F307.lt x310_5
  have ne313 : b1 ≠ r9_310 := own_newlt F309.lt x310_5
  have ne314 : b2 ≠ r9_310 := own_newlt V298.lt x310_5
  refine own_go (fun _ k => st310.trans k) ?_
  show OwnGo p e below _ (T310.setTop (mkF m 142 #[.val (.ref a1), .val (.int p2), .val (.int (own_probe g1 f1 p2 (63 : Int32) 64 (p2 &&& (63 : Int32))))] []))
  refine own_go (fun _ k => XS.goto X310.here hx rfl (pc0 := 142) (pc' := 160) rfl (hb hby d_prog_46_method_7_142) (by decide) (by decide) k) ?_
  show OwnGo p e below _ (T310.setTop (mkF m 160 #[.val (.ref a1), .val (.int p2), .val (.int (own_probe g1 f1 p2 (63 : Int32) 64 (p2 &&& (63 : Int32))))] []))
  obtain ⟨fs, hr, hrun, hended, hW, hsame⟩ := X310.leave (v := none) (fun h => rfl)
  refine ⟨_, _, X310.returnOut hx Bd.returns (hb hby d_prog_46_method_7_160) hr, hrun, hended, _, _, rfl, ?_, ⟨_, rfl⟩, hW, hsame.mono (by decide) (by decide)⟩
  show Q_add64grow Z aNONE a1 p2 b1 z1 f1 s1 b2 g1 h0 n0 _ T310.heap _
  rw [e310]
  have F315 := (F309.keep K310 (ninS (Ne.symm nab) nin0))
  exact ⟨r9_310, g9_310, rfl, N310, (((((Keep.refl _ [a1, b1, b2]).wr W286 (Or.inl (List.mem_of_getElem? (i := 1) rfl))).wr W291 (Or.inl (List.mem_of_getElem? (i := 0) rfl))).wr W298 (Or.inl (List.mem_of_getElem? (i := 2) rfl))).trans K310 (allS (P := fun x => x ∈ _ ∨ _ ≤ x) (Or.inl (List.mem_of_getElem? (i := 0) rfl)) all0)), x310_0, x310_1, F315, x310_2, x310_3, x310_4, ghx310_5⟩
def Q_add128hit (Z : State) (aNONE : Addr) (a1 : Addr) (p2 : Int32) (b1 : Addr) (z1 : Int32) (f1 : Nat → Int32) (s1 : Int32) (b2 : Addr) (g1 : Nat → Int32) (h0 : Heap) (n0 : Nat) (v : Option Value) (h : Heap) (L : List Loc) : Prop := v = none ∧ Fr n0 L ∧ h = h0
theorem ef_add128hit (m : MethodId) (x0 : Addr) (x1 : Int32) : entryFrame m #[(.ref x0), (.int x1)] 3 = mkF m 0 #[.val (.ref x0), .val (.int x1), .unset] [] := by first | (simp [entryFrame, mkF, argsToLocals, Value.category]; done) | rfl
set_option maxRecDepth 65536 in
set_option maxHeartbeats 40000000 in
theorem rm_add128hit (l : Launch) (Z : State) (a0 : Array Value) (hw : ∀ d ∈ tables_1, d.before a0 Z = true) (ws : List Jvm.Cond) (aNONE : Addr) (F0 : OwnFacts Z aNONE) (a1 : Addr) (p2 : Int32) (b1 : Addr) (z1 : Int32) (f1 : Nat → Int32) (s1 : Int32) (b2 : Addr) (g1 : Nat → Int32) (h0 : Heap) (n0 : Nat) (O0 : Old Z n0 h0) (PE1 : Exa Z h0 a1 "com/example/reweave/reweave/control/Keys") (PF1 : Fld Z h0 a1 "com/example/reweave/reweave/control/Keys" "numbers" "[I" (.ref b1)) (PF2 : Fld Z h0 a1 "com/example/reweave/reweave/control/Keys" "size" "I" (.int s1)) (PV1 : IA Z h0 b1 (z1).toNatClampNeg f1) (ge1 : n0 ≤ a1) (ge2 : n0 ≤ b1) (nab : a1 ≠ b1) (hz1 : 0 ≤ z1.toInt) (hs0 : 0 ≤ (s1).toInt) (hsz : (s1).toInt ≤ z1.toInt) (hzz : z1.toInt < 1000) (PF3 : Fld Z h0 a1 "com/example/reweave/reweave/control/Keys" "slots" "[I" (.ref b2)) (PV2 : IA Z h0 b2 ((128 : Int32)).toNatClampNeg g1) (ge3 : n0 ≤ b2) (nac : a1 ≠ b2) (nbc : b1 ≠ b2) (hO : OwnS (128 : Int32) g1 s1) (hsS : s1.toInt < 128) (hq : ¬ (g1 ((own_probe g1 f1 p2 (127 : Int32) 128 (p2 &&& (127 : Int32)))).toNatClampNeg) = (0 : Int32)) :
    MetFree l (⟨"com/example/reweave/reweave/control/Keys", "add", "(I)V"⟩ : MethodName) (head1 (Jvm.Cond.code (⟨"com/example/reweave/reweave/control/Keys", "add", "(I)V"⟩ : MethodName) prog_46_method_7_code 3 none :: ws) ({ frames := 1, cells := 0, slots := 0, locals := 15 } : Room)) (fun a U => a = #[(.ref a1), (.int p2)] ∧ Z.Warmed39 U.vm ∧ U.heap = h0) (fun _ _ _ _ _ => True) (fun _ U o U' => ∃ v L, o = .returned v ∧ Q_add128hit Z aNONE a1 p2 b1 z1 f1 s1 b2 g1 h0 n0 v U'.heap L ∧ FrameEnd U o U' L ({ frames := 1, cells := 0, slots := 0, locals := 15 } : Room).cells ({ frames := 1, cells := 0, slots := 0, locals := 15 } : Room).slots) := by
  refine MetFree.of_bodySF (plainFor_of_name pn_com_example_reweave_reweave_control_Keys) hisR ?_
  intro p e s m args below meth c s₁ Bd hml0 hP hK
  obtain ⟨rfl, hZ, hh⟩ := hP
  have hx := Bd.exec
  have hby := Bd.bytes
  have hml : c.maxLocals = 3 := hml0
  have hown : s.vm.findClass "com/example/reweave/reweave/control/Keys" = some m.cls := findClass_of_methodNamed Bd.named
  have hnm := (name_of_methodNamed Bd.named Bd.method).1
  have X0 : Stand p l e ({ frames := 1, cells := 0, slots := 0, locals := 15 } : Room) s m #[(.ref a1), (.int p2)] below meth c s₁ [] 0 0 := Stand.of_body Bd
  have e0 : s₁.heap = h0 := by rw [← hh, Bd.state]; rfl
  have N0 := Fr.nil n0
  refine own_go (Q := fun o U' => ∃ v L, o = .returned v ∧ Q_add128hit Z aNONE a1 p2 b1 z1 f1 s1 b2 g1 h0 n0 v U'.heap L ∧ FrameEnd s o U' L ({ frames := 1, cells := 0, slots := 0, locals := 15 } : Room).cells ({ frames := 1, cells := 0, slots := 0, locals := 15 } : Room).slots) (fun t k => castTop (ef_add128hit m a1 p2) k) ?_
  show OwnGo p e below _ (s₁.setTop (mkF m 0 #[.val (.ref a1), .val (.int p2), .unset] []))
  refine own_go (fun _ k => XS.aloadN X0.here hx rfl (hb hby d_prog_46_method_7_0) rfl rfl k) ?_
  show OwnGo p e below _ (s₁.setTop (mkF m 1 #[.val (.ref a1), .val (.int p2), .unset] [(.ref a1)]))
  obtain ⟨T316, X316, e316, st316⟩ := getS X0 hx hZ hown (host := "") (hw _ (List.mem_of_getElem? (i := 6) rfl)) Via.refl e0 (F0.1.ext O0.2) (g := (mkF m 1 #[.val (.ref a1), .val (.int p2), .unset] [(.ref a1)])) rfl (hb hby d_prog_46_method_7_1)
  refine own_go st316 ?_
  show OwnGo p e below _ (T316.setTop (mkF m 4 #[.val (.ref a1), .val (.int p2), .unset] [(.ref aNONE), (.ref a1)]))
  refine own_go (fun _ k => acmp X316 hx rfl (cd := .ne) (o := 13) (x := (.ref a1)) (y := (.ref aNONE)) (pc0 := 4) (pc' := 17) rfl rfl rfl (hb hby d_prog_46_method_7_4) rfl (own_refne (Ne.symm (O0.ne F0.2.1.lt ge1))) (by decide) (by decide) k) ?_
  show OwnGo p e below _ (T316.setTop (mkF m 17 #[.val (.ref a1), .val (.int p2), .unset] []))
  refine own_go (fun _ k => XS.iconst X316.here hx rfl (hb hby d_prog_46_method_7_17) k) ?_
  show OwnGo p e below _ (T316.setTop (mkF m 18 #[.val (.ref a1), .val (.int p2), .unset] [(.int (-1 : Int32))]))
  refine own_go (fun _ k => XS.istoreN X316.here hx rfl (hb hby d_prog_46_method_7_18) rfl (l' := #[.val (.ref a1), .val (.int p2), .val (.int (-1 : Int32))]) rfl k) ?_
  show OwnGo p e below _ (T316.setTop (mkF m 19 #[.val (.ref a1), .val (.int p2), .val (.int (-1 : Int32))] []))
  refine own_go (fun _ k => XS.aloadN X316.here hx rfl (hb hby d_prog_46_method_7_19) rfl rfl k) ?_
  show OwnGo p e below _ (T316.setTop (mkF m 20 #[.val (.ref a1), .val (.int p2), .val (.int (-1 : Int32))] [(.ref a1)]))
  obtain ⟨T317, X317, e317, st317⟩ := getF X316 hx hZ hown (host := "") (Or.inl (hw _ (List.mem_of_getElem? (i := 34) rfl))) Via.refl e316 PF3 (g := (mkF m 20 #[.val (.ref a1), .val (.int p2), .val (.int (-1 : Int32))] [(.ref a1)])) rfl rfl (hb hby d_prog_46_method_7_20)
  refine own_go st317 ?_
  show OwnGo p e below _ (T317.setTop (mkF m 23 #[.val (.ref a1), .val (.int p2), .val (.int (-1 : Int32))] [(.ref b2)]))
  refine own_go (fun _ k => XS.ifnullNo X317.here hx rfl (hb hby d_prog_46_method_7_23) rfl k) ?_
  show OwnGo p e below _ (T317.setTop (mkF m 26 #[.val (.ref a1), .val (.int p2), .val (.int (-1 : Int32))] []))
  refine own_go (fun _ k => XS.aloadN X317.here hx rfl (hb hby d_prog_46_method_7_26) rfl rfl k) ?_
  show OwnGo p e below _ (T317.setTop (mkF m 27 #[.val (.ref a1), .val (.int p2), .val (.int (-1 : Int32))] [(.ref a1)]))
  refine own_go (fun _ k => XS.iloadN X317.here hx rfl (hb hby d_prog_46_method_7_27) rfl k) ?_
  show OwnGo p e below _ (T317.setTop (mkF m 28 #[.val (.ref a1), .val (.int p2), .val (.int (-1 : Int32))] [(.int p2), (.ref a1)]))
  obtain ⟨cl318, hcl318, hob318⟩ := PE1.cell
  obtain ⟨_, _, ⟨T318, L318, k318, n318⟩, -, X318, ⟨Lc318, hQ318, l318, y318, z318⟩, st318⟩ := X317.privateBack hx (y := (⟨"com/example/reweave/reweave/control/Keys", "slotOf", "(I)I"⟩ : MethodName)) hown (mvT hZ (hw _ (List.mem_of_getElem? (i := 45) rfl))) (mvT hZ (hw _ (List.mem_of_getElem? (i := 46) rfl))) (own_selp hZ (hw _ (List.mem_of_getElem? (i := 20) rfl)) (hw _ (List.mem_of_getElem? (i := 47) rfl)) (hw _ (List.mem_of_getElem? (i := 46) rfl)) (by decide)) (Cond.privateMethod_at (mvP hZ (hw _ (List.mem_of_getElem? (i := 47) rfl)) (args := #[]))) (mvT hZ (hw _ (List.mem_of_getElem? (i := 48) rfl))) (by decide) (backOf (W := 0) (rm_slot128 l Z a0 hw [] aNONE F0 a1 p2 b1 b2 z1 f1 g1 (own_probe g1 f1 p2 (127 : Int32) 128 (p2 &&& (127 : Int32))) h0 n0 O0 PF1 PF3 PV1 PV2 hz1 (fun j hj => ⟨(hO.1 j (by rw [own_n128]; exact hj)).1, Int.le_trans (hO.1 j (by rw [own_n128]; exact hj)).2 hsz⟩) (by have q := OwnS.free hO hs0 (by rw [(show (128 : Int32).toInt = 128 from by decide)]; omega); rw [own_n128] at q; exact q) rfl) hZ (hw _ (List.mem_of_getElem? (i := 48) rfl)) (hw _ (List.mem_of_getElem? (i := 4) rfl)) (by decide) (by decide)) (g := (mkF m 28 #[.val (.ref a1), .val (.int p2), .val (.int (-1 : Int32))] [(.int p2), (.ref a1)])) rfl (by rw [hml]; rfl) (Steps.refl _) (a := a1) (by rw [e317]; exact hcl318) hob318 (argsL := [(.int p2)]) (rest := []) (lenOf pd_I__I rfl) rfl (by show 2 * 0 + _ ≤ _; exact Nat.le_of_eq rfl) (hb hby d_prog_46_method_7_28) (fun _ _ => ⟨rfl, e317, (by decide : 0 + 0 ≤ _), (by decide : 0 + 0 ≤ _)⟩)
  dsimp only [Pt.U, Pt.locs, Pt.cells, Pt.slots] at X318 l318 y318 z318 st318 hQ318
  subst l318 y318 z318
  obtain ⟨rfl, Nq318, K318⟩ := hQ318
  have N318 := Fr.app N0 Nq318
  refine own_go (fun _ k => st318.trans k) ?_
  show OwnGo p e below _ (T318.setTop (mkF m 31 #[.val (.ref a1), .val (.int p2), .val (.int (-1 : Int32))] [(.int (own_probe g1 f1 p2 (127 : Int32) 128 (p2 &&& (127 : Int32))))]))
  refine own_go (fun _ k => XS.istoreN X318.here hx rfl (hb hby d_prog_46_method_7_31) rfl (l' := #[.val (.ref a1), .val (.int p2), .val (.int (own_probe g1 f1 p2 (127 : Int32) 128 (p2 &&& (127 : Int32))))]) rfl k) ?_
  show OwnGo p e below _ (T318.setTop (mkF m 32 #[.val (.ref a1), .val (.int p2), .val (.int (own_probe g1 f1 p2 (127 : Int32) 128 (p2 &&& (127 : Int32))))] []))
  refine own_go (fun _ k => XS.aloadN X318.here hx rfl (hb hby d_prog_46_method_7_32) rfl rfl k) ?_
  show OwnGo p e below _ (T318.setTop (mkF m 33 #[.val (.ref a1), .val (.int p2), .val (.int (own_probe g1 f1 p2 (127 : Int32) 128 (p2 &&& (127 : Int32))))] [(.ref a1)]))
  obtain ⟨T319, X319, e319, st319⟩ := getF X318 hx hZ hown (host := "") (Or.inl (hw _ (List.mem_of_getElem? (i := 34) rfl))) Via.refl K318 PF3 (g := (mkF m 33 #[.val (.ref a1), .val (.int p2), .val (.int (own_probe g1 f1 p2 (127 : Int32) 128 (p2 &&& (127 : Int32))))] [(.ref a1)])) rfl rfl (hb hby d_prog_46_method_7_33)
  refine own_go st319 ?_
  show OwnGo p e below _ (T319.setTop (mkF m 36 #[.val (.ref a1), .val (.int p2), .val (.int (own_probe g1 f1 p2 (127 : Int32) 128 (p2 &&& (127 : Int32))))] [(.ref b2)]))
  refine own_go (fun _ k => XS.iloadN X319.here hx rfl (hb hby d_prog_46_method_7_36) rfl k) ?_
  show OwnGo p e below _ (T319.setTop (mkF m 37 #[.val (.ref a1), .val (.int p2), .val (.int (own_probe g1 f1 p2 (127 : Int32) 128 (p2 &&& (127 : Int32))))] [(.int (own_probe g1 f1 p2 (127 : Int32) 128 (p2 &&& (127 : Int32)))), (.ref b2)]))
  obtain ⟨c320, Ar320, S320, M320, H320⟩ := (id PV2)
  have b320 : 0 ≤ ((own_probe g1 f1 p2 (127 : Int32) 128 (p2 &&& (127 : Int32)))).toInt ∧ ((own_probe g1 f1 p2 (127 : Int32) 128 (p2 &&& (127 : Int32)))).toInt < ((128 : Int32)).toInt := ⟨(own_probe_rng (k := 7) (by decide) (by decide) 128 _ (own_and_rng _ (127 : Int32) (k := 7) (by decide) (by decide)).1 (own_and_rng _ (127 : Int32) (k := 7) (by decide) (by decide)).2).1, (by rw [(show (128 : Int32).toInt = 128 from by decide)]; exact (own_probe_rng (k := 7) (by decide) (by decide) 128 _ (own_and_rng _ (127 : Int32) (k := 7) (by decide) (by decide)).1 (own_and_rng _ (127 : Int32) (k := 7) (by decide) (by decide)).2).2)⟩
  refine own_go (fun _ k => X319.iaload hx (j := (own_probe g1 f1 p2 (127 : Int32) 128 (p2 &&& (127 : Int32)))) (v := (.int (g1 ((own_probe g1 f1 p2 (127 : Int32) 128 (p2 &&& (127 : Int32)))).toNatClampNeg))) (by rw [e319]; exact Ar320.1) (State.isArrayOf_alike hZ.alike Ar320.2.1) Ar320.2.2 (own_inbz S320 (by decide) b320.1 b320.2) (IA.atz H320 (by decide) b320.1 b320.2) (g := (mkF m 37 #[.val (.ref a1), .val (.int p2), .val (.int (own_probe g1 f1 p2 (127 : Int32) 128 (p2 &&& (127 : Int32))))] [(.int (own_probe g1 f1 p2 (127 : Int32) 128 (p2 &&& (127 : Int32)))), (.ref b2)])) rfl rfl (hb hby d_prog_46_method_7_37) _ k) ?_
  show OwnGo p e below _ (T319.setTop (mkF m 38 #[.val (.ref a1), .val (.int p2), .val (.int (own_probe g1 f1 p2 (127 : Int32) 128 (p2 &&& (127 : Int32))))] [(.int (g1 ((own_probe g1 f1 p2 (127 : Int32) 128 (p2 &&& (127 : Int32)))).toNatClampNeg))]))
  refine own_go (fun _ k => XS.ifNo X319.here hx rfl (hb hby d_prog_46_method_7_38) rfl ((if0 _ _).trans (feq hq).1) k) ?_
  show OwnGo p e below _ (T319.setTop (mkF m 41 #[.val (.ref a1), .val (.int p2), .val (.int (own_probe g1 f1 p2 (127 : Int32) 128 (p2 &&& (127 : Int32))))] []))
  obtain ⟨fs, hr, hrun, hended, hW, hsame⟩ := X319.leave (v := none) (fun h => rfl)
  refine ⟨_, _, X319.returnOut hx Bd.returns (hb hby d_prog_46_method_7_41) hr, hrun, hended, _, _, rfl, ?_, ⟨_, rfl⟩, hW, hsame.mono (by decide) (by decide)⟩
  show Q_add128hit Z aNONE a1 p2 b1 z1 f1 s1 b2 g1 h0 n0 _ T319.heap _
  rw [e319]
  exact ⟨rfl, N318, rfl⟩
def Q_add128miss (Z : State) (aNONE : Addr) (a1 : Addr) (p2 : Int32) (b1 : Addr) (z1 : Int32) (f1 : Nat → Int32) (s1 : Int32) (b2 : Addr) (g1 : Nat → Int32) (h0 : Heap) (n0 : Nat) (v : Option Value) (h : Heap) (L : List Loc) : Prop := v = none ∧ Fr n0 L ∧ Keep h0 h [a1, b1, b2] ∧ Fld Z h a1 "com/example/reweave/reweave/control/Keys" "numbers" "[I" (.ref b1) ∧ Fld Z h a1 "com/example/reweave/reweave/control/Keys" "size" "I" (.int (s1 + (1 : Int32))) ∧ IA Z h b1 (z1).toNatClampNeg (own_upd f1 (s1).toNatClampNeg p2) ∧ Fld Z h a1 "com/example/reweave/reweave/control/Keys" "slots" "[I" (.ref b2) ∧ IA Z h b2 ((128 : Int32)).toNatClampNeg (own_upd g1 ((own_probe g1 f1 p2 (127 : Int32) 128 (p2 &&& (127 : Int32)))).toNatClampNeg (s1 + (1 : Int32))) ∧ OwnS (128 : Int32) (own_upd g1 ((own_probe g1 f1 p2 (127 : Int32) 128 (p2 &&& (127 : Int32)))).toNatClampNeg (s1 + (1 : Int32))) (s1 + (1 : Int32))
theorem ef_add128miss (m : MethodId) (x0 : Addr) (x1 : Int32) : entryFrame m #[(.ref x0), (.int x1)] 3 = mkF m 0 #[.val (.ref x0), .val (.int x1), .unset] [] := by first | (simp [entryFrame, mkF, argsToLocals, Value.category]; done) | rfl
set_option maxRecDepth 65536 in
set_option maxHeartbeats 40000000 in
theorem rm_add128miss (l : Launch) (Z : State) (a0 : Array Value) (hw : ∀ d ∈ tables_1, d.before a0 Z = true) (ws : List Jvm.Cond) (aNONE : Addr) (F0 : OwnFacts Z aNONE) (a1 : Addr) (p2 : Int32) (b1 : Addr) (z1 : Int32) (f1 : Nat → Int32) (s1 : Int32) (b2 : Addr) (g1 : Nat → Int32) (h0 : Heap) (n0 : Nat) (O0 : Old Z n0 h0) (PE1 : Exa Z h0 a1 "com/example/reweave/reweave/control/Keys") (PF1 : Fld Z h0 a1 "com/example/reweave/reweave/control/Keys" "numbers" "[I" (.ref b1)) (PF2 : Fld Z h0 a1 "com/example/reweave/reweave/control/Keys" "size" "I" (.int s1)) (PV1 : IA Z h0 b1 (z1).toNatClampNeg f1) (ge1 : n0 ≤ a1) (ge2 : n0 ≤ b1) (nab : a1 ≠ b1) (hz1 : 0 ≤ z1.toInt) (hs0 : 0 ≤ (s1).toInt) (hsz : (s1).toInt ≤ z1.toInt) (hzz : z1.toInt < 1000) (PF3 : Fld Z h0 a1 "com/example/reweave/reweave/control/Keys" "slots" "[I" (.ref b2)) (PV2 : IA Z h0 b2 ((128 : Int32)).toNatClampNeg g1) (ge3 : n0 ≤ b2) (nac : a1 ≠ b2) (nbc : b1 ≠ b2) (hO : OwnS (128 : Int32) g1 s1) (hsS : s1.toInt < 128) (hq : (g1 ((own_probe g1 f1 p2 (127 : Int32) 128 (p2 &&& (127 : Int32)))).toNatClampNeg) = (0 : Int32)) (hlt : (s1).toInt < z1.toInt) (h2 : 2 * (s1.toInt + 1) ≤ 128) :
    MetFree l (⟨"com/example/reweave/reweave/control/Keys", "add", "(I)V"⟩ : MethodName) (head1 (Jvm.Cond.code (⟨"com/example/reweave/reweave/control/Keys", "add", "(I)V"⟩ : MethodName) prog_46_method_7_code 3 none :: ws) ({ frames := 1, cells := 0, slots := 0, locals := 15 } : Room)) (fun a U => a = #[(.ref a1), (.int p2)] ∧ Z.Warmed39 U.vm ∧ U.heap = h0) (fun _ _ _ _ _ => True) (fun _ U o U' => ∃ v L, o = .returned v ∧ Q_add128miss Z aNONE a1 p2 b1 z1 f1 s1 b2 g1 h0 n0 v U'.heap L ∧ FrameEnd U o U' L ({ frames := 1, cells := 0, slots := 0, locals := 15 } : Room).cells ({ frames := 1, cells := 0, slots := 0, locals := 15 } : Room).slots) := by
  refine MetFree.of_bodySF (plainFor_of_name pn_com_example_reweave_reweave_control_Keys) hisR ?_
  intro p e s m args below meth c s₁ Bd hml0 hP hK
  obtain ⟨rfl, hZ, hh⟩ := hP
  have hx := Bd.exec
  have hby := Bd.bytes
  have hml : c.maxLocals = 3 := hml0
  have hown : s.vm.findClass "com/example/reweave/reweave/control/Keys" = some m.cls := findClass_of_methodNamed Bd.named
  have hnm := (name_of_methodNamed Bd.named Bd.method).1
  have X0 : Stand p l e ({ frames := 1, cells := 0, slots := 0, locals := 15 } : Room) s m #[(.ref a1), (.int p2)] below meth c s₁ [] 0 0 := Stand.of_body Bd
  have e0 : s₁.heap = h0 := by rw [← hh, Bd.state]; rfl
  have N0 := Fr.nil n0
  refine own_go (Q := fun o U' => ∃ v L, o = .returned v ∧ Q_add128miss Z aNONE a1 p2 b1 z1 f1 s1 b2 g1 h0 n0 v U'.heap L ∧ FrameEnd s o U' L ({ frames := 1, cells := 0, slots := 0, locals := 15 } : Room).cells ({ frames := 1, cells := 0, slots := 0, locals := 15 } : Room).slots) (fun t k => castTop (ef_add128miss m a1 p2) k) ?_
  show OwnGo p e below _ (s₁.setTop (mkF m 0 #[.val (.ref a1), .val (.int p2), .unset] []))
  refine own_go (fun _ k => XS.aloadN X0.here hx rfl (hb hby d_prog_46_method_7_0) rfl rfl k) ?_
  show OwnGo p e below _ (s₁.setTop (mkF m 1 #[.val (.ref a1), .val (.int p2), .unset] [(.ref a1)]))
  obtain ⟨T321, X321, e321, st321⟩ := getS X0 hx hZ hown (host := "") (hw _ (List.mem_of_getElem? (i := 6) rfl)) Via.refl e0 (F0.1.ext O0.2) (g := (mkF m 1 #[.val (.ref a1), .val (.int p2), .unset] [(.ref a1)])) rfl (hb hby d_prog_46_method_7_1)
  refine own_go st321 ?_
  show OwnGo p e below _ (T321.setTop (mkF m 4 #[.val (.ref a1), .val (.int p2), .unset] [(.ref aNONE), (.ref a1)]))
  refine own_go (fun _ k => acmp X321 hx rfl (cd := .ne) (o := 13) (x := (.ref a1)) (y := (.ref aNONE)) (pc0 := 4) (pc' := 17) rfl rfl rfl (hb hby d_prog_46_method_7_4) rfl (own_refne (Ne.symm (O0.ne F0.2.1.lt ge1))) (by decide) (by decide) k) ?_
  show OwnGo p e below _ (T321.setTop (mkF m 17 #[.val (.ref a1), .val (.int p2), .unset] []))
  refine own_go (fun _ k => XS.iconst X321.here hx rfl (hb hby d_prog_46_method_7_17) k) ?_
  show OwnGo p e below _ (T321.setTop (mkF m 18 #[.val (.ref a1), .val (.int p2), .unset] [(.int (-1 : Int32))]))
  refine own_go (fun _ k => XS.istoreN X321.here hx rfl (hb hby d_prog_46_method_7_18) rfl (l' := #[.val (.ref a1), .val (.int p2), .val (.int (-1 : Int32))]) rfl k) ?_
  show OwnGo p e below _ (T321.setTop (mkF m 19 #[.val (.ref a1), .val (.int p2), .val (.int (-1 : Int32))] []))
  refine own_go (fun _ k => XS.aloadN X321.here hx rfl (hb hby d_prog_46_method_7_19) rfl rfl k) ?_
  show OwnGo p e below _ (T321.setTop (mkF m 20 #[.val (.ref a1), .val (.int p2), .val (.int (-1 : Int32))] [(.ref a1)]))
  obtain ⟨T322, X322, e322, st322⟩ := getF X321 hx hZ hown (host := "") (Or.inl (hw _ (List.mem_of_getElem? (i := 34) rfl))) Via.refl e321 PF3 (g := (mkF m 20 #[.val (.ref a1), .val (.int p2), .val (.int (-1 : Int32))] [(.ref a1)])) rfl rfl (hb hby d_prog_46_method_7_20)
  refine own_go st322 ?_
  show OwnGo p e below _ (T322.setTop (mkF m 23 #[.val (.ref a1), .val (.int p2), .val (.int (-1 : Int32))] [(.ref b2)]))
  refine own_go (fun _ k => XS.ifnullNo X322.here hx rfl (hb hby d_prog_46_method_7_23) rfl k) ?_
  show OwnGo p e below _ (T322.setTop (mkF m 26 #[.val (.ref a1), .val (.int p2), .val (.int (-1 : Int32))] []))
  refine own_go (fun _ k => XS.aloadN X322.here hx rfl (hb hby d_prog_46_method_7_26) rfl rfl k) ?_
  show OwnGo p e below _ (T322.setTop (mkF m 27 #[.val (.ref a1), .val (.int p2), .val (.int (-1 : Int32))] [(.ref a1)]))
  refine own_go (fun _ k => XS.iloadN X322.here hx rfl (hb hby d_prog_46_method_7_27) rfl k) ?_
  show OwnGo p e below _ (T322.setTop (mkF m 28 #[.val (.ref a1), .val (.int p2), .val (.int (-1 : Int32))] [(.int p2), (.ref a1)]))
  obtain ⟨cl323, hcl323, hob323⟩ := PE1.cell
  obtain ⟨_, _, ⟨T323, L323, k323, n323⟩, -, X323, ⟨Lc323, hQ323, l323, y323, z323⟩, st323⟩ := X322.privateBack hx (y := (⟨"com/example/reweave/reweave/control/Keys", "slotOf", "(I)I"⟩ : MethodName)) hown (mvT hZ (hw _ (List.mem_of_getElem? (i := 45) rfl))) (mvT hZ (hw _ (List.mem_of_getElem? (i := 46) rfl))) (own_selp hZ (hw _ (List.mem_of_getElem? (i := 20) rfl)) (hw _ (List.mem_of_getElem? (i := 47) rfl)) (hw _ (List.mem_of_getElem? (i := 46) rfl)) (by decide)) (Cond.privateMethod_at (mvP hZ (hw _ (List.mem_of_getElem? (i := 47) rfl)) (args := #[]))) (mvT hZ (hw _ (List.mem_of_getElem? (i := 48) rfl))) (by decide) (backOf (W := 0) (rm_slot128 l Z a0 hw [] aNONE F0 a1 p2 b1 b2 z1 f1 g1 (own_probe g1 f1 p2 (127 : Int32) 128 (p2 &&& (127 : Int32))) h0 n0 O0 PF1 PF3 PV1 PV2 hz1 (fun j hj => ⟨(hO.1 j (by rw [own_n128]; exact hj)).1, Int.le_trans (hO.1 j (by rw [own_n128]; exact hj)).2 hsz⟩) (by have q := OwnS.free hO hs0 (by rw [(show (128 : Int32).toInt = 128 from by decide)]; omega); rw [own_n128] at q; exact q) rfl) hZ (hw _ (List.mem_of_getElem? (i := 48) rfl)) (hw _ (List.mem_of_getElem? (i := 4) rfl)) (by decide) (by decide)) (g := (mkF m 28 #[.val (.ref a1), .val (.int p2), .val (.int (-1 : Int32))] [(.int p2), (.ref a1)])) rfl (by rw [hml]; rfl) (Steps.refl _) (a := a1) (by rw [e322]; exact hcl323) hob323 (argsL := [(.int p2)]) (rest := []) (lenOf pd_I__I rfl) rfl (by show 2 * 0 + _ ≤ _; exact Nat.le_of_eq rfl) (hb hby d_prog_46_method_7_28) (fun _ _ => ⟨rfl, e322, (by decide : 0 + 0 ≤ _), (by decide : 0 + 0 ≤ _)⟩)
  dsimp only [Pt.U, Pt.locs, Pt.cells, Pt.slots] at X323 l323 y323 z323 st323 hQ323
  subst l323 y323 z323
  obtain ⟨rfl, Nq323, K323⟩ := hQ323
  have N323 := Fr.app N0 Nq323
  refine own_go (fun _ k => st323.trans k) ?_
  show OwnGo p e below _ (T323.setTop (mkF m 31 #[.val (.ref a1), .val (.int p2), .val (.int (-1 : Int32))] [(.int (own_probe g1 f1 p2 (127 : Int32) 128 (p2 &&& (127 : Int32))))]))
  refine own_go (fun _ k => XS.istoreN X323.here hx rfl (hb hby d_prog_46_method_7_31) rfl (l' := #[.val (.ref a1), .val (.int p2), .val (.int (own_probe g1 f1 p2 (127 : Int32) 128 (p2 &&& (127 : Int32))))]) rfl k) ?_
  show OwnGo p e below _ (T323.setTop (mkF m 32 #[.val (.ref a1), .val (.int p2), .val (.int (own_probe g1 f1 p2 (127 : Int32) 128 (p2 &&& (127 : Int32))))] []))
  refine own_go (fun _ k => XS.aloadN X323.here hx rfl (hb hby d_prog_46_method_7_32) rfl rfl k) ?_
  show OwnGo p e below _ (T323.setTop (mkF m 33 #[.val (.ref a1), .val (.int p2), .val (.int (own_probe g1 f1 p2 (127 : Int32) 128 (p2 &&& (127 : Int32))))] [(.ref a1)]))
  obtain ⟨T324, X324, e324, st324⟩ := getF X323 hx hZ hown (host := "") (Or.inl (hw _ (List.mem_of_getElem? (i := 34) rfl))) Via.refl K323 PF3 (g := (mkF m 33 #[.val (.ref a1), .val (.int p2), .val (.int (own_probe g1 f1 p2 (127 : Int32) 128 (p2 &&& (127 : Int32))))] [(.ref a1)])) rfl rfl (hb hby d_prog_46_method_7_33)
  refine own_go st324 ?_
  show OwnGo p e below _ (T324.setTop (mkF m 36 #[.val (.ref a1), .val (.int p2), .val (.int (own_probe g1 f1 p2 (127 : Int32) 128 (p2 &&& (127 : Int32))))] [(.ref b2)]))
  refine own_go (fun _ k => XS.iloadN X324.here hx rfl (hb hby d_prog_46_method_7_36) rfl k) ?_
  show OwnGo p e below _ (T324.setTop (mkF m 37 #[.val (.ref a1), .val (.int p2), .val (.int (own_probe g1 f1 p2 (127 : Int32) 128 (p2 &&& (127 : Int32))))] [(.int (own_probe g1 f1 p2 (127 : Int32) 128 (p2 &&& (127 : Int32)))), (.ref b2)]))
  obtain ⟨c325, Ar325, S325, M325, H325⟩ := (id PV2)
  have b325 : 0 ≤ ((own_probe g1 f1 p2 (127 : Int32) 128 (p2 &&& (127 : Int32)))).toInt ∧ ((own_probe g1 f1 p2 (127 : Int32) 128 (p2 &&& (127 : Int32)))).toInt < ((128 : Int32)).toInt := ⟨(own_probe_rng (k := 7) (by decide) (by decide) 128 _ (own_and_rng _ (127 : Int32) (k := 7) (by decide) (by decide)).1 (own_and_rng _ (127 : Int32) (k := 7) (by decide) (by decide)).2).1, (by rw [(show (128 : Int32).toInt = 128 from by decide)]; exact (own_probe_rng (k := 7) (by decide) (by decide) 128 _ (own_and_rng _ (127 : Int32) (k := 7) (by decide) (by decide)).1 (own_and_rng _ (127 : Int32) (k := 7) (by decide) (by decide)).2).2)⟩
  refine own_go (fun _ k => X324.iaload hx (j := (own_probe g1 f1 p2 (127 : Int32) 128 (p2 &&& (127 : Int32)))) (v := (.int (g1 ((own_probe g1 f1 p2 (127 : Int32) 128 (p2 &&& (127 : Int32)))).toNatClampNeg))) (by rw [e324]; exact Ar325.1) (State.isArrayOf_alike hZ.alike Ar325.2.1) Ar325.2.2 (own_inbz S325 (by decide) b325.1 b325.2) (IA.atz H325 (by decide) b325.1 b325.2) (g := (mkF m 37 #[.val (.ref a1), .val (.int p2), .val (.int (own_probe g1 f1 p2 (127 : Int32) 128 (p2 &&& (127 : Int32))))] [(.int (own_probe g1 f1 p2 (127 : Int32) 128 (p2 &&& (127 : Int32)))), (.ref b2)])) rfl rfl (hb hby d_prog_46_method_7_37) _ k) ?_
  show OwnGo p e below _ (T324.setTop (mkF m 38 #[.val (.ref a1), .val (.int p2), .val (.int (own_probe g1 f1 p2 (127 : Int32) 128 (p2 &&& (127 : Int32))))] [(.int (g1 ((own_probe g1 f1 p2 (127 : Int32) 128 (p2 &&& (127 : Int32)))).toNatClampNeg))]))
  refine own_go (fun _ k => XS.ifYes X324.here hx rfl (pc0 := 38) (pc' := 51) rfl (hb hby d_prog_46_method_7_38) rfl ((if0 _ _).trans (teq hq).1) (by decide) (by decide) k) ?_
  show OwnGo p e below _ (T324.setTop (mkF m 51 #[.val (.ref a1), .val (.int p2), .val (.int (own_probe g1 f1 p2 (127 : Int32) 128 (p2 &&& (127 : Int32))))] []))
  refine own_go (fun _ k => XS.aloadN X324.here hx rfl (hb hby d_prog_46_method_7_51) rfl rfl k) ?_
  show OwnGo p e below _ (T324.setTop (mkF m 52 #[.val (.ref a1), .val (.int p2), .val (.int (own_probe g1 f1 p2 (127 : Int32) 128 (p2 &&& (127 : Int32))))] [(.ref a1)]))
  obtain ⟨T326, X326, e326, st326⟩ := getF X324 hx hZ hown (host := "") (Or.inl (hw _ (List.mem_of_getElem? (i := 17) rfl))) Via.refl e324 PF2 (g := (mkF m 52 #[.val (.ref a1), .val (.int p2), .val (.int (own_probe g1 f1 p2 (127 : Int32) 128 (p2 &&& (127 : Int32))))] [(.ref a1)])) rfl rfl (hb hby d_prog_46_method_7_52)
  refine own_go st326 ?_
  show OwnGo p e below _ (T326.setTop (mkF m 55 #[.val (.ref a1), .val (.int p2), .val (.int (own_probe g1 f1 p2 (127 : Int32) 128 (p2 &&& (127 : Int32))))] [(.int s1)]))
  refine own_go (fun _ k => XS.aloadN X326.here hx rfl (hb hby d_prog_46_method_7_55) rfl rfl k) ?_
  show OwnGo p e below _ (T326.setTop (mkF m 56 #[.val (.ref a1), .val (.int p2), .val (.int (own_probe g1 f1 p2 (127 : Int32) 128 (p2 &&& (127 : Int32))))] [(.ref a1), (.int s1)]))
  obtain ⟨T327, X327, e327, st327⟩ := getF X326 hx hZ hown (host := "") (Or.inl (hw _ (List.mem_of_getElem? (i := 27) rfl))) Via.refl e326 PF1 (g := (mkF m 56 #[.val (.ref a1), .val (.int p2), .val (.int (own_probe g1 f1 p2 (127 : Int32) 128 (p2 &&& (127 : Int32))))] [(.ref a1), (.int s1)])) rfl rfl (hb hby d_prog_46_method_7_56)
  refine own_go st327 ?_
  show OwnGo p e below _ (T327.setTop (mkF m 59 #[.val (.ref a1), .val (.int p2), .val (.int (own_probe g1 f1 p2 (127 : Int32) 128 (p2 &&& (127 : Int32))))] [(.ref b1), (.int s1)]))
  obtain ⟨c328, Ar328, S328, M328, H328⟩ := (id PV1)
  refine own_go (fun _ k => X327.arraylength hx (cell := c328) (by rw [e327]; exact Ar328.1) (State.isArrayOf_alike hZ.alike Ar328.2.1) (g := (mkF m 59 #[.val (.ref a1), .val (.int p2), .val (.int (own_probe g1 f1 p2 (127 : Int32) 128 (p2 &&& (127 : Int32))))] [(.ref b1), (.int s1)])) rfl (rest := [(.int s1)]) rfl (hb hby d_prog_46_method_7_59) _ k) ?_
  rw [len_of S328 (own_nn hz1)]
  show OwnGo p e below _ (T327.setTop (mkF m 60 #[.val (.ref a1), .val (.int p2), .val (.int (own_probe g1 f1 p2 (127 : Int32) 128 (p2 &&& (127 : Int32))))] [(.int z1), (.int s1)]))
  refine own_go (fun _ k => XS.icmpYes X327.here hx rfl (pc0 := 60) (pc' := 80) rfl (hb hby d_prog_46_method_7_60) rfl (feq (own_neI (by omega))).2 (by decide) (by decide) k) ?_
  show OwnGo p e below _ (T327.setTop (mkF m 80 #[.val (.ref a1), .val (.int p2), .val (.int (own_probe g1 f1 p2 (127 : Int32) 128 (p2 &&& (127 : Int32))))] []))
  refine own_go (fun _ k => XS.aloadN X327.here hx rfl (hb hby d_prog_46_method_7_80) rfl rfl k) ?_
  show OwnGo p e below _ (T327.setTop (mkF m 81 #[.val (.ref a1), .val (.int p2), .val (.int (own_probe g1 f1 p2 (127 : Int32) 128 (p2 &&& (127 : Int32))))] [(.ref a1)]))
  obtain ⟨T329, X329, e329, st329⟩ := getF X327 hx hZ hown (host := "") (Or.inl (hw _ (List.mem_of_getElem? (i := 27) rfl))) Via.refl e327 PF1 (g := (mkF m 81 #[.val (.ref a1), .val (.int p2), .val (.int (own_probe g1 f1 p2 (127 : Int32) 128 (p2 &&& (127 : Int32))))] [(.ref a1)])) rfl rfl (hb hby d_prog_46_method_7_81)
  refine own_go st329 ?_
  show OwnGo p e below _ (T329.setTop (mkF m 84 #[.val (.ref a1), .val (.int p2), .val (.int (own_probe g1 f1 p2 (127 : Int32) 128 (p2 &&& (127 : Int32))))] [(.ref b1)]))
  refine own_go (fun _ k => XS.aloadN X329.here hx rfl (hb hby d_prog_46_method_7_84) rfl rfl k) ?_
  show OwnGo p e below _ (T329.setTop (mkF m 85 #[.val (.ref a1), .val (.int p2), .val (.int (own_probe g1 f1 p2 (127 : Int32) 128 (p2 &&& (127 : Int32))))] [(.ref a1), (.ref b1)]))
  obtain ⟨T330, X330, e330, st330⟩ := getF X329 hx hZ hown (host := "") (Or.inl (hw _ (List.mem_of_getElem? (i := 17) rfl))) Via.refl e329 PF2 (g := (mkF m 85 #[.val (.ref a1), .val (.int p2), .val (.int (own_probe g1 f1 p2 (127 : Int32) 128 (p2 &&& (127 : Int32))))] [(.ref a1), (.ref b1)])) rfl rfl (hb hby d_prog_46_method_7_85)
  refine own_go st330 ?_
  show OwnGo p e below _ (T330.setTop (mkF m 88 #[.val (.ref a1), .val (.int p2), .val (.int (own_probe g1 f1 p2 (127 : Int32) 128 (p2 &&& (127 : Int32))))] [(.int s1), (.ref b1)]))
  refine own_go (fun _ k => XS.iloadN X330.here hx rfl (hb hby d_prog_46_method_7_88) rfl k) ?_
  show OwnGo p e below _ (T330.setTop (mkF m 89 #[.val (.ref a1), .val (.int p2), .val (.int (own_probe g1 f1 p2 (127 : Int32) 128 (p2 &&& (127 : Int32))))] [(.int p2), (.int s1), (.ref b1)]))
  obtain ⟨c331, Ar331, S331, M331, H331⟩ := (id PV1)
  have b331 : 0 ≤ (s1).toInt ∧ (s1).toInt < (z1).toInt := ⟨hs0, hlt⟩
  obtain ⟨T331, h331, X331, e331, W331, st331⟩ := stI X330 hx hZ e330 Ar331 (j := s1) (own_inbz S331 hz1 b331.1 b331.2) (g := (mkF m 89 #[.val (.ref a1), .val (.int p2), .val (.int (own_probe g1 f1 p2 (127 : Int32) 128 (p2 &&& (127 : Int32))))] [(.int p2), (.int s1), (.ref b1)])) rfl rfl (hb hby d_prog_46_method_7_89)
  have N331 := Fr.snoc X331 N323 ge2
  have O331 := O0.wr W331 ge2
  have z332 : h0.size ≤ h331.size := Nat.le_trans (Nat.le_refl _) (Nat.le_of_eq W331.size.symm)
  have V331 : IA Z h331 b1 (z1).toNatClampNeg (own_upd f1 (s1).toNatClampNeg p2) := IA.set Ar331 S331 M331 H331 W331
  refine own_go st331 ?_
  show OwnGo p e below _ (T331.setTop (mkF m 90 #[.val (.ref a1), .val (.int p2), .val (.int (own_probe g1 f1 p2 (127 : Int32) 128 (p2 &&& (127 : Int32))))] []))
  refine own_go (fun _ k => XS.aloadN X331.here hx rfl (hb hby d_prog_46_method_7_90) rfl rfl k) ?_
  show OwnGo p e below _ (T331.setTop (mkF m 91 #[.val (.ref a1), .val (.int p2), .val (.int (own_probe g1 f1 p2 (127 : Int32) 128 (p2 &&& (127 : Int32))))] [(.ref a1)]))
  refine own_go (fun _ k => XS.dup X331.here hx rfl (hb hby d_prog_46_method_7_91) rfl rfl k) ?_
  show OwnGo p e below _ (T331.setTop (mkF m 92 #[.val (.ref a1), .val (.int p2), .val (.int (own_probe g1 f1 p2 (127 : Int32) 128 (p2 &&& (127 : Int32))))] [(.ref a1), (.ref a1)]))
  have F333 := (PF2.other W331 (Or.inl nab))
  obtain ⟨T334, X334, e334, st334⟩ := getF X331 hx hZ hown (host := "") (Or.inl (hw _ (List.mem_of_getElem? (i := 17) rfl))) Via.refl e331 F333 (g := (mkF m 92 #[.val (.ref a1), .val (.int p2), .val (.int (own_probe g1 f1 p2 (127 : Int32) 128 (p2 &&& (127 : Int32))))] [(.ref a1), (.ref a1)])) rfl rfl (hb hby d_prog_46_method_7_92)
  refine own_go st334 ?_
  show OwnGo p e below _ (T334.setTop (mkF m 95 #[.val (.ref a1), .val (.int p2), .val (.int (own_probe g1 f1 p2 (127 : Int32) 128 (p2 &&& (127 : Int32))))] [(.int s1), (.ref a1)]))
  refine own_go (fun _ k => XS.iconst X334.here hx rfl (hb hby d_prog_46_method_7_95) k) ?_
  show OwnGo p e below _ (T334.setTop (mkF m 96 #[.val (.ref a1), .val (.int p2), .val (.int (own_probe g1 f1 p2 (127 : Int32) 128 (p2 &&& (127 : Int32))))] [(.int (1 : Int32)), (.int s1), (.ref a1)]))
  refine own_go (fun _ k => XS.iadd X334.here hx rfl (hb hby d_prog_46_method_7_96) rfl k) ?_
  show OwnGo p e below _ (T334.setTop (mkF m 97 #[.val (.ref a1), .val (.int p2), .val (.int (own_probe g1 f1 p2 (127 : Int32) 128 (p2 &&& (127 : Int32))))] [(.int (s1 + (1 : Int32))), (.ref a1)]))
  have F335 := (PE1.wr W331)
  obtain ⟨T336, h336, X336, e336, W336, st336⟩ := putF X334 hx hZ hown (host := "") (Or.inl (hw _ (List.mem_of_getElem? (i := 17) rfl))) Via.refl e334 F333 F335 (Or.inl (hw _ (List.mem_of_getElem? (i := 18) rfl))) (hw _ (List.mem_of_getElem? (i := 20) rfl)) (ty := .int) (by decide) rfl rfl (g := (mkF m 97 #[.val (.ref a1), .val (.int p2), .val (.int (own_probe g1 f1 p2 (127 : Int32) 128 (p2 &&& (127 : Int32))))] [(.int (s1 + (1 : Int32))), (.ref a1)])) rfl rfl (hb hby d_prog_46_method_7_97)
  have N336 := Fr.snoc X336 N331 ge1
  have O336 := O331.wr W336 ge1
  have z337 : h0.size ≤ h336.size := Nat.le_trans z332 (Nat.le_of_eq W336.size.symm)
  have F336 : Fld Z h336 a1 "com/example/reweave/reweave/control/Keys" "size" "I" (.int (s1 + (1 : Int32))) := F333.same W336
  refine own_go st336 ?_
  show OwnGo p e below _ (T336.setTop (mkF m 100 #[.val (.ref a1), .val (.int p2), .val (.int (own_probe g1 f1 p2 (127 : Int32) 128 (p2 &&& (127 : Int32))))] []))
  refine own_go (fun _ k => XS.aloadN X336.here hx rfl (hb hby d_prog_46_method_7_100) rfl rfl k) ?_
  show OwnGo p e below _ (T336.setTop (mkF m 101 #[.val (.ref a1), .val (.int p2), .val (.int (own_probe g1 f1 p2 (127 : Int32) 128 (p2 &&& (127 : Int32))))] [(.ref a1)]))
  have F338 := ((PF3.other W331 (Or.inl nab)).other W336 (Or.inr (slot_ne (a0 := a0) (C := "com/example/reweave/reweave/control/Keys") (Or.inl (hw _ (List.mem_of_getElem? (i := 35) rfl))) (Or.inl (hw _ (List.mem_of_getElem? (i := 18) rfl))) (by decide) (t := (.array .int)) (t' := .int) (by decide) (by decide))))
  obtain ⟨T339, X339, e339, st339⟩ := getF X336 hx hZ hown (host := "") (Or.inl (hw _ (List.mem_of_getElem? (i := 34) rfl))) Via.refl e336 F338 (g := (mkF m 101 #[.val (.ref a1), .val (.int p2), .val (.int (own_probe g1 f1 p2 (127 : Int32) 128 (p2 &&& (127 : Int32))))] [(.ref a1)])) rfl rfl (hb hby d_prog_46_method_7_101)
  refine own_go st339 ?_
  show OwnGo p e below _ (T339.setTop (mkF m 104 #[.val (.ref a1), .val (.int p2), .val (.int (own_probe g1 f1 p2 (127 : Int32) 128 (p2 &&& (127 : Int32))))] [(.ref b2)]))
  refine own_go (fun _ k => XS.ifnullNo X339.here hx rfl (hb hby d_prog_46_method_7_104) rfl k) ?_
  show OwnGo p e below _ (T339.setTop (mkF m 107 #[.val (.ref a1), .val (.int p2), .val (.int (own_probe g1 f1 p2 (127 : Int32) 128 (p2 &&& (127 : Int32))))] []))
  refine own_go (fun _ k => XS.aloadN X339.here hx rfl (hb hby d_prog_46_method_7_107) rfl rfl k) ?_
  show OwnGo p e below _ (T339.setTop (mkF m 108 #[.val (.ref a1), .val (.int p2), .val (.int (own_probe g1 f1 p2 (127 : Int32) 128 (p2 &&& (127 : Int32))))] [(.ref a1)]))
  obtain ⟨T340, X340, e340, st340⟩ := getF X339 hx hZ hown (host := "") (Or.inl (hw _ (List.mem_of_getElem? (i := 34) rfl))) Via.refl e339 F338 (g := (mkF m 108 #[.val (.ref a1), .val (.int p2), .val (.int (own_probe g1 f1 p2 (127 : Int32) 128 (p2 &&& (127 : Int32))))] [(.ref a1)])) rfl rfl (hb hby d_prog_46_method_7_108)
  refine own_go st340 ?_
  show OwnGo p e below _ (T340.setTop (mkF m 111 #[.val (.ref a1), .val (.int p2), .val (.int (own_probe g1 f1 p2 (127 : Int32) 128 (p2 &&& (127 : Int32))))] [(.ref b2)]))
  refine own_go (fun _ k => XS.iloadN X340.here hx rfl (hb hby d_prog_46_method_7_111) rfl k) ?_
  show OwnGo p e below _ (T340.setTop (mkF m 112 #[.val (.ref a1), .val (.int p2), .val (.int (own_probe g1 f1 p2 (127 : Int32) 128 (p2 &&& (127 : Int32))))] [(.int (own_probe g1 f1 p2 (127 : Int32) 128 (p2 &&& (127 : Int32)))), (.ref b2)]))
  refine own_go (fun _ k => XS.aloadN X340.here hx rfl (hb hby d_prog_46_method_7_112) rfl rfl k) ?_
  show OwnGo p e below _ (T340.setTop (mkF m 113 #[.val (.ref a1), .val (.int p2), .val (.int (own_probe g1 f1 p2 (127 : Int32) 128 (p2 &&& (127 : Int32))))] [(.ref a1), (.int (own_probe g1 f1 p2 (127 : Int32) 128 (p2 &&& (127 : Int32)))), (.ref b2)]))
  obtain ⟨T341, X341, e341, st341⟩ := getF X340 hx hZ hown (host := "") (Or.inl (hw _ (List.mem_of_getElem? (i := 17) rfl))) Via.refl e340 F336 (g := (mkF m 113 #[.val (.ref a1), .val (.int p2), .val (.int (own_probe g1 f1 p2 (127 : Int32) 128 (p2 &&& (127 : Int32))))] [(.ref a1), (.int (own_probe g1 f1 p2 (127 : Int32) 128 (p2 &&& (127 : Int32)))), (.ref b2)])) rfl rfl (hb hby d_prog_46_method_7_113)
  refine own_go st341 ?_
  show OwnGo p e below _ (T341.setTop (mkF m 116 #[.val (.ref a1), .val (.int p2), .val (.int (own_probe g1 f1 p2 (127 : Int32) 128 (p2 &&& (127 : Int32))))] [(.int (s1 + (1 : Int32))), (.int (own_probe g1 f1 p2 (127 : Int32) 128 (p2 &&& (127 : Int32)))), (.ref b2)]))
  have F342 := ((PV2.other W331 (Ne.symm nbc)).other W336 (Ne.symm nac))
  obtain ⟨c343, Ar343, S343, M343, H343⟩ := (id F342)
  have b343 : 0 ≤ ((own_probe g1 f1 p2 (127 : Int32) 128 (p2 &&& (127 : Int32)))).toInt ∧ ((own_probe g1 f1 p2 (127 : Int32) 128 (p2 &&& (127 : Int32)))).toInt < ((128 : Int32)).toInt := ⟨(own_probe_rng (k := 7) (by decide) (by decide) 128 _ (own_and_rng _ (127 : Int32) (k := 7) (by decide) (by decide)).1 (own_and_rng _ (127 : Int32) (k := 7) (by decide) (by decide)).2).1, (by rw [(show (128 : Int32).toInt = 128 from by decide)]; exact (own_probe_rng (k := 7) (by decide) (by decide) 128 _ (own_and_rng _ (127 : Int32) (k := 7) (by decide) (by decide)).1 (own_and_rng _ (127 : Int32) (k := 7) (by decide) (by decide)).2).2)⟩
  obtain ⟨T343, h343, X343, e343, W343, st343⟩ := stI X341 hx hZ e341 Ar343 (j := (own_probe g1 f1 p2 (127 : Int32) 128 (p2 &&& (127 : Int32)))) (own_inbz S343 (by decide) b343.1 b343.2) (g := (mkF m 116 #[.val (.ref a1), .val (.int p2), .val (.int (own_probe g1 f1 p2 (127 : Int32) 128 (p2 &&& (127 : Int32))))] [(.int (s1 + (1 : Int32))), (.int (own_probe g1 f1 p2 (127 : Int32) 128 (p2 &&& (127 : Int32)))), (.ref b2)])) rfl rfl (hb hby d_prog_46_method_7_116)
  have N343 := Fr.snoc X343 N336 ge3
  have O343 := O336.wr W343 ge3
  have z344 : h0.size ≤ h343.size := Nat.le_trans z337 (Nat.le_of_eq W343.size.symm)
  have V343 : IA Z h343 b2 ((128 : Int32)).toNatClampNeg (own_upd g1 ((own_probe g1 f1 p2 (127 : Int32) 128 (p2 &&& (127 : Int32)))).toNatClampNeg (s1 + (1 : Int32))) := IA.set Ar343 S343 M343 H343 W343
  refine own_go st343 ?_
  show OwnGo p e below _ (T343.setTop (mkF m 117 #[.val (.ref a1), .val (.int p2), .val (.int (own_probe g1 f1 p2 (127 : Int32) 128 (p2 &&& (127 : Int32))))] []))
  refine own_go (fun _ k => XS.iconst X343.here hx rfl (hb hby d_prog_46_method_7_117) k) ?_
  show OwnGo p e below _ (T343.setTop (mkF m 118 #[.val (.ref a1), .val (.int p2), .val (.int (own_probe g1 f1 p2 (127 : Int32) 128 (p2 &&& (127 : Int32))))] [(.int (2 : Int32))]))
  refine own_go (fun _ k => XS.aloadN X343.here hx rfl (hb hby d_prog_46_method_7_118) rfl rfl k) ?_
  show OwnGo p e below _ (T343.setTop (mkF m 119 #[.val (.ref a1), .val (.int p2), .val (.int (own_probe g1 f1 p2 (127 : Int32) 128 (p2 &&& (127 : Int32))))] [(.ref a1), (.int (2 : Int32))]))
  have F345 := (F336.other W343 (Or.inl nac))
  obtain ⟨T346, X346, e346, st346⟩ := getF X343 hx hZ hown (host := "") (Or.inl (hw _ (List.mem_of_getElem? (i := 17) rfl))) Via.refl e343 F345 (g := (mkF m 119 #[.val (.ref a1), .val (.int p2), .val (.int (own_probe g1 f1 p2 (127 : Int32) 128 (p2 &&& (127 : Int32))))] [(.ref a1), (.int (2 : Int32))])) rfl rfl (hb hby d_prog_46_method_7_119)
  refine own_go st346 ?_
  show OwnGo p e below _ (T346.setTop (mkF m 122 #[.val (.ref a1), .val (.int p2), .val (.int (own_probe g1 f1 p2 (127 : Int32) 128 (p2 &&& (127 : Int32))))] [(.int (s1 + (1 : Int32))), (.int (2 : Int32))]))
  refine own_go (fun _ k => XS.imul X346.here hx rfl (hb hby d_prog_46_method_7_122) rfl k) ?_
  show OwnGo p e below _ (T346.setTop (mkF m 123 #[.val (.ref a1), .val (.int p2), .val (.int (own_probe g1 f1 p2 (127 : Int32) 128 (p2 &&& (127 : Int32))))] [(.int ((2 : Int32) * (s1 + (1 : Int32))))]))
  refine own_go (fun _ k => XS.aloadN X346.here hx rfl (hb hby d_prog_46_method_7_123) rfl rfl k) ?_
  show OwnGo p e below _ (T346.setTop (mkF m 124 #[.val (.ref a1), .val (.int p2), .val (.int (own_probe g1 f1 p2 (127 : Int32) 128 (p2 &&& (127 : Int32))))] [(.ref a1), (.int ((2 : Int32) * (s1 + (1 : Int32))))]))
  have F347 := (F338.other W343 (Or.inl nac))
  obtain ⟨T348, X348, e348, st348⟩ := getF X346 hx hZ hown (host := "") (Or.inl (hw _ (List.mem_of_getElem? (i := 34) rfl))) Via.refl e346 F347 (g := (mkF m 124 #[.val (.ref a1), .val (.int p2), .val (.int (own_probe g1 f1 p2 (127 : Int32) 128 (p2 &&& (127 : Int32))))] [(.ref a1), (.int ((2 : Int32) * (s1 + (1 : Int32))))])) rfl rfl (hb hby d_prog_46_method_7_124)
  refine own_go st348 ?_
  show OwnGo p e below _ (T348.setTop (mkF m 127 #[.val (.ref a1), .val (.int p2), .val (.int (own_probe g1 f1 p2 (127 : Int32) 128 (p2 &&& (127 : Int32))))] [(.ref b2), (.int ((2 : Int32) * (s1 + (1 : Int32))))]))
  obtain ⟨c349, Ar349, S349, M349, H349⟩ := (id V343)
  refine own_go (fun _ k => X348.arraylength hx (cell := c349) (by rw [e348]; exact Ar349.1) (State.isArrayOf_alike hZ.alike Ar349.2.1) (g := (mkF m 127 #[.val (.ref a1), .val (.int p2), .val (.int (own_probe g1 f1 p2 (127 : Int32) 128 (p2 &&& (127 : Int32))))] [(.ref b2), (.int ((2 : Int32) * (s1 + (1 : Int32))))])) rfl (rest := [(.int ((2 : Int32) * (s1 + (1 : Int32))))]) rfl (hb hby d_prog_46_method_7_127) _ k) ?_
  rw [len_of S349 (own_nn (by decide))]
  show OwnGo p e below _ (T348.setTop (mkF m 128 #[.val (.ref a1), .val (.int p2), .val (.int (own_probe g1 f1 p2 (127 : Int32) 128 (p2 &&& (127 : Int32))))] [(.int (128 : Int32)), (.int ((2 : Int32) * (s1 + (1 : Int32))))]))
  refine own_go (fun _ k => XS.icmpYes X348.here hx rfl (pc0 := 128) (pc' := 160) rfl (hb hby d_prog_46_method_7_128) rfl (flt (own_geI (by rw [own_dbl hs0 (by omega), (show (128 : Int32).toInt = 128 from by decide)]; omega))).2.2.2 (by decide) (by decide) k) ?_
  show OwnGo p e below _ (T348.setTop (mkF m 160 #[.val (.ref a1), .val (.int p2), .val (.int (own_probe g1 f1 p2 (127 : Int32) 128 (p2 &&& (127 : Int32))))] []))
  obtain ⟨fs, hr, hrun, hended, hW, hsame⟩ := X348.leave (v := none) (fun h => rfl)
  refine ⟨_, _, X348.returnOut hx Bd.returns (hb hby d_prog_46_method_7_160) hr, hrun, hended, _, _, rfl, ?_, ⟨_, rfl⟩, hW, hsame.mono (by decide) (by decide)⟩
  show Q_add128miss Z aNONE a1 p2 b1 z1 f1 s1 b2 g1 h0 n0 _ T348.heap _
  rw [e348]
  have F350 := (((PF1.other W331 (Or.inl nab)).other W336 (Or.inr (slot_ne (a0 := a0) (C := "com/example/reweave/reweave/control/Keys") (Or.inl (hw _ (List.mem_of_getElem? (i := 28) rfl))) (Or.inl (hw _ (List.mem_of_getElem? (i := 18) rfl))) (by decide) (t := (.array .int)) (t' := .int) (by decide) (by decide)))).other W343 (Or.inl nac))
  have F351 := ((V331.other W336 (Ne.symm nab)).other W343 nbc)
  exact ⟨rfl, N343, ((((Keep.refl _ [a1, b1, b2]).wr W331 (Or.inl (List.mem_of_getElem? (i := 1) rfl))).wr W336 (Or.inl (List.mem_of_getElem? (i := 0) rfl))).wr W343 (Or.inl (List.mem_of_getElem? (i := 2) rfl))), F350, F345, F351, F347, V343, (OwnS.step hO hs0 (by omega))⟩
theorem d_prog_46_method_2_0 : decode prog_46_method_2_code 0 = .ok (.aload_n 0, 1) := by decide +kernel
theorem d_prog_46_method_2_1 : decode prog_46_method_2_code 1 = .ok (.invokespecial 7, 3) := by decide +kernel
theorem d_prog_46_method_2_4 : decode prog_46_method_2_code 4 = .ok (.aload_n 0, 1) := by decide +kernel
theorem d_prog_46_method_2_5 : decode prog_46_method_2_code 5 = .ok (.iload_n 1, 1) := by decide +kernel
theorem d_prog_46_method_2_6 : decode prog_46_method_2_code 6 = .ok (.newarray .int, 2) := by decide +kernel
theorem d_prog_46_method_2_8 : decode prog_46_method_2_code 8 = .ok (.putfield 12, 3) := by decide +kernel
theorem d_prog_46_method_2_11 : decode prog_46_method_2_code 11 = .ok (.return_, 1) := by decide +kernel
def Q_init (Z : State) (aNONE : Addr) (a1 : Addr) (z1 : Int32) (h0 : Heap) (n0 : Nat) (v : Option Value) (h : Heap) (L : List Loc) : Prop := ∃ (b9 : Addr), v = none ∧ Fr n0 L ∧ Keep h0 h [a1] ∧ Fld Z h a1 "com/example/reweave/reweave/control/Keys" "numbers" "[I" (.ref b9) ∧ Fld Z h a1 "com/example/reweave/reweave/control/Keys" "size" "I" (.int (0 : Int32)) ∧ Fld Z h a1 "com/example/reweave/reweave/control/Keys" "slots" "[I" .null ∧ IA Z h b9 (z1).toNatClampNeg (fun _ => 0) ∧ h0.size ≤ b9
theorem ef_init (m : MethodId) (x0 : Addr) (x1 : Int32) : entryFrame m #[(.ref x0), (.int x1)] 2 = mkF m 0 #[.val (.ref x0), .val (.int x1)] [] := by first | (simp [entryFrame, mkF, argsToLocals, Value.category]; done) | rfl
set_option maxRecDepth 65536 in
set_option maxHeartbeats 40000000 in
theorem rm_init (l : Launch) (Z : State) (a0 : Array Value) (hw : ∀ d ∈ tables_1, d.before a0 Z = true) (ws : List Jvm.Cond) (aNONE : Addr) (F0 : OwnFacts Z aNONE) (a1 : Addr) (z1 : Int32) (h0 : Heap) (n0 : Nat) (O0 : Old Z n0 h0) (PE1 : Exa Z h0 a1 "com/example/reweave/reweave/control/Keys") (PF1 : Fld Z h0 a1 "com/example/reweave/reweave/control/Keys" "numbers" "[I" .null) (PF2 : Fld Z h0 a1 "com/example/reweave/reweave/control/Keys" "size" "I" (.int (0 : Int32))) (PF3 : Fld Z h0 a1 "com/example/reweave/reweave/control/Keys" "slots" "[I" .null) (ge1 : n0 ≤ a1) (hz1 : 0 ≤ z1.toInt) (hz34 : z1.toInt ≤ 34) :
    MetFree l (⟨"com/example/reweave/reweave/control/Keys", "<init>", "(I)V"⟩ : MethodName) (head1 (Jvm.Cond.code (⟨"com/example/reweave/reweave/control/Keys", "<init>", "(I)V"⟩ : MethodName) prog_46_method_2_code 2 none :: ws) ({ frames := 1, cells := 1, slots := 34, locals := 12 } : Room)) (fun a U => a = #[(.ref a1), (.int z1)] ∧ Z.Warmed39 U.vm ∧ U.heap = h0) (fun _ _ _ _ _ => True) (fun _ U o U' => ∃ v L, o = .returned v ∧ Q_init Z aNONE a1 z1 h0 n0 v U'.heap L ∧ FrameEnd U o U' L ({ frames := 1, cells := 1, slots := 34, locals := 12 } : Room).cells ({ frames := 1, cells := 1, slots := 34, locals := 12 } : Room).slots) := by
  refine MetFree.of_bodySF (plainFor_of_name pn_com_example_reweave_reweave_control_Keys) hisR ?_
  intro p e s m args below meth c s₁ Bd hml0 hP hK
  obtain ⟨rfl, hZ, hh⟩ := hP
  have hx := Bd.exec
  have hby := Bd.bytes
  have hml : c.maxLocals = 2 := hml0
  have hown : s.vm.findClass "com/example/reweave/reweave/control/Keys" = some m.cls := findClass_of_methodNamed Bd.named
  have hnm := (name_of_methodNamed Bd.named Bd.method).1
  have X0 : Stand p l e ({ frames := 1, cells := 1, slots := 34, locals := 12 } : Room) s m #[(.ref a1), (.int z1)] below meth c s₁ [] 0 0 := Stand.of_body Bd
  have e0 : s₁.heap = h0 := by rw [← hh, Bd.state]; rfl
  have N0 := Fr.nil n0
  refine own_go (Q := fun o U' => ∃ v L, o = .returned v ∧ Q_init Z aNONE a1 z1 h0 n0 v U'.heap L ∧ FrameEnd s o U' L ({ frames := 1, cells := 1, slots := 34, locals := 12 } : Room).cells ({ frames := 1, cells := 1, slots := 34, locals := 12 } : Room).slots) (fun t k => castTop (ef_init m a1 z1) k) ?_
  show OwnGo p e below _ (s₁.setTop (mkF m 0 #[.val (.ref a1), .val (.int z1)] []))
  refine own_go (fun _ k => XS.aloadN X0.here hx rfl (hb hby d_prog_46_method_2_0) rfl rfl k) ?_
  show OwnGo p e below _ (s₁.setTop (mkF m 1 #[.val (.ref a1), .val (.int z1)] [(.ref a1)]))
  obtain ⟨T352, X352, e352, st352⟩ := initO X0 hx hZ hown (hw _ (List.mem_of_getElem? (i := 24) rfl)) (hw _ (List.mem_of_getElem? (i := 25) rfl)) (hw _ (List.mem_of_getElem? (i := 26) rfl)) e0 (g := (mkF m 1 #[.val (.ref a1), .val (.int z1)] [(.ref a1)])) rfl (by rw [hml]; rfl) rfl (hb hby d_prog_46_method_2_1) (by decide) (W := 0) (by show 2 * 0 + _ ≤ _; exact Nat.le_of_eq rfl) (by decide)
  refine own_go st352 ?_
  show OwnGo p e below _ (T352.setTop (mkF m 4 #[.val (.ref a1), .val (.int z1)] []))
  refine own_go (fun _ k => XS.aloadN X352.here hx rfl (hb hby d_prog_46_method_2_4) rfl rfl k) ?_
  show OwnGo p e below _ (T352.setTop (mkF m 5 #[.val (.ref a1), .val (.int z1)] [(.ref a1)]))
  refine own_go (fun _ k => XS.iloadN X352.here hx rfl (hb hby d_prog_46_method_2_5) rfl k) ?_
  show OwnGo p e below _ (T352.setTop (mkF m 6 #[.val (.ref a1), .val (.int z1)] [(.int z1), (.ref a1)]))
  obtain ⟨T353, h353, k353, X353, e353, E353, A353, st353⟩ := newP X352 hx hZ (hw _ (List.mem_of_getElem? (i := 1) rfl)) e352 (g := (mkF m 6 #[.val (.ref a1), .val (.int z1)] [(.int z1), (.ref a1)])) rfl (hb hby d_prog_46_method_2_6) rfl (own_nn hz1) (cap := 34) (by have := own_nat hz1; omega) (by decide) (by decide) (by decide)
  obtain ⟨a353, g353⟩ : ∃ z, z = h0.size := ⟨_, rfl⟩
  rw [← g353] at A353 st353
  have ge353 : n0 ≤ a353 := Nat.le_trans (own_sz O0) (Nat.le_of_eq g353.symm)
  have gh353 : h0.size ≤ a353 := Nat.le_trans (Nat.le_refl _) (Nat.le_of_eq g353.symm)
  have ne354 : a1 ≠ a353 := own_newne g353 PE1.lt
  have O353 := O0.ext E353
  have z355 : h0.size ≤ h353.size := Nat.le_trans (Nat.le_refl _) E353.1
  have V353 : IA Z h353 a353 (z1).toNatClampNeg (fun _ => 0) := IA.new A353 (own_nn hz1)
  refine own_go st353 ?_
  show OwnGo p e below _ (T353.setTop (mkF m 8 #[.val (.ref a1), .val (.int z1)] [(.ref a353), (.ref a1)]))
  have F356 := (PF1.ext E353)
  have F357 := (PE1.ext E353)
  obtain ⟨T358, h358, X358, e358, W358, st358⟩ := putF X353 hx hZ hown (host := "") (Or.inl (hw _ (List.mem_of_getElem? (i := 27) rfl))) Via.refl e353 F356 F357 (Or.inl (hw _ (List.mem_of_getElem? (i := 28) rfl))) (hw _ (List.mem_of_getElem? (i := 20) rfl)) (ty := (.array .int)) (by decide) rfl rfl (g := (mkF m 8 #[.val (.ref a1), .val (.int z1)] [(.ref a353), (.ref a1)])) rfl rfl (hb hby d_prog_46_method_2_8)
  have N358 := Fr.snoc X358 N0 ge1
  have O358 := O353.wr W358 ge1
  have z359 : h0.size ≤ h358.size := Nat.le_trans z355 (Nat.le_of_eq W358.size.symm)
  have F358 : Fld Z h358 a1 "com/example/reweave/reweave/control/Keys" "numbers" "[I" (.ref a353) := F356.same W358
  refine own_go st358 ?_
  show OwnGo p e below _ (T358.setTop (mkF m 11 #[.val (.ref a1), .val (.int z1)] []))
  obtain ⟨fs, hr, hrun, hended, hW, hsame⟩ := X358.leave (v := none) (fun h => rfl)
  refine ⟨_, _, X358.returnOut hx Bd.returns (hb hby d_prog_46_method_2_11) hr, hrun, hended, _, _, rfl, ?_, ⟨_, rfl⟩, hW, hsame.mono (by decide) (by decide)⟩
  show Q_init Z aNONE a1 z1 h0 n0 _ T358.heap _
  rw [e358]
  have F360 := ((PF2.ext E353).other W358 (Or.inr (slot_ne (a0 := a0) (C := "com/example/reweave/reweave/control/Keys") (Or.inl (hw _ (List.mem_of_getElem? (i := 18) rfl))) (Or.inl (hw _ (List.mem_of_getElem? (i := 28) rfl))) (by decide) (t := .int) (t' := (.array .int)) (by decide) (by decide))))
  have F361 := ((PF3.ext E353).other W358 (Or.inr (slot_ne (a0 := a0) (C := "com/example/reweave/reweave/control/Keys") (Or.inl (hw _ (List.mem_of_getElem? (i := 35) rfl))) (Or.inl (hw _ (List.mem_of_getElem? (i := 28) rfl))) (by decide) (t := (.array .int)) (t' := (.array .int)) (by decide) (by decide))))
  have F362 := (V353.other W358 (Ne.symm ne354))
  exact ⟨a353, rfl, N358, (((Keep.refl _ [a1]).ext E353).wr W358 (Or.inl (List.mem_of_getElem? (i := 0) rfl))), F358, F360, F361, F362, gh353⟩
theorem d_prog_46_method_9_0 : decode prog_46_method_9_code 0 = .ok (.iload_n 1, 1) := by decide +kernel
theorem d_prog_46_method_9_1 : decode prog_46_method_9_code 1 = .ok (.iload_n 2, 1) := by decide +kernel
theorem d_prog_46_method_9_2 : decode prog_46_method_9_code 2 = .ok (.if_icmp .ne 7, 3) := by decide +kernel
theorem d_prog_46_method_9_9 : decode prog_46_method_9_code 9 = .ok (.new 1, 3) := by decide +kernel
theorem d_prog_46_method_9_12 : decode prog_46_method_9_code 12 = .ok (.dup, 1) := by decide +kernel
theorem d_prog_46_method_9_13 : decode prog_46_method_9_code 13 = .ok (.iload_n 2, 1) := by decide +kernel
theorem d_prog_46_method_9_14 : decode prog_46_method_9_code 14 = .ok (.iload_n 1, 1) := by decide +kernel
theorem d_prog_46_method_9_15 : decode prog_46_method_9_code 15 = .ok (.isub, 1) := by decide +kernel
theorem d_prog_46_method_9_16 : decode prog_46_method_9_code 16 = .ok (.invokespecial 3, 3) := by decide +kernel
theorem d_prog_46_method_9_19 : decode prog_46_method_9_code 19 = .ok (.astore_n 3, 1) := by decide +kernel
theorem d_prog_46_method_9_20 : decode prog_46_method_9_code 20 = .ok (.iload_n 1, 1) := by decide +kernel
theorem d_prog_46_method_9_21 : decode prog_46_method_9_code 21 = .ok (.istore 4, 2) := by decide +kernel
theorem d_prog_46_method_9_23 : decode prog_46_method_9_code 23 = .ok (.iload 4, 2) := by decide +kernel
theorem d_prog_46_method_9_25 : decode prog_46_method_9_code 25 = .ok (.iload_n 2, 1) := by decide +kernel
theorem d_prog_46_method_9_26 : decode prog_46_method_9_code 26 = .ok (.if_icmp .ge 17, 3) := by decide +kernel
theorem d_prog_46_method_9_43 : decode prog_46_method_9_code 43 = .ok (.aload_n 3, 1) := by decide +kernel
theorem d_prog_46_method_9_44 : decode prog_46_method_9_code 44 = .ok (.areturn, 1) := by decide +kernel
theorem d_prog_46_method_9_29 : decode prog_46_method_9_code 29 = .ok (.aload_n 3, 1) := by decide +kernel
theorem d_prog_46_method_9_30 : decode prog_46_method_9_code 30 = .ok (.aload_n 0, 1) := by decide +kernel
theorem d_prog_46_method_9_31 : decode prog_46_method_9_code 31 = .ok (.iload 4, 2) := by decide +kernel
theorem d_prog_46_method_9_33 : decode prog_46_method_9_code 33 = .ok (.iaload, 1) := by decide +kernel
theorem d_prog_46_method_9_34 : decode prog_46_method_9_code 34 = .ok (.invokevirtual 51, 3) := by decide +kernel
theorem d_prog_46_method_9_37 : decode prog_46_method_9_code 37 = .ok (.iinc 4 1, 3) := by decide +kernel
theorem d_prog_46_method_9_40 : decode prog_46_method_9_code 40 = .ok (.goto (-17), 3) := by decide +kernel
def Q_of (Z : State) (aNONE : Addr) (c1 : Addr) (p3 : Int32) (af : Nat → Int32) (h0 : Heap) (n0 : Nat) (v : Option Value) (h : Heap) (L : List Loc) : Prop := ∃ (r9 : Addr) (b9 : Addr) (s9 : Int32) (f9 : Nat → Int32) (o9 : Value), v = some (.ref r9) ∧ Fr n0 L ∧ Keep h0 h [] ∧ Exa Z h r9 "com/example/reweave/reweave/control/Keys" ∧ Fld Z h r9 "com/example/reweave/reweave/control/Keys" "numbers" "[I" (.ref b9) ∧ Fld Z h r9 "com/example/reweave/reweave/control/Keys" "size" "I" (.int s9) ∧ Fld Z h r9 "com/example/reweave/reweave/control/Keys" "slots" "[I" o9 ∧ IA Z h b9 (p3).toNatClampNeg f9 ∧ h0.size ≤ r9 ∧ h0.size ≤ b9 ∧ r9 ≠ b9
theorem ef_of (m : MethodId) (x0 : Addr) (x1 : Int32) (x2 : Int32) : entryFrame m #[(.ref x0), (.int x1), (.int x2)] 5 = mkF m 0 #[.val (.ref x0), .val (.int x1), .val (.int x2), .unset, .unset] [] := by first | (simp [entryFrame, mkF, argsToLocals, Value.category]; done) | rfl
set_option maxRecDepth 65536 in
set_option maxHeartbeats 40000000 in
theorem rm_of (l : Launch) (Z : State) (a0 : Array Value) (hw : ∀ d ∈ tables_1, d.before a0 Z = true) (ws : List Jvm.Cond) (aNONE : Addr) (F0 : OwnFacts Z aNONE) (c1 : Addr) (p3 : Int32) (af : Nat → Int32) (h0 : Heap) (n0 : Nat) (O0 : Old Z n0 h0) (PV1 : IA Z h0 c1 ((34 : Int32)).toNatClampNeg af) (hp0 : 0 < p3.toInt) (hp1 : p3.toInt ≤ 34) :
    MetFree l (⟨"com/example/reweave/reweave/control/Keys", "of", "([III)Lcom/example/reweave/reweave/control/Keys;"⟩ : MethodName) (head1 (Jvm.Cond.code (⟨"com/example/reweave/reweave/control/Keys", "of", "([III)Lcom/example/reweave/reweave/control/Keys;"⟩ : MethodName) prog_46_method_9_code 5 (some (.object "com/example/reweave/reweave/control/Keys")) :: ws) ({ frames := 3, cells := 5, slots := 261, locals := 44 } : Room)) (fun a U => a = #[(.ref c1), (.int (0 : Int32)), (.int p3)] ∧ Z.Warmed39 U.vm ∧ U.heap = h0) (fun _ _ _ _ _ => True) (fun _ U o U' => ∃ v L, o = .returned v ∧ Q_of Z aNONE c1 p3 af h0 n0 v U'.heap L ∧ FrameEnd U o U' L ({ frames := 3, cells := 5, slots := 261, locals := 44 } : Room).cells ({ frames := 3, cells := 5, slots := 261, locals := 44 } : Room).slots) := by
  refine MetFree.of_bodySF (plainFor_of_name pn_com_example_reweave_reweave_control_Keys) hisR ?_
  intro p e s m args below meth c s₁ Bd hml0 hP hK
  obtain ⟨rfl, hZ, hh⟩ := hP
  have hx := Bd.exec
  have hby := Bd.bytes
  have hml : c.maxLocals = 5 := hml0
  have hown : s.vm.findClass "com/example/reweave/reweave/control/Keys" = some m.cls := findClass_of_methodNamed Bd.named
  have hnm := (name_of_methodNamed Bd.named Bd.method).1
  have X0 : Stand p l e ({ frames := 3, cells := 5, slots := 261, locals := 44 } : Room) s m #[(.ref c1), (.int (0 : Int32)), (.int p3)] below meth c s₁ [] 0 0 := Stand.of_body Bd
  have e0 : s₁.heap = h0 := by rw [← hh, Bd.state]; rfl
  have N0 := Fr.nil n0
  refine own_go (Q := fun o U' => ∃ v L, o = .returned v ∧ Q_of Z aNONE c1 p3 af h0 n0 v U'.heap L ∧ FrameEnd s o U' L ({ frames := 3, cells := 5, slots := 261, locals := 44 } : Room).cells ({ frames := 3, cells := 5, slots := 261, locals := 44 } : Room).slots) (fun t k => castTop (ef_of m c1 (0 : Int32) p3) k) ?_
  show OwnGo p e below _ (s₁.setTop (mkF m 0 #[.val (.ref c1), .val (.int (0 : Int32)), .val (.int p3), .unset, .unset] []))
  refine own_go (fun _ k => XS.iloadN X0.here hx rfl (hb hby d_prog_46_method_9_0) rfl k) ?_
  show OwnGo p e below _ (s₁.setTop (mkF m 1 #[.val (.ref c1), .val (.int (0 : Int32)), .val (.int p3), .unset, .unset] [(.int (0 : Int32))]))
  refine own_go (fun _ k => XS.iloadN X0.here hx rfl (hb hby d_prog_46_method_9_1) rfl k) ?_
  show OwnGo p e below _ (s₁.setTop (mkF m 2 #[.val (.ref c1), .val (.int (0 : Int32)), .val (.int p3), .unset, .unset] [(.int p3), (.int (0 : Int32))]))
  refine own_go (fun _ k => XS.icmpYes X0.here hx rfl (pc0 := 2) (pc' := 9) rfl (hb hby d_prog_46_method_9_2) rfl (feq (own_neI (by rw [(show (0 : Int32).toInt = 0 from by decide)]; omega))).2 (by decide) (by decide) k) ?_
  show OwnGo p e below _ (s₁.setTop (mkF m 9 #[.val (.ref c1), .val (.int (0 : Int32)), .val (.int p3), .unset, .unset] []))
  obtain ⟨T363, h363, X363, e363, E363, A363, D363, -, st363⟩ := newO X0 hx hZ hown (hw _ (List.mem_of_getElem? (i := 19) rfl)) (hw _ (List.mem_of_getElem? (i := 20) rfl)) (hw _ (List.mem_of_getElem? (i := 4) rfl)) e0 (g := (mkF m 9 #[.val (.ref c1), .val (.int (0 : Int32)), .val (.int p3), .unset, .unset] [])) rfl (hb hby d_prog_46_method_9_9) (by decide) (by decide)
  obtain ⟨a363, g363⟩ : ∃ z, z = h0.size := ⟨_, rfl⟩
  rw [← g363] at A363 D363 st363
  have ge363 : n0 ≤ a363 := Nat.le_trans (own_sz O0) (Nat.le_of_eq g363.symm)
  have gh363 : h0.size ≤ a363 := Nat.le_trans (Nat.le_refl _) (Nat.le_of_eq g363.symm)
  have ne364 : c1 ≠ a363 := own_newne g363 PV1.lt
  have O363 := O0.ext E363
  have z365 : h0.size ≤ h363.size := Nat.le_trans (Nat.le_refl _) E363.1
  have F366 : Fld Z h363 a363 "com/example/reweave/reweave/control/Keys" "size" "I" (.int (0 : Int32)) := D363 (Or.inl (hw _ (List.mem_of_getElem? (i := 18) rfl))) (ty := .int) (by decide)
  have F367 : Fld Z h363 a363 "com/example/reweave/reweave/control/Keys" "numbers" "[I" .null := D363 (Or.inl (hw _ (List.mem_of_getElem? (i := 28) rfl))) (ty := (.array .int)) (by decide)
  have F368 : Fld Z h363 a363 "com/example/reweave/reweave/control/Keys" "slots" "[I" .null := D363 (Or.inl (hw _ (List.mem_of_getElem? (i := 35) rfl))) (ty := (.array .int)) (by decide)
  refine own_go st363 ?_
  show OwnGo p e below _ (T363.setTop (mkF m 12 #[.val (.ref c1), .val (.int (0 : Int32)), .val (.int p3), .unset, .unset] [(.ref a363)]))
  refine own_go (fun _ k => XS.dup X363.here hx rfl (hb hby d_prog_46_method_9_12) rfl rfl k) ?_
  show OwnGo p e below _ (T363.setTop (mkF m 13 #[.val (.ref c1), .val (.int (0 : Int32)), .val (.int p3), .unset, .unset] [(.ref a363), (.ref a363)]))
  refine own_go (fun _ k => XS.iloadN X363.here hx rfl (hb hby d_prog_46_method_9_13) rfl k) ?_
  show OwnGo p e below _ (T363.setTop (mkF m 14 #[.val (.ref c1), .val (.int (0 : Int32)), .val (.int p3), .unset, .unset] [(.int p3), (.ref a363), (.ref a363)]))
  refine own_go (fun _ k => XS.iloadN X363.here hx rfl (hb hby d_prog_46_method_9_14) rfl k) ?_
  show OwnGo p e below _ (T363.setTop (mkF m 15 #[.val (.ref c1), .val (.int (0 : Int32)), .val (.int p3), .unset, .unset] [(.int (0 : Int32)), (.int p3), (.ref a363), (.ref a363)]))
  refine own_go (fun _ k => XS.isub X363.here hx rfl (hb hby d_prog_46_method_9_15) rfl k) ?_
  show OwnGo p e below _ (T363.setTop (mkF m 16 #[.val (.ref c1), .val (.int (0 : Int32)), .val (.int p3), .unset, .unset] [(.int (p3 - (0 : Int32))), (.ref a363), (.ref a363)]))
  rw [Int32.sub_zero]
  show OwnGo p e below _ (T363.setTop (mkF m 16 #[.val (.ref c1), .val (.int (0 : Int32)), .val (.int p3), .unset, .unset] [(.int p3), (.ref a363), (.ref a363)]))
  have F369 := (PV1.ext E363)
  obtain ⟨_, _, ⟨T370, L370, k370, n370⟩, -, X370, ⟨Lc370, hQ370, l370, y370, z370⟩, st370⟩ := X363.specialBack hx (y := (⟨"com/example/reweave/reweave/control/Keys", "<init>", "(I)V"⟩ : MethodName)) rfl hown (mvT hZ (hw _ (List.mem_of_getElem? (i := 21) rfl))) (mvT hZ (hw _ (List.mem_of_getElem? (i := 22) rfl))) (mvT hZ (hw _ (List.mem_of_getElem? (i := 23) rfl))) (by decide) (backOf (W := 1) (rm_init l Z a0 hw [] aNONE F0 a363 p3 h363 n0 O363 A363 F367 F366 F368 ge363 (show 0 ≤ p3.toInt by omega) hp1) hZ (hw _ (List.mem_of_getElem? (i := 23) rfl)) (hw _ (List.mem_of_getElem? (i := 4) rfl)) (by decide) (by decide)) (g := (mkF m 16 #[.val (.ref c1), .val (.int (0 : Int32)), .val (.int p3), .unset, .unset] [(.int p3), (.ref a363), (.ref a363)])) rfl (by rw [hml]; rfl) (Steps.refl _) (a := a363) (argsL := [(.int p3)]) (rest := [(.ref a363)]) (lenOf pd_I__V rfl) rfl (by show 2 * 0 + _ ≤ _; exact Nat.le_of_eq rfl) (hb hby d_prog_46_method_9_16) (fun _ _ => ⟨rfl, e363, (by decide : 1 + 1 ≤ _), (by decide : 3 + 34 ≤ _)⟩)
  dsimp only [Pt.U, Pt.locs, Pt.cells, Pt.slots] at X370 l370 y370 z370 st370 hQ370
  subst l370 y370 z370
  obtain ⟨b9_370, rfl, Nq370, K370, x370_0, x370_1, x370_2, x370_3, x370_4⟩ := hQ370
  have N370 := Fr.app N0 Nq370
  have O370 := O363.keep K370 (allS ge363 all0)
  have e370 : T370.heap = T370.heap := rfl
  have z371 : h0.size ≤ T370.heap.size := Nat.le_trans z365 K370.1
  have gex370_4 : n0 ≤ b9_370 := Nat.le_trans (own_sz O363) x370_4
  have ghx370_4 : h0.size ≤ b9_370 := Nat.le_trans z365 x370_4
  have ne372 : a363 ≠ b9_370 := own_newlt A363.lt x370_4
  have ne373 : c1 ≠ b9_370 := own_newlt F369.lt x370_4
  refine own_go (fun _ k => st370.trans k) ?_
  show OwnGo p e below _ (T370.setTop (mkF m 19 #[.val (.ref c1), .val (.int (0 : Int32)), .val (.int p3), .unset, .unset] [(.ref a363)]))
  refine own_go (fun _ k => XS.astoreN X370.here hx rfl (hb hby d_prog_46_method_9_19) rfl rfl (l' := #[.val (.ref c1), .val (.int (0 : Int32)), .val (.int p3), .val (.ref a363), .unset]) rfl k) ?_
  show OwnGo p e below _ (T370.setTop (mkF m 20 #[.val (.ref c1), .val (.int (0 : Int32)), .val (.int p3), .val (.ref a363), .unset] []))
  refine own_go (fun _ k => XS.iloadN X370.here hx rfl (hb hby d_prog_46_method_9_20) rfl k) ?_
  show OwnGo p e below _ (T370.setTop (mkF m 21 #[.val (.ref c1), .val (.int (0 : Int32)), .val (.int p3), .val (.ref a363), .unset] [(.int (0 : Int32))]))
  refine own_go (fun _ k => XS.istore X370.here hx rfl (hb hby d_prog_46_method_9_21) rfl (l' := #[.val (.ref c1), .val (.int (0 : Int32)), .val (.int p3), .val (.ref a363), .val (.int (0 : Int32))]) rfl k) ?_
  show OwnGo p e below _ (T370.setTop (mkF m 23 #[.val (.ref c1), .val (.int (0 : Int32)), .val (.int p3), .val (.ref a363), .val (.int (0 : Int32))] []))
  have F374 := (A363.keep K370)
  suffices loop : ∀ (t : Nat) (i : Int32) (T : State) (h : Heap) (locs : List Loc), T.heap = h → Fr n0 locs → Old Z n0 h → Keep h0 h [] → 0 ≤ i.toInt → i.toInt + t = p3.toInt → Exa Z h a363 "com/example/reweave/reweave/control/Keys" → Fld Z h a363 "com/example/reweave/reweave/control/Keys" "numbers" "[I" (.ref b9_370) → ((Stand p l e ({ frames := 3, cells := 5, slots := 261, locals := 44 } : Room) s m #[(.ref c1), (.int (0 : Int32)), (.int p3)] below meth c T locs 2 37 ∧ OwnN Z h a363 b9_370 p3 i) ∨ (Stand p l e ({ frames := 3, cells := 5, slots := 261, locals := 44 } : Room) s m #[(.ref c1), (.int (0 : Int32)), (.int p3)] below meth c T locs 3 69 ∧ OwnH Z h h0.size n0 a363 b9_370 p3 i (32 : Int32)) ∨ (Stand p l e ({ frames := 3, cells := 5, slots := 261, locals := 44 } : Room) s m #[(.ref c1), (.int (0 : Int32)), (.int p3)] below meth c T locs 4 133 ∧ OwnH Z h h0.size n0 a363 b9_370 p3 i (64 : Int32)) ∨ (Stand p l e ({ frames := 3, cells := 5, slots := 261, locals := 44 } : Room) s m #[(.ref c1), (.int (0 : Int32)), (.int p3)] below meth c T locs 5 261 ∧ OwnH Z h h0.size n0 a363 b9_370 p3 i (128 : Int32))) → OwnGo p e below (fun o U' => ∃ v L, o = .returned v ∧ Q_of Z aNONE c1 p3 af h0 n0 v U'.heap L ∧ FrameEnd s o U' L ({ frames := 3, cells := 5, slots := 261, locals := 44 } : Room).cells ({ frames := 3, cells := 5, slots := 261, locals := 44 } : Room).slots) (T.setTop (mkF m 23 #[.val (.ref c1), .val (.int (0 : Int32)), .val (.int p3), .val (.ref a363), .val (.int i)] [])) from
    loop p3.toNatClampNeg (0 : Int32) _ _ _ e370 N370 O370 (((Keep.refl _ []).ext E363).trans K370 (allS (P := fun x => x ∈ _ ∨ _ ≤ x) (Or.inr gh363) all0)) (by decide) (by have c0 := (show (0 : Int32).toInt = 0 from by decide); have := own_nat (show 0 ≤ p3.toInt by omega); omega) F374 x370_0 (Or.inl ⟨X370, (0 : Int32), _, by decide, by decide, by decide, x370_1, x370_2, x370_3⟩)
  intro t
  induction t with
  | zero =>
    intro i T h locs eL NL OL KL hi0 hi EL FL1 hK
    rcases hK with ⟨XL, hN⟩ | ⟨XL, hN⟩ | ⟨XL, hN⟩ | ⟨XL, hN⟩
    · obtain ⟨s1, f1, hs0, hs8, hsi, FL2, FL3, VL1⟩ := hN
      show OwnGo p e below _ (T.setTop (mkF m 23 #[.val (.ref c1), .val (.int (0 : Int32)), .val (.int p3), .val (.ref a363), .val (.int i)] []))
      refine own_go (fun _ k => XS.iload XL.here hx rfl (hb hby d_prog_46_method_9_23) rfl k) ?_
      show OwnGo p e below _ (T.setTop (mkF m 25 #[.val (.ref c1), .val (.int (0 : Int32)), .val (.int p3), .val (.ref a363), .val (.int i)] [(.int i)]))
      refine own_go (fun _ k => XS.iloadN XL.here hx rfl (hb hby d_prog_46_method_9_25) rfl k) ?_
      show OwnGo p e below _ (T.setTop (mkF m 26 #[.val (.ref c1), .val (.int (0 : Int32)), .val (.int p3), .val (.ref a363), .val (.int i)] [(.int p3), (.int i)]))
      refine own_go (fun _ k => XS.icmpYes XL.here hx rfl (pc0 := 26) (pc' := 43) rfl (hb hby d_prog_46_method_9_26) rfl (flt (own_geI (by omega))).2.1 (by decide) (by decide) k) ?_
      show OwnGo p e below _ (T.setTop (mkF m 43 #[.val (.ref c1), .val (.int (0 : Int32)), .val (.int p3), .val (.ref a363), .val (.int i)] []))
      refine own_go (fun _ k => XS.aloadN XL.here hx rfl (hb hby d_prog_46_method_9_43) rfl rfl k) ?_
      show OwnGo p e below _ (T.setTop (mkF m 44 #[.val (.ref c1), .val (.int (0 : Int32)), .val (.int p3), .val (.ref a363), .val (.int i)] [(.ref a363)]))
      obtain ⟨fs, hr, hrun, hended, hW, hsame⟩ := XL.leave (v := some (.ref a363)) (fun h => by rw [Bd.returns] at h; cases h)
      refine ⟨_, _, retOut XL hx Bd.returns rfl (Or.inr (Or.inr (Or.inr (Or.inr ⟨rfl, rfl, rfl⟩)))) (hb hby d_prog_46_method_9_44) hr, hrun, hended, _, _, rfl, ?_, ⟨_, rfl⟩, hW, hsame.mono (by decide) (by decide)⟩
      show Q_of Z aNONE c1 p3 af h0 n0 _ T.heap _
      rw [eL]
      exact ⟨a363, b9_370, s1, f1, Value.null, rfl, NL, KL, EL, FL1, FL2, FL3, VL1, gh363, ghx370_4, ne372⟩
    · obtain ⟨s1, f1, g1, cB, hs0, h2s, hsi, hO, FL2, FL3, VL1, VL2, nac, nbc, ghc, gec⟩ := hN
      rw [(show (32 : Int32).toInt = 32 from by decide)] at h2s
      show OwnGo p e below _ (T.setTop (mkF m 23 #[.val (.ref c1), .val (.int (0 : Int32)), .val (.int p3), .val (.ref a363), .val (.int i)] []))
      refine own_go (fun _ k => XS.iload XL.here hx rfl (hb hby d_prog_46_method_9_23) rfl k) ?_
      show OwnGo p e below _ (T.setTop (mkF m 25 #[.val (.ref c1), .val (.int (0 : Int32)), .val (.int p3), .val (.ref a363), .val (.int i)] [(.int i)]))
      refine own_go (fun _ k => XS.iloadN XL.here hx rfl (hb hby d_prog_46_method_9_25) rfl k) ?_
      show OwnGo p e below _ (T.setTop (mkF m 26 #[.val (.ref c1), .val (.int (0 : Int32)), .val (.int p3), .val (.ref a363), .val (.int i)] [(.int p3), (.int i)]))
      refine own_go (fun _ k => XS.icmpYes XL.here hx rfl (pc0 := 26) (pc' := 43) rfl (hb hby d_prog_46_method_9_26) rfl (flt (own_geI (by omega))).2.1 (by decide) (by decide) k) ?_
      show OwnGo p e below _ (T.setTop (mkF m 43 #[.val (.ref c1), .val (.int (0 : Int32)), .val (.int p3), .val (.ref a363), .val (.int i)] []))
      refine own_go (fun _ k => XS.aloadN XL.here hx rfl (hb hby d_prog_46_method_9_43) rfl rfl k) ?_
      show OwnGo p e below _ (T.setTop (mkF m 44 #[.val (.ref c1), .val (.int (0 : Int32)), .val (.int p3), .val (.ref a363), .val (.int i)] [(.ref a363)]))
      obtain ⟨fs, hr, hrun, hended, hW, hsame⟩ := XL.leave (v := some (.ref a363)) (fun h => by rw [Bd.returns] at h; cases h)
      refine ⟨_, _, retOut XL hx Bd.returns rfl (Or.inr (Or.inr (Or.inr (Or.inr ⟨rfl, rfl, rfl⟩)))) (hb hby d_prog_46_method_9_44) hr, hrun, hended, _, _, rfl, ?_, ⟨_, rfl⟩, hW, hsame.mono (by decide) (by decide)⟩
      show Q_of Z aNONE c1 p3 af h0 n0 _ T.heap _
      rw [eL]
      exact ⟨a363, b9_370, s1, f1, (Value.ref cB), rfl, NL, KL, EL, FL1, FL2, FL3, VL1, gh363, ghx370_4, ne372⟩
    · obtain ⟨s1, f1, g1, cB, hs0, h2s, hsi, hO, FL2, FL3, VL1, VL2, nac, nbc, ghc, gec⟩ := hN
      rw [(show (64 : Int32).toInt = 64 from by decide)] at h2s
      show OwnGo p e below _ (T.setTop (mkF m 23 #[.val (.ref c1), .val (.int (0 : Int32)), .val (.int p3), .val (.ref a363), .val (.int i)] []))
      refine own_go (fun _ k => XS.iload XL.here hx rfl (hb hby d_prog_46_method_9_23) rfl k) ?_
      show OwnGo p e below _ (T.setTop (mkF m 25 #[.val (.ref c1), .val (.int (0 : Int32)), .val (.int p3), .val (.ref a363), .val (.int i)] [(.int i)]))
      refine own_go (fun _ k => XS.iloadN XL.here hx rfl (hb hby d_prog_46_method_9_25) rfl k) ?_
      show OwnGo p e below _ (T.setTop (mkF m 26 #[.val (.ref c1), .val (.int (0 : Int32)), .val (.int p3), .val (.ref a363), .val (.int i)] [(.int p3), (.int i)]))
      refine own_go (fun _ k => XS.icmpYes XL.here hx rfl (pc0 := 26) (pc' := 43) rfl (hb hby d_prog_46_method_9_26) rfl (flt (own_geI (by omega))).2.1 (by decide) (by decide) k) ?_
      show OwnGo p e below _ (T.setTop (mkF m 43 #[.val (.ref c1), .val (.int (0 : Int32)), .val (.int p3), .val (.ref a363), .val (.int i)] []))
      refine own_go (fun _ k => XS.aloadN XL.here hx rfl (hb hby d_prog_46_method_9_43) rfl rfl k) ?_
      show OwnGo p e below _ (T.setTop (mkF m 44 #[.val (.ref c1), .val (.int (0 : Int32)), .val (.int p3), .val (.ref a363), .val (.int i)] [(.ref a363)]))
      obtain ⟨fs, hr, hrun, hended, hW, hsame⟩ := XL.leave (v := some (.ref a363)) (fun h => by rw [Bd.returns] at h; cases h)
      refine ⟨_, _, retOut XL hx Bd.returns rfl (Or.inr (Or.inr (Or.inr (Or.inr ⟨rfl, rfl, rfl⟩)))) (hb hby d_prog_46_method_9_44) hr, hrun, hended, _, _, rfl, ?_, ⟨_, rfl⟩, hW, hsame.mono (by decide) (by decide)⟩
      show Q_of Z aNONE c1 p3 af h0 n0 _ T.heap _
      rw [eL]
      exact ⟨a363, b9_370, s1, f1, (Value.ref cB), rfl, NL, KL, EL, FL1, FL2, FL3, VL1, gh363, ghx370_4, ne372⟩
    · obtain ⟨s1, f1, g1, cB, hs0, h2s, hsi, hO, FL2, FL3, VL1, VL2, nac, nbc, ghc, gec⟩ := hN
      rw [(show (128 : Int32).toInt = 128 from by decide)] at h2s
      show OwnGo p e below _ (T.setTop (mkF m 23 #[.val (.ref c1), .val (.int (0 : Int32)), .val (.int p3), .val (.ref a363), .val (.int i)] []))
      refine own_go (fun _ k => XS.iload XL.here hx rfl (hb hby d_prog_46_method_9_23) rfl k) ?_
      show OwnGo p e below _ (T.setTop (mkF m 25 #[.val (.ref c1), .val (.int (0 : Int32)), .val (.int p3), .val (.ref a363), .val (.int i)] [(.int i)]))
      refine own_go (fun _ k => XS.iloadN XL.here hx rfl (hb hby d_prog_46_method_9_25) rfl k) ?_
      show OwnGo p e below _ (T.setTop (mkF m 26 #[.val (.ref c1), .val (.int (0 : Int32)), .val (.int p3), .val (.ref a363), .val (.int i)] [(.int p3), (.int i)]))
      refine own_go (fun _ k => XS.icmpYes XL.here hx rfl (pc0 := 26) (pc' := 43) rfl (hb hby d_prog_46_method_9_26) rfl (flt (own_geI (by omega))).2.1 (by decide) (by decide) k) ?_
      show OwnGo p e below _ (T.setTop (mkF m 43 #[.val (.ref c1), .val (.int (0 : Int32)), .val (.int p3), .val (.ref a363), .val (.int i)] []))
      refine own_go (fun _ k => XS.aloadN XL.here hx rfl (hb hby d_prog_46_method_9_43) rfl rfl k) ?_
      show OwnGo p e below _ (T.setTop (mkF m 44 #[.val (.ref c1), .val (.int (0 : Int32)), .val (.int p3), .val (.ref a363), .val (.int i)] [(.ref a363)]))
      obtain ⟨fs, hr, hrun, hended, hW, hsame⟩ := XL.leave (v := some (.ref a363)) (fun h => by rw [Bd.returns] at h; cases h)
      refine ⟨_, _, retOut XL hx Bd.returns rfl (Or.inr (Or.inr (Or.inr (Or.inr ⟨rfl, rfl, rfl⟩)))) (hb hby d_prog_46_method_9_44) hr, hrun, hended, _, _, rfl, ?_, ⟨_, rfl⟩, hW, hsame.mono (by decide) (by decide)⟩
      show Q_of Z aNONE c1 p3 af h0 n0 _ T.heap _
      rw [eL]
      exact ⟨a363, b9_370, s1, f1, (Value.ref cB), rfl, NL, KL, EL, FL1, FL2, FL3, VL1, gh363, ghx370_4, ne372⟩
  | succ t ih =>
    intro i T h locs eL NL OL KL hi0 hi EL FL1 hK
    have hlt : i.toInt < p3.toInt := by omega
    have hi1 := own_succ hi0 (by omega)
    rcases hK with ⟨XL, hN⟩ | ⟨XL, hN⟩ | ⟨XL, hN⟩ | ⟨XL, hN⟩
    · obtain ⟨s1, f1, hs0, hs8, hsi, FL2, FL3, VL1⟩ := hN
      have hs1 := own_succ hs0 (by omega)
      show OwnGo p e below _ (T.setTop (mkF m 23 #[.val (.ref c1), .val (.int (0 : Int32)), .val (.int p3), .val (.ref a363), .val (.int i)] []))
      refine own_go (fun _ k => XS.iload XL.here hx rfl (hb hby d_prog_46_method_9_23) rfl k) ?_
      show OwnGo p e below _ (T.setTop (mkF m 25 #[.val (.ref c1), .val (.int (0 : Int32)), .val (.int p3), .val (.ref a363), .val (.int i)] [(.int i)]))
      refine own_go (fun _ k => XS.iloadN XL.here hx rfl (hb hby d_prog_46_method_9_25) rfl k) ?_
      show OwnGo p e below _ (T.setTop (mkF m 26 #[.val (.ref c1), .val (.int (0 : Int32)), .val (.int p3), .val (.ref a363), .val (.int i)] [(.int p3), (.int i)]))
      refine own_go (fun _ k => XS.icmpNo XL.here hx rfl (hb hby d_prog_46_method_9_26) rfl (tlt (own_ltI hlt)).2.1 k) ?_
      show OwnGo p e below _ (T.setTop (mkF m 29 #[.val (.ref c1), .val (.int (0 : Int32)), .val (.int p3), .val (.ref a363), .val (.int i)] []))
      refine own_go (fun _ k => XS.aloadN XL.here hx rfl (hb hby d_prog_46_method_9_29) rfl rfl k) ?_
      show OwnGo p e below _ (T.setTop (mkF m 30 #[.val (.ref c1), .val (.int (0 : Int32)), .val (.int p3), .val (.ref a363), .val (.int i)] [(.ref a363)]))
      refine own_go (fun _ k => XS.aloadN XL.here hx rfl (hb hby d_prog_46_method_9_30) rfl rfl k) ?_
      show OwnGo p e below _ (T.setTop (mkF m 31 #[.val (.ref c1), .val (.int (0 : Int32)), .val (.int p3), .val (.ref a363), .val (.int i)] [(.ref c1), (.ref a363)]))
      refine own_go (fun _ k => XS.iload XL.here hx rfl (hb hby d_prog_46_method_9_31) rfl k) ?_
      show OwnGo p e below _ (T.setTop (mkF m 33 #[.val (.ref c1), .val (.int (0 : Int32)), .val (.int p3), .val (.ref a363), .val (.int i)] [(.int i), (.ref c1), (.ref a363)]))
      obtain ⟨c375, Ar375, S375, M375, H375⟩ := (id (PV1.keep KL nin0))
      have b375 : 0 ≤ (i).toInt ∧ (i).toInt < ((34 : Int32)).toInt := ⟨hi0, (by rw [(show (34 : Int32).toInt = 34 from by decide)]; omega)⟩
      refine own_go (fun _ k => XL.iaload hx (j := i) (v := (.int (af (i).toNatClampNeg))) (by rw [eL]; exact Ar375.1) (State.isArrayOf_alike hZ.alike Ar375.2.1) Ar375.2.2 (own_inbz S375 (by decide) b375.1 b375.2) (IA.atz H375 (by decide) b375.1 b375.2) (g := (mkF m 33 #[.val (.ref c1), .val (.int (0 : Int32)), .val (.int p3), .val (.ref a363), .val (.int i)] [(.int i), (.ref c1), (.ref a363)])) rfl rfl (hb hby d_prog_46_method_9_33) _ k) ?_
      show OwnGo p e below _ (T.setTop (mkF m 34 #[.val (.ref c1), .val (.int (0 : Int32)), .val (.int p3), .val (.ref a363), .val (.int i)] [(.int (af (i).toNatClampNeg)), (.ref a363)]))
      by_cases hc376 : own_find f1 (af (i).toNatClampNeg) (s1).toNatClampNeg (0 : Int32) = (1 : Int32)
      · show OwnGo p e below _ (T.setTop (mkF m 34 #[.val (.ref c1), .val (.int (0 : Int32)), .val (.int p3), .val (.ref a363), .val (.int i)] [(.int (af (i).toNatClampNeg)), (.ref a363)]))
        obtain ⟨cq377, kq377, qa377, qb377, qc377⟩ := isOf hZ eL EL
        obtain ⟨_, _, ⟨T377, L377, k377, n377⟩, -, X377, ⟨Lc377, hQ377, l377, y377, z377⟩, st377⟩ := XL.virtualBack hx (y := (⟨"com/example/reweave/reweave/control/Keys", "add", "(I)V"⟩ : MethodName)) (z := (⟨"com/example/reweave/reweave/control/Keys", "add", "(I)V"⟩ : MethodName)) hown (mvT hZ (hw _ (List.mem_of_getElem? (i := 29) rfl))) (mvT hZ (hw _ (List.mem_of_getElem? (i := 30) rfl))) (notFace_of_selects (args := #[]) (mvT hZ (hw _ (List.mem_of_getElem? (i := 32) rfl)))) (mvT hZ (hw _ (List.mem_of_getElem? (i := 32) rfl))) (mvT hZ (hw _ (List.mem_of_getElem? (i := 31) rfl))) (by decide) (backOf (W := 0) (rm_addNhit l Z a0 hw [] aNONE F0 a363 (af (i).toNatClampNeg) b9_370 p3 f1 s1 h n0 OL EL FL1 FL2 VL1 ge363 gex370_4 ne372 (show 0 ≤ p3.toInt by omega) hs0 (by omega) (by omega) FL3 hc376) hZ (hw _ (List.mem_of_getElem? (i := 33) rfl)) (hw _ (List.mem_of_getElem? (i := 4) rfl)) (by decide) (by decide)) qa377 qc377 (g := (mkF m 34 #[.val (.ref c1), .val (.int (0 : Int32)), .val (.int p3), .val (.ref a363), .val (.int i)] [(.int (af (i).toNatClampNeg)), (.ref a363)])) rfl (by rw [hml]; rfl) (Steps.refl _) (argsL := [(.int (af (i).toNatClampNeg))]) (rest := []) (lenOf pd_I__V rfl) rfl (by show 2 * 0 + _ ≤ _; exact Nat.le_of_eq rfl) (hb hby d_prog_46_method_9_34) (fun _ _ => ⟨rfl, eL, (by decide : 2 + 0 ≤ _), (by decide : 37 + 0 ≤ _)⟩)
        dsimp only [Pt.U, Pt.locs, Pt.cells, Pt.slots] at X377 l377 y377 z377 st377 hQ377
        subst l377 y377 z377
        obtain ⟨rfl, Nq377, K377⟩ := hQ377
        have N377 := Fr.app NL Nq377
        refine own_go (fun _ k => st377.trans k) ?_
        show OwnGo p e below _ (T377.setTop (mkF m 37 #[.val (.ref c1), .val (.int (0 : Int32)), .val (.int p3), .val (.ref a363), .val (.int i)] []))
        refine own_go (fun _ k => XS.iinc X377.here hx rfl (hb hby d_prog_46_method_9_37) rfl (l' := #[.val (.ref c1), .val (.int (0 : Int32)), .val (.int p3), .val (.ref a363), .val (.int (i + (1 : Int32)))]) rfl k) ?_
        show OwnGo p e below _ (T377.setTop (mkF m 40 #[.val (.ref c1), .val (.int (0 : Int32)), .val (.int p3), .val (.ref a363), .val (.int (i + (1 : Int32)))] []))
        refine own_go (fun _ k => XS.goto X377.here hx rfl (pc0 := 40) (pc' := 23) rfl (hb hby d_prog_46_method_9_40) (by decide) (by decide) k) ?_
        show OwnGo p e below _ (T377.setTop (mkF m 23 #[.val (.ref c1), .val (.int (0 : Int32)), .val (.int p3), .val (.ref a363), .val (.int (i + (1 : Int32)))] []))
        exact ih _ _ _ _ K377 N377 OL KL (by omega) (by omega) EL FL1 (Or.inl ⟨X377, s1, _, by omega, by omega, by omega, FL2, FL3, VL1⟩)
      · show OwnGo p e below _ (T.setTop (mkF m 34 #[.val (.ref c1), .val (.int (0 : Int32)), .val (.int p3), .val (.ref a363), .val (.int i)] [(.int (af (i).toNatClampNeg)), (.ref a363)]))
        by_cases hc378 : s1.toInt < 8
        · show OwnGo p e below _ (T.setTop (mkF m 34 #[.val (.ref c1), .val (.int (0 : Int32)), .val (.int p3), .val (.ref a363), .val (.int i)] [(.int (af (i).toNatClampNeg)), (.ref a363)]))
          obtain ⟨cq379, kq379, qa379, qb379, qc379⟩ := isOf hZ eL EL
          obtain ⟨_, _, ⟨T379, L379, k379, n379⟩, -, X379, ⟨Lc379, hQ379, l379, y379, z379⟩, st379⟩ := XL.virtualBack hx (y := (⟨"com/example/reweave/reweave/control/Keys", "add", "(I)V"⟩ : MethodName)) (z := (⟨"com/example/reweave/reweave/control/Keys", "add", "(I)V"⟩ : MethodName)) hown (mvT hZ (hw _ (List.mem_of_getElem? (i := 29) rfl))) (mvT hZ (hw _ (List.mem_of_getElem? (i := 30) rfl))) (notFace_of_selects (args := #[]) (mvT hZ (hw _ (List.mem_of_getElem? (i := 32) rfl)))) (mvT hZ (hw _ (List.mem_of_getElem? (i := 32) rfl))) (mvT hZ (hw _ (List.mem_of_getElem? (i := 31) rfl))) (by decide) (backOf (W := 0) (rm_addNmiss l Z a0 hw [] aNONE F0 a363 (af (i).toNatClampNeg) b9_370 p3 f1 s1 h n0 OL EL FL1 FL2 VL1 ge363 gex370_4 ne372 (show 0 ≤ p3.toInt by omega) hs0 (by omega) (by omega) FL3 ((own_find_two _ _ _ _).resolve_right hc376) (by omega) hc378) hZ (hw _ (List.mem_of_getElem? (i := 33) rfl)) (hw _ (List.mem_of_getElem? (i := 4) rfl)) (by decide) (by decide)) qa379 qc379 (g := (mkF m 34 #[.val (.ref c1), .val (.int (0 : Int32)), .val (.int p3), .val (.ref a363), .val (.int i)] [(.int (af (i).toNatClampNeg)), (.ref a363)])) rfl (by rw [hml]; rfl) (Steps.refl _) (argsL := [(.int (af (i).toNatClampNeg))]) (rest := []) (lenOf pd_I__V rfl) rfl (by show 2 * 0 + _ ≤ _; exact Nat.le_of_eq rfl) (hb hby d_prog_46_method_9_34) (fun _ _ => ⟨rfl, eL, (by decide : 2 + 0 ≤ _), (by decide : 37 + 0 ≤ _)⟩)
          dsimp only [Pt.U, Pt.locs, Pt.cells, Pt.slots] at X379 l379 y379 z379 st379 hQ379
          subst l379 y379 z379
          obtain ⟨rfl, Nq379, K379, x379_0, x379_1, x379_2, x379_3⟩ := hQ379
          have N379 := Fr.app NL Nq379
          have O379 := OL.keep K379 (allS ge363 (allS gex370_4 all0))
          have e379 : T379.heap = T379.heap := rfl
          have z380 : h0.size ≤ T379.heap.size := Nat.le_trans KL.1 K379.1
          refine own_go (fun _ k => st379.trans k) ?_
          show OwnGo p e below _ (T379.setTop (mkF m 37 #[.val (.ref c1), .val (.int (0 : Int32)), .val (.int p3), .val (.ref a363), .val (.int i)] []))
          refine own_go (fun _ k => XS.iinc X379.here hx rfl (hb hby d_prog_46_method_9_37) rfl (l' := #[.val (.ref c1), .val (.int (0 : Int32)), .val (.int p3), .val (.ref a363), .val (.int (i + (1 : Int32)))]) rfl k) ?_
          show OwnGo p e below _ (T379.setTop (mkF m 40 #[.val (.ref c1), .val (.int (0 : Int32)), .val (.int p3), .val (.ref a363), .val (.int (i + (1 : Int32)))] []))
          refine own_go (fun _ k => XS.goto X379.here hx rfl (pc0 := 40) (pc' := 23) rfl (hb hby d_prog_46_method_9_40) (by decide) (by decide) k) ?_
          show OwnGo p e below _ (T379.setTop (mkF m 23 #[.val (.ref c1), .val (.int (0 : Int32)), .val (.int p3), .val (.ref a363), .val (.int (i + (1 : Int32)))] []))
          have F381 := (EL.keep K379)
          exact ih _ _ _ _ e379 N379 O379 (KL.trans K379 (allS (P := fun x => x ∈ _ ∨ _ ≤ x) (Or.inr gh363) (allS (P := fun x => x ∈ _ ∨ _ ≤ x) (Or.inr ghx370_4) all0))) (by omega) (by omega) F381 x379_0 (Or.inl ⟨X379, (s1 + (1 : Int32)), _, by omega, by omega, by omega, x379_1, x379_3, x379_2⟩)
        · show OwnGo p e below _ (T.setTop (mkF m 34 #[.val (.ref c1), .val (.int (0 : Int32)), .val (.int p3), .val (.ref a363), .val (.int i)] [(.int (af (i).toNatClampNeg)), (.ref a363)]))
          obtain ⟨cq382, kq382, qa382, qb382, qc382⟩ := isOf hZ eL EL
          obtain ⟨_, _, ⟨T382, L382, k382, n382⟩, -, X382, ⟨Lc382, hQ382, l382, y382, z382⟩, st382⟩ := XL.virtualBack hx (y := (⟨"com/example/reweave/reweave/control/Keys", "add", "(I)V"⟩ : MethodName)) (z := (⟨"com/example/reweave/reweave/control/Keys", "add", "(I)V"⟩ : MethodName)) hown (mvT hZ (hw _ (List.mem_of_getElem? (i := 29) rfl))) (mvT hZ (hw _ (List.mem_of_getElem? (i := 30) rfl))) (notFace_of_selects (args := #[]) (mvT hZ (hw _ (List.mem_of_getElem? (i := 32) rfl)))) (mvT hZ (hw _ (List.mem_of_getElem? (i := 32) rfl))) (mvT hZ (hw _ (List.mem_of_getElem? (i := 31) rfl))) (by decide) (backOf (W := 0) (rm_addNgrow l Z a0 hw [] aNONE F0 a363 (af (i).toNatClampNeg) b9_370 p3 f1 s1 h n0 OL EL FL1 FL2 VL1 ge363 gex370_4 ne372 (show 0 ≤ p3.toInt by omega) hs0 (by omega) (by omega) FL3 ((own_find_two _ _ _ _).resolve_right hc376) (by omega) (by omega)) hZ (hw _ (List.mem_of_getElem? (i := 33) rfl)) (hw _ (List.mem_of_getElem? (i := 4) rfl)) (by decide) (by decide)) qa382 qc382 (g := (mkF m 34 #[.val (.ref c1), .val (.int (0 : Int32)), .val (.int p3), .val (.ref a363), .val (.int i)] [(.int (af (i).toNatClampNeg)), (.ref a363)])) rfl (by rw [hml]; rfl) (Steps.refl _) (argsL := [(.int (af (i).toNatClampNeg))]) (rest := []) (lenOf pd_I__V rfl) rfl (by show 2 * 0 + _ ≤ _; exact Nat.le_of_eq rfl) (hb hby d_prog_46_method_9_34) (fun _ _ => ⟨rfl, eL, (by decide : 2 + 1 ≤ _), (by decide : 37 + 32 ≤ _)⟩)
          dsimp only [Pt.U, Pt.locs, Pt.cells, Pt.slots] at X382 l382 y382 z382 st382 hQ382
          subst l382 y382 z382
          obtain ⟨r9_382, g9_382, rfl, Nq382, K382, x382_0, x382_1, x382_2, x382_3, x382_4, x382_5, x382_6⟩ := hQ382
          have N382 := Fr.app NL Nq382
          have O382 := OL.keep K382 (allS ge363 (allS gex370_4 all0))
          have e382 : T382.heap = T382.heap := rfl
          have z383 : h0.size ≤ T382.heap.size := Nat.le_trans KL.1 K382.1
          have gex382_6 : n0 ≤ r9_382 := Nat.le_trans (own_sz OL) x382_6
          have ghx382_6 : h0.size ≤ r9_382 := Nat.le_trans KL.1 x382_6
          have ne384 : a363 ≠ r9_382 := own_newlt EL.lt x382_6
          have ne385 : b9_370 ≠ r9_382 := own_newlt VL1.lt x382_6
          have ne386 : c1 ≠ r9_382 := own_newlt (PV1.keep KL nin0).lt x382_6
          refine own_go (fun _ k => st382.trans k) ?_
          show OwnGo p e below _ (T382.setTop (mkF m 37 #[.val (.ref c1), .val (.int (0 : Int32)), .val (.int p3), .val (.ref a363), .val (.int i)] []))
          refine own_go (fun _ k => XS.iinc X382.here hx rfl (hb hby d_prog_46_method_9_37) rfl (l' := #[.val (.ref c1), .val (.int (0 : Int32)), .val (.int p3), .val (.ref a363), .val (.int (i + (1 : Int32)))]) rfl k) ?_
          show OwnGo p e below _ (T382.setTop (mkF m 40 #[.val (.ref c1), .val (.int (0 : Int32)), .val (.int p3), .val (.ref a363), .val (.int (i + (1 : Int32)))] []))
          refine own_go (fun _ k => XS.goto X382.here hx rfl (pc0 := 40) (pc' := 23) rfl (hb hby d_prog_46_method_9_40) (by decide) (by decide) k) ?_
          show OwnGo p e below _ (T382.setTop (mkF m 23 #[.val (.ref c1), .val (.int (0 : Int32)), .val (.int p3), .val (.ref a363), .val (.int (i + (1 : Int32)))] []))
          have F387 := (EL.keep K382)
          exact ih _ _ _ _ e382 N382 O382 (KL.trans K382 (allS (P := fun x => x ∈ _ ∨ _ ≤ x) (Or.inr gh363) (allS (P := fun x => x ∈ _ ∨ _ ≤ x) (Or.inr ghx370_4) all0))) (by omega) (by omega) F387 x382_0 (Or.inr (Or.inl ⟨X382, (s1 + (1 : Int32)), _, _, r9_382, by omega, (by rw [(show (32 : Int32).toInt = 32 from by decide)]; omega), by omega, x382_5, x382_1, x382_3, x382_2, x382_4, ne384, ne385, ghx382_6, gex382_6⟩))
    · obtain ⟨s1, f1, g1, cB, hs0, h2s, hsi, hO, FL2, FL3, VL1, VL2, nac, nbc, ghc, gec⟩ := hN
      rw [(show (32 : Int32).toInt = 32 from by decide)] at h2s
      have hs1 := own_succ hs0 (by omega)
      show OwnGo p e below _ (T.setTop (mkF m 23 #[.val (.ref c1), .val (.int (0 : Int32)), .val (.int p3), .val (.ref a363), .val (.int i)] []))
      refine own_go (fun _ k => XS.iload XL.here hx rfl (hb hby d_prog_46_method_9_23) rfl k) ?_
      show OwnGo p e below _ (T.setTop (mkF m 25 #[.val (.ref c1), .val (.int (0 : Int32)), .val (.int p3), .val (.ref a363), .val (.int i)] [(.int i)]))
      refine own_go (fun _ k => XS.iloadN XL.here hx rfl (hb hby d_prog_46_method_9_25) rfl k) ?_
      show OwnGo p e below _ (T.setTop (mkF m 26 #[.val (.ref c1), .val (.int (0 : Int32)), .val (.int p3), .val (.ref a363), .val (.int i)] [(.int p3), (.int i)]))
      refine own_go (fun _ k => XS.icmpNo XL.here hx rfl (hb hby d_prog_46_method_9_26) rfl (tlt (own_ltI hlt)).2.1 k) ?_
      show OwnGo p e below _ (T.setTop (mkF m 29 #[.val (.ref c1), .val (.int (0 : Int32)), .val (.int p3), .val (.ref a363), .val (.int i)] []))
      refine own_go (fun _ k => XS.aloadN XL.here hx rfl (hb hby d_prog_46_method_9_29) rfl rfl k) ?_
      show OwnGo p e below _ (T.setTop (mkF m 30 #[.val (.ref c1), .val (.int (0 : Int32)), .val (.int p3), .val (.ref a363), .val (.int i)] [(.ref a363)]))
      refine own_go (fun _ k => XS.aloadN XL.here hx rfl (hb hby d_prog_46_method_9_30) rfl rfl k) ?_
      show OwnGo p e below _ (T.setTop (mkF m 31 #[.val (.ref c1), .val (.int (0 : Int32)), .val (.int p3), .val (.ref a363), .val (.int i)] [(.ref c1), (.ref a363)]))
      refine own_go (fun _ k => XS.iload XL.here hx rfl (hb hby d_prog_46_method_9_31) rfl k) ?_
      show OwnGo p e below _ (T.setTop (mkF m 33 #[.val (.ref c1), .val (.int (0 : Int32)), .val (.int p3), .val (.ref a363), .val (.int i)] [(.int i), (.ref c1), (.ref a363)]))
      obtain ⟨c388, Ar388, S388, M388, H388⟩ := (id (PV1.keep KL nin0))
      have b388 : 0 ≤ (i).toInt ∧ (i).toInt < ((34 : Int32)).toInt := ⟨hi0, (by rw [(show (34 : Int32).toInt = 34 from by decide)]; omega)⟩
      refine own_go (fun _ k => XL.iaload hx (j := i) (v := (.int (af (i).toNatClampNeg))) (by rw [eL]; exact Ar388.1) (State.isArrayOf_alike hZ.alike Ar388.2.1) Ar388.2.2 (own_inbz S388 (by decide) b388.1 b388.2) (IA.atz H388 (by decide) b388.1 b388.2) (g := (mkF m 33 #[.val (.ref c1), .val (.int (0 : Int32)), .val (.int p3), .val (.ref a363), .val (.int i)] [(.int i), (.ref c1), (.ref a363)])) rfl rfl (hb hby d_prog_46_method_9_33) _ k) ?_
      show OwnGo p e below _ (T.setTop (mkF m 34 #[.val (.ref c1), .val (.int (0 : Int32)), .val (.int p3), .val (.ref a363), .val (.int i)] [(.int (af (i).toNatClampNeg)), (.ref a363)]))
      by_cases hc389 : (g1 ((own_probe g1 f1 (af (i).toNatClampNeg) (31 : Int32) 32 ((af (i).toNatClampNeg) &&& (31 : Int32)))).toNatClampNeg) = (0 : Int32)
      · show OwnGo p e below _ (T.setTop (mkF m 34 #[.val (.ref c1), .val (.int (0 : Int32)), .val (.int p3), .val (.ref a363), .val (.int i)] [(.int (af (i).toNatClampNeg)), (.ref a363)]))
        by_cases hc390 : 2 * (s1.toInt + 1) ≤ 32
        · show OwnGo p e below _ (T.setTop (mkF m 34 #[.val (.ref c1), .val (.int (0 : Int32)), .val (.int p3), .val (.ref a363), .val (.int i)] [(.int (af (i).toNatClampNeg)), (.ref a363)]))
          obtain ⟨cq391, kq391, qa391, qb391, qc391⟩ := isOf hZ eL EL
          obtain ⟨_, _, ⟨T391, L391, k391, n391⟩, -, X391, ⟨Lc391, hQ391, l391, y391, z391⟩, st391⟩ := XL.virtualBack hx (y := (⟨"com/example/reweave/reweave/control/Keys", "add", "(I)V"⟩ : MethodName)) (z := (⟨"com/example/reweave/reweave/control/Keys", "add", "(I)V"⟩ : MethodName)) hown (mvT hZ (hw _ (List.mem_of_getElem? (i := 29) rfl))) (mvT hZ (hw _ (List.mem_of_getElem? (i := 30) rfl))) (notFace_of_selects (args := #[]) (mvT hZ (hw _ (List.mem_of_getElem? (i := 32) rfl)))) (mvT hZ (hw _ (List.mem_of_getElem? (i := 32) rfl))) (mvT hZ (hw _ (List.mem_of_getElem? (i := 31) rfl))) (by decide) (backOf (W := 0) (rm_add32miss l Z a0 hw [] aNONE F0 a363 (af (i).toNatClampNeg) b9_370 p3 f1 s1 cB g1 h n0 OL EL FL1 FL2 VL1 ge363 gex370_4 ne372 (show 0 ≤ p3.toInt by omega) hs0 (by omega) (by omega) FL3 VL2 gec nac nbc hO (by omega) hc389 (by omega) hc390) hZ (hw _ (List.mem_of_getElem? (i := 33) rfl)) (hw _ (List.mem_of_getElem? (i := 4) rfl)) (by decide) (by decide)) qa391 qc391 (g := (mkF m 34 #[.val (.ref c1), .val (.int (0 : Int32)), .val (.int p3), .val (.ref a363), .val (.int i)] [(.int (af (i).toNatClampNeg)), (.ref a363)])) rfl (by rw [hml]; rfl) (Steps.refl _) (argsL := [(.int (af (i).toNatClampNeg))]) (rest := []) (lenOf pd_I__V rfl) rfl (by show 2 * 0 + _ ≤ _; exact Nat.le_of_eq rfl) (hb hby d_prog_46_method_9_34) (fun _ _ => ⟨rfl, eL, (by decide : 3 + 0 ≤ _), (by decide : 69 + 0 ≤ _)⟩)
          dsimp only [Pt.U, Pt.locs, Pt.cells, Pt.slots] at X391 l391 y391 z391 st391 hQ391
          subst l391 y391 z391
          obtain ⟨rfl, Nq391, K391, x391_0, x391_1, x391_2, x391_3, x391_4, x391_5⟩ := hQ391
          have N391 := Fr.app NL Nq391
          have O391 := OL.keep K391 (allS ge363 (allS gex370_4 (allS gec all0)))
          have e391 : T391.heap = T391.heap := rfl
          have z392 : h0.size ≤ T391.heap.size := Nat.le_trans KL.1 K391.1
          refine own_go (fun _ k => st391.trans k) ?_
          show OwnGo p e below _ (T391.setTop (mkF m 37 #[.val (.ref c1), .val (.int (0 : Int32)), .val (.int p3), .val (.ref a363), .val (.int i)] []))
          refine own_go (fun _ k => XS.iinc X391.here hx rfl (hb hby d_prog_46_method_9_37) rfl (l' := #[.val (.ref c1), .val (.int (0 : Int32)), .val (.int p3), .val (.ref a363), .val (.int (i + (1 : Int32)))]) rfl k) ?_
          show OwnGo p e below _ (T391.setTop (mkF m 40 #[.val (.ref c1), .val (.int (0 : Int32)), .val (.int p3), .val (.ref a363), .val (.int (i + (1 : Int32)))] []))
          refine own_go (fun _ k => XS.goto X391.here hx rfl (pc0 := 40) (pc' := 23) rfl (hb hby d_prog_46_method_9_40) (by decide) (by decide) k) ?_
          show OwnGo p e below _ (T391.setTop (mkF m 23 #[.val (.ref c1), .val (.int (0 : Int32)), .val (.int p3), .val (.ref a363), .val (.int (i + (1 : Int32)))] []))
          have F393 := (EL.keep K391)
          exact ih _ _ _ _ e391 N391 O391 (KL.trans K391 (allS (P := fun x => x ∈ _ ∨ _ ≤ x) (Or.inr gh363) (allS (P := fun x => x ∈ _ ∨ _ ≤ x) (Or.inr ghx370_4) (allS (P := fun x => x ∈ _ ∨ _ ≤ x) (Or.inr ghc) all0)))) (by omega) (by omega) F393 x391_0 (Or.inr (Or.inl ⟨X391, (s1 + (1 : Int32)), _, _, cB, by omega, (by rw [(show (32 : Int32).toInt = 32 from by decide)]; omega), by omega, x391_5, x391_1, x391_3, x391_2, x391_4, nac, nbc, ghc, gec⟩))
        · show OwnGo p e below _ (T.setTop (mkF m 34 #[.val (.ref c1), .val (.int (0 : Int32)), .val (.int p3), .val (.ref a363), .val (.int i)] [(.int (af (i).toNatClampNeg)), (.ref a363)]))
          obtain ⟨cq394, kq394, qa394, qb394, qc394⟩ := isOf hZ eL EL
          obtain ⟨_, _, ⟨T394, L394, k394, n394⟩, -, X394, ⟨Lc394, hQ394, l394, y394, z394⟩, st394⟩ := XL.virtualBack hx (y := (⟨"com/example/reweave/reweave/control/Keys", "add", "(I)V"⟩ : MethodName)) (z := (⟨"com/example/reweave/reweave/control/Keys", "add", "(I)V"⟩ : MethodName)) hown (mvT hZ (hw _ (List.mem_of_getElem? (i := 29) rfl))) (mvT hZ (hw _ (List.mem_of_getElem? (i := 30) rfl))) (notFace_of_selects (args := #[]) (mvT hZ (hw _ (List.mem_of_getElem? (i := 32) rfl)))) (mvT hZ (hw _ (List.mem_of_getElem? (i := 32) rfl))) (mvT hZ (hw _ (List.mem_of_getElem? (i := 31) rfl))) (by decide) (backOf (W := 0) (rm_add32grow l Z a0 hw [] aNONE F0 a363 (af (i).toNatClampNeg) b9_370 p3 f1 s1 cB g1 h n0 OL EL FL1 FL2 VL1 ge363 gex370_4 ne372 (show 0 ≤ p3.toInt by omega) hs0 (by omega) (by omega) FL3 VL2 gec nac nbc hO (by omega) hc389 (by omega) (by omega) (by omega)) hZ (hw _ (List.mem_of_getElem? (i := 33) rfl)) (hw _ (List.mem_of_getElem? (i := 4) rfl)) (by decide) (by decide)) qa394 qc394 (g := (mkF m 34 #[.val (.ref c1), .val (.int (0 : Int32)), .val (.int p3), .val (.ref a363), .val (.int i)] [(.int (af (i).toNatClampNeg)), (.ref a363)])) rfl (by rw [hml]; rfl) (Steps.refl _) (argsL := [(.int (af (i).toNatClampNeg))]) (rest := []) (lenOf pd_I__V rfl) rfl (by show 2 * 0 + _ ≤ _; exact Nat.le_of_eq rfl) (hb hby d_prog_46_method_9_34) (fun _ _ => ⟨rfl, eL, (by decide : 3 + 1 ≤ _), (by decide : 69 + 64 ≤ _)⟩)
          dsimp only [Pt.U, Pt.locs, Pt.cells, Pt.slots] at X394 l394 y394 z394 st394 hQ394
          subst l394 y394 z394
          obtain ⟨r9_394, g9_394, rfl, Nq394, K394, x394_0, x394_1, x394_2, x394_3, x394_4, x394_5, x394_6⟩ := hQ394
          have N394 := Fr.app NL Nq394
          have O394 := OL.keep K394 (allS ge363 (allS gex370_4 (allS gec all0)))
          have e394 : T394.heap = T394.heap := rfl
          have z395 : h0.size ≤ T394.heap.size := Nat.le_trans KL.1 K394.1
          have gex394_6 : n0 ≤ r9_394 := Nat.le_trans (own_sz OL) x394_6
          have ghx394_6 : h0.size ≤ r9_394 := Nat.le_trans KL.1 x394_6
          have ne396 : a363 ≠ r9_394 := own_newlt EL.lt x394_6
          have ne397 : b9_370 ≠ r9_394 := own_newlt VL1.lt x394_6
          have ne398 : c1 ≠ r9_394 := own_newlt (PV1.keep KL nin0).lt x394_6
          have ne399 : cB ≠ r9_394 := own_newlt VL2.lt x394_6
          refine own_go (fun _ k => st394.trans k) ?_
          show OwnGo p e below _ (T394.setTop (mkF m 37 #[.val (.ref c1), .val (.int (0 : Int32)), .val (.int p3), .val (.ref a363), .val (.int i)] []))
          refine own_go (fun _ k => XS.iinc X394.here hx rfl (hb hby d_prog_46_method_9_37) rfl (l' := #[.val (.ref c1), .val (.int (0 : Int32)), .val (.int p3), .val (.ref a363), .val (.int (i + (1 : Int32)))]) rfl k) ?_
          show OwnGo p e below _ (T394.setTop (mkF m 40 #[.val (.ref c1), .val (.int (0 : Int32)), .val (.int p3), .val (.ref a363), .val (.int (i + (1 : Int32)))] []))
          refine own_go (fun _ k => XS.goto X394.here hx rfl (pc0 := 40) (pc' := 23) rfl (hb hby d_prog_46_method_9_40) (by decide) (by decide) k) ?_
          show OwnGo p e below _ (T394.setTop (mkF m 23 #[.val (.ref c1), .val (.int (0 : Int32)), .val (.int p3), .val (.ref a363), .val (.int (i + (1 : Int32)))] []))
          have F400 := (EL.keep K394)
          exact ih _ _ _ _ e394 N394 O394 (KL.trans K394 (allS (P := fun x => x ∈ _ ∨ _ ≤ x) (Or.inr gh363) (allS (P := fun x => x ∈ _ ∨ _ ≤ x) (Or.inr ghx370_4) (allS (P := fun x => x ∈ _ ∨ _ ≤ x) (Or.inr ghc) all0)))) (by omega) (by omega) F400 x394_0 (Or.inr (Or.inr (Or.inl ⟨X394, (s1 + (1 : Int32)), _, _, r9_394, by omega, (by rw [(show (64 : Int32).toInt = 64 from by decide)]; omega), by omega, x394_5, x394_1, x394_3, x394_2, x394_4, ne396, ne397, ghx394_6, gex394_6⟩)))
      · show OwnGo p e below _ (T.setTop (mkF m 34 #[.val (.ref c1), .val (.int (0 : Int32)), .val (.int p3), .val (.ref a363), .val (.int i)] [(.int (af (i).toNatClampNeg)), (.ref a363)]))
        obtain ⟨cq401, kq401, qa401, qb401, qc401⟩ := isOf hZ eL EL
        obtain ⟨_, _, ⟨T401, L401, k401, n401⟩, -, X401, ⟨Lc401, hQ401, l401, y401, z401⟩, st401⟩ := XL.virtualBack hx (y := (⟨"com/example/reweave/reweave/control/Keys", "add", "(I)V"⟩ : MethodName)) (z := (⟨"com/example/reweave/reweave/control/Keys", "add", "(I)V"⟩ : MethodName)) hown (mvT hZ (hw _ (List.mem_of_getElem? (i := 29) rfl))) (mvT hZ (hw _ (List.mem_of_getElem? (i := 30) rfl))) (notFace_of_selects (args := #[]) (mvT hZ (hw _ (List.mem_of_getElem? (i := 32) rfl)))) (mvT hZ (hw _ (List.mem_of_getElem? (i := 32) rfl))) (mvT hZ (hw _ (List.mem_of_getElem? (i := 31) rfl))) (by decide) (backOf (W := 0) (rm_add32hit l Z a0 hw [] aNONE F0 a363 (af (i).toNatClampNeg) b9_370 p3 f1 s1 cB g1 h n0 OL EL FL1 FL2 VL1 ge363 gex370_4 ne372 (show 0 ≤ p3.toInt by omega) hs0 (by omega) (by omega) FL3 VL2 gec nac nbc hO (by omega) hc389) hZ (hw _ (List.mem_of_getElem? (i := 33) rfl)) (hw _ (List.mem_of_getElem? (i := 4) rfl)) (by decide) (by decide)) qa401 qc401 (g := (mkF m 34 #[.val (.ref c1), .val (.int (0 : Int32)), .val (.int p3), .val (.ref a363), .val (.int i)] [(.int (af (i).toNatClampNeg)), (.ref a363)])) rfl (by rw [hml]; rfl) (Steps.refl _) (argsL := [(.int (af (i).toNatClampNeg))]) (rest := []) (lenOf pd_I__V rfl) rfl (by show 2 * 0 + _ ≤ _; exact Nat.le_of_eq rfl) (hb hby d_prog_46_method_9_34) (fun _ _ => ⟨rfl, eL, (by decide : 3 + 0 ≤ _), (by decide : 69 + 0 ≤ _)⟩)
        dsimp only [Pt.U, Pt.locs, Pt.cells, Pt.slots] at X401 l401 y401 z401 st401 hQ401
        subst l401 y401 z401
        obtain ⟨rfl, Nq401, K401⟩ := hQ401
        have N401 := Fr.app NL Nq401
        refine own_go (fun _ k => st401.trans k) ?_
        show OwnGo p e below _ (T401.setTop (mkF m 37 #[.val (.ref c1), .val (.int (0 : Int32)), .val (.int p3), .val (.ref a363), .val (.int i)] []))
        refine own_go (fun _ k => XS.iinc X401.here hx rfl (hb hby d_prog_46_method_9_37) rfl (l' := #[.val (.ref c1), .val (.int (0 : Int32)), .val (.int p3), .val (.ref a363), .val (.int (i + (1 : Int32)))]) rfl k) ?_
        show OwnGo p e below _ (T401.setTop (mkF m 40 #[.val (.ref c1), .val (.int (0 : Int32)), .val (.int p3), .val (.ref a363), .val (.int (i + (1 : Int32)))] []))
        refine own_go (fun _ k => XS.goto X401.here hx rfl (pc0 := 40) (pc' := 23) rfl (hb hby d_prog_46_method_9_40) (by decide) (by decide) k) ?_
        show OwnGo p e below _ (T401.setTop (mkF m 23 #[.val (.ref c1), .val (.int (0 : Int32)), .val (.int p3), .val (.ref a363), .val (.int (i + (1 : Int32)))] []))
        exact ih _ _ _ _ K401 N401 OL KL (by omega) (by omega) EL FL1 (Or.inr (Or.inl ⟨X401, s1, _, _, cB, by omega, (by rw [(show (32 : Int32).toInt = 32 from by decide)]; omega), by omega, hO, FL2, FL3, VL1, VL2, nac, nbc, ghc, gec⟩))
    · obtain ⟨s1, f1, g1, cB, hs0, h2s, hsi, hO, FL2, FL3, VL1, VL2, nac, nbc, ghc, gec⟩ := hN
      rw [(show (64 : Int32).toInt = 64 from by decide)] at h2s
      have hs1 := own_succ hs0 (by omega)
      show OwnGo p e below _ (T.setTop (mkF m 23 #[.val (.ref c1), .val (.int (0 : Int32)), .val (.int p3), .val (.ref a363), .val (.int i)] []))
      refine own_go (fun _ k => XS.iload XL.here hx rfl (hb hby d_prog_46_method_9_23) rfl k) ?_
      show OwnGo p e below _ (T.setTop (mkF m 25 #[.val (.ref c1), .val (.int (0 : Int32)), .val (.int p3), .val (.ref a363), .val (.int i)] [(.int i)]))
      refine own_go (fun _ k => XS.iloadN XL.here hx rfl (hb hby d_prog_46_method_9_25) rfl k) ?_
      show OwnGo p e below _ (T.setTop (mkF m 26 #[.val (.ref c1), .val (.int (0 : Int32)), .val (.int p3), .val (.ref a363), .val (.int i)] [(.int p3), (.int i)]))
      refine own_go (fun _ k => XS.icmpNo XL.here hx rfl (hb hby d_prog_46_method_9_26) rfl (tlt (own_ltI hlt)).2.1 k) ?_
      show OwnGo p e below _ (T.setTop (mkF m 29 #[.val (.ref c1), .val (.int (0 : Int32)), .val (.int p3), .val (.ref a363), .val (.int i)] []))
      refine own_go (fun _ k => XS.aloadN XL.here hx rfl (hb hby d_prog_46_method_9_29) rfl rfl k) ?_
      show OwnGo p e below _ (T.setTop (mkF m 30 #[.val (.ref c1), .val (.int (0 : Int32)), .val (.int p3), .val (.ref a363), .val (.int i)] [(.ref a363)]))
      refine own_go (fun _ k => XS.aloadN XL.here hx rfl (hb hby d_prog_46_method_9_30) rfl rfl k) ?_
      show OwnGo p e below _ (T.setTop (mkF m 31 #[.val (.ref c1), .val (.int (0 : Int32)), .val (.int p3), .val (.ref a363), .val (.int i)] [(.ref c1), (.ref a363)]))
      refine own_go (fun _ k => XS.iload XL.here hx rfl (hb hby d_prog_46_method_9_31) rfl k) ?_
      show OwnGo p e below _ (T.setTop (mkF m 33 #[.val (.ref c1), .val (.int (0 : Int32)), .val (.int p3), .val (.ref a363), .val (.int i)] [(.int i), (.ref c1), (.ref a363)]))
      obtain ⟨c402, Ar402, S402, M402, H402⟩ := (id (PV1.keep KL nin0))
      have b402 : 0 ≤ (i).toInt ∧ (i).toInt < ((34 : Int32)).toInt := ⟨hi0, (by rw [(show (34 : Int32).toInt = 34 from by decide)]; omega)⟩
      refine own_go (fun _ k => XL.iaload hx (j := i) (v := (.int (af (i).toNatClampNeg))) (by rw [eL]; exact Ar402.1) (State.isArrayOf_alike hZ.alike Ar402.2.1) Ar402.2.2 (own_inbz S402 (by decide) b402.1 b402.2) (IA.atz H402 (by decide) b402.1 b402.2) (g := (mkF m 33 #[.val (.ref c1), .val (.int (0 : Int32)), .val (.int p3), .val (.ref a363), .val (.int i)] [(.int i), (.ref c1), (.ref a363)])) rfl rfl (hb hby d_prog_46_method_9_33) _ k) ?_
      show OwnGo p e below _ (T.setTop (mkF m 34 #[.val (.ref c1), .val (.int (0 : Int32)), .val (.int p3), .val (.ref a363), .val (.int i)] [(.int (af (i).toNatClampNeg)), (.ref a363)]))
      by_cases hc403 : (g1 ((own_probe g1 f1 (af (i).toNatClampNeg) (63 : Int32) 64 ((af (i).toNatClampNeg) &&& (63 : Int32)))).toNatClampNeg) = (0 : Int32)
      · show OwnGo p e below _ (T.setTop (mkF m 34 #[.val (.ref c1), .val (.int (0 : Int32)), .val (.int p3), .val (.ref a363), .val (.int i)] [(.int (af (i).toNatClampNeg)), (.ref a363)]))
        by_cases hc404 : 2 * (s1.toInt + 1) ≤ 64
        · show OwnGo p e below _ (T.setTop (mkF m 34 #[.val (.ref c1), .val (.int (0 : Int32)), .val (.int p3), .val (.ref a363), .val (.int i)] [(.int (af (i).toNatClampNeg)), (.ref a363)]))
          obtain ⟨cq405, kq405, qa405, qb405, qc405⟩ := isOf hZ eL EL
          obtain ⟨_, _, ⟨T405, L405, k405, n405⟩, -, X405, ⟨Lc405, hQ405, l405, y405, z405⟩, st405⟩ := XL.virtualBack hx (y := (⟨"com/example/reweave/reweave/control/Keys", "add", "(I)V"⟩ : MethodName)) (z := (⟨"com/example/reweave/reweave/control/Keys", "add", "(I)V"⟩ : MethodName)) hown (mvT hZ (hw _ (List.mem_of_getElem? (i := 29) rfl))) (mvT hZ (hw _ (List.mem_of_getElem? (i := 30) rfl))) (notFace_of_selects (args := #[]) (mvT hZ (hw _ (List.mem_of_getElem? (i := 32) rfl)))) (mvT hZ (hw _ (List.mem_of_getElem? (i := 32) rfl))) (mvT hZ (hw _ (List.mem_of_getElem? (i := 31) rfl))) (by decide) (backOf (W := 0) (rm_add64miss l Z a0 hw [] aNONE F0 a363 (af (i).toNatClampNeg) b9_370 p3 f1 s1 cB g1 h n0 OL EL FL1 FL2 VL1 ge363 gex370_4 ne372 (show 0 ≤ p3.toInt by omega) hs0 (by omega) (by omega) FL3 VL2 gec nac nbc hO (by omega) hc403 (by omega) hc404) hZ (hw _ (List.mem_of_getElem? (i := 33) rfl)) (hw _ (List.mem_of_getElem? (i := 4) rfl)) (by decide) (by decide)) qa405 qc405 (g := (mkF m 34 #[.val (.ref c1), .val (.int (0 : Int32)), .val (.int p3), .val (.ref a363), .val (.int i)] [(.int (af (i).toNatClampNeg)), (.ref a363)])) rfl (by rw [hml]; rfl) (Steps.refl _) (argsL := [(.int (af (i).toNatClampNeg))]) (rest := []) (lenOf pd_I__V rfl) rfl (by show 2 * 0 + _ ≤ _; exact Nat.le_of_eq rfl) (hb hby d_prog_46_method_9_34) (fun _ _ => ⟨rfl, eL, (by decide : 4 + 0 ≤ _), (by decide : 133 + 0 ≤ _)⟩)
          dsimp only [Pt.U, Pt.locs, Pt.cells, Pt.slots] at X405 l405 y405 z405 st405 hQ405
          subst l405 y405 z405
          obtain ⟨rfl, Nq405, K405, x405_0, x405_1, x405_2, x405_3, x405_4, x405_5⟩ := hQ405
          have N405 := Fr.app NL Nq405
          have O405 := OL.keep K405 (allS ge363 (allS gex370_4 (allS gec all0)))
          have e405 : T405.heap = T405.heap := rfl
          have z406 : h0.size ≤ T405.heap.size := Nat.le_trans KL.1 K405.1
          refine own_go (fun _ k => st405.trans k) ?_
          show OwnGo p e below _ (T405.setTop (mkF m 37 #[.val (.ref c1), .val (.int (0 : Int32)), .val (.int p3), .val (.ref a363), .val (.int i)] []))
          refine own_go (fun _ k => XS.iinc X405.here hx rfl (hb hby d_prog_46_method_9_37) rfl (l' := #[.val (.ref c1), .val (.int (0 : Int32)), .val (.int p3), .val (.ref a363), .val (.int (i + (1 : Int32)))]) rfl k) ?_
          show OwnGo p e below _ (T405.setTop (mkF m 40 #[.val (.ref c1), .val (.int (0 : Int32)), .val (.int p3), .val (.ref a363), .val (.int (i + (1 : Int32)))] []))
          refine own_go (fun _ k => XS.goto X405.here hx rfl (pc0 := 40) (pc' := 23) rfl (hb hby d_prog_46_method_9_40) (by decide) (by decide) k) ?_
          show OwnGo p e below _ (T405.setTop (mkF m 23 #[.val (.ref c1), .val (.int (0 : Int32)), .val (.int p3), .val (.ref a363), .val (.int (i + (1 : Int32)))] []))
          have F407 := (EL.keep K405)
          exact ih _ _ _ _ e405 N405 O405 (KL.trans K405 (allS (P := fun x => x ∈ _ ∨ _ ≤ x) (Or.inr gh363) (allS (P := fun x => x ∈ _ ∨ _ ≤ x) (Or.inr ghx370_4) (allS (P := fun x => x ∈ _ ∨ _ ≤ x) (Or.inr ghc) all0)))) (by omega) (by omega) F407 x405_0 (Or.inr (Or.inr (Or.inl ⟨X405, (s1 + (1 : Int32)), _, _, cB, by omega, (by rw [(show (64 : Int32).toInt = 64 from by decide)]; omega), by omega, x405_5, x405_1, x405_3, x405_2, x405_4, nac, nbc, ghc, gec⟩)))
        · show OwnGo p e below _ (T.setTop (mkF m 34 #[.val (.ref c1), .val (.int (0 : Int32)), .val (.int p3), .val (.ref a363), .val (.int i)] [(.int (af (i).toNatClampNeg)), (.ref a363)]))
          obtain ⟨cq408, kq408, qa408, qb408, qc408⟩ := isOf hZ eL EL
          obtain ⟨_, _, ⟨T408, L408, k408, n408⟩, -, X408, ⟨Lc408, hQ408, l408, y408, z408⟩, st408⟩ := XL.virtualBack hx (y := (⟨"com/example/reweave/reweave/control/Keys", "add", "(I)V"⟩ : MethodName)) (z := (⟨"com/example/reweave/reweave/control/Keys", "add", "(I)V"⟩ : MethodName)) hown (mvT hZ (hw _ (List.mem_of_getElem? (i := 29) rfl))) (mvT hZ (hw _ (List.mem_of_getElem? (i := 30) rfl))) (notFace_of_selects (args := #[]) (mvT hZ (hw _ (List.mem_of_getElem? (i := 32) rfl)))) (mvT hZ (hw _ (List.mem_of_getElem? (i := 32) rfl))) (mvT hZ (hw _ (List.mem_of_getElem? (i := 31) rfl))) (by decide) (backOf (W := 0) (rm_add64grow l Z a0 hw [] aNONE F0 a363 (af (i).toNatClampNeg) b9_370 p3 f1 s1 cB g1 h n0 OL EL FL1 FL2 VL1 ge363 gex370_4 ne372 (show 0 ≤ p3.toInt by omega) hs0 (by omega) (by omega) FL3 VL2 gec nac nbc hO (by omega) hc403 (by omega) (by omega) (by omega)) hZ (hw _ (List.mem_of_getElem? (i := 33) rfl)) (hw _ (List.mem_of_getElem? (i := 4) rfl)) (by decide) (by decide)) qa408 qc408 (g := (mkF m 34 #[.val (.ref c1), .val (.int (0 : Int32)), .val (.int p3), .val (.ref a363), .val (.int i)] [(.int (af (i).toNatClampNeg)), (.ref a363)])) rfl (by rw [hml]; rfl) (Steps.refl _) (argsL := [(.int (af (i).toNatClampNeg))]) (rest := []) (lenOf pd_I__V rfl) rfl (by show 2 * 0 + _ ≤ _; exact Nat.le_of_eq rfl) (hb hby d_prog_46_method_9_34) (fun _ _ => ⟨rfl, eL, (by decide : 4 + 1 ≤ _), (by decide : 133 + 128 ≤ _)⟩)
          dsimp only [Pt.U, Pt.locs, Pt.cells, Pt.slots] at X408 l408 y408 z408 st408 hQ408
          subst l408 y408 z408
          obtain ⟨r9_408, g9_408, rfl, Nq408, K408, x408_0, x408_1, x408_2, x408_3, x408_4, x408_5, x408_6⟩ := hQ408
          have N408 := Fr.app NL Nq408
          have O408 := OL.keep K408 (allS ge363 (allS gex370_4 (allS gec all0)))
          have e408 : T408.heap = T408.heap := rfl
          have z409 : h0.size ≤ T408.heap.size := Nat.le_trans KL.1 K408.1
          have gex408_6 : n0 ≤ r9_408 := Nat.le_trans (own_sz OL) x408_6
          have ghx408_6 : h0.size ≤ r9_408 := Nat.le_trans KL.1 x408_6
          have ne410 : a363 ≠ r9_408 := own_newlt EL.lt x408_6
          have ne411 : b9_370 ≠ r9_408 := own_newlt VL1.lt x408_6
          have ne412 : c1 ≠ r9_408 := own_newlt (PV1.keep KL nin0).lt x408_6
          have ne413 : cB ≠ r9_408 := own_newlt VL2.lt x408_6
          refine own_go (fun _ k => st408.trans k) ?_
          show OwnGo p e below _ (T408.setTop (mkF m 37 #[.val (.ref c1), .val (.int (0 : Int32)), .val (.int p3), .val (.ref a363), .val (.int i)] []))
          refine own_go (fun _ k => XS.iinc X408.here hx rfl (hb hby d_prog_46_method_9_37) rfl (l' := #[.val (.ref c1), .val (.int (0 : Int32)), .val (.int p3), .val (.ref a363), .val (.int (i + (1 : Int32)))]) rfl k) ?_
          show OwnGo p e below _ (T408.setTop (mkF m 40 #[.val (.ref c1), .val (.int (0 : Int32)), .val (.int p3), .val (.ref a363), .val (.int (i + (1 : Int32)))] []))
          refine own_go (fun _ k => XS.goto X408.here hx rfl (pc0 := 40) (pc' := 23) rfl (hb hby d_prog_46_method_9_40) (by decide) (by decide) k) ?_
          show OwnGo p e below _ (T408.setTop (mkF m 23 #[.val (.ref c1), .val (.int (0 : Int32)), .val (.int p3), .val (.ref a363), .val (.int (i + (1 : Int32)))] []))
          have F414 := (EL.keep K408)
          exact ih _ _ _ _ e408 N408 O408 (KL.trans K408 (allS (P := fun x => x ∈ _ ∨ _ ≤ x) (Or.inr gh363) (allS (P := fun x => x ∈ _ ∨ _ ≤ x) (Or.inr ghx370_4) (allS (P := fun x => x ∈ _ ∨ _ ≤ x) (Or.inr ghc) all0)))) (by omega) (by omega) F414 x408_0 (Or.inr (Or.inr (Or.inr ⟨X408, (s1 + (1 : Int32)), _, _, r9_408, by omega, (by rw [(show (128 : Int32).toInt = 128 from by decide)]; omega), by omega, x408_5, x408_1, x408_3, x408_2, x408_4, ne410, ne411, ghx408_6, gex408_6⟩)))
      · show OwnGo p e below _ (T.setTop (mkF m 34 #[.val (.ref c1), .val (.int (0 : Int32)), .val (.int p3), .val (.ref a363), .val (.int i)] [(.int (af (i).toNatClampNeg)), (.ref a363)]))
        obtain ⟨cq415, kq415, qa415, qb415, qc415⟩ := isOf hZ eL EL
        obtain ⟨_, _, ⟨T415, L415, k415, n415⟩, -, X415, ⟨Lc415, hQ415, l415, y415, z415⟩, st415⟩ := XL.virtualBack hx (y := (⟨"com/example/reweave/reweave/control/Keys", "add", "(I)V"⟩ : MethodName)) (z := (⟨"com/example/reweave/reweave/control/Keys", "add", "(I)V"⟩ : MethodName)) hown (mvT hZ (hw _ (List.mem_of_getElem? (i := 29) rfl))) (mvT hZ (hw _ (List.mem_of_getElem? (i := 30) rfl))) (notFace_of_selects (args := #[]) (mvT hZ (hw _ (List.mem_of_getElem? (i := 32) rfl)))) (mvT hZ (hw _ (List.mem_of_getElem? (i := 32) rfl))) (mvT hZ (hw _ (List.mem_of_getElem? (i := 31) rfl))) (by decide) (backOf (W := 0) (rm_add64hit l Z a0 hw [] aNONE F0 a363 (af (i).toNatClampNeg) b9_370 p3 f1 s1 cB g1 h n0 OL EL FL1 FL2 VL1 ge363 gex370_4 ne372 (show 0 ≤ p3.toInt by omega) hs0 (by omega) (by omega) FL3 VL2 gec nac nbc hO (by omega) hc403) hZ (hw _ (List.mem_of_getElem? (i := 33) rfl)) (hw _ (List.mem_of_getElem? (i := 4) rfl)) (by decide) (by decide)) qa415 qc415 (g := (mkF m 34 #[.val (.ref c1), .val (.int (0 : Int32)), .val (.int p3), .val (.ref a363), .val (.int i)] [(.int (af (i).toNatClampNeg)), (.ref a363)])) rfl (by rw [hml]; rfl) (Steps.refl _) (argsL := [(.int (af (i).toNatClampNeg))]) (rest := []) (lenOf pd_I__V rfl) rfl (by show 2 * 0 + _ ≤ _; exact Nat.le_of_eq rfl) (hb hby d_prog_46_method_9_34) (fun _ _ => ⟨rfl, eL, (by decide : 4 + 0 ≤ _), (by decide : 133 + 0 ≤ _)⟩)
        dsimp only [Pt.U, Pt.locs, Pt.cells, Pt.slots] at X415 l415 y415 z415 st415 hQ415
        subst l415 y415 z415
        obtain ⟨rfl, Nq415, K415⟩ := hQ415
        have N415 := Fr.app NL Nq415
        refine own_go (fun _ k => st415.trans k) ?_
        show OwnGo p e below _ (T415.setTop (mkF m 37 #[.val (.ref c1), .val (.int (0 : Int32)), .val (.int p3), .val (.ref a363), .val (.int i)] []))
        refine own_go (fun _ k => XS.iinc X415.here hx rfl (hb hby d_prog_46_method_9_37) rfl (l' := #[.val (.ref c1), .val (.int (0 : Int32)), .val (.int p3), .val (.ref a363), .val (.int (i + (1 : Int32)))]) rfl k) ?_
        show OwnGo p e below _ (T415.setTop (mkF m 40 #[.val (.ref c1), .val (.int (0 : Int32)), .val (.int p3), .val (.ref a363), .val (.int (i + (1 : Int32)))] []))
        refine own_go (fun _ k => XS.goto X415.here hx rfl (pc0 := 40) (pc' := 23) rfl (hb hby d_prog_46_method_9_40) (by decide) (by decide) k) ?_
        show OwnGo p e below _ (T415.setTop (mkF m 23 #[.val (.ref c1), .val (.int (0 : Int32)), .val (.int p3), .val (.ref a363), .val (.int (i + (1 : Int32)))] []))
        exact ih _ _ _ _ K415 N415 OL KL (by omega) (by omega) EL FL1 (Or.inr (Or.inr (Or.inl ⟨X415, s1, _, _, cB, by omega, (by rw [(show (64 : Int32).toInt = 64 from by decide)]; omega), by omega, hO, FL2, FL3, VL1, VL2, nac, nbc, ghc, gec⟩)))
    · obtain ⟨s1, f1, g1, cB, hs0, h2s, hsi, hO, FL2, FL3, VL1, VL2, nac, nbc, ghc, gec⟩ := hN
      rw [(show (128 : Int32).toInt = 128 from by decide)] at h2s
      have hs1 := own_succ hs0 (by omega)
      show OwnGo p e below _ (T.setTop (mkF m 23 #[.val (.ref c1), .val (.int (0 : Int32)), .val (.int p3), .val (.ref a363), .val (.int i)] []))
      refine own_go (fun _ k => XS.iload XL.here hx rfl (hb hby d_prog_46_method_9_23) rfl k) ?_
      show OwnGo p e below _ (T.setTop (mkF m 25 #[.val (.ref c1), .val (.int (0 : Int32)), .val (.int p3), .val (.ref a363), .val (.int i)] [(.int i)]))
      refine own_go (fun _ k => XS.iloadN XL.here hx rfl (hb hby d_prog_46_method_9_25) rfl k) ?_
      show OwnGo p e below _ (T.setTop (mkF m 26 #[.val (.ref c1), .val (.int (0 : Int32)), .val (.int p3), .val (.ref a363), .val (.int i)] [(.int p3), (.int i)]))
      refine own_go (fun _ k => XS.icmpNo XL.here hx rfl (hb hby d_prog_46_method_9_26) rfl (tlt (own_ltI hlt)).2.1 k) ?_
      show OwnGo p e below _ (T.setTop (mkF m 29 #[.val (.ref c1), .val (.int (0 : Int32)), .val (.int p3), .val (.ref a363), .val (.int i)] []))
      refine own_go (fun _ k => XS.aloadN XL.here hx rfl (hb hby d_prog_46_method_9_29) rfl rfl k) ?_
      show OwnGo p e below _ (T.setTop (mkF m 30 #[.val (.ref c1), .val (.int (0 : Int32)), .val (.int p3), .val (.ref a363), .val (.int i)] [(.ref a363)]))
      refine own_go (fun _ k => XS.aloadN XL.here hx rfl (hb hby d_prog_46_method_9_30) rfl rfl k) ?_
      show OwnGo p e below _ (T.setTop (mkF m 31 #[.val (.ref c1), .val (.int (0 : Int32)), .val (.int p3), .val (.ref a363), .val (.int i)] [(.ref c1), (.ref a363)]))
      refine own_go (fun _ k => XS.iload XL.here hx rfl (hb hby d_prog_46_method_9_31) rfl k) ?_
      show OwnGo p e below _ (T.setTop (mkF m 33 #[.val (.ref c1), .val (.int (0 : Int32)), .val (.int p3), .val (.ref a363), .val (.int i)] [(.int i), (.ref c1), (.ref a363)]))
      obtain ⟨c416, Ar416, S416, M416, H416⟩ := (id (PV1.keep KL nin0))
      have b416 : 0 ≤ (i).toInt ∧ (i).toInt < ((34 : Int32)).toInt := ⟨hi0, (by rw [(show (34 : Int32).toInt = 34 from by decide)]; omega)⟩
      refine own_go (fun _ k => XL.iaload hx (j := i) (v := (.int (af (i).toNatClampNeg))) (by rw [eL]; exact Ar416.1) (State.isArrayOf_alike hZ.alike Ar416.2.1) Ar416.2.2 (own_inbz S416 (by decide) b416.1 b416.2) (IA.atz H416 (by decide) b416.1 b416.2) (g := (mkF m 33 #[.val (.ref c1), .val (.int (0 : Int32)), .val (.int p3), .val (.ref a363), .val (.int i)] [(.int i), (.ref c1), (.ref a363)])) rfl rfl (hb hby d_prog_46_method_9_33) _ k) ?_
      show OwnGo p e below _ (T.setTop (mkF m 34 #[.val (.ref c1), .val (.int (0 : Int32)), .val (.int p3), .val (.ref a363), .val (.int i)] [(.int (af (i).toNatClampNeg)), (.ref a363)]))
      by_cases hc417 : (g1 ((own_probe g1 f1 (af (i).toNatClampNeg) (127 : Int32) 128 ((af (i).toNatClampNeg) &&& (127 : Int32)))).toNatClampNeg) = (0 : Int32)
      · show OwnGo p e below _ (T.setTop (mkF m 34 #[.val (.ref c1), .val (.int (0 : Int32)), .val (.int p3), .val (.ref a363), .val (.int i)] [(.int (af (i).toNatClampNeg)), (.ref a363)]))
        obtain ⟨cq418, kq418, qa418, qb418, qc418⟩ := isOf hZ eL EL
        obtain ⟨_, _, ⟨T418, L418, k418, n418⟩, -, X418, ⟨Lc418, hQ418, l418, y418, z418⟩, st418⟩ := XL.virtualBack hx (y := (⟨"com/example/reweave/reweave/control/Keys", "add", "(I)V"⟩ : MethodName)) (z := (⟨"com/example/reweave/reweave/control/Keys", "add", "(I)V"⟩ : MethodName)) hown (mvT hZ (hw _ (List.mem_of_getElem? (i := 29) rfl))) (mvT hZ (hw _ (List.mem_of_getElem? (i := 30) rfl))) (notFace_of_selects (args := #[]) (mvT hZ (hw _ (List.mem_of_getElem? (i := 32) rfl)))) (mvT hZ (hw _ (List.mem_of_getElem? (i := 32) rfl))) (mvT hZ (hw _ (List.mem_of_getElem? (i := 31) rfl))) (by decide) (backOf (W := 0) (rm_add128miss l Z a0 hw [] aNONE F0 a363 (af (i).toNatClampNeg) b9_370 p3 f1 s1 cB g1 h n0 OL EL FL1 FL2 VL1 ge363 gex370_4 ne372 (show 0 ≤ p3.toInt by omega) hs0 (by omega) (by omega) FL3 VL2 gec nac nbc hO (by omega) hc417 (by omega) (by omega)) hZ (hw _ (List.mem_of_getElem? (i := 33) rfl)) (hw _ (List.mem_of_getElem? (i := 4) rfl)) (by decide) (by decide)) qa418 qc418 (g := (mkF m 34 #[.val (.ref c1), .val (.int (0 : Int32)), .val (.int p3), .val (.ref a363), .val (.int i)] [(.int (af (i).toNatClampNeg)), (.ref a363)])) rfl (by rw [hml]; rfl) (Steps.refl _) (argsL := [(.int (af (i).toNatClampNeg))]) (rest := []) (lenOf pd_I__V rfl) rfl (by show 2 * 0 + _ ≤ _; exact Nat.le_of_eq rfl) (hb hby d_prog_46_method_9_34) (fun _ _ => ⟨rfl, eL, (by decide : 5 + 0 ≤ _), (by decide : 261 + 0 ≤ _)⟩)
        dsimp only [Pt.U, Pt.locs, Pt.cells, Pt.slots] at X418 l418 y418 z418 st418 hQ418
        subst l418 y418 z418
        obtain ⟨rfl, Nq418, K418, x418_0, x418_1, x418_2, x418_3, x418_4, x418_5⟩ := hQ418
        have N418 := Fr.app NL Nq418
        have O418 := OL.keep K418 (allS ge363 (allS gex370_4 (allS gec all0)))
        have e418 : T418.heap = T418.heap := rfl
        have z419 : h0.size ≤ T418.heap.size := Nat.le_trans KL.1 K418.1
        refine own_go (fun _ k => st418.trans k) ?_
        show OwnGo p e below _ (T418.setTop (mkF m 37 #[.val (.ref c1), .val (.int (0 : Int32)), .val (.int p3), .val (.ref a363), .val (.int i)] []))
        refine own_go (fun _ k => XS.iinc X418.here hx rfl (hb hby d_prog_46_method_9_37) rfl (l' := #[.val (.ref c1), .val (.int (0 : Int32)), .val (.int p3), .val (.ref a363), .val (.int (i + (1 : Int32)))]) rfl k) ?_
        show OwnGo p e below _ (T418.setTop (mkF m 40 #[.val (.ref c1), .val (.int (0 : Int32)), .val (.int p3), .val (.ref a363), .val (.int (i + (1 : Int32)))] []))
        refine own_go (fun _ k => XS.goto X418.here hx rfl (pc0 := 40) (pc' := 23) rfl (hb hby d_prog_46_method_9_40) (by decide) (by decide) k) ?_
        show OwnGo p e below _ (T418.setTop (mkF m 23 #[.val (.ref c1), .val (.int (0 : Int32)), .val (.int p3), .val (.ref a363), .val (.int (i + (1 : Int32)))] []))
        have F420 := (EL.keep K418)
        exact ih _ _ _ _ e418 N418 O418 (KL.trans K418 (allS (P := fun x => x ∈ _ ∨ _ ≤ x) (Or.inr gh363) (allS (P := fun x => x ∈ _ ∨ _ ≤ x) (Or.inr ghx370_4) (allS (P := fun x => x ∈ _ ∨ _ ≤ x) (Or.inr ghc) all0)))) (by omega) (by omega) F420 x418_0 (Or.inr (Or.inr (Or.inr ⟨X418, (s1 + (1 : Int32)), _, _, cB, by omega, (by rw [(show (128 : Int32).toInt = 128 from by decide)]; omega), by omega, x418_5, x418_1, x418_3, x418_2, x418_4, nac, nbc, ghc, gec⟩)))
      · show OwnGo p e below _ (T.setTop (mkF m 34 #[.val (.ref c1), .val (.int (0 : Int32)), .val (.int p3), .val (.ref a363), .val (.int i)] [(.int (af (i).toNatClampNeg)), (.ref a363)]))
        obtain ⟨cq421, kq421, qa421, qb421, qc421⟩ := isOf hZ eL EL
        obtain ⟨_, _, ⟨T421, L421, k421, n421⟩, -, X421, ⟨Lc421, hQ421, l421, y421, z421⟩, st421⟩ := XL.virtualBack hx (y := (⟨"com/example/reweave/reweave/control/Keys", "add", "(I)V"⟩ : MethodName)) (z := (⟨"com/example/reweave/reweave/control/Keys", "add", "(I)V"⟩ : MethodName)) hown (mvT hZ (hw _ (List.mem_of_getElem? (i := 29) rfl))) (mvT hZ (hw _ (List.mem_of_getElem? (i := 30) rfl))) (notFace_of_selects (args := #[]) (mvT hZ (hw _ (List.mem_of_getElem? (i := 32) rfl)))) (mvT hZ (hw _ (List.mem_of_getElem? (i := 32) rfl))) (mvT hZ (hw _ (List.mem_of_getElem? (i := 31) rfl))) (by decide) (backOf (W := 0) (rm_add128hit l Z a0 hw [] aNONE F0 a363 (af (i).toNatClampNeg) b9_370 p3 f1 s1 cB g1 h n0 OL EL FL1 FL2 VL1 ge363 gex370_4 ne372 (show 0 ≤ p3.toInt by omega) hs0 (by omega) (by omega) FL3 VL2 gec nac nbc hO (by omega) hc417) hZ (hw _ (List.mem_of_getElem? (i := 33) rfl)) (hw _ (List.mem_of_getElem? (i := 4) rfl)) (by decide) (by decide)) qa421 qc421 (g := (mkF m 34 #[.val (.ref c1), .val (.int (0 : Int32)), .val (.int p3), .val (.ref a363), .val (.int i)] [(.int (af (i).toNatClampNeg)), (.ref a363)])) rfl (by rw [hml]; rfl) (Steps.refl _) (argsL := [(.int (af (i).toNatClampNeg))]) (rest := []) (lenOf pd_I__V rfl) rfl (by show 2 * 0 + _ ≤ _; exact Nat.le_of_eq rfl) (hb hby d_prog_46_method_9_34) (fun _ _ => ⟨rfl, eL, (by decide : 5 + 0 ≤ _), (by decide : 261 + 0 ≤ _)⟩)
        dsimp only [Pt.U, Pt.locs, Pt.cells, Pt.slots] at X421 l421 y421 z421 st421 hQ421
        subst l421 y421 z421
        obtain ⟨rfl, Nq421, K421⟩ := hQ421
        have N421 := Fr.app NL Nq421
        refine own_go (fun _ k => st421.trans k) ?_
        show OwnGo p e below _ (T421.setTop (mkF m 37 #[.val (.ref c1), .val (.int (0 : Int32)), .val (.int p3), .val (.ref a363), .val (.int i)] []))
        refine own_go (fun _ k => XS.iinc X421.here hx rfl (hb hby d_prog_46_method_9_37) rfl (l' := #[.val (.ref c1), .val (.int (0 : Int32)), .val (.int p3), .val (.ref a363), .val (.int (i + (1 : Int32)))]) rfl k) ?_
        show OwnGo p e below _ (T421.setTop (mkF m 40 #[.val (.ref c1), .val (.int (0 : Int32)), .val (.int p3), .val (.ref a363), .val (.int (i + (1 : Int32)))] []))
        refine own_go (fun _ k => XS.goto X421.here hx rfl (pc0 := 40) (pc' := 23) rfl (hb hby d_prog_46_method_9_40) (by decide) (by decide) k) ?_
        show OwnGo p e below _ (T421.setTop (mkF m 23 #[.val (.ref c1), .val (.int (0 : Int32)), .val (.int p3), .val (.ref a363), .val (.int (i + (1 : Int32)))] []))
        exact ih _ _ _ _ K421 N421 OL KL (by omega) (by omega) EL FL1 (Or.inr (Or.inr (Or.inr ⟨X421, s1, _, _, cB, by omega, (by rw [(show (128 : Int32).toInt = 128 from by decide)]; omega), by omega, hO, FL2, FL3, VL1, VL2, nac, nbc, ghc, gec⟩)))
theorem d_prog_46_method_9_5 : decode prog_46_method_9_code 5 = .ok (.getstatic 27, 3) := by decide +kernel
theorem d_prog_46_method_9_8 : decode prog_46_method_9_code 8 = .ok (.areturn, 1) := by decide +kernel
def Q_of0 (Z : State) (aNONE : Addr) (c1 : Addr) (p3 : Int32) (h0 : Heap) (n0 : Nat) (v : Option Value) (h : Heap) (L : List Loc) : Prop := v = some (.ref aNONE) ∧ Fr n0 L ∧ h = h0
theorem ef_of0 (m : MethodId) (x0 : Addr) (x1 : Int32) (x2 : Int32) : entryFrame m #[(.ref x0), (.int x1), (.int x2)] 5 = mkF m 0 #[.val (.ref x0), .val (.int x1), .val (.int x2), .unset, .unset] [] := by first | (simp [entryFrame, mkF, argsToLocals, Value.category]; done) | rfl
set_option maxRecDepth 65536 in
set_option maxHeartbeats 40000000 in
theorem rm_of0 (l : Launch) (Z : State) (a0 : Array Value) (hw : ∀ d ∈ tables_1, d.before a0 Z = true) (ws : List Jvm.Cond) (aNONE : Addr) (F0 : OwnFacts Z aNONE) (c1 : Addr) (p3 : Int32) (h0 : Heap) (n0 : Nat) (O0 : Old Z n0 h0) (hp : p3 = (0 : Int32)) :
    MetFree l (⟨"com/example/reweave/reweave/control/Keys", "of", "([III)Lcom/example/reweave/reweave/control/Keys;"⟩ : MethodName) (head1 (Jvm.Cond.code (⟨"com/example/reweave/reweave/control/Keys", "of", "([III)Lcom/example/reweave/reweave/control/Keys;"⟩ : MethodName) prog_46_method_9_code 5 (some (.object "com/example/reweave/reweave/control/Keys")) :: ws) ({ frames := 0, cells := 0, slots := 0, locals := 0 } : Room)) (fun a U => a = #[(.ref c1), (.int (0 : Int32)), (.int p3)] ∧ Z.Warmed39 U.vm ∧ U.heap = h0) (fun _ _ _ _ _ => True) (fun _ U o U' => ∃ v L, o = .returned v ∧ Q_of0 Z aNONE c1 p3 h0 n0 v U'.heap L ∧ FrameEnd U o U' L ({ frames := 0, cells := 0, slots := 0, locals := 0 } : Room).cells ({ frames := 0, cells := 0, slots := 0, locals := 0 } : Room).slots) := by
  refine MetFree.of_bodySF (plainFor_of_name pn_com_example_reweave_reweave_control_Keys) hisR ?_
  intro p e s m args below meth c s₁ Bd hml0 hP hK
  obtain ⟨rfl, hZ, hh⟩ := hP
  have hx := Bd.exec
  have hby := Bd.bytes
  have hml : c.maxLocals = 5 := hml0
  have hown : s.vm.findClass "com/example/reweave/reweave/control/Keys" = some m.cls := findClass_of_methodNamed Bd.named
  have hnm := (name_of_methodNamed Bd.named Bd.method).1
  have X0 : Stand p l e ({ frames := 0, cells := 0, slots := 0, locals := 0 } : Room) s m #[(.ref c1), (.int (0 : Int32)), (.int p3)] below meth c s₁ [] 0 0 := Stand.of_body Bd
  have e0 : s₁.heap = h0 := by rw [← hh, Bd.state]; rfl
  have N0 := Fr.nil n0
  refine own_go (Q := fun o U' => ∃ v L, o = .returned v ∧ Q_of0 Z aNONE c1 p3 h0 n0 v U'.heap L ∧ FrameEnd s o U' L ({ frames := 0, cells := 0, slots := 0, locals := 0 } : Room).cells ({ frames := 0, cells := 0, slots := 0, locals := 0 } : Room).slots) (fun t k => castTop (ef_of0 m c1 (0 : Int32) p3) k) ?_
  show OwnGo p e below _ (s₁.setTop (mkF m 0 #[.val (.ref c1), .val (.int (0 : Int32)), .val (.int p3), .unset, .unset] []))
  refine own_go (fun _ k => XS.iloadN X0.here hx rfl (hb hby d_prog_46_method_9_0) rfl k) ?_
  show OwnGo p e below _ (s₁.setTop (mkF m 1 #[.val (.ref c1), .val (.int (0 : Int32)), .val (.int p3), .unset, .unset] [(.int (0 : Int32))]))
  refine own_go (fun _ k => XS.iloadN X0.here hx rfl (hb hby d_prog_46_method_9_1) rfl k) ?_
  show OwnGo p e below _ (s₁.setTop (mkF m 2 #[.val (.ref c1), .val (.int (0 : Int32)), .val (.int p3), .unset, .unset] [(.int p3), (.int (0 : Int32))]))
  refine own_go (fun _ k => XS.icmpNo X0.here hx rfl (hb hby d_prog_46_method_9_2) rfl (teq hp.symm).2 k) ?_
  show OwnGo p e below _ (s₁.setTop (mkF m 5 #[.val (.ref c1), .val (.int (0 : Int32)), .val (.int p3), .unset, .unset] []))
  obtain ⟨T422, X422, e422, st422⟩ := getS X0 hx hZ hown (host := "") (hw _ (List.mem_of_getElem? (i := 6) rfl)) Via.refl e0 (F0.1.ext O0.2) (g := (mkF m 5 #[.val (.ref c1), .val (.int (0 : Int32)), .val (.int p3), .unset, .unset] [])) rfl (hb hby d_prog_46_method_9_5)
  refine own_go st422 ?_
  show OwnGo p e below _ (T422.setTop (mkF m 8 #[.val (.ref c1), .val (.int (0 : Int32)), .val (.int p3), .unset, .unset] [(.ref aNONE)]))
  obtain ⟨fs, hr, hrun, hended, hW, hsame⟩ := X422.leave (v := some (.ref aNONE)) (fun h => by rw [Bd.returns] at h; cases h)
  refine ⟨_, _, retOut X422 hx Bd.returns rfl (Or.inr (Or.inr (Or.inr (Or.inr ⟨rfl, rfl, rfl⟩)))) (hb hby d_prog_46_method_9_8) hr, hrun, hended, _, _, rfl, ?_, ⟨_, rfl⟩, hW, hsame.mono (by decide) (by decide)⟩
  show Q_of0 Z aNONE c1 p3 h0 n0 _ T422.heap _
  rw [e422]
  exact ⟨rfl, N0, rfl⟩
theorem d_prog_46_method_8_0 : decode prog_46_method_8_code 0 = .ok (.aload_n 0, 1) := by decide +kernel
theorem d_prog_46_method_8_1 : decode prog_46_method_8_code 1 = .ok (.getstatic 27, 3) := by decide +kernel
theorem d_prog_46_method_8_4 : decode prog_46_method_8_code 4 = .ok (.if_acmp .eq 13, 3) := by decide +kernel
theorem d_prog_46_method_8_17 : decode prog_46_method_8_code 17 = .ok (.getstatic 27, 3) := by decide +kernel
theorem d_prog_46_method_8_20 : decode prog_46_method_8_code 20 = .ok (.areturn, 1) := by decide +kernel
def Q_emN (Z : State) (aNONE : Addr) (h0 : Heap) (n0 : Nat) (v : Option Value) (h : Heap) (L : List Loc) : Prop := v = some (.ref aNONE) ∧ Fr n0 L ∧ h = h0
theorem ef_emN (m : MethodId) (x0 : Addr) : entryFrame m #[(.ref x0)] 1 = mkF m 0 #[.val (.ref x0)] [] := by first | (simp [entryFrame, mkF, argsToLocals, Value.category]; done) | rfl
set_option maxRecDepth 65536 in
set_option maxHeartbeats 40000000 in
theorem rm_emN (l : Launch) (Z : State) (a0 : Array Value) (hw : ∀ d ∈ tables_1, d.before a0 Z = true) (ws : List Jvm.Cond) (aNONE : Addr) (F0 : OwnFacts Z aNONE) (h0 : Heap) (n0 : Nat) (O0 : Old Z n0 h0) :
    MetFree l (⟨"com/example/reweave/reweave/control/Keys", "emptied", "(Lcom/example/reweave/reweave/control/Keys;)Lcom/example/reweave/reweave/control/Keys;"⟩ : MethodName) (head1 (Jvm.Cond.code (⟨"com/example/reweave/reweave/control/Keys", "emptied", "(Lcom/example/reweave/reweave/control/Keys;)Lcom/example/reweave/reweave/control/Keys;"⟩ : MethodName) prog_46_method_8_code 1 (some (.object "com/example/reweave/reweave/control/Keys")) :: ws) ({ frames := 0, cells := 0, slots := 0, locals := 0 } : Room)) (fun a U => a = #[(.ref aNONE)] ∧ Z.Warmed39 U.vm ∧ U.heap = h0) (fun _ _ _ _ _ => True) (fun _ U o U' => ∃ v L, o = .returned v ∧ Q_emN Z aNONE h0 n0 v U'.heap L ∧ FrameEnd U o U' L ({ frames := 0, cells := 0, slots := 0, locals := 0 } : Room).cells ({ frames := 0, cells := 0, slots := 0, locals := 0 } : Room).slots) := by
  refine MetFree.of_bodySF (plainFor_of_name pn_com_example_reweave_reweave_control_Keys) hisR ?_
  intro p e s m args below meth c s₁ Bd hml0 hP hK
  obtain ⟨rfl, hZ, hh⟩ := hP
  have hx := Bd.exec
  have hby := Bd.bytes
  have hml : c.maxLocals = 1 := hml0
  have hown : s.vm.findClass "com/example/reweave/reweave/control/Keys" = some m.cls := findClass_of_methodNamed Bd.named
  have hnm := (name_of_methodNamed Bd.named Bd.method).1
  have X0 : Stand p l e ({ frames := 0, cells := 0, slots := 0, locals := 0 } : Room) s m #[(.ref aNONE)] below meth c s₁ [] 0 0 := Stand.of_body Bd
  have e0 : s₁.heap = h0 := by rw [← hh, Bd.state]; rfl
  have N0 := Fr.nil n0
  refine own_go (Q := fun o U' => ∃ v L, o = .returned v ∧ Q_emN Z aNONE h0 n0 v U'.heap L ∧ FrameEnd s o U' L ({ frames := 0, cells := 0, slots := 0, locals := 0 } : Room).cells ({ frames := 0, cells := 0, slots := 0, locals := 0 } : Room).slots) (fun t k => castTop (ef_emN m aNONE) k) ?_
  show OwnGo p e below _ (s₁.setTop (mkF m 0 #[.val (.ref aNONE)] []))
  refine own_go (fun _ k => XS.aloadN X0.here hx rfl (hb hby d_prog_46_method_8_0) rfl rfl k) ?_
  show OwnGo p e below _ (s₁.setTop (mkF m 1 #[.val (.ref aNONE)] [(.ref aNONE)]))
  obtain ⟨T423, X423, e423, st423⟩ := getS X0 hx hZ hown (host := "") (hw _ (List.mem_of_getElem? (i := 6) rfl)) Via.refl e0 (F0.1.ext O0.2) (g := (mkF m 1 #[.val (.ref aNONE)] [(.ref aNONE)])) rfl (hb hby d_prog_46_method_8_1)
  refine own_go st423 ?_
  show OwnGo p e below _ (T423.setTop (mkF m 4 #[.val (.ref aNONE)] [(.ref aNONE), (.ref aNONE)]))
  refine own_go (fun _ k => acmp X423 hx rfl (cd := .eq) (o := 13) (x := (.ref aNONE)) (y := (.ref aNONE)) (pc0 := 4) (pc' := 17) rfl rfl rfl (hb hby d_prog_46_method_8_4) rfl (own_refeq _) (by decide) (by decide) k) ?_
  show OwnGo p e below _ (T423.setTop (mkF m 17 #[.val (.ref aNONE)] []))
  obtain ⟨T424, X424, e424, st424⟩ := getS X423 hx hZ hown (host := "") (hw _ (List.mem_of_getElem? (i := 6) rfl)) Via.refl e423 (F0.1.ext O0.2) (g := (mkF m 17 #[.val (.ref aNONE)] [])) rfl (hb hby d_prog_46_method_8_17)
  refine own_go st424 ?_
  show OwnGo p e below _ (T424.setTop (mkF m 20 #[.val (.ref aNONE)] [(.ref aNONE)]))
  obtain ⟨fs, hr, hrun, hended, hW, hsame⟩ := X424.leave (v := some (.ref aNONE)) (fun h => by rw [Bd.returns] at h; cases h)
  refine ⟨_, _, retOut X424 hx Bd.returns rfl (Or.inr (Or.inr (Or.inr (Or.inr ⟨rfl, rfl, rfl⟩)))) (hb hby d_prog_46_method_8_20) hr, hrun, hended, _, _, rfl, ?_, ⟨_, rfl⟩, hW, hsame.mono (by decide) (by decide)⟩
  show Q_emN Z aNONE h0 n0 _ T424.heap _
  rw [e424]
  exact ⟨rfl, N0, rfl⟩
theorem d_prog_46_method_8_7 : decode prog_46_method_8_code 7 = .ok (.aload_n 0, 1) := by decide +kernel
theorem d_prog_46_method_8_8 : decode prog_46_method_8_code 8 = .ok (.getfield 12, 3) := by decide +kernel
theorem d_prog_46_method_8_11 : decode prog_46_method_8_code 11 = .ok (.arraylength, 1) := by decide +kernel
theorem d_prog_46_method_8_12 : decode prog_46_method_8_code 12 = .ok (.bipush 32, 2) := by decide +kernel
theorem d_prog_46_method_8_14 : decode prog_46_method_8_code 14 = .ok (.if_icmp .le 7, 3) := by decide +kernel
def Q_emB (Z : State) (aNONE : Addr) (a1 : Addr) (b1 : Addr) (z1 : Int32) (f1 : Nat → Int32) (h0 : Heap) (n0 : Nat) (v : Option Value) (h : Heap) (L : List Loc) : Prop := v = some (.ref aNONE) ∧ Fr n0 L ∧ h = h0
theorem ef_emB (m : MethodId) (x0 : Addr) : entryFrame m #[(.ref x0)] 1 = mkF m 0 #[.val (.ref x0)] [] := by first | (simp [entryFrame, mkF, argsToLocals, Value.category]; done) | rfl
set_option maxRecDepth 65536 in
set_option maxHeartbeats 40000000 in
theorem rm_emB (l : Launch) (Z : State) (a0 : Array Value) (hw : ∀ d ∈ tables_1, d.before a0 Z = true) (ws : List Jvm.Cond) (aNONE : Addr) (F0 : OwnFacts Z aNONE) (a1 : Addr) (b1 : Addr) (z1 : Int32) (f1 : Nat → Int32) (h0 : Heap) (n0 : Nat) (O0 : Old Z n0 h0) (PF1 : Fld Z h0 a1 "com/example/reweave/reweave/control/Keys" "numbers" "[I" (.ref b1)) (PV1 : IA Z h0 b1 (z1).toNatClampNeg f1) (ge1 : n0 ≤ a1) (hz1 : 0 ≤ z1.toInt) (hbig : (32 : Int32) < z1) :
    MetFree l (⟨"com/example/reweave/reweave/control/Keys", "emptied", "(Lcom/example/reweave/reweave/control/Keys;)Lcom/example/reweave/reweave/control/Keys;"⟩ : MethodName) (head1 (Jvm.Cond.code (⟨"com/example/reweave/reweave/control/Keys", "emptied", "(Lcom/example/reweave/reweave/control/Keys;)Lcom/example/reweave/reweave/control/Keys;"⟩ : MethodName) prog_46_method_8_code 1 (some (.object "com/example/reweave/reweave/control/Keys")) :: ws) ({ frames := 0, cells := 0, slots := 0, locals := 0 } : Room)) (fun a U => a = #[(.ref a1)] ∧ Z.Warmed39 U.vm ∧ U.heap = h0) (fun _ _ _ _ _ => True) (fun _ U o U' => ∃ v L, o = .returned v ∧ Q_emB Z aNONE a1 b1 z1 f1 h0 n0 v U'.heap L ∧ FrameEnd U o U' L ({ frames := 0, cells := 0, slots := 0, locals := 0 } : Room).cells ({ frames := 0, cells := 0, slots := 0, locals := 0 } : Room).slots) := by
  refine MetFree.of_bodySF (plainFor_of_name pn_com_example_reweave_reweave_control_Keys) hisR ?_
  intro p e s m args below meth c s₁ Bd hml0 hP hK
  obtain ⟨rfl, hZ, hh⟩ := hP
  have hx := Bd.exec
  have hby := Bd.bytes
  have hml : c.maxLocals = 1 := hml0
  have hown : s.vm.findClass "com/example/reweave/reweave/control/Keys" = some m.cls := findClass_of_methodNamed Bd.named
  have hnm := (name_of_methodNamed Bd.named Bd.method).1
  have X0 : Stand p l e ({ frames := 0, cells := 0, slots := 0, locals := 0 } : Room) s m #[(.ref a1)] below meth c s₁ [] 0 0 := Stand.of_body Bd
  have e0 : s₁.heap = h0 := by rw [← hh, Bd.state]; rfl
  have N0 := Fr.nil n0
  refine own_go (Q := fun o U' => ∃ v L, o = .returned v ∧ Q_emB Z aNONE a1 b1 z1 f1 h0 n0 v U'.heap L ∧ FrameEnd s o U' L ({ frames := 0, cells := 0, slots := 0, locals := 0 } : Room).cells ({ frames := 0, cells := 0, slots := 0, locals := 0 } : Room).slots) (fun t k => castTop (ef_emB m a1) k) ?_
  show OwnGo p e below _ (s₁.setTop (mkF m 0 #[.val (.ref a1)] []))
  refine own_go (fun _ k => XS.aloadN X0.here hx rfl (hb hby d_prog_46_method_8_0) rfl rfl k) ?_
  show OwnGo p e below _ (s₁.setTop (mkF m 1 #[.val (.ref a1)] [(.ref a1)]))
  obtain ⟨T425, X425, e425, st425⟩ := getS X0 hx hZ hown (host := "") (hw _ (List.mem_of_getElem? (i := 6) rfl)) Via.refl e0 (F0.1.ext O0.2) (g := (mkF m 1 #[.val (.ref a1)] [(.ref a1)])) rfl (hb hby d_prog_46_method_8_1)
  refine own_go st425 ?_
  show OwnGo p e below _ (T425.setTop (mkF m 4 #[.val (.ref a1)] [(.ref aNONE), (.ref a1)]))
  refine own_go (fun _ k => acmp X425 hx rfl (cd := .eq) (o := 13) (x := (.ref a1)) (y := (.ref aNONE)) (pc0 := 4) (pc' := 7) rfl rfl rfl (hb hby d_prog_46_method_8_4) rfl (own_refne (Ne.symm (O0.ne F0.2.1.lt ge1))) (by decide) (by decide) k) ?_
  show OwnGo p e below _ (T425.setTop (mkF m 7 #[.val (.ref a1)] []))
  refine own_go (fun _ k => XS.aloadN X425.here hx rfl (hb hby d_prog_46_method_8_7) rfl rfl k) ?_
  show OwnGo p e below _ (T425.setTop (mkF m 8 #[.val (.ref a1)] [(.ref a1)]))
  obtain ⟨T426, X426, e426, st426⟩ := getF X425 hx hZ hown (host := "") (Or.inl (hw _ (List.mem_of_getElem? (i := 27) rfl))) Via.refl e425 PF1 (g := (mkF m 8 #[.val (.ref a1)] [(.ref a1)])) rfl rfl (hb hby d_prog_46_method_8_8)
  refine own_go st426 ?_
  show OwnGo p e below _ (T426.setTop (mkF m 11 #[.val (.ref a1)] [(.ref b1)]))
  obtain ⟨c427, Ar427, S427, M427, H427⟩ := (id PV1)
  refine own_go (fun _ k => X426.arraylength hx (cell := c427) (by rw [e426]; exact Ar427.1) (State.isArrayOf_alike hZ.alike Ar427.2.1) (g := (mkF m 11 #[.val (.ref a1)] [(.ref b1)])) rfl (rest := []) rfl (hb hby d_prog_46_method_8_11) _ k) ?_
  rw [len_of S427 (own_nn hz1)]
  show OwnGo p e below _ (T426.setTop (mkF m 12 #[.val (.ref a1)] [(.int z1)]))
  refine own_go (fun _ k => XS.bipush X426.here hx rfl (hb hby d_prog_46_method_8_12) k) ?_
  show OwnGo p e below _ (T426.setTop (mkF m 14 #[.val (.ref a1)] [(.int (32 : Int32)), (.int z1)]))
  refine own_go (fun _ k => XS.icmpNo X426.here hx rfl (hb hby d_prog_46_method_8_14) rfl (tlt hbig).2.2.2 k) ?_
  show OwnGo p e below _ (T426.setTop (mkF m 17 #[.val (.ref a1)] []))
  obtain ⟨T428, X428, e428, st428⟩ := getS X426 hx hZ hown (host := "") (hw _ (List.mem_of_getElem? (i := 6) rfl)) Via.refl e426 (F0.1.ext O0.2) (g := (mkF m 17 #[.val (.ref a1)] [])) rfl (hb hby d_prog_46_method_8_17)
  refine own_go st428 ?_
  show OwnGo p e below _ (T428.setTop (mkF m 20 #[.val (.ref a1)] [(.ref aNONE)]))
  obtain ⟨fs, hr, hrun, hended, hW, hsame⟩ := X428.leave (v := some (.ref aNONE)) (fun h => by rw [Bd.returns] at h; cases h)
  refine ⟨_, _, retOut X428 hx Bd.returns rfl (Or.inr (Or.inr (Or.inr (Or.inr ⟨rfl, rfl, rfl⟩)))) (hb hby d_prog_46_method_8_20) hr, hrun, hended, _, _, rfl, ?_, ⟨_, rfl⟩, hW, hsame.mono (by decide) (by decide)⟩
  show Q_emB Z aNONE a1 b1 z1 f1 h0 n0 _ T428.heap _
  rw [e428]
  exact ⟨rfl, N0, rfl⟩
theorem d_prog_46_method_8_21 : decode prog_46_method_8_code 21 = .ok (.aload_n 0, 1) := by decide +kernel
theorem d_prog_46_method_8_22 : decode prog_46_method_8_code 22 = .ok (.iconst 0, 1) := by decide +kernel
theorem d_prog_46_method_8_23 : decode prog_46_method_8_code 23 = .ok (.putfield 16, 3) := by decide +kernel
theorem d_prog_46_method_8_26 : decode prog_46_method_8_code 26 = .ok (.aload_n 0, 1) := by decide +kernel
theorem d_prog_46_method_8_27 : decode prog_46_method_8_code 27 = .ok (.aconst_null, 1) := by decide +kernel
theorem d_prog_46_method_8_28 : decode prog_46_method_8_code 28 = .ok (.putfield 20, 3) := by decide +kernel
theorem d_prog_46_method_8_31 : decode prog_46_method_8_code 31 = .ok (.aload_n 0, 1) := by decide +kernel
theorem d_prog_46_method_8_32 : decode prog_46_method_8_code 32 = .ok (.areturn, 1) := by decide +kernel
def Q_emO (Z : State) (aNONE : Addr) (a1 : Addr) (b1 : Addr) (z1 : Int32) (f1 : Nat → Int32) (s1 : Int32) (o1 : Value) (h0 : Heap) (n0 : Nat) (v : Option Value) (h : Heap) (L : List Loc) : Prop := v = some (.ref a1) ∧ Fr n0 L ∧ Keep h0 h [a1] ∧ Fld Z h a1 "com/example/reweave/reweave/control/Keys" "numbers" "[I" (.ref b1) ∧ Fld Z h a1 "com/example/reweave/reweave/control/Keys" "size" "I" (.int (0 : Int32)) ∧ Fld Z h a1 "com/example/reweave/reweave/control/Keys" "slots" "[I" .null
theorem ef_emO (m : MethodId) (x0 : Addr) : entryFrame m #[(.ref x0)] 1 = mkF m 0 #[.val (.ref x0)] [] := by first | (simp [entryFrame, mkF, argsToLocals, Value.category]; done) | rfl
set_option maxRecDepth 65536 in
set_option maxHeartbeats 40000000 in
theorem rm_emO (l : Launch) (Z : State) (a0 : Array Value) (hw : ∀ d ∈ tables_1, d.before a0 Z = true) (ws : List Jvm.Cond) (aNONE : Addr) (F0 : OwnFacts Z aNONE) (a1 : Addr) (b1 : Addr) (z1 : Int32) (f1 : Nat → Int32) (s1 : Int32) (o1 : Value) (h0 : Heap) (n0 : Nat) (O0 : Old Z n0 h0) (PE1 : Exa Z h0 a1 "com/example/reweave/reweave/control/Keys") (PF1 : Fld Z h0 a1 "com/example/reweave/reweave/control/Keys" "numbers" "[I" (.ref b1)) (PF2 : Fld Z h0 a1 "com/example/reweave/reweave/control/Keys" "size" "I" (.int s1)) (PF3 : Fld Z h0 a1 "com/example/reweave/reweave/control/Keys" "slots" "[I" o1) (PV1 : IA Z h0 b1 (z1).toNatClampNeg f1) (ge1 : n0 ≤ a1) (hz1 : 0 ≤ z1.toInt) (nab : a1 ≠ b1) (hbig : ¬ (32 : Int32) < z1) :
    MetFree l (⟨"com/example/reweave/reweave/control/Keys", "emptied", "(Lcom/example/reweave/reweave/control/Keys;)Lcom/example/reweave/reweave/control/Keys;"⟩ : MethodName) (head1 (Jvm.Cond.code (⟨"com/example/reweave/reweave/control/Keys", "emptied", "(Lcom/example/reweave/reweave/control/Keys;)Lcom/example/reweave/reweave/control/Keys;"⟩ : MethodName) prog_46_method_8_code 1 (some (.object "com/example/reweave/reweave/control/Keys")) :: ws) ({ frames := 0, cells := 0, slots := 0, locals := 0 } : Room)) (fun a U => a = #[(.ref a1)] ∧ Z.Warmed39 U.vm ∧ U.heap = h0) (fun _ _ _ _ _ => True) (fun _ U o U' => ∃ v L, o = .returned v ∧ Q_emO Z aNONE a1 b1 z1 f1 s1 o1 h0 n0 v U'.heap L ∧ FrameEnd U o U' L ({ frames := 0, cells := 0, slots := 0, locals := 0 } : Room).cells ({ frames := 0, cells := 0, slots := 0, locals := 0 } : Room).slots) := by
  refine MetFree.of_bodySF (plainFor_of_name pn_com_example_reweave_reweave_control_Keys) hisR ?_
  intro p e s m args below meth c s₁ Bd hml0 hP hK
  obtain ⟨rfl, hZ, hh⟩ := hP
  have hx := Bd.exec
  have hby := Bd.bytes
  have hml : c.maxLocals = 1 := hml0
  have hown : s.vm.findClass "com/example/reweave/reweave/control/Keys" = some m.cls := findClass_of_methodNamed Bd.named
  have hnm := (name_of_methodNamed Bd.named Bd.method).1
  have X0 : Stand p l e ({ frames := 0, cells := 0, slots := 0, locals := 0 } : Room) s m #[(.ref a1)] below meth c s₁ [] 0 0 := Stand.of_body Bd
  have e0 : s₁.heap = h0 := by rw [← hh, Bd.state]; rfl
  have N0 := Fr.nil n0
  refine own_go (Q := fun o U' => ∃ v L, o = .returned v ∧ Q_emO Z aNONE a1 b1 z1 f1 s1 o1 h0 n0 v U'.heap L ∧ FrameEnd s o U' L ({ frames := 0, cells := 0, slots := 0, locals := 0 } : Room).cells ({ frames := 0, cells := 0, slots := 0, locals := 0 } : Room).slots) (fun t k => castTop (ef_emO m a1) k) ?_
  show OwnGo p e below _ (s₁.setTop (mkF m 0 #[.val (.ref a1)] []))
  refine own_go (fun _ k => XS.aloadN X0.here hx rfl (hb hby d_prog_46_method_8_0) rfl rfl k) ?_
  show OwnGo p e below _ (s₁.setTop (mkF m 1 #[.val (.ref a1)] [(.ref a1)]))
  obtain ⟨T429, X429, e429, st429⟩ := getS X0 hx hZ hown (host := "") (hw _ (List.mem_of_getElem? (i := 6) rfl)) Via.refl e0 (F0.1.ext O0.2) (g := (mkF m 1 #[.val (.ref a1)] [(.ref a1)])) rfl (hb hby d_prog_46_method_8_1)
  refine own_go st429 ?_
  show OwnGo p e below _ (T429.setTop (mkF m 4 #[.val (.ref a1)] [(.ref aNONE), (.ref a1)]))
  refine own_go (fun _ k => acmp X429 hx rfl (cd := .eq) (o := 13) (x := (.ref a1)) (y := (.ref aNONE)) (pc0 := 4) (pc' := 7) rfl rfl rfl (hb hby d_prog_46_method_8_4) rfl (own_refne (Ne.symm (O0.ne F0.2.1.lt ge1))) (by decide) (by decide) k) ?_
  show OwnGo p e below _ (T429.setTop (mkF m 7 #[.val (.ref a1)] []))
  refine own_go (fun _ k => XS.aloadN X429.here hx rfl (hb hby d_prog_46_method_8_7) rfl rfl k) ?_
  show OwnGo p e below _ (T429.setTop (mkF m 8 #[.val (.ref a1)] [(.ref a1)]))
  obtain ⟨T430, X430, e430, st430⟩ := getF X429 hx hZ hown (host := "") (Or.inl (hw _ (List.mem_of_getElem? (i := 27) rfl))) Via.refl e429 PF1 (g := (mkF m 8 #[.val (.ref a1)] [(.ref a1)])) rfl rfl (hb hby d_prog_46_method_8_8)
  refine own_go st430 ?_
  show OwnGo p e below _ (T430.setTop (mkF m 11 #[.val (.ref a1)] [(.ref b1)]))
  obtain ⟨c431, Ar431, S431, M431, H431⟩ := (id PV1)
  refine own_go (fun _ k => X430.arraylength hx (cell := c431) (by rw [e430]; exact Ar431.1) (State.isArrayOf_alike hZ.alike Ar431.2.1) (g := (mkF m 11 #[.val (.ref a1)] [(.ref b1)])) rfl (rest := []) rfl (hb hby d_prog_46_method_8_11) _ k) ?_
  rw [len_of S431 (own_nn hz1)]
  show OwnGo p e below _ (T430.setTop (mkF m 12 #[.val (.ref a1)] [(.int z1)]))
  refine own_go (fun _ k => XS.bipush X430.here hx rfl (hb hby d_prog_46_method_8_12) k) ?_
  show OwnGo p e below _ (T430.setTop (mkF m 14 #[.val (.ref a1)] [(.int (32 : Int32)), (.int z1)]))
  refine own_go (fun _ k => XS.icmpYes X430.here hx rfl (pc0 := 14) (pc' := 21) rfl (hb hby d_prog_46_method_8_14) rfl (flt hbig).2.2.2 (by decide) (by decide) k) ?_
  show OwnGo p e below _ (T430.setTop (mkF m 21 #[.val (.ref a1)] []))
  refine own_go (fun _ k => XS.aloadN X430.here hx rfl (hb hby d_prog_46_method_8_21) rfl rfl k) ?_
  show OwnGo p e below _ (T430.setTop (mkF m 22 #[.val (.ref a1)] [(.ref a1)]))
  refine own_go (fun _ k => XS.iconst X430.here hx rfl (hb hby d_prog_46_method_8_22) k) ?_
  show OwnGo p e below _ (T430.setTop (mkF m 23 #[.val (.ref a1)] [(.int (0 : Int32)), (.ref a1)]))
  obtain ⟨T432, h432, X432, e432, W432, st432⟩ := putF X430 hx hZ hown (host := "") (Or.inl (hw _ (List.mem_of_getElem? (i := 17) rfl))) Via.refl e430 PF2 PE1 (Or.inl (hw _ (List.mem_of_getElem? (i := 18) rfl))) (hw _ (List.mem_of_getElem? (i := 20) rfl)) (ty := .int) (by decide) rfl rfl (g := (mkF m 23 #[.val (.ref a1)] [(.int (0 : Int32)), (.ref a1)])) rfl rfl (hb hby d_prog_46_method_8_23)
  have N432 := Fr.snoc X432 N0 ge1
  have O432 := O0.wr W432 ge1
  have z433 : h0.size ≤ h432.size := Nat.le_trans (Nat.le_refl _) (Nat.le_of_eq W432.size.symm)
  have F432 : Fld Z h432 a1 "com/example/reweave/reweave/control/Keys" "size" "I" (.int (0 : Int32)) := PF2.same W432
  refine own_go st432 ?_
  show OwnGo p e below _ (T432.setTop (mkF m 26 #[.val (.ref a1)] []))
  refine own_go (fun _ k => XS.aloadN X432.here hx rfl (hb hby d_prog_46_method_8_26) rfl rfl k) ?_
  show OwnGo p e below _ (T432.setTop (mkF m 27 #[.val (.ref a1)] [(.ref a1)]))
  refine own_go (fun _ k => XS.aconstNull X432.here hx rfl (hb hby d_prog_46_method_8_27) k) ?_
  show OwnGo p e below _ (T432.setTop (mkF m 28 #[.val (.ref a1)] [.null, (.ref a1)]))
  have F434 := (PF3.other W432 (Or.inr (slot_ne (a0 := a0) (C := "com/example/reweave/reweave/control/Keys") (Or.inl (hw _ (List.mem_of_getElem? (i := 35) rfl))) (Or.inl (hw _ (List.mem_of_getElem? (i := 18) rfl))) (by decide) (t := (.array .int)) (t' := .int) (by decide) (by decide))))
  have F435 := (PE1.wr W432)
  obtain ⟨T436, h436, X436, e436, W436, st436⟩ := putF X432 hx hZ hown (host := "") (Or.inl (hw _ (List.mem_of_getElem? (i := 34) rfl))) Via.refl e432 F434 F435 (Or.inl (hw _ (List.mem_of_getElem? (i := 35) rfl))) (hw _ (List.mem_of_getElem? (i := 20) rfl)) (ty := (.array .int)) (by decide) rfl rfl (g := (mkF m 28 #[.val (.ref a1)] [.null, (.ref a1)])) rfl rfl (hb hby d_prog_46_method_8_28)
  have N436 := Fr.snoc X436 N432 ge1
  have O436 := O432.wr W436 ge1
  have z437 : h0.size ≤ h436.size := Nat.le_trans z433 (Nat.le_of_eq W436.size.symm)
  have F436 : Fld Z h436 a1 "com/example/reweave/reweave/control/Keys" "slots" "[I" .null := F434.same W436
  refine own_go st436 ?_
  show OwnGo p e below _ (T436.setTop (mkF m 31 #[.val (.ref a1)] []))
  refine own_go (fun _ k => XS.aloadN X436.here hx rfl (hb hby d_prog_46_method_8_31) rfl rfl k) ?_
  show OwnGo p e below _ (T436.setTop (mkF m 32 #[.val (.ref a1)] [(.ref a1)]))
  obtain ⟨fs, hr, hrun, hended, hW, hsame⟩ := X436.leave (v := some (.ref a1)) (fun h => by rw [Bd.returns] at h; cases h)
  refine ⟨_, _, retOut X436 hx Bd.returns rfl (Or.inr (Or.inr (Or.inr (Or.inr ⟨rfl, rfl, rfl⟩)))) (hb hby d_prog_46_method_8_32) hr, hrun, hended, _, _, rfl, ?_, ⟨_, rfl⟩, hW, hsame.mono (by decide) (by decide)⟩
  show Q_emO Z aNONE a1 b1 z1 f1 s1 o1 h0 n0 _ T436.heap _
  rw [e436]
  have F438 := ((PF1.other W432 (Or.inr (slot_ne (a0 := a0) (C := "com/example/reweave/reweave/control/Keys") (Or.inl (hw _ (List.mem_of_getElem? (i := 28) rfl))) (Or.inl (hw _ (List.mem_of_getElem? (i := 18) rfl))) (by decide) (t := (.array .int)) (t' := .int) (by decide) (by decide)))).other W436 (Or.inr (slot_ne (a0 := a0) (C := "com/example/reweave/reweave/control/Keys") (Or.inl (hw _ (List.mem_of_getElem? (i := 28) rfl))) (Or.inl (hw _ (List.mem_of_getElem? (i := 35) rfl))) (by decide) (t := (.array .int)) (t' := (.array .int)) (by decide) (by decide))))
  have F439 := (F432.other W436 (Or.inr (slot_ne (a0 := a0) (C := "com/example/reweave/reweave/control/Keys") (Or.inl (hw _ (List.mem_of_getElem? (i := 18) rfl))) (Or.inl (hw _ (List.mem_of_getElem? (i := 35) rfl))) (by decide) (t := .int) (t' := (.array .int)) (by decide) (by decide))))
  exact ⟨rfl, N436, (((Keep.refl _ [a1]).wr W432 (Or.inl (List.mem_of_getElem? (i := 0) rfl))).wr W436 (Or.inl (List.mem_of_getElem? (i := 0) rfl))), F438, F439, F436⟩
theorem d_prog_46_method_3_0 : decode prog_46_method_3_code 0 = .ok (.aload_n 0, 1) := by decide +kernel
theorem d_prog_46_method_3_1 : decode prog_46_method_3_code 1 = .ok (.getfield 16, 3) := by decide +kernel
theorem d_prog_46_method_3_4 : decode prog_46_method_3_code 4 = .ok (.ireturn, 1) := by decide +kernel
def Q_szN (Z : State) (aNONE : Addr) (h0 : Heap) (n0 : Nat) (v : Option Value) (h : Heap) (L : List Loc) : Prop := v = some (.int (0 : Int32)) ∧ Fr n0 L ∧ h = h0
theorem ef_szN (m : MethodId) (x0 : Addr) : entryFrame m #[(.ref x0)] 1 = mkF m 0 #[.val (.ref x0)] [] := by first | (simp [entryFrame, mkF, argsToLocals, Value.category]; done) | rfl
set_option maxRecDepth 65536 in
set_option maxHeartbeats 40000000 in
theorem rm_szN (l : Launch) (Z : State) (a0 : Array Value) (hw : ∀ d ∈ tables_1, d.before a0 Z = true) (ws : List Jvm.Cond) (aNONE : Addr) (F0 : OwnFacts Z aNONE) (h0 : Heap) (n0 : Nat) (O0 : Old Z n0 h0) :
    MetFree l (⟨"com/example/reweave/reweave/control/Keys", "size", "()I"⟩ : MethodName) (head1 (Jvm.Cond.code (⟨"com/example/reweave/reweave/control/Keys", "size", "()I"⟩ : MethodName) prog_46_method_3_code 1 (some .int) :: ws) ({ frames := 0, cells := 0, slots := 0, locals := 0 } : Room)) (fun a U => a = #[(.ref aNONE)] ∧ Z.Warmed39 U.vm ∧ U.heap = h0) (fun _ _ _ _ _ => True) (fun _ U o U' => ∃ v L, o = .returned v ∧ Q_szN Z aNONE h0 n0 v U'.heap L ∧ FrameEnd U o U' L ({ frames := 0, cells := 0, slots := 0, locals := 0 } : Room).cells ({ frames := 0, cells := 0, slots := 0, locals := 0 } : Room).slots) := by
  refine MetFree.of_bodySF (plainFor_of_name pn_com_example_reweave_reweave_control_Keys) hisR ?_
  intro p e s m args below meth c s₁ Bd hml0 hP hK
  obtain ⟨rfl, hZ, hh⟩ := hP
  have hx := Bd.exec
  have hby := Bd.bytes
  have hml : c.maxLocals = 1 := hml0
  have hown : s.vm.findClass "com/example/reweave/reweave/control/Keys" = some m.cls := findClass_of_methodNamed Bd.named
  have hnm := (name_of_methodNamed Bd.named Bd.method).1
  have X0 : Stand p l e ({ frames := 0, cells := 0, slots := 0, locals := 0 } : Room) s m #[(.ref aNONE)] below meth c s₁ [] 0 0 := Stand.of_body Bd
  have e0 : s₁.heap = h0 := by rw [← hh, Bd.state]; rfl
  have N0 := Fr.nil n0
  refine own_go (Q := fun o U' => ∃ v L, o = .returned v ∧ Q_szN Z aNONE h0 n0 v U'.heap L ∧ FrameEnd s o U' L ({ frames := 0, cells := 0, slots := 0, locals := 0 } : Room).cells ({ frames := 0, cells := 0, slots := 0, locals := 0 } : Room).slots) (fun t k => castTop (ef_szN m aNONE) k) ?_
  show OwnGo p e below _ (s₁.setTop (mkF m 0 #[.val (.ref aNONE)] []))
  refine own_go (fun _ k => XS.aloadN X0.here hx rfl (hb hby d_prog_46_method_3_0) rfl rfl k) ?_
  show OwnGo p e below _ (s₁.setTop (mkF m 1 #[.val (.ref aNONE)] [(.ref aNONE)]))
  obtain ⟨T440, X440, e440, st440⟩ := getF X0 hx hZ hown (host := "") (Or.inl (hw _ (List.mem_of_getElem? (i := 17) rfl))) Via.refl e0 (F0.2.2.ext O0.2) (g := (mkF m 1 #[.val (.ref aNONE)] [(.ref aNONE)])) rfl rfl (hb hby d_prog_46_method_3_1)
  refine own_go st440 ?_
  show OwnGo p e below _ (T440.setTop (mkF m 4 #[.val (.ref aNONE)] [(.int (0 : Int32))]))
  obtain ⟨fs, hr, hrun, hended, hW, hsame⟩ := X440.leave (v := some (.int (0 : Int32))) (fun h => by rw [Bd.returns] at h; cases h)
  refine ⟨_, _, retOut X440 hx Bd.returns rfl (Or.inl ⟨rfl, Or.inl rfl, _, rfl⟩) (hb hby d_prog_46_method_3_4) hr, hrun, hended, _, _, rfl, ?_, ⟨_, rfl⟩, hW, hsame.mono (by decide) (by decide)⟩
  show Q_szN Z aNONE h0 n0 _ T440.heap _
  rw [e440]
  exact ⟨rfl, N0, rfl⟩
def Q_sz (Z : State) (aNONE : Addr) (a1 : Addr) (p1 : Int32) (h0 : Heap) (n0 : Nat) (v : Option Value) (h : Heap) (L : List Loc) : Prop := v = some (.int p1) ∧ Fr n0 L ∧ h = h0
theorem ef_sz (m : MethodId) (x0 : Addr) : entryFrame m #[(.ref x0)] 1 = mkF m 0 #[.val (.ref x0)] [] := by first | (simp [entryFrame, mkF, argsToLocals, Value.category]; done) | rfl
set_option maxRecDepth 65536 in
set_option maxHeartbeats 40000000 in
theorem rm_sz (l : Launch) (Z : State) (a0 : Array Value) (hw : ∀ d ∈ tables_1, d.before a0 Z = true) (ws : List Jvm.Cond) (aNONE : Addr) (F0 : OwnFacts Z aNONE) (a1 : Addr) (p1 : Int32) (h0 : Heap) (n0 : Nat) (O0 : Old Z n0 h0) (PF1 : Fld Z h0 a1 "com/example/reweave/reweave/control/Keys" "size" "I" (.int p1)) :
    MetFree l (⟨"com/example/reweave/reweave/control/Keys", "size", "()I"⟩ : MethodName) (head1 (Jvm.Cond.code (⟨"com/example/reweave/reweave/control/Keys", "size", "()I"⟩ : MethodName) prog_46_method_3_code 1 (some .int) :: ws) ({ frames := 0, cells := 0, slots := 0, locals := 0 } : Room)) (fun a U => a = #[(.ref a1)] ∧ Z.Warmed39 U.vm ∧ U.heap = h0) (fun _ _ _ _ _ => True) (fun _ U o U' => ∃ v L, o = .returned v ∧ Q_sz Z aNONE a1 p1 h0 n0 v U'.heap L ∧ FrameEnd U o U' L ({ frames := 0, cells := 0, slots := 0, locals := 0 } : Room).cells ({ frames := 0, cells := 0, slots := 0, locals := 0 } : Room).slots) := by
  refine MetFree.of_bodySF (plainFor_of_name pn_com_example_reweave_reweave_control_Keys) hisR ?_
  intro p e s m args below meth c s₁ Bd hml0 hP hK
  obtain ⟨rfl, hZ, hh⟩ := hP
  have hx := Bd.exec
  have hby := Bd.bytes
  have hml : c.maxLocals = 1 := hml0
  have hown : s.vm.findClass "com/example/reweave/reweave/control/Keys" = some m.cls := findClass_of_methodNamed Bd.named
  have hnm := (name_of_methodNamed Bd.named Bd.method).1
  have X0 : Stand p l e ({ frames := 0, cells := 0, slots := 0, locals := 0 } : Room) s m #[(.ref a1)] below meth c s₁ [] 0 0 := Stand.of_body Bd
  have e0 : s₁.heap = h0 := by rw [← hh, Bd.state]; rfl
  have N0 := Fr.nil n0
  refine own_go (Q := fun o U' => ∃ v L, o = .returned v ∧ Q_sz Z aNONE a1 p1 h0 n0 v U'.heap L ∧ FrameEnd s o U' L ({ frames := 0, cells := 0, slots := 0, locals := 0 } : Room).cells ({ frames := 0, cells := 0, slots := 0, locals := 0 } : Room).slots) (fun t k => castTop (ef_sz m a1) k) ?_
  show OwnGo p e below _ (s₁.setTop (mkF m 0 #[.val (.ref a1)] []))
  refine own_go (fun _ k => XS.aloadN X0.here hx rfl (hb hby d_prog_46_method_3_0) rfl rfl k) ?_
  show OwnGo p e below _ (s₁.setTop (mkF m 1 #[.val (.ref a1)] [(.ref a1)]))
  obtain ⟨T441, X441, e441, st441⟩ := getF X0 hx hZ hown (host := "") (Or.inl (hw _ (List.mem_of_getElem? (i := 17) rfl))) Via.refl e0 PF1 (g := (mkF m 1 #[.val (.ref a1)] [(.ref a1)])) rfl rfl (hb hby d_prog_46_method_3_1)
  refine own_go st441 ?_
  show OwnGo p e below _ (T441.setTop (mkF m 4 #[.val (.ref a1)] [(.int p1)]))
  obtain ⟨fs, hr, hrun, hended, hW, hsame⟩ := X441.leave (v := some (.int p1)) (fun h => by rw [Bd.returns] at h; cases h)
  refine ⟨_, _, retOut X441 hx Bd.returns rfl (Or.inl ⟨rfl, Or.inl rfl, _, rfl⟩) (hb hby d_prog_46_method_3_4) hr, hrun, hended, _, _, rfl, ?_, ⟨_, rfl⟩, hW, hsame.mono (by decide) (by decide)⟩
  show Q_sz Z aNONE a1 p1 h0 n0 _ T441.heap _
  rw [e441]
  exact ⟨rfl, N0, rfl⟩
theorem d_prog_46_method_5_0 : decode prog_46_method_5_code 0 = .ok (.aload_n 0, 1) := by decide +kernel
theorem d_prog_46_method_5_1 : decode prog_46_method_5_code 1 = .ok (.getfield 12, 3) := by decide +kernel
theorem d_prog_46_method_5_4 : decode prog_46_method_5_code 4 = .ok (.iload_n 1, 1) := by decide +kernel
theorem d_prog_46_method_5_5 : decode prog_46_method_5_code 5 = .ok (.iaload, 1) := by decide +kernel
theorem d_prog_46_method_5_6 : decode prog_46_method_5_code 6 = .ok (.ireturn, 1) := by decide +kernel
def Q_get (Z : State) (aNONE : Addr) (a1 : Addr) (p2 : Int32) (b1 : Addr) (z1 : Int32) (f1 : Nat → Int32) (h0 : Heap) (n0 : Nat) (v : Option Value) (h : Heap) (L : List Loc) : Prop := v = some (.int (f1 (p2).toNatClampNeg)) ∧ Fr n0 L ∧ h = h0
theorem ef_get (m : MethodId) (x0 : Addr) (x1 : Int32) : entryFrame m #[(.ref x0), (.int x1)] 2 = mkF m 0 #[.val (.ref x0), .val (.int x1)] [] := by first | (simp [entryFrame, mkF, argsToLocals, Value.category]; done) | rfl
set_option maxRecDepth 65536 in
set_option maxHeartbeats 40000000 in
theorem rm_get (l : Launch) (Z : State) (a0 : Array Value) (hw : ∀ d ∈ tables_1, d.before a0 Z = true) (ws : List Jvm.Cond) (aNONE : Addr) (F0 : OwnFacts Z aNONE) (a1 : Addr) (p2 : Int32) (b1 : Addr) (z1 : Int32) (f1 : Nat → Int32) (h0 : Heap) (n0 : Nat) (O0 : Old Z n0 h0) (PF1 : Fld Z h0 a1 "com/example/reweave/reweave/control/Keys" "numbers" "[I" (.ref b1)) (PV1 : IA Z h0 b1 (z1).toNatClampNeg f1) (hz1 : 0 ≤ z1.toInt) (hj0 : 0 ≤ (p2).toInt) (hj1 : (p2).toInt < z1.toInt) :
    MetFree l (⟨"com/example/reweave/reweave/control/Keys", "get", "(I)I"⟩ : MethodName) (head1 (Jvm.Cond.code (⟨"com/example/reweave/reweave/control/Keys", "get", "(I)I"⟩ : MethodName) prog_46_method_5_code 2 (some .int) :: ws) ({ frames := 0, cells := 0, slots := 0, locals := 0 } : Room)) (fun a U => a = #[(.ref a1), (.int p2)] ∧ Z.Warmed39 U.vm ∧ U.heap = h0) (fun _ _ _ _ _ => True) (fun _ U o U' => ∃ v L, o = .returned v ∧ Q_get Z aNONE a1 p2 b1 z1 f1 h0 n0 v U'.heap L ∧ FrameEnd U o U' L ({ frames := 0, cells := 0, slots := 0, locals := 0 } : Room).cells ({ frames := 0, cells := 0, slots := 0, locals := 0 } : Room).slots) := by
  refine MetFree.of_bodySF (plainFor_of_name pn_com_example_reweave_reweave_control_Keys) hisR ?_
  intro p e s m args below meth c s₁ Bd hml0 hP hK
  obtain ⟨rfl, hZ, hh⟩ := hP
  have hx := Bd.exec
  have hby := Bd.bytes
  have hml : c.maxLocals = 2 := hml0
  have hown : s.vm.findClass "com/example/reweave/reweave/control/Keys" = some m.cls := findClass_of_methodNamed Bd.named
  have hnm := (name_of_methodNamed Bd.named Bd.method).1
  have X0 : Stand p l e ({ frames := 0, cells := 0, slots := 0, locals := 0 } : Room) s m #[(.ref a1), (.int p2)] below meth c s₁ [] 0 0 := Stand.of_body Bd
  have e0 : s₁.heap = h0 := by rw [← hh, Bd.state]; rfl
  have N0 := Fr.nil n0
  refine own_go (Q := fun o U' => ∃ v L, o = .returned v ∧ Q_get Z aNONE a1 p2 b1 z1 f1 h0 n0 v U'.heap L ∧ FrameEnd s o U' L ({ frames := 0, cells := 0, slots := 0, locals := 0 } : Room).cells ({ frames := 0, cells := 0, slots := 0, locals := 0 } : Room).slots) (fun t k => castTop (ef_get m a1 p2) k) ?_
  show OwnGo p e below _ (s₁.setTop (mkF m 0 #[.val (.ref a1), .val (.int p2)] []))
  refine own_go (fun _ k => XS.aloadN X0.here hx rfl (hb hby d_prog_46_method_5_0) rfl rfl k) ?_
  show OwnGo p e below _ (s₁.setTop (mkF m 1 #[.val (.ref a1), .val (.int p2)] [(.ref a1)]))
  obtain ⟨T442, X442, e442, st442⟩ := getF X0 hx hZ hown (host := "") (Or.inl (hw _ (List.mem_of_getElem? (i := 27) rfl))) Via.refl e0 PF1 (g := (mkF m 1 #[.val (.ref a1), .val (.int p2)] [(.ref a1)])) rfl rfl (hb hby d_prog_46_method_5_1)
  refine own_go st442 ?_
  show OwnGo p e below _ (T442.setTop (mkF m 4 #[.val (.ref a1), .val (.int p2)] [(.ref b1)]))
  refine own_go (fun _ k => XS.iloadN X442.here hx rfl (hb hby d_prog_46_method_5_4) rfl k) ?_
  show OwnGo p e below _ (T442.setTop (mkF m 5 #[.val (.ref a1), .val (.int p2)] [(.int p2), (.ref b1)]))
  obtain ⟨c443, Ar443, S443, M443, H443⟩ := (id PV1)
  have b443 : 0 ≤ (p2).toInt ∧ (p2).toInt < (z1).toInt := ⟨hj0, hj1⟩
  refine own_go (fun _ k => X442.iaload hx (j := p2) (v := (.int (f1 (p2).toNatClampNeg))) (by rw [e442]; exact Ar443.1) (State.isArrayOf_alike hZ.alike Ar443.2.1) Ar443.2.2 (own_inbz S443 hz1 b443.1 b443.2) (IA.atz H443 hz1 b443.1 b443.2) (g := (mkF m 5 #[.val (.ref a1), .val (.int p2)] [(.int p2), (.ref b1)])) rfl rfl (hb hby d_prog_46_method_5_5) _ k) ?_
  show OwnGo p e below _ (T442.setTop (mkF m 6 #[.val (.ref a1), .val (.int p2)] [(.int (f1 (p2).toNatClampNeg))]))
  obtain ⟨fs, hr, hrun, hended, hW, hsame⟩ := X442.leave (v := some (.int (f1 (p2).toNatClampNeg))) (fun h => by rw [Bd.returns] at h; cases h)
  refine ⟨_, _, retOut X442 hx Bd.returns rfl (Or.inl ⟨rfl, Or.inl rfl, _, rfl⟩) (hb hby d_prog_46_method_5_6) hr, hrun, hended, _, _, rfl, ?_, ⟨_, rfl⟩, hW, hsame.mono (by decide) (by decide)⟩
  show Q_get Z aNONE a1 p2 b1 z1 f1 h0 n0 _ T442.heap _
  rw [e442]
  exact ⟨rfl, N0, rfl⟩
theorem d_jdk_29_method_69_0 : decode jdk_29_method_69_code 0 = .ok (.iload_n 0, 1) := by decide +kernel
theorem d_jdk_29_method_69_1 : decode jdk_29_method_69_code 1 = .ok (.iload_n 1, 1) := by decide +kernel
theorem d_jdk_29_method_69_2 : decode jdk_29_method_69_code 2 = .ok (.if_icmp .gt 7, 3) := by decide +kernel
theorem d_jdk_29_method_69_5 : decode jdk_29_method_69_code 5 = .ok (.iload_n 0, 1) := by decide +kernel
theorem d_jdk_29_method_69_6 : decode jdk_29_method_69_code 6 = .ok (.goto 4, 3) := by decide +kernel
theorem d_jdk_29_method_69_10 : decode jdk_29_method_69_code 10 = .ok (.ireturn, 1) := by decide +kernel
def Q_min12 (Z : State) (aNONE : Addr) (h0 : Heap) (n0 : Nat) (v : Option Value) (h : Heap) (L : List Loc) : Prop := v = some (.int (1 : Int32)) ∧ Fr n0 L ∧ h = h0
theorem ef_min12 (m : MethodId) (x0 : Int32) (x1 : Int32) : entryFrame m #[(.int x0), (.int x1)] 2 = mkF m 0 #[.val (.int x0), .val (.int x1)] [] := by first | (simp [entryFrame, mkF, argsToLocals, Value.category]; done) | rfl
set_option maxRecDepth 65536 in
set_option maxHeartbeats 40000000 in
theorem rm_min12 (l : Launch) (Z : State) (a0 : Array Value) (hw : ∀ d ∈ tables_1, d.before a0 Z = true) (ws : List Jvm.Cond) (aNONE : Addr) (F0 : OwnFacts Z aNONE) (h0 : Heap) (n0 : Nat) (O0 : Old Z n0 h0) :
    MetFree l (⟨"java/lang/Math", "min", "(II)I"⟩ : MethodName) (head1 (Jvm.Cond.code (⟨"java/lang/Math", "min", "(II)I"⟩ : MethodName) jdk_29_method_69_code 2 (some .int) :: ws) ({ frames := 0, cells := 0, slots := 0, locals := 0 } : Room)) (fun a U => a = #[(.int (1 : Int32)), (.int (2 : Int32))] ∧ Z.Warmed39 U.vm ∧ U.heap = h0) (fun _ _ _ _ _ => True) (fun _ U o U' => ∃ v L, o = .returned v ∧ Q_min12 Z aNONE h0 n0 v U'.heap L ∧ FrameEnd U o U' L ({ frames := 0, cells := 0, slots := 0, locals := 0 } : Room).cells ({ frames := 0, cells := 0, slots := 0, locals := 0 } : Room).slots) := by
  refine MetFree.of_bodySF (by decide +kernel) hisR ?_
  intro p e s m args below meth c s₁ Bd hml0 hP hK
  obtain ⟨rfl, hZ, hh⟩ := hP
  have hx := Bd.exec
  have hby := Bd.bytes
  have hml : c.maxLocals = 2 := hml0
  have hown : s.vm.findClass "java/lang/Math" = some m.cls := findClass_of_methodNamed Bd.named
  have hnm := (name_of_methodNamed Bd.named Bd.method).1
  have X0 : Stand p l e ({ frames := 0, cells := 0, slots := 0, locals := 0 } : Room) s m #[(.int (1 : Int32)), (.int (2 : Int32))] below meth c s₁ [] 0 0 := Stand.of_body Bd
  have e0 : s₁.heap = h0 := by rw [← hh, Bd.state]; rfl
  have N0 := Fr.nil n0
  refine own_go (Q := fun o U' => ∃ v L, o = .returned v ∧ Q_min12 Z aNONE h0 n0 v U'.heap L ∧ FrameEnd s o U' L ({ frames := 0, cells := 0, slots := 0, locals := 0 } : Room).cells ({ frames := 0, cells := 0, slots := 0, locals := 0 } : Room).slots) (fun t k => castTop (ef_min12 m (1 : Int32) (2 : Int32)) k) ?_
  show OwnGo p e below _ (s₁.setTop (mkF m 0 #[.val (.int (1 : Int32)), .val (.int (2 : Int32))] []))
  refine own_go (fun _ k => XS.iloadN X0.here hx rfl (hb hby d_jdk_29_method_69_0) rfl k) ?_
  show OwnGo p e below _ (s₁.setTop (mkF m 1 #[.val (.int (1 : Int32)), .val (.int (2 : Int32))] [(.int (1 : Int32))]))
  refine own_go (fun _ k => XS.iloadN X0.here hx rfl (hb hby d_jdk_29_method_69_1) rfl k) ?_
  show OwnGo p e below _ (s₁.setTop (mkF m 2 #[.val (.int (1 : Int32)), .val (.int (2 : Int32))] [(.int (2 : Int32)), (.int (1 : Int32))]))
  refine own_go (fun _ k => XS.icmpNo X0.here hx rfl (hb hby d_jdk_29_method_69_2) rfl (by decide) k) ?_
  show OwnGo p e below _ (s₁.setTop (mkF m 5 #[.val (.int (1 : Int32)), .val (.int (2 : Int32))] []))
  refine own_go (fun _ k => XS.iloadN X0.here hx rfl (hb hby d_jdk_29_method_69_5) rfl k) ?_
  show OwnGo p e below _ (s₁.setTop (mkF m 6 #[.val (.int (1 : Int32)), .val (.int (2 : Int32))] [(.int (1 : Int32))]))
  refine own_go (fun _ k => XS.goto X0.here hx rfl (pc0 := 6) (pc' := 10) rfl (hb hby d_jdk_29_method_69_6) (by decide) (by decide) k) ?_
  show OwnGo p e below _ (s₁.setTop (mkF m 10 #[.val (.int (1 : Int32)), .val (.int (2 : Int32))] [(.int (1 : Int32))]))
  obtain ⟨fs, hr, hrun, hended, hW, hsame⟩ := X0.leave (v := some (.int (1 : Int32))) (fun h => by rw [Bd.returns] at h; cases h)
  refine ⟨_, _, retOut X0 hx Bd.returns rfl (Or.inl ⟨rfl, Or.inl rfl, _, rfl⟩) (hb hby d_jdk_29_method_69_10) hr, hrun, hended, _, _, rfl, ?_, ⟨_, rfl⟩, hW, hsame.mono (by decide) (by decide)⟩
  show Q_min12 Z aNONE h0 n0 _ s₁.heap _
  rw [e0]
  exact ⟨rfl, N0, rfl⟩
theorem d_jdk_65_method_123_0 : decode jdk_65_method_123_code 0 = .ok (.iload_n 1, 1) := by decide +kernel
theorem d_jdk_65_method_123_1 : decode jdk_65_method_123_code 1 = .ok (.aload_n 0, 1) := by decide +kernel
theorem d_jdk_65_method_123_2 : decode jdk_65_method_123_code 2 = .ok (.arraylength, 1) := by decide +kernel
theorem d_jdk_65_method_123_3 : decode jdk_65_method_123_code 3 = .ok (.if_icmp .ne 11, 3) := by decide +kernel
theorem d_jdk_65_method_123_14 : decode jdk_65_method_123_code 14 = .ok (.iload_n 1, 1) := by decide +kernel
theorem d_jdk_65_method_123_15 : decode jdk_65_method_123_code 15 = .ok (.newarray .int, 2) := by decide +kernel
theorem d_jdk_65_method_123_17 : decode jdk_65_method_123_code 17 = .ok (.astore_n 2, 1) := by decide +kernel
theorem d_jdk_65_method_123_18 : decode jdk_65_method_123_code 18 = .ok (.aload_n 0, 1) := by decide +kernel
theorem d_jdk_65_method_123_19 : decode jdk_65_method_123_code 19 = .ok (.iconst 0, 1) := by decide +kernel
theorem d_jdk_65_method_123_20 : decode jdk_65_method_123_code 20 = .ok (.aload_n 2, 1) := by decide +kernel
theorem d_jdk_65_method_123_21 : decode jdk_65_method_123_code 21 = .ok (.iconst 0, 1) := by decide +kernel
theorem d_jdk_65_method_123_22 : decode jdk_65_method_123_code 22 = .ok (.aload_n 0, 1) := by decide +kernel
theorem d_jdk_65_method_123_23 : decode jdk_65_method_123_code 23 = .ok (.arraylength, 1) := by decide +kernel
theorem d_jdk_65_method_123_24 : decode jdk_65_method_123_code 24 = .ok (.iload_n 1, 1) := by decide +kernel
theorem d_jdk_65_method_123_25 : decode jdk_65_method_123_code 25 = .ok (.invokestatic 304, 3) := by decide +kernel
theorem pd_I_I__I : parseMethodDescriptor "(II)I" = some ⟨[.int, .int], some .int⟩ := by decide +kernel
theorem d_jdk_65_method_123_28 : decode jdk_65_method_123_code 28 = .ok (.invokestatic 150, 3) := by decide +kernel
theorem d_jdk_65_method_123_31 : decode jdk_65_method_123_code 31 = .ok (.aload_n 2, 1) := by decide +kernel
theorem d_jdk_65_method_123_32 : decode jdk_65_method_123_code 32 = .ok (.areturn, 1) := by decide +kernel
theorem pn_java_util_Arrays : plainName "java/util/Arrays" = true := by first | (simp [plainName, overriddenIn]; done) | decide +kernel
def Q_cp (Z : State) (aNONE : Addr) (b1 : Addr) (f1 : Nat → Int32) (h0 : Heap) (n0 : Nat) (v : Option Value) (h : Heap) (L : List Loc) : Prop := ∃ (r9 : Addr) (k9 : ClassId), v = some (.ref r9) ∧ Fr n0 L ∧ Keep h0 h [] ∧ Arv Z h r9 k9 .int (2 : Int32) [(.int (f1 ((0 : Int32)).toNatClampNeg)), .int (0 : Int32)] (.int (0 : Int32)) ∧ h0.size ≤ r9
theorem ef_cp (m : MethodId) (x0 : Addr) (x1 : Int32) : entryFrame m #[(.ref x0), (.int x1)] 3 = mkF m 0 #[.val (.ref x0), .val (.int x1), .unset] [] := by first | (simp [entryFrame, mkF, argsToLocals, Value.category]; done) | rfl
set_option maxRecDepth 65536 in
set_option maxHeartbeats 40000000 in
theorem rm_cp (l : Launch) (Z : State) (a0 : Array Value) (hw : ∀ d ∈ tables_1, d.before a0 Z = true) (ws : List Jvm.Cond) (aNONE : Addr) (F0 : OwnFacts Z aNONE) (b1 : Addr) (f1 : Nat → Int32) (h0 : Heap) (n0 : Nat) (O0 : Old Z n0 h0) (PV1 : IA Z h0 b1 ((1 : Int32)).toNatClampNeg f1) :
    MetFree l (⟨"java/util/Arrays", "copyOf", "([II)[I"⟩ : MethodName) (head1 (Jvm.Cond.code (⟨"java/util/Arrays", "copyOf", "([II)[I"⟩ : MethodName) jdk_65_method_123_code 3 (some (.array .int)) :: ws) ({ frames := 1, cells := 1, slots := 2, locals := 19 } : Room)) (fun a U => a = #[(.ref b1), (.int (2 : Int32))] ∧ Z.Warmed39 U.vm ∧ U.heap = h0) (fun _ _ _ _ _ => True) (fun _ U o U' => ∃ v L, o = .returned v ∧ Q_cp Z aNONE b1 f1 h0 n0 v U'.heap L ∧ FrameEnd U o U' L ({ frames := 1, cells := 1, slots := 2, locals := 19 } : Room).cells ({ frames := 1, cells := 1, slots := 2, locals := 19 } : Room).slots) := by
  refine MetFree.of_bodySF (plainFor_of_name pn_java_util_Arrays) hisR ?_
  intro p e s m args below meth c s₁ Bd hml0 hP hK
  obtain ⟨rfl, hZ, hh⟩ := hP
  have hx := Bd.exec
  have hby := Bd.bytes
  have hml : c.maxLocals = 3 := hml0
  have hown : s.vm.findClass "java/util/Arrays" = some m.cls := findClass_of_methodNamed Bd.named
  have hnm := (name_of_methodNamed Bd.named Bd.method).1
  have X0 : Stand p l e ({ frames := 1, cells := 1, slots := 2, locals := 19 } : Room) s m #[(.ref b1), (.int (2 : Int32))] below meth c s₁ [] 0 0 := Stand.of_body Bd
  have e0 : s₁.heap = h0 := by rw [← hh, Bd.state]; rfl
  have N0 := Fr.nil n0
  refine own_go (Q := fun o U' => ∃ v L, o = .returned v ∧ Q_cp Z aNONE b1 f1 h0 n0 v U'.heap L ∧ FrameEnd s o U' L ({ frames := 1, cells := 1, slots := 2, locals := 19 } : Room).cells ({ frames := 1, cells := 1, slots := 2, locals := 19 } : Room).slots) (fun t k => castTop (ef_cp m b1 (2 : Int32)) k) ?_
  show OwnGo p e below _ (s₁.setTop (mkF m 0 #[.val (.ref b1), .val (.int (2 : Int32)), .unset] []))
  obtain ⟨k7, V7⟩ := own_arv1 PV1
  refine own_go (fun _ k => XS.iloadN X0.here hx rfl (hb hby d_jdk_65_method_123_0) rfl k) ?_
  show OwnGo p e below _ (s₁.setTop (mkF m 1 #[.val (.ref b1), .val (.int (2 : Int32)), .unset] [(.int (2 : Int32))]))
  refine own_go (fun _ k => XS.aloadN X0.here hx rfl (hb hby d_jdk_65_method_123_1) rfl rfl k) ?_
  show OwnGo p e below _ (s₁.setTop (mkF m 2 #[.val (.ref b1), .val (.int (2 : Int32)), .unset] [(.ref b1), (.int (2 : Int32))]))
  obtain ⟨c444, Ar444, q444, S444, M444, H444, G444⟩ := (id V7)
  refine own_go (fun _ k => X0.arraylength hx (cell := c444) (by rw [e0]; exact Ar444.1) (State.isArrayOf_alike hZ.alike Ar444.2.1) (g := (mkF m 2 #[.val (.ref b1), .val (.int (2 : Int32)), .unset] [(.ref b1), (.int (2 : Int32))])) rfl (rest := [(.int (2 : Int32))]) rfl (hb hby d_jdk_65_method_123_2) _ k) ?_
  rw [len_of S444 M444]
  show OwnGo p e below _ (s₁.setTop (mkF m 3 #[.val (.ref b1), .val (.int (2 : Int32)), .unset] [(.int (1 : Int32)), (.int (2 : Int32))]))
  refine own_go (fun _ k => XS.icmpYes X0.here hx rfl (pc0 := 3) (pc' := 14) rfl (hb hby d_jdk_65_method_123_3) rfl (by decide) (by decide) (by decide) k) ?_
  show OwnGo p e below _ (s₁.setTop (mkF m 14 #[.val (.ref b1), .val (.int (2 : Int32)), .unset] []))
  refine own_go (fun _ k => XS.iloadN X0.here hx rfl (hb hby d_jdk_65_method_123_14) rfl k) ?_
  show OwnGo p e below _ (s₁.setTop (mkF m 15 #[.val (.ref b1), .val (.int (2 : Int32)), .unset] [(.int (2 : Int32))]))
  obtain ⟨T445, h445, k445, X445, e445, E445, A445, st445⟩ := newP X0 hx hZ (hw _ (List.mem_of_getElem? (i := 1) rfl)) e0 (g := (mkF m 15 #[.val (.ref b1), .val (.int (2 : Int32)), .unset] [(.int (2 : Int32))])) rfl (hb hby d_jdk_65_method_123_15) rfl (by decide) (cap := 2) (by decide) (by decide) (by decide) (by decide)
  obtain ⟨a445, g445⟩ : ∃ z, z = h0.size := ⟨_, rfl⟩
  rw [← g445] at A445 st445
  have ge445 : n0 ≤ a445 := Nat.le_trans (own_sz O0) (Nat.le_of_eq g445.symm)
  have gh445 : h0.size ≤ a445 := Nat.le_trans (Nat.le_refl _) (Nat.le_of_eq g445.symm)
  have ne446 : b1 ≠ a445 := own_newne g445 V7.lt
  have O445 := O0.ext E445
  have z447 : h0.size ≤ h445.size := Nat.le_trans (Nat.le_refl _) E445.1
  have V445 : Arv Z h445 a445 k445 .int (2 : Int32) [(.int (0 : Int32)), (.int (0 : Int32))] (.int (0 : Int32)) := (Arv.new A445 (by decide)).pad (pad_rep [] _ 2)
  refine own_go st445 ?_
  show OwnGo p e below _ (T445.setTop (mkF m 17 #[.val (.ref b1), .val (.int (2 : Int32)), .unset] [(.ref a445)]))
  refine own_go (fun _ k => XS.astoreN X445.here hx rfl (hb hby d_jdk_65_method_123_17) rfl rfl (l' := #[.val (.ref b1), .val (.int (2 : Int32)), .val (.ref a445)]) rfl k) ?_
  show OwnGo p e below _ (T445.setTop (mkF m 18 #[.val (.ref b1), .val (.int (2 : Int32)), .val (.ref a445)] []))
  refine own_go (fun _ k => XS.aloadN X445.here hx rfl (hb hby d_jdk_65_method_123_18) rfl rfl k) ?_
  show OwnGo p e below _ (T445.setTop (mkF m 19 #[.val (.ref b1), .val (.int (2 : Int32)), .val (.ref a445)] [(.ref b1)]))
  refine own_go (fun _ k => XS.iconst X445.here hx rfl (hb hby d_jdk_65_method_123_19) k) ?_
  show OwnGo p e below _ (T445.setTop (mkF m 20 #[.val (.ref b1), .val (.int (2 : Int32)), .val (.ref a445)] [(.int (0 : Int32)), (.ref b1)]))
  refine own_go (fun _ k => XS.aloadN X445.here hx rfl (hb hby d_jdk_65_method_123_20) rfl rfl k) ?_
  show OwnGo p e below _ (T445.setTop (mkF m 21 #[.val (.ref b1), .val (.int (2 : Int32)), .val (.ref a445)] [(.ref a445), (.int (0 : Int32)), (.ref b1)]))
  refine own_go (fun _ k => XS.iconst X445.here hx rfl (hb hby d_jdk_65_method_123_21) k) ?_
  show OwnGo p e below _ (T445.setTop (mkF m 22 #[.val (.ref b1), .val (.int (2 : Int32)), .val (.ref a445)] [(.int (0 : Int32)), (.ref a445), (.int (0 : Int32)), (.ref b1)]))
  refine own_go (fun _ k => XS.aloadN X445.here hx rfl (hb hby d_jdk_65_method_123_22) rfl rfl k) ?_
  show OwnGo p e below _ (T445.setTop (mkF m 23 #[.val (.ref b1), .val (.int (2 : Int32)), .val (.ref a445)] [(.ref b1), (.int (0 : Int32)), (.ref a445), (.int (0 : Int32)), (.ref b1)]))
  have F448 := (V7.ext E445)
  obtain ⟨c449, Ar449, q449, S449, M449, H449, G449⟩ := (id F448)
  refine own_go (fun _ k => X445.arraylength hx (cell := c449) (by rw [e445]; exact Ar449.1) (State.isArrayOf_alike hZ.alike Ar449.2.1) (g := (mkF m 23 #[.val (.ref b1), .val (.int (2 : Int32)), .val (.ref a445)] [(.ref b1), (.int (0 : Int32)), (.ref a445), (.int (0 : Int32)), (.ref b1)])) rfl (rest := [(.int (0 : Int32)), (.ref a445), (.int (0 : Int32)), (.ref b1)]) rfl (hb hby d_jdk_65_method_123_23) _ k) ?_
  rw [len_of S449 M449]
  show OwnGo p e below _ (T445.setTop (mkF m 24 #[.val (.ref b1), .val (.int (2 : Int32)), .val (.ref a445)] [(.int (1 : Int32)), (.int (0 : Int32)), (.ref a445), (.int (0 : Int32)), (.ref b1)]))
  refine own_go (fun _ k => XS.iloadN X445.here hx rfl (hb hby d_jdk_65_method_123_24) rfl k) ?_
  show OwnGo p e below _ (T445.setTop (mkF m 25 #[.val (.ref b1), .val (.int (2 : Int32)), .val (.ref a445)] [(.int (2 : Int32)), (.int (1 : Int32)), (.int (0 : Int32)), (.ref a445), (.int (0 : Int32)), (.ref b1)]))
  obtain ⟨_, _, ⟨T450, L450, k450, n450⟩, -, X450, ⟨Lc450, hQ450, l450, y450, z450⟩, st450⟩ := Jvm.LawKit.callS X445 hx (y := (⟨"java/lang/Math", "min", "(II)I"⟩ : MethodName)) hown (mvT hZ (hw _ (List.mem_of_getElem? (i := 60) rfl))) (mvT hZ (hw _ (List.mem_of_getElem? (i := 61) rfl))) (mvT hZ (hw _ (List.mem_of_getElem? (i := 62) rfl))) (mvT hZ (hw _ (List.mem_of_getElem? (i := 63) rfl))) (by decide) (backOf (W := 4) (rm_min12 l Z a0 hw [] aNONE F0 h445 n0 O445) hZ (hw _ (List.mem_of_getElem? (i := 63) rfl)) (hw _ (List.mem_of_getElem? (i := 62) rfl)) (by decide) (by decide)) (g := (mkF m 25 #[.val (.ref b1), .val (.int (2 : Int32)), .val (.ref a445)] [(.int (2 : Int32)), (.int (1 : Int32)), (.int (0 : Int32)), (.ref a445), (.int (0 : Int32)), (.ref b1)])) rfl (by rw [hml]; rfl) (argsL := [(.int (1 : Int32)), (.int (2 : Int32))]) (rest := [(.int (0 : Int32)), (.ref a445), (.int (0 : Int32)), (.ref b1)]) (lenOf pd_I_I__I rfl) rfl (by show 2 * 0 + _ ≤ _; exact Nat.le_of_eq rfl) (hb hby d_jdk_65_method_123_25) (fun _ _ => ⟨rfl, e445, (by decide : 1 + 0 ≤ _), (by decide : 2 + 0 ≤ _)⟩)
  dsimp only [Pt.U, Pt.locs, Pt.cells, Pt.slots] at X450 l450 y450 z450 st450 hQ450
  subst l450 y450 z450
  obtain ⟨rfl, Nq450, K450⟩ := hQ450
  have N450 := Fr.app N0 Nq450
  refine own_go st450 ?_
  show OwnGo p e below _ (T450.setTop (mkF m 28 #[.val (.ref b1), .val (.int (2 : Int32)), .val (.ref a445)] [(.int (1 : Int32)), (.int (0 : Int32)), (.ref a445), (.int (0 : Int32)), (.ref b1)]))
  obtain ⟨T451, h451, L451, X451, e451, N451, K451, V451, st451⟩ := cpA X450 hx hZ hown (hw _ (List.mem_of_getElem? (i := 64) rfl)) (hw _ (List.mem_of_getElem? (i := 67) rfl)) (hw _ (List.mem_of_getElem? (i := 65) rfl)) (hw _ (List.mem_of_getElem? (i := 66) rfl)) K450 F448 V445 (us := [(.int (f1 ((0 : Int32)).toNatClampNeg))]) (Or.inl ⟨rfl, rfl⟩) (by decide) (by decide) (by decide) (by decide) (by decide) rfl (Nat.le_of_ble_eq_true rfl) N450 ge445 (g := (mkF m 28 #[.val (.ref b1), .val (.int (2 : Int32)), .val (.ref a445)] [(.int (1 : Int32)), (.int (0 : Int32)), (.ref a445), (.int (0 : Int32)), (.ref b1)])) rfl (by rw [hml]; rfl) rfl (hb hby d_jdk_65_method_123_28) (by decide) (W := 0) (by show 2 * 0 + _ ≤ _; exact Nat.le_of_eq rfl) (by decide)
  have O451 := O445.keep K451 (allS ge445 all0)
  have z452 : h0.size ≤ h451.size := Nat.le_trans z447 K451.1
  have F453 : Arv Z h451 a445 k445 .int (2 : Int32) [(.int (f1 ((0 : Int32)).toNatClampNeg)), (.int (0 : Int32))] (.int (0 : Int32)) := V451
  refine own_go st451 ?_
  show OwnGo p e below _ (T451.setTop (mkF m 31 #[.val (.ref b1), .val (.int (2 : Int32)), .val (.ref a445)] []))
  refine own_go (fun _ k => XS.aloadN X451.here hx rfl (hb hby d_jdk_65_method_123_31) rfl rfl k) ?_
  show OwnGo p e below _ (T451.setTop (mkF m 32 #[.val (.ref b1), .val (.int (2 : Int32)), .val (.ref a445)] [(.ref a445)]))
  obtain ⟨fs, hr, hrun, hended, hW, hsame⟩ := X451.leave (v := some (.ref a445)) (fun h => by rw [Bd.returns] at h; cases h)
  refine ⟨_, _, retOut X451 hx Bd.returns rfl (Or.inr (Or.inr (Or.inr (Or.inr ⟨rfl, rfl, rfl⟩)))) (hb hby d_jdk_65_method_123_32) hr, hrun, hended, _, _, rfl, ?_, ⟨_, rfl⟩, hW, hsame.mono (by decide) (by decide)⟩
  show Q_cp Z aNONE b1 f1 h0 n0 _ T451.heap _
  rw [e451]
  exact ⟨a445, k445, rfl, N451, (((Keep.refl _ []).ext E445).trans K451 (allS (P := fun x => x ∈ _ ∨ _ ≤ x) (Or.inr gh445) all0)), F453, gh445⟩
theorem d_prog_46_method_7_63 : decode prog_46_method_7_code 63 = .ok (.aload_n 0, 1) := by decide +kernel
theorem d_prog_46_method_7_64 : decode prog_46_method_7_code 64 = .ok (.aload_n 0, 1) := by decide +kernel
theorem d_prog_46_method_7_65 : decode prog_46_method_7_code 65 = .ok (.getfield 12, 3) := by decide +kernel
theorem d_prog_46_method_7_68 : decode prog_46_method_7_code 68 = .ok (.aload_n 0, 1) := by decide +kernel
theorem d_prog_46_method_7_69 : decode prog_46_method_7_code 69 = .ok (.getfield 16, 3) := by decide +kernel
theorem d_prog_46_method_7_72 : decode prog_46_method_7_code 72 = .ok (.iconst 2, 1) := by decide +kernel
theorem d_prog_46_method_7_73 : decode prog_46_method_7_code 73 = .ok (.imul, 1) := by decide +kernel
theorem d_prog_46_method_7_74 : decode prog_46_method_7_code 74 = .ok (.invokestatic 42, 3) := by decide +kernel
theorem pd__I_I___I : parseMethodDescriptor "([II)[I" = some ⟨[(.array .int), .int], some (.array .int)⟩ := by decide +kernel
theorem d_prog_46_method_7_77 : decode prog_46_method_7_code 77 = .ok (.putfield 12, 3) := by decide +kernel
def Q_addG (Z : State) (aNONE : Addr) (a1 : Addr) (p2 : Int32) (b1 : Addr) (f1 : Nat → Int32) (h0 : Heap) (n0 : Nat) (v : Option Value) (h : Heap) (L : List Loc) : Prop := ∃ (r9 : Addr), v = none ∧ Fr n0 L ∧ Keep h0 h [a1] ∧ Fld Z h a1 "com/example/reweave/reweave/control/Keys" "numbers" "[I" (.ref r9) ∧ Fld Z h a1 "com/example/reweave/reweave/control/Keys" "size" "I" (.int (2 : Int32)) ∧ Fld Z h a1 "com/example/reweave/reweave/control/Keys" "slots" "[I" .null ∧ IA Z h r9 ((2 : Int32)).toNatClampNeg (own_upd (own_upd (fun _ => 0) ((0 : Int32)).toNatClampNeg (f1 ((0 : Int32)).toNatClampNeg)) ((1 : Int32)).toNatClampNeg p2) ∧ h0.size ≤ r9
theorem ef_addG (m : MethodId) (x0 : Addr) (x1 : Int32) : entryFrame m #[(.ref x0), (.int x1)] 3 = mkF m 0 #[.val (.ref x0), .val (.int x1), .unset] [] := by first | (simp [entryFrame, mkF, argsToLocals, Value.category]; done) | rfl
set_option maxRecDepth 65536 in
set_option maxHeartbeats 40000000 in
theorem rm_addG (l : Launch) (Z : State) (a0 : Array Value) (hw : ∀ d ∈ tables_1, d.before a0 Z = true) (ws : List Jvm.Cond) (aNONE : Addr) (F0 : OwnFacts Z aNONE) (a1 : Addr) (p2 : Int32) (b1 : Addr) (f1 : Nat → Int32) (h0 : Heap) (n0 : Nat) (O0 : Old Z n0 h0) (PE1 : Exa Z h0 a1 "com/example/reweave/reweave/control/Keys") (PF1 : Fld Z h0 a1 "com/example/reweave/reweave/control/Keys" "numbers" "[I" (.ref b1)) (PF2 : Fld Z h0 a1 "com/example/reweave/reweave/control/Keys" "size" "I" (.int (1 : Int32))) (PF3 : Fld Z h0 a1 "com/example/reweave/reweave/control/Keys" "slots" "[I" .null) (PV1 : IA Z h0 b1 ((1 : Int32)).toNatClampNeg f1) (ge1 : n0 ≤ a1) (nab : a1 ≠ b1) (hfd : own_find f1 p2 ((1 : Int32)).toNatClampNeg (0 : Int32) = (0 : Int32)) :
    MetFree l (⟨"com/example/reweave/reweave/control/Keys", "add", "(I)V"⟩ : MethodName) (head1 (Jvm.Cond.code (⟨"com/example/reweave/reweave/control/Keys", "add", "(I)V"⟩ : MethodName) prog_46_method_7_code 3 none :: ws) ({ frames := 2, cells := 1, slots := 2, locals := 34 } : Room)) (fun a U => a = #[(.ref a1), (.int p2)] ∧ Z.Warmed39 U.vm ∧ U.heap = h0) (fun _ _ _ _ _ => True) (fun _ U o U' => ∃ v L, o = .returned v ∧ Q_addG Z aNONE a1 p2 b1 f1 h0 n0 v U'.heap L ∧ FrameEnd U o U' L ({ frames := 2, cells := 1, slots := 2, locals := 34 } : Room).cells ({ frames := 2, cells := 1, slots := 2, locals := 34 } : Room).slots) := by
  refine MetFree.of_bodySF (plainFor_of_name pn_com_example_reweave_reweave_control_Keys) hisR ?_
  intro p e s m args below meth c s₁ Bd hml0 hP hK
  obtain ⟨rfl, hZ, hh⟩ := hP
  have hx := Bd.exec
  have hby := Bd.bytes
  have hml : c.maxLocals = 3 := hml0
  have hown : s.vm.findClass "com/example/reweave/reweave/control/Keys" = some m.cls := findClass_of_methodNamed Bd.named
  have hnm := (name_of_methodNamed Bd.named Bd.method).1
  have X0 : Stand p l e ({ frames := 2, cells := 1, slots := 2, locals := 34 } : Room) s m #[(.ref a1), (.int p2)] below meth c s₁ [] 0 0 := Stand.of_body Bd
  have e0 : s₁.heap = h0 := by rw [← hh, Bd.state]; rfl
  have N0 := Fr.nil n0
  refine own_go (Q := fun o U' => ∃ v L, o = .returned v ∧ Q_addG Z aNONE a1 p2 b1 f1 h0 n0 v U'.heap L ∧ FrameEnd s o U' L ({ frames := 2, cells := 1, slots := 2, locals := 34 } : Room).cells ({ frames := 2, cells := 1, slots := 2, locals := 34 } : Room).slots) (fun t k => castTop (ef_addG m a1 p2) k) ?_
  show OwnGo p e below _ (s₁.setTop (mkF m 0 #[.val (.ref a1), .val (.int p2), .unset] []))
  refine own_go (fun _ k => XS.aloadN X0.here hx rfl (hb hby d_prog_46_method_7_0) rfl rfl k) ?_
  show OwnGo p e below _ (s₁.setTop (mkF m 1 #[.val (.ref a1), .val (.int p2), .unset] [(.ref a1)]))
  obtain ⟨T454, X454, e454, st454⟩ := getS X0 hx hZ hown (host := "") (hw _ (List.mem_of_getElem? (i := 6) rfl)) Via.refl e0 (F0.1.ext O0.2) (g := (mkF m 1 #[.val (.ref a1), .val (.int p2), .unset] [(.ref a1)])) rfl (hb hby d_prog_46_method_7_1)
  refine own_go st454 ?_
  show OwnGo p e below _ (T454.setTop (mkF m 4 #[.val (.ref a1), .val (.int p2), .unset] [(.ref aNONE), (.ref a1)]))
  refine own_go (fun _ k => acmp X454 hx rfl (cd := .ne) (o := 13) (x := (.ref a1)) (y := (.ref aNONE)) (pc0 := 4) (pc' := 17) rfl rfl rfl (hb hby d_prog_46_method_7_4) rfl (own_refne (Ne.symm (O0.ne F0.2.1.lt ge1))) (by decide) (by decide) k) ?_
  show OwnGo p e below _ (T454.setTop (mkF m 17 #[.val (.ref a1), .val (.int p2), .unset] []))
  refine own_go (fun _ k => XS.iconst X454.here hx rfl (hb hby d_prog_46_method_7_17) k) ?_
  show OwnGo p e below _ (T454.setTop (mkF m 18 #[.val (.ref a1), .val (.int p2), .unset] [(.int (-1 : Int32))]))
  refine own_go (fun _ k => XS.istoreN X454.here hx rfl (hb hby d_prog_46_method_7_18) rfl (l' := #[.val (.ref a1), .val (.int p2), .val (.int (-1 : Int32))]) rfl k) ?_
  show OwnGo p e below _ (T454.setTop (mkF m 19 #[.val (.ref a1), .val (.int p2), .val (.int (-1 : Int32))] []))
  refine own_go (fun _ k => XS.aloadN X454.here hx rfl (hb hby d_prog_46_method_7_19) rfl rfl k) ?_
  show OwnGo p e below _ (T454.setTop (mkF m 20 #[.val (.ref a1), .val (.int p2), .val (.int (-1 : Int32))] [(.ref a1)]))
  obtain ⟨T455, X455, e455, st455⟩ := getF X454 hx hZ hown (host := "") (Or.inl (hw _ (List.mem_of_getElem? (i := 34) rfl))) Via.refl e454 PF3 (g := (mkF m 20 #[.val (.ref a1), .val (.int p2), .val (.int (-1 : Int32))] [(.ref a1)])) rfl rfl (hb hby d_prog_46_method_7_20)
  refine own_go st455 ?_
  show OwnGo p e below _ (T455.setTop (mkF m 23 #[.val (.ref a1), .val (.int p2), .val (.int (-1 : Int32))] [.null]))
  refine own_go (fun _ k => XS.ifnullYes X455.here hx rfl (pc0 := 23) (pc' := 42) rfl (hb hby d_prog_46_method_7_23) rfl (by decide) (by decide) k) ?_
  show OwnGo p e below _ (T455.setTop (mkF m 42 #[.val (.ref a1), .val (.int p2), .val (.int (-1 : Int32))] []))
  refine own_go (fun _ k => XS.aloadN X455.here hx rfl (hb hby d_prog_46_method_7_42) rfl rfl k) ?_
  show OwnGo p e below _ (T455.setTop (mkF m 43 #[.val (.ref a1), .val (.int p2), .val (.int (-1 : Int32))] [(.ref a1)]))
  refine own_go (fun _ k => XS.iloadN X455.here hx rfl (hb hby d_prog_46_method_7_43) rfl k) ?_
  show OwnGo p e below _ (T455.setTop (mkF m 44 #[.val (.ref a1), .val (.int p2), .val (.int (-1 : Int32))] [(.int p2), (.ref a1)]))
  obtain ⟨cq456, kq456, qa456, qb456, qc456⟩ := isOf hZ e455 PE1
  obtain ⟨_, _, ⟨T456, L456, k456, n456⟩, -, X456, ⟨Lc456, hQ456, l456, y456, z456⟩, st456⟩ := X455.virtualBack hx (y := (⟨"com/example/reweave/reweave/control/Keys", "contains", "(I)Z"⟩ : MethodName)) (z := (⟨"com/example/reweave/reweave/control/Keys", "contains", "(I)Z"⟩ : MethodName)) hown (mvT hZ (hw _ (List.mem_of_getElem? (i := 36) rfl))) (mvT hZ (hw _ (List.mem_of_getElem? (i := 37) rfl))) (notFace_of_selects (args := #[]) (mvT hZ (hw _ (List.mem_of_getElem? (i := 39) rfl)))) (mvT hZ (hw _ (List.mem_of_getElem? (i := 39) rfl))) (mvT hZ (hw _ (List.mem_of_getElem? (i := 38) rfl))) (by decide) (backOf (W := 0) (rm_con l Z a0 hw [] aNONE F0 a1 p2 b1 (1 : Int32) f1 (1 : Int32) (0 : Int32) h0 n0 O0 PF1 PF3 PF2 PV1 (by decide) (by decide) (by decide) (by decide) hfd) hZ (hw _ (List.mem_of_getElem? (i := 40) rfl)) (hw _ (List.mem_of_getElem? (i := 4) rfl)) (by decide) (by decide)) qa456 qc456 (g := (mkF m 44 #[.val (.ref a1), .val (.int p2), .val (.int (-1 : Int32))] [(.int p2), (.ref a1)])) rfl (by rw [hml]; rfl) (Steps.refl _) (argsL := [(.int p2)]) (rest := []) (lenOf pd_I__Z rfl) rfl (by show 2 * 0 + _ ≤ _; exact Nat.le_of_eq rfl) (hb hby d_prog_46_method_7_44) (fun _ _ => ⟨rfl, e455, (by decide : 0 + 0 ≤ _), (by decide : 0 + 0 ≤ _)⟩)
  dsimp only [Pt.U, Pt.locs, Pt.cells, Pt.slots] at X456 l456 y456 z456 st456 hQ456
  subst l456 y456 z456
  obtain ⟨rfl, Nq456, K456⟩ := hQ456
  have N456 := Fr.app N0 Nq456
  refine own_go (fun _ k => st456.trans k) ?_
  show OwnGo p e below _ (T456.setTop (mkF m 47 #[.val (.ref a1), .val (.int p2), .val (.int (-1 : Int32))] [(.int (0 : Int32))]))
  refine own_go (fun _ k => XS.ifYes X456.here hx rfl (pc0 := 47) (pc' := 51) rfl (hb hby d_prog_46_method_7_47) rfl (by decide) (by decide) (by decide) k) ?_
  show OwnGo p e below _ (T456.setTop (mkF m 51 #[.val (.ref a1), .val (.int p2), .val (.int (-1 : Int32))] []))
  refine own_go (fun _ k => XS.aloadN X456.here hx rfl (hb hby d_prog_46_method_7_51) rfl rfl k) ?_
  show OwnGo p e below _ (T456.setTop (mkF m 52 #[.val (.ref a1), .val (.int p2), .val (.int (-1 : Int32))] [(.ref a1)]))
  obtain ⟨T457, X457, e457, st457⟩ := getF X456 hx hZ hown (host := "") (Or.inl (hw _ (List.mem_of_getElem? (i := 17) rfl))) Via.refl K456 PF2 (g := (mkF m 52 #[.val (.ref a1), .val (.int p2), .val (.int (-1 : Int32))] [(.ref a1)])) rfl rfl (hb hby d_prog_46_method_7_52)
  refine own_go st457 ?_
  show OwnGo p e below _ (T457.setTop (mkF m 55 #[.val (.ref a1), .val (.int p2), .val (.int (-1 : Int32))] [(.int (1 : Int32))]))
  refine own_go (fun _ k => XS.aloadN X457.here hx rfl (hb hby d_prog_46_method_7_55) rfl rfl k) ?_
  show OwnGo p e below _ (T457.setTop (mkF m 56 #[.val (.ref a1), .val (.int p2), .val (.int (-1 : Int32))] [(.ref a1), (.int (1 : Int32))]))
  obtain ⟨T458, X458, e458, st458⟩ := getF X457 hx hZ hown (host := "") (Or.inl (hw _ (List.mem_of_getElem? (i := 27) rfl))) Via.refl e457 PF1 (g := (mkF m 56 #[.val (.ref a1), .val (.int p2), .val (.int (-1 : Int32))] [(.ref a1), (.int (1 : Int32))])) rfl rfl (hb hby d_prog_46_method_7_56)
  refine own_go st458 ?_
  show OwnGo p e below _ (T458.setTop (mkF m 59 #[.val (.ref a1), .val (.int p2), .val (.int (-1 : Int32))] [(.ref b1), (.int (1 : Int32))]))
  obtain ⟨c459, Ar459, S459, M459, H459⟩ := (id PV1)
  refine own_go (fun _ k => X458.arraylength hx (cell := c459) (by rw [e458]; exact Ar459.1) (State.isArrayOf_alike hZ.alike Ar459.2.1) (g := (mkF m 59 #[.val (.ref a1), .val (.int p2), .val (.int (-1 : Int32))] [(.ref b1), (.int (1 : Int32))])) rfl (rest := [(.int (1 : Int32))]) rfl (hb hby d_prog_46_method_7_59) _ k) ?_
  rw [len_of S459 (own_nn (by decide))]
  show OwnGo p e below _ (T458.setTop (mkF m 60 #[.val (.ref a1), .val (.int p2), .val (.int (-1 : Int32))] [(.int (1 : Int32)), (.int (1 : Int32))]))
  refine own_go (fun _ k => XS.icmpNo X458.here hx rfl (hb hby d_prog_46_method_7_60) rfl (by decide) k) ?_
  show OwnGo p e below _ (T458.setTop (mkF m 63 #[.val (.ref a1), .val (.int p2), .val (.int (-1 : Int32))] []))
  refine own_go (fun _ k => XS.aloadN X458.here hx rfl (hb hby d_prog_46_method_7_63) rfl rfl k) ?_
  show OwnGo p e below _ (T458.setTop (mkF m 64 #[.val (.ref a1), .val (.int p2), .val (.int (-1 : Int32))] [(.ref a1)]))
  refine own_go (fun _ k => XS.aloadN X458.here hx rfl (hb hby d_prog_46_method_7_64) rfl rfl k) ?_
  show OwnGo p e below _ (T458.setTop (mkF m 65 #[.val (.ref a1), .val (.int p2), .val (.int (-1 : Int32))] [(.ref a1), (.ref a1)]))
  obtain ⟨T460, X460, e460, st460⟩ := getF X458 hx hZ hown (host := "") (Or.inl (hw _ (List.mem_of_getElem? (i := 27) rfl))) Via.refl e458 PF1 (g := (mkF m 65 #[.val (.ref a1), .val (.int p2), .val (.int (-1 : Int32))] [(.ref a1), (.ref a1)])) rfl rfl (hb hby d_prog_46_method_7_65)
  refine own_go st460 ?_
  show OwnGo p e below _ (T460.setTop (mkF m 68 #[.val (.ref a1), .val (.int p2), .val (.int (-1 : Int32))] [(.ref b1), (.ref a1)]))
  refine own_go (fun _ k => XS.aloadN X460.here hx rfl (hb hby d_prog_46_method_7_68) rfl rfl k) ?_
  show OwnGo p e below _ (T460.setTop (mkF m 69 #[.val (.ref a1), .val (.int p2), .val (.int (-1 : Int32))] [(.ref a1), (.ref b1), (.ref a1)]))
  obtain ⟨T461, X461, e461, st461⟩ := getF X460 hx hZ hown (host := "") (Or.inl (hw _ (List.mem_of_getElem? (i := 17) rfl))) Via.refl e460 PF2 (g := (mkF m 69 #[.val (.ref a1), .val (.int p2), .val (.int (-1 : Int32))] [(.ref a1), (.ref b1), (.ref a1)])) rfl rfl (hb hby d_prog_46_method_7_69)
  refine own_go st461 ?_
  show OwnGo p e below _ (T461.setTop (mkF m 72 #[.val (.ref a1), .val (.int p2), .val (.int (-1 : Int32))] [(.int (1 : Int32)), (.ref b1), (.ref a1)]))
  refine own_go (fun _ k => XS.iconst X461.here hx rfl (hb hby d_prog_46_method_7_72) k) ?_
  show OwnGo p e below _ (T461.setTop (mkF m 73 #[.val (.ref a1), .val (.int p2), .val (.int (-1 : Int32))] [(.int (2 : Int32)), (.int (1 : Int32)), (.ref b1), (.ref a1)]))
  refine own_go (fun _ k => XS.imul X461.here hx rfl (hb hby d_prog_46_method_7_73) rfl k) ?_
  show OwnGo p e below _ (T461.setTop (mkF m 74 #[.val (.ref a1), .val (.int p2), .val (.int (-1 : Int32))] [(.int ((1 : Int32) * (2 : Int32))), (.ref b1), (.ref a1)]))
  rw [show ((1 : Int32) * (2 : Int32)) = (2 : Int32) from by decide]
  show OwnGo p e below _ (T461.setTop (mkF m 74 #[.val (.ref a1), .val (.int p2), .val (.int (-1 : Int32))] [(.int (2 : Int32)), (.ref b1), (.ref a1)]))
  obtain ⟨_, _, ⟨T462, L462, k462, n462⟩, -, X462, ⟨Lc462, hQ462, l462, y462, z462⟩, st462⟩ := Jvm.LawKit.callS X461 hx (y := (⟨"java/util/Arrays", "copyOf", "([II)[I"⟩ : MethodName)) hown (mvT hZ (hw _ (List.mem_of_getElem? (i := 56) rfl))) (mvT hZ (hw _ (List.mem_of_getElem? (i := 57) rfl))) (mvT hZ (hw _ (List.mem_of_getElem? (i := 58) rfl))) (mvT hZ (hw _ (List.mem_of_getElem? (i := 59) rfl))) (by decide) (backOf (W := 1) (rm_cp l Z a0 hw [] aNONE F0 b1 f1 h0 n0 O0 PV1) hZ (hw _ (List.mem_of_getElem? (i := 59) rfl)) (hw _ (List.mem_of_getElem? (i := 58) rfl)) (by decide) (by decide)) (g := (mkF m 74 #[.val (.ref a1), .val (.int p2), .val (.int (-1 : Int32))] [(.int (2 : Int32)), (.ref b1), (.ref a1)])) rfl (by rw [hml]; rfl) (argsL := [(.ref b1), (.int (2 : Int32))]) (rest := [(.ref a1)]) (lenOf pd__I_I___I rfl) rfl (by show 2 * 0 + _ ≤ _; exact Nat.le_of_eq rfl) (hb hby d_prog_46_method_7_74) (fun _ _ => ⟨rfl, e461, (by decide : 0 + 1 ≤ _), (by decide : 0 + 2 ≤ _)⟩)
  dsimp only [Pt.U, Pt.locs, Pt.cells, Pt.slots] at X462 l462 y462 z462 st462 hQ462
  subst l462 y462 z462
  obtain ⟨r9_462, k9_462, rfl, Nq462, K462, x462_0, x462_1⟩ := hQ462
  have N462 := Fr.app N456 Nq462
  have O462 := O0.keep K462 all0
  have e462 : T462.heap = T462.heap := rfl
  have z463 : h0.size ≤ T462.heap.size := Nat.le_trans (Nat.le_refl _) K462.1
  have gex462_1 : n0 ≤ r9_462 := Nat.le_trans (own_sz O0) x462_1
  have ghx462_1 : h0.size ≤ r9_462 := Nat.le_trans (Nat.le_refl _) x462_1
  have ne464 : a1 ≠ r9_462 := own_newlt PE1.lt x462_1
  have ne465 : b1 ≠ r9_462 := own_newlt PV1.lt x462_1
  refine own_go st462 ?_
  show OwnGo p e below _ (T462.setTop (mkF m 77 #[.val (.ref a1), .val (.int p2), .val (.int (-1 : Int32))] [(.ref r9_462), (.ref a1)]))
  have F466 := (PF1.keep K462 nin0)
  have F467 := (PE1.keep K462)
  obtain ⟨T468, h468, X468, e468, W468, st468⟩ := putF X462 hx hZ hown (host := "") (Or.inl (hw _ (List.mem_of_getElem? (i := 27) rfl))) Via.refl e462 F466 F467 (Or.inl (hw _ (List.mem_of_getElem? (i := 28) rfl))) (hw _ (List.mem_of_getElem? (i := 20) rfl)) (ty := (.array .int)) (by decide) rfl rfl (g := (mkF m 77 #[.val (.ref a1), .val (.int p2), .val (.int (-1 : Int32))] [(.ref r9_462), (.ref a1)])) rfl rfl (hb hby d_prog_46_method_7_77)
  have N468 := Fr.snoc X468 N462 ge1
  have O468 := O462.wr W468 ge1
  have z469 : h0.size ≤ h468.size := Nat.le_trans z463 (Nat.le_of_eq W468.size.symm)
  have F468 : Fld Z h468 a1 "com/example/reweave/reweave/control/Keys" "numbers" "[I" (.ref r9_462) := F466.same W468
  refine own_go st468 ?_
  show OwnGo p e below _ (T468.setTop (mkF m 80 #[.val (.ref a1), .val (.int p2), .val (.int (-1 : Int32))] []))
  refine own_go (fun _ k => XS.aloadN X468.here hx rfl (hb hby d_prog_46_method_7_80) rfl rfl k) ?_
  show OwnGo p e below _ (T468.setTop (mkF m 81 #[.val (.ref a1), .val (.int p2), .val (.int (-1 : Int32))] [(.ref a1)]))
  obtain ⟨T470, X470, e470, st470⟩ := getF X468 hx hZ hown (host := "") (Or.inl (hw _ (List.mem_of_getElem? (i := 27) rfl))) Via.refl e468 F468 (g := (mkF m 81 #[.val (.ref a1), .val (.int p2), .val (.int (-1 : Int32))] [(.ref a1)])) rfl rfl (hb hby d_prog_46_method_7_81)
  refine own_go st470 ?_
  show OwnGo p e below _ (T470.setTop (mkF m 84 #[.val (.ref a1), .val (.int p2), .val (.int (-1 : Int32))] [(.ref r9_462)]))
  refine own_go (fun _ k => XS.aloadN X470.here hx rfl (hb hby d_prog_46_method_7_84) rfl rfl k) ?_
  show OwnGo p e below _ (T470.setTop (mkF m 85 #[.val (.ref a1), .val (.int p2), .val (.int (-1 : Int32))] [(.ref a1), (.ref r9_462)]))
  have F471 := ((PF2.keep K462 nin0).other W468 (Or.inr (slot_ne (a0 := a0) (C := "com/example/reweave/reweave/control/Keys") (Or.inl (hw _ (List.mem_of_getElem? (i := 18) rfl))) (Or.inl (hw _ (List.mem_of_getElem? (i := 28) rfl))) (by decide) (t := .int) (t' := (.array .int)) (by decide) (by decide))))
  obtain ⟨T472, X472, e472, st472⟩ := getF X470 hx hZ hown (host := "") (Or.inl (hw _ (List.mem_of_getElem? (i := 17) rfl))) Via.refl e470 F471 (g := (mkF m 85 #[.val (.ref a1), .val (.int p2), .val (.int (-1 : Int32))] [(.ref a1), (.ref r9_462)])) rfl rfl (hb hby d_prog_46_method_7_85)
  refine own_go st472 ?_
  show OwnGo p e below _ (T472.setTop (mkF m 88 #[.val (.ref a1), .val (.int p2), .val (.int (-1 : Int32))] [(.int (1 : Int32)), (.ref r9_462)]))
  refine own_go (fun _ k => XS.iloadN X472.here hx rfl (hb hby d_prog_46_method_7_88) rfl k) ?_
  show OwnGo p e below _ (T472.setTop (mkF m 89 #[.val (.ref a1), .val (.int p2), .val (.int (-1 : Int32))] [(.int p2), (.int (1 : Int32)), (.ref r9_462)]))
  have F473 := (x462_0.other W468 (Ne.symm ne464))
  obtain ⟨c474, Ar474, q474, S474, M474, H474, G474⟩ := (id F473)
  obtain ⟨T474, h474, X474, e474, W474, st474⟩ := stI X472 hx hZ e472 Ar474 (j := (1 : Int32)) (inb_of S474 ⟨by decide, by decide⟩) (g := (mkF m 89 #[.val (.ref a1), .val (.int p2), .val (.int (-1 : Int32))] [(.int p2), (.int (1 : Int32)), (.ref r9_462)])) rfl rfl (hb hby d_prog_46_method_7_89)
  have N474 := Fr.snoc X474 N468 gex462_1
  have O474 := O468.wr W474 gex462_1
  have z475 : h0.size ≤ h474.size := Nat.le_trans z469 (Nat.le_of_eq W474.size.symm)
  have V474 : Arv Z h474 r9_462 k9_462 .int (2 : Int32) [(.int (f1 ((0 : Int32)).toNatClampNeg)), (.int p2)] (.int (0 : Int32)) := Arv.set Ar474 q474 S474 M474 H474 G474 rfl W474 1 (by decide) (Nat.le_of_ble_eq_true rfl)
  refine own_go st474 ?_
  show OwnGo p e below _ (T474.setTop (mkF m 90 #[.val (.ref a1), .val (.int p2), .val (.int (-1 : Int32))] []))
  refine own_go (fun _ k => XS.aloadN X474.here hx rfl (hb hby d_prog_46_method_7_90) rfl rfl k) ?_
  show OwnGo p e below _ (T474.setTop (mkF m 91 #[.val (.ref a1), .val (.int p2), .val (.int (-1 : Int32))] [(.ref a1)]))
  refine own_go (fun _ k => XS.dup X474.here hx rfl (hb hby d_prog_46_method_7_91) rfl rfl k) ?_
  show OwnGo p e below _ (T474.setTop (mkF m 92 #[.val (.ref a1), .val (.int p2), .val (.int (-1 : Int32))] [(.ref a1), (.ref a1)]))
  have F476 := (F471.other W474 (Or.inl ne464))
  obtain ⟨T477, X477, e477, st477⟩ := getF X474 hx hZ hown (host := "") (Or.inl (hw _ (List.mem_of_getElem? (i := 17) rfl))) Via.refl e474 F476 (g := (mkF m 92 #[.val (.ref a1), .val (.int p2), .val (.int (-1 : Int32))] [(.ref a1), (.ref a1)])) rfl rfl (hb hby d_prog_46_method_7_92)
  refine own_go st477 ?_
  show OwnGo p e below _ (T477.setTop (mkF m 95 #[.val (.ref a1), .val (.int p2), .val (.int (-1 : Int32))] [(.int (1 : Int32)), (.ref a1)]))
  refine own_go (fun _ k => XS.iconst X477.here hx rfl (hb hby d_prog_46_method_7_95) k) ?_
  show OwnGo p e below _ (T477.setTop (mkF m 96 #[.val (.ref a1), .val (.int p2), .val (.int (-1 : Int32))] [(.int (1 : Int32)), (.int (1 : Int32)), (.ref a1)]))
  refine own_go (fun _ k => XS.iadd X477.here hx rfl (hb hby d_prog_46_method_7_96) rfl k) ?_
  show OwnGo p e below _ (T477.setTop (mkF m 97 #[.val (.ref a1), .val (.int p2), .val (.int (-1 : Int32))] [(.int ((1 : Int32) + (1 : Int32))), (.ref a1)]))
  rw [show ((1 : Int32) + (1 : Int32)) = (2 : Int32) from by decide]
  show OwnGo p e below _ (T477.setTop (mkF m 97 #[.val (.ref a1), .val (.int p2), .val (.int (-1 : Int32))] [(.int (2 : Int32)), (.ref a1)]))
  have F478 := ((F467.wr W468).wr W474)
  obtain ⟨T479, h479, X479, e479, W479, st479⟩ := putF X477 hx hZ hown (host := "") (Or.inl (hw _ (List.mem_of_getElem? (i := 17) rfl))) Via.refl e477 F476 F478 (Or.inl (hw _ (List.mem_of_getElem? (i := 18) rfl))) (hw _ (List.mem_of_getElem? (i := 20) rfl)) (ty := .int) (by decide) rfl rfl (g := (mkF m 97 #[.val (.ref a1), .val (.int p2), .val (.int (-1 : Int32))] [(.int (2 : Int32)), (.ref a1)])) rfl rfl (hb hby d_prog_46_method_7_97)
  have N479 := Fr.snoc X479 N474 ge1
  have O479 := O474.wr W479 ge1
  have z480 : h0.size ≤ h479.size := Nat.le_trans z475 (Nat.le_of_eq W479.size.symm)
  have F479 : Fld Z h479 a1 "com/example/reweave/reweave/control/Keys" "size" "I" (.int (2 : Int32)) := F476.same W479
  refine own_go st479 ?_
  show OwnGo p e below _ (T479.setTop (mkF m 100 #[.val (.ref a1), .val (.int p2), .val (.int (-1 : Int32))] []))
  refine own_go (fun _ k => XS.aloadN X479.here hx rfl (hb hby d_prog_46_method_7_100) rfl rfl k) ?_
  show OwnGo p e below _ (T479.setTop (mkF m 101 #[.val (.ref a1), .val (.int p2), .val (.int (-1 : Int32))] [(.ref a1)]))
  have F481 := ((((PF3.keep K462 nin0).other W468 (Or.inr (slot_ne (a0 := a0) (C := "com/example/reweave/reweave/control/Keys") (Or.inl (hw _ (List.mem_of_getElem? (i := 35) rfl))) (Or.inl (hw _ (List.mem_of_getElem? (i := 28) rfl))) (by decide) (t := (.array .int)) (t' := (.array .int)) (by decide) (by decide)))).other W474 (Or.inl ne464)).other W479 (Or.inr (slot_ne (a0 := a0) (C := "com/example/reweave/reweave/control/Keys") (Or.inl (hw _ (List.mem_of_getElem? (i := 35) rfl))) (Or.inl (hw _ (List.mem_of_getElem? (i := 18) rfl))) (by decide) (t := (.array .int)) (t' := .int) (by decide) (by decide))))
  obtain ⟨T482, X482, e482, st482⟩ := getF X479 hx hZ hown (host := "") (Or.inl (hw _ (List.mem_of_getElem? (i := 34) rfl))) Via.refl e479 F481 (g := (mkF m 101 #[.val (.ref a1), .val (.int p2), .val (.int (-1 : Int32))] [(.ref a1)])) rfl rfl (hb hby d_prog_46_method_7_101)
  refine own_go st482 ?_
  show OwnGo p e below _ (T482.setTop (mkF m 104 #[.val (.ref a1), .val (.int p2), .val (.int (-1 : Int32))] [.null]))
  refine own_go (fun _ k => XS.ifnullYes X482.here hx rfl (pc0 := 104) (pc' := 145) rfl (hb hby d_prog_46_method_7_104) rfl (by decide) (by decide) k) ?_
  show OwnGo p e below _ (T482.setTop (mkF m 145 #[.val (.ref a1), .val (.int p2), .val (.int (-1 : Int32))] []))
  refine own_go (fun _ k => XS.aloadN X482.here hx rfl (hb hby d_prog_46_method_7_145) rfl rfl k) ?_
  show OwnGo p e below _ (T482.setTop (mkF m 146 #[.val (.ref a1), .val (.int p2), .val (.int (-1 : Int32))] [(.ref a1)]))
  obtain ⟨T483, X483, e483, st483⟩ := getF X482 hx hZ hown (host := "") (Or.inl (hw _ (List.mem_of_getElem? (i := 17) rfl))) Via.refl e482 F479 (g := (mkF m 146 #[.val (.ref a1), .val (.int p2), .val (.int (-1 : Int32))] [(.ref a1)])) rfl rfl (hb hby d_prog_46_method_7_146)
  refine own_go st483 ?_
  show OwnGo p e below _ (T483.setTop (mkF m 149 #[.val (.ref a1), .val (.int p2), .val (.int (-1 : Int32))] [(.int (2 : Int32))]))
  refine own_go (fun _ k => XS.bipush X483.here hx rfl (hb hby d_prog_46_method_7_149) k) ?_
  show OwnGo p e below _ (T483.setTop (mkF m 151 #[.val (.ref a1), .val (.int p2), .val (.int (-1 : Int32))] [(.int (8 : Int32)), (.int (2 : Int32))]))
  refine own_go (fun _ k => XS.icmpYes X483.here hx rfl (pc0 := 151) (pc' := 160) rfl (hb hby d_prog_46_method_7_151) rfl (by decide) (by decide) (by decide) k) ?_
  show OwnGo p e below _ (T483.setTop (mkF m 160 #[.val (.ref a1), .val (.int p2), .val (.int (-1 : Int32))] []))
  obtain ⟨fs, hr, hrun, hended, hW, hsame⟩ := X483.leave (v := none) (fun h => rfl)
  refine ⟨_, _, X483.returnOut hx Bd.returns (hb hby d_prog_46_method_7_160) hr, hrun, hended, _, _, rfl, ?_, ⟨_, rfl⟩, hW, hsame.mono (by decide) (by decide)⟩
  show Q_addG Z aNONE a1 p2 b1 f1 h0 n0 _ T483.heap _
  rw [e483]
  have F484 := ((F468.other W474 (Or.inl ne464)).other W479 (Or.inr (slot_ne (a0 := a0) (C := "com/example/reweave/reweave/control/Keys") (Or.inl (hw _ (List.mem_of_getElem? (i := 28) rfl))) (Or.inl (hw _ (List.mem_of_getElem? (i := 18) rfl))) (by decide) (t := (.array .int)) (t' := .int) (by decide) (by decide))))
  have F485 := (V474.other W479 (Ne.symm ne464))
  exact ⟨r9_462, rfl, N479, (((((Keep.refl _ [a1]).trans K462 all0).wr W468 (Or.inl (List.mem_of_getElem? (i := 0) rfl))).wr W474 (Or.inr ghx462_1)).wr W479 (Or.inl (List.mem_of_getElem? (i := 0) rfl))), F484, F479, F481, (own_ia2 F485), ghx462_1⟩
def Q_addL0 (Z : State) (aNONE : Addr) (a1 : Addr) (p2 : Int32) (b1 : Addr) (z1 : Int32) (f1 : Nat → Int32) (h0 : Heap) (n0 : Nat) (v : Option Value) (h : Heap) (L : List Loc) : Prop := v = none ∧ Fr n0 L ∧ Keep h0 h [a1, b1] ∧ Fld Z h a1 "com/example/reweave/reweave/control/Keys" "numbers" "[I" (.ref b1) ∧ Fld Z h a1 "com/example/reweave/reweave/control/Keys" "size" "I" (.int (1 : Int32)) ∧ IA Z h b1 (z1).toNatClampNeg (own_upd f1 ((0 : Int32)).toNatClampNeg p2) ∧ Fld Z h a1 "com/example/reweave/reweave/control/Keys" "slots" "[I" .null
theorem ef_addL0 (m : MethodId) (x0 : Addr) (x1 : Int32) : entryFrame m #[(.ref x0), (.int x1)] 3 = mkF m 0 #[.val (.ref x0), .val (.int x1), .unset] [] := by first | (simp [entryFrame, mkF, argsToLocals, Value.category]; done) | rfl
set_option maxRecDepth 65536 in
set_option maxHeartbeats 40000000 in
theorem rm_addL0 (l : Launch) (Z : State) (a0 : Array Value) (hw : ∀ d ∈ tables_1, d.before a0 Z = true) (ws : List Jvm.Cond) (aNONE : Addr) (F0 : OwnFacts Z aNONE) (a1 : Addr) (p2 : Int32) (b1 : Addr) (z1 : Int32) (f1 : Nat → Int32) (h0 : Heap) (n0 : Nat) (O0 : Old Z n0 h0) (PE1 : Exa Z h0 a1 "com/example/reweave/reweave/control/Keys") (PF1 : Fld Z h0 a1 "com/example/reweave/reweave/control/Keys" "numbers" "[I" (.ref b1)) (PF2 : Fld Z h0 a1 "com/example/reweave/reweave/control/Keys" "size" "I" (.int (0 : Int32))) (PV1 : IA Z h0 b1 (z1).toNatClampNeg f1) (ge1 : n0 ≤ a1) (ge2 : n0 ≤ b1) (nab : a1 ≠ b1) (hz1 : 0 ≤ z1.toInt) (hs0 : 0 ≤ ((0 : Int32)).toInt) (hsz : ((0 : Int32)).toInt ≤ z1.toInt) (hzz : z1.toInt < 1000) (PF3 : Fld Z h0 a1 "com/example/reweave/reweave/control/Keys" "slots" "[I" .null) (hfd : own_find f1 p2 ((0 : Int32)).toNatClampNeg (0 : Int32) = (0 : Int32)) (hlt : ((0 : Int32)).toInt < z1.toInt) :
    MetFree l (⟨"com/example/reweave/reweave/control/Keys", "add", "(I)V"⟩ : MethodName) (head1 (Jvm.Cond.code (⟨"com/example/reweave/reweave/control/Keys", "add", "(I)V"⟩ : MethodName) prog_46_method_7_code 3 none :: ws) ({ frames := 1, cells := 0, slots := 0, locals := 14 } : Room)) (fun a U => a = #[(.ref a1), (.int p2)] ∧ Z.Warmed39 U.vm ∧ U.heap = h0) (fun _ _ _ _ _ => True) (fun _ U o U' => ∃ v L, o = .returned v ∧ Q_addL0 Z aNONE a1 p2 b1 z1 f1 h0 n0 v U'.heap L ∧ FrameEnd U o U' L ({ frames := 1, cells := 0, slots := 0, locals := 14 } : Room).cells ({ frames := 1, cells := 0, slots := 0, locals := 14 } : Room).slots) := by
  refine MetFree.of_bodySF (plainFor_of_name pn_com_example_reweave_reweave_control_Keys) hisR ?_
  intro p e s m args below meth c s₁ Bd hml0 hP hK
  obtain ⟨rfl, hZ, hh⟩ := hP
  have hx := Bd.exec
  have hby := Bd.bytes
  have hml : c.maxLocals = 3 := hml0
  have hown : s.vm.findClass "com/example/reweave/reweave/control/Keys" = some m.cls := findClass_of_methodNamed Bd.named
  have hnm := (name_of_methodNamed Bd.named Bd.method).1
  have X0 : Stand p l e ({ frames := 1, cells := 0, slots := 0, locals := 14 } : Room) s m #[(.ref a1), (.int p2)] below meth c s₁ [] 0 0 := Stand.of_body Bd
  have e0 : s₁.heap = h0 := by rw [← hh, Bd.state]; rfl
  have N0 := Fr.nil n0
  refine own_go (Q := fun o U' => ∃ v L, o = .returned v ∧ Q_addL0 Z aNONE a1 p2 b1 z1 f1 h0 n0 v U'.heap L ∧ FrameEnd s o U' L ({ frames := 1, cells := 0, slots := 0, locals := 14 } : Room).cells ({ frames := 1, cells := 0, slots := 0, locals := 14 } : Room).slots) (fun t k => castTop (ef_addL0 m a1 p2) k) ?_
  show OwnGo p e below _ (s₁.setTop (mkF m 0 #[.val (.ref a1), .val (.int p2), .unset] []))
  refine own_go (fun _ k => XS.aloadN X0.here hx rfl (hb hby d_prog_46_method_7_0) rfl rfl k) ?_
  show OwnGo p e below _ (s₁.setTop (mkF m 1 #[.val (.ref a1), .val (.int p2), .unset] [(.ref a1)]))
  obtain ⟨T486, X486, e486, st486⟩ := getS X0 hx hZ hown (host := "") (hw _ (List.mem_of_getElem? (i := 6) rfl)) Via.refl e0 (F0.1.ext O0.2) (g := (mkF m 1 #[.val (.ref a1), .val (.int p2), .unset] [(.ref a1)])) rfl (hb hby d_prog_46_method_7_1)
  refine own_go st486 ?_
  show OwnGo p e below _ (T486.setTop (mkF m 4 #[.val (.ref a1), .val (.int p2), .unset] [(.ref aNONE), (.ref a1)]))
  refine own_go (fun _ k => acmp X486 hx rfl (cd := .ne) (o := 13) (x := (.ref a1)) (y := (.ref aNONE)) (pc0 := 4) (pc' := 17) rfl rfl rfl (hb hby d_prog_46_method_7_4) rfl (own_refne (Ne.symm (O0.ne F0.2.1.lt ge1))) (by decide) (by decide) k) ?_
  show OwnGo p e below _ (T486.setTop (mkF m 17 #[.val (.ref a1), .val (.int p2), .unset] []))
  refine own_go (fun _ k => XS.iconst X486.here hx rfl (hb hby d_prog_46_method_7_17) k) ?_
  show OwnGo p e below _ (T486.setTop (mkF m 18 #[.val (.ref a1), .val (.int p2), .unset] [(.int (-1 : Int32))]))
  refine own_go (fun _ k => XS.istoreN X486.here hx rfl (hb hby d_prog_46_method_7_18) rfl (l' := #[.val (.ref a1), .val (.int p2), .val (.int (-1 : Int32))]) rfl k) ?_
  show OwnGo p e below _ (T486.setTop (mkF m 19 #[.val (.ref a1), .val (.int p2), .val (.int (-1 : Int32))] []))
  refine own_go (fun _ k => XS.aloadN X486.here hx rfl (hb hby d_prog_46_method_7_19) rfl rfl k) ?_
  show OwnGo p e below _ (T486.setTop (mkF m 20 #[.val (.ref a1), .val (.int p2), .val (.int (-1 : Int32))] [(.ref a1)]))
  obtain ⟨T487, X487, e487, st487⟩ := getF X486 hx hZ hown (host := "") (Or.inl (hw _ (List.mem_of_getElem? (i := 34) rfl))) Via.refl e486 PF3 (g := (mkF m 20 #[.val (.ref a1), .val (.int p2), .val (.int (-1 : Int32))] [(.ref a1)])) rfl rfl (hb hby d_prog_46_method_7_20)
  refine own_go st487 ?_
  show OwnGo p e below _ (T487.setTop (mkF m 23 #[.val (.ref a1), .val (.int p2), .val (.int (-1 : Int32))] [.null]))
  refine own_go (fun _ k => XS.ifnullYes X487.here hx rfl (pc0 := 23) (pc' := 42) rfl (hb hby d_prog_46_method_7_23) rfl (by decide) (by decide) k) ?_
  show OwnGo p e below _ (T487.setTop (mkF m 42 #[.val (.ref a1), .val (.int p2), .val (.int (-1 : Int32))] []))
  refine own_go (fun _ k => XS.aloadN X487.here hx rfl (hb hby d_prog_46_method_7_42) rfl rfl k) ?_
  show OwnGo p e below _ (T487.setTop (mkF m 43 #[.val (.ref a1), .val (.int p2), .val (.int (-1 : Int32))] [(.ref a1)]))
  refine own_go (fun _ k => XS.iloadN X487.here hx rfl (hb hby d_prog_46_method_7_43) rfl k) ?_
  show OwnGo p e below _ (T487.setTop (mkF m 44 #[.val (.ref a1), .val (.int p2), .val (.int (-1 : Int32))] [(.int p2), (.ref a1)]))
  obtain ⟨cq488, kq488, qa488, qb488, qc488⟩ := isOf hZ e487 PE1
  obtain ⟨_, _, ⟨T488, L488, k488, n488⟩, -, X488, ⟨Lc488, hQ488, l488, y488, z488⟩, st488⟩ := X487.virtualBack hx (y := (⟨"com/example/reweave/reweave/control/Keys", "contains", "(I)Z"⟩ : MethodName)) (z := (⟨"com/example/reweave/reweave/control/Keys", "contains", "(I)Z"⟩ : MethodName)) hown (mvT hZ (hw _ (List.mem_of_getElem? (i := 36) rfl))) (mvT hZ (hw _ (List.mem_of_getElem? (i := 37) rfl))) (notFace_of_selects (args := #[]) (mvT hZ (hw _ (List.mem_of_getElem? (i := 39) rfl)))) (mvT hZ (hw _ (List.mem_of_getElem? (i := 39) rfl))) (mvT hZ (hw _ (List.mem_of_getElem? (i := 38) rfl))) (by decide) (backOf (W := 0) (rm_con l Z a0 hw [] aNONE F0 a1 p2 b1 z1 f1 (0 : Int32) (0 : Int32) h0 n0 O0 PF1 PF3 PF2 PV1 hz1 hs0 hsz hzz hfd) hZ (hw _ (List.mem_of_getElem? (i := 40) rfl)) (hw _ (List.mem_of_getElem? (i := 4) rfl)) (by decide) (by decide)) qa488 qc488 (g := (mkF m 44 #[.val (.ref a1), .val (.int p2), .val (.int (-1 : Int32))] [(.int p2), (.ref a1)])) rfl (by rw [hml]; rfl) (Steps.refl _) (argsL := [(.int p2)]) (rest := []) (lenOf pd_I__Z rfl) rfl (by show 2 * 0 + _ ≤ _; exact Nat.le_of_eq rfl) (hb hby d_prog_46_method_7_44) (fun _ _ => ⟨rfl, e487, (by decide : 0 + 0 ≤ _), (by decide : 0 + 0 ≤ _)⟩)
  dsimp only [Pt.U, Pt.locs, Pt.cells, Pt.slots] at X488 l488 y488 z488 st488 hQ488
  subst l488 y488 z488
  obtain ⟨rfl, Nq488, K488⟩ := hQ488
  have N488 := Fr.app N0 Nq488
  refine own_go (fun _ k => st488.trans k) ?_
  show OwnGo p e below _ (T488.setTop (mkF m 47 #[.val (.ref a1), .val (.int p2), .val (.int (-1 : Int32))] [(.int (0 : Int32))]))
  refine own_go (fun _ k => XS.ifYes X488.here hx rfl (pc0 := 47) (pc' := 51) rfl (hb hby d_prog_46_method_7_47) rfl (by decide) (by decide) (by decide) k) ?_
  show OwnGo p e below _ (T488.setTop (mkF m 51 #[.val (.ref a1), .val (.int p2), .val (.int (-1 : Int32))] []))
  refine own_go (fun _ k => XS.aloadN X488.here hx rfl (hb hby d_prog_46_method_7_51) rfl rfl k) ?_
  show OwnGo p e below _ (T488.setTop (mkF m 52 #[.val (.ref a1), .val (.int p2), .val (.int (-1 : Int32))] [(.ref a1)]))
  obtain ⟨T489, X489, e489, st489⟩ := getF X488 hx hZ hown (host := "") (Or.inl (hw _ (List.mem_of_getElem? (i := 17) rfl))) Via.refl K488 PF2 (g := (mkF m 52 #[.val (.ref a1), .val (.int p2), .val (.int (-1 : Int32))] [(.ref a1)])) rfl rfl (hb hby d_prog_46_method_7_52)
  refine own_go st489 ?_
  show OwnGo p e below _ (T489.setTop (mkF m 55 #[.val (.ref a1), .val (.int p2), .val (.int (-1 : Int32))] [(.int (0 : Int32))]))
  refine own_go (fun _ k => XS.aloadN X489.here hx rfl (hb hby d_prog_46_method_7_55) rfl rfl k) ?_
  show OwnGo p e below _ (T489.setTop (mkF m 56 #[.val (.ref a1), .val (.int p2), .val (.int (-1 : Int32))] [(.ref a1), (.int (0 : Int32))]))
  obtain ⟨T490, X490, e490, st490⟩ := getF X489 hx hZ hown (host := "") (Or.inl (hw _ (List.mem_of_getElem? (i := 27) rfl))) Via.refl e489 PF1 (g := (mkF m 56 #[.val (.ref a1), .val (.int p2), .val (.int (-1 : Int32))] [(.ref a1), (.int (0 : Int32))])) rfl rfl (hb hby d_prog_46_method_7_56)
  refine own_go st490 ?_
  show OwnGo p e below _ (T490.setTop (mkF m 59 #[.val (.ref a1), .val (.int p2), .val (.int (-1 : Int32))] [(.ref b1), (.int (0 : Int32))]))
  obtain ⟨c491, Ar491, S491, M491, H491⟩ := (id PV1)
  refine own_go (fun _ k => X490.arraylength hx (cell := c491) (by rw [e490]; exact Ar491.1) (State.isArrayOf_alike hZ.alike Ar491.2.1) (g := (mkF m 59 #[.val (.ref a1), .val (.int p2), .val (.int (-1 : Int32))] [(.ref b1), (.int (0 : Int32))])) rfl (rest := [(.int (0 : Int32))]) rfl (hb hby d_prog_46_method_7_59) _ k) ?_
  rw [len_of S491 (own_nn hz1)]
  show OwnGo p e below _ (T490.setTop (mkF m 60 #[.val (.ref a1), .val (.int p2), .val (.int (-1 : Int32))] [(.int z1), (.int (0 : Int32))]))
  refine own_go (fun _ k => XS.icmpYes X490.here hx rfl (pc0 := 60) (pc' := 80) rfl (hb hby d_prog_46_method_7_60) rfl (feq (own_neI (by omega))).2 (by decide) (by decide) k) ?_
  show OwnGo p e below _ (T490.setTop (mkF m 80 #[.val (.ref a1), .val (.int p2), .val (.int (-1 : Int32))] []))
  refine own_go (fun _ k => XS.aloadN X490.here hx rfl (hb hby d_prog_46_method_7_80) rfl rfl k) ?_
  show OwnGo p e below _ (T490.setTop (mkF m 81 #[.val (.ref a1), .val (.int p2), .val (.int (-1 : Int32))] [(.ref a1)]))
  obtain ⟨T492, X492, e492, st492⟩ := getF X490 hx hZ hown (host := "") (Or.inl (hw _ (List.mem_of_getElem? (i := 27) rfl))) Via.refl e490 PF1 (g := (mkF m 81 #[.val (.ref a1), .val (.int p2), .val (.int (-1 : Int32))] [(.ref a1)])) rfl rfl (hb hby d_prog_46_method_7_81)
  refine own_go st492 ?_
  show OwnGo p e below _ (T492.setTop (mkF m 84 #[.val (.ref a1), .val (.int p2), .val (.int (-1 : Int32))] [(.ref b1)]))
  refine own_go (fun _ k => XS.aloadN X492.here hx rfl (hb hby d_prog_46_method_7_84) rfl rfl k) ?_
  show OwnGo p e below _ (T492.setTop (mkF m 85 #[.val (.ref a1), .val (.int p2), .val (.int (-1 : Int32))] [(.ref a1), (.ref b1)]))
  obtain ⟨T493, X493, e493, st493⟩ := getF X492 hx hZ hown (host := "") (Or.inl (hw _ (List.mem_of_getElem? (i := 17) rfl))) Via.refl e492 PF2 (g := (mkF m 85 #[.val (.ref a1), .val (.int p2), .val (.int (-1 : Int32))] [(.ref a1), (.ref b1)])) rfl rfl (hb hby d_prog_46_method_7_85)
  refine own_go st493 ?_
  show OwnGo p e below _ (T493.setTop (mkF m 88 #[.val (.ref a1), .val (.int p2), .val (.int (-1 : Int32))] [(.int (0 : Int32)), (.ref b1)]))
  refine own_go (fun _ k => XS.iloadN X493.here hx rfl (hb hby d_prog_46_method_7_88) rfl k) ?_
  show OwnGo p e below _ (T493.setTop (mkF m 89 #[.val (.ref a1), .val (.int p2), .val (.int (-1 : Int32))] [(.int p2), (.int (0 : Int32)), (.ref b1)]))
  obtain ⟨c494, Ar494, S494, M494, H494⟩ := (id PV1)
  have b494 : 0 ≤ ((0 : Int32)).toInt ∧ ((0 : Int32)).toInt < (z1).toInt := ⟨hs0, hlt⟩
  obtain ⟨T494, h494, X494, e494, W494, st494⟩ := stI X493 hx hZ e493 Ar494 (j := (0 : Int32)) (own_inbz S494 hz1 b494.1 b494.2) (g := (mkF m 89 #[.val (.ref a1), .val (.int p2), .val (.int (-1 : Int32))] [(.int p2), (.int (0 : Int32)), (.ref b1)])) rfl rfl (hb hby d_prog_46_method_7_89)
  have N494 := Fr.snoc X494 N488 ge2
  have O494 := O0.wr W494 ge2
  have z495 : h0.size ≤ h494.size := Nat.le_trans (Nat.le_refl _) (Nat.le_of_eq W494.size.symm)
  have V494 : IA Z h494 b1 (z1).toNatClampNeg (own_upd f1 ((0 : Int32)).toNatClampNeg p2) := IA.set Ar494 S494 M494 H494 W494
  refine own_go st494 ?_
  show OwnGo p e below _ (T494.setTop (mkF m 90 #[.val (.ref a1), .val (.int p2), .val (.int (-1 : Int32))] []))
  refine own_go (fun _ k => XS.aloadN X494.here hx rfl (hb hby d_prog_46_method_7_90) rfl rfl k) ?_
  show OwnGo p e below _ (T494.setTop (mkF m 91 #[.val (.ref a1), .val (.int p2), .val (.int (-1 : Int32))] [(.ref a1)]))
  refine own_go (fun _ k => XS.dup X494.here hx rfl (hb hby d_prog_46_method_7_91) rfl rfl k) ?_
  show OwnGo p e below _ (T494.setTop (mkF m 92 #[.val (.ref a1), .val (.int p2), .val (.int (-1 : Int32))] [(.ref a1), (.ref a1)]))
  have F496 := (PF2.other W494 (Or.inl nab))
  obtain ⟨T497, X497, e497, st497⟩ := getF X494 hx hZ hown (host := "") (Or.inl (hw _ (List.mem_of_getElem? (i := 17) rfl))) Via.refl e494 F496 (g := (mkF m 92 #[.val (.ref a1), .val (.int p2), .val (.int (-1 : Int32))] [(.ref a1), (.ref a1)])) rfl rfl (hb hby d_prog_46_method_7_92)
  refine own_go st497 ?_
  show OwnGo p e below _ (T497.setTop (mkF m 95 #[.val (.ref a1), .val (.int p2), .val (.int (-1 : Int32))] [(.int (0 : Int32)), (.ref a1)]))
  refine own_go (fun _ k => XS.iconst X497.here hx rfl (hb hby d_prog_46_method_7_95) k) ?_
  show OwnGo p e below _ (T497.setTop (mkF m 96 #[.val (.ref a1), .val (.int p2), .val (.int (-1 : Int32))] [(.int (1 : Int32)), (.int (0 : Int32)), (.ref a1)]))
  refine own_go (fun _ k => XS.iadd X497.here hx rfl (hb hby d_prog_46_method_7_96) rfl k) ?_
  show OwnGo p e below _ (T497.setTop (mkF m 97 #[.val (.ref a1), .val (.int p2), .val (.int (-1 : Int32))] [(.int ((0 : Int32) + (1 : Int32))), (.ref a1)]))
  rw [show ((0 : Int32) + (1 : Int32)) = (1 : Int32) from by decide]
  show OwnGo p e below _ (T497.setTop (mkF m 97 #[.val (.ref a1), .val (.int p2), .val (.int (-1 : Int32))] [(.int (1 : Int32)), (.ref a1)]))
  have F498 := (PE1.wr W494)
  obtain ⟨T499, h499, X499, e499, W499, st499⟩ := putF X497 hx hZ hown (host := "") (Or.inl (hw _ (List.mem_of_getElem? (i := 17) rfl))) Via.refl e497 F496 F498 (Or.inl (hw _ (List.mem_of_getElem? (i := 18) rfl))) (hw _ (List.mem_of_getElem? (i := 20) rfl)) (ty := .int) (by decide) rfl rfl (g := (mkF m 97 #[.val (.ref a1), .val (.int p2), .val (.int (-1 : Int32))] [(.int (1 : Int32)), (.ref a1)])) rfl rfl (hb hby d_prog_46_method_7_97)
  have N499 := Fr.snoc X499 N494 ge1
  have O499 := O494.wr W499 ge1
  have z500 : h0.size ≤ h499.size := Nat.le_trans z495 (Nat.le_of_eq W499.size.symm)
  have F499 : Fld Z h499 a1 "com/example/reweave/reweave/control/Keys" "size" "I" (.int (1 : Int32)) := F496.same W499
  refine own_go st499 ?_
  show OwnGo p e below _ (T499.setTop (mkF m 100 #[.val (.ref a1), .val (.int p2), .val (.int (-1 : Int32))] []))
  refine own_go (fun _ k => XS.aloadN X499.here hx rfl (hb hby d_prog_46_method_7_100) rfl rfl k) ?_
  show OwnGo p e below _ (T499.setTop (mkF m 101 #[.val (.ref a1), .val (.int p2), .val (.int (-1 : Int32))] [(.ref a1)]))
  have F501 := ((PF3.other W494 (Or.inl nab)).other W499 (Or.inr (slot_ne (a0 := a0) (C := "com/example/reweave/reweave/control/Keys") (Or.inl (hw _ (List.mem_of_getElem? (i := 35) rfl))) (Or.inl (hw _ (List.mem_of_getElem? (i := 18) rfl))) (by decide) (t := (.array .int)) (t' := .int) (by decide) (by decide))))
  obtain ⟨T502, X502, e502, st502⟩ := getF X499 hx hZ hown (host := "") (Or.inl (hw _ (List.mem_of_getElem? (i := 34) rfl))) Via.refl e499 F501 (g := (mkF m 101 #[.val (.ref a1), .val (.int p2), .val (.int (-1 : Int32))] [(.ref a1)])) rfl rfl (hb hby d_prog_46_method_7_101)
  refine own_go st502 ?_
  show OwnGo p e below _ (T502.setTop (mkF m 104 #[.val (.ref a1), .val (.int p2), .val (.int (-1 : Int32))] [.null]))
  refine own_go (fun _ k => XS.ifnullYes X502.here hx rfl (pc0 := 104) (pc' := 145) rfl (hb hby d_prog_46_method_7_104) rfl (by decide) (by decide) k) ?_
  show OwnGo p e below _ (T502.setTop (mkF m 145 #[.val (.ref a1), .val (.int p2), .val (.int (-1 : Int32))] []))
  refine own_go (fun _ k => XS.aloadN X502.here hx rfl (hb hby d_prog_46_method_7_145) rfl rfl k) ?_
  show OwnGo p e below _ (T502.setTop (mkF m 146 #[.val (.ref a1), .val (.int p2), .val (.int (-1 : Int32))] [(.ref a1)]))
  obtain ⟨T503, X503, e503, st503⟩ := getF X502 hx hZ hown (host := "") (Or.inl (hw _ (List.mem_of_getElem? (i := 17) rfl))) Via.refl e502 F499 (g := (mkF m 146 #[.val (.ref a1), .val (.int p2), .val (.int (-1 : Int32))] [(.ref a1)])) rfl rfl (hb hby d_prog_46_method_7_146)
  refine own_go st503 ?_
  show OwnGo p e below _ (T503.setTop (mkF m 149 #[.val (.ref a1), .val (.int p2), .val (.int (-1 : Int32))] [(.int (1 : Int32))]))
  refine own_go (fun _ k => XS.bipush X503.here hx rfl (hb hby d_prog_46_method_7_149) k) ?_
  show OwnGo p e below _ (T503.setTop (mkF m 151 #[.val (.ref a1), .val (.int p2), .val (.int (-1 : Int32))] [(.int (8 : Int32)), (.int (1 : Int32))]))
  refine own_go (fun _ k => XS.icmpYes X503.here hx rfl (pc0 := 151) (pc' := 160) rfl (hb hby d_prog_46_method_7_151) rfl (by decide) (by decide) (by decide) k) ?_
  show OwnGo p e below _ (T503.setTop (mkF m 160 #[.val (.ref a1), .val (.int p2), .val (.int (-1 : Int32))] []))
  obtain ⟨fs, hr, hrun, hended, hW, hsame⟩ := X503.leave (v := none) (fun h => rfl)
  refine ⟨_, _, X503.returnOut hx Bd.returns (hb hby d_prog_46_method_7_160) hr, hrun, hended, _, _, rfl, ?_, ⟨_, rfl⟩, hW, hsame.mono (by decide) (by decide)⟩
  show Q_addL0 Z aNONE a1 p2 b1 z1 f1 h0 n0 _ T503.heap _
  rw [e503]
  have F504 := ((PF1.other W494 (Or.inl nab)).other W499 (Or.inr (slot_ne (a0 := a0) (C := "com/example/reweave/reweave/control/Keys") (Or.inl (hw _ (List.mem_of_getElem? (i := 28) rfl))) (Or.inl (hw _ (List.mem_of_getElem? (i := 18) rfl))) (by decide) (t := (.array .int)) (t' := .int) (by decide) (by decide))))
  have F505 := (V494.other W499 (Ne.symm nab))
  exact ⟨rfl, N499, (((Keep.refl _ [a1, b1]).wr W494 (Or.inl (List.mem_of_getElem? (i := 1) rfl))).wr W499 (Or.inl (List.mem_of_getElem? (i := 0) rfl))), F504, F499, F505, F501⟩
def Q_addL1m (Z : State) (aNONE : Addr) (a1 : Addr) (p2 : Int32) (b1 : Addr) (z1 : Int32) (f1 : Nat → Int32) (h0 : Heap) (n0 : Nat) (v : Option Value) (h : Heap) (L : List Loc) : Prop := v = none ∧ Fr n0 L ∧ Keep h0 h [a1, b1] ∧ Fld Z h a1 "com/example/reweave/reweave/control/Keys" "numbers" "[I" (.ref b1) ∧ Fld Z h a1 "com/example/reweave/reweave/control/Keys" "size" "I" (.int (2 : Int32)) ∧ IA Z h b1 (z1).toNatClampNeg (own_upd f1 ((1 : Int32)).toNatClampNeg p2) ∧ Fld Z h a1 "com/example/reweave/reweave/control/Keys" "slots" "[I" .null
theorem ef_addL1m (m : MethodId) (x0 : Addr) (x1 : Int32) : entryFrame m #[(.ref x0), (.int x1)] 3 = mkF m 0 #[.val (.ref x0), .val (.int x1), .unset] [] := by first | (simp [entryFrame, mkF, argsToLocals, Value.category]; done) | rfl
set_option maxRecDepth 65536 in
set_option maxHeartbeats 40000000 in
theorem rm_addL1m (l : Launch) (Z : State) (a0 : Array Value) (hw : ∀ d ∈ tables_1, d.before a0 Z = true) (ws : List Jvm.Cond) (aNONE : Addr) (F0 : OwnFacts Z aNONE) (a1 : Addr) (p2 : Int32) (b1 : Addr) (z1 : Int32) (f1 : Nat → Int32) (h0 : Heap) (n0 : Nat) (O0 : Old Z n0 h0) (PE1 : Exa Z h0 a1 "com/example/reweave/reweave/control/Keys") (PF1 : Fld Z h0 a1 "com/example/reweave/reweave/control/Keys" "numbers" "[I" (.ref b1)) (PF2 : Fld Z h0 a1 "com/example/reweave/reweave/control/Keys" "size" "I" (.int (1 : Int32))) (PV1 : IA Z h0 b1 (z1).toNatClampNeg f1) (ge1 : n0 ≤ a1) (ge2 : n0 ≤ b1) (nab : a1 ≠ b1) (hz1 : 0 ≤ z1.toInt) (hs0 : 0 ≤ ((1 : Int32)).toInt) (hsz : ((1 : Int32)).toInt ≤ z1.toInt) (hzz : z1.toInt < 1000) (PF3 : Fld Z h0 a1 "com/example/reweave/reweave/control/Keys" "slots" "[I" .null) (hfd : own_find f1 p2 ((1 : Int32)).toNatClampNeg (0 : Int32) = (0 : Int32)) (hlt : ((1 : Int32)).toInt < z1.toInt) :
    MetFree l (⟨"com/example/reweave/reweave/control/Keys", "add", "(I)V"⟩ : MethodName) (head1 (Jvm.Cond.code (⟨"com/example/reweave/reweave/control/Keys", "add", "(I)V"⟩ : MethodName) prog_46_method_7_code 3 none :: ws) ({ frames := 1, cells := 0, slots := 0, locals := 14 } : Room)) (fun a U => a = #[(.ref a1), (.int p2)] ∧ Z.Warmed39 U.vm ∧ U.heap = h0) (fun _ _ _ _ _ => True) (fun _ U o U' => ∃ v L, o = .returned v ∧ Q_addL1m Z aNONE a1 p2 b1 z1 f1 h0 n0 v U'.heap L ∧ FrameEnd U o U' L ({ frames := 1, cells := 0, slots := 0, locals := 14 } : Room).cells ({ frames := 1, cells := 0, slots := 0, locals := 14 } : Room).slots) := by
  refine MetFree.of_bodySF (plainFor_of_name pn_com_example_reweave_reweave_control_Keys) hisR ?_
  intro p e s m args below meth c s₁ Bd hml0 hP hK
  obtain ⟨rfl, hZ, hh⟩ := hP
  have hx := Bd.exec
  have hby := Bd.bytes
  have hml : c.maxLocals = 3 := hml0
  have hown : s.vm.findClass "com/example/reweave/reweave/control/Keys" = some m.cls := findClass_of_methodNamed Bd.named
  have hnm := (name_of_methodNamed Bd.named Bd.method).1
  have X0 : Stand p l e ({ frames := 1, cells := 0, slots := 0, locals := 14 } : Room) s m #[(.ref a1), (.int p2)] below meth c s₁ [] 0 0 := Stand.of_body Bd
  have e0 : s₁.heap = h0 := by rw [← hh, Bd.state]; rfl
  have N0 := Fr.nil n0
  refine own_go (Q := fun o U' => ∃ v L, o = .returned v ∧ Q_addL1m Z aNONE a1 p2 b1 z1 f1 h0 n0 v U'.heap L ∧ FrameEnd s o U' L ({ frames := 1, cells := 0, slots := 0, locals := 14 } : Room).cells ({ frames := 1, cells := 0, slots := 0, locals := 14 } : Room).slots) (fun t k => castTop (ef_addL1m m a1 p2) k) ?_
  show OwnGo p e below _ (s₁.setTop (mkF m 0 #[.val (.ref a1), .val (.int p2), .unset] []))
  refine own_go (fun _ k => XS.aloadN X0.here hx rfl (hb hby d_prog_46_method_7_0) rfl rfl k) ?_
  show OwnGo p e below _ (s₁.setTop (mkF m 1 #[.val (.ref a1), .val (.int p2), .unset] [(.ref a1)]))
  obtain ⟨T506, X506, e506, st506⟩ := getS X0 hx hZ hown (host := "") (hw _ (List.mem_of_getElem? (i := 6) rfl)) Via.refl e0 (F0.1.ext O0.2) (g := (mkF m 1 #[.val (.ref a1), .val (.int p2), .unset] [(.ref a1)])) rfl (hb hby d_prog_46_method_7_1)
  refine own_go st506 ?_
  show OwnGo p e below _ (T506.setTop (mkF m 4 #[.val (.ref a1), .val (.int p2), .unset] [(.ref aNONE), (.ref a1)]))
  refine own_go (fun _ k => acmp X506 hx rfl (cd := .ne) (o := 13) (x := (.ref a1)) (y := (.ref aNONE)) (pc0 := 4) (pc' := 17) rfl rfl rfl (hb hby d_prog_46_method_7_4) rfl (own_refne (Ne.symm (O0.ne F0.2.1.lt ge1))) (by decide) (by decide) k) ?_
  show OwnGo p e below _ (T506.setTop (mkF m 17 #[.val (.ref a1), .val (.int p2), .unset] []))
  refine own_go (fun _ k => XS.iconst X506.here hx rfl (hb hby d_prog_46_method_7_17) k) ?_
  show OwnGo p e below _ (T506.setTop (mkF m 18 #[.val (.ref a1), .val (.int p2), .unset] [(.int (-1 : Int32))]))
  refine own_go (fun _ k => XS.istoreN X506.here hx rfl (hb hby d_prog_46_method_7_18) rfl (l' := #[.val (.ref a1), .val (.int p2), .val (.int (-1 : Int32))]) rfl k) ?_
  show OwnGo p e below _ (T506.setTop (mkF m 19 #[.val (.ref a1), .val (.int p2), .val (.int (-1 : Int32))] []))
  refine own_go (fun _ k => XS.aloadN X506.here hx rfl (hb hby d_prog_46_method_7_19) rfl rfl k) ?_
  show OwnGo p e below _ (T506.setTop (mkF m 20 #[.val (.ref a1), .val (.int p2), .val (.int (-1 : Int32))] [(.ref a1)]))
  obtain ⟨T507, X507, e507, st507⟩ := getF X506 hx hZ hown (host := "") (Or.inl (hw _ (List.mem_of_getElem? (i := 34) rfl))) Via.refl e506 PF3 (g := (mkF m 20 #[.val (.ref a1), .val (.int p2), .val (.int (-1 : Int32))] [(.ref a1)])) rfl rfl (hb hby d_prog_46_method_7_20)
  refine own_go st507 ?_
  show OwnGo p e below _ (T507.setTop (mkF m 23 #[.val (.ref a1), .val (.int p2), .val (.int (-1 : Int32))] [.null]))
  refine own_go (fun _ k => XS.ifnullYes X507.here hx rfl (pc0 := 23) (pc' := 42) rfl (hb hby d_prog_46_method_7_23) rfl (by decide) (by decide) k) ?_
  show OwnGo p e below _ (T507.setTop (mkF m 42 #[.val (.ref a1), .val (.int p2), .val (.int (-1 : Int32))] []))
  refine own_go (fun _ k => XS.aloadN X507.here hx rfl (hb hby d_prog_46_method_7_42) rfl rfl k) ?_
  show OwnGo p e below _ (T507.setTop (mkF m 43 #[.val (.ref a1), .val (.int p2), .val (.int (-1 : Int32))] [(.ref a1)]))
  refine own_go (fun _ k => XS.iloadN X507.here hx rfl (hb hby d_prog_46_method_7_43) rfl k) ?_
  show OwnGo p e below _ (T507.setTop (mkF m 44 #[.val (.ref a1), .val (.int p2), .val (.int (-1 : Int32))] [(.int p2), (.ref a1)]))
  obtain ⟨cq508, kq508, qa508, qb508, qc508⟩ := isOf hZ e507 PE1
  obtain ⟨_, _, ⟨T508, L508, k508, n508⟩, -, X508, ⟨Lc508, hQ508, l508, y508, z508⟩, st508⟩ := X507.virtualBack hx (y := (⟨"com/example/reweave/reweave/control/Keys", "contains", "(I)Z"⟩ : MethodName)) (z := (⟨"com/example/reweave/reweave/control/Keys", "contains", "(I)Z"⟩ : MethodName)) hown (mvT hZ (hw _ (List.mem_of_getElem? (i := 36) rfl))) (mvT hZ (hw _ (List.mem_of_getElem? (i := 37) rfl))) (notFace_of_selects (args := #[]) (mvT hZ (hw _ (List.mem_of_getElem? (i := 39) rfl)))) (mvT hZ (hw _ (List.mem_of_getElem? (i := 39) rfl))) (mvT hZ (hw _ (List.mem_of_getElem? (i := 38) rfl))) (by decide) (backOf (W := 0) (rm_con l Z a0 hw [] aNONE F0 a1 p2 b1 z1 f1 (1 : Int32) (0 : Int32) h0 n0 O0 PF1 PF3 PF2 PV1 hz1 hs0 hsz hzz hfd) hZ (hw _ (List.mem_of_getElem? (i := 40) rfl)) (hw _ (List.mem_of_getElem? (i := 4) rfl)) (by decide) (by decide)) qa508 qc508 (g := (mkF m 44 #[.val (.ref a1), .val (.int p2), .val (.int (-1 : Int32))] [(.int p2), (.ref a1)])) rfl (by rw [hml]; rfl) (Steps.refl _) (argsL := [(.int p2)]) (rest := []) (lenOf pd_I__Z rfl) rfl (by show 2 * 0 + _ ≤ _; exact Nat.le_of_eq rfl) (hb hby d_prog_46_method_7_44) (fun _ _ => ⟨rfl, e507, (by decide : 0 + 0 ≤ _), (by decide : 0 + 0 ≤ _)⟩)
  dsimp only [Pt.U, Pt.locs, Pt.cells, Pt.slots] at X508 l508 y508 z508 st508 hQ508
  subst l508 y508 z508
  obtain ⟨rfl, Nq508, K508⟩ := hQ508
  have N508 := Fr.app N0 Nq508
  refine own_go (fun _ k => st508.trans k) ?_
  show OwnGo p e below _ (T508.setTop (mkF m 47 #[.val (.ref a1), .val (.int p2), .val (.int (-1 : Int32))] [(.int (0 : Int32))]))
  refine own_go (fun _ k => XS.ifYes X508.here hx rfl (pc0 := 47) (pc' := 51) rfl (hb hby d_prog_46_method_7_47) rfl (by decide) (by decide) (by decide) k) ?_
  show OwnGo p e below _ (T508.setTop (mkF m 51 #[.val (.ref a1), .val (.int p2), .val (.int (-1 : Int32))] []))
  refine own_go (fun _ k => XS.aloadN X508.here hx rfl (hb hby d_prog_46_method_7_51) rfl rfl k) ?_
  show OwnGo p e below _ (T508.setTop (mkF m 52 #[.val (.ref a1), .val (.int p2), .val (.int (-1 : Int32))] [(.ref a1)]))
  obtain ⟨T509, X509, e509, st509⟩ := getF X508 hx hZ hown (host := "") (Or.inl (hw _ (List.mem_of_getElem? (i := 17) rfl))) Via.refl K508 PF2 (g := (mkF m 52 #[.val (.ref a1), .val (.int p2), .val (.int (-1 : Int32))] [(.ref a1)])) rfl rfl (hb hby d_prog_46_method_7_52)
  refine own_go st509 ?_
  show OwnGo p e below _ (T509.setTop (mkF m 55 #[.val (.ref a1), .val (.int p2), .val (.int (-1 : Int32))] [(.int (1 : Int32))]))
  refine own_go (fun _ k => XS.aloadN X509.here hx rfl (hb hby d_prog_46_method_7_55) rfl rfl k) ?_
  show OwnGo p e below _ (T509.setTop (mkF m 56 #[.val (.ref a1), .val (.int p2), .val (.int (-1 : Int32))] [(.ref a1), (.int (1 : Int32))]))
  obtain ⟨T510, X510, e510, st510⟩ := getF X509 hx hZ hown (host := "") (Or.inl (hw _ (List.mem_of_getElem? (i := 27) rfl))) Via.refl e509 PF1 (g := (mkF m 56 #[.val (.ref a1), .val (.int p2), .val (.int (-1 : Int32))] [(.ref a1), (.int (1 : Int32))])) rfl rfl (hb hby d_prog_46_method_7_56)
  refine own_go st510 ?_
  show OwnGo p e below _ (T510.setTop (mkF m 59 #[.val (.ref a1), .val (.int p2), .val (.int (-1 : Int32))] [(.ref b1), (.int (1 : Int32))]))
  obtain ⟨c511, Ar511, S511, M511, H511⟩ := (id PV1)
  refine own_go (fun _ k => X510.arraylength hx (cell := c511) (by rw [e510]; exact Ar511.1) (State.isArrayOf_alike hZ.alike Ar511.2.1) (g := (mkF m 59 #[.val (.ref a1), .val (.int p2), .val (.int (-1 : Int32))] [(.ref b1), (.int (1 : Int32))])) rfl (rest := [(.int (1 : Int32))]) rfl (hb hby d_prog_46_method_7_59) _ k) ?_
  rw [len_of S511 (own_nn hz1)]
  show OwnGo p e below _ (T510.setTop (mkF m 60 #[.val (.ref a1), .val (.int p2), .val (.int (-1 : Int32))] [(.int z1), (.int (1 : Int32))]))
  refine own_go (fun _ k => XS.icmpYes X510.here hx rfl (pc0 := 60) (pc' := 80) rfl (hb hby d_prog_46_method_7_60) rfl (feq (own_neI (by omega))).2 (by decide) (by decide) k) ?_
  show OwnGo p e below _ (T510.setTop (mkF m 80 #[.val (.ref a1), .val (.int p2), .val (.int (-1 : Int32))] []))
  refine own_go (fun _ k => XS.aloadN X510.here hx rfl (hb hby d_prog_46_method_7_80) rfl rfl k) ?_
  show OwnGo p e below _ (T510.setTop (mkF m 81 #[.val (.ref a1), .val (.int p2), .val (.int (-1 : Int32))] [(.ref a1)]))
  obtain ⟨T512, X512, e512, st512⟩ := getF X510 hx hZ hown (host := "") (Or.inl (hw _ (List.mem_of_getElem? (i := 27) rfl))) Via.refl e510 PF1 (g := (mkF m 81 #[.val (.ref a1), .val (.int p2), .val (.int (-1 : Int32))] [(.ref a1)])) rfl rfl (hb hby d_prog_46_method_7_81)
  refine own_go st512 ?_
  show OwnGo p e below _ (T512.setTop (mkF m 84 #[.val (.ref a1), .val (.int p2), .val (.int (-1 : Int32))] [(.ref b1)]))
  refine own_go (fun _ k => XS.aloadN X512.here hx rfl (hb hby d_prog_46_method_7_84) rfl rfl k) ?_
  show OwnGo p e below _ (T512.setTop (mkF m 85 #[.val (.ref a1), .val (.int p2), .val (.int (-1 : Int32))] [(.ref a1), (.ref b1)]))
  obtain ⟨T513, X513, e513, st513⟩ := getF X512 hx hZ hown (host := "") (Or.inl (hw _ (List.mem_of_getElem? (i := 17) rfl))) Via.refl e512 PF2 (g := (mkF m 85 #[.val (.ref a1), .val (.int p2), .val (.int (-1 : Int32))] [(.ref a1), (.ref b1)])) rfl rfl (hb hby d_prog_46_method_7_85)
  refine own_go st513 ?_
  show OwnGo p e below _ (T513.setTop (mkF m 88 #[.val (.ref a1), .val (.int p2), .val (.int (-1 : Int32))] [(.int (1 : Int32)), (.ref b1)]))
  refine own_go (fun _ k => XS.iloadN X513.here hx rfl (hb hby d_prog_46_method_7_88) rfl k) ?_
  show OwnGo p e below _ (T513.setTop (mkF m 89 #[.val (.ref a1), .val (.int p2), .val (.int (-1 : Int32))] [(.int p2), (.int (1 : Int32)), (.ref b1)]))
  obtain ⟨c514, Ar514, S514, M514, H514⟩ := (id PV1)
  have b514 : 0 ≤ ((1 : Int32)).toInt ∧ ((1 : Int32)).toInt < (z1).toInt := ⟨hs0, hlt⟩
  obtain ⟨T514, h514, X514, e514, W514, st514⟩ := stI X513 hx hZ e513 Ar514 (j := (1 : Int32)) (own_inbz S514 hz1 b514.1 b514.2) (g := (mkF m 89 #[.val (.ref a1), .val (.int p2), .val (.int (-1 : Int32))] [(.int p2), (.int (1 : Int32)), (.ref b1)])) rfl rfl (hb hby d_prog_46_method_7_89)
  have N514 := Fr.snoc X514 N508 ge2
  have O514 := O0.wr W514 ge2
  have z515 : h0.size ≤ h514.size := Nat.le_trans (Nat.le_refl _) (Nat.le_of_eq W514.size.symm)
  have V514 : IA Z h514 b1 (z1).toNatClampNeg (own_upd f1 ((1 : Int32)).toNatClampNeg p2) := IA.set Ar514 S514 M514 H514 W514
  refine own_go st514 ?_
  show OwnGo p e below _ (T514.setTop (mkF m 90 #[.val (.ref a1), .val (.int p2), .val (.int (-1 : Int32))] []))
  refine own_go (fun _ k => XS.aloadN X514.here hx rfl (hb hby d_prog_46_method_7_90) rfl rfl k) ?_
  show OwnGo p e below _ (T514.setTop (mkF m 91 #[.val (.ref a1), .val (.int p2), .val (.int (-1 : Int32))] [(.ref a1)]))
  refine own_go (fun _ k => XS.dup X514.here hx rfl (hb hby d_prog_46_method_7_91) rfl rfl k) ?_
  show OwnGo p e below _ (T514.setTop (mkF m 92 #[.val (.ref a1), .val (.int p2), .val (.int (-1 : Int32))] [(.ref a1), (.ref a1)]))
  have F516 := (PF2.other W514 (Or.inl nab))
  obtain ⟨T517, X517, e517, st517⟩ := getF X514 hx hZ hown (host := "") (Or.inl (hw _ (List.mem_of_getElem? (i := 17) rfl))) Via.refl e514 F516 (g := (mkF m 92 #[.val (.ref a1), .val (.int p2), .val (.int (-1 : Int32))] [(.ref a1), (.ref a1)])) rfl rfl (hb hby d_prog_46_method_7_92)
  refine own_go st517 ?_
  show OwnGo p e below _ (T517.setTop (mkF m 95 #[.val (.ref a1), .val (.int p2), .val (.int (-1 : Int32))] [(.int (1 : Int32)), (.ref a1)]))
  refine own_go (fun _ k => XS.iconst X517.here hx rfl (hb hby d_prog_46_method_7_95) k) ?_
  show OwnGo p e below _ (T517.setTop (mkF m 96 #[.val (.ref a1), .val (.int p2), .val (.int (-1 : Int32))] [(.int (1 : Int32)), (.int (1 : Int32)), (.ref a1)]))
  refine own_go (fun _ k => XS.iadd X517.here hx rfl (hb hby d_prog_46_method_7_96) rfl k) ?_
  show OwnGo p e below _ (T517.setTop (mkF m 97 #[.val (.ref a1), .val (.int p2), .val (.int (-1 : Int32))] [(.int ((1 : Int32) + (1 : Int32))), (.ref a1)]))
  rw [show ((1 : Int32) + (1 : Int32)) = (2 : Int32) from by decide]
  show OwnGo p e below _ (T517.setTop (mkF m 97 #[.val (.ref a1), .val (.int p2), .val (.int (-1 : Int32))] [(.int (2 : Int32)), (.ref a1)]))
  have F518 := (PE1.wr W514)
  obtain ⟨T519, h519, X519, e519, W519, st519⟩ := putF X517 hx hZ hown (host := "") (Or.inl (hw _ (List.mem_of_getElem? (i := 17) rfl))) Via.refl e517 F516 F518 (Or.inl (hw _ (List.mem_of_getElem? (i := 18) rfl))) (hw _ (List.mem_of_getElem? (i := 20) rfl)) (ty := .int) (by decide) rfl rfl (g := (mkF m 97 #[.val (.ref a1), .val (.int p2), .val (.int (-1 : Int32))] [(.int (2 : Int32)), (.ref a1)])) rfl rfl (hb hby d_prog_46_method_7_97)
  have N519 := Fr.snoc X519 N514 ge1
  have O519 := O514.wr W519 ge1
  have z520 : h0.size ≤ h519.size := Nat.le_trans z515 (Nat.le_of_eq W519.size.symm)
  have F519 : Fld Z h519 a1 "com/example/reweave/reweave/control/Keys" "size" "I" (.int (2 : Int32)) := F516.same W519
  refine own_go st519 ?_
  show OwnGo p e below _ (T519.setTop (mkF m 100 #[.val (.ref a1), .val (.int p2), .val (.int (-1 : Int32))] []))
  refine own_go (fun _ k => XS.aloadN X519.here hx rfl (hb hby d_prog_46_method_7_100) rfl rfl k) ?_
  show OwnGo p e below _ (T519.setTop (mkF m 101 #[.val (.ref a1), .val (.int p2), .val (.int (-1 : Int32))] [(.ref a1)]))
  have F521 := ((PF3.other W514 (Or.inl nab)).other W519 (Or.inr (slot_ne (a0 := a0) (C := "com/example/reweave/reweave/control/Keys") (Or.inl (hw _ (List.mem_of_getElem? (i := 35) rfl))) (Or.inl (hw _ (List.mem_of_getElem? (i := 18) rfl))) (by decide) (t := (.array .int)) (t' := .int) (by decide) (by decide))))
  obtain ⟨T522, X522, e522, st522⟩ := getF X519 hx hZ hown (host := "") (Or.inl (hw _ (List.mem_of_getElem? (i := 34) rfl))) Via.refl e519 F521 (g := (mkF m 101 #[.val (.ref a1), .val (.int p2), .val (.int (-1 : Int32))] [(.ref a1)])) rfl rfl (hb hby d_prog_46_method_7_101)
  refine own_go st522 ?_
  show OwnGo p e below _ (T522.setTop (mkF m 104 #[.val (.ref a1), .val (.int p2), .val (.int (-1 : Int32))] [.null]))
  refine own_go (fun _ k => XS.ifnullYes X522.here hx rfl (pc0 := 104) (pc' := 145) rfl (hb hby d_prog_46_method_7_104) rfl (by decide) (by decide) k) ?_
  show OwnGo p e below _ (T522.setTop (mkF m 145 #[.val (.ref a1), .val (.int p2), .val (.int (-1 : Int32))] []))
  refine own_go (fun _ k => XS.aloadN X522.here hx rfl (hb hby d_prog_46_method_7_145) rfl rfl k) ?_
  show OwnGo p e below _ (T522.setTop (mkF m 146 #[.val (.ref a1), .val (.int p2), .val (.int (-1 : Int32))] [(.ref a1)]))
  obtain ⟨T523, X523, e523, st523⟩ := getF X522 hx hZ hown (host := "") (Or.inl (hw _ (List.mem_of_getElem? (i := 17) rfl))) Via.refl e522 F519 (g := (mkF m 146 #[.val (.ref a1), .val (.int p2), .val (.int (-1 : Int32))] [(.ref a1)])) rfl rfl (hb hby d_prog_46_method_7_146)
  refine own_go st523 ?_
  show OwnGo p e below _ (T523.setTop (mkF m 149 #[.val (.ref a1), .val (.int p2), .val (.int (-1 : Int32))] [(.int (2 : Int32))]))
  refine own_go (fun _ k => XS.bipush X523.here hx rfl (hb hby d_prog_46_method_7_149) k) ?_
  show OwnGo p e below _ (T523.setTop (mkF m 151 #[.val (.ref a1), .val (.int p2), .val (.int (-1 : Int32))] [(.int (8 : Int32)), (.int (2 : Int32))]))
  refine own_go (fun _ k => XS.icmpYes X523.here hx rfl (pc0 := 151) (pc' := 160) rfl (hb hby d_prog_46_method_7_151) rfl (by decide) (by decide) (by decide) k) ?_
  show OwnGo p e below _ (T523.setTop (mkF m 160 #[.val (.ref a1), .val (.int p2), .val (.int (-1 : Int32))] []))
  obtain ⟨fs, hr, hrun, hended, hW, hsame⟩ := X523.leave (v := none) (fun h => rfl)
  refine ⟨_, _, X523.returnOut hx Bd.returns (hb hby d_prog_46_method_7_160) hr, hrun, hended, _, _, rfl, ?_, ⟨_, rfl⟩, hW, hsame.mono (by decide) (by decide)⟩
  show Q_addL1m Z aNONE a1 p2 b1 z1 f1 h0 n0 _ T523.heap _
  rw [e523]
  have F524 := ((PF1.other W514 (Or.inl nab)).other W519 (Or.inr (slot_ne (a0 := a0) (C := "com/example/reweave/reweave/control/Keys") (Or.inl (hw _ (List.mem_of_getElem? (i := 28) rfl))) (Or.inl (hw _ (List.mem_of_getElem? (i := 18) rfl))) (by decide) (t := (.array .int)) (t' := .int) (by decide) (by decide))))
  have F525 := (V514.other W519 (Ne.symm nab))
  exact ⟨rfl, N519, (((Keep.refl _ [a1, b1]).wr W514 (Or.inl (List.mem_of_getElem? (i := 1) rfl))).wr W519 (Or.inl (List.mem_of_getElem? (i := 0) rfl))), F524, F519, F525, F521⟩
def Q_addL1h (Z : State) (aNONE : Addr) (a1 : Addr) (p2 : Int32) (b1 : Addr) (z1 : Int32) (f1 : Nat → Int32) (h0 : Heap) (n0 : Nat) (v : Option Value) (h : Heap) (L : List Loc) : Prop := v = none ∧ Fr n0 L ∧ h = h0
theorem ef_addL1h (m : MethodId) (x0 : Addr) (x1 : Int32) : entryFrame m #[(.ref x0), (.int x1)] 3 = mkF m 0 #[.val (.ref x0), .val (.int x1), .unset] [] := by first | (simp [entryFrame, mkF, argsToLocals, Value.category]; done) | rfl
set_option maxRecDepth 65536 in
set_option maxHeartbeats 40000000 in
theorem rm_addL1h (l : Launch) (Z : State) (a0 : Array Value) (hw : ∀ d ∈ tables_1, d.before a0 Z = true) (ws : List Jvm.Cond) (aNONE : Addr) (F0 : OwnFacts Z aNONE) (a1 : Addr) (p2 : Int32) (b1 : Addr) (z1 : Int32) (f1 : Nat → Int32) (h0 : Heap) (n0 : Nat) (O0 : Old Z n0 h0) (PE1 : Exa Z h0 a1 "com/example/reweave/reweave/control/Keys") (PF1 : Fld Z h0 a1 "com/example/reweave/reweave/control/Keys" "numbers" "[I" (.ref b1)) (PF2 : Fld Z h0 a1 "com/example/reweave/reweave/control/Keys" "size" "I" (.int (1 : Int32))) (PV1 : IA Z h0 b1 (z1).toNatClampNeg f1) (ge1 : n0 ≤ a1) (ge2 : n0 ≤ b1) (nab : a1 ≠ b1) (hz1 : 0 ≤ z1.toInt) (hs0 : 0 ≤ ((1 : Int32)).toInt) (hsz : ((1 : Int32)).toInt ≤ z1.toInt) (hzz : z1.toInt < 1000) (PF3 : Fld Z h0 a1 "com/example/reweave/reweave/control/Keys" "slots" "[I" .null) (hfd : own_find f1 p2 ((1 : Int32)).toNatClampNeg (0 : Int32) = (1 : Int32)) :
    MetFree l (⟨"com/example/reweave/reweave/control/Keys", "add", "(I)V"⟩ : MethodName) (head1 (Jvm.Cond.code (⟨"com/example/reweave/reweave/control/Keys", "add", "(I)V"⟩ : MethodName) prog_46_method_7_code 3 none :: ws) ({ frames := 1, cells := 0, slots := 0, locals := 14 } : Room)) (fun a U => a = #[(.ref a1), (.int p2)] ∧ Z.Warmed39 U.vm ∧ U.heap = h0) (fun _ _ _ _ _ => True) (fun _ U o U' => ∃ v L, o = .returned v ∧ Q_addL1h Z aNONE a1 p2 b1 z1 f1 h0 n0 v U'.heap L ∧ FrameEnd U o U' L ({ frames := 1, cells := 0, slots := 0, locals := 14 } : Room).cells ({ frames := 1, cells := 0, slots := 0, locals := 14 } : Room).slots) := by
  refine MetFree.of_bodySF (plainFor_of_name pn_com_example_reweave_reweave_control_Keys) hisR ?_
  intro p e s m args below meth c s₁ Bd hml0 hP hK
  obtain ⟨rfl, hZ, hh⟩ := hP
  have hx := Bd.exec
  have hby := Bd.bytes
  have hml : c.maxLocals = 3 := hml0
  have hown : s.vm.findClass "com/example/reweave/reweave/control/Keys" = some m.cls := findClass_of_methodNamed Bd.named
  have hnm := (name_of_methodNamed Bd.named Bd.method).1
  have X0 : Stand p l e ({ frames := 1, cells := 0, slots := 0, locals := 14 } : Room) s m #[(.ref a1), (.int p2)] below meth c s₁ [] 0 0 := Stand.of_body Bd
  have e0 : s₁.heap = h0 := by rw [← hh, Bd.state]; rfl
  have N0 := Fr.nil n0
  refine own_go (Q := fun o U' => ∃ v L, o = .returned v ∧ Q_addL1h Z aNONE a1 p2 b1 z1 f1 h0 n0 v U'.heap L ∧ FrameEnd s o U' L ({ frames := 1, cells := 0, slots := 0, locals := 14 } : Room).cells ({ frames := 1, cells := 0, slots := 0, locals := 14 } : Room).slots) (fun t k => castTop (ef_addL1h m a1 p2) k) ?_
  show OwnGo p e below _ (s₁.setTop (mkF m 0 #[.val (.ref a1), .val (.int p2), .unset] []))
  refine own_go (fun _ k => XS.aloadN X0.here hx rfl (hb hby d_prog_46_method_7_0) rfl rfl k) ?_
  show OwnGo p e below _ (s₁.setTop (mkF m 1 #[.val (.ref a1), .val (.int p2), .unset] [(.ref a1)]))
  obtain ⟨T526, X526, e526, st526⟩ := getS X0 hx hZ hown (host := "") (hw _ (List.mem_of_getElem? (i := 6) rfl)) Via.refl e0 (F0.1.ext O0.2) (g := (mkF m 1 #[.val (.ref a1), .val (.int p2), .unset] [(.ref a1)])) rfl (hb hby d_prog_46_method_7_1)
  refine own_go st526 ?_
  show OwnGo p e below _ (T526.setTop (mkF m 4 #[.val (.ref a1), .val (.int p2), .unset] [(.ref aNONE), (.ref a1)]))
  refine own_go (fun _ k => acmp X526 hx rfl (cd := .ne) (o := 13) (x := (.ref a1)) (y := (.ref aNONE)) (pc0 := 4) (pc' := 17) rfl rfl rfl (hb hby d_prog_46_method_7_4) rfl (own_refne (Ne.symm (O0.ne F0.2.1.lt ge1))) (by decide) (by decide) k) ?_
  show OwnGo p e below _ (T526.setTop (mkF m 17 #[.val (.ref a1), .val (.int p2), .unset] []))
  refine own_go (fun _ k => XS.iconst X526.here hx rfl (hb hby d_prog_46_method_7_17) k) ?_
  show OwnGo p e below _ (T526.setTop (mkF m 18 #[.val (.ref a1), .val (.int p2), .unset] [(.int (-1 : Int32))]))
  refine own_go (fun _ k => XS.istoreN X526.here hx rfl (hb hby d_prog_46_method_7_18) rfl (l' := #[.val (.ref a1), .val (.int p2), .val (.int (-1 : Int32))]) rfl k) ?_
  show OwnGo p e below _ (T526.setTop (mkF m 19 #[.val (.ref a1), .val (.int p2), .val (.int (-1 : Int32))] []))
  refine own_go (fun _ k => XS.aloadN X526.here hx rfl (hb hby d_prog_46_method_7_19) rfl rfl k) ?_
  show OwnGo p e below _ (T526.setTop (mkF m 20 #[.val (.ref a1), .val (.int p2), .val (.int (-1 : Int32))] [(.ref a1)]))
  obtain ⟨T527, X527, e527, st527⟩ := getF X526 hx hZ hown (host := "") (Or.inl (hw _ (List.mem_of_getElem? (i := 34) rfl))) Via.refl e526 PF3 (g := (mkF m 20 #[.val (.ref a1), .val (.int p2), .val (.int (-1 : Int32))] [(.ref a1)])) rfl rfl (hb hby d_prog_46_method_7_20)
  refine own_go st527 ?_
  show OwnGo p e below _ (T527.setTop (mkF m 23 #[.val (.ref a1), .val (.int p2), .val (.int (-1 : Int32))] [.null]))
  refine own_go (fun _ k => XS.ifnullYes X527.here hx rfl (pc0 := 23) (pc' := 42) rfl (hb hby d_prog_46_method_7_23) rfl (by decide) (by decide) k) ?_
  show OwnGo p e below _ (T527.setTop (mkF m 42 #[.val (.ref a1), .val (.int p2), .val (.int (-1 : Int32))] []))
  refine own_go (fun _ k => XS.aloadN X527.here hx rfl (hb hby d_prog_46_method_7_42) rfl rfl k) ?_
  show OwnGo p e below _ (T527.setTop (mkF m 43 #[.val (.ref a1), .val (.int p2), .val (.int (-1 : Int32))] [(.ref a1)]))
  refine own_go (fun _ k => XS.iloadN X527.here hx rfl (hb hby d_prog_46_method_7_43) rfl k) ?_
  show OwnGo p e below _ (T527.setTop (mkF m 44 #[.val (.ref a1), .val (.int p2), .val (.int (-1 : Int32))] [(.int p2), (.ref a1)]))
  obtain ⟨cq528, kq528, qa528, qb528, qc528⟩ := isOf hZ e527 PE1
  obtain ⟨_, _, ⟨T528, L528, k528, n528⟩, -, X528, ⟨Lc528, hQ528, l528, y528, z528⟩, st528⟩ := X527.virtualBack hx (y := (⟨"com/example/reweave/reweave/control/Keys", "contains", "(I)Z"⟩ : MethodName)) (z := (⟨"com/example/reweave/reweave/control/Keys", "contains", "(I)Z"⟩ : MethodName)) hown (mvT hZ (hw _ (List.mem_of_getElem? (i := 36) rfl))) (mvT hZ (hw _ (List.mem_of_getElem? (i := 37) rfl))) (notFace_of_selects (args := #[]) (mvT hZ (hw _ (List.mem_of_getElem? (i := 39) rfl)))) (mvT hZ (hw _ (List.mem_of_getElem? (i := 39) rfl))) (mvT hZ (hw _ (List.mem_of_getElem? (i := 38) rfl))) (by decide) (backOf (W := 0) (rm_con l Z a0 hw [] aNONE F0 a1 p2 b1 z1 f1 (1 : Int32) (1 : Int32) h0 n0 O0 PF1 PF3 PF2 PV1 hz1 hs0 hsz hzz hfd) hZ (hw _ (List.mem_of_getElem? (i := 40) rfl)) (hw _ (List.mem_of_getElem? (i := 4) rfl)) (by decide) (by decide)) qa528 qc528 (g := (mkF m 44 #[.val (.ref a1), .val (.int p2), .val (.int (-1 : Int32))] [(.int p2), (.ref a1)])) rfl (by rw [hml]; rfl) (Steps.refl _) (argsL := [(.int p2)]) (rest := []) (lenOf pd_I__Z rfl) rfl (by show 2 * 0 + _ ≤ _; exact Nat.le_of_eq rfl) (hb hby d_prog_46_method_7_44) (fun _ _ => ⟨rfl, e527, (by decide : 0 + 0 ≤ _), (by decide : 0 + 0 ≤ _)⟩)
  dsimp only [Pt.U, Pt.locs, Pt.cells, Pt.slots] at X528 l528 y528 z528 st528 hQ528
  subst l528 y528 z528
  obtain ⟨rfl, Nq528, K528⟩ := hQ528
  have N528 := Fr.app N0 Nq528
  refine own_go (fun _ k => st528.trans k) ?_
  show OwnGo p e below _ (T528.setTop (mkF m 47 #[.val (.ref a1), .val (.int p2), .val (.int (-1 : Int32))] [(.int (1 : Int32))]))
  refine own_go (fun _ k => XS.ifNo X528.here hx rfl (hb hby d_prog_46_method_7_47) rfl (by decide) k) ?_
  show OwnGo p e below _ (T528.setTop (mkF m 50 #[.val (.ref a1), .val (.int p2), .val (.int (-1 : Int32))] []))
  obtain ⟨fs, hr, hrun, hended, hW, hsame⟩ := X528.leave (v := none) (fun h => rfl)
  refine ⟨_, _, X528.returnOut hx Bd.returns (hb hby d_prog_46_method_7_50) hr, hrun, hended, _, _, rfl, ?_, ⟨_, rfl⟩, hW, hsame.mono (by decide) (by decide)⟩
  show Q_addL1h Z aNONE a1 p2 b1 z1 f1 h0 n0 _ T528.heap _
  rw [K528]
  exact ⟨rfl, N528, rfl⟩
theorem pd__I_I_I__Lcom_example_reweave_reweave_control_Keys_ : parseMethodDescriptor "([III)Lcom/example/reweave/reweave/control/Keys;" = some ⟨[(.array .int), .int, .int], some (.object "com/example/reweave/reweave/control/Keys")⟩ := by decide +kernel
theorem pd_Lcom_example_reweave_reweave_control_Keys___Lcom_example_reweave_reweave_control_Keys_ : parseMethodDescriptor "(Lcom/example/reweave/reweave/control/Keys;)Lcom/example/reweave/reweave/control/Keys;" = some ⟨[(.object "com/example/reweave/reweave/control/Keys")], some (.object "com/example/reweave/reweave/control/Keys")⟩ := by decide +kernel
theorem pd___I : parseMethodDescriptor "()I" = some ⟨[], some .int⟩ := by decide +kernel
theorem pn_com_example_reweave_reweave_control_KeysEmptiedPinLaw : plainName "com/example/reweave/reweave/control/KeysEmptiedPinLaw" = true := by first | (simp [plainName, overriddenIn]; done) | decide +kernel
def Q_law (Z : State) (aNONE : Addr) (p0 : Int32) (p1 : Int32) (p2 : Int32) (p3 : Int32) (h0 : Heap) (n0 : Nat) (v : Option Value) (h : Heap) (L : List Loc) : Prop := v = some (.int (1 : Int32)) ∧ Fr n0 L
theorem ef_law (m : MethodId) (x0 : Int32) (x1 : Int32) (x2 : Int32) (x3 : Int32) : entryFrame m #[(.int x0), (.int x1), (.int x2), (.int x3)] maxLocals = mkF m 0 #[.val (.int x0), .val (.int x1), .val (.int x2), .val (.int x3), .unset, .unset, .unset, .unset] [] := by first | (simp [entryFrame, mkF, argsToLocals, Value.category, maxLocals]; done) | rfl
set_option maxRecDepth 65536 in
set_option maxHeartbeats 40000000 in
theorem rm_law (l : Launch) (Z : State) (a0 : Array Value) (hw : ∀ d ∈ tables_1, d.before a0 Z = true) (ws : List Jvm.Cond) (aNONE : Addr) (F0 : OwnFacts Z aNONE) (p0 : Int32) (p1 : Int32) (p2 : Int32) (p3 : Int32) (h0 : Heap) (n0 : Nat) (O0 : Old Z n0 h0) :
    MetFree l x (head1 (Jvm.Cond.code x code maxLocals ret :: ws) room_1) (fun a U => a = #[(.int p0), (.int p1), (.int p2), (.int p3)] ∧ Z.Warmed39 U.vm ∧ U.heap = h0) (fun _ _ _ _ _ => True) (fun _ U o U' => ∃ v L, o = .returned v ∧ Q_law Z aNONE p0 p1 p2 p3 h0 n0 v U'.heap L ∧ FrameEnd U o U' L 7 297) := by
  refine MetFree.of_bodySF (plainFor_of_name pn_com_example_reweave_reweave_control_KeysEmptiedPinLaw) hisR ?_
  intro p e s m args below meth c s₁ Bd hml0 hP hK
  obtain ⟨rfl, hZ, hh⟩ := hP
  have hx := Bd.exec
  have hby := Bd.bytes
  have hml : c.maxLocals = 8 := hml0
  have hown : s.vm.findClass "com/example/reweave/reweave/control/KeysEmptiedPinLaw" = some m.cls := findClass_of_methodNamed Bd.named
  have hnm := (name_of_methodNamed Bd.named Bd.method).1
  have X0 : Stand p l e room_1 s m #[(.int p0), (.int p1), (.int p2), (.int p3)] below meth c s₁ [] 0 0 := Stand.of_body Bd
  have e0 : s₁.heap = h0 := by rw [← hh, Bd.state]; rfl
  have N0 := Fr.nil n0
  refine own_go (Q := fun o U' => ∃ v L, o = .returned v ∧ Q_law Z aNONE p0 p1 p2 p3 h0 n0 v U'.heap L ∧ FrameEnd s o U' L 7 297) (fun t k => castTop (ef_law m p0 p1 p2 p3) k) ?_
  show OwnGo p e below _ (s₁.setTop (mkF m 0 #[.val (.int p0), .val (.int p1), .val (.int p2), .val (.int p3), .unset, .unset, .unset, .unset] []))
  refine own_go (fun _ k => XS.iloadN X0.here hx rfl (hb hby at_0) rfl k) ?_
  show OwnGo p e below _ (s₁.setTop (mkF m 1 #[.val (.int p0), .val (.int p1), .val (.int p2), .val (.int p3), .unset, .unset, .unset, .unset] [(.int p0)]))
  refine own_go (fun _ k => Jvm.Stand.ldcI X0 hx hown (mvT hZ (hw _ (List.mem_of_getElem? (i := 0) rfl))) rfl (hb hby at_1) k) ?_
  show OwnGo p e below _ (s₁.setTop (mkF m 3 #[.val (.int p0), .val (.int p1), .val (.int p2), .val (.int p3), .unset, .unset, .unset, .unset] [(.int (2147483647 : Int32)), (.int p0)]))
  refine own_go (fun _ k => XS.iand X0.here hx rfl (hb hby at_3) rfl k) ?_
  show OwnGo p e below _ (s₁.setTop (mkF m 4 #[.val (.int p0), .val (.int p1), .val (.int p2), .val (.int p3), .unset, .unset, .unset, .unset] [(.int (p0 &&& (2147483647 : Int32)))]))
  refine own_go (fun _ k => XS.bipush X0.here hx rfl (hb hby at_4) k) ?_
  show OwnGo p e below _ (s₁.setTop (mkF m 6 #[.val (.int p0), .val (.int p1), .val (.int p2), .val (.int p3), .unset, .unset, .unset, .unset] [(.int (35 : Int32)), (.int (p0 &&& (2147483647 : Int32)))]))
  refine own_go (fun _ k => iremM X0 hx rfl (hb hby at_6) rfl (by decide) k) ?_
  show OwnGo p e below _ (s₁.setTop (mkF m 7 #[.val (.int p0), .val (.int p1), .val (.int p2), .val (.int p3), .unset, .unset, .unset, .unset] [(.int ((p0 &&& (2147483647 : Int32)) % (35 : Int32)))]))
  obtain ⟨N, hN⟩ : ∃ z, z = ((p0 &&& (2147483647 : Int32)) % (35 : Int32)) := ⟨_, rfl⟩
  rw [← hN]
  have hNr : 0 ≤ N.toInt ∧ N.toInt ≤ 34 := by rw [hN]; exact own_mod35 p0
  have hNk : N.toInt < 1000 := by omega
  show OwnGo p e below _ (s₁.setTop (mkF m 7 #[.val (.int p0), .val (.int p1), .val (.int p2), .val (.int p3), .unset, .unset, .unset, .unset] [(.int N)]))
  refine own_go (fun _ k => XS.istore X0.here hx rfl (hb hby at_7) rfl (l' := #[.val (.int p0), .val (.int p1), .val (.int p2), .val (.int p3), .val (.int N), .unset, .unset, .unset]) rfl k) ?_
  show OwnGo p e below _ (s₁.setTop (mkF m 9 #[.val (.int p0), .val (.int p1), .val (.int p2), .val (.int p3), .val (.int N), .unset, .unset, .unset] []))
  refine own_go (fun _ k => XS.bipush X0.here hx rfl (hb hby at_9) k) ?_
  show OwnGo p e below _ (s₁.setTop (mkF m 11 #[.val (.int p0), .val (.int p1), .val (.int p2), .val (.int p3), .val (.int N), .unset, .unset, .unset] [(.int (34 : Int32))]))
  obtain ⟨T529, h529, k529, X529, e529, E529, A529, st529⟩ := newP X0 hx hZ (hw _ (List.mem_of_getElem? (i := 1) rfl)) e0 (g := (mkF m 11 #[.val (.int p0), .val (.int p1), .val (.int p2), .val (.int p3), .val (.int N), .unset, .unset, .unset] [(.int (34 : Int32))])) rfl (hb hby at_11) rfl (by decide) (cap := 34) (by decide) (by decide) (by decide) (by decide)
  obtain ⟨a529, g529⟩ : ∃ z, z = h0.size := ⟨_, rfl⟩
  rw [← g529] at A529 st529
  have ge529 : n0 ≤ a529 := Nat.le_trans (own_sz O0) (Nat.le_of_eq g529.symm)
  have gh529 : h0.size ≤ a529 := Nat.le_trans (Nat.le_refl _) (Nat.le_of_eq g529.symm)
  have O529 := O0.ext E529
  have z530 : h0.size ≤ h529.size := Nat.le_trans (Nat.le_refl _) E529.1
  have V529 : Arv Z h529 a529 k529 .int (34 : Int32) [(.int (0 : Int32)), (.int (0 : Int32)), (.int (0 : Int32)), (.int (0 : Int32)), (.int (0 : Int32)), (.int (0 : Int32)), (.int (0 : Int32)), (.int (0 : Int32)), (.int (0 : Int32)), (.int (0 : Int32)), (.int (0 : Int32)), (.int (0 : Int32)), (.int (0 : Int32)), (.int (0 : Int32)), (.int (0 : Int32)), (.int (0 : Int32)), (.int (0 : Int32)), (.int (0 : Int32)), (.int (0 : Int32)), (.int (0 : Int32)), (.int (0 : Int32)), (.int (0 : Int32)), (.int (0 : Int32)), (.int (0 : Int32)), (.int (0 : Int32)), (.int (0 : Int32)), (.int (0 : Int32)), (.int (0 : Int32)), (.int (0 : Int32)), (.int (0 : Int32)), (.int (0 : Int32)), (.int (0 : Int32)), (.int (0 : Int32)), (.int (0 : Int32))] (.int (0 : Int32)) := (Arv.new A529 (by decide)).pad (pad_rep [] _ 34)
  refine own_go st529 ?_
  show OwnGo p e below _ (T529.setTop (mkF m 13 #[.val (.int p0), .val (.int p1), .val (.int p2), .val (.int p3), .val (.int N), .unset, .unset, .unset] [(.ref a529)]))
  refine own_go (fun _ k => XS.dup X529.here hx rfl (hb hby at_13) rfl rfl k) ?_
  show OwnGo p e below _ (T529.setTop (mkF m 14 #[.val (.int p0), .val (.int p1), .val (.int p2), .val (.int p3), .val (.int N), .unset, .unset, .unset] [(.ref a529), (.ref a529)]))
  refine own_go (fun _ k => XS.iconst X529.here hx rfl (hb hby at_14) k) ?_
  show OwnGo p e below _ (T529.setTop (mkF m 15 #[.val (.int p0), .val (.int p1), .val (.int p2), .val (.int p3), .val (.int N), .unset, .unset, .unset] [(.int (0 : Int32)), (.ref a529), (.ref a529)]))
  refine own_go (fun _ k => XS.iloadN X529.here hx rfl (hb hby at_15) rfl k) ?_
  show OwnGo p e below _ (T529.setTop (mkF m 16 #[.val (.int p0), .val (.int p1), .val (.int p2), .val (.int p3), .val (.int N), .unset, .unset, .unset] [(.int p1), (.int (0 : Int32)), (.ref a529), (.ref a529)]))
  obtain ⟨c531, Ar531, q531, S531, M531, H531, G531⟩ := (id V529)
  obtain ⟨T531, h531, X531, e531, W531, st531⟩ := stI X529 hx hZ e529 Ar531 (j := (0 : Int32)) (inb_of S531 ⟨by decide, by decide⟩) (g := (mkF m 16 #[.val (.int p0), .val (.int p1), .val (.int p2), .val (.int p3), .val (.int N), .unset, .unset, .unset] [(.int p1), (.int (0 : Int32)), (.ref a529), (.ref a529)])) rfl rfl (hb hby at_16)
  have N531 := Fr.snoc X531 N0 ge529
  have O531 := O529.wr W531 ge529
  have z532 : h0.size ≤ h531.size := Nat.le_trans z530 (Nat.le_of_eq W531.size.symm)
  have V531 : Arv Z h531 a529 k529 .int (34 : Int32) [(.int p1), (.int (0 : Int32)), (.int (0 : Int32)), (.int (0 : Int32)), (.int (0 : Int32)), (.int (0 : Int32)), (.int (0 : Int32)), (.int (0 : Int32)), (.int (0 : Int32)), (.int (0 : Int32)), (.int (0 : Int32)), (.int (0 : Int32)), (.int (0 : Int32)), (.int (0 : Int32)), (.int (0 : Int32)), (.int (0 : Int32)), (.int (0 : Int32)), (.int (0 : Int32)), (.int (0 : Int32)), (.int (0 : Int32)), (.int (0 : Int32)), (.int (0 : Int32)), (.int (0 : Int32)), (.int (0 : Int32)), (.int (0 : Int32)), (.int (0 : Int32)), (.int (0 : Int32)), (.int (0 : Int32)), (.int (0 : Int32)), (.int (0 : Int32)), (.int (0 : Int32)), (.int (0 : Int32)), (.int (0 : Int32)), (.int (0 : Int32))] (.int (0 : Int32)) := Arv.set Ar531 q531 S531 M531 H531 G531 rfl W531 0 (by decide) (Nat.le_of_ble_eq_true rfl)
  refine own_go st531 ?_
  show OwnGo p e below _ (T531.setTop (mkF m 17 #[.val (.int p0), .val (.int p1), .val (.int p2), .val (.int p3), .val (.int N), .unset, .unset, .unset] [(.ref a529)]))
  refine own_go (fun _ k => XS.dup X531.here hx rfl (hb hby at_17) rfl rfl k) ?_
  show OwnGo p e below _ (T531.setTop (mkF m 18 #[.val (.int p0), .val (.int p1), .val (.int p2), .val (.int p3), .val (.int N), .unset, .unset, .unset] [(.ref a529), (.ref a529)]))
  refine own_go (fun _ k => XS.iconst X531.here hx rfl (hb hby at_18) k) ?_
  show OwnGo p e below _ (T531.setTop (mkF m 19 #[.val (.int p0), .val (.int p1), .val (.int p2), .val (.int p3), .val (.int N), .unset, .unset, .unset] [(.int (1 : Int32)), (.ref a529), (.ref a529)]))
  refine own_go (fun _ k => XS.iloadN X531.here hx rfl (hb hby at_19) rfl k) ?_
  show OwnGo p e below _ (T531.setTop (mkF m 20 #[.val (.int p0), .val (.int p1), .val (.int p2), .val (.int p3), .val (.int N), .unset, .unset, .unset] [(.int p1), (.int (1 : Int32)), (.ref a529), (.ref a529)]))
  refine own_go (fun _ k => XS.iloadN X531.here hx rfl (hb hby at_20) rfl k) ?_
  show OwnGo p e below _ (T531.setTop (mkF m 21 #[.val (.int p0), .val (.int p1), .val (.int p2), .val (.int p3), .val (.int N), .unset, .unset, .unset] [(.int p2), (.int p1), (.int (1 : Int32)), (.ref a529), (.ref a529)]))
  refine own_go (fun _ k => XS.iadd X531.here hx rfl (hb hby at_21) rfl k) ?_
  show OwnGo p e below _ (T531.setTop (mkF m 22 #[.val (.int p0), .val (.int p1), .val (.int p2), .val (.int p3), .val (.int N), .unset, .unset, .unset] [(.int (p1 + p2)), (.int (1 : Int32)), (.ref a529), (.ref a529)]))
  obtain ⟨c533, Ar533, q533, S533, M533, H533, G533⟩ := (id V531)
  obtain ⟨T533, h533, X533, e533, W533, st533⟩ := stI X531 hx hZ e531 Ar533 (j := (1 : Int32)) (inb_of S533 ⟨by decide, by decide⟩) (g := (mkF m 22 #[.val (.int p0), .val (.int p1), .val (.int p2), .val (.int p3), .val (.int N), .unset, .unset, .unset] [(.int (p1 + p2)), (.int (1 : Int32)), (.ref a529), (.ref a529)])) rfl rfl (hb hby at_22)
  have N533 := Fr.snoc X533 N531 ge529
  have O533 := O531.wr W533 ge529
  have z534 : h0.size ≤ h533.size := Nat.le_trans z532 (Nat.le_of_eq W533.size.symm)
  have V533 : Arv Z h533 a529 k529 .int (34 : Int32) [(.int p1), (.int (p1 + p2)), (.int (0 : Int32)), (.int (0 : Int32)), (.int (0 : Int32)), (.int (0 : Int32)), (.int (0 : Int32)), (.int (0 : Int32)), (.int (0 : Int32)), (.int (0 : Int32)), (.int (0 : Int32)), (.int (0 : Int32)), (.int (0 : Int32)), (.int (0 : Int32)), (.int (0 : Int32)), (.int (0 : Int32)), (.int (0 : Int32)), (.int (0 : Int32)), (.int (0 : Int32)), (.int (0 : Int32)), (.int (0 : Int32)), (.int (0 : Int32)), (.int (0 : Int32)), (.int (0 : Int32)), (.int (0 : Int32)), (.int (0 : Int32)), (.int (0 : Int32)), (.int (0 : Int32)), (.int (0 : Int32)), (.int (0 : Int32)), (.int (0 : Int32)), (.int (0 : Int32)), (.int (0 : Int32)), (.int (0 : Int32))] (.int (0 : Int32)) := Arv.set Ar533 q533 S533 M533 H533 G533 rfl W533 1 (by decide) (Nat.le_of_ble_eq_true rfl)
  refine own_go st533 ?_
  show OwnGo p e below _ (T533.setTop (mkF m 23 #[.val (.int p0), .val (.int p1), .val (.int p2), .val (.int p3), .val (.int N), .unset, .unset, .unset] [(.ref a529)]))
  refine own_go (fun _ k => XS.dup X533.here hx rfl (hb hby at_23) rfl rfl k) ?_
  show OwnGo p e below _ (T533.setTop (mkF m 24 #[.val (.int p0), .val (.int p1), .val (.int p2), .val (.int p3), .val (.int N), .unset, .unset, .unset] [(.ref a529), (.ref a529)]))
  refine own_go (fun _ k => XS.iconst X533.here hx rfl (hb hby at_24) k) ?_
  show OwnGo p e below _ (T533.setTop (mkF m 25 #[.val (.int p0), .val (.int p1), .val (.int p2), .val (.int p3), .val (.int N), .unset, .unset, .unset] [(.int (2 : Int32)), (.ref a529), (.ref a529)]))
  refine own_go (fun _ k => XS.iloadN X533.here hx rfl (hb hby at_25) rfl k) ?_
  show OwnGo p e below _ (T533.setTop (mkF m 26 #[.val (.int p0), .val (.int p1), .val (.int p2), .val (.int p3), .val (.int N), .unset, .unset, .unset] [(.int p1), (.int (2 : Int32)), (.ref a529), (.ref a529)]))
  refine own_go (fun _ k => XS.iconst X533.here hx rfl (hb hby at_26) k) ?_
  show OwnGo p e below _ (T533.setTop (mkF m 27 #[.val (.int p0), .val (.int p1), .val (.int p2), .val (.int p3), .val (.int N), .unset, .unset, .unset] [(.int (2 : Int32)), (.int p1), (.int (2 : Int32)), (.ref a529), (.ref a529)]))
  refine own_go (fun _ k => XS.iloadN X533.here hx rfl (hb hby at_27) rfl k) ?_
  show OwnGo p e below _ (T533.setTop (mkF m 28 #[.val (.int p0), .val (.int p1), .val (.int p2), .val (.int p3), .val (.int N), .unset, .unset, .unset] [(.int p2), (.int (2 : Int32)), (.int p1), (.int (2 : Int32)), (.ref a529), (.ref a529)]))
  refine own_go (fun _ k => XS.imul X533.here hx rfl (hb hby at_28) rfl k) ?_
  show OwnGo p e below _ (T533.setTop (mkF m 29 #[.val (.int p0), .val (.int p1), .val (.int p2), .val (.int p3), .val (.int N), .unset, .unset, .unset] [(.int ((2 : Int32) * p2)), (.int p1), (.int (2 : Int32)), (.ref a529), (.ref a529)]))
  refine own_go (fun _ k => XS.iadd X533.here hx rfl (hb hby at_29) rfl k) ?_
  show OwnGo p e below _ (T533.setTop (mkF m 30 #[.val (.int p0), .val (.int p1), .val (.int p2), .val (.int p3), .val (.int N), .unset, .unset, .unset] [(.int (p1 + ((2 : Int32) * p2))), (.int (2 : Int32)), (.ref a529), (.ref a529)]))
  obtain ⟨c535, Ar535, q535, S535, M535, H535, G535⟩ := (id V533)
  obtain ⟨T535, h535, X535, e535, W535, st535⟩ := stI X533 hx hZ e533 Ar535 (j := (2 : Int32)) (inb_of S535 ⟨by decide, by decide⟩) (g := (mkF m 30 #[.val (.int p0), .val (.int p1), .val (.int p2), .val (.int p3), .val (.int N), .unset, .unset, .unset] [(.int (p1 + ((2 : Int32) * p2))), (.int (2 : Int32)), (.ref a529), (.ref a529)])) rfl rfl (hb hby at_30)
  have N535 := Fr.snoc X535 N533 ge529
  have O535 := O533.wr W535 ge529
  have z536 : h0.size ≤ h535.size := Nat.le_trans z534 (Nat.le_of_eq W535.size.symm)
  have V535 : Arv Z h535 a529 k529 .int (34 : Int32) [(.int p1), (.int (p1 + p2)), (.int (p1 + ((2 : Int32) * p2))), (.int (0 : Int32)), (.int (0 : Int32)), (.int (0 : Int32)), (.int (0 : Int32)), (.int (0 : Int32)), (.int (0 : Int32)), (.int (0 : Int32)), (.int (0 : Int32)), (.int (0 : Int32)), (.int (0 : Int32)), (.int (0 : Int32)), (.int (0 : Int32)), (.int (0 : Int32)), (.int (0 : Int32)), (.int (0 : Int32)), (.int (0 : Int32)), (.int (0 : Int32)), (.int (0 : Int32)), (.int (0 : Int32)), (.int (0 : Int32)), (.int (0 : Int32)), (.int (0 : Int32)), (.int (0 : Int32)), (.int (0 : Int32)), (.int (0 : Int32)), (.int (0 : Int32)), (.int (0 : Int32)), (.int (0 : Int32)), (.int (0 : Int32)), (.int (0 : Int32)), (.int (0 : Int32))] (.int (0 : Int32)) := Arv.set Ar535 q535 S535 M535 H535 G535 rfl W535 2 (by decide) (Nat.le_of_ble_eq_true rfl)
  refine own_go st535 ?_
  show OwnGo p e below _ (T535.setTop (mkF m 31 #[.val (.int p0), .val (.int p1), .val (.int p2), .val (.int p3), .val (.int N), .unset, .unset, .unset] [(.ref a529)]))
  refine own_go (fun _ k => XS.dup X535.here hx rfl (hb hby at_31) rfl rfl k) ?_
  show OwnGo p e below _ (T535.setTop (mkF m 32 #[.val (.int p0), .val (.int p1), .val (.int p2), .val (.int p3), .val (.int N), .unset, .unset, .unset] [(.ref a529), (.ref a529)]))
  refine own_go (fun _ k => XS.iconst X535.here hx rfl (hb hby at_32) k) ?_
  show OwnGo p e below _ (T535.setTop (mkF m 33 #[.val (.int p0), .val (.int p1), .val (.int p2), .val (.int p3), .val (.int N), .unset, .unset, .unset] [(.int (3 : Int32)), (.ref a529), (.ref a529)]))
  refine own_go (fun _ k => XS.iloadN X535.here hx rfl (hb hby at_33) rfl k) ?_
  show OwnGo p e below _ (T535.setTop (mkF m 34 #[.val (.int p0), .val (.int p1), .val (.int p2), .val (.int p3), .val (.int N), .unset, .unset, .unset] [(.int p1), (.int (3 : Int32)), (.ref a529), (.ref a529)]))
  refine own_go (fun _ k => XS.iconst X535.here hx rfl (hb hby at_34) k) ?_
  show OwnGo p e below _ (T535.setTop (mkF m 35 #[.val (.int p0), .val (.int p1), .val (.int p2), .val (.int p3), .val (.int N), .unset, .unset, .unset] [(.int (3 : Int32)), (.int p1), (.int (3 : Int32)), (.ref a529), (.ref a529)]))
  refine own_go (fun _ k => XS.iloadN X535.here hx rfl (hb hby at_35) rfl k) ?_
  show OwnGo p e below _ (T535.setTop (mkF m 36 #[.val (.int p0), .val (.int p1), .val (.int p2), .val (.int p3), .val (.int N), .unset, .unset, .unset] [(.int p2), (.int (3 : Int32)), (.int p1), (.int (3 : Int32)), (.ref a529), (.ref a529)]))
  refine own_go (fun _ k => XS.imul X535.here hx rfl (hb hby at_36) rfl k) ?_
  show OwnGo p e below _ (T535.setTop (mkF m 37 #[.val (.int p0), .val (.int p1), .val (.int p2), .val (.int p3), .val (.int N), .unset, .unset, .unset] [(.int ((3 : Int32) * p2)), (.int p1), (.int (3 : Int32)), (.ref a529), (.ref a529)]))
  refine own_go (fun _ k => XS.iadd X535.here hx rfl (hb hby at_37) rfl k) ?_
  show OwnGo p e below _ (T535.setTop (mkF m 38 #[.val (.int p0), .val (.int p1), .val (.int p2), .val (.int p3), .val (.int N), .unset, .unset, .unset] [(.int (p1 + ((3 : Int32) * p2))), (.int (3 : Int32)), (.ref a529), (.ref a529)]))
  obtain ⟨c537, Ar537, q537, S537, M537, H537, G537⟩ := (id V535)
  obtain ⟨T537, h537, X537, e537, W537, st537⟩ := stI X535 hx hZ e535 Ar537 (j := (3 : Int32)) (inb_of S537 ⟨by decide, by decide⟩) (g := (mkF m 38 #[.val (.int p0), .val (.int p1), .val (.int p2), .val (.int p3), .val (.int N), .unset, .unset, .unset] [(.int (p1 + ((3 : Int32) * p2))), (.int (3 : Int32)), (.ref a529), (.ref a529)])) rfl rfl (hb hby at_38)
  have N537 := Fr.snoc X537 N535 ge529
  have O537 := O535.wr W537 ge529
  have z538 : h0.size ≤ h537.size := Nat.le_trans z536 (Nat.le_of_eq W537.size.symm)
  have V537 : Arv Z h537 a529 k529 .int (34 : Int32) [(.int p1), (.int (p1 + p2)), (.int (p1 + ((2 : Int32) * p2))), (.int (p1 + ((3 : Int32) * p2))), (.int (0 : Int32)), (.int (0 : Int32)), (.int (0 : Int32)), (.int (0 : Int32)), (.int (0 : Int32)), (.int (0 : Int32)), (.int (0 : Int32)), (.int (0 : Int32)), (.int (0 : Int32)), (.int (0 : Int32)), (.int (0 : Int32)), (.int (0 : Int32)), (.int (0 : Int32)), (.int (0 : Int32)), (.int (0 : Int32)), (.int (0 : Int32)), (.int (0 : Int32)), (.int (0 : Int32)), (.int (0 : Int32)), (.int (0 : Int32)), (.int (0 : Int32)), (.int (0 : Int32)), (.int (0 : Int32)), (.int (0 : Int32)), (.int (0 : Int32)), (.int (0 : Int32)), (.int (0 : Int32)), (.int (0 : Int32)), (.int (0 : Int32)), (.int (0 : Int32))] (.int (0 : Int32)) := Arv.set Ar537 q537 S537 M537 H537 G537 rfl W537 3 (by decide) (Nat.le_of_ble_eq_true rfl)
  refine own_go st537 ?_
  show OwnGo p e below _ (T537.setTop (mkF m 39 #[.val (.int p0), .val (.int p1), .val (.int p2), .val (.int p3), .val (.int N), .unset, .unset, .unset] [(.ref a529)]))
  refine own_go (fun _ k => XS.dup X537.here hx rfl (hb hby at_39) rfl rfl k) ?_
  show OwnGo p e below _ (T537.setTop (mkF m 40 #[.val (.int p0), .val (.int p1), .val (.int p2), .val (.int p3), .val (.int N), .unset, .unset, .unset] [(.ref a529), (.ref a529)]))
  refine own_go (fun _ k => XS.iconst X537.here hx rfl (hb hby at_40) k) ?_
  show OwnGo p e below _ (T537.setTop (mkF m 41 #[.val (.int p0), .val (.int p1), .val (.int p2), .val (.int p3), .val (.int N), .unset, .unset, .unset] [(.int (4 : Int32)), (.ref a529), (.ref a529)]))
  refine own_go (fun _ k => XS.iloadN X537.here hx rfl (hb hby at_41) rfl k) ?_
  show OwnGo p e below _ (T537.setTop (mkF m 42 #[.val (.int p0), .val (.int p1), .val (.int p2), .val (.int p3), .val (.int N), .unset, .unset, .unset] [(.int p1), (.int (4 : Int32)), (.ref a529), (.ref a529)]))
  refine own_go (fun _ k => XS.iconst X537.here hx rfl (hb hby at_42) k) ?_
  show OwnGo p e below _ (T537.setTop (mkF m 43 #[.val (.int p0), .val (.int p1), .val (.int p2), .val (.int p3), .val (.int N), .unset, .unset, .unset] [(.int (4 : Int32)), (.int p1), (.int (4 : Int32)), (.ref a529), (.ref a529)]))
  refine own_go (fun _ k => XS.iloadN X537.here hx rfl (hb hby at_43) rfl k) ?_
  show OwnGo p e below _ (T537.setTop (mkF m 44 #[.val (.int p0), .val (.int p1), .val (.int p2), .val (.int p3), .val (.int N), .unset, .unset, .unset] [(.int p2), (.int (4 : Int32)), (.int p1), (.int (4 : Int32)), (.ref a529), (.ref a529)]))
  refine own_go (fun _ k => XS.imul X537.here hx rfl (hb hby at_44) rfl k) ?_
  show OwnGo p e below _ (T537.setTop (mkF m 45 #[.val (.int p0), .val (.int p1), .val (.int p2), .val (.int p3), .val (.int N), .unset, .unset, .unset] [(.int ((4 : Int32) * p2)), (.int p1), (.int (4 : Int32)), (.ref a529), (.ref a529)]))
  refine own_go (fun _ k => XS.iadd X537.here hx rfl (hb hby at_45) rfl k) ?_
  show OwnGo p e below _ (T537.setTop (mkF m 46 #[.val (.int p0), .val (.int p1), .val (.int p2), .val (.int p3), .val (.int N), .unset, .unset, .unset] [(.int (p1 + ((4 : Int32) * p2))), (.int (4 : Int32)), (.ref a529), (.ref a529)]))
  obtain ⟨c539, Ar539, q539, S539, M539, H539, G539⟩ := (id V537)
  obtain ⟨T539, h539, X539, e539, W539, st539⟩ := stI X537 hx hZ e537 Ar539 (j := (4 : Int32)) (inb_of S539 ⟨by decide, by decide⟩) (g := (mkF m 46 #[.val (.int p0), .val (.int p1), .val (.int p2), .val (.int p3), .val (.int N), .unset, .unset, .unset] [(.int (p1 + ((4 : Int32) * p2))), (.int (4 : Int32)), (.ref a529), (.ref a529)])) rfl rfl (hb hby at_46)
  have N539 := Fr.snoc X539 N537 ge529
  have O539 := O537.wr W539 ge529
  have z540 : h0.size ≤ h539.size := Nat.le_trans z538 (Nat.le_of_eq W539.size.symm)
  have V539 : Arv Z h539 a529 k529 .int (34 : Int32) [(.int p1), (.int (p1 + p2)), (.int (p1 + ((2 : Int32) * p2))), (.int (p1 + ((3 : Int32) * p2))), (.int (p1 + ((4 : Int32) * p2))), (.int (0 : Int32)), (.int (0 : Int32)), (.int (0 : Int32)), (.int (0 : Int32)), (.int (0 : Int32)), (.int (0 : Int32)), (.int (0 : Int32)), (.int (0 : Int32)), (.int (0 : Int32)), (.int (0 : Int32)), (.int (0 : Int32)), (.int (0 : Int32)), (.int (0 : Int32)), (.int (0 : Int32)), (.int (0 : Int32)), (.int (0 : Int32)), (.int (0 : Int32)), (.int (0 : Int32)), (.int (0 : Int32)), (.int (0 : Int32)), (.int (0 : Int32)), (.int (0 : Int32)), (.int (0 : Int32)), (.int (0 : Int32)), (.int (0 : Int32)), (.int (0 : Int32)), (.int (0 : Int32)), (.int (0 : Int32)), (.int (0 : Int32))] (.int (0 : Int32)) := Arv.set Ar539 q539 S539 M539 H539 G539 rfl W539 4 (by decide) (Nat.le_of_ble_eq_true rfl)
  refine own_go st539 ?_
  show OwnGo p e below _ (T539.setTop (mkF m 47 #[.val (.int p0), .val (.int p1), .val (.int p2), .val (.int p3), .val (.int N), .unset, .unset, .unset] [(.ref a529)]))
  refine own_go (fun _ k => XS.dup X539.here hx rfl (hb hby at_47) rfl rfl k) ?_
  show OwnGo p e below _ (T539.setTop (mkF m 48 #[.val (.int p0), .val (.int p1), .val (.int p2), .val (.int p3), .val (.int N), .unset, .unset, .unset] [(.ref a529), (.ref a529)]))
  refine own_go (fun _ k => XS.iconst X539.here hx rfl (hb hby at_48) k) ?_
  show OwnGo p e below _ (T539.setTop (mkF m 49 #[.val (.int p0), .val (.int p1), .val (.int p2), .val (.int p3), .val (.int N), .unset, .unset, .unset] [(.int (5 : Int32)), (.ref a529), (.ref a529)]))
  refine own_go (fun _ k => XS.iloadN X539.here hx rfl (hb hby at_49) rfl k) ?_
  show OwnGo p e below _ (T539.setTop (mkF m 50 #[.val (.int p0), .val (.int p1), .val (.int p2), .val (.int p3), .val (.int N), .unset, .unset, .unset] [(.int p1), (.int (5 : Int32)), (.ref a529), (.ref a529)]))
  refine own_go (fun _ k => XS.iconst X539.here hx rfl (hb hby at_50) k) ?_
  show OwnGo p e below _ (T539.setTop (mkF m 51 #[.val (.int p0), .val (.int p1), .val (.int p2), .val (.int p3), .val (.int N), .unset, .unset, .unset] [(.int (5 : Int32)), (.int p1), (.int (5 : Int32)), (.ref a529), (.ref a529)]))
  refine own_go (fun _ k => XS.iloadN X539.here hx rfl (hb hby at_51) rfl k) ?_
  show OwnGo p e below _ (T539.setTop (mkF m 52 #[.val (.int p0), .val (.int p1), .val (.int p2), .val (.int p3), .val (.int N), .unset, .unset, .unset] [(.int p2), (.int (5 : Int32)), (.int p1), (.int (5 : Int32)), (.ref a529), (.ref a529)]))
  refine own_go (fun _ k => XS.imul X539.here hx rfl (hb hby at_52) rfl k) ?_
  show OwnGo p e below _ (T539.setTop (mkF m 53 #[.val (.int p0), .val (.int p1), .val (.int p2), .val (.int p3), .val (.int N), .unset, .unset, .unset] [(.int ((5 : Int32) * p2)), (.int p1), (.int (5 : Int32)), (.ref a529), (.ref a529)]))
  refine own_go (fun _ k => XS.iadd X539.here hx rfl (hb hby at_53) rfl k) ?_
  show OwnGo p e below _ (T539.setTop (mkF m 54 #[.val (.int p0), .val (.int p1), .val (.int p2), .val (.int p3), .val (.int N), .unset, .unset, .unset] [(.int (p1 + ((5 : Int32) * p2))), (.int (5 : Int32)), (.ref a529), (.ref a529)]))
  obtain ⟨c541, Ar541, q541, S541, M541, H541, G541⟩ := (id V539)
  obtain ⟨T541, h541, X541, e541, W541, st541⟩ := stI X539 hx hZ e539 Ar541 (j := (5 : Int32)) (inb_of S541 ⟨by decide, by decide⟩) (g := (mkF m 54 #[.val (.int p0), .val (.int p1), .val (.int p2), .val (.int p3), .val (.int N), .unset, .unset, .unset] [(.int (p1 + ((5 : Int32) * p2))), (.int (5 : Int32)), (.ref a529), (.ref a529)])) rfl rfl (hb hby at_54)
  have N541 := Fr.snoc X541 N539 ge529
  have O541 := O539.wr W541 ge529
  have z542 : h0.size ≤ h541.size := Nat.le_trans z540 (Nat.le_of_eq W541.size.symm)
  have V541 : Arv Z h541 a529 k529 .int (34 : Int32) [(.int p1), (.int (p1 + p2)), (.int (p1 + ((2 : Int32) * p2))), (.int (p1 + ((3 : Int32) * p2))), (.int (p1 + ((4 : Int32) * p2))), (.int (p1 + ((5 : Int32) * p2))), (.int (0 : Int32)), (.int (0 : Int32)), (.int (0 : Int32)), (.int (0 : Int32)), (.int (0 : Int32)), (.int (0 : Int32)), (.int (0 : Int32)), (.int (0 : Int32)), (.int (0 : Int32)), (.int (0 : Int32)), (.int (0 : Int32)), (.int (0 : Int32)), (.int (0 : Int32)), (.int (0 : Int32)), (.int (0 : Int32)), (.int (0 : Int32)), (.int (0 : Int32)), (.int (0 : Int32)), (.int (0 : Int32)), (.int (0 : Int32)), (.int (0 : Int32)), (.int (0 : Int32)), (.int (0 : Int32)), (.int (0 : Int32)), (.int (0 : Int32)), (.int (0 : Int32)), (.int (0 : Int32)), (.int (0 : Int32))] (.int (0 : Int32)) := Arv.set Ar541 q541 S541 M541 H541 G541 rfl W541 5 (by decide) (Nat.le_of_ble_eq_true rfl)
  refine own_go st541 ?_
  show OwnGo p e below _ (T541.setTop (mkF m 55 #[.val (.int p0), .val (.int p1), .val (.int p2), .val (.int p3), .val (.int N), .unset, .unset, .unset] [(.ref a529)]))
  refine own_go (fun _ k => XS.dup X541.here hx rfl (hb hby at_55) rfl rfl k) ?_
  show OwnGo p e below _ (T541.setTop (mkF m 56 #[.val (.int p0), .val (.int p1), .val (.int p2), .val (.int p3), .val (.int N), .unset, .unset, .unset] [(.ref a529), (.ref a529)]))
  refine own_go (fun _ k => XS.bipush X541.here hx rfl (hb hby at_56) k) ?_
  show OwnGo p e below _ (T541.setTop (mkF m 58 #[.val (.int p0), .val (.int p1), .val (.int p2), .val (.int p3), .val (.int N), .unset, .unset, .unset] [(.int (6 : Int32)), (.ref a529), (.ref a529)]))
  refine own_go (fun _ k => XS.iloadN X541.here hx rfl (hb hby at_58) rfl k) ?_
  show OwnGo p e below _ (T541.setTop (mkF m 59 #[.val (.int p0), .val (.int p1), .val (.int p2), .val (.int p3), .val (.int N), .unset, .unset, .unset] [(.int p1), (.int (6 : Int32)), (.ref a529), (.ref a529)]))
  refine own_go (fun _ k => XS.bipush X541.here hx rfl (hb hby at_59) k) ?_
  show OwnGo p e below _ (T541.setTop (mkF m 61 #[.val (.int p0), .val (.int p1), .val (.int p2), .val (.int p3), .val (.int N), .unset, .unset, .unset] [(.int (6 : Int32)), (.int p1), (.int (6 : Int32)), (.ref a529), (.ref a529)]))
  refine own_go (fun _ k => XS.iloadN X541.here hx rfl (hb hby at_61) rfl k) ?_
  show OwnGo p e below _ (T541.setTop (mkF m 62 #[.val (.int p0), .val (.int p1), .val (.int p2), .val (.int p3), .val (.int N), .unset, .unset, .unset] [(.int p2), (.int (6 : Int32)), (.int p1), (.int (6 : Int32)), (.ref a529), (.ref a529)]))
  refine own_go (fun _ k => XS.imul X541.here hx rfl (hb hby at_62) rfl k) ?_
  show OwnGo p e below _ (T541.setTop (mkF m 63 #[.val (.int p0), .val (.int p1), .val (.int p2), .val (.int p3), .val (.int N), .unset, .unset, .unset] [(.int ((6 : Int32) * p2)), (.int p1), (.int (6 : Int32)), (.ref a529), (.ref a529)]))
  refine own_go (fun _ k => XS.iadd X541.here hx rfl (hb hby at_63) rfl k) ?_
  show OwnGo p e below _ (T541.setTop (mkF m 64 #[.val (.int p0), .val (.int p1), .val (.int p2), .val (.int p3), .val (.int N), .unset, .unset, .unset] [(.int (p1 + ((6 : Int32) * p2))), (.int (6 : Int32)), (.ref a529), (.ref a529)]))
  obtain ⟨c543, Ar543, q543, S543, M543, H543, G543⟩ := (id V541)
  obtain ⟨T543, h543, X543, e543, W543, st543⟩ := stI X541 hx hZ e541 Ar543 (j := (6 : Int32)) (inb_of S543 ⟨by decide, by decide⟩) (g := (mkF m 64 #[.val (.int p0), .val (.int p1), .val (.int p2), .val (.int p3), .val (.int N), .unset, .unset, .unset] [(.int (p1 + ((6 : Int32) * p2))), (.int (6 : Int32)), (.ref a529), (.ref a529)])) rfl rfl (hb hby at_64)
  have N543 := Fr.snoc X543 N541 ge529
  have O543 := O541.wr W543 ge529
  have z544 : h0.size ≤ h543.size := Nat.le_trans z542 (Nat.le_of_eq W543.size.symm)
  have V543 : Arv Z h543 a529 k529 .int (34 : Int32) [(.int p1), (.int (p1 + p2)), (.int (p1 + ((2 : Int32) * p2))), (.int (p1 + ((3 : Int32) * p2))), (.int (p1 + ((4 : Int32) * p2))), (.int (p1 + ((5 : Int32) * p2))), (.int (p1 + ((6 : Int32) * p2))), (.int (0 : Int32)), (.int (0 : Int32)), (.int (0 : Int32)), (.int (0 : Int32)), (.int (0 : Int32)), (.int (0 : Int32)), (.int (0 : Int32)), (.int (0 : Int32)), (.int (0 : Int32)), (.int (0 : Int32)), (.int (0 : Int32)), (.int (0 : Int32)), (.int (0 : Int32)), (.int (0 : Int32)), (.int (0 : Int32)), (.int (0 : Int32)), (.int (0 : Int32)), (.int (0 : Int32)), (.int (0 : Int32)), (.int (0 : Int32)), (.int (0 : Int32)), (.int (0 : Int32)), (.int (0 : Int32)), (.int (0 : Int32)), (.int (0 : Int32)), (.int (0 : Int32)), (.int (0 : Int32))] (.int (0 : Int32)) := Arv.set Ar543 q543 S543 M543 H543 G543 rfl W543 6 (by decide) (Nat.le_of_ble_eq_true rfl)
  refine own_go st543 ?_
  show OwnGo p e below _ (T543.setTop (mkF m 65 #[.val (.int p0), .val (.int p1), .val (.int p2), .val (.int p3), .val (.int N), .unset, .unset, .unset] [(.ref a529)]))
  refine own_go (fun _ k => XS.dup X543.here hx rfl (hb hby at_65) rfl rfl k) ?_
  show OwnGo p e below _ (T543.setTop (mkF m 66 #[.val (.int p0), .val (.int p1), .val (.int p2), .val (.int p3), .val (.int N), .unset, .unset, .unset] [(.ref a529), (.ref a529)]))
  refine own_go (fun _ k => XS.bipush X543.here hx rfl (hb hby at_66) k) ?_
  show OwnGo p e below _ (T543.setTop (mkF m 68 #[.val (.int p0), .val (.int p1), .val (.int p2), .val (.int p3), .val (.int N), .unset, .unset, .unset] [(.int (7 : Int32)), (.ref a529), (.ref a529)]))
  refine own_go (fun _ k => XS.iloadN X543.here hx rfl (hb hby at_68) rfl k) ?_
  show OwnGo p e below _ (T543.setTop (mkF m 69 #[.val (.int p0), .val (.int p1), .val (.int p2), .val (.int p3), .val (.int N), .unset, .unset, .unset] [(.int p1), (.int (7 : Int32)), (.ref a529), (.ref a529)]))
  refine own_go (fun _ k => XS.bipush X543.here hx rfl (hb hby at_69) k) ?_
  show OwnGo p e below _ (T543.setTop (mkF m 71 #[.val (.int p0), .val (.int p1), .val (.int p2), .val (.int p3), .val (.int N), .unset, .unset, .unset] [(.int (7 : Int32)), (.int p1), (.int (7 : Int32)), (.ref a529), (.ref a529)]))
  refine own_go (fun _ k => XS.iloadN X543.here hx rfl (hb hby at_71) rfl k) ?_
  show OwnGo p e below _ (T543.setTop (mkF m 72 #[.val (.int p0), .val (.int p1), .val (.int p2), .val (.int p3), .val (.int N), .unset, .unset, .unset] [(.int p2), (.int (7 : Int32)), (.int p1), (.int (7 : Int32)), (.ref a529), (.ref a529)]))
  refine own_go (fun _ k => XS.imul X543.here hx rfl (hb hby at_72) rfl k) ?_
  show OwnGo p e below _ (T543.setTop (mkF m 73 #[.val (.int p0), .val (.int p1), .val (.int p2), .val (.int p3), .val (.int N), .unset, .unset, .unset] [(.int ((7 : Int32) * p2)), (.int p1), (.int (7 : Int32)), (.ref a529), (.ref a529)]))
  refine own_go (fun _ k => XS.iadd X543.here hx rfl (hb hby at_73) rfl k) ?_
  show OwnGo p e below _ (T543.setTop (mkF m 74 #[.val (.int p0), .val (.int p1), .val (.int p2), .val (.int p3), .val (.int N), .unset, .unset, .unset] [(.int (p1 + ((7 : Int32) * p2))), (.int (7 : Int32)), (.ref a529), (.ref a529)]))
  obtain ⟨c545, Ar545, q545, S545, M545, H545, G545⟩ := (id V543)
  obtain ⟨T545, h545, X545, e545, W545, st545⟩ := stI X543 hx hZ e543 Ar545 (j := (7 : Int32)) (inb_of S545 ⟨by decide, by decide⟩) (g := (mkF m 74 #[.val (.int p0), .val (.int p1), .val (.int p2), .val (.int p3), .val (.int N), .unset, .unset, .unset] [(.int (p1 + ((7 : Int32) * p2))), (.int (7 : Int32)), (.ref a529), (.ref a529)])) rfl rfl (hb hby at_74)
  have N545 := Fr.snoc X545 N543 ge529
  have O545 := O543.wr W545 ge529
  have z546 : h0.size ≤ h545.size := Nat.le_trans z544 (Nat.le_of_eq W545.size.symm)
  have V545 : Arv Z h545 a529 k529 .int (34 : Int32) [(.int p1), (.int (p1 + p2)), (.int (p1 + ((2 : Int32) * p2))), (.int (p1 + ((3 : Int32) * p2))), (.int (p1 + ((4 : Int32) * p2))), (.int (p1 + ((5 : Int32) * p2))), (.int (p1 + ((6 : Int32) * p2))), (.int (p1 + ((7 : Int32) * p2))), (.int (0 : Int32)), (.int (0 : Int32)), (.int (0 : Int32)), (.int (0 : Int32)), (.int (0 : Int32)), (.int (0 : Int32)), (.int (0 : Int32)), (.int (0 : Int32)), (.int (0 : Int32)), (.int (0 : Int32)), (.int (0 : Int32)), (.int (0 : Int32)), (.int (0 : Int32)), (.int (0 : Int32)), (.int (0 : Int32)), (.int (0 : Int32)), (.int (0 : Int32)), (.int (0 : Int32)), (.int (0 : Int32)), (.int (0 : Int32)), (.int (0 : Int32)), (.int (0 : Int32)), (.int (0 : Int32)), (.int (0 : Int32)), (.int (0 : Int32)), (.int (0 : Int32))] (.int (0 : Int32)) := Arv.set Ar545 q545 S545 M545 H545 G545 rfl W545 7 (by decide) (Nat.le_of_ble_eq_true rfl)
  refine own_go st545 ?_
  show OwnGo p e below _ (T545.setTop (mkF m 75 #[.val (.int p0), .val (.int p1), .val (.int p2), .val (.int p3), .val (.int N), .unset, .unset, .unset] [(.ref a529)]))
  refine own_go (fun _ k => XS.dup X545.here hx rfl (hb hby at_75) rfl rfl k) ?_
  show OwnGo p e below _ (T545.setTop (mkF m 76 #[.val (.int p0), .val (.int p1), .val (.int p2), .val (.int p3), .val (.int N), .unset, .unset, .unset] [(.ref a529), (.ref a529)]))
  refine own_go (fun _ k => XS.bipush X545.here hx rfl (hb hby at_76) k) ?_
  show OwnGo p e below _ (T545.setTop (mkF m 78 #[.val (.int p0), .val (.int p1), .val (.int p2), .val (.int p3), .val (.int N), .unset, .unset, .unset] [(.int (8 : Int32)), (.ref a529), (.ref a529)]))
  refine own_go (fun _ k => XS.iloadN X545.here hx rfl (hb hby at_78) rfl k) ?_
  show OwnGo p e below _ (T545.setTop (mkF m 79 #[.val (.int p0), .val (.int p1), .val (.int p2), .val (.int p3), .val (.int N), .unset, .unset, .unset] [(.int p1), (.int (8 : Int32)), (.ref a529), (.ref a529)]))
  refine own_go (fun _ k => XS.bipush X545.here hx rfl (hb hby at_79) k) ?_
  show OwnGo p e below _ (T545.setTop (mkF m 81 #[.val (.int p0), .val (.int p1), .val (.int p2), .val (.int p3), .val (.int N), .unset, .unset, .unset] [(.int (8 : Int32)), (.int p1), (.int (8 : Int32)), (.ref a529), (.ref a529)]))
  refine own_go (fun _ k => XS.iloadN X545.here hx rfl (hb hby at_81) rfl k) ?_
  show OwnGo p e below _ (T545.setTop (mkF m 82 #[.val (.int p0), .val (.int p1), .val (.int p2), .val (.int p3), .val (.int N), .unset, .unset, .unset] [(.int p2), (.int (8 : Int32)), (.int p1), (.int (8 : Int32)), (.ref a529), (.ref a529)]))
  refine own_go (fun _ k => XS.imul X545.here hx rfl (hb hby at_82) rfl k) ?_
  show OwnGo p e below _ (T545.setTop (mkF m 83 #[.val (.int p0), .val (.int p1), .val (.int p2), .val (.int p3), .val (.int N), .unset, .unset, .unset] [(.int ((8 : Int32) * p2)), (.int p1), (.int (8 : Int32)), (.ref a529), (.ref a529)]))
  refine own_go (fun _ k => XS.iadd X545.here hx rfl (hb hby at_83) rfl k) ?_
  show OwnGo p e below _ (T545.setTop (mkF m 84 #[.val (.int p0), .val (.int p1), .val (.int p2), .val (.int p3), .val (.int N), .unset, .unset, .unset] [(.int (p1 + ((8 : Int32) * p2))), (.int (8 : Int32)), (.ref a529), (.ref a529)]))
  obtain ⟨c547, Ar547, q547, S547, M547, H547, G547⟩ := (id V545)
  obtain ⟨T547, h547, X547, e547, W547, st547⟩ := stI X545 hx hZ e545 Ar547 (j := (8 : Int32)) (inb_of S547 ⟨by decide, by decide⟩) (g := (mkF m 84 #[.val (.int p0), .val (.int p1), .val (.int p2), .val (.int p3), .val (.int N), .unset, .unset, .unset] [(.int (p1 + ((8 : Int32) * p2))), (.int (8 : Int32)), (.ref a529), (.ref a529)])) rfl rfl (hb hby at_84)
  have N547 := Fr.snoc X547 N545 ge529
  have O547 := O545.wr W547 ge529
  have z548 : h0.size ≤ h547.size := Nat.le_trans z546 (Nat.le_of_eq W547.size.symm)
  have V547 : Arv Z h547 a529 k529 .int (34 : Int32) [(.int p1), (.int (p1 + p2)), (.int (p1 + ((2 : Int32) * p2))), (.int (p1 + ((3 : Int32) * p2))), (.int (p1 + ((4 : Int32) * p2))), (.int (p1 + ((5 : Int32) * p2))), (.int (p1 + ((6 : Int32) * p2))), (.int (p1 + ((7 : Int32) * p2))), (.int (p1 + ((8 : Int32) * p2))), (.int (0 : Int32)), (.int (0 : Int32)), (.int (0 : Int32)), (.int (0 : Int32)), (.int (0 : Int32)), (.int (0 : Int32)), (.int (0 : Int32)), (.int (0 : Int32)), (.int (0 : Int32)), (.int (0 : Int32)), (.int (0 : Int32)), (.int (0 : Int32)), (.int (0 : Int32)), (.int (0 : Int32)), (.int (0 : Int32)), (.int (0 : Int32)), (.int (0 : Int32)), (.int (0 : Int32)), (.int (0 : Int32)), (.int (0 : Int32)), (.int (0 : Int32)), (.int (0 : Int32)), (.int (0 : Int32)), (.int (0 : Int32)), (.int (0 : Int32))] (.int (0 : Int32)) := Arv.set Ar547 q547 S547 M547 H547 G547 rfl W547 8 (by decide) (Nat.le_of_ble_eq_true rfl)
  refine own_go st547 ?_
  show OwnGo p e below _ (T547.setTop (mkF m 85 #[.val (.int p0), .val (.int p1), .val (.int p2), .val (.int p3), .val (.int N), .unset, .unset, .unset] [(.ref a529)]))
  refine own_go (fun _ k => XS.dup X547.here hx rfl (hb hby at_85) rfl rfl k) ?_
  show OwnGo p e below _ (T547.setTop (mkF m 86 #[.val (.int p0), .val (.int p1), .val (.int p2), .val (.int p3), .val (.int N), .unset, .unset, .unset] [(.ref a529), (.ref a529)]))
  refine own_go (fun _ k => XS.bipush X547.here hx rfl (hb hby at_86) k) ?_
  show OwnGo p e below _ (T547.setTop (mkF m 88 #[.val (.int p0), .val (.int p1), .val (.int p2), .val (.int p3), .val (.int N), .unset, .unset, .unset] [(.int (9 : Int32)), (.ref a529), (.ref a529)]))
  refine own_go (fun _ k => XS.iloadN X547.here hx rfl (hb hby at_88) rfl k) ?_
  show OwnGo p e below _ (T547.setTop (mkF m 89 #[.val (.int p0), .val (.int p1), .val (.int p2), .val (.int p3), .val (.int N), .unset, .unset, .unset] [(.int p1), (.int (9 : Int32)), (.ref a529), (.ref a529)]))
  refine own_go (fun _ k => XS.bipush X547.here hx rfl (hb hby at_89) k) ?_
  show OwnGo p e below _ (T547.setTop (mkF m 91 #[.val (.int p0), .val (.int p1), .val (.int p2), .val (.int p3), .val (.int N), .unset, .unset, .unset] [(.int (9 : Int32)), (.int p1), (.int (9 : Int32)), (.ref a529), (.ref a529)]))
  refine own_go (fun _ k => XS.iloadN X547.here hx rfl (hb hby at_91) rfl k) ?_
  show OwnGo p e below _ (T547.setTop (mkF m 92 #[.val (.int p0), .val (.int p1), .val (.int p2), .val (.int p3), .val (.int N), .unset, .unset, .unset] [(.int p2), (.int (9 : Int32)), (.int p1), (.int (9 : Int32)), (.ref a529), (.ref a529)]))
  refine own_go (fun _ k => XS.imul X547.here hx rfl (hb hby at_92) rfl k) ?_
  show OwnGo p e below _ (T547.setTop (mkF m 93 #[.val (.int p0), .val (.int p1), .val (.int p2), .val (.int p3), .val (.int N), .unset, .unset, .unset] [(.int ((9 : Int32) * p2)), (.int p1), (.int (9 : Int32)), (.ref a529), (.ref a529)]))
  refine own_go (fun _ k => XS.iadd X547.here hx rfl (hb hby at_93) rfl k) ?_
  show OwnGo p e below _ (T547.setTop (mkF m 94 #[.val (.int p0), .val (.int p1), .val (.int p2), .val (.int p3), .val (.int N), .unset, .unset, .unset] [(.int (p1 + ((9 : Int32) * p2))), (.int (9 : Int32)), (.ref a529), (.ref a529)]))
  obtain ⟨c549, Ar549, q549, S549, M549, H549, G549⟩ := (id V547)
  obtain ⟨T549, h549, X549, e549, W549, st549⟩ := stI X547 hx hZ e547 Ar549 (j := (9 : Int32)) (inb_of S549 ⟨by decide, by decide⟩) (g := (mkF m 94 #[.val (.int p0), .val (.int p1), .val (.int p2), .val (.int p3), .val (.int N), .unset, .unset, .unset] [(.int (p1 + ((9 : Int32) * p2))), (.int (9 : Int32)), (.ref a529), (.ref a529)])) rfl rfl (hb hby at_94)
  have N549 := Fr.snoc X549 N547 ge529
  have O549 := O547.wr W549 ge529
  have z550 : h0.size ≤ h549.size := Nat.le_trans z548 (Nat.le_of_eq W549.size.symm)
  have V549 : Arv Z h549 a529 k529 .int (34 : Int32) [(.int p1), (.int (p1 + p2)), (.int (p1 + ((2 : Int32) * p2))), (.int (p1 + ((3 : Int32) * p2))), (.int (p1 + ((4 : Int32) * p2))), (.int (p1 + ((5 : Int32) * p2))), (.int (p1 + ((6 : Int32) * p2))), (.int (p1 + ((7 : Int32) * p2))), (.int (p1 + ((8 : Int32) * p2))), (.int (p1 + ((9 : Int32) * p2))), (.int (0 : Int32)), (.int (0 : Int32)), (.int (0 : Int32)), (.int (0 : Int32)), (.int (0 : Int32)), (.int (0 : Int32)), (.int (0 : Int32)), (.int (0 : Int32)), (.int (0 : Int32)), (.int (0 : Int32)), (.int (0 : Int32)), (.int (0 : Int32)), (.int (0 : Int32)), (.int (0 : Int32)), (.int (0 : Int32)), (.int (0 : Int32)), (.int (0 : Int32)), (.int (0 : Int32)), (.int (0 : Int32)), (.int (0 : Int32)), (.int (0 : Int32)), (.int (0 : Int32)), (.int (0 : Int32)), (.int (0 : Int32))] (.int (0 : Int32)) := Arv.set Ar549 q549 S549 M549 H549 G549 rfl W549 9 (by decide) (Nat.le_of_ble_eq_true rfl)
  refine own_go st549 ?_
  show OwnGo p e below _ (T549.setTop (mkF m 95 #[.val (.int p0), .val (.int p1), .val (.int p2), .val (.int p3), .val (.int N), .unset, .unset, .unset] [(.ref a529)]))
  refine own_go (fun _ k => XS.dup X549.here hx rfl (hb hby at_95) rfl rfl k) ?_
  show OwnGo p e below _ (T549.setTop (mkF m 96 #[.val (.int p0), .val (.int p1), .val (.int p2), .val (.int p3), .val (.int N), .unset, .unset, .unset] [(.ref a529), (.ref a529)]))
  refine own_go (fun _ k => XS.bipush X549.here hx rfl (hb hby at_96) k) ?_
  show OwnGo p e below _ (T549.setTop (mkF m 98 #[.val (.int p0), .val (.int p1), .val (.int p2), .val (.int p3), .val (.int N), .unset, .unset, .unset] [(.int (10 : Int32)), (.ref a529), (.ref a529)]))
  refine own_go (fun _ k => XS.iloadN X549.here hx rfl (hb hby at_98) rfl k) ?_
  show OwnGo p e below _ (T549.setTop (mkF m 99 #[.val (.int p0), .val (.int p1), .val (.int p2), .val (.int p3), .val (.int N), .unset, .unset, .unset] [(.int p1), (.int (10 : Int32)), (.ref a529), (.ref a529)]))
  refine own_go (fun _ k => XS.bipush X549.here hx rfl (hb hby at_99) k) ?_
  show OwnGo p e below _ (T549.setTop (mkF m 101 #[.val (.int p0), .val (.int p1), .val (.int p2), .val (.int p3), .val (.int N), .unset, .unset, .unset] [(.int (10 : Int32)), (.int p1), (.int (10 : Int32)), (.ref a529), (.ref a529)]))
  refine own_go (fun _ k => XS.iloadN X549.here hx rfl (hb hby at_101) rfl k) ?_
  show OwnGo p e below _ (T549.setTop (mkF m 102 #[.val (.int p0), .val (.int p1), .val (.int p2), .val (.int p3), .val (.int N), .unset, .unset, .unset] [(.int p2), (.int (10 : Int32)), (.int p1), (.int (10 : Int32)), (.ref a529), (.ref a529)]))
  refine own_go (fun _ k => XS.imul X549.here hx rfl (hb hby at_102) rfl k) ?_
  show OwnGo p e below _ (T549.setTop (mkF m 103 #[.val (.int p0), .val (.int p1), .val (.int p2), .val (.int p3), .val (.int N), .unset, .unset, .unset] [(.int ((10 : Int32) * p2)), (.int p1), (.int (10 : Int32)), (.ref a529), (.ref a529)]))
  refine own_go (fun _ k => XS.iadd X549.here hx rfl (hb hby at_103) rfl k) ?_
  show OwnGo p e below _ (T549.setTop (mkF m 104 #[.val (.int p0), .val (.int p1), .val (.int p2), .val (.int p3), .val (.int N), .unset, .unset, .unset] [(.int (p1 + ((10 : Int32) * p2))), (.int (10 : Int32)), (.ref a529), (.ref a529)]))
  obtain ⟨c551, Ar551, q551, S551, M551, H551, G551⟩ := (id V549)
  obtain ⟨T551, h551, X551, e551, W551, st551⟩ := stI X549 hx hZ e549 Ar551 (j := (10 : Int32)) (inb_of S551 ⟨by decide, by decide⟩) (g := (mkF m 104 #[.val (.int p0), .val (.int p1), .val (.int p2), .val (.int p3), .val (.int N), .unset, .unset, .unset] [(.int (p1 + ((10 : Int32) * p2))), (.int (10 : Int32)), (.ref a529), (.ref a529)])) rfl rfl (hb hby at_104)
  have N551 := Fr.snoc X551 N549 ge529
  have O551 := O549.wr W551 ge529
  have z552 : h0.size ≤ h551.size := Nat.le_trans z550 (Nat.le_of_eq W551.size.symm)
  have V551 : Arv Z h551 a529 k529 .int (34 : Int32) [(.int p1), (.int (p1 + p2)), (.int (p1 + ((2 : Int32) * p2))), (.int (p1 + ((3 : Int32) * p2))), (.int (p1 + ((4 : Int32) * p2))), (.int (p1 + ((5 : Int32) * p2))), (.int (p1 + ((6 : Int32) * p2))), (.int (p1 + ((7 : Int32) * p2))), (.int (p1 + ((8 : Int32) * p2))), (.int (p1 + ((9 : Int32) * p2))), (.int (p1 + ((10 : Int32) * p2))), (.int (0 : Int32)), (.int (0 : Int32)), (.int (0 : Int32)), (.int (0 : Int32)), (.int (0 : Int32)), (.int (0 : Int32)), (.int (0 : Int32)), (.int (0 : Int32)), (.int (0 : Int32)), (.int (0 : Int32)), (.int (0 : Int32)), (.int (0 : Int32)), (.int (0 : Int32)), (.int (0 : Int32)), (.int (0 : Int32)), (.int (0 : Int32)), (.int (0 : Int32)), (.int (0 : Int32)), (.int (0 : Int32)), (.int (0 : Int32)), (.int (0 : Int32)), (.int (0 : Int32)), (.int (0 : Int32))] (.int (0 : Int32)) := Arv.set Ar551 q551 S551 M551 H551 G551 rfl W551 10 (by decide) (Nat.le_of_ble_eq_true rfl)
  refine own_go st551 ?_
  show OwnGo p e below _ (T551.setTop (mkF m 105 #[.val (.int p0), .val (.int p1), .val (.int p2), .val (.int p3), .val (.int N), .unset, .unset, .unset] [(.ref a529)]))
  refine own_go (fun _ k => XS.dup X551.here hx rfl (hb hby at_105) rfl rfl k) ?_
  show OwnGo p e below _ (T551.setTop (mkF m 106 #[.val (.int p0), .val (.int p1), .val (.int p2), .val (.int p3), .val (.int N), .unset, .unset, .unset] [(.ref a529), (.ref a529)]))
  refine own_go (fun _ k => XS.bipush X551.here hx rfl (hb hby at_106) k) ?_
  show OwnGo p e below _ (T551.setTop (mkF m 108 #[.val (.int p0), .val (.int p1), .val (.int p2), .val (.int p3), .val (.int N), .unset, .unset, .unset] [(.int (11 : Int32)), (.ref a529), (.ref a529)]))
  refine own_go (fun _ k => XS.iloadN X551.here hx rfl (hb hby at_108) rfl k) ?_
  show OwnGo p e below _ (T551.setTop (mkF m 109 #[.val (.int p0), .val (.int p1), .val (.int p2), .val (.int p3), .val (.int N), .unset, .unset, .unset] [(.int p1), (.int (11 : Int32)), (.ref a529), (.ref a529)]))
  refine own_go (fun _ k => XS.bipush X551.here hx rfl (hb hby at_109) k) ?_
  show OwnGo p e below _ (T551.setTop (mkF m 111 #[.val (.int p0), .val (.int p1), .val (.int p2), .val (.int p3), .val (.int N), .unset, .unset, .unset] [(.int (11 : Int32)), (.int p1), (.int (11 : Int32)), (.ref a529), (.ref a529)]))
  refine own_go (fun _ k => XS.iloadN X551.here hx rfl (hb hby at_111) rfl k) ?_
  show OwnGo p e below _ (T551.setTop (mkF m 112 #[.val (.int p0), .val (.int p1), .val (.int p2), .val (.int p3), .val (.int N), .unset, .unset, .unset] [(.int p2), (.int (11 : Int32)), (.int p1), (.int (11 : Int32)), (.ref a529), (.ref a529)]))
  refine own_go (fun _ k => XS.imul X551.here hx rfl (hb hby at_112) rfl k) ?_
  show OwnGo p e below _ (T551.setTop (mkF m 113 #[.val (.int p0), .val (.int p1), .val (.int p2), .val (.int p3), .val (.int N), .unset, .unset, .unset] [(.int ((11 : Int32) * p2)), (.int p1), (.int (11 : Int32)), (.ref a529), (.ref a529)]))
  refine own_go (fun _ k => XS.iadd X551.here hx rfl (hb hby at_113) rfl k) ?_
  show OwnGo p e below _ (T551.setTop (mkF m 114 #[.val (.int p0), .val (.int p1), .val (.int p2), .val (.int p3), .val (.int N), .unset, .unset, .unset] [(.int (p1 + ((11 : Int32) * p2))), (.int (11 : Int32)), (.ref a529), (.ref a529)]))
  obtain ⟨c553, Ar553, q553, S553, M553, H553, G553⟩ := (id V551)
  obtain ⟨T553, h553, X553, e553, W553, st553⟩ := stI X551 hx hZ e551 Ar553 (j := (11 : Int32)) (inb_of S553 ⟨by decide, by decide⟩) (g := (mkF m 114 #[.val (.int p0), .val (.int p1), .val (.int p2), .val (.int p3), .val (.int N), .unset, .unset, .unset] [(.int (p1 + ((11 : Int32) * p2))), (.int (11 : Int32)), (.ref a529), (.ref a529)])) rfl rfl (hb hby at_114)
  have N553 := Fr.snoc X553 N551 ge529
  have O553 := O551.wr W553 ge529
  have z554 : h0.size ≤ h553.size := Nat.le_trans z552 (Nat.le_of_eq W553.size.symm)
  have V553 : Arv Z h553 a529 k529 .int (34 : Int32) [(.int p1), (.int (p1 + p2)), (.int (p1 + ((2 : Int32) * p2))), (.int (p1 + ((3 : Int32) * p2))), (.int (p1 + ((4 : Int32) * p2))), (.int (p1 + ((5 : Int32) * p2))), (.int (p1 + ((6 : Int32) * p2))), (.int (p1 + ((7 : Int32) * p2))), (.int (p1 + ((8 : Int32) * p2))), (.int (p1 + ((9 : Int32) * p2))), (.int (p1 + ((10 : Int32) * p2))), (.int (p1 + ((11 : Int32) * p2))), (.int (0 : Int32)), (.int (0 : Int32)), (.int (0 : Int32)), (.int (0 : Int32)), (.int (0 : Int32)), (.int (0 : Int32)), (.int (0 : Int32)), (.int (0 : Int32)), (.int (0 : Int32)), (.int (0 : Int32)), (.int (0 : Int32)), (.int (0 : Int32)), (.int (0 : Int32)), (.int (0 : Int32)), (.int (0 : Int32)), (.int (0 : Int32)), (.int (0 : Int32)), (.int (0 : Int32)), (.int (0 : Int32)), (.int (0 : Int32)), (.int (0 : Int32)), (.int (0 : Int32))] (.int (0 : Int32)) := Arv.set Ar553 q553 S553 M553 H553 G553 rfl W553 11 (by decide) (Nat.le_of_ble_eq_true rfl)
  refine own_go st553 ?_
  show OwnGo p e below _ (T553.setTop (mkF m 115 #[.val (.int p0), .val (.int p1), .val (.int p2), .val (.int p3), .val (.int N), .unset, .unset, .unset] [(.ref a529)]))
  refine own_go (fun _ k => XS.dup X553.here hx rfl (hb hby at_115) rfl rfl k) ?_
  show OwnGo p e below _ (T553.setTop (mkF m 116 #[.val (.int p0), .val (.int p1), .val (.int p2), .val (.int p3), .val (.int N), .unset, .unset, .unset] [(.ref a529), (.ref a529)]))
  refine own_go (fun _ k => XS.bipush X553.here hx rfl (hb hby at_116) k) ?_
  show OwnGo p e below _ (T553.setTop (mkF m 118 #[.val (.int p0), .val (.int p1), .val (.int p2), .val (.int p3), .val (.int N), .unset, .unset, .unset] [(.int (12 : Int32)), (.ref a529), (.ref a529)]))
  refine own_go (fun _ k => XS.iloadN X553.here hx rfl (hb hby at_118) rfl k) ?_
  show OwnGo p e below _ (T553.setTop (mkF m 119 #[.val (.int p0), .val (.int p1), .val (.int p2), .val (.int p3), .val (.int N), .unset, .unset, .unset] [(.int p1), (.int (12 : Int32)), (.ref a529), (.ref a529)]))
  refine own_go (fun _ k => XS.bipush X553.here hx rfl (hb hby at_119) k) ?_
  show OwnGo p e below _ (T553.setTop (mkF m 121 #[.val (.int p0), .val (.int p1), .val (.int p2), .val (.int p3), .val (.int N), .unset, .unset, .unset] [(.int (12 : Int32)), (.int p1), (.int (12 : Int32)), (.ref a529), (.ref a529)]))
  refine own_go (fun _ k => XS.iloadN X553.here hx rfl (hb hby at_121) rfl k) ?_
  show OwnGo p e below _ (T553.setTop (mkF m 122 #[.val (.int p0), .val (.int p1), .val (.int p2), .val (.int p3), .val (.int N), .unset, .unset, .unset] [(.int p2), (.int (12 : Int32)), (.int p1), (.int (12 : Int32)), (.ref a529), (.ref a529)]))
  refine own_go (fun _ k => XS.imul X553.here hx rfl (hb hby at_122) rfl k) ?_
  show OwnGo p e below _ (T553.setTop (mkF m 123 #[.val (.int p0), .val (.int p1), .val (.int p2), .val (.int p3), .val (.int N), .unset, .unset, .unset] [(.int ((12 : Int32) * p2)), (.int p1), (.int (12 : Int32)), (.ref a529), (.ref a529)]))
  refine own_go (fun _ k => XS.iadd X553.here hx rfl (hb hby at_123) rfl k) ?_
  show OwnGo p e below _ (T553.setTop (mkF m 124 #[.val (.int p0), .val (.int p1), .val (.int p2), .val (.int p3), .val (.int N), .unset, .unset, .unset] [(.int (p1 + ((12 : Int32) * p2))), (.int (12 : Int32)), (.ref a529), (.ref a529)]))
  obtain ⟨c555, Ar555, q555, S555, M555, H555, G555⟩ := (id V553)
  obtain ⟨T555, h555, X555, e555, W555, st555⟩ := stI X553 hx hZ e553 Ar555 (j := (12 : Int32)) (inb_of S555 ⟨by decide, by decide⟩) (g := (mkF m 124 #[.val (.int p0), .val (.int p1), .val (.int p2), .val (.int p3), .val (.int N), .unset, .unset, .unset] [(.int (p1 + ((12 : Int32) * p2))), (.int (12 : Int32)), (.ref a529), (.ref a529)])) rfl rfl (hb hby at_124)
  have N555 := Fr.snoc X555 N553 ge529
  have O555 := O553.wr W555 ge529
  have z556 : h0.size ≤ h555.size := Nat.le_trans z554 (Nat.le_of_eq W555.size.symm)
  have V555 : Arv Z h555 a529 k529 .int (34 : Int32) [(.int p1), (.int (p1 + p2)), (.int (p1 + ((2 : Int32) * p2))), (.int (p1 + ((3 : Int32) * p2))), (.int (p1 + ((4 : Int32) * p2))), (.int (p1 + ((5 : Int32) * p2))), (.int (p1 + ((6 : Int32) * p2))), (.int (p1 + ((7 : Int32) * p2))), (.int (p1 + ((8 : Int32) * p2))), (.int (p1 + ((9 : Int32) * p2))), (.int (p1 + ((10 : Int32) * p2))), (.int (p1 + ((11 : Int32) * p2))), (.int (p1 + ((12 : Int32) * p2))), (.int (0 : Int32)), (.int (0 : Int32)), (.int (0 : Int32)), (.int (0 : Int32)), (.int (0 : Int32)), (.int (0 : Int32)), (.int (0 : Int32)), (.int (0 : Int32)), (.int (0 : Int32)), (.int (0 : Int32)), (.int (0 : Int32)), (.int (0 : Int32)), (.int (0 : Int32)), (.int (0 : Int32)), (.int (0 : Int32)), (.int (0 : Int32)), (.int (0 : Int32)), (.int (0 : Int32)), (.int (0 : Int32)), (.int (0 : Int32)), (.int (0 : Int32))] (.int (0 : Int32)) := Arv.set Ar555 q555 S555 M555 H555 G555 rfl W555 12 (by decide) (Nat.le_of_ble_eq_true rfl)
  refine own_go st555 ?_
  show OwnGo p e below _ (T555.setTop (mkF m 125 #[.val (.int p0), .val (.int p1), .val (.int p2), .val (.int p3), .val (.int N), .unset, .unset, .unset] [(.ref a529)]))
  refine own_go (fun _ k => XS.dup X555.here hx rfl (hb hby at_125) rfl rfl k) ?_
  show OwnGo p e below _ (T555.setTop (mkF m 126 #[.val (.int p0), .val (.int p1), .val (.int p2), .val (.int p3), .val (.int N), .unset, .unset, .unset] [(.ref a529), (.ref a529)]))
  refine own_go (fun _ k => XS.bipush X555.here hx rfl (hb hby at_126) k) ?_
  show OwnGo p e below _ (T555.setTop (mkF m 128 #[.val (.int p0), .val (.int p1), .val (.int p2), .val (.int p3), .val (.int N), .unset, .unset, .unset] [(.int (13 : Int32)), (.ref a529), (.ref a529)]))
  refine own_go (fun _ k => XS.iloadN X555.here hx rfl (hb hby at_128) rfl k) ?_
  show OwnGo p e below _ (T555.setTop (mkF m 129 #[.val (.int p0), .val (.int p1), .val (.int p2), .val (.int p3), .val (.int N), .unset, .unset, .unset] [(.int p1), (.int (13 : Int32)), (.ref a529), (.ref a529)]))
  refine own_go (fun _ k => XS.bipush X555.here hx rfl (hb hby at_129) k) ?_
  show OwnGo p e below _ (T555.setTop (mkF m 131 #[.val (.int p0), .val (.int p1), .val (.int p2), .val (.int p3), .val (.int N), .unset, .unset, .unset] [(.int (13 : Int32)), (.int p1), (.int (13 : Int32)), (.ref a529), (.ref a529)]))
  refine own_go (fun _ k => XS.iloadN X555.here hx rfl (hb hby at_131) rfl k) ?_
  show OwnGo p e below _ (T555.setTop (mkF m 132 #[.val (.int p0), .val (.int p1), .val (.int p2), .val (.int p3), .val (.int N), .unset, .unset, .unset] [(.int p2), (.int (13 : Int32)), (.int p1), (.int (13 : Int32)), (.ref a529), (.ref a529)]))
  refine own_go (fun _ k => XS.imul X555.here hx rfl (hb hby at_132) rfl k) ?_
  show OwnGo p e below _ (T555.setTop (mkF m 133 #[.val (.int p0), .val (.int p1), .val (.int p2), .val (.int p3), .val (.int N), .unset, .unset, .unset] [(.int ((13 : Int32) * p2)), (.int p1), (.int (13 : Int32)), (.ref a529), (.ref a529)]))
  refine own_go (fun _ k => XS.iadd X555.here hx rfl (hb hby at_133) rfl k) ?_
  show OwnGo p e below _ (T555.setTop (mkF m 134 #[.val (.int p0), .val (.int p1), .val (.int p2), .val (.int p3), .val (.int N), .unset, .unset, .unset] [(.int (p1 + ((13 : Int32) * p2))), (.int (13 : Int32)), (.ref a529), (.ref a529)]))
  obtain ⟨c557, Ar557, q557, S557, M557, H557, G557⟩ := (id V555)
  obtain ⟨T557, h557, X557, e557, W557, st557⟩ := stI X555 hx hZ e555 Ar557 (j := (13 : Int32)) (inb_of S557 ⟨by decide, by decide⟩) (g := (mkF m 134 #[.val (.int p0), .val (.int p1), .val (.int p2), .val (.int p3), .val (.int N), .unset, .unset, .unset] [(.int (p1 + ((13 : Int32) * p2))), (.int (13 : Int32)), (.ref a529), (.ref a529)])) rfl rfl (hb hby at_134)
  have N557 := Fr.snoc X557 N555 ge529
  have O557 := O555.wr W557 ge529
  have z558 : h0.size ≤ h557.size := Nat.le_trans z556 (Nat.le_of_eq W557.size.symm)
  have V557 : Arv Z h557 a529 k529 .int (34 : Int32) [(.int p1), (.int (p1 + p2)), (.int (p1 + ((2 : Int32) * p2))), (.int (p1 + ((3 : Int32) * p2))), (.int (p1 + ((4 : Int32) * p2))), (.int (p1 + ((5 : Int32) * p2))), (.int (p1 + ((6 : Int32) * p2))), (.int (p1 + ((7 : Int32) * p2))), (.int (p1 + ((8 : Int32) * p2))), (.int (p1 + ((9 : Int32) * p2))), (.int (p1 + ((10 : Int32) * p2))), (.int (p1 + ((11 : Int32) * p2))), (.int (p1 + ((12 : Int32) * p2))), (.int (p1 + ((13 : Int32) * p2))), (.int (0 : Int32)), (.int (0 : Int32)), (.int (0 : Int32)), (.int (0 : Int32)), (.int (0 : Int32)), (.int (0 : Int32)), (.int (0 : Int32)), (.int (0 : Int32)), (.int (0 : Int32)), (.int (0 : Int32)), (.int (0 : Int32)), (.int (0 : Int32)), (.int (0 : Int32)), (.int (0 : Int32)), (.int (0 : Int32)), (.int (0 : Int32)), (.int (0 : Int32)), (.int (0 : Int32)), (.int (0 : Int32)), (.int (0 : Int32))] (.int (0 : Int32)) := Arv.set Ar557 q557 S557 M557 H557 G557 rfl W557 13 (by decide) (Nat.le_of_ble_eq_true rfl)
  refine own_go st557 ?_
  show OwnGo p e below _ (T557.setTop (mkF m 135 #[.val (.int p0), .val (.int p1), .val (.int p2), .val (.int p3), .val (.int N), .unset, .unset, .unset] [(.ref a529)]))
  refine own_go (fun _ k => XS.dup X557.here hx rfl (hb hby at_135) rfl rfl k) ?_
  show OwnGo p e below _ (T557.setTop (mkF m 136 #[.val (.int p0), .val (.int p1), .val (.int p2), .val (.int p3), .val (.int N), .unset, .unset, .unset] [(.ref a529), (.ref a529)]))
  refine own_go (fun _ k => XS.bipush X557.here hx rfl (hb hby at_136) k) ?_
  show OwnGo p e below _ (T557.setTop (mkF m 138 #[.val (.int p0), .val (.int p1), .val (.int p2), .val (.int p3), .val (.int N), .unset, .unset, .unset] [(.int (14 : Int32)), (.ref a529), (.ref a529)]))
  refine own_go (fun _ k => XS.iloadN X557.here hx rfl (hb hby at_138) rfl k) ?_
  show OwnGo p e below _ (T557.setTop (mkF m 139 #[.val (.int p0), .val (.int p1), .val (.int p2), .val (.int p3), .val (.int N), .unset, .unset, .unset] [(.int p1), (.int (14 : Int32)), (.ref a529), (.ref a529)]))
  refine own_go (fun _ k => XS.bipush X557.here hx rfl (hb hby at_139) k) ?_
  show OwnGo p e below _ (T557.setTop (mkF m 141 #[.val (.int p0), .val (.int p1), .val (.int p2), .val (.int p3), .val (.int N), .unset, .unset, .unset] [(.int (14 : Int32)), (.int p1), (.int (14 : Int32)), (.ref a529), (.ref a529)]))
  refine own_go (fun _ k => XS.iloadN X557.here hx rfl (hb hby at_141) rfl k) ?_
  show OwnGo p e below _ (T557.setTop (mkF m 142 #[.val (.int p0), .val (.int p1), .val (.int p2), .val (.int p3), .val (.int N), .unset, .unset, .unset] [(.int p2), (.int (14 : Int32)), (.int p1), (.int (14 : Int32)), (.ref a529), (.ref a529)]))
  refine own_go (fun _ k => XS.imul X557.here hx rfl (hb hby at_142) rfl k) ?_
  show OwnGo p e below _ (T557.setTop (mkF m 143 #[.val (.int p0), .val (.int p1), .val (.int p2), .val (.int p3), .val (.int N), .unset, .unset, .unset] [(.int ((14 : Int32) * p2)), (.int p1), (.int (14 : Int32)), (.ref a529), (.ref a529)]))
  refine own_go (fun _ k => XS.iadd X557.here hx rfl (hb hby at_143) rfl k) ?_
  show OwnGo p e below _ (T557.setTop (mkF m 144 #[.val (.int p0), .val (.int p1), .val (.int p2), .val (.int p3), .val (.int N), .unset, .unset, .unset] [(.int (p1 + ((14 : Int32) * p2))), (.int (14 : Int32)), (.ref a529), (.ref a529)]))
  obtain ⟨c559, Ar559, q559, S559, M559, H559, G559⟩ := (id V557)
  obtain ⟨T559, h559, X559, e559, W559, st559⟩ := stI X557 hx hZ e557 Ar559 (j := (14 : Int32)) (inb_of S559 ⟨by decide, by decide⟩) (g := (mkF m 144 #[.val (.int p0), .val (.int p1), .val (.int p2), .val (.int p3), .val (.int N), .unset, .unset, .unset] [(.int (p1 + ((14 : Int32) * p2))), (.int (14 : Int32)), (.ref a529), (.ref a529)])) rfl rfl (hb hby at_144)
  have N559 := Fr.snoc X559 N557 ge529
  have O559 := O557.wr W559 ge529
  have z560 : h0.size ≤ h559.size := Nat.le_trans z558 (Nat.le_of_eq W559.size.symm)
  have V559 : Arv Z h559 a529 k529 .int (34 : Int32) [(.int p1), (.int (p1 + p2)), (.int (p1 + ((2 : Int32) * p2))), (.int (p1 + ((3 : Int32) * p2))), (.int (p1 + ((4 : Int32) * p2))), (.int (p1 + ((5 : Int32) * p2))), (.int (p1 + ((6 : Int32) * p2))), (.int (p1 + ((7 : Int32) * p2))), (.int (p1 + ((8 : Int32) * p2))), (.int (p1 + ((9 : Int32) * p2))), (.int (p1 + ((10 : Int32) * p2))), (.int (p1 + ((11 : Int32) * p2))), (.int (p1 + ((12 : Int32) * p2))), (.int (p1 + ((13 : Int32) * p2))), (.int (p1 + ((14 : Int32) * p2))), (.int (0 : Int32)), (.int (0 : Int32)), (.int (0 : Int32)), (.int (0 : Int32)), (.int (0 : Int32)), (.int (0 : Int32)), (.int (0 : Int32)), (.int (0 : Int32)), (.int (0 : Int32)), (.int (0 : Int32)), (.int (0 : Int32)), (.int (0 : Int32)), (.int (0 : Int32)), (.int (0 : Int32)), (.int (0 : Int32)), (.int (0 : Int32)), (.int (0 : Int32)), (.int (0 : Int32)), (.int (0 : Int32))] (.int (0 : Int32)) := Arv.set Ar559 q559 S559 M559 H559 G559 rfl W559 14 (by decide) (Nat.le_of_ble_eq_true rfl)
  refine own_go st559 ?_
  show OwnGo p e below _ (T559.setTop (mkF m 145 #[.val (.int p0), .val (.int p1), .val (.int p2), .val (.int p3), .val (.int N), .unset, .unset, .unset] [(.ref a529)]))
  refine own_go (fun _ k => XS.dup X559.here hx rfl (hb hby at_145) rfl rfl k) ?_
  show OwnGo p e below _ (T559.setTop (mkF m 146 #[.val (.int p0), .val (.int p1), .val (.int p2), .val (.int p3), .val (.int N), .unset, .unset, .unset] [(.ref a529), (.ref a529)]))
  refine own_go (fun _ k => XS.bipush X559.here hx rfl (hb hby at_146) k) ?_
  show OwnGo p e below _ (T559.setTop (mkF m 148 #[.val (.int p0), .val (.int p1), .val (.int p2), .val (.int p3), .val (.int N), .unset, .unset, .unset] [(.int (15 : Int32)), (.ref a529), (.ref a529)]))
  refine own_go (fun _ k => XS.iloadN X559.here hx rfl (hb hby at_148) rfl k) ?_
  show OwnGo p e below _ (T559.setTop (mkF m 149 #[.val (.int p0), .val (.int p1), .val (.int p2), .val (.int p3), .val (.int N), .unset, .unset, .unset] [(.int p1), (.int (15 : Int32)), (.ref a529), (.ref a529)]))
  refine own_go (fun _ k => XS.bipush X559.here hx rfl (hb hby at_149) k) ?_
  show OwnGo p e below _ (T559.setTop (mkF m 151 #[.val (.int p0), .val (.int p1), .val (.int p2), .val (.int p3), .val (.int N), .unset, .unset, .unset] [(.int (15 : Int32)), (.int p1), (.int (15 : Int32)), (.ref a529), (.ref a529)]))
  refine own_go (fun _ k => XS.iloadN X559.here hx rfl (hb hby at_151) rfl k) ?_
  show OwnGo p e below _ (T559.setTop (mkF m 152 #[.val (.int p0), .val (.int p1), .val (.int p2), .val (.int p3), .val (.int N), .unset, .unset, .unset] [(.int p2), (.int (15 : Int32)), (.int p1), (.int (15 : Int32)), (.ref a529), (.ref a529)]))
  refine own_go (fun _ k => XS.imul X559.here hx rfl (hb hby at_152) rfl k) ?_
  show OwnGo p e below _ (T559.setTop (mkF m 153 #[.val (.int p0), .val (.int p1), .val (.int p2), .val (.int p3), .val (.int N), .unset, .unset, .unset] [(.int ((15 : Int32) * p2)), (.int p1), (.int (15 : Int32)), (.ref a529), (.ref a529)]))
  refine own_go (fun _ k => XS.iadd X559.here hx rfl (hb hby at_153) rfl k) ?_
  show OwnGo p e below _ (T559.setTop (mkF m 154 #[.val (.int p0), .val (.int p1), .val (.int p2), .val (.int p3), .val (.int N), .unset, .unset, .unset] [(.int (p1 + ((15 : Int32) * p2))), (.int (15 : Int32)), (.ref a529), (.ref a529)]))
  obtain ⟨c561, Ar561, q561, S561, M561, H561, G561⟩ := (id V559)
  obtain ⟨T561, h561, X561, e561, W561, st561⟩ := stI X559 hx hZ e559 Ar561 (j := (15 : Int32)) (inb_of S561 ⟨by decide, by decide⟩) (g := (mkF m 154 #[.val (.int p0), .val (.int p1), .val (.int p2), .val (.int p3), .val (.int N), .unset, .unset, .unset] [(.int (p1 + ((15 : Int32) * p2))), (.int (15 : Int32)), (.ref a529), (.ref a529)])) rfl rfl (hb hby at_154)
  have N561 := Fr.snoc X561 N559 ge529
  have O561 := O559.wr W561 ge529
  have z562 : h0.size ≤ h561.size := Nat.le_trans z560 (Nat.le_of_eq W561.size.symm)
  have V561 : Arv Z h561 a529 k529 .int (34 : Int32) [(.int p1), (.int (p1 + p2)), (.int (p1 + ((2 : Int32) * p2))), (.int (p1 + ((3 : Int32) * p2))), (.int (p1 + ((4 : Int32) * p2))), (.int (p1 + ((5 : Int32) * p2))), (.int (p1 + ((6 : Int32) * p2))), (.int (p1 + ((7 : Int32) * p2))), (.int (p1 + ((8 : Int32) * p2))), (.int (p1 + ((9 : Int32) * p2))), (.int (p1 + ((10 : Int32) * p2))), (.int (p1 + ((11 : Int32) * p2))), (.int (p1 + ((12 : Int32) * p2))), (.int (p1 + ((13 : Int32) * p2))), (.int (p1 + ((14 : Int32) * p2))), (.int (p1 + ((15 : Int32) * p2))), (.int (0 : Int32)), (.int (0 : Int32)), (.int (0 : Int32)), (.int (0 : Int32)), (.int (0 : Int32)), (.int (0 : Int32)), (.int (0 : Int32)), (.int (0 : Int32)), (.int (0 : Int32)), (.int (0 : Int32)), (.int (0 : Int32)), (.int (0 : Int32)), (.int (0 : Int32)), (.int (0 : Int32)), (.int (0 : Int32)), (.int (0 : Int32)), (.int (0 : Int32)), (.int (0 : Int32))] (.int (0 : Int32)) := Arv.set Ar561 q561 S561 M561 H561 G561 rfl W561 15 (by decide) (Nat.le_of_ble_eq_true rfl)
  refine own_go st561 ?_
  show OwnGo p e below _ (T561.setTop (mkF m 155 #[.val (.int p0), .val (.int p1), .val (.int p2), .val (.int p3), .val (.int N), .unset, .unset, .unset] [(.ref a529)]))
  refine own_go (fun _ k => XS.dup X561.here hx rfl (hb hby at_155) rfl rfl k) ?_
  show OwnGo p e below _ (T561.setTop (mkF m 156 #[.val (.int p0), .val (.int p1), .val (.int p2), .val (.int p3), .val (.int N), .unset, .unset, .unset] [(.ref a529), (.ref a529)]))
  refine own_go (fun _ k => XS.bipush X561.here hx rfl (hb hby at_156) k) ?_
  show OwnGo p e below _ (T561.setTop (mkF m 158 #[.val (.int p0), .val (.int p1), .val (.int p2), .val (.int p3), .val (.int N), .unset, .unset, .unset] [(.int (16 : Int32)), (.ref a529), (.ref a529)]))
  refine own_go (fun _ k => XS.iloadN X561.here hx rfl (hb hby at_158) rfl k) ?_
  show OwnGo p e below _ (T561.setTop (mkF m 159 #[.val (.int p0), .val (.int p1), .val (.int p2), .val (.int p3), .val (.int N), .unset, .unset, .unset] [(.int p1), (.int (16 : Int32)), (.ref a529), (.ref a529)]))
  refine own_go (fun _ k => XS.bipush X561.here hx rfl (hb hby at_159) k) ?_
  show OwnGo p e below _ (T561.setTop (mkF m 161 #[.val (.int p0), .val (.int p1), .val (.int p2), .val (.int p3), .val (.int N), .unset, .unset, .unset] [(.int (16 : Int32)), (.int p1), (.int (16 : Int32)), (.ref a529), (.ref a529)]))
  refine own_go (fun _ k => XS.iloadN X561.here hx rfl (hb hby at_161) rfl k) ?_
  show OwnGo p e below _ (T561.setTop (mkF m 162 #[.val (.int p0), .val (.int p1), .val (.int p2), .val (.int p3), .val (.int N), .unset, .unset, .unset] [(.int p2), (.int (16 : Int32)), (.int p1), (.int (16 : Int32)), (.ref a529), (.ref a529)]))
  refine own_go (fun _ k => XS.imul X561.here hx rfl (hb hby at_162) rfl k) ?_
  show OwnGo p e below _ (T561.setTop (mkF m 163 #[.val (.int p0), .val (.int p1), .val (.int p2), .val (.int p3), .val (.int N), .unset, .unset, .unset] [(.int ((16 : Int32) * p2)), (.int p1), (.int (16 : Int32)), (.ref a529), (.ref a529)]))
  refine own_go (fun _ k => XS.iadd X561.here hx rfl (hb hby at_163) rfl k) ?_
  show OwnGo p e below _ (T561.setTop (mkF m 164 #[.val (.int p0), .val (.int p1), .val (.int p2), .val (.int p3), .val (.int N), .unset, .unset, .unset] [(.int (p1 + ((16 : Int32) * p2))), (.int (16 : Int32)), (.ref a529), (.ref a529)]))
  obtain ⟨c563, Ar563, q563, S563, M563, H563, G563⟩ := (id V561)
  obtain ⟨T563, h563, X563, e563, W563, st563⟩ := stI X561 hx hZ e561 Ar563 (j := (16 : Int32)) (inb_of S563 ⟨by decide, by decide⟩) (g := (mkF m 164 #[.val (.int p0), .val (.int p1), .val (.int p2), .val (.int p3), .val (.int N), .unset, .unset, .unset] [(.int (p1 + ((16 : Int32) * p2))), (.int (16 : Int32)), (.ref a529), (.ref a529)])) rfl rfl (hb hby at_164)
  have N563 := Fr.snoc X563 N561 ge529
  have O563 := O561.wr W563 ge529
  have z564 : h0.size ≤ h563.size := Nat.le_trans z562 (Nat.le_of_eq W563.size.symm)
  have V563 : Arv Z h563 a529 k529 .int (34 : Int32) [(.int p1), (.int (p1 + p2)), (.int (p1 + ((2 : Int32) * p2))), (.int (p1 + ((3 : Int32) * p2))), (.int (p1 + ((4 : Int32) * p2))), (.int (p1 + ((5 : Int32) * p2))), (.int (p1 + ((6 : Int32) * p2))), (.int (p1 + ((7 : Int32) * p2))), (.int (p1 + ((8 : Int32) * p2))), (.int (p1 + ((9 : Int32) * p2))), (.int (p1 + ((10 : Int32) * p2))), (.int (p1 + ((11 : Int32) * p2))), (.int (p1 + ((12 : Int32) * p2))), (.int (p1 + ((13 : Int32) * p2))), (.int (p1 + ((14 : Int32) * p2))), (.int (p1 + ((15 : Int32) * p2))), (.int (p1 + ((16 : Int32) * p2))), (.int (0 : Int32)), (.int (0 : Int32)), (.int (0 : Int32)), (.int (0 : Int32)), (.int (0 : Int32)), (.int (0 : Int32)), (.int (0 : Int32)), (.int (0 : Int32)), (.int (0 : Int32)), (.int (0 : Int32)), (.int (0 : Int32)), (.int (0 : Int32)), (.int (0 : Int32)), (.int (0 : Int32)), (.int (0 : Int32)), (.int (0 : Int32)), (.int (0 : Int32))] (.int (0 : Int32)) := Arv.set Ar563 q563 S563 M563 H563 G563 rfl W563 16 (by decide) (Nat.le_of_ble_eq_true rfl)
  refine own_go st563 ?_
  show OwnGo p e below _ (T563.setTop (mkF m 165 #[.val (.int p0), .val (.int p1), .val (.int p2), .val (.int p3), .val (.int N), .unset, .unset, .unset] [(.ref a529)]))
  refine own_go (fun _ k => XS.dup X563.here hx rfl (hb hby at_165) rfl rfl k) ?_
  show OwnGo p e below _ (T563.setTop (mkF m 166 #[.val (.int p0), .val (.int p1), .val (.int p2), .val (.int p3), .val (.int N), .unset, .unset, .unset] [(.ref a529), (.ref a529)]))
  refine own_go (fun _ k => XS.bipush X563.here hx rfl (hb hby at_166) k) ?_
  show OwnGo p e below _ (T563.setTop (mkF m 168 #[.val (.int p0), .val (.int p1), .val (.int p2), .val (.int p3), .val (.int N), .unset, .unset, .unset] [(.int (17 : Int32)), (.ref a529), (.ref a529)]))
  refine own_go (fun _ k => XS.iloadN X563.here hx rfl (hb hby at_168) rfl k) ?_
  show OwnGo p e below _ (T563.setTop (mkF m 169 #[.val (.int p0), .val (.int p1), .val (.int p2), .val (.int p3), .val (.int N), .unset, .unset, .unset] [(.int p1), (.int (17 : Int32)), (.ref a529), (.ref a529)]))
  refine own_go (fun _ k => XS.bipush X563.here hx rfl (hb hby at_169) k) ?_
  show OwnGo p e below _ (T563.setTop (mkF m 171 #[.val (.int p0), .val (.int p1), .val (.int p2), .val (.int p3), .val (.int N), .unset, .unset, .unset] [(.int (17 : Int32)), (.int p1), (.int (17 : Int32)), (.ref a529), (.ref a529)]))
  refine own_go (fun _ k => XS.iloadN X563.here hx rfl (hb hby at_171) rfl k) ?_
  show OwnGo p e below _ (T563.setTop (mkF m 172 #[.val (.int p0), .val (.int p1), .val (.int p2), .val (.int p3), .val (.int N), .unset, .unset, .unset] [(.int p2), (.int (17 : Int32)), (.int p1), (.int (17 : Int32)), (.ref a529), (.ref a529)]))
  refine own_go (fun _ k => XS.imul X563.here hx rfl (hb hby at_172) rfl k) ?_
  show OwnGo p e below _ (T563.setTop (mkF m 173 #[.val (.int p0), .val (.int p1), .val (.int p2), .val (.int p3), .val (.int N), .unset, .unset, .unset] [(.int ((17 : Int32) * p2)), (.int p1), (.int (17 : Int32)), (.ref a529), (.ref a529)]))
  refine own_go (fun _ k => XS.iadd X563.here hx rfl (hb hby at_173) rfl k) ?_
  show OwnGo p e below _ (T563.setTop (mkF m 174 #[.val (.int p0), .val (.int p1), .val (.int p2), .val (.int p3), .val (.int N), .unset, .unset, .unset] [(.int (p1 + ((17 : Int32) * p2))), (.int (17 : Int32)), (.ref a529), (.ref a529)]))
  obtain ⟨c565, Ar565, q565, S565, M565, H565, G565⟩ := (id V563)
  obtain ⟨T565, h565, X565, e565, W565, st565⟩ := stI X563 hx hZ e563 Ar565 (j := (17 : Int32)) (inb_of S565 ⟨by decide, by decide⟩) (g := (mkF m 174 #[.val (.int p0), .val (.int p1), .val (.int p2), .val (.int p3), .val (.int N), .unset, .unset, .unset] [(.int (p1 + ((17 : Int32) * p2))), (.int (17 : Int32)), (.ref a529), (.ref a529)])) rfl rfl (hb hby at_174)
  have N565 := Fr.snoc X565 N563 ge529
  have O565 := O563.wr W565 ge529
  have z566 : h0.size ≤ h565.size := Nat.le_trans z564 (Nat.le_of_eq W565.size.symm)
  have V565 : Arv Z h565 a529 k529 .int (34 : Int32) [(.int p1), (.int (p1 + p2)), (.int (p1 + ((2 : Int32) * p2))), (.int (p1 + ((3 : Int32) * p2))), (.int (p1 + ((4 : Int32) * p2))), (.int (p1 + ((5 : Int32) * p2))), (.int (p1 + ((6 : Int32) * p2))), (.int (p1 + ((7 : Int32) * p2))), (.int (p1 + ((8 : Int32) * p2))), (.int (p1 + ((9 : Int32) * p2))), (.int (p1 + ((10 : Int32) * p2))), (.int (p1 + ((11 : Int32) * p2))), (.int (p1 + ((12 : Int32) * p2))), (.int (p1 + ((13 : Int32) * p2))), (.int (p1 + ((14 : Int32) * p2))), (.int (p1 + ((15 : Int32) * p2))), (.int (p1 + ((16 : Int32) * p2))), (.int (p1 + ((17 : Int32) * p2))), (.int (0 : Int32)), (.int (0 : Int32)), (.int (0 : Int32)), (.int (0 : Int32)), (.int (0 : Int32)), (.int (0 : Int32)), (.int (0 : Int32)), (.int (0 : Int32)), (.int (0 : Int32)), (.int (0 : Int32)), (.int (0 : Int32)), (.int (0 : Int32)), (.int (0 : Int32)), (.int (0 : Int32)), (.int (0 : Int32)), (.int (0 : Int32))] (.int (0 : Int32)) := Arv.set Ar565 q565 S565 M565 H565 G565 rfl W565 17 (by decide) (Nat.le_of_ble_eq_true rfl)
  refine own_go st565 ?_
  show OwnGo p e below _ (T565.setTop (mkF m 175 #[.val (.int p0), .val (.int p1), .val (.int p2), .val (.int p3), .val (.int N), .unset, .unset, .unset] [(.ref a529)]))
  refine own_go (fun _ k => XS.dup X565.here hx rfl (hb hby at_175) rfl rfl k) ?_
  show OwnGo p e below _ (T565.setTop (mkF m 176 #[.val (.int p0), .val (.int p1), .val (.int p2), .val (.int p3), .val (.int N), .unset, .unset, .unset] [(.ref a529), (.ref a529)]))
  refine own_go (fun _ k => XS.bipush X565.here hx rfl (hb hby at_176) k) ?_
  show OwnGo p e below _ (T565.setTop (mkF m 178 #[.val (.int p0), .val (.int p1), .val (.int p2), .val (.int p3), .val (.int N), .unset, .unset, .unset] [(.int (18 : Int32)), (.ref a529), (.ref a529)]))
  refine own_go (fun _ k => XS.iloadN X565.here hx rfl (hb hby at_178) rfl k) ?_
  show OwnGo p e below _ (T565.setTop (mkF m 179 #[.val (.int p0), .val (.int p1), .val (.int p2), .val (.int p3), .val (.int N), .unset, .unset, .unset] [(.int p1), (.int (18 : Int32)), (.ref a529), (.ref a529)]))
  refine own_go (fun _ k => XS.bipush X565.here hx rfl (hb hby at_179) k) ?_
  show OwnGo p e below _ (T565.setTop (mkF m 181 #[.val (.int p0), .val (.int p1), .val (.int p2), .val (.int p3), .val (.int N), .unset, .unset, .unset] [(.int (18 : Int32)), (.int p1), (.int (18 : Int32)), (.ref a529), (.ref a529)]))
  refine own_go (fun _ k => XS.iloadN X565.here hx rfl (hb hby at_181) rfl k) ?_
  show OwnGo p e below _ (T565.setTop (mkF m 182 #[.val (.int p0), .val (.int p1), .val (.int p2), .val (.int p3), .val (.int N), .unset, .unset, .unset] [(.int p2), (.int (18 : Int32)), (.int p1), (.int (18 : Int32)), (.ref a529), (.ref a529)]))
  refine own_go (fun _ k => XS.imul X565.here hx rfl (hb hby at_182) rfl k) ?_
  show OwnGo p e below _ (T565.setTop (mkF m 183 #[.val (.int p0), .val (.int p1), .val (.int p2), .val (.int p3), .val (.int N), .unset, .unset, .unset] [(.int ((18 : Int32) * p2)), (.int p1), (.int (18 : Int32)), (.ref a529), (.ref a529)]))
  refine own_go (fun _ k => XS.iadd X565.here hx rfl (hb hby at_183) rfl k) ?_
  show OwnGo p e below _ (T565.setTop (mkF m 184 #[.val (.int p0), .val (.int p1), .val (.int p2), .val (.int p3), .val (.int N), .unset, .unset, .unset] [(.int (p1 + ((18 : Int32) * p2))), (.int (18 : Int32)), (.ref a529), (.ref a529)]))
  obtain ⟨c567, Ar567, q567, S567, M567, H567, G567⟩ := (id V565)
  obtain ⟨T567, h567, X567, e567, W567, st567⟩ := stI X565 hx hZ e565 Ar567 (j := (18 : Int32)) (inb_of S567 ⟨by decide, by decide⟩) (g := (mkF m 184 #[.val (.int p0), .val (.int p1), .val (.int p2), .val (.int p3), .val (.int N), .unset, .unset, .unset] [(.int (p1 + ((18 : Int32) * p2))), (.int (18 : Int32)), (.ref a529), (.ref a529)])) rfl rfl (hb hby at_184)
  have N567 := Fr.snoc X567 N565 ge529
  have O567 := O565.wr W567 ge529
  have z568 : h0.size ≤ h567.size := Nat.le_trans z566 (Nat.le_of_eq W567.size.symm)
  have V567 : Arv Z h567 a529 k529 .int (34 : Int32) [(.int p1), (.int (p1 + p2)), (.int (p1 + ((2 : Int32) * p2))), (.int (p1 + ((3 : Int32) * p2))), (.int (p1 + ((4 : Int32) * p2))), (.int (p1 + ((5 : Int32) * p2))), (.int (p1 + ((6 : Int32) * p2))), (.int (p1 + ((7 : Int32) * p2))), (.int (p1 + ((8 : Int32) * p2))), (.int (p1 + ((9 : Int32) * p2))), (.int (p1 + ((10 : Int32) * p2))), (.int (p1 + ((11 : Int32) * p2))), (.int (p1 + ((12 : Int32) * p2))), (.int (p1 + ((13 : Int32) * p2))), (.int (p1 + ((14 : Int32) * p2))), (.int (p1 + ((15 : Int32) * p2))), (.int (p1 + ((16 : Int32) * p2))), (.int (p1 + ((17 : Int32) * p2))), (.int (p1 + ((18 : Int32) * p2))), (.int (0 : Int32)), (.int (0 : Int32)), (.int (0 : Int32)), (.int (0 : Int32)), (.int (0 : Int32)), (.int (0 : Int32)), (.int (0 : Int32)), (.int (0 : Int32)), (.int (0 : Int32)), (.int (0 : Int32)), (.int (0 : Int32)), (.int (0 : Int32)), (.int (0 : Int32)), (.int (0 : Int32)), (.int (0 : Int32))] (.int (0 : Int32)) := Arv.set Ar567 q567 S567 M567 H567 G567 rfl W567 18 (by decide) (Nat.le_of_ble_eq_true rfl)
  refine own_go st567 ?_
  show OwnGo p e below _ (T567.setTop (mkF m 185 #[.val (.int p0), .val (.int p1), .val (.int p2), .val (.int p3), .val (.int N), .unset, .unset, .unset] [(.ref a529)]))
  refine own_go (fun _ k => XS.dup X567.here hx rfl (hb hby at_185) rfl rfl k) ?_
  show OwnGo p e below _ (T567.setTop (mkF m 186 #[.val (.int p0), .val (.int p1), .val (.int p2), .val (.int p3), .val (.int N), .unset, .unset, .unset] [(.ref a529), (.ref a529)]))
  refine own_go (fun _ k => XS.bipush X567.here hx rfl (hb hby at_186) k) ?_
  show OwnGo p e below _ (T567.setTop (mkF m 188 #[.val (.int p0), .val (.int p1), .val (.int p2), .val (.int p3), .val (.int N), .unset, .unset, .unset] [(.int (19 : Int32)), (.ref a529), (.ref a529)]))
  refine own_go (fun _ k => XS.iloadN X567.here hx rfl (hb hby at_188) rfl k) ?_
  show OwnGo p e below _ (T567.setTop (mkF m 189 #[.val (.int p0), .val (.int p1), .val (.int p2), .val (.int p3), .val (.int N), .unset, .unset, .unset] [(.int p1), (.int (19 : Int32)), (.ref a529), (.ref a529)]))
  refine own_go (fun _ k => XS.bipush X567.here hx rfl (hb hby at_189) k) ?_
  show OwnGo p e below _ (T567.setTop (mkF m 191 #[.val (.int p0), .val (.int p1), .val (.int p2), .val (.int p3), .val (.int N), .unset, .unset, .unset] [(.int (19 : Int32)), (.int p1), (.int (19 : Int32)), (.ref a529), (.ref a529)]))
  refine own_go (fun _ k => XS.iloadN X567.here hx rfl (hb hby at_191) rfl k) ?_
  show OwnGo p e below _ (T567.setTop (mkF m 192 #[.val (.int p0), .val (.int p1), .val (.int p2), .val (.int p3), .val (.int N), .unset, .unset, .unset] [(.int p2), (.int (19 : Int32)), (.int p1), (.int (19 : Int32)), (.ref a529), (.ref a529)]))
  refine own_go (fun _ k => XS.imul X567.here hx rfl (hb hby at_192) rfl k) ?_
  show OwnGo p e below _ (T567.setTop (mkF m 193 #[.val (.int p0), .val (.int p1), .val (.int p2), .val (.int p3), .val (.int N), .unset, .unset, .unset] [(.int ((19 : Int32) * p2)), (.int p1), (.int (19 : Int32)), (.ref a529), (.ref a529)]))
  refine own_go (fun _ k => XS.iadd X567.here hx rfl (hb hby at_193) rfl k) ?_
  show OwnGo p e below _ (T567.setTop (mkF m 194 #[.val (.int p0), .val (.int p1), .val (.int p2), .val (.int p3), .val (.int N), .unset, .unset, .unset] [(.int (p1 + ((19 : Int32) * p2))), (.int (19 : Int32)), (.ref a529), (.ref a529)]))
  obtain ⟨c569, Ar569, q569, S569, M569, H569, G569⟩ := (id V567)
  obtain ⟨T569, h569, X569, e569, W569, st569⟩ := stI X567 hx hZ e567 Ar569 (j := (19 : Int32)) (inb_of S569 ⟨by decide, by decide⟩) (g := (mkF m 194 #[.val (.int p0), .val (.int p1), .val (.int p2), .val (.int p3), .val (.int N), .unset, .unset, .unset] [(.int (p1 + ((19 : Int32) * p2))), (.int (19 : Int32)), (.ref a529), (.ref a529)])) rfl rfl (hb hby at_194)
  have N569 := Fr.snoc X569 N567 ge529
  have O569 := O567.wr W569 ge529
  have z570 : h0.size ≤ h569.size := Nat.le_trans z568 (Nat.le_of_eq W569.size.symm)
  have V569 : Arv Z h569 a529 k529 .int (34 : Int32) [(.int p1), (.int (p1 + p2)), (.int (p1 + ((2 : Int32) * p2))), (.int (p1 + ((3 : Int32) * p2))), (.int (p1 + ((4 : Int32) * p2))), (.int (p1 + ((5 : Int32) * p2))), (.int (p1 + ((6 : Int32) * p2))), (.int (p1 + ((7 : Int32) * p2))), (.int (p1 + ((8 : Int32) * p2))), (.int (p1 + ((9 : Int32) * p2))), (.int (p1 + ((10 : Int32) * p2))), (.int (p1 + ((11 : Int32) * p2))), (.int (p1 + ((12 : Int32) * p2))), (.int (p1 + ((13 : Int32) * p2))), (.int (p1 + ((14 : Int32) * p2))), (.int (p1 + ((15 : Int32) * p2))), (.int (p1 + ((16 : Int32) * p2))), (.int (p1 + ((17 : Int32) * p2))), (.int (p1 + ((18 : Int32) * p2))), (.int (p1 + ((19 : Int32) * p2))), (.int (0 : Int32)), (.int (0 : Int32)), (.int (0 : Int32)), (.int (0 : Int32)), (.int (0 : Int32)), (.int (0 : Int32)), (.int (0 : Int32)), (.int (0 : Int32)), (.int (0 : Int32)), (.int (0 : Int32)), (.int (0 : Int32)), (.int (0 : Int32)), (.int (0 : Int32)), (.int (0 : Int32))] (.int (0 : Int32)) := Arv.set Ar569 q569 S569 M569 H569 G569 rfl W569 19 (by decide) (Nat.le_of_ble_eq_true rfl)
  refine own_go st569 ?_
  show OwnGo p e below _ (T569.setTop (mkF m 195 #[.val (.int p0), .val (.int p1), .val (.int p2), .val (.int p3), .val (.int N), .unset, .unset, .unset] [(.ref a529)]))
  refine own_go (fun _ k => XS.dup X569.here hx rfl (hb hby at_195) rfl rfl k) ?_
  show OwnGo p e below _ (T569.setTop (mkF m 196 #[.val (.int p0), .val (.int p1), .val (.int p2), .val (.int p3), .val (.int N), .unset, .unset, .unset] [(.ref a529), (.ref a529)]))
  refine own_go (fun _ k => XS.bipush X569.here hx rfl (hb hby at_196) k) ?_
  show OwnGo p e below _ (T569.setTop (mkF m 198 #[.val (.int p0), .val (.int p1), .val (.int p2), .val (.int p3), .val (.int N), .unset, .unset, .unset] [(.int (20 : Int32)), (.ref a529), (.ref a529)]))
  refine own_go (fun _ k => XS.iloadN X569.here hx rfl (hb hby at_198) rfl k) ?_
  show OwnGo p e below _ (T569.setTop (mkF m 199 #[.val (.int p0), .val (.int p1), .val (.int p2), .val (.int p3), .val (.int N), .unset, .unset, .unset] [(.int p1), (.int (20 : Int32)), (.ref a529), (.ref a529)]))
  refine own_go (fun _ k => XS.bipush X569.here hx rfl (hb hby at_199) k) ?_
  show OwnGo p e below _ (T569.setTop (mkF m 201 #[.val (.int p0), .val (.int p1), .val (.int p2), .val (.int p3), .val (.int N), .unset, .unset, .unset] [(.int (20 : Int32)), (.int p1), (.int (20 : Int32)), (.ref a529), (.ref a529)]))
  refine own_go (fun _ k => XS.iloadN X569.here hx rfl (hb hby at_201) rfl k) ?_
  show OwnGo p e below _ (T569.setTop (mkF m 202 #[.val (.int p0), .val (.int p1), .val (.int p2), .val (.int p3), .val (.int N), .unset, .unset, .unset] [(.int p2), (.int (20 : Int32)), (.int p1), (.int (20 : Int32)), (.ref a529), (.ref a529)]))
  refine own_go (fun _ k => XS.imul X569.here hx rfl (hb hby at_202) rfl k) ?_
  show OwnGo p e below _ (T569.setTop (mkF m 203 #[.val (.int p0), .val (.int p1), .val (.int p2), .val (.int p3), .val (.int N), .unset, .unset, .unset] [(.int ((20 : Int32) * p2)), (.int p1), (.int (20 : Int32)), (.ref a529), (.ref a529)]))
  refine own_go (fun _ k => XS.iadd X569.here hx rfl (hb hby at_203) rfl k) ?_
  show OwnGo p e below _ (T569.setTop (mkF m 204 #[.val (.int p0), .val (.int p1), .val (.int p2), .val (.int p3), .val (.int N), .unset, .unset, .unset] [(.int (p1 + ((20 : Int32) * p2))), (.int (20 : Int32)), (.ref a529), (.ref a529)]))
  obtain ⟨c571, Ar571, q571, S571, M571, H571, G571⟩ := (id V569)
  obtain ⟨T571, h571, X571, e571, W571, st571⟩ := stI X569 hx hZ e569 Ar571 (j := (20 : Int32)) (inb_of S571 ⟨by decide, by decide⟩) (g := (mkF m 204 #[.val (.int p0), .val (.int p1), .val (.int p2), .val (.int p3), .val (.int N), .unset, .unset, .unset] [(.int (p1 + ((20 : Int32) * p2))), (.int (20 : Int32)), (.ref a529), (.ref a529)])) rfl rfl (hb hby at_204)
  have N571 := Fr.snoc X571 N569 ge529
  have O571 := O569.wr W571 ge529
  have z572 : h0.size ≤ h571.size := Nat.le_trans z570 (Nat.le_of_eq W571.size.symm)
  have V571 : Arv Z h571 a529 k529 .int (34 : Int32) [(.int p1), (.int (p1 + p2)), (.int (p1 + ((2 : Int32) * p2))), (.int (p1 + ((3 : Int32) * p2))), (.int (p1 + ((4 : Int32) * p2))), (.int (p1 + ((5 : Int32) * p2))), (.int (p1 + ((6 : Int32) * p2))), (.int (p1 + ((7 : Int32) * p2))), (.int (p1 + ((8 : Int32) * p2))), (.int (p1 + ((9 : Int32) * p2))), (.int (p1 + ((10 : Int32) * p2))), (.int (p1 + ((11 : Int32) * p2))), (.int (p1 + ((12 : Int32) * p2))), (.int (p1 + ((13 : Int32) * p2))), (.int (p1 + ((14 : Int32) * p2))), (.int (p1 + ((15 : Int32) * p2))), (.int (p1 + ((16 : Int32) * p2))), (.int (p1 + ((17 : Int32) * p2))), (.int (p1 + ((18 : Int32) * p2))), (.int (p1 + ((19 : Int32) * p2))), (.int (p1 + ((20 : Int32) * p2))), (.int (0 : Int32)), (.int (0 : Int32)), (.int (0 : Int32)), (.int (0 : Int32)), (.int (0 : Int32)), (.int (0 : Int32)), (.int (0 : Int32)), (.int (0 : Int32)), (.int (0 : Int32)), (.int (0 : Int32)), (.int (0 : Int32)), (.int (0 : Int32)), (.int (0 : Int32))] (.int (0 : Int32)) := Arv.set Ar571 q571 S571 M571 H571 G571 rfl W571 20 (by decide) (Nat.le_of_ble_eq_true rfl)
  refine own_go st571 ?_
  show OwnGo p e below _ (T571.setTop (mkF m 205 #[.val (.int p0), .val (.int p1), .val (.int p2), .val (.int p3), .val (.int N), .unset, .unset, .unset] [(.ref a529)]))
  refine own_go (fun _ k => XS.dup X571.here hx rfl (hb hby at_205) rfl rfl k) ?_
  show OwnGo p e below _ (T571.setTop (mkF m 206 #[.val (.int p0), .val (.int p1), .val (.int p2), .val (.int p3), .val (.int N), .unset, .unset, .unset] [(.ref a529), (.ref a529)]))
  refine own_go (fun _ k => XS.bipush X571.here hx rfl (hb hby at_206) k) ?_
  show OwnGo p e below _ (T571.setTop (mkF m 208 #[.val (.int p0), .val (.int p1), .val (.int p2), .val (.int p3), .val (.int N), .unset, .unset, .unset] [(.int (21 : Int32)), (.ref a529), (.ref a529)]))
  refine own_go (fun _ k => XS.iloadN X571.here hx rfl (hb hby at_208) rfl k) ?_
  show OwnGo p e below _ (T571.setTop (mkF m 209 #[.val (.int p0), .val (.int p1), .val (.int p2), .val (.int p3), .val (.int N), .unset, .unset, .unset] [(.int p1), (.int (21 : Int32)), (.ref a529), (.ref a529)]))
  refine own_go (fun _ k => XS.bipush X571.here hx rfl (hb hby at_209) k) ?_
  show OwnGo p e below _ (T571.setTop (mkF m 211 #[.val (.int p0), .val (.int p1), .val (.int p2), .val (.int p3), .val (.int N), .unset, .unset, .unset] [(.int (21 : Int32)), (.int p1), (.int (21 : Int32)), (.ref a529), (.ref a529)]))
  refine own_go (fun _ k => XS.iloadN X571.here hx rfl (hb hby at_211) rfl k) ?_
  show OwnGo p e below _ (T571.setTop (mkF m 212 #[.val (.int p0), .val (.int p1), .val (.int p2), .val (.int p3), .val (.int N), .unset, .unset, .unset] [(.int p2), (.int (21 : Int32)), (.int p1), (.int (21 : Int32)), (.ref a529), (.ref a529)]))
  refine own_go (fun _ k => XS.imul X571.here hx rfl (hb hby at_212) rfl k) ?_
  show OwnGo p e below _ (T571.setTop (mkF m 213 #[.val (.int p0), .val (.int p1), .val (.int p2), .val (.int p3), .val (.int N), .unset, .unset, .unset] [(.int ((21 : Int32) * p2)), (.int p1), (.int (21 : Int32)), (.ref a529), (.ref a529)]))
  refine own_go (fun _ k => XS.iadd X571.here hx rfl (hb hby at_213) rfl k) ?_
  show OwnGo p e below _ (T571.setTop (mkF m 214 #[.val (.int p0), .val (.int p1), .val (.int p2), .val (.int p3), .val (.int N), .unset, .unset, .unset] [(.int (p1 + ((21 : Int32) * p2))), (.int (21 : Int32)), (.ref a529), (.ref a529)]))
  obtain ⟨c573, Ar573, q573, S573, M573, H573, G573⟩ := (id V571)
  obtain ⟨T573, h573, X573, e573, W573, st573⟩ := stI X571 hx hZ e571 Ar573 (j := (21 : Int32)) (inb_of S573 ⟨by decide, by decide⟩) (g := (mkF m 214 #[.val (.int p0), .val (.int p1), .val (.int p2), .val (.int p3), .val (.int N), .unset, .unset, .unset] [(.int (p1 + ((21 : Int32) * p2))), (.int (21 : Int32)), (.ref a529), (.ref a529)])) rfl rfl (hb hby at_214)
  have N573 := Fr.snoc X573 N571 ge529
  have O573 := O571.wr W573 ge529
  have z574 : h0.size ≤ h573.size := Nat.le_trans z572 (Nat.le_of_eq W573.size.symm)
  have V573 : Arv Z h573 a529 k529 .int (34 : Int32) [(.int p1), (.int (p1 + p2)), (.int (p1 + ((2 : Int32) * p2))), (.int (p1 + ((3 : Int32) * p2))), (.int (p1 + ((4 : Int32) * p2))), (.int (p1 + ((5 : Int32) * p2))), (.int (p1 + ((6 : Int32) * p2))), (.int (p1 + ((7 : Int32) * p2))), (.int (p1 + ((8 : Int32) * p2))), (.int (p1 + ((9 : Int32) * p2))), (.int (p1 + ((10 : Int32) * p2))), (.int (p1 + ((11 : Int32) * p2))), (.int (p1 + ((12 : Int32) * p2))), (.int (p1 + ((13 : Int32) * p2))), (.int (p1 + ((14 : Int32) * p2))), (.int (p1 + ((15 : Int32) * p2))), (.int (p1 + ((16 : Int32) * p2))), (.int (p1 + ((17 : Int32) * p2))), (.int (p1 + ((18 : Int32) * p2))), (.int (p1 + ((19 : Int32) * p2))), (.int (p1 + ((20 : Int32) * p2))), (.int (p1 + ((21 : Int32) * p2))), (.int (0 : Int32)), (.int (0 : Int32)), (.int (0 : Int32)), (.int (0 : Int32)), (.int (0 : Int32)), (.int (0 : Int32)), (.int (0 : Int32)), (.int (0 : Int32)), (.int (0 : Int32)), (.int (0 : Int32)), (.int (0 : Int32)), (.int (0 : Int32))] (.int (0 : Int32)) := Arv.set Ar573 q573 S573 M573 H573 G573 rfl W573 21 (by decide) (Nat.le_of_ble_eq_true rfl)
  refine own_go st573 ?_
  show OwnGo p e below _ (T573.setTop (mkF m 215 #[.val (.int p0), .val (.int p1), .val (.int p2), .val (.int p3), .val (.int N), .unset, .unset, .unset] [(.ref a529)]))
  refine own_go (fun _ k => XS.dup X573.here hx rfl (hb hby at_215) rfl rfl k) ?_
  show OwnGo p e below _ (T573.setTop (mkF m 216 #[.val (.int p0), .val (.int p1), .val (.int p2), .val (.int p3), .val (.int N), .unset, .unset, .unset] [(.ref a529), (.ref a529)]))
  refine own_go (fun _ k => XS.bipush X573.here hx rfl (hb hby at_216) k) ?_
  show OwnGo p e below _ (T573.setTop (mkF m 218 #[.val (.int p0), .val (.int p1), .val (.int p2), .val (.int p3), .val (.int N), .unset, .unset, .unset] [(.int (22 : Int32)), (.ref a529), (.ref a529)]))
  refine own_go (fun _ k => XS.iloadN X573.here hx rfl (hb hby at_218) rfl k) ?_
  show OwnGo p e below _ (T573.setTop (mkF m 219 #[.val (.int p0), .val (.int p1), .val (.int p2), .val (.int p3), .val (.int N), .unset, .unset, .unset] [(.int p1), (.int (22 : Int32)), (.ref a529), (.ref a529)]))
  refine own_go (fun _ k => XS.bipush X573.here hx rfl (hb hby at_219) k) ?_
  show OwnGo p e below _ (T573.setTop (mkF m 221 #[.val (.int p0), .val (.int p1), .val (.int p2), .val (.int p3), .val (.int N), .unset, .unset, .unset] [(.int (22 : Int32)), (.int p1), (.int (22 : Int32)), (.ref a529), (.ref a529)]))
  refine own_go (fun _ k => XS.iloadN X573.here hx rfl (hb hby at_221) rfl k) ?_
  show OwnGo p e below _ (T573.setTop (mkF m 222 #[.val (.int p0), .val (.int p1), .val (.int p2), .val (.int p3), .val (.int N), .unset, .unset, .unset] [(.int p2), (.int (22 : Int32)), (.int p1), (.int (22 : Int32)), (.ref a529), (.ref a529)]))
  refine own_go (fun _ k => XS.imul X573.here hx rfl (hb hby at_222) rfl k) ?_
  show OwnGo p e below _ (T573.setTop (mkF m 223 #[.val (.int p0), .val (.int p1), .val (.int p2), .val (.int p3), .val (.int N), .unset, .unset, .unset] [(.int ((22 : Int32) * p2)), (.int p1), (.int (22 : Int32)), (.ref a529), (.ref a529)]))
  refine own_go (fun _ k => XS.iadd X573.here hx rfl (hb hby at_223) rfl k) ?_
  show OwnGo p e below _ (T573.setTop (mkF m 224 #[.val (.int p0), .val (.int p1), .val (.int p2), .val (.int p3), .val (.int N), .unset, .unset, .unset] [(.int (p1 + ((22 : Int32) * p2))), (.int (22 : Int32)), (.ref a529), (.ref a529)]))
  obtain ⟨c575, Ar575, q575, S575, M575, H575, G575⟩ := (id V573)
  obtain ⟨T575, h575, X575, e575, W575, st575⟩ := stI X573 hx hZ e573 Ar575 (j := (22 : Int32)) (inb_of S575 ⟨by decide, by decide⟩) (g := (mkF m 224 #[.val (.int p0), .val (.int p1), .val (.int p2), .val (.int p3), .val (.int N), .unset, .unset, .unset] [(.int (p1 + ((22 : Int32) * p2))), (.int (22 : Int32)), (.ref a529), (.ref a529)])) rfl rfl (hb hby at_224)
  have N575 := Fr.snoc X575 N573 ge529
  have O575 := O573.wr W575 ge529
  have z576 : h0.size ≤ h575.size := Nat.le_trans z574 (Nat.le_of_eq W575.size.symm)
  have V575 : Arv Z h575 a529 k529 .int (34 : Int32) [(.int p1), (.int (p1 + p2)), (.int (p1 + ((2 : Int32) * p2))), (.int (p1 + ((3 : Int32) * p2))), (.int (p1 + ((4 : Int32) * p2))), (.int (p1 + ((5 : Int32) * p2))), (.int (p1 + ((6 : Int32) * p2))), (.int (p1 + ((7 : Int32) * p2))), (.int (p1 + ((8 : Int32) * p2))), (.int (p1 + ((9 : Int32) * p2))), (.int (p1 + ((10 : Int32) * p2))), (.int (p1 + ((11 : Int32) * p2))), (.int (p1 + ((12 : Int32) * p2))), (.int (p1 + ((13 : Int32) * p2))), (.int (p1 + ((14 : Int32) * p2))), (.int (p1 + ((15 : Int32) * p2))), (.int (p1 + ((16 : Int32) * p2))), (.int (p1 + ((17 : Int32) * p2))), (.int (p1 + ((18 : Int32) * p2))), (.int (p1 + ((19 : Int32) * p2))), (.int (p1 + ((20 : Int32) * p2))), (.int (p1 + ((21 : Int32) * p2))), (.int (p1 + ((22 : Int32) * p2))), (.int (0 : Int32)), (.int (0 : Int32)), (.int (0 : Int32)), (.int (0 : Int32)), (.int (0 : Int32)), (.int (0 : Int32)), (.int (0 : Int32)), (.int (0 : Int32)), (.int (0 : Int32)), (.int (0 : Int32)), (.int (0 : Int32))] (.int (0 : Int32)) := Arv.set Ar575 q575 S575 M575 H575 G575 rfl W575 22 (by decide) (Nat.le_of_ble_eq_true rfl)
  refine own_go st575 ?_
  show OwnGo p e below _ (T575.setTop (mkF m 225 #[.val (.int p0), .val (.int p1), .val (.int p2), .val (.int p3), .val (.int N), .unset, .unset, .unset] [(.ref a529)]))
  refine own_go (fun _ k => XS.dup X575.here hx rfl (hb hby at_225) rfl rfl k) ?_
  show OwnGo p e below _ (T575.setTop (mkF m 226 #[.val (.int p0), .val (.int p1), .val (.int p2), .val (.int p3), .val (.int N), .unset, .unset, .unset] [(.ref a529), (.ref a529)]))
  refine own_go (fun _ k => XS.bipush X575.here hx rfl (hb hby at_226) k) ?_
  show OwnGo p e below _ (T575.setTop (mkF m 228 #[.val (.int p0), .val (.int p1), .val (.int p2), .val (.int p3), .val (.int N), .unset, .unset, .unset] [(.int (23 : Int32)), (.ref a529), (.ref a529)]))
  refine own_go (fun _ k => XS.iloadN X575.here hx rfl (hb hby at_228) rfl k) ?_
  show OwnGo p e below _ (T575.setTop (mkF m 229 #[.val (.int p0), .val (.int p1), .val (.int p2), .val (.int p3), .val (.int N), .unset, .unset, .unset] [(.int p1), (.int (23 : Int32)), (.ref a529), (.ref a529)]))
  refine own_go (fun _ k => XS.bipush X575.here hx rfl (hb hby at_229) k) ?_
  show OwnGo p e below _ (T575.setTop (mkF m 231 #[.val (.int p0), .val (.int p1), .val (.int p2), .val (.int p3), .val (.int N), .unset, .unset, .unset] [(.int (23 : Int32)), (.int p1), (.int (23 : Int32)), (.ref a529), (.ref a529)]))
  refine own_go (fun _ k => XS.iloadN X575.here hx rfl (hb hby at_231) rfl k) ?_
  show OwnGo p e below _ (T575.setTop (mkF m 232 #[.val (.int p0), .val (.int p1), .val (.int p2), .val (.int p3), .val (.int N), .unset, .unset, .unset] [(.int p2), (.int (23 : Int32)), (.int p1), (.int (23 : Int32)), (.ref a529), (.ref a529)]))
  refine own_go (fun _ k => XS.imul X575.here hx rfl (hb hby at_232) rfl k) ?_
  show OwnGo p e below _ (T575.setTop (mkF m 233 #[.val (.int p0), .val (.int p1), .val (.int p2), .val (.int p3), .val (.int N), .unset, .unset, .unset] [(.int ((23 : Int32) * p2)), (.int p1), (.int (23 : Int32)), (.ref a529), (.ref a529)]))
  refine own_go (fun _ k => XS.iadd X575.here hx rfl (hb hby at_233) rfl k) ?_
  show OwnGo p e below _ (T575.setTop (mkF m 234 #[.val (.int p0), .val (.int p1), .val (.int p2), .val (.int p3), .val (.int N), .unset, .unset, .unset] [(.int (p1 + ((23 : Int32) * p2))), (.int (23 : Int32)), (.ref a529), (.ref a529)]))
  obtain ⟨c577, Ar577, q577, S577, M577, H577, G577⟩ := (id V575)
  obtain ⟨T577, h577, X577, e577, W577, st577⟩ := stI X575 hx hZ e575 Ar577 (j := (23 : Int32)) (inb_of S577 ⟨by decide, by decide⟩) (g := (mkF m 234 #[.val (.int p0), .val (.int p1), .val (.int p2), .val (.int p3), .val (.int N), .unset, .unset, .unset] [(.int (p1 + ((23 : Int32) * p2))), (.int (23 : Int32)), (.ref a529), (.ref a529)])) rfl rfl (hb hby at_234)
  have N577 := Fr.snoc X577 N575 ge529
  have O577 := O575.wr W577 ge529
  have z578 : h0.size ≤ h577.size := Nat.le_trans z576 (Nat.le_of_eq W577.size.symm)
  have V577 : Arv Z h577 a529 k529 .int (34 : Int32) [(.int p1), (.int (p1 + p2)), (.int (p1 + ((2 : Int32) * p2))), (.int (p1 + ((3 : Int32) * p2))), (.int (p1 + ((4 : Int32) * p2))), (.int (p1 + ((5 : Int32) * p2))), (.int (p1 + ((6 : Int32) * p2))), (.int (p1 + ((7 : Int32) * p2))), (.int (p1 + ((8 : Int32) * p2))), (.int (p1 + ((9 : Int32) * p2))), (.int (p1 + ((10 : Int32) * p2))), (.int (p1 + ((11 : Int32) * p2))), (.int (p1 + ((12 : Int32) * p2))), (.int (p1 + ((13 : Int32) * p2))), (.int (p1 + ((14 : Int32) * p2))), (.int (p1 + ((15 : Int32) * p2))), (.int (p1 + ((16 : Int32) * p2))), (.int (p1 + ((17 : Int32) * p2))), (.int (p1 + ((18 : Int32) * p2))), (.int (p1 + ((19 : Int32) * p2))), (.int (p1 + ((20 : Int32) * p2))), (.int (p1 + ((21 : Int32) * p2))), (.int (p1 + ((22 : Int32) * p2))), (.int (p1 + ((23 : Int32) * p2))), (.int (0 : Int32)), (.int (0 : Int32)), (.int (0 : Int32)), (.int (0 : Int32)), (.int (0 : Int32)), (.int (0 : Int32)), (.int (0 : Int32)), (.int (0 : Int32)), (.int (0 : Int32)), (.int (0 : Int32))] (.int (0 : Int32)) := Arv.set Ar577 q577 S577 M577 H577 G577 rfl W577 23 (by decide) (Nat.le_of_ble_eq_true rfl)
  refine own_go st577 ?_
  show OwnGo p e below _ (T577.setTop (mkF m 235 #[.val (.int p0), .val (.int p1), .val (.int p2), .val (.int p3), .val (.int N), .unset, .unset, .unset] [(.ref a529)]))
  refine own_go (fun _ k => XS.dup X577.here hx rfl (hb hby at_235) rfl rfl k) ?_
  show OwnGo p e below _ (T577.setTop (mkF m 236 #[.val (.int p0), .val (.int p1), .val (.int p2), .val (.int p3), .val (.int N), .unset, .unset, .unset] [(.ref a529), (.ref a529)]))
  refine own_go (fun _ k => XS.bipush X577.here hx rfl (hb hby at_236) k) ?_
  show OwnGo p e below _ (T577.setTop (mkF m 238 #[.val (.int p0), .val (.int p1), .val (.int p2), .val (.int p3), .val (.int N), .unset, .unset, .unset] [(.int (24 : Int32)), (.ref a529), (.ref a529)]))
  refine own_go (fun _ k => XS.iloadN X577.here hx rfl (hb hby at_238) rfl k) ?_
  show OwnGo p e below _ (T577.setTop (mkF m 239 #[.val (.int p0), .val (.int p1), .val (.int p2), .val (.int p3), .val (.int N), .unset, .unset, .unset] [(.int p1), (.int (24 : Int32)), (.ref a529), (.ref a529)]))
  refine own_go (fun _ k => XS.bipush X577.here hx rfl (hb hby at_239) k) ?_
  show OwnGo p e below _ (T577.setTop (mkF m 241 #[.val (.int p0), .val (.int p1), .val (.int p2), .val (.int p3), .val (.int N), .unset, .unset, .unset] [(.int (24 : Int32)), (.int p1), (.int (24 : Int32)), (.ref a529), (.ref a529)]))
  refine own_go (fun _ k => XS.iloadN X577.here hx rfl (hb hby at_241) rfl k) ?_
  show OwnGo p e below _ (T577.setTop (mkF m 242 #[.val (.int p0), .val (.int p1), .val (.int p2), .val (.int p3), .val (.int N), .unset, .unset, .unset] [(.int p2), (.int (24 : Int32)), (.int p1), (.int (24 : Int32)), (.ref a529), (.ref a529)]))
  refine own_go (fun _ k => XS.imul X577.here hx rfl (hb hby at_242) rfl k) ?_
  show OwnGo p e below _ (T577.setTop (mkF m 243 #[.val (.int p0), .val (.int p1), .val (.int p2), .val (.int p3), .val (.int N), .unset, .unset, .unset] [(.int ((24 : Int32) * p2)), (.int p1), (.int (24 : Int32)), (.ref a529), (.ref a529)]))
  refine own_go (fun _ k => XS.iadd X577.here hx rfl (hb hby at_243) rfl k) ?_
  show OwnGo p e below _ (T577.setTop (mkF m 244 #[.val (.int p0), .val (.int p1), .val (.int p2), .val (.int p3), .val (.int N), .unset, .unset, .unset] [(.int (p1 + ((24 : Int32) * p2))), (.int (24 : Int32)), (.ref a529), (.ref a529)]))
  obtain ⟨c579, Ar579, q579, S579, M579, H579, G579⟩ := (id V577)
  obtain ⟨T579, h579, X579, e579, W579, st579⟩ := stI X577 hx hZ e577 Ar579 (j := (24 : Int32)) (inb_of S579 ⟨by decide, by decide⟩) (g := (mkF m 244 #[.val (.int p0), .val (.int p1), .val (.int p2), .val (.int p3), .val (.int N), .unset, .unset, .unset] [(.int (p1 + ((24 : Int32) * p2))), (.int (24 : Int32)), (.ref a529), (.ref a529)])) rfl rfl (hb hby at_244)
  have N579 := Fr.snoc X579 N577 ge529
  have O579 := O577.wr W579 ge529
  have z580 : h0.size ≤ h579.size := Nat.le_trans z578 (Nat.le_of_eq W579.size.symm)
  have V579 : Arv Z h579 a529 k529 .int (34 : Int32) [(.int p1), (.int (p1 + p2)), (.int (p1 + ((2 : Int32) * p2))), (.int (p1 + ((3 : Int32) * p2))), (.int (p1 + ((4 : Int32) * p2))), (.int (p1 + ((5 : Int32) * p2))), (.int (p1 + ((6 : Int32) * p2))), (.int (p1 + ((7 : Int32) * p2))), (.int (p1 + ((8 : Int32) * p2))), (.int (p1 + ((9 : Int32) * p2))), (.int (p1 + ((10 : Int32) * p2))), (.int (p1 + ((11 : Int32) * p2))), (.int (p1 + ((12 : Int32) * p2))), (.int (p1 + ((13 : Int32) * p2))), (.int (p1 + ((14 : Int32) * p2))), (.int (p1 + ((15 : Int32) * p2))), (.int (p1 + ((16 : Int32) * p2))), (.int (p1 + ((17 : Int32) * p2))), (.int (p1 + ((18 : Int32) * p2))), (.int (p1 + ((19 : Int32) * p2))), (.int (p1 + ((20 : Int32) * p2))), (.int (p1 + ((21 : Int32) * p2))), (.int (p1 + ((22 : Int32) * p2))), (.int (p1 + ((23 : Int32) * p2))), (.int (p1 + ((24 : Int32) * p2))), (.int (0 : Int32)), (.int (0 : Int32)), (.int (0 : Int32)), (.int (0 : Int32)), (.int (0 : Int32)), (.int (0 : Int32)), (.int (0 : Int32)), (.int (0 : Int32)), (.int (0 : Int32))] (.int (0 : Int32)) := Arv.set Ar579 q579 S579 M579 H579 G579 rfl W579 24 (by decide) (Nat.le_of_ble_eq_true rfl)
  refine own_go st579 ?_
  show OwnGo p e below _ (T579.setTop (mkF m 245 #[.val (.int p0), .val (.int p1), .val (.int p2), .val (.int p3), .val (.int N), .unset, .unset, .unset] [(.ref a529)]))
  refine own_go (fun _ k => XS.dup X579.here hx rfl (hb hby at_245) rfl rfl k) ?_
  show OwnGo p e below _ (T579.setTop (mkF m 246 #[.val (.int p0), .val (.int p1), .val (.int p2), .val (.int p3), .val (.int N), .unset, .unset, .unset] [(.ref a529), (.ref a529)]))
  refine own_go (fun _ k => XS.bipush X579.here hx rfl (hb hby at_246) k) ?_
  show OwnGo p e below _ (T579.setTop (mkF m 248 #[.val (.int p0), .val (.int p1), .val (.int p2), .val (.int p3), .val (.int N), .unset, .unset, .unset] [(.int (25 : Int32)), (.ref a529), (.ref a529)]))
  refine own_go (fun _ k => XS.iloadN X579.here hx rfl (hb hby at_248) rfl k) ?_
  show OwnGo p e below _ (T579.setTop (mkF m 249 #[.val (.int p0), .val (.int p1), .val (.int p2), .val (.int p3), .val (.int N), .unset, .unset, .unset] [(.int p1), (.int (25 : Int32)), (.ref a529), (.ref a529)]))
  refine own_go (fun _ k => XS.bipush X579.here hx rfl (hb hby at_249) k) ?_
  show OwnGo p e below _ (T579.setTop (mkF m 251 #[.val (.int p0), .val (.int p1), .val (.int p2), .val (.int p3), .val (.int N), .unset, .unset, .unset] [(.int (25 : Int32)), (.int p1), (.int (25 : Int32)), (.ref a529), (.ref a529)]))
  refine own_go (fun _ k => XS.iloadN X579.here hx rfl (hb hby at_251) rfl k) ?_
  show OwnGo p e below _ (T579.setTop (mkF m 252 #[.val (.int p0), .val (.int p1), .val (.int p2), .val (.int p3), .val (.int N), .unset, .unset, .unset] [(.int p2), (.int (25 : Int32)), (.int p1), (.int (25 : Int32)), (.ref a529), (.ref a529)]))
  refine own_go (fun _ k => XS.imul X579.here hx rfl (hb hby at_252) rfl k) ?_
  show OwnGo p e below _ (T579.setTop (mkF m 253 #[.val (.int p0), .val (.int p1), .val (.int p2), .val (.int p3), .val (.int N), .unset, .unset, .unset] [(.int ((25 : Int32) * p2)), (.int p1), (.int (25 : Int32)), (.ref a529), (.ref a529)]))
  refine own_go (fun _ k => XS.iadd X579.here hx rfl (hb hby at_253) rfl k) ?_
  show OwnGo p e below _ (T579.setTop (mkF m 254 #[.val (.int p0), .val (.int p1), .val (.int p2), .val (.int p3), .val (.int N), .unset, .unset, .unset] [(.int (p1 + ((25 : Int32) * p2))), (.int (25 : Int32)), (.ref a529), (.ref a529)]))
  obtain ⟨c581, Ar581, q581, S581, M581, H581, G581⟩ := (id V579)
  obtain ⟨T581, h581, X581, e581, W581, st581⟩ := stI X579 hx hZ e579 Ar581 (j := (25 : Int32)) (inb_of S581 ⟨by decide, by decide⟩) (g := (mkF m 254 #[.val (.int p0), .val (.int p1), .val (.int p2), .val (.int p3), .val (.int N), .unset, .unset, .unset] [(.int (p1 + ((25 : Int32) * p2))), (.int (25 : Int32)), (.ref a529), (.ref a529)])) rfl rfl (hb hby at_254)
  have N581 := Fr.snoc X581 N579 ge529
  have O581 := O579.wr W581 ge529
  have z582 : h0.size ≤ h581.size := Nat.le_trans z580 (Nat.le_of_eq W581.size.symm)
  have V581 : Arv Z h581 a529 k529 .int (34 : Int32) [(.int p1), (.int (p1 + p2)), (.int (p1 + ((2 : Int32) * p2))), (.int (p1 + ((3 : Int32) * p2))), (.int (p1 + ((4 : Int32) * p2))), (.int (p1 + ((5 : Int32) * p2))), (.int (p1 + ((6 : Int32) * p2))), (.int (p1 + ((7 : Int32) * p2))), (.int (p1 + ((8 : Int32) * p2))), (.int (p1 + ((9 : Int32) * p2))), (.int (p1 + ((10 : Int32) * p2))), (.int (p1 + ((11 : Int32) * p2))), (.int (p1 + ((12 : Int32) * p2))), (.int (p1 + ((13 : Int32) * p2))), (.int (p1 + ((14 : Int32) * p2))), (.int (p1 + ((15 : Int32) * p2))), (.int (p1 + ((16 : Int32) * p2))), (.int (p1 + ((17 : Int32) * p2))), (.int (p1 + ((18 : Int32) * p2))), (.int (p1 + ((19 : Int32) * p2))), (.int (p1 + ((20 : Int32) * p2))), (.int (p1 + ((21 : Int32) * p2))), (.int (p1 + ((22 : Int32) * p2))), (.int (p1 + ((23 : Int32) * p2))), (.int (p1 + ((24 : Int32) * p2))), (.int (p1 + ((25 : Int32) * p2))), (.int (0 : Int32)), (.int (0 : Int32)), (.int (0 : Int32)), (.int (0 : Int32)), (.int (0 : Int32)), (.int (0 : Int32)), (.int (0 : Int32)), (.int (0 : Int32))] (.int (0 : Int32)) := Arv.set Ar581 q581 S581 M581 H581 G581 rfl W581 25 (by decide) (Nat.le_of_ble_eq_true rfl)
  refine own_go st581 ?_
  show OwnGo p e below _ (T581.setTop (mkF m 255 #[.val (.int p0), .val (.int p1), .val (.int p2), .val (.int p3), .val (.int N), .unset, .unset, .unset] [(.ref a529)]))
  refine own_go (fun _ k => XS.dup X581.here hx rfl (hb hby at_255) rfl rfl k) ?_
  show OwnGo p e below _ (T581.setTop (mkF m 256 #[.val (.int p0), .val (.int p1), .val (.int p2), .val (.int p3), .val (.int N), .unset, .unset, .unset] [(.ref a529), (.ref a529)]))
  refine own_go (fun _ k => XS.bipush X581.here hx rfl (hb hby at_256) k) ?_
  show OwnGo p e below _ (T581.setTop (mkF m 258 #[.val (.int p0), .val (.int p1), .val (.int p2), .val (.int p3), .val (.int N), .unset, .unset, .unset] [(.int (26 : Int32)), (.ref a529), (.ref a529)]))
  refine own_go (fun _ k => XS.iloadN X581.here hx rfl (hb hby at_258) rfl k) ?_
  show OwnGo p e below _ (T581.setTop (mkF m 259 #[.val (.int p0), .val (.int p1), .val (.int p2), .val (.int p3), .val (.int N), .unset, .unset, .unset] [(.int p1), (.int (26 : Int32)), (.ref a529), (.ref a529)]))
  refine own_go (fun _ k => XS.bipush X581.here hx rfl (hb hby at_259) k) ?_
  show OwnGo p e below _ (T581.setTop (mkF m 261 #[.val (.int p0), .val (.int p1), .val (.int p2), .val (.int p3), .val (.int N), .unset, .unset, .unset] [(.int (26 : Int32)), (.int p1), (.int (26 : Int32)), (.ref a529), (.ref a529)]))
  refine own_go (fun _ k => XS.iloadN X581.here hx rfl (hb hby at_261) rfl k) ?_
  show OwnGo p e below _ (T581.setTop (mkF m 262 #[.val (.int p0), .val (.int p1), .val (.int p2), .val (.int p3), .val (.int N), .unset, .unset, .unset] [(.int p2), (.int (26 : Int32)), (.int p1), (.int (26 : Int32)), (.ref a529), (.ref a529)]))
  refine own_go (fun _ k => XS.imul X581.here hx rfl (hb hby at_262) rfl k) ?_
  show OwnGo p e below _ (T581.setTop (mkF m 263 #[.val (.int p0), .val (.int p1), .val (.int p2), .val (.int p3), .val (.int N), .unset, .unset, .unset] [(.int ((26 : Int32) * p2)), (.int p1), (.int (26 : Int32)), (.ref a529), (.ref a529)]))
  refine own_go (fun _ k => XS.iadd X581.here hx rfl (hb hby at_263) rfl k) ?_
  show OwnGo p e below _ (T581.setTop (mkF m 264 #[.val (.int p0), .val (.int p1), .val (.int p2), .val (.int p3), .val (.int N), .unset, .unset, .unset] [(.int (p1 + ((26 : Int32) * p2))), (.int (26 : Int32)), (.ref a529), (.ref a529)]))
  obtain ⟨c583, Ar583, q583, S583, M583, H583, G583⟩ := (id V581)
  obtain ⟨T583, h583, X583, e583, W583, st583⟩ := stI X581 hx hZ e581 Ar583 (j := (26 : Int32)) (inb_of S583 ⟨by decide, by decide⟩) (g := (mkF m 264 #[.val (.int p0), .val (.int p1), .val (.int p2), .val (.int p3), .val (.int N), .unset, .unset, .unset] [(.int (p1 + ((26 : Int32) * p2))), (.int (26 : Int32)), (.ref a529), (.ref a529)])) rfl rfl (hb hby at_264)
  have N583 := Fr.snoc X583 N581 ge529
  have O583 := O581.wr W583 ge529
  have z584 : h0.size ≤ h583.size := Nat.le_trans z582 (Nat.le_of_eq W583.size.symm)
  have V583 : Arv Z h583 a529 k529 .int (34 : Int32) [(.int p1), (.int (p1 + p2)), (.int (p1 + ((2 : Int32) * p2))), (.int (p1 + ((3 : Int32) * p2))), (.int (p1 + ((4 : Int32) * p2))), (.int (p1 + ((5 : Int32) * p2))), (.int (p1 + ((6 : Int32) * p2))), (.int (p1 + ((7 : Int32) * p2))), (.int (p1 + ((8 : Int32) * p2))), (.int (p1 + ((9 : Int32) * p2))), (.int (p1 + ((10 : Int32) * p2))), (.int (p1 + ((11 : Int32) * p2))), (.int (p1 + ((12 : Int32) * p2))), (.int (p1 + ((13 : Int32) * p2))), (.int (p1 + ((14 : Int32) * p2))), (.int (p1 + ((15 : Int32) * p2))), (.int (p1 + ((16 : Int32) * p2))), (.int (p1 + ((17 : Int32) * p2))), (.int (p1 + ((18 : Int32) * p2))), (.int (p1 + ((19 : Int32) * p2))), (.int (p1 + ((20 : Int32) * p2))), (.int (p1 + ((21 : Int32) * p2))), (.int (p1 + ((22 : Int32) * p2))), (.int (p1 + ((23 : Int32) * p2))), (.int (p1 + ((24 : Int32) * p2))), (.int (p1 + ((25 : Int32) * p2))), (.int (p1 + ((26 : Int32) * p2))), (.int (0 : Int32)), (.int (0 : Int32)), (.int (0 : Int32)), (.int (0 : Int32)), (.int (0 : Int32)), (.int (0 : Int32)), (.int (0 : Int32))] (.int (0 : Int32)) := Arv.set Ar583 q583 S583 M583 H583 G583 rfl W583 26 (by decide) (Nat.le_of_ble_eq_true rfl)
  refine own_go st583 ?_
  show OwnGo p e below _ (T583.setTop (mkF m 265 #[.val (.int p0), .val (.int p1), .val (.int p2), .val (.int p3), .val (.int N), .unset, .unset, .unset] [(.ref a529)]))
  refine own_go (fun _ k => XS.dup X583.here hx rfl (hb hby at_265) rfl rfl k) ?_
  show OwnGo p e below _ (T583.setTop (mkF m 266 #[.val (.int p0), .val (.int p1), .val (.int p2), .val (.int p3), .val (.int N), .unset, .unset, .unset] [(.ref a529), (.ref a529)]))
  refine own_go (fun _ k => XS.bipush X583.here hx rfl (hb hby at_266) k) ?_
  show OwnGo p e below _ (T583.setTop (mkF m 268 #[.val (.int p0), .val (.int p1), .val (.int p2), .val (.int p3), .val (.int N), .unset, .unset, .unset] [(.int (27 : Int32)), (.ref a529), (.ref a529)]))
  refine own_go (fun _ k => XS.iloadN X583.here hx rfl (hb hby at_268) rfl k) ?_
  show OwnGo p e below _ (T583.setTop (mkF m 269 #[.val (.int p0), .val (.int p1), .val (.int p2), .val (.int p3), .val (.int N), .unset, .unset, .unset] [(.int p1), (.int (27 : Int32)), (.ref a529), (.ref a529)]))
  refine own_go (fun _ k => XS.bipush X583.here hx rfl (hb hby at_269) k) ?_
  show OwnGo p e below _ (T583.setTop (mkF m 271 #[.val (.int p0), .val (.int p1), .val (.int p2), .val (.int p3), .val (.int N), .unset, .unset, .unset] [(.int (27 : Int32)), (.int p1), (.int (27 : Int32)), (.ref a529), (.ref a529)]))
  refine own_go (fun _ k => XS.iloadN X583.here hx rfl (hb hby at_271) rfl k) ?_
  show OwnGo p e below _ (T583.setTop (mkF m 272 #[.val (.int p0), .val (.int p1), .val (.int p2), .val (.int p3), .val (.int N), .unset, .unset, .unset] [(.int p2), (.int (27 : Int32)), (.int p1), (.int (27 : Int32)), (.ref a529), (.ref a529)]))
  refine own_go (fun _ k => XS.imul X583.here hx rfl (hb hby at_272) rfl k) ?_
  show OwnGo p e below _ (T583.setTop (mkF m 273 #[.val (.int p0), .val (.int p1), .val (.int p2), .val (.int p3), .val (.int N), .unset, .unset, .unset] [(.int ((27 : Int32) * p2)), (.int p1), (.int (27 : Int32)), (.ref a529), (.ref a529)]))
  refine own_go (fun _ k => XS.iadd X583.here hx rfl (hb hby at_273) rfl k) ?_
  show OwnGo p e below _ (T583.setTop (mkF m 274 #[.val (.int p0), .val (.int p1), .val (.int p2), .val (.int p3), .val (.int N), .unset, .unset, .unset] [(.int (p1 + ((27 : Int32) * p2))), (.int (27 : Int32)), (.ref a529), (.ref a529)]))
  obtain ⟨c585, Ar585, q585, S585, M585, H585, G585⟩ := (id V583)
  obtain ⟨T585, h585, X585, e585, W585, st585⟩ := stI X583 hx hZ e583 Ar585 (j := (27 : Int32)) (inb_of S585 ⟨by decide, by decide⟩) (g := (mkF m 274 #[.val (.int p0), .val (.int p1), .val (.int p2), .val (.int p3), .val (.int N), .unset, .unset, .unset] [(.int (p1 + ((27 : Int32) * p2))), (.int (27 : Int32)), (.ref a529), (.ref a529)])) rfl rfl (hb hby at_274)
  have N585 := Fr.snoc X585 N583 ge529
  have O585 := O583.wr W585 ge529
  have z586 : h0.size ≤ h585.size := Nat.le_trans z584 (Nat.le_of_eq W585.size.symm)
  have V585 : Arv Z h585 a529 k529 .int (34 : Int32) [(.int p1), (.int (p1 + p2)), (.int (p1 + ((2 : Int32) * p2))), (.int (p1 + ((3 : Int32) * p2))), (.int (p1 + ((4 : Int32) * p2))), (.int (p1 + ((5 : Int32) * p2))), (.int (p1 + ((6 : Int32) * p2))), (.int (p1 + ((7 : Int32) * p2))), (.int (p1 + ((8 : Int32) * p2))), (.int (p1 + ((9 : Int32) * p2))), (.int (p1 + ((10 : Int32) * p2))), (.int (p1 + ((11 : Int32) * p2))), (.int (p1 + ((12 : Int32) * p2))), (.int (p1 + ((13 : Int32) * p2))), (.int (p1 + ((14 : Int32) * p2))), (.int (p1 + ((15 : Int32) * p2))), (.int (p1 + ((16 : Int32) * p2))), (.int (p1 + ((17 : Int32) * p2))), (.int (p1 + ((18 : Int32) * p2))), (.int (p1 + ((19 : Int32) * p2))), (.int (p1 + ((20 : Int32) * p2))), (.int (p1 + ((21 : Int32) * p2))), (.int (p1 + ((22 : Int32) * p2))), (.int (p1 + ((23 : Int32) * p2))), (.int (p1 + ((24 : Int32) * p2))), (.int (p1 + ((25 : Int32) * p2))), (.int (p1 + ((26 : Int32) * p2))), (.int (p1 + ((27 : Int32) * p2))), (.int (0 : Int32)), (.int (0 : Int32)), (.int (0 : Int32)), (.int (0 : Int32)), (.int (0 : Int32)), (.int (0 : Int32))] (.int (0 : Int32)) := Arv.set Ar585 q585 S585 M585 H585 G585 rfl W585 27 (by decide) (Nat.le_of_ble_eq_true rfl)
  refine own_go st585 ?_
  show OwnGo p e below _ (T585.setTop (mkF m 275 #[.val (.int p0), .val (.int p1), .val (.int p2), .val (.int p3), .val (.int N), .unset, .unset, .unset] [(.ref a529)]))
  refine own_go (fun _ k => XS.dup X585.here hx rfl (hb hby at_275) rfl rfl k) ?_
  show OwnGo p e below _ (T585.setTop (mkF m 276 #[.val (.int p0), .val (.int p1), .val (.int p2), .val (.int p3), .val (.int N), .unset, .unset, .unset] [(.ref a529), (.ref a529)]))
  refine own_go (fun _ k => XS.bipush X585.here hx rfl (hb hby at_276) k) ?_
  show OwnGo p e below _ (T585.setTop (mkF m 278 #[.val (.int p0), .val (.int p1), .val (.int p2), .val (.int p3), .val (.int N), .unset, .unset, .unset] [(.int (28 : Int32)), (.ref a529), (.ref a529)]))
  refine own_go (fun _ k => XS.iloadN X585.here hx rfl (hb hby at_278) rfl k) ?_
  show OwnGo p e below _ (T585.setTop (mkF m 279 #[.val (.int p0), .val (.int p1), .val (.int p2), .val (.int p3), .val (.int N), .unset, .unset, .unset] [(.int p1), (.int (28 : Int32)), (.ref a529), (.ref a529)]))
  refine own_go (fun _ k => XS.bipush X585.here hx rfl (hb hby at_279) k) ?_
  show OwnGo p e below _ (T585.setTop (mkF m 281 #[.val (.int p0), .val (.int p1), .val (.int p2), .val (.int p3), .val (.int N), .unset, .unset, .unset] [(.int (28 : Int32)), (.int p1), (.int (28 : Int32)), (.ref a529), (.ref a529)]))
  refine own_go (fun _ k => XS.iloadN X585.here hx rfl (hb hby at_281) rfl k) ?_
  show OwnGo p e below _ (T585.setTop (mkF m 282 #[.val (.int p0), .val (.int p1), .val (.int p2), .val (.int p3), .val (.int N), .unset, .unset, .unset] [(.int p2), (.int (28 : Int32)), (.int p1), (.int (28 : Int32)), (.ref a529), (.ref a529)]))
  refine own_go (fun _ k => XS.imul X585.here hx rfl (hb hby at_282) rfl k) ?_
  show OwnGo p e below _ (T585.setTop (mkF m 283 #[.val (.int p0), .val (.int p1), .val (.int p2), .val (.int p3), .val (.int N), .unset, .unset, .unset] [(.int ((28 : Int32) * p2)), (.int p1), (.int (28 : Int32)), (.ref a529), (.ref a529)]))
  refine own_go (fun _ k => XS.iadd X585.here hx rfl (hb hby at_283) rfl k) ?_
  show OwnGo p e below _ (T585.setTop (mkF m 284 #[.val (.int p0), .val (.int p1), .val (.int p2), .val (.int p3), .val (.int N), .unset, .unset, .unset] [(.int (p1 + ((28 : Int32) * p2))), (.int (28 : Int32)), (.ref a529), (.ref a529)]))
  obtain ⟨c587, Ar587, q587, S587, M587, H587, G587⟩ := (id V585)
  obtain ⟨T587, h587, X587, e587, W587, st587⟩ := stI X585 hx hZ e585 Ar587 (j := (28 : Int32)) (inb_of S587 ⟨by decide, by decide⟩) (g := (mkF m 284 #[.val (.int p0), .val (.int p1), .val (.int p2), .val (.int p3), .val (.int N), .unset, .unset, .unset] [(.int (p1 + ((28 : Int32) * p2))), (.int (28 : Int32)), (.ref a529), (.ref a529)])) rfl rfl (hb hby at_284)
  have N587 := Fr.snoc X587 N585 ge529
  have O587 := O585.wr W587 ge529
  have z588 : h0.size ≤ h587.size := Nat.le_trans z586 (Nat.le_of_eq W587.size.symm)
  have V587 : Arv Z h587 a529 k529 .int (34 : Int32) [(.int p1), (.int (p1 + p2)), (.int (p1 + ((2 : Int32) * p2))), (.int (p1 + ((3 : Int32) * p2))), (.int (p1 + ((4 : Int32) * p2))), (.int (p1 + ((5 : Int32) * p2))), (.int (p1 + ((6 : Int32) * p2))), (.int (p1 + ((7 : Int32) * p2))), (.int (p1 + ((8 : Int32) * p2))), (.int (p1 + ((9 : Int32) * p2))), (.int (p1 + ((10 : Int32) * p2))), (.int (p1 + ((11 : Int32) * p2))), (.int (p1 + ((12 : Int32) * p2))), (.int (p1 + ((13 : Int32) * p2))), (.int (p1 + ((14 : Int32) * p2))), (.int (p1 + ((15 : Int32) * p2))), (.int (p1 + ((16 : Int32) * p2))), (.int (p1 + ((17 : Int32) * p2))), (.int (p1 + ((18 : Int32) * p2))), (.int (p1 + ((19 : Int32) * p2))), (.int (p1 + ((20 : Int32) * p2))), (.int (p1 + ((21 : Int32) * p2))), (.int (p1 + ((22 : Int32) * p2))), (.int (p1 + ((23 : Int32) * p2))), (.int (p1 + ((24 : Int32) * p2))), (.int (p1 + ((25 : Int32) * p2))), (.int (p1 + ((26 : Int32) * p2))), (.int (p1 + ((27 : Int32) * p2))), (.int (p1 + ((28 : Int32) * p2))), (.int (0 : Int32)), (.int (0 : Int32)), (.int (0 : Int32)), (.int (0 : Int32)), (.int (0 : Int32))] (.int (0 : Int32)) := Arv.set Ar587 q587 S587 M587 H587 G587 rfl W587 28 (by decide) (Nat.le_of_ble_eq_true rfl)
  refine own_go st587 ?_
  show OwnGo p e below _ (T587.setTop (mkF m 285 #[.val (.int p0), .val (.int p1), .val (.int p2), .val (.int p3), .val (.int N), .unset, .unset, .unset] [(.ref a529)]))
  refine own_go (fun _ k => XS.dup X587.here hx rfl (hb hby at_285) rfl rfl k) ?_
  show OwnGo p e below _ (T587.setTop (mkF m 286 #[.val (.int p0), .val (.int p1), .val (.int p2), .val (.int p3), .val (.int N), .unset, .unset, .unset] [(.ref a529), (.ref a529)]))
  refine own_go (fun _ k => XS.bipush X587.here hx rfl (hb hby at_286) k) ?_
  show OwnGo p e below _ (T587.setTop (mkF m 288 #[.val (.int p0), .val (.int p1), .val (.int p2), .val (.int p3), .val (.int N), .unset, .unset, .unset] [(.int (29 : Int32)), (.ref a529), (.ref a529)]))
  refine own_go (fun _ k => XS.iloadN X587.here hx rfl (hb hby at_288) rfl k) ?_
  show OwnGo p e below _ (T587.setTop (mkF m 289 #[.val (.int p0), .val (.int p1), .val (.int p2), .val (.int p3), .val (.int N), .unset, .unset, .unset] [(.int p1), (.int (29 : Int32)), (.ref a529), (.ref a529)]))
  refine own_go (fun _ k => XS.bipush X587.here hx rfl (hb hby at_289) k) ?_
  show OwnGo p e below _ (T587.setTop (mkF m 291 #[.val (.int p0), .val (.int p1), .val (.int p2), .val (.int p3), .val (.int N), .unset, .unset, .unset] [(.int (29 : Int32)), (.int p1), (.int (29 : Int32)), (.ref a529), (.ref a529)]))
  refine own_go (fun _ k => XS.iloadN X587.here hx rfl (hb hby at_291) rfl k) ?_
  show OwnGo p e below _ (T587.setTop (mkF m 292 #[.val (.int p0), .val (.int p1), .val (.int p2), .val (.int p3), .val (.int N), .unset, .unset, .unset] [(.int p2), (.int (29 : Int32)), (.int p1), (.int (29 : Int32)), (.ref a529), (.ref a529)]))
  refine own_go (fun _ k => XS.imul X587.here hx rfl (hb hby at_292) rfl k) ?_
  show OwnGo p e below _ (T587.setTop (mkF m 293 #[.val (.int p0), .val (.int p1), .val (.int p2), .val (.int p3), .val (.int N), .unset, .unset, .unset] [(.int ((29 : Int32) * p2)), (.int p1), (.int (29 : Int32)), (.ref a529), (.ref a529)]))
  refine own_go (fun _ k => XS.iadd X587.here hx rfl (hb hby at_293) rfl k) ?_
  show OwnGo p e below _ (T587.setTop (mkF m 294 #[.val (.int p0), .val (.int p1), .val (.int p2), .val (.int p3), .val (.int N), .unset, .unset, .unset] [(.int (p1 + ((29 : Int32) * p2))), (.int (29 : Int32)), (.ref a529), (.ref a529)]))
  obtain ⟨c589, Ar589, q589, S589, M589, H589, G589⟩ := (id V587)
  obtain ⟨T589, h589, X589, e589, W589, st589⟩ := stI X587 hx hZ e587 Ar589 (j := (29 : Int32)) (inb_of S589 ⟨by decide, by decide⟩) (g := (mkF m 294 #[.val (.int p0), .val (.int p1), .val (.int p2), .val (.int p3), .val (.int N), .unset, .unset, .unset] [(.int (p1 + ((29 : Int32) * p2))), (.int (29 : Int32)), (.ref a529), (.ref a529)])) rfl rfl (hb hby at_294)
  have N589 := Fr.snoc X589 N587 ge529
  have O589 := O587.wr W589 ge529
  have z590 : h0.size ≤ h589.size := Nat.le_trans z588 (Nat.le_of_eq W589.size.symm)
  have V589 : Arv Z h589 a529 k529 .int (34 : Int32) [(.int p1), (.int (p1 + p2)), (.int (p1 + ((2 : Int32) * p2))), (.int (p1 + ((3 : Int32) * p2))), (.int (p1 + ((4 : Int32) * p2))), (.int (p1 + ((5 : Int32) * p2))), (.int (p1 + ((6 : Int32) * p2))), (.int (p1 + ((7 : Int32) * p2))), (.int (p1 + ((8 : Int32) * p2))), (.int (p1 + ((9 : Int32) * p2))), (.int (p1 + ((10 : Int32) * p2))), (.int (p1 + ((11 : Int32) * p2))), (.int (p1 + ((12 : Int32) * p2))), (.int (p1 + ((13 : Int32) * p2))), (.int (p1 + ((14 : Int32) * p2))), (.int (p1 + ((15 : Int32) * p2))), (.int (p1 + ((16 : Int32) * p2))), (.int (p1 + ((17 : Int32) * p2))), (.int (p1 + ((18 : Int32) * p2))), (.int (p1 + ((19 : Int32) * p2))), (.int (p1 + ((20 : Int32) * p2))), (.int (p1 + ((21 : Int32) * p2))), (.int (p1 + ((22 : Int32) * p2))), (.int (p1 + ((23 : Int32) * p2))), (.int (p1 + ((24 : Int32) * p2))), (.int (p1 + ((25 : Int32) * p2))), (.int (p1 + ((26 : Int32) * p2))), (.int (p1 + ((27 : Int32) * p2))), (.int (p1 + ((28 : Int32) * p2))), (.int (p1 + ((29 : Int32) * p2))), (.int (0 : Int32)), (.int (0 : Int32)), (.int (0 : Int32)), (.int (0 : Int32))] (.int (0 : Int32)) := Arv.set Ar589 q589 S589 M589 H589 G589 rfl W589 29 (by decide) (Nat.le_of_ble_eq_true rfl)
  refine own_go st589 ?_
  show OwnGo p e below _ (T589.setTop (mkF m 295 #[.val (.int p0), .val (.int p1), .val (.int p2), .val (.int p3), .val (.int N), .unset, .unset, .unset] [(.ref a529)]))
  refine own_go (fun _ k => XS.dup X589.here hx rfl (hb hby at_295) rfl rfl k) ?_
  show OwnGo p e below _ (T589.setTop (mkF m 296 #[.val (.int p0), .val (.int p1), .val (.int p2), .val (.int p3), .val (.int N), .unset, .unset, .unset] [(.ref a529), (.ref a529)]))
  refine own_go (fun _ k => XS.bipush X589.here hx rfl (hb hby at_296) k) ?_
  show OwnGo p e below _ (T589.setTop (mkF m 298 #[.val (.int p0), .val (.int p1), .val (.int p2), .val (.int p3), .val (.int N), .unset, .unset, .unset] [(.int (30 : Int32)), (.ref a529), (.ref a529)]))
  refine own_go (fun _ k => XS.iloadN X589.here hx rfl (hb hby at_298) rfl k) ?_
  show OwnGo p e below _ (T589.setTop (mkF m 299 #[.val (.int p0), .val (.int p1), .val (.int p2), .val (.int p3), .val (.int N), .unset, .unset, .unset] [(.int p1), (.int (30 : Int32)), (.ref a529), (.ref a529)]))
  refine own_go (fun _ k => XS.bipush X589.here hx rfl (hb hby at_299) k) ?_
  show OwnGo p e below _ (T589.setTop (mkF m 301 #[.val (.int p0), .val (.int p1), .val (.int p2), .val (.int p3), .val (.int N), .unset, .unset, .unset] [(.int (30 : Int32)), (.int p1), (.int (30 : Int32)), (.ref a529), (.ref a529)]))
  refine own_go (fun _ k => XS.iloadN X589.here hx rfl (hb hby at_301) rfl k) ?_
  show OwnGo p e below _ (T589.setTop (mkF m 302 #[.val (.int p0), .val (.int p1), .val (.int p2), .val (.int p3), .val (.int N), .unset, .unset, .unset] [(.int p2), (.int (30 : Int32)), (.int p1), (.int (30 : Int32)), (.ref a529), (.ref a529)]))
  refine own_go (fun _ k => XS.imul X589.here hx rfl (hb hby at_302) rfl k) ?_
  show OwnGo p e below _ (T589.setTop (mkF m 303 #[.val (.int p0), .val (.int p1), .val (.int p2), .val (.int p3), .val (.int N), .unset, .unset, .unset] [(.int ((30 : Int32) * p2)), (.int p1), (.int (30 : Int32)), (.ref a529), (.ref a529)]))
  refine own_go (fun _ k => XS.iadd X589.here hx rfl (hb hby at_303) rfl k) ?_
  show OwnGo p e below _ (T589.setTop (mkF m 304 #[.val (.int p0), .val (.int p1), .val (.int p2), .val (.int p3), .val (.int N), .unset, .unset, .unset] [(.int (p1 + ((30 : Int32) * p2))), (.int (30 : Int32)), (.ref a529), (.ref a529)]))
  obtain ⟨c591, Ar591, q591, S591, M591, H591, G591⟩ := (id V589)
  obtain ⟨T591, h591, X591, e591, W591, st591⟩ := stI X589 hx hZ e589 Ar591 (j := (30 : Int32)) (inb_of S591 ⟨by decide, by decide⟩) (g := (mkF m 304 #[.val (.int p0), .val (.int p1), .val (.int p2), .val (.int p3), .val (.int N), .unset, .unset, .unset] [(.int (p1 + ((30 : Int32) * p2))), (.int (30 : Int32)), (.ref a529), (.ref a529)])) rfl rfl (hb hby at_304)
  have N591 := Fr.snoc X591 N589 ge529
  have O591 := O589.wr W591 ge529
  have z592 : h0.size ≤ h591.size := Nat.le_trans z590 (Nat.le_of_eq W591.size.symm)
  have V591 : Arv Z h591 a529 k529 .int (34 : Int32) [(.int p1), (.int (p1 + p2)), (.int (p1 + ((2 : Int32) * p2))), (.int (p1 + ((3 : Int32) * p2))), (.int (p1 + ((4 : Int32) * p2))), (.int (p1 + ((5 : Int32) * p2))), (.int (p1 + ((6 : Int32) * p2))), (.int (p1 + ((7 : Int32) * p2))), (.int (p1 + ((8 : Int32) * p2))), (.int (p1 + ((9 : Int32) * p2))), (.int (p1 + ((10 : Int32) * p2))), (.int (p1 + ((11 : Int32) * p2))), (.int (p1 + ((12 : Int32) * p2))), (.int (p1 + ((13 : Int32) * p2))), (.int (p1 + ((14 : Int32) * p2))), (.int (p1 + ((15 : Int32) * p2))), (.int (p1 + ((16 : Int32) * p2))), (.int (p1 + ((17 : Int32) * p2))), (.int (p1 + ((18 : Int32) * p2))), (.int (p1 + ((19 : Int32) * p2))), (.int (p1 + ((20 : Int32) * p2))), (.int (p1 + ((21 : Int32) * p2))), (.int (p1 + ((22 : Int32) * p2))), (.int (p1 + ((23 : Int32) * p2))), (.int (p1 + ((24 : Int32) * p2))), (.int (p1 + ((25 : Int32) * p2))), (.int (p1 + ((26 : Int32) * p2))), (.int (p1 + ((27 : Int32) * p2))), (.int (p1 + ((28 : Int32) * p2))), (.int (p1 + ((29 : Int32) * p2))), (.int (p1 + ((30 : Int32) * p2))), (.int (0 : Int32)), (.int (0 : Int32)), (.int (0 : Int32))] (.int (0 : Int32)) := Arv.set Ar591 q591 S591 M591 H591 G591 rfl W591 30 (by decide) (Nat.le_of_ble_eq_true rfl)
  refine own_go st591 ?_
  show OwnGo p e below _ (T591.setTop (mkF m 305 #[.val (.int p0), .val (.int p1), .val (.int p2), .val (.int p3), .val (.int N), .unset, .unset, .unset] [(.ref a529)]))
  refine own_go (fun _ k => XS.dup X591.here hx rfl (hb hby at_305) rfl rfl k) ?_
  show OwnGo p e below _ (T591.setTop (mkF m 306 #[.val (.int p0), .val (.int p1), .val (.int p2), .val (.int p3), .val (.int N), .unset, .unset, .unset] [(.ref a529), (.ref a529)]))
  refine own_go (fun _ k => XS.bipush X591.here hx rfl (hb hby at_306) k) ?_
  show OwnGo p e below _ (T591.setTop (mkF m 308 #[.val (.int p0), .val (.int p1), .val (.int p2), .val (.int p3), .val (.int N), .unset, .unset, .unset] [(.int (31 : Int32)), (.ref a529), (.ref a529)]))
  refine own_go (fun _ k => XS.iloadN X591.here hx rfl (hb hby at_308) rfl k) ?_
  show OwnGo p e below _ (T591.setTop (mkF m 309 #[.val (.int p0), .val (.int p1), .val (.int p2), .val (.int p3), .val (.int N), .unset, .unset, .unset] [(.int p1), (.int (31 : Int32)), (.ref a529), (.ref a529)]))
  refine own_go (fun _ k => XS.bipush X591.here hx rfl (hb hby at_309) k) ?_
  show OwnGo p e below _ (T591.setTop (mkF m 311 #[.val (.int p0), .val (.int p1), .val (.int p2), .val (.int p3), .val (.int N), .unset, .unset, .unset] [(.int (31 : Int32)), (.int p1), (.int (31 : Int32)), (.ref a529), (.ref a529)]))
  refine own_go (fun _ k => XS.iloadN X591.here hx rfl (hb hby at_311) rfl k) ?_
  show OwnGo p e below _ (T591.setTop (mkF m 312 #[.val (.int p0), .val (.int p1), .val (.int p2), .val (.int p3), .val (.int N), .unset, .unset, .unset] [(.int p2), (.int (31 : Int32)), (.int p1), (.int (31 : Int32)), (.ref a529), (.ref a529)]))
  refine own_go (fun _ k => XS.imul X591.here hx rfl (hb hby at_312) rfl k) ?_
  show OwnGo p e below _ (T591.setTop (mkF m 313 #[.val (.int p0), .val (.int p1), .val (.int p2), .val (.int p3), .val (.int N), .unset, .unset, .unset] [(.int ((31 : Int32) * p2)), (.int p1), (.int (31 : Int32)), (.ref a529), (.ref a529)]))
  refine own_go (fun _ k => XS.iadd X591.here hx rfl (hb hby at_313) rfl k) ?_
  show OwnGo p e below _ (T591.setTop (mkF m 314 #[.val (.int p0), .val (.int p1), .val (.int p2), .val (.int p3), .val (.int N), .unset, .unset, .unset] [(.int (p1 + ((31 : Int32) * p2))), (.int (31 : Int32)), (.ref a529), (.ref a529)]))
  obtain ⟨c593, Ar593, q593, S593, M593, H593, G593⟩ := (id V591)
  obtain ⟨T593, h593, X593, e593, W593, st593⟩ := stI X591 hx hZ e591 Ar593 (j := (31 : Int32)) (inb_of S593 ⟨by decide, by decide⟩) (g := (mkF m 314 #[.val (.int p0), .val (.int p1), .val (.int p2), .val (.int p3), .val (.int N), .unset, .unset, .unset] [(.int (p1 + ((31 : Int32) * p2))), (.int (31 : Int32)), (.ref a529), (.ref a529)])) rfl rfl (hb hby at_314)
  have N593 := Fr.snoc X593 N591 ge529
  have O593 := O591.wr W593 ge529
  have z594 : h0.size ≤ h593.size := Nat.le_trans z592 (Nat.le_of_eq W593.size.symm)
  have V593 : Arv Z h593 a529 k529 .int (34 : Int32) [(.int p1), (.int (p1 + p2)), (.int (p1 + ((2 : Int32) * p2))), (.int (p1 + ((3 : Int32) * p2))), (.int (p1 + ((4 : Int32) * p2))), (.int (p1 + ((5 : Int32) * p2))), (.int (p1 + ((6 : Int32) * p2))), (.int (p1 + ((7 : Int32) * p2))), (.int (p1 + ((8 : Int32) * p2))), (.int (p1 + ((9 : Int32) * p2))), (.int (p1 + ((10 : Int32) * p2))), (.int (p1 + ((11 : Int32) * p2))), (.int (p1 + ((12 : Int32) * p2))), (.int (p1 + ((13 : Int32) * p2))), (.int (p1 + ((14 : Int32) * p2))), (.int (p1 + ((15 : Int32) * p2))), (.int (p1 + ((16 : Int32) * p2))), (.int (p1 + ((17 : Int32) * p2))), (.int (p1 + ((18 : Int32) * p2))), (.int (p1 + ((19 : Int32) * p2))), (.int (p1 + ((20 : Int32) * p2))), (.int (p1 + ((21 : Int32) * p2))), (.int (p1 + ((22 : Int32) * p2))), (.int (p1 + ((23 : Int32) * p2))), (.int (p1 + ((24 : Int32) * p2))), (.int (p1 + ((25 : Int32) * p2))), (.int (p1 + ((26 : Int32) * p2))), (.int (p1 + ((27 : Int32) * p2))), (.int (p1 + ((28 : Int32) * p2))), (.int (p1 + ((29 : Int32) * p2))), (.int (p1 + ((30 : Int32) * p2))), (.int (p1 + ((31 : Int32) * p2))), (.int (0 : Int32)), (.int (0 : Int32))] (.int (0 : Int32)) := Arv.set Ar593 q593 S593 M593 H593 G593 rfl W593 31 (by decide) (Nat.le_of_ble_eq_true rfl)
  refine own_go st593 ?_
  show OwnGo p e below _ (T593.setTop (mkF m 315 #[.val (.int p0), .val (.int p1), .val (.int p2), .val (.int p3), .val (.int N), .unset, .unset, .unset] [(.ref a529)]))
  refine own_go (fun _ k => XS.dup X593.here hx rfl (hb hby at_315) rfl rfl k) ?_
  show OwnGo p e below _ (T593.setTop (mkF m 316 #[.val (.int p0), .val (.int p1), .val (.int p2), .val (.int p3), .val (.int N), .unset, .unset, .unset] [(.ref a529), (.ref a529)]))
  refine own_go (fun _ k => XS.bipush X593.here hx rfl (hb hby at_316) k) ?_
  show OwnGo p e below _ (T593.setTop (mkF m 318 #[.val (.int p0), .val (.int p1), .val (.int p2), .val (.int p3), .val (.int N), .unset, .unset, .unset] [(.int (32 : Int32)), (.ref a529), (.ref a529)]))
  refine own_go (fun _ k => XS.iloadN X593.here hx rfl (hb hby at_318) rfl k) ?_
  show OwnGo p e below _ (T593.setTop (mkF m 319 #[.val (.int p0), .val (.int p1), .val (.int p2), .val (.int p3), .val (.int N), .unset, .unset, .unset] [(.int p1), (.int (32 : Int32)), (.ref a529), (.ref a529)]))
  refine own_go (fun _ k => XS.bipush X593.here hx rfl (hb hby at_319) k) ?_
  show OwnGo p e below _ (T593.setTop (mkF m 321 #[.val (.int p0), .val (.int p1), .val (.int p2), .val (.int p3), .val (.int N), .unset, .unset, .unset] [(.int (32 : Int32)), (.int p1), (.int (32 : Int32)), (.ref a529), (.ref a529)]))
  refine own_go (fun _ k => XS.iloadN X593.here hx rfl (hb hby at_321) rfl k) ?_
  show OwnGo p e below _ (T593.setTop (mkF m 322 #[.val (.int p0), .val (.int p1), .val (.int p2), .val (.int p3), .val (.int N), .unset, .unset, .unset] [(.int p2), (.int (32 : Int32)), (.int p1), (.int (32 : Int32)), (.ref a529), (.ref a529)]))
  refine own_go (fun _ k => XS.imul X593.here hx rfl (hb hby at_322) rfl k) ?_
  show OwnGo p e below _ (T593.setTop (mkF m 323 #[.val (.int p0), .val (.int p1), .val (.int p2), .val (.int p3), .val (.int N), .unset, .unset, .unset] [(.int ((32 : Int32) * p2)), (.int p1), (.int (32 : Int32)), (.ref a529), (.ref a529)]))
  refine own_go (fun _ k => XS.iadd X593.here hx rfl (hb hby at_323) rfl k) ?_
  show OwnGo p e below _ (T593.setTop (mkF m 324 #[.val (.int p0), .val (.int p1), .val (.int p2), .val (.int p3), .val (.int N), .unset, .unset, .unset] [(.int (p1 + ((32 : Int32) * p2))), (.int (32 : Int32)), (.ref a529), (.ref a529)]))
  obtain ⟨c595, Ar595, q595, S595, M595, H595, G595⟩ := (id V593)
  obtain ⟨T595, h595, X595, e595, W595, st595⟩ := stI X593 hx hZ e593 Ar595 (j := (32 : Int32)) (inb_of S595 ⟨by decide, by decide⟩) (g := (mkF m 324 #[.val (.int p0), .val (.int p1), .val (.int p2), .val (.int p3), .val (.int N), .unset, .unset, .unset] [(.int (p1 + ((32 : Int32) * p2))), (.int (32 : Int32)), (.ref a529), (.ref a529)])) rfl rfl (hb hby at_324)
  have N595 := Fr.snoc X595 N593 ge529
  have O595 := O593.wr W595 ge529
  have z596 : h0.size ≤ h595.size := Nat.le_trans z594 (Nat.le_of_eq W595.size.symm)
  have V595 : Arv Z h595 a529 k529 .int (34 : Int32) [(.int p1), (.int (p1 + p2)), (.int (p1 + ((2 : Int32) * p2))), (.int (p1 + ((3 : Int32) * p2))), (.int (p1 + ((4 : Int32) * p2))), (.int (p1 + ((5 : Int32) * p2))), (.int (p1 + ((6 : Int32) * p2))), (.int (p1 + ((7 : Int32) * p2))), (.int (p1 + ((8 : Int32) * p2))), (.int (p1 + ((9 : Int32) * p2))), (.int (p1 + ((10 : Int32) * p2))), (.int (p1 + ((11 : Int32) * p2))), (.int (p1 + ((12 : Int32) * p2))), (.int (p1 + ((13 : Int32) * p2))), (.int (p1 + ((14 : Int32) * p2))), (.int (p1 + ((15 : Int32) * p2))), (.int (p1 + ((16 : Int32) * p2))), (.int (p1 + ((17 : Int32) * p2))), (.int (p1 + ((18 : Int32) * p2))), (.int (p1 + ((19 : Int32) * p2))), (.int (p1 + ((20 : Int32) * p2))), (.int (p1 + ((21 : Int32) * p2))), (.int (p1 + ((22 : Int32) * p2))), (.int (p1 + ((23 : Int32) * p2))), (.int (p1 + ((24 : Int32) * p2))), (.int (p1 + ((25 : Int32) * p2))), (.int (p1 + ((26 : Int32) * p2))), (.int (p1 + ((27 : Int32) * p2))), (.int (p1 + ((28 : Int32) * p2))), (.int (p1 + ((29 : Int32) * p2))), (.int (p1 + ((30 : Int32) * p2))), (.int (p1 + ((31 : Int32) * p2))), (.int (p1 + ((32 : Int32) * p2))), (.int (0 : Int32))] (.int (0 : Int32)) := Arv.set Ar595 q595 S595 M595 H595 G595 rfl W595 32 (by decide) (Nat.le_of_ble_eq_true rfl)
  refine own_go st595 ?_
  show OwnGo p e below _ (T595.setTop (mkF m 325 #[.val (.int p0), .val (.int p1), .val (.int p2), .val (.int p3), .val (.int N), .unset, .unset, .unset] [(.ref a529)]))
  refine own_go (fun _ k => XS.dup X595.here hx rfl (hb hby at_325) rfl rfl k) ?_
  show OwnGo p e below _ (T595.setTop (mkF m 326 #[.val (.int p0), .val (.int p1), .val (.int p2), .val (.int p3), .val (.int N), .unset, .unset, .unset] [(.ref a529), (.ref a529)]))
  refine own_go (fun _ k => XS.bipush X595.here hx rfl (hb hby at_326) k) ?_
  show OwnGo p e below _ (T595.setTop (mkF m 328 #[.val (.int p0), .val (.int p1), .val (.int p2), .val (.int p3), .val (.int N), .unset, .unset, .unset] [(.int (33 : Int32)), (.ref a529), (.ref a529)]))
  refine own_go (fun _ k => XS.iloadN X595.here hx rfl (hb hby at_328) rfl k) ?_
  show OwnGo p e below _ (T595.setTop (mkF m 329 #[.val (.int p0), .val (.int p1), .val (.int p2), .val (.int p3), .val (.int N), .unset, .unset, .unset] [(.int p1), (.int (33 : Int32)), (.ref a529), (.ref a529)]))
  refine own_go (fun _ k => XS.bipush X595.here hx rfl (hb hby at_329) k) ?_
  show OwnGo p e below _ (T595.setTop (mkF m 331 #[.val (.int p0), .val (.int p1), .val (.int p2), .val (.int p3), .val (.int N), .unset, .unset, .unset] [(.int (33 : Int32)), (.int p1), (.int (33 : Int32)), (.ref a529), (.ref a529)]))
  refine own_go (fun _ k => XS.iloadN X595.here hx rfl (hb hby at_331) rfl k) ?_
  show OwnGo p e below _ (T595.setTop (mkF m 332 #[.val (.int p0), .val (.int p1), .val (.int p2), .val (.int p3), .val (.int N), .unset, .unset, .unset] [(.int p2), (.int (33 : Int32)), (.int p1), (.int (33 : Int32)), (.ref a529), (.ref a529)]))
  refine own_go (fun _ k => XS.imul X595.here hx rfl (hb hby at_332) rfl k) ?_
  show OwnGo p e below _ (T595.setTop (mkF m 333 #[.val (.int p0), .val (.int p1), .val (.int p2), .val (.int p3), .val (.int N), .unset, .unset, .unset] [(.int ((33 : Int32) * p2)), (.int p1), (.int (33 : Int32)), (.ref a529), (.ref a529)]))
  refine own_go (fun _ k => XS.iadd X595.here hx rfl (hb hby at_333) rfl k) ?_
  show OwnGo p e below _ (T595.setTop (mkF m 334 #[.val (.int p0), .val (.int p1), .val (.int p2), .val (.int p3), .val (.int N), .unset, .unset, .unset] [(.int (p1 + ((33 : Int32) * p2))), (.int (33 : Int32)), (.ref a529), (.ref a529)]))
  obtain ⟨c597, Ar597, q597, S597, M597, H597, G597⟩ := (id V595)
  obtain ⟨T597, h597, X597, e597, W597, st597⟩ := stI X595 hx hZ e595 Ar597 (j := (33 : Int32)) (inb_of S597 ⟨by decide, by decide⟩) (g := (mkF m 334 #[.val (.int p0), .val (.int p1), .val (.int p2), .val (.int p3), .val (.int N), .unset, .unset, .unset] [(.int (p1 + ((33 : Int32) * p2))), (.int (33 : Int32)), (.ref a529), (.ref a529)])) rfl rfl (hb hby at_334)
  have N597 := Fr.snoc X597 N595 ge529
  have O597 := O595.wr W597 ge529
  have z598 : h0.size ≤ h597.size := Nat.le_trans z596 (Nat.le_of_eq W597.size.symm)
  have V597 : Arv Z h597 a529 k529 .int (34 : Int32) [(.int p1), (.int (p1 + p2)), (.int (p1 + ((2 : Int32) * p2))), (.int (p1 + ((3 : Int32) * p2))), (.int (p1 + ((4 : Int32) * p2))), (.int (p1 + ((5 : Int32) * p2))), (.int (p1 + ((6 : Int32) * p2))), (.int (p1 + ((7 : Int32) * p2))), (.int (p1 + ((8 : Int32) * p2))), (.int (p1 + ((9 : Int32) * p2))), (.int (p1 + ((10 : Int32) * p2))), (.int (p1 + ((11 : Int32) * p2))), (.int (p1 + ((12 : Int32) * p2))), (.int (p1 + ((13 : Int32) * p2))), (.int (p1 + ((14 : Int32) * p2))), (.int (p1 + ((15 : Int32) * p2))), (.int (p1 + ((16 : Int32) * p2))), (.int (p1 + ((17 : Int32) * p2))), (.int (p1 + ((18 : Int32) * p2))), (.int (p1 + ((19 : Int32) * p2))), (.int (p1 + ((20 : Int32) * p2))), (.int (p1 + ((21 : Int32) * p2))), (.int (p1 + ((22 : Int32) * p2))), (.int (p1 + ((23 : Int32) * p2))), (.int (p1 + ((24 : Int32) * p2))), (.int (p1 + ((25 : Int32) * p2))), (.int (p1 + ((26 : Int32) * p2))), (.int (p1 + ((27 : Int32) * p2))), (.int (p1 + ((28 : Int32) * p2))), (.int (p1 + ((29 : Int32) * p2))), (.int (p1 + ((30 : Int32) * p2))), (.int (p1 + ((31 : Int32) * p2))), (.int (p1 + ((32 : Int32) * p2))), (.int (p1 + ((33 : Int32) * p2)))] (.int (0 : Int32)) := Arv.set Ar597 q597 S597 M597 H597 G597 rfl W597 33 (by decide) (Nat.le_of_ble_eq_true rfl)
  refine own_go st597 ?_
  show OwnGo p e below _ (T597.setTop (mkF m 335 #[.val (.int p0), .val (.int p1), .val (.int p2), .val (.int p3), .val (.int N), .unset, .unset, .unset] [(.ref a529)]))
  refine own_go (fun _ k => XS.astore X597.here hx rfl (hb hby at_335) rfl rfl (l' := #[.val (.int p0), .val (.int p1), .val (.int p2), .val (.int p3), .val (.int N), .val (.ref a529), .unset, .unset]) rfl k) ?_
  show OwnGo p e below _ (T597.setTop (mkF m 337 #[.val (.int p0), .val (.int p1), .val (.int p2), .val (.int p3), .val (.int N), .val (.ref a529), .unset, .unset] []))
  refine own_go (fun _ k => XS.aload X597.here hx rfl (hb hby at_337) rfl rfl k) ?_
  show OwnGo p e below _ (T597.setTop (mkF m 339 #[.val (.int p0), .val (.int p1), .val (.int p2), .val (.int p3), .val (.int N), .val (.ref a529), .unset, .unset] [(.ref a529)]))
  refine own_go (fun _ k => XS.iconst X597.here hx rfl (hb hby at_339) k) ?_
  show OwnGo p e below _ (T597.setTop (mkF m 340 #[.val (.int p0), .val (.int p1), .val (.int p2), .val (.int p3), .val (.int N), .val (.ref a529), .unset, .unset] [(.int (0 : Int32)), (.ref a529)]))
  refine own_go (fun _ k => XS.iload X597.here hx rfl (hb hby at_340) rfl k) ?_
  show OwnGo p e below _ (T597.setTop (mkF m 342 #[.val (.int p0), .val (.int p1), .val (.int p2), .val (.int p3), .val (.int N), .val (.ref a529), .unset, .unset] [(.int N), (.int (0 : Int32)), (.ref a529)]))
  obtain ⟨af, VA⟩ := IA.of_arv V597
  obtain ⟨LP0, XP0, NP0⟩ : ∃ L, Stand p l e room_1 s m #[(.int p0), (.int p1), (.int p2), (.int p3)] below meth c T597 L 1 34 ∧ Fr n0 L := ⟨_, X597, N597⟩
  by_cases hc599 : N = (0 : Int32)
  · show OwnGo p e below _ (T597.setTop (mkF m 342 #[.val (.int p0), .val (.int p1), .val (.int p2), .val (.int p3), .val (.int N), .val (.ref a529), .unset, .unset] [(.int N), (.int (0 : Int32)), (.ref a529)]))
    obtain ⟨_, _, ⟨T600, L600, k600, n600⟩, -, X600, ⟨Lc600, hQ600, l600, y600, z600⟩, st600⟩ := Jvm.LawKit.callS XP0 hx (y := (⟨"com/example/reweave/reweave/control/Keys", "of", "([III)Lcom/example/reweave/reweave/control/Keys;"⟩ : MethodName)) hown (mvT hZ (hw _ (List.mem_of_getElem? (i := 2) rfl))) (mvT hZ (hw _ (List.mem_of_getElem? (i := 3) rfl))) (mvT hZ (hw _ (List.mem_of_getElem? (i := 4) rfl))) (mvT hZ (hw _ (List.mem_of_getElem? (i := 5) rfl))) (by decide) (backOf (W := 0) (rm_of0 l Z a0 hw [] aNONE F0 a529 N h597 n0 O597 hc599) hZ (hw _ (List.mem_of_getElem? (i := 5) rfl)) (hw _ (List.mem_of_getElem? (i := 4) rfl)) (by decide) (by decide)) (g := (mkF m 342 #[.val (.int p0), .val (.int p1), .val (.int p2), .val (.int p3), .val (.int N), .val (.ref a529), .unset, .unset] [(.int N), (.int (0 : Int32)), (.ref a529)])) rfl (by rw [hml]; rfl) (argsL := [(.ref a529), (.int (0 : Int32)), (.int N)]) (rest := []) (lenOf pd__I_I_I__Lcom_example_reweave_reweave_control_Keys_ rfl) rfl (by show 2 * 0 + _ ≤ _; exact Nat.le_of_eq rfl) (hb hby at_342) (fun _ _ => ⟨rfl, e597, (by decide : 1 + 0 ≤ _), (by decide : 34 + 0 ≤ _)⟩)
    dsimp only [Pt.U, Pt.locs, Pt.cells, Pt.slots] at X600 l600 y600 z600 st600 hQ600
    subst l600 y600 z600
    obtain ⟨rfl, Nq600, K600⟩ := hQ600
    have N600 := Fr.app NP0 Nq600
    refine own_go st600 ?_
    show OwnGo p e below _ (T600.setTop (mkF m 345 #[.val (.int p0), .val (.int p1), .val (.int p2), .val (.int p3), .val (.int N), .val (.ref a529), .unset, .unset] [(.ref aNONE)]))
    refine own_go (fun _ k => XS.astore X600.here hx rfl (hb hby at_345) rfl rfl (l' := #[.val (.int p0), .val (.int p1), .val (.int p2), .val (.int p3), .val (.int N), .val (.ref a529), .val (.ref aNONE), .unset]) rfl k) ?_
    show OwnGo p e below _ (T600.setTop (mkF m 347 #[.val (.int p0), .val (.int p1), .val (.int p2), .val (.int p3), .val (.int N), .val (.ref a529), .val (.ref aNONE), .unset] []))
    refine own_go (fun _ k => XS.aload X600.here hx rfl (hb hby at_347) rfl rfl k) ?_
    show OwnGo p e below _ (T600.setTop (mkF m 349 #[.val (.int p0), .val (.int p1), .val (.int p2), .val (.int p3), .val (.int N), .val (.ref a529), .val (.ref aNONE), .unset] [(.ref aNONE)]))
    obtain ⟨_, _, ⟨T601, L601, k601, n601⟩, -, X601, ⟨Lc601, hQ601, l601, y601, z601⟩, st601⟩ := Jvm.LawKit.callS X600 hx (y := (⟨"com/example/reweave/reweave/control/Keys", "emptied", "(Lcom/example/reweave/reweave/control/Keys;)Lcom/example/reweave/reweave/control/Keys;"⟩ : MethodName)) hown (mvT hZ (hw _ (List.mem_of_getElem? (i := 8) rfl))) (mvT hZ (hw _ (List.mem_of_getElem? (i := 9) rfl))) (mvT hZ (hw _ (List.mem_of_getElem? (i := 4) rfl))) (mvT hZ (hw _ (List.mem_of_getElem? (i := 10) rfl))) (by decide) (backOf (W := 0) (rm_emN l Z a0 hw [] aNONE F0 h597 n0 O597) hZ (hw _ (List.mem_of_getElem? (i := 10) rfl)) (hw _ (List.mem_of_getElem? (i := 4) rfl)) (by decide) (by decide)) (g := (mkF m 349 #[.val (.int p0), .val (.int p1), .val (.int p2), .val (.int p3), .val (.int N), .val (.ref a529), .val (.ref aNONE), .unset] [(.ref aNONE)])) rfl (by rw [hml]; rfl) (argsL := [(.ref aNONE)]) (rest := []) (lenOf pd_Lcom_example_reweave_reweave_control_Keys___Lcom_example_reweave_reweave_control_Keys_ rfl) rfl (by show 2 * 0 + _ ≤ _; exact Nat.le_of_eq rfl) (hb hby at_349) (fun _ _ => ⟨rfl, K600, (by decide : 1 + 0 ≤ _), (by decide : 34 + 0 ≤ _)⟩)
    dsimp only [Pt.U, Pt.locs, Pt.cells, Pt.slots] at X601 l601 y601 z601 st601 hQ601
    subst l601 y601 z601
    obtain ⟨rfl, Nq601, K601⟩ := hQ601
    have N601 := Fr.app N600 Nq601
    refine own_go st601 ?_
    show OwnGo p e below _ (T601.setTop (mkF m 352 #[.val (.int p0), .val (.int p1), .val (.int p2), .val (.int p3), .val (.int N), .val (.ref a529), .val (.ref aNONE), .unset] [(.ref aNONE)]))
    refine own_go (fun _ k => XS.astore X601.here hx rfl (hb hby at_352) rfl rfl (l' := #[.val (.int p0), .val (.int p1), .val (.int p2), .val (.int p3), .val (.int N), .val (.ref a529), .val (.ref aNONE), .val (.ref aNONE)]) rfl k) ?_
    show OwnGo p e below _ (T601.setTop (mkF m 354 #[.val (.int p0), .val (.int p1), .val (.int p2), .val (.int p3), .val (.int N), .val (.ref a529), .val (.ref aNONE), .val (.ref aNONE)] []))
    refine own_go (fun _ k => XS.iload X601.here hx rfl (hb hby at_354) rfl k) ?_
    show OwnGo p e below _ (T601.setTop (mkF m 356 #[.val (.int p0), .val (.int p1), .val (.int p2), .val (.int p3), .val (.int N), .val (.ref a529), .val (.ref aNONE), .val (.ref aNONE)] [(.int N)]))
    refine own_go (fun _ k => XS.ifYes X601.here hx rfl (pc0 := 356) (pc' := 366) rfl (hb hby at_356) rfl ((if0 _ _).trans (teq hc599).1) (by decide) (by decide) k) ?_
    show OwnGo p e below _ (T601.setTop (mkF m 366 #[.val (.int p0), .val (.int p1), .val (.int p2), .val (.int p3), .val (.int N), .val (.ref a529), .val (.ref aNONE), .val (.ref aNONE)] []))
    refine own_go (fun _ k => XS.aload X601.here hx rfl (hb hby at_366) rfl rfl k) ?_
    show OwnGo p e below _ (T601.setTop (mkF m 368 #[.val (.int p0), .val (.int p1), .val (.int p2), .val (.int p3), .val (.int N), .val (.ref a529), .val (.ref aNONE), .val (.ref aNONE)] [(.ref aNONE)]))
    obtain ⟨T602, X602, e602, st602⟩ := getS X601 hx hZ hown (host := "") (hw _ (List.mem_of_getElem? (i := 11) rfl)) Via.refl K601 (F0.1.ext O597.2) (g := (mkF m 368 #[.val (.int p0), .val (.int p1), .val (.int p2), .val (.int p3), .val (.int N), .val (.ref a529), .val (.ref aNONE), .val (.ref aNONE)] [(.ref aNONE)])) rfl (hb hby at_368)
    refine own_go st602 ?_
    show OwnGo p e below _ (T602.setTop (mkF m 371 #[.val (.int p0), .val (.int p1), .val (.int p2), .val (.int p3), .val (.int N), .val (.ref a529), .val (.ref aNONE), .val (.ref aNONE)] [(.ref aNONE), (.ref aNONE)]))
    refine own_go (fun _ k => acmp X602 hx rfl (cd := .ne) (o := 15) (x := (.ref aNONE)) (y := (.ref aNONE)) (pc0 := 371) (pc' := 374) rfl rfl rfl (hb hby at_371) rfl (own_refeq _) (by decide) (by decide) k) ?_
    show OwnGo p e below _ (T602.setTop (mkF m 374 #[.val (.int p0), .val (.int p1), .val (.int p2), .val (.int p3), .val (.int N), .val (.ref a529), .val (.ref aNONE), .val (.ref aNONE)] []))
    refine own_go (fun _ k => XS.aload X602.here hx rfl (hb hby at_374) rfl rfl k) ?_
    show OwnGo p e below _ (T602.setTop (mkF m 376 #[.val (.int p0), .val (.int p1), .val (.int p2), .val (.int p3), .val (.int N), .val (.ref a529), .val (.ref aNONE), .val (.ref aNONE)] [(.ref aNONE)]))
    obtain ⟨cq603, kq603, qa603, qb603, qc603⟩ := isOf hZ e602 (F0.2.1.ext O597.2)
    obtain ⟨_, _, ⟨T603, L603, k603, n603⟩, -, X603, ⟨Lc603, hQ603, l603, y603, z603⟩, st603⟩ := X602.virtualBack hx (y := (⟨"com/example/reweave/reweave/control/Keys", "size", "()I"⟩ : MethodName)) (z := (⟨"com/example/reweave/reweave/control/Keys", "size", "()I"⟩ : MethodName)) hown (mvT hZ (hw _ (List.mem_of_getElem? (i := 12) rfl))) (mvT hZ (hw _ (List.mem_of_getElem? (i := 13) rfl))) (notFace_of_selects (args := #[]) (mvT hZ (hw _ (List.mem_of_getElem? (i := 15) rfl)))) (mvT hZ (hw _ (List.mem_of_getElem? (i := 15) rfl))) (mvT hZ (hw _ (List.mem_of_getElem? (i := 14) rfl))) (by decide) (backOf (W := 0) (rm_szN l Z a0 hw [] aNONE F0 h597 n0 O597) hZ (hw _ (List.mem_of_getElem? (i := 16) rfl)) (hw _ (List.mem_of_getElem? (i := 4) rfl)) (by decide) (by decide)) qa603 qc603 (g := (mkF m 376 #[.val (.int p0), .val (.int p1), .val (.int p2), .val (.int p3), .val (.int N), .val (.ref a529), .val (.ref aNONE), .val (.ref aNONE)] [(.ref aNONE)])) rfl (by rw [hml]; rfl) (Steps.refl _) (argsL := []) (rest := []) (lenOf pd___I rfl) rfl (by show 2 * 0 + _ ≤ _; exact Nat.le_of_eq rfl) (hb hby at_376) (fun _ _ => ⟨rfl, e602, (by decide : 1 + 0 ≤ _), (by decide : 34 + 0 ≤ _)⟩)
    dsimp only [Pt.U, Pt.locs, Pt.cells, Pt.slots] at X603 l603 y603 z603 st603 hQ603
    subst l603 y603 z603
    obtain ⟨rfl, Nq603, K603⟩ := hQ603
    have N603 := Fr.app N601 Nq603
    refine own_go (fun _ k => st603.trans k) ?_
    show OwnGo p e below _ (T603.setTop (mkF m 379 #[.val (.int p0), .val (.int p1), .val (.int p2), .val (.int p3), .val (.int N), .val (.ref a529), .val (.ref aNONE), .val (.ref aNONE)] [(.int (0 : Int32))]))
    refine own_go (fun _ k => XS.ifNo X603.here hx rfl (hb hby at_379) rfl (by decide) k) ?_
    show OwnGo p e below _ (T603.setTop (mkF m 382 #[.val (.int p0), .val (.int p1), .val (.int p2), .val (.int p3), .val (.int N), .val (.ref a529), .val (.ref aNONE), .val (.ref aNONE)] []))
    refine own_go (fun _ k => XS.iconst X603.here hx rfl (hb hby at_382) k) ?_
    show OwnGo p e below _ (T603.setTop (mkF m 383 #[.val (.int p0), .val (.int p1), .val (.int p2), .val (.int p3), .val (.int N), .val (.ref a529), .val (.ref aNONE), .val (.ref aNONE)] [(.int (1 : Int32))]))
    refine own_go (fun _ k => XS.goto X603.here hx rfl (pc0 := 383) (pc' := 387) rfl (hb hby at_383) (by decide) (by decide) k) ?_
    show OwnGo p e below _ (T603.setTop (mkF m 387 #[.val (.int p0), .val (.int p1), .val (.int p2), .val (.int p3), .val (.int N), .val (.ref a529), .val (.ref aNONE), .val (.ref aNONE)] [(.int (1 : Int32))]))
    obtain ⟨fs, hr, hrun, hended, hW, hsame⟩ := X603.leave (v := some (.int (1 : Int32))) (fun h => by rw [Bd.returns] at h; cases h)
    refine ⟨_, _, retOut X603 hx Bd.returns rfl (Or.inl ⟨rfl, Or.inr (Or.inl rfl), _, rfl⟩) (hb hby at_387) hr, hrun, hended, _, _, rfl, ?_, ⟨_, rfl⟩, hW, hsame.mono (by decide) (by decide)⟩
    show Q_law Z aNONE p0 p1 p2 p3 h0 n0 _ T603.heap _
    rw [K603]
    exact ⟨rfl, N603⟩
  · show OwnGo p e below _ (T597.setTop (mkF m 342 #[.val (.int p0), .val (.int p1), .val (.int p2), .val (.int p3), .val (.int N), .val (.ref a529), .unset, .unset] [(.int N), (.int (0 : Int32)), (.ref a529)]))
    obtain ⟨_, _, ⟨T604, L604, k604, n604⟩, -, X604, ⟨Lc604, hQ604, l604, y604, z604⟩, st604⟩ := Jvm.LawKit.callS XP0 hx (y := (⟨"com/example/reweave/reweave/control/Keys", "of", "([III)Lcom/example/reweave/reweave/control/Keys;"⟩ : MethodName)) hown (mvT hZ (hw _ (List.mem_of_getElem? (i := 2) rfl))) (mvT hZ (hw _ (List.mem_of_getElem? (i := 3) rfl))) (mvT hZ (hw _ (List.mem_of_getElem? (i := 4) rfl))) (mvT hZ (hw _ (List.mem_of_getElem? (i := 5) rfl))) (by decide) (backOf (W := 0) (rm_of l Z a0 hw [] aNONE F0 a529 N af h597 n0 O597 VA (own_posN hNr.1 hc599) hNr.2) hZ (hw _ (List.mem_of_getElem? (i := 5) rfl)) (hw _ (List.mem_of_getElem? (i := 4) rfl)) (by decide) (by decide)) (g := (mkF m 342 #[.val (.int p0), .val (.int p1), .val (.int p2), .val (.int p3), .val (.int N), .val (.ref a529), .unset, .unset] [(.int N), (.int (0 : Int32)), (.ref a529)])) rfl (by rw [hml]; rfl) (argsL := [(.ref a529), (.int (0 : Int32)), (.int N)]) (rest := []) (lenOf pd__I_I_I__Lcom_example_reweave_reweave_control_Keys_ rfl) rfl (by show 2 * 0 + _ ≤ _; exact Nat.le_of_eq rfl) (hb hby at_342) (fun _ _ => ⟨rfl, e597, (by decide : 1 + 5 ≤ _), (by decide : 34 + 261 ≤ _)⟩)
    dsimp only [Pt.U, Pt.locs, Pt.cells, Pt.slots] at X604 l604 y604 z604 st604 hQ604
    subst l604 y604 z604
    obtain ⟨r9_604, b9_604, s9_604, f9_604, o9_604, rfl, Nq604, K604, x604_0, x604_1, x604_2, x604_3, x604_4, x604_5, x604_6, x604_7⟩ := hQ604
    have N604 := Fr.app NP0 Nq604
    have O604 := O597.keep K604 all0
    have e604 : T604.heap = T604.heap := rfl
    have z605 : h0.size ≤ T604.heap.size := Nat.le_trans z598 K604.1
    have gex604_5 : n0 ≤ r9_604 := Nat.le_trans (own_sz O597) x604_5
    have ghx604_5 : h0.size ≤ r9_604 := Nat.le_trans z598 x604_5
    have ne606 : a529 ≠ r9_604 := own_newlt V597.lt x604_5
    have gex604_6 : n0 ≤ b9_604 := Nat.le_trans (own_sz O597) x604_6
    have ghx604_6 : h0.size ≤ b9_604 := Nat.le_trans z598 x604_6
    have ne607 : a529 ≠ b9_604 := own_newlt V597.lt x604_6
    have hN1 := own_posN hNr.1 hc599
    refine own_go st604 ?_
    show OwnGo p e below _ (T604.setTop (mkF m 345 #[.val (.int p0), .val (.int p1), .val (.int p2), .val (.int p3), .val (.int N), .val (.ref a529), .unset, .unset] [(.ref r9_604)]))
    refine own_go (fun _ k => XS.astore X604.here hx rfl (hb hby at_345) rfl rfl (l' := #[.val (.int p0), .val (.int p1), .val (.int p2), .val (.int p3), .val (.int N), .val (.ref a529), .val (.ref r9_604), .unset]) rfl k) ?_
    show OwnGo p e below _ (T604.setTop (mkF m 347 #[.val (.int p0), .val (.int p1), .val (.int p2), .val (.int p3), .val (.int N), .val (.ref a529), .val (.ref r9_604), .unset] []))
    refine own_go (fun _ k => XS.aload X604.here hx rfl (hb hby at_347) rfl rfl k) ?_
    show OwnGo p e below _ (T604.setTop (mkF m 349 #[.val (.int p0), .val (.int p1), .val (.int p2), .val (.int p3), .val (.int N), .val (.ref a529), .val (.ref r9_604), .unset] [(.ref r9_604)]))
    by_cases hc608 : (32 : Int32) < N
    · show OwnGo p e below _ (T604.setTop (mkF m 349 #[.val (.int p0), .val (.int p1), .val (.int p2), .val (.int p3), .val (.int N), .val (.ref a529), .val (.ref r9_604), .unset] [(.ref r9_604)]))
      obtain ⟨_, _, ⟨T609, L609, k609, n609⟩, -, X609, ⟨Lc609, hQ609, l609, y609, z609⟩, st609⟩ := Jvm.LawKit.callS X604 hx (y := (⟨"com/example/reweave/reweave/control/Keys", "emptied", "(Lcom/example/reweave/reweave/control/Keys;)Lcom/example/reweave/reweave/control/Keys;"⟩ : MethodName)) hown (mvT hZ (hw _ (List.mem_of_getElem? (i := 8) rfl))) (mvT hZ (hw _ (List.mem_of_getElem? (i := 9) rfl))) (mvT hZ (hw _ (List.mem_of_getElem? (i := 4) rfl))) (mvT hZ (hw _ (List.mem_of_getElem? (i := 10) rfl))) (by decide) (backOf (W := 0) (rm_emB l Z a0 hw [] aNONE F0 r9_604 b9_604 N f9_604 T604.heap n0 O604 x604_1 x604_4 gex604_5 hNr.1 hc608) hZ (hw _ (List.mem_of_getElem? (i := 10) rfl)) (hw _ (List.mem_of_getElem? (i := 4) rfl)) (by decide) (by decide)) (g := (mkF m 349 #[.val (.int p0), .val (.int p1), .val (.int p2), .val (.int p3), .val (.int N), .val (.ref a529), .val (.ref r9_604), .unset] [(.ref r9_604)])) rfl (by rw [hml]; rfl) (argsL := [(.ref r9_604)]) (rest := []) (lenOf pd_Lcom_example_reweave_reweave_control_Keys___Lcom_example_reweave_reweave_control_Keys_ rfl) rfl (by show 2 * 0 + _ ≤ _; exact Nat.le_of_eq rfl) (hb hby at_349) (fun _ _ => ⟨rfl, e604, (by decide : 6 + 0 ≤ _), (by decide : 295 + 0 ≤ _)⟩)
      dsimp only [Pt.U, Pt.locs, Pt.cells, Pt.slots] at X609 l609 y609 z609 st609 hQ609
      subst l609 y609 z609
      obtain ⟨rfl, Nq609, K609⟩ := hQ609
      have N609 := Fr.app N604 Nq609
      refine own_go st609 ?_
      show OwnGo p e below _ (T609.setTop (mkF m 352 #[.val (.int p0), .val (.int p1), .val (.int p2), .val (.int p3), .val (.int N), .val (.ref a529), .val (.ref r9_604), .unset] [(.ref aNONE)]))
      refine own_go (fun _ k => XS.astore X609.here hx rfl (hb hby at_352) rfl rfl (l' := #[.val (.int p0), .val (.int p1), .val (.int p2), .val (.int p3), .val (.int N), .val (.ref a529), .val (.ref r9_604), .val (.ref aNONE)]) rfl k) ?_
      show OwnGo p e below _ (T609.setTop (mkF m 354 #[.val (.int p0), .val (.int p1), .val (.int p2), .val (.int p3), .val (.int N), .val (.ref a529), .val (.ref r9_604), .val (.ref aNONE)] []))
      refine own_go (fun _ k => XS.iload X609.here hx rfl (hb hby at_354) rfl k) ?_
      show OwnGo p e below _ (T609.setTop (mkF m 356 #[.val (.int p0), .val (.int p1), .val (.int p2), .val (.int p3), .val (.int N), .val (.ref a529), .val (.ref r9_604), .val (.ref aNONE)] [(.int N)]))
      refine own_go (fun _ k => XS.ifNo X609.here hx rfl (hb hby at_356) rfl ((if0 _ _).trans (feq hc599).1) k) ?_
      show OwnGo p e below _ (T609.setTop (mkF m 359 #[.val (.int p0), .val (.int p1), .val (.int p2), .val (.int p3), .val (.int N), .val (.ref a529), .val (.ref r9_604), .val (.ref aNONE)] []))
      refine own_go (fun _ k => XS.iload X609.here hx rfl (hb hby at_359) rfl k) ?_
      show OwnGo p e below _ (T609.setTop (mkF m 361 #[.val (.int p0), .val (.int p1), .val (.int p2), .val (.int p3), .val (.int N), .val (.ref a529), .val (.ref r9_604), .val (.ref aNONE)] [(.int N)]))
      refine own_go (fun _ k => XS.bipush X609.here hx rfl (hb hby at_361) k) ?_
      show OwnGo p e below _ (T609.setTop (mkF m 363 #[.val (.int p0), .val (.int p1), .val (.int p2), .val (.int p3), .val (.int N), .val (.ref a529), .val (.ref r9_604), .val (.ref aNONE)] [(.int (32 : Int32)), (.int N)]))
      refine own_go (fun _ k => XS.icmpNo X609.here hx rfl (hb hby at_363) rfl (tlt hc608).2.2.2 k) ?_
      show OwnGo p e below _ (T609.setTop (mkF m 366 #[.val (.int p0), .val (.int p1), .val (.int p2), .val (.int p3), .val (.int N), .val (.ref a529), .val (.ref r9_604), .val (.ref aNONE)] []))
      refine own_go (fun _ k => XS.aload X609.here hx rfl (hb hby at_366) rfl rfl k) ?_
      show OwnGo p e below _ (T609.setTop (mkF m 368 #[.val (.int p0), .val (.int p1), .val (.int p2), .val (.int p3), .val (.int N), .val (.ref a529), .val (.ref r9_604), .val (.ref aNONE)] [(.ref aNONE)]))
      obtain ⟨T610, X610, e610, st610⟩ := getS X609 hx hZ hown (host := "") (hw _ (List.mem_of_getElem? (i := 11) rfl)) Via.refl K609 (F0.1.ext O604.2) (g := (mkF m 368 #[.val (.int p0), .val (.int p1), .val (.int p2), .val (.int p3), .val (.int N), .val (.ref a529), .val (.ref r9_604), .val (.ref aNONE)] [(.ref aNONE)])) rfl (hb hby at_368)
      refine own_go st610 ?_
      show OwnGo p e below _ (T610.setTop (mkF m 371 #[.val (.int p0), .val (.int p1), .val (.int p2), .val (.int p3), .val (.int N), .val (.ref a529), .val (.ref r9_604), .val (.ref aNONE)] [(.ref aNONE), (.ref aNONE)]))
      refine own_go (fun _ k => acmp X610 hx rfl (cd := .ne) (o := 15) (x := (.ref aNONE)) (y := (.ref aNONE)) (pc0 := 371) (pc' := 374) rfl rfl rfl (hb hby at_371) rfl (own_refeq _) (by decide) (by decide) k) ?_
      show OwnGo p e below _ (T610.setTop (mkF m 374 #[.val (.int p0), .val (.int p1), .val (.int p2), .val (.int p3), .val (.int N), .val (.ref a529), .val (.ref r9_604), .val (.ref aNONE)] []))
      refine own_go (fun _ k => XS.aload X610.here hx rfl (hb hby at_374) rfl rfl k) ?_
      show OwnGo p e below _ (T610.setTop (mkF m 376 #[.val (.int p0), .val (.int p1), .val (.int p2), .val (.int p3), .val (.int N), .val (.ref a529), .val (.ref r9_604), .val (.ref aNONE)] [(.ref aNONE)]))
      obtain ⟨cq611, kq611, qa611, qb611, qc611⟩ := isOf hZ e610 (F0.2.1.ext O604.2)
      obtain ⟨_, _, ⟨T611, L611, k611, n611⟩, -, X611, ⟨Lc611, hQ611, l611, y611, z611⟩, st611⟩ := X610.virtualBack hx (y := (⟨"com/example/reweave/reweave/control/Keys", "size", "()I"⟩ : MethodName)) (z := (⟨"com/example/reweave/reweave/control/Keys", "size", "()I"⟩ : MethodName)) hown (mvT hZ (hw _ (List.mem_of_getElem? (i := 12) rfl))) (mvT hZ (hw _ (List.mem_of_getElem? (i := 13) rfl))) (notFace_of_selects (args := #[]) (mvT hZ (hw _ (List.mem_of_getElem? (i := 15) rfl)))) (mvT hZ (hw _ (List.mem_of_getElem? (i := 15) rfl))) (mvT hZ (hw _ (List.mem_of_getElem? (i := 14) rfl))) (by decide) (backOf (W := 0) (rm_szN l Z a0 hw [] aNONE F0 T604.heap n0 O604) hZ (hw _ (List.mem_of_getElem? (i := 16) rfl)) (hw _ (List.mem_of_getElem? (i := 4) rfl)) (by decide) (by decide)) qa611 qc611 (g := (mkF m 376 #[.val (.int p0), .val (.int p1), .val (.int p2), .val (.int p3), .val (.int N), .val (.ref a529), .val (.ref r9_604), .val (.ref aNONE)] [(.ref aNONE)])) rfl (by rw [hml]; rfl) (Steps.refl _) (argsL := []) (rest := []) (lenOf pd___I rfl) rfl (by show 2 * 0 + _ ≤ _; exact Nat.le_of_eq rfl) (hb hby at_376) (fun _ _ => ⟨rfl, e610, (by decide : 6 + 0 ≤ _), (by decide : 295 + 0 ≤ _)⟩)
      dsimp only [Pt.U, Pt.locs, Pt.cells, Pt.slots] at X611 l611 y611 z611 st611 hQ611
      subst l611 y611 z611
      obtain ⟨rfl, Nq611, K611⟩ := hQ611
      have N611 := Fr.app N609 Nq611
      refine own_go (fun _ k => st611.trans k) ?_
      show OwnGo p e below _ (T611.setTop (mkF m 379 #[.val (.int p0), .val (.int p1), .val (.int p2), .val (.int p3), .val (.int N), .val (.ref a529), .val (.ref r9_604), .val (.ref aNONE)] [(.int (0 : Int32))]))
      refine own_go (fun _ k => XS.ifNo X611.here hx rfl (hb hby at_379) rfl (by decide) k) ?_
      show OwnGo p e below _ (T611.setTop (mkF m 382 #[.val (.int p0), .val (.int p1), .val (.int p2), .val (.int p3), .val (.int N), .val (.ref a529), .val (.ref r9_604), .val (.ref aNONE)] []))
      refine own_go (fun _ k => XS.iconst X611.here hx rfl (hb hby at_382) k) ?_
      show OwnGo p e below _ (T611.setTop (mkF m 383 #[.val (.int p0), .val (.int p1), .val (.int p2), .val (.int p3), .val (.int N), .val (.ref a529), .val (.ref r9_604), .val (.ref aNONE)] [(.int (1 : Int32))]))
      refine own_go (fun _ k => XS.goto X611.here hx rfl (pc0 := 383) (pc' := 387) rfl (hb hby at_383) (by decide) (by decide) k) ?_
      show OwnGo p e below _ (T611.setTop (mkF m 387 #[.val (.int p0), .val (.int p1), .val (.int p2), .val (.int p3), .val (.int N), .val (.ref a529), .val (.ref r9_604), .val (.ref aNONE)] [(.int (1 : Int32))]))
      obtain ⟨fs, hr, hrun, hended, hW, hsame⟩ := X611.leave (v := some (.int (1 : Int32))) (fun h => by rw [Bd.returns] at h; cases h)
      refine ⟨_, _, retOut X611 hx Bd.returns rfl (Or.inl ⟨rfl, Or.inr (Or.inl rfl), _, rfl⟩) (hb hby at_387) hr, hrun, hended, _, _, rfl, ?_, ⟨_, rfl⟩, hW, hsame.mono (by decide) (by decide)⟩
      show Q_law Z aNONE p0 p1 p2 p3 h0 n0 _ T611.heap _
      rw [K611]
      exact ⟨rfl, N611⟩
    · show OwnGo p e below _ (T604.setTop (mkF m 349 #[.val (.int p0), .val (.int p1), .val (.int p2), .val (.int p3), .val (.int N), .val (.ref a529), .val (.ref r9_604), .unset] [(.ref r9_604)]))
      obtain ⟨_, _, ⟨T612, L612, k612, n612⟩, -, X612, ⟨Lc612, hQ612, l612, y612, z612⟩, st612⟩ := Jvm.LawKit.callS X604 hx (y := (⟨"com/example/reweave/reweave/control/Keys", "emptied", "(Lcom/example/reweave/reweave/control/Keys;)Lcom/example/reweave/reweave/control/Keys;"⟩ : MethodName)) hown (mvT hZ (hw _ (List.mem_of_getElem? (i := 8) rfl))) (mvT hZ (hw _ (List.mem_of_getElem? (i := 9) rfl))) (mvT hZ (hw _ (List.mem_of_getElem? (i := 4) rfl))) (mvT hZ (hw _ (List.mem_of_getElem? (i := 10) rfl))) (by decide) (backOf (W := 0) (rm_emO l Z a0 hw [] aNONE F0 r9_604 b9_604 N f9_604 s9_604 o9_604 T604.heap n0 O604 x604_0 x604_1 x604_2 x604_3 x604_4 gex604_5 hNr.1 x604_7 hc608) hZ (hw _ (List.mem_of_getElem? (i := 10) rfl)) (hw _ (List.mem_of_getElem? (i := 4) rfl)) (by decide) (by decide)) (g := (mkF m 349 #[.val (.int p0), .val (.int p1), .val (.int p2), .val (.int p3), .val (.int N), .val (.ref a529), .val (.ref r9_604), .unset] [(.ref r9_604)])) rfl (by rw [hml]; rfl) (argsL := [(.ref r9_604)]) (rest := []) (lenOf pd_Lcom_example_reweave_reweave_control_Keys___Lcom_example_reweave_reweave_control_Keys_ rfl) rfl (by show 2 * 0 + _ ≤ _; exact Nat.le_of_eq rfl) (hb hby at_349) (fun _ _ => ⟨rfl, e604, (by decide : 6 + 0 ≤ _), (by decide : 295 + 0 ≤ _)⟩)
      dsimp only [Pt.U, Pt.locs, Pt.cells, Pt.slots] at X612 l612 y612 z612 st612 hQ612
      subst l612 y612 z612
      obtain ⟨rfl, Nq612, K612, x612_0, x612_1, x612_2⟩ := hQ612
      have N612 := Fr.app N604 Nq612
      have O612 := O604.keep K612 (allS gex604_5 all0)
      have e612 : T612.heap = T612.heap := rfl
      have z613 : h0.size ≤ T612.heap.size := Nat.le_trans z605 K612.1
      refine own_go st612 ?_
      show OwnGo p e below _ (T612.setTop (mkF m 352 #[.val (.int p0), .val (.int p1), .val (.int p2), .val (.int p3), .val (.int N), .val (.ref a529), .val (.ref r9_604), .unset] [(.ref r9_604)]))
      refine own_go (fun _ k => XS.astore X612.here hx rfl (hb hby at_352) rfl rfl (l' := #[.val (.int p0), .val (.int p1), .val (.int p2), .val (.int p3), .val (.int N), .val (.ref a529), .val (.ref r9_604), .val (.ref r9_604)]) rfl k) ?_
      show OwnGo p e below _ (T612.setTop (mkF m 354 #[.val (.int p0), .val (.int p1), .val (.int p2), .val (.int p3), .val (.int N), .val (.ref a529), .val (.ref r9_604), .val (.ref r9_604)] []))
      refine own_go (fun _ k => XS.iload X612.here hx rfl (hb hby at_354) rfl k) ?_
      show OwnGo p e below _ (T612.setTop (mkF m 356 #[.val (.int p0), .val (.int p1), .val (.int p2), .val (.int p3), .val (.int N), .val (.ref a529), .val (.ref r9_604), .val (.ref r9_604)] [(.int N)]))
      refine own_go (fun _ k => XS.ifNo X612.here hx rfl (hb hby at_356) rfl ((if0 _ _).trans (feq hc599).1) k) ?_
      show OwnGo p e below _ (T612.setTop (mkF m 359 #[.val (.int p0), .val (.int p1), .val (.int p2), .val (.int p3), .val (.int N), .val (.ref a529), .val (.ref r9_604), .val (.ref r9_604)] []))
      refine own_go (fun _ k => XS.iload X612.here hx rfl (hb hby at_359) rfl k) ?_
      show OwnGo p e below _ (T612.setTop (mkF m 361 #[.val (.int p0), .val (.int p1), .val (.int p2), .val (.int p3), .val (.int N), .val (.ref a529), .val (.ref r9_604), .val (.ref r9_604)] [(.int N)]))
      refine own_go (fun _ k => XS.bipush X612.here hx rfl (hb hby at_361) k) ?_
      show OwnGo p e below _ (T612.setTop (mkF m 363 #[.val (.int p0), .val (.int p1), .val (.int p2), .val (.int p3), .val (.int N), .val (.ref a529), .val (.ref r9_604), .val (.ref r9_604)] [(.int (32 : Int32)), (.int N)]))
      refine own_go (fun _ k => XS.icmpYes X612.here hx rfl (pc0 := 363) (pc' := 388) rfl (hb hby at_363) rfl (flt hc608).2.2.2 (by decide) (by decide) k) ?_
      show OwnGo p e below _ (T612.setTop (mkF m 388 #[.val (.int p0), .val (.int p1), .val (.int p2), .val (.int p3), .val (.int N), .val (.ref a529), .val (.ref r9_604), .val (.ref r9_604)] []))
      refine own_go (fun _ k => XS.aload X612.here hx rfl (hb hby at_388) rfl rfl k) ?_
      show OwnGo p e below _ (T612.setTop (mkF m 390 #[.val (.int p0), .val (.int p1), .val (.int p2), .val (.int p3), .val (.int N), .val (.ref a529), .val (.ref r9_604), .val (.ref r9_604)] [(.ref r9_604)]))
      refine own_go (fun _ k => XS.aload X612.here hx rfl (hb hby at_390) rfl rfl k) ?_
      show OwnGo p e below _ (T612.setTop (mkF m 392 #[.val (.int p0), .val (.int p1), .val (.int p2), .val (.int p3), .val (.int N), .val (.ref a529), .val (.ref r9_604), .val (.ref r9_604)] [(.ref r9_604), (.ref r9_604)]))
      refine own_go (fun _ k => acmp X612 hx rfl (cd := .eq) (o := 5) (x := (.ref r9_604)) (y := (.ref r9_604)) (pc0 := 392) (pc' := 397) rfl rfl rfl (hb hby at_392) rfl (own_refeq _) (by decide) (by decide) k) ?_
      show OwnGo p e below _ (T612.setTop (mkF m 397 #[.val (.int p0), .val (.int p1), .val (.int p2), .val (.int p3), .val (.int N), .val (.ref a529), .val (.ref r9_604), .val (.ref r9_604)] []))
      refine own_go (fun _ k => XS.aload X612.here hx rfl (hb hby at_397) rfl rfl k) ?_
      show OwnGo p e below _ (T612.setTop (mkF m 399 #[.val (.int p0), .val (.int p1), .val (.int p2), .val (.int p3), .val (.int N), .val (.ref a529), .val (.ref r9_604), .val (.ref r9_604)] [(.ref r9_604)]))
      have F614 := (x604_0.keep K612)
      obtain ⟨cq615, kq615, qa615, qb615, qc615⟩ := isOf hZ e612 F614
      obtain ⟨_, _, ⟨T615, L615, k615, n615⟩, -, X615, ⟨Lc615, hQ615, l615, y615, z615⟩, st615⟩ := X612.virtualBack hx (y := (⟨"com/example/reweave/reweave/control/Keys", "size", "()I"⟩ : MethodName)) (z := (⟨"com/example/reweave/reweave/control/Keys", "size", "()I"⟩ : MethodName)) hown (mvT hZ (hw _ (List.mem_of_getElem? (i := 12) rfl))) (mvT hZ (hw _ (List.mem_of_getElem? (i := 13) rfl))) (notFace_of_selects (args := #[]) (mvT hZ (hw _ (List.mem_of_getElem? (i := 15) rfl)))) (mvT hZ (hw _ (List.mem_of_getElem? (i := 15) rfl))) (mvT hZ (hw _ (List.mem_of_getElem? (i := 14) rfl))) (by decide) (backOf (W := 0) (rm_sz l Z a0 hw [] aNONE F0 r9_604 (0 : Int32) T612.heap n0 O612 x612_1) hZ (hw _ (List.mem_of_getElem? (i := 16) rfl)) (hw _ (List.mem_of_getElem? (i := 4) rfl)) (by decide) (by decide)) qa615 qc615 (g := (mkF m 399 #[.val (.int p0), .val (.int p1), .val (.int p2), .val (.int p3), .val (.int N), .val (.ref a529), .val (.ref r9_604), .val (.ref r9_604)] [(.ref r9_604)])) rfl (by rw [hml]; rfl) (Steps.refl _) (argsL := []) (rest := []) (lenOf pd___I rfl) rfl (by show 2 * 0 + _ ≤ _; exact Nat.le_of_eq rfl) (hb hby at_399) (fun _ _ => ⟨rfl, e612, (by decide : 6 + 0 ≤ _), (by decide : 295 + 0 ≤ _)⟩)
      dsimp only [Pt.U, Pt.locs, Pt.cells, Pt.slots] at X615 l615 y615 z615 st615 hQ615
      subst l615 y615 z615
      obtain ⟨rfl, Nq615, K615⟩ := hQ615
      have N615 := Fr.app N612 Nq615
      refine own_go (fun _ k => st615.trans k) ?_
      show OwnGo p e below _ (T615.setTop (mkF m 402 #[.val (.int p0), .val (.int p1), .val (.int p2), .val (.int p3), .val (.int N), .val (.ref a529), .val (.ref r9_604), .val (.ref r9_604)] [(.int (0 : Int32))]))
      refine own_go (fun _ k => XS.ifNo X615.here hx rfl (hb hby at_402) rfl (by decide) k) ?_
      show OwnGo p e below _ (T615.setTop (mkF m 405 #[.val (.int p0), .val (.int p1), .val (.int p2), .val (.int p3), .val (.int N), .val (.ref a529), .val (.ref r9_604), .val (.ref r9_604)] []))
      refine own_go (fun _ k => XS.aload X615.here hx rfl (hb hby at_405) rfl rfl k) ?_
      show OwnGo p e below _ (T615.setTop (mkF m 407 #[.val (.int p0), .val (.int p1), .val (.int p2), .val (.int p3), .val (.int N), .val (.ref a529), .val (.ref r9_604), .val (.ref r9_604)] [(.ref r9_604)]))
      refine own_go (fun _ k => XS.iloadN X615.here hx rfl (hb hby at_407) rfl k) ?_
      show OwnGo p e below _ (T615.setTop (mkF m 408 #[.val (.int p0), .val (.int p1), .val (.int p2), .val (.int p3), .val (.int N), .val (.ref a529), .val (.ref r9_604), .val (.ref r9_604)] [(.int p1), (.ref r9_604)]))
      have F616 := (x604_4.keep K612 (ninS (Ne.symm x604_7) nin0))
      obtain ⟨cq617, kq617, qa617, qb617, qc617⟩ := isOf hZ K615 F614
      obtain ⟨_, _, ⟨T617, L617, k617, n617⟩, -, X617, ⟨Lc617, hQ617, l617, y617, z617⟩, st617⟩ := X615.virtualBack hx (y := (⟨"com/example/reweave/reweave/control/Keys", "contains", "(I)Z"⟩ : MethodName)) (z := (⟨"com/example/reweave/reweave/control/Keys", "contains", "(I)Z"⟩ : MethodName)) hown (mvT hZ (hw _ (List.mem_of_getElem? (i := 49) rfl))) (mvT hZ (hw _ (List.mem_of_getElem? (i := 37) rfl))) (notFace_of_selects (args := #[]) (mvT hZ (hw _ (List.mem_of_getElem? (i := 39) rfl)))) (mvT hZ (hw _ (List.mem_of_getElem? (i := 39) rfl))) (mvT hZ (hw _ (List.mem_of_getElem? (i := 38) rfl))) (by decide) (backOf (W := 0) (rm_con l Z a0 hw [] aNONE F0 r9_604 p1 b9_604 N f9_604 (0 : Int32) (0 : Int32) T612.heap n0 O612 x612_0 x612_2 x612_1 F616 hNr.1 (by decide) (own_le0 hNr.1) hNk (by rw [own_i0]; rfl)) hZ (hw _ (List.mem_of_getElem? (i := 40) rfl)) (hw _ (List.mem_of_getElem? (i := 4) rfl)) (by decide) (by decide)) qa617 qc617 (g := (mkF m 408 #[.val (.int p0), .val (.int p1), .val (.int p2), .val (.int p3), .val (.int N), .val (.ref a529), .val (.ref r9_604), .val (.ref r9_604)] [(.int p1), (.ref r9_604)])) rfl (by rw [hml]; rfl) (Steps.refl _) (argsL := [(.int p1)]) (rest := []) (lenOf pd_I__Z rfl) rfl (by show 2 * 0 + _ ≤ _; exact Nat.le_of_eq rfl) (hb hby at_408) (fun _ _ => ⟨rfl, K615, (by decide : 6 + 0 ≤ _), (by decide : 295 + 0 ≤ _)⟩)
      dsimp only [Pt.U, Pt.locs, Pt.cells, Pt.slots] at X617 l617 y617 z617 st617 hQ617
      subst l617 y617 z617
      obtain ⟨rfl, Nq617, K617⟩ := hQ617
      have N617 := Fr.app N615 Nq617
      refine own_go (fun _ k => st617.trans k) ?_
      show OwnGo p e below _ (T617.setTop (mkF m 411 #[.val (.int p0), .val (.int p1), .val (.int p2), .val (.int p3), .val (.int N), .val (.ref a529), .val (.ref r9_604), .val (.ref r9_604)] [(.int (0 : Int32))]))
      refine own_go (fun _ k => XS.ifYes X617.here hx rfl (pc0 := 411) (pc' := 416) rfl (hb hby at_411) rfl (by decide) (by decide) (by decide) k) ?_
      show OwnGo p e below _ (T617.setTop (mkF m 416 #[.val (.int p0), .val (.int p1), .val (.int p2), .val (.int p3), .val (.int N), .val (.ref a529), .val (.ref r9_604), .val (.ref r9_604)] []))
      refine own_go (fun _ k => XS.aload X617.here hx rfl (hb hby at_416) rfl rfl k) ?_
      show OwnGo p e below _ (T617.setTop (mkF m 418 #[.val (.int p0), .val (.int p1), .val (.int p2), .val (.int p3), .val (.int N), .val (.ref a529), .val (.ref r9_604), .val (.ref r9_604)] [(.ref r9_604)]))
      refine own_go (fun _ k => XS.iloadN X617.here hx rfl (hb hby at_418) rfl k) ?_
      show OwnGo p e below _ (T617.setTop (mkF m 419 #[.val (.int p0), .val (.int p1), .val (.int p2), .val (.int p3), .val (.int N), .val (.ref a529), .val (.ref r9_604), .val (.ref r9_604)] [(.int p3), (.ref r9_604)]))
      obtain ⟨cq618, kq618, qa618, qb618, qc618⟩ := isOf hZ K617 F614
      obtain ⟨_, _, ⟨T618, L618, k618, n618⟩, -, X618, ⟨Lc618, hQ618, l618, y618, z618⟩, st618⟩ := X617.virtualBack hx (y := (⟨"com/example/reweave/reweave/control/Keys", "add", "(I)V"⟩ : MethodName)) (z := (⟨"com/example/reweave/reweave/control/Keys", "add", "(I)V"⟩ : MethodName)) hown (mvT hZ (hw _ (List.mem_of_getElem? (i := 50) rfl))) (mvT hZ (hw _ (List.mem_of_getElem? (i := 30) rfl))) (notFace_of_selects (args := #[]) (mvT hZ (hw _ (List.mem_of_getElem? (i := 32) rfl)))) (mvT hZ (hw _ (List.mem_of_getElem? (i := 32) rfl))) (mvT hZ (hw _ (List.mem_of_getElem? (i := 31) rfl))) (by decide) (backOf (W := 0) (rm_addL0 l Z a0 hw [] aNONE F0 r9_604 p3 b9_604 N f9_604 T612.heap n0 O612 F614 x612_0 x612_1 F616 gex604_5 gex604_6 x604_7 hNr.1 (by decide) (own_le0 hNr.1) hNk x612_2 (by rw [own_i0]; rfl) (own_lt0 hN1)) hZ (hw _ (List.mem_of_getElem? (i := 33) rfl)) (hw _ (List.mem_of_getElem? (i := 4) rfl)) (by decide) (by decide)) qa618 qc618 (g := (mkF m 419 #[.val (.int p0), .val (.int p1), .val (.int p2), .val (.int p3), .val (.int N), .val (.ref a529), .val (.ref r9_604), .val (.ref r9_604)] [(.int p3), (.ref r9_604)])) rfl (by rw [hml]; rfl) (Steps.refl _) (argsL := [(.int p3)]) (rest := []) (lenOf pd_I__V rfl) rfl (by show 2 * 0 + _ ≤ _; exact Nat.le_of_eq rfl) (hb hby at_419) (fun _ _ => ⟨rfl, K617, (by decide : 6 + 0 ≤ _), (by decide : 295 + 0 ≤ _)⟩)
      dsimp only [Pt.U, Pt.locs, Pt.cells, Pt.slots] at X618 l618 y618 z618 st618 hQ618
      subst l618 y618 z618
      obtain ⟨rfl, Nq618, K618, x618_0, x618_1, x618_2, x618_3⟩ := hQ618
      have N618 := Fr.app N617 Nq618
      have O618 := O612.keep K618 (allS gex604_5 (allS gex604_6 all0))
      have e618 : T618.heap = T618.heap := rfl
      have z619 : h0.size ≤ T618.heap.size := Nat.le_trans z613 K618.1
      refine own_go (fun _ k => st618.trans k) ?_
      show OwnGo p e below _ (T618.setTop (mkF m 422 #[.val (.int p0), .val (.int p1), .val (.int p2), .val (.int p3), .val (.int N), .val (.ref a529), .val (.ref r9_604), .val (.ref r9_604)] []))
      refine own_go (fun _ k => XS.aload X618.here hx rfl (hb hby at_422) rfl rfl k) ?_
      show OwnGo p e below _ (T618.setTop (mkF m 424 #[.val (.int p0), .val (.int p1), .val (.int p2), .val (.int p3), .val (.int N), .val (.ref a529), .val (.ref r9_604), .val (.ref r9_604)] [(.ref r9_604)]))
      refine own_go (fun _ k => XS.iloadN X618.here hx rfl (hb hby at_424) rfl k) ?_
      show OwnGo p e below _ (T618.setTop (mkF m 425 #[.val (.int p0), .val (.int p1), .val (.int p2), .val (.int p3), .val (.int N), .val (.ref a529), .val (.ref r9_604), .val (.ref r9_604)] [(.int p1), (.ref r9_604)]))
      by_cases hc620 : p3 = p1
      · show OwnGo p e below _ (T618.setTop (mkF m 425 #[.val (.int p0), .val (.int p1), .val (.int p2), .val (.int p3), .val (.int N), .val (.ref a529), .val (.ref r9_604), .val (.ref r9_604)] [(.int p1), (.ref r9_604)]))
        have F621 := (F614.keep K618)
        obtain ⟨cq622, kq622, qa622, qb622, qc622⟩ := isOf hZ e618 F621
        obtain ⟨_, _, ⟨T622, L622, k622, n622⟩, -, X622, ⟨Lc622, hQ622, l622, y622, z622⟩, st622⟩ := X618.virtualBack hx (y := (⟨"com/example/reweave/reweave/control/Keys", "add", "(I)V"⟩ : MethodName)) (z := (⟨"com/example/reweave/reweave/control/Keys", "add", "(I)V"⟩ : MethodName)) hown (mvT hZ (hw _ (List.mem_of_getElem? (i := 50) rfl))) (mvT hZ (hw _ (List.mem_of_getElem? (i := 30) rfl))) (notFace_of_selects (args := #[]) (mvT hZ (hw _ (List.mem_of_getElem? (i := 32) rfl)))) (mvT hZ (hw _ (List.mem_of_getElem? (i := 32) rfl))) (mvT hZ (hw _ (List.mem_of_getElem? (i := 31) rfl))) (by decide) (backOf (W := 0) (rm_addL1h l Z a0 hw [] aNONE F0 r9_604 p1 b9_604 N (own_upd f9_604 ((0 : Int32)).toNatClampNeg p3) T618.heap n0 O618 F621 x618_0 x618_1 x618_2 gex604_5 gex604_6 x604_7 hNr.1 (by decide) (own_le1 hN1) hNk x618_3 (own_hit1 hc620)) hZ (hw _ (List.mem_of_getElem? (i := 33) rfl)) (hw _ (List.mem_of_getElem? (i := 4) rfl)) (by decide) (by decide)) qa622 qc622 (g := (mkF m 425 #[.val (.int p0), .val (.int p1), .val (.int p2), .val (.int p3), .val (.int N), .val (.ref a529), .val (.ref r9_604), .val (.ref r9_604)] [(.int p1), (.ref r9_604)])) rfl (by rw [hml]; rfl) (Steps.refl _) (argsL := [(.int p1)]) (rest := []) (lenOf pd_I__V rfl) rfl (by show 2 * 0 + _ ≤ _; exact Nat.le_of_eq rfl) (hb hby at_425) (fun _ _ => ⟨rfl, e618, (by decide : 6 + 0 ≤ _), (by decide : 295 + 0 ≤ _)⟩)
        dsimp only [Pt.U, Pt.locs, Pt.cells, Pt.slots] at X622 l622 y622 z622 st622 hQ622
        subst l622 y622 z622
        obtain ⟨rfl, Nq622, K622⟩ := hQ622
        have N622 := Fr.app N618 Nq622
        refine own_go (fun _ k => st622.trans k) ?_
        show OwnGo p e below _ (T622.setTop (mkF m 428 #[.val (.int p0), .val (.int p1), .val (.int p2), .val (.int p3), .val (.int N), .val (.ref a529), .val (.ref r9_604), .val (.ref r9_604)] []))
        refine own_go (fun _ k => XS.iloadN X622.here hx rfl (hb hby at_428) rfl k) ?_
        show OwnGo p e below _ (T622.setTop (mkF m 429 #[.val (.int p0), .val (.int p1), .val (.int p2), .val (.int p3), .val (.int N), .val (.ref a529), .val (.ref r9_604), .val (.ref r9_604)] [(.int p3)]))
        refine own_go (fun _ k => XS.iloadN X622.here hx rfl (hb hby at_429) rfl k) ?_
        show OwnGo p e below _ (T622.setTop (mkF m 430 #[.val (.int p0), .val (.int p1), .val (.int p2), .val (.int p3), .val (.int N), .val (.ref a529), .val (.ref r9_604), .val (.ref r9_604)] [(.int p1), (.int p3)]))
        refine own_go (fun _ k => XS.icmpNo X622.here hx rfl (hb hby at_430) rfl (teq hc620).2 k) ?_
        show OwnGo p e below _ (T622.setTop (mkF m 433 #[.val (.int p0), .val (.int p1), .val (.int p2), .val (.int p3), .val (.int N), .val (.ref a529), .val (.ref r9_604), .val (.ref r9_604)] []))
        refine own_go (fun _ k => XS.aload X622.here hx rfl (hb hby at_433) rfl rfl k) ?_
        show OwnGo p e below _ (T622.setTop (mkF m 435 #[.val (.int p0), .val (.int p1), .val (.int p2), .val (.int p3), .val (.int N), .val (.ref a529), .val (.ref r9_604), .val (.ref r9_604)] [(.ref r9_604)]))
        obtain ⟨cq623, kq623, qa623, qb623, qc623⟩ := isOf hZ K622 F621
        obtain ⟨_, _, ⟨T623, L623, k623, n623⟩, -, X623, ⟨Lc623, hQ623, l623, y623, z623⟩, st623⟩ := X622.virtualBack hx (y := (⟨"com/example/reweave/reweave/control/Keys", "size", "()I"⟩ : MethodName)) (z := (⟨"com/example/reweave/reweave/control/Keys", "size", "()I"⟩ : MethodName)) hown (mvT hZ (hw _ (List.mem_of_getElem? (i := 12) rfl))) (mvT hZ (hw _ (List.mem_of_getElem? (i := 13) rfl))) (notFace_of_selects (args := #[]) (mvT hZ (hw _ (List.mem_of_getElem? (i := 15) rfl)))) (mvT hZ (hw _ (List.mem_of_getElem? (i := 15) rfl))) (mvT hZ (hw _ (List.mem_of_getElem? (i := 14) rfl))) (by decide) (backOf (W := 0) (rm_sz l Z a0 hw [] aNONE F0 r9_604 (1 : Int32) T618.heap n0 O618 x618_1) hZ (hw _ (List.mem_of_getElem? (i := 16) rfl)) (hw _ (List.mem_of_getElem? (i := 4) rfl)) (by decide) (by decide)) qa623 qc623 (g := (mkF m 435 #[.val (.int p0), .val (.int p1), .val (.int p2), .val (.int p3), .val (.int N), .val (.ref a529), .val (.ref r9_604), .val (.ref r9_604)] [(.ref r9_604)])) rfl (by rw [hml]; rfl) (Steps.refl _) (argsL := []) (rest := []) (lenOf pd___I rfl) rfl (by show 2 * 0 + _ ≤ _; exact Nat.le_of_eq rfl) (hb hby at_435) (fun _ _ => ⟨rfl, K622, (by decide : 6 + 0 ≤ _), (by decide : 295 + 0 ≤ _)⟩)
        dsimp only [Pt.U, Pt.locs, Pt.cells, Pt.slots] at X623 l623 y623 z623 st623 hQ623
        subst l623 y623 z623
        obtain ⟨rfl, Nq623, K623⟩ := hQ623
        have N623 := Fr.app N622 Nq623
        refine own_go (fun _ k => st623.trans k) ?_
        show OwnGo p e below _ (T623.setTop (mkF m 438 #[.val (.int p0), .val (.int p1), .val (.int p2), .val (.int p3), .val (.int N), .val (.ref a529), .val (.ref r9_604), .val (.ref r9_604)] [(.int (1 : Int32))]))
        refine own_go (fun _ k => XS.iconst X623.here hx rfl (hb hby at_438) k) ?_
        show OwnGo p e below _ (T623.setTop (mkF m 439 #[.val (.int p0), .val (.int p1), .val (.int p2), .val (.int p3), .val (.int N), .val (.ref a529), .val (.ref r9_604), .val (.ref r9_604)] [(.int (1 : Int32)), (.int (1 : Int32))]))
        refine own_go (fun _ k => XS.icmpNo X623.here hx rfl (hb hby at_439) rfl (by decide) k) ?_
        show OwnGo p e below _ (T623.setTop (mkF m 442 #[.val (.int p0), .val (.int p1), .val (.int p2), .val (.int p3), .val (.int N), .val (.ref a529), .val (.ref r9_604), .val (.ref r9_604)] []))
        refine own_go (fun _ k => XS.aload X623.here hx rfl (hb hby at_442) rfl rfl k) ?_
        show OwnGo p e below _ (T623.setTop (mkF m 444 #[.val (.int p0), .val (.int p1), .val (.int p2), .val (.int p3), .val (.int N), .val (.ref a529), .val (.ref r9_604), .val (.ref r9_604)] [(.ref r9_604)]))
        refine own_go (fun _ k => XS.iconst X623.here hx rfl (hb hby at_444) k) ?_
        show OwnGo p e below _ (T623.setTop (mkF m 445 #[.val (.int p0), .val (.int p1), .val (.int p2), .val (.int p3), .val (.int N), .val (.ref a529), .val (.ref r9_604), .val (.ref r9_604)] [(.int (0 : Int32)), (.ref r9_604)]))
        obtain ⟨cq624, kq624, qa624, qb624, qc624⟩ := isOf hZ K623 F621
        obtain ⟨_, _, ⟨T624, L624, k624, n624⟩, -, X624, ⟨Lc624, hQ624, l624, y624, z624⟩, st624⟩ := X623.virtualBack hx (y := (⟨"com/example/reweave/reweave/control/Keys", "get", "(I)I"⟩ : MethodName)) (z := (⟨"com/example/reweave/reweave/control/Keys", "get", "(I)I"⟩ : MethodName)) hown (mvT hZ (hw _ (List.mem_of_getElem? (i := 51) rfl))) (mvT hZ (hw _ (List.mem_of_getElem? (i := 52) rfl))) (notFace_of_selects (args := #[]) (mvT hZ (hw _ (List.mem_of_getElem? (i := 54) rfl)))) (mvT hZ (hw _ (List.mem_of_getElem? (i := 54) rfl))) (mvT hZ (hw _ (List.mem_of_getElem? (i := 53) rfl))) (by decide) (backOf (W := 0) (rm_get l Z a0 hw [] aNONE F0 r9_604 (0 : Int32) b9_604 N (own_upd f9_604 ((0 : Int32)).toNatClampNeg p3) T618.heap n0 O618 x618_0 x618_2 hNr.1 (by decide) (own_lt0 hN1)) hZ (hw _ (List.mem_of_getElem? (i := 55) rfl)) (hw _ (List.mem_of_getElem? (i := 4) rfl)) (by decide) (by decide)) qa624 qc624 (g := (mkF m 445 #[.val (.int p0), .val (.int p1), .val (.int p2), .val (.int p3), .val (.int N), .val (.ref a529), .val (.ref r9_604), .val (.ref r9_604)] [(.int (0 : Int32)), (.ref r9_604)])) rfl (by rw [hml]; rfl) (Steps.refl _) (argsL := [(.int (0 : Int32))]) (rest := []) (lenOf pd_I__I rfl) rfl (by show 2 * 0 + _ ≤ _; exact Nat.le_of_eq rfl) (hb hby at_445) (fun _ _ => ⟨rfl, K623, (by decide : 6 + 0 ≤ _), (by decide : 295 + 0 ≤ _)⟩)
        dsimp only [Pt.U, Pt.locs, Pt.cells, Pt.slots] at X624 l624 y624 z624 st624 hQ624
        subst l624 y624 z624
        obtain ⟨rfl, Nq624, K624⟩ := hQ624
        have N624 := Fr.app N623 Nq624
        refine own_go (fun _ k => st624.trans k) ?_
        show OwnGo p e below _ (T624.setTop (mkF m 448 #[.val (.int p0), .val (.int p1), .val (.int p2), .val (.int p3), .val (.int N), .val (.ref a529), .val (.ref r9_604), .val (.ref r9_604)] [(.int ((own_upd f9_604 ((0 : Int32)).toNatClampNeg p3) ((0 : Int32)).toNatClampNeg))]))
        refine own_go (fun _ k => XS.iloadN X624.here hx rfl (hb hby at_448) rfl k) ?_
        show OwnGo p e below _ (T624.setTop (mkF m 449 #[.val (.int p0), .val (.int p1), .val (.int p2), .val (.int p3), .val (.int N), .val (.ref a529), .val (.ref r9_604), .val (.ref r9_604)] [(.int p3), (.int ((own_upd f9_604 ((0 : Int32)).toNatClampNeg p3) ((0 : Int32)).toNatClampNeg))]))
        refine own_go (fun _ k => XS.icmpNo X624.here hx rfl (hb hby at_449) rfl (teq (if_pos rfl)).2 k) ?_
        show OwnGo p e below _ (T624.setTop (mkF m 452 #[.val (.int p0), .val (.int p1), .val (.int p2), .val (.int p3), .val (.int N), .val (.ref a529), .val (.ref r9_604), .val (.ref r9_604)] []))
        refine own_go (fun _ k => XS.aload X624.here hx rfl (hb hby at_452) rfl rfl k) ?_
        show OwnGo p e below _ (T624.setTop (mkF m 454 #[.val (.int p0), .val (.int p1), .val (.int p2), .val (.int p3), .val (.int N), .val (.ref a529), .val (.ref r9_604), .val (.ref r9_604)] [(.ref r9_604)]))
        refine own_go (fun _ k => XS.iloadN X624.here hx rfl (hb hby at_454) rfl k) ?_
        show OwnGo p e below _ (T624.setTop (mkF m 455 #[.val (.int p0), .val (.int p1), .val (.int p2), .val (.int p3), .val (.int N), .val (.ref a529), .val (.ref r9_604), .val (.ref r9_604)] [(.int p3), (.ref r9_604)]))
        obtain ⟨cq625, kq625, qa625, qb625, qc625⟩ := isOf hZ K624 F621
        obtain ⟨_, _, ⟨T625, L625, k625, n625⟩, -, X625, ⟨Lc625, hQ625, l625, y625, z625⟩, st625⟩ := X624.virtualBack hx (y := (⟨"com/example/reweave/reweave/control/Keys", "contains", "(I)Z"⟩ : MethodName)) (z := (⟨"com/example/reweave/reweave/control/Keys", "contains", "(I)Z"⟩ : MethodName)) hown (mvT hZ (hw _ (List.mem_of_getElem? (i := 49) rfl))) (mvT hZ (hw _ (List.mem_of_getElem? (i := 37) rfl))) (notFace_of_selects (args := #[]) (mvT hZ (hw _ (List.mem_of_getElem? (i := 39) rfl)))) (mvT hZ (hw _ (List.mem_of_getElem? (i := 39) rfl))) (mvT hZ (hw _ (List.mem_of_getElem? (i := 38) rfl))) (by decide) (backOf (W := 0) (rm_con l Z a0 hw [] aNONE F0 r9_604 p3 b9_604 N (own_upd f9_604 ((0 : Int32)).toNatClampNeg p3) (1 : Int32) (1 : Int32) T618.heap n0 O618 x618_0 x618_3 x618_1 x618_2 hNr.1 (by decide) (own_le1 hN1) hNk (own_hit1 rfl)) hZ (hw _ (List.mem_of_getElem? (i := 40) rfl)) (hw _ (List.mem_of_getElem? (i := 4) rfl)) (by decide) (by decide)) qa625 qc625 (g := (mkF m 455 #[.val (.int p0), .val (.int p1), .val (.int p2), .val (.int p3), .val (.int N), .val (.ref a529), .val (.ref r9_604), .val (.ref r9_604)] [(.int p3), (.ref r9_604)])) rfl (by rw [hml]; rfl) (Steps.refl _) (argsL := [(.int p3)]) (rest := []) (lenOf pd_I__Z rfl) rfl (by show 2 * 0 + _ ≤ _; exact Nat.le_of_eq rfl) (hb hby at_455) (fun _ _ => ⟨rfl, K624, (by decide : 6 + 0 ≤ _), (by decide : 295 + 0 ≤ _)⟩)
        dsimp only [Pt.U, Pt.locs, Pt.cells, Pt.slots] at X625 l625 y625 z625 st625 hQ625
        subst l625 y625 z625
        obtain ⟨rfl, Nq625, K625⟩ := hQ625
        have N625 := Fr.app N624 Nq625
        refine own_go (fun _ k => st625.trans k) ?_
        show OwnGo p e below _ (T625.setTop (mkF m 458 #[.val (.int p0), .val (.int p1), .val (.int p2), .val (.int p3), .val (.int N), .val (.ref a529), .val (.ref r9_604), .val (.ref r9_604)] [(.int (1 : Int32))]))
        refine own_go (fun _ k => XS.ifNo X625.here hx rfl (hb hby at_458) rfl (by decide) k) ?_
        show OwnGo p e below _ (T625.setTop (mkF m 461 #[.val (.int p0), .val (.int p1), .val (.int p2), .val (.int p3), .val (.int N), .val (.ref a529), .val (.ref r9_604), .val (.ref r9_604)] []))
        refine own_go (fun _ k => XS.iconst X625.here hx rfl (hb hby at_461) k) ?_
        show OwnGo p e below _ (T625.setTop (mkF m 462 #[.val (.int p0), .val (.int p1), .val (.int p2), .val (.int p3), .val (.int N), .val (.ref a529), .val (.ref r9_604), .val (.ref r9_604)] [(.int (1 : Int32))]))
        refine own_go (fun _ k => XS.goto X625.here hx rfl (pc0 := 462) (pc' := 466) rfl (hb hby at_462) (by decide) (by decide) k) ?_
        show OwnGo p e below _ (T625.setTop (mkF m 466 #[.val (.int p0), .val (.int p1), .val (.int p2), .val (.int p3), .val (.int N), .val (.ref a529), .val (.ref r9_604), .val (.ref r9_604)] [(.int (1 : Int32))]))
        obtain ⟨fs, hr, hrun, hended, hW, hsame⟩ := X625.leave (v := some (.int (1 : Int32))) (fun h => by rw [Bd.returns] at h; cases h)
        refine ⟨_, _, retOut X625 hx Bd.returns rfl (Or.inl ⟨rfl, Or.inr (Or.inl rfl), _, rfl⟩) (hb hby at_466) hr, hrun, hended, _, _, rfl, ?_, ⟨_, rfl⟩, hW, hsame.mono (by decide) (by decide)⟩
        show Q_law Z aNONE p0 p1 p2 p3 h0 n0 _ T625.heap _
        rw [K625]
        exact ⟨rfl, N625⟩
      · show OwnGo p e below _ (T618.setTop (mkF m 425 #[.val (.int p0), .val (.int p1), .val (.int p2), .val (.int p3), .val (.int N), .val (.ref a529), .val (.ref r9_604), .val (.ref r9_604)] [(.int p1), (.ref r9_604)]))
        by_cases hc626 : N = (1 : Int32)
        · show OwnGo p e below _ (T618.setTop (mkF m 425 #[.val (.int p0), .val (.int p1), .val (.int p2), .val (.int p3), .val (.int N), .val (.ref a529), .val (.ref r9_604), .val (.ref r9_604)] [(.int p1), (.ref r9_604)]))
          have F627 : IA Z T618.heap b9_604 ((1 : Int32)).toNatClampNeg (own_upd f9_604 ((0 : Int32)).toNatClampNeg p3) := by rw [← hc626]; exact x618_2
          have F628 := (F614.keep K618)
          have F629 := (((V597.keep K604 nin0).keep K612 (ninS ne606 nin0)).keep K618 (ninS ne606 (ninS ne607 nin0)))
          obtain ⟨cq630, kq630, qa630, qb630, qc630⟩ := isOf hZ e618 F628
          obtain ⟨_, _, ⟨T630, L630, k630, n630⟩, -, X630, ⟨Lc630, hQ630, l630, y630, z630⟩, st630⟩ := X618.virtualBack hx (y := (⟨"com/example/reweave/reweave/control/Keys", "add", "(I)V"⟩ : MethodName)) (z := (⟨"com/example/reweave/reweave/control/Keys", "add", "(I)V"⟩ : MethodName)) hown (mvT hZ (hw _ (List.mem_of_getElem? (i := 50) rfl))) (mvT hZ (hw _ (List.mem_of_getElem? (i := 30) rfl))) (notFace_of_selects (args := #[]) (mvT hZ (hw _ (List.mem_of_getElem? (i := 32) rfl)))) (mvT hZ (hw _ (List.mem_of_getElem? (i := 32) rfl))) (mvT hZ (hw _ (List.mem_of_getElem? (i := 31) rfl))) (by decide) (backOf (W := 0) (rm_addG l Z a0 hw [] aNONE F0 r9_604 p1 b9_604 (own_upd f9_604 ((0 : Int32)).toNatClampNeg p3) T618.heap n0 O618 F628 x618_0 x618_1 x618_3 F627 gex604_5 x604_7 (own_miss1 hc620)) hZ (hw _ (List.mem_of_getElem? (i := 33) rfl)) (hw _ (List.mem_of_getElem? (i := 4) rfl)) (by decide) (by decide)) qa630 qc630 (g := (mkF m 425 #[.val (.int p0), .val (.int p1), .val (.int p2), .val (.int p3), .val (.int N), .val (.ref a529), .val (.ref r9_604), .val (.ref r9_604)] [(.int p1), (.ref r9_604)])) rfl (by rw [hml]; rfl) (Steps.refl _) (argsL := [(.int p1)]) (rest := []) (lenOf pd_I__V rfl) rfl (by show 2 * 0 + _ ≤ _; exact Nat.le_of_eq rfl) (hb hby at_425) (fun _ _ => ⟨rfl, e618, (by decide : 6 + 1 ≤ _), (by decide : 295 + 2 ≤ _)⟩)
          dsimp only [Pt.U, Pt.locs, Pt.cells, Pt.slots] at X630 l630 y630 z630 st630 hQ630
          subst l630 y630 z630
          obtain ⟨r9_630, rfl, Nq630, K630, x630_0, x630_1, x630_2, x630_3, x630_4⟩ := hQ630
          have N630 := Fr.app N618 Nq630
          have O630 := O618.keep K630 (allS gex604_5 all0)
          have e630 : T630.heap = T630.heap := rfl
          have z631 : h0.size ≤ T630.heap.size := Nat.le_trans z619 K630.1
          have gex630_4 : n0 ≤ r9_630 := Nat.le_trans (own_sz O618) x630_4
          have ghx630_4 : h0.size ≤ r9_630 := Nat.le_trans z619 x630_4
          have ne632 : a529 ≠ r9_630 := own_newlt F629.lt x630_4
          have ne633 : b9_604 ≠ r9_630 := own_newlt F627.lt x630_4
          have ne634 : r9_604 ≠ r9_630 := own_newlt F628.lt x630_4
          refine own_go (fun _ k => st630.trans k) ?_
          show OwnGo p e below _ (T630.setTop (mkF m 428 #[.val (.int p0), .val (.int p1), .val (.int p2), .val (.int p3), .val (.int N), .val (.ref a529), .val (.ref r9_604), .val (.ref r9_604)] []))
          refine own_go (fun _ k => XS.iloadN X630.here hx rfl (hb hby at_428) rfl k) ?_
          show OwnGo p e below _ (T630.setTop (mkF m 429 #[.val (.int p0), .val (.int p1), .val (.int p2), .val (.int p3), .val (.int N), .val (.ref a529), .val (.ref r9_604), .val (.ref r9_604)] [(.int p3)]))
          refine own_go (fun _ k => XS.iloadN X630.here hx rfl (hb hby at_429) rfl k) ?_
          show OwnGo p e below _ (T630.setTop (mkF m 430 #[.val (.int p0), .val (.int p1), .val (.int p2), .val (.int p3), .val (.int N), .val (.ref a529), .val (.ref r9_604), .val (.ref r9_604)] [(.int p1), (.int p3)]))
          refine own_go (fun _ k => XS.icmpYes X630.here hx rfl (pc0 := 430) (pc' := 467) rfl (hb hby at_430) rfl (feq hc620).2 (by decide) (by decide) k) ?_
          show OwnGo p e below _ (T630.setTop (mkF m 467 #[.val (.int p0), .val (.int p1), .val (.int p2), .val (.int p3), .val (.int N), .val (.ref a529), .val (.ref r9_604), .val (.ref r9_604)] []))
          refine own_go (fun _ k => XS.aload X630.here hx rfl (hb hby at_467) rfl rfl k) ?_
          show OwnGo p e below _ (T630.setTop (mkF m 469 #[.val (.int p0), .val (.int p1), .val (.int p2), .val (.int p3), .val (.int N), .val (.ref a529), .val (.ref r9_604), .val (.ref r9_604)] [(.ref r9_604)]))
          have F635 := (F628.keep K630)
          obtain ⟨cq636, kq636, qa636, qb636, qc636⟩ := isOf hZ e630 F635
          obtain ⟨_, _, ⟨T636, L636, k636, n636⟩, -, X636, ⟨Lc636, hQ636, l636, y636, z636⟩, st636⟩ := X630.virtualBack hx (y := (⟨"com/example/reweave/reweave/control/Keys", "size", "()I"⟩ : MethodName)) (z := (⟨"com/example/reweave/reweave/control/Keys", "size", "()I"⟩ : MethodName)) hown (mvT hZ (hw _ (List.mem_of_getElem? (i := 12) rfl))) (mvT hZ (hw _ (List.mem_of_getElem? (i := 13) rfl))) (notFace_of_selects (args := #[]) (mvT hZ (hw _ (List.mem_of_getElem? (i := 15) rfl)))) (mvT hZ (hw _ (List.mem_of_getElem? (i := 15) rfl))) (mvT hZ (hw _ (List.mem_of_getElem? (i := 14) rfl))) (by decide) (backOf (W := 0) (rm_sz l Z a0 hw [] aNONE F0 r9_604 (2 : Int32) T630.heap n0 O630 x630_1) hZ (hw _ (List.mem_of_getElem? (i := 16) rfl)) (hw _ (List.mem_of_getElem? (i := 4) rfl)) (by decide) (by decide)) qa636 qc636 (g := (mkF m 469 #[.val (.int p0), .val (.int p1), .val (.int p2), .val (.int p3), .val (.int N), .val (.ref a529), .val (.ref r9_604), .val (.ref r9_604)] [(.ref r9_604)])) rfl (by rw [hml]; rfl) (Steps.refl _) (argsL := []) (rest := []) (lenOf pd___I rfl) rfl (by show 2 * 0 + _ ≤ _; exact Nat.le_of_eq rfl) (hb hby at_469) (fun _ _ => ⟨rfl, e630, (by decide : 7 + 0 ≤ _), (by decide : 297 + 0 ≤ _)⟩)
          dsimp only [Pt.U, Pt.locs, Pt.cells, Pt.slots] at X636 l636 y636 z636 st636 hQ636
          subst l636 y636 z636
          obtain ⟨rfl, Nq636, K636⟩ := hQ636
          have N636 := Fr.app N630 Nq636
          refine own_go (fun _ k => st636.trans k) ?_
          show OwnGo p e below _ (T636.setTop (mkF m 472 #[.val (.int p0), .val (.int p1), .val (.int p2), .val (.int p3), .val (.int N), .val (.ref a529), .val (.ref r9_604), .val (.ref r9_604)] [(.int (2 : Int32))]))
          refine own_go (fun _ k => XS.iconst X636.here hx rfl (hb hby at_472) k) ?_
          show OwnGo p e below _ (T636.setTop (mkF m 473 #[.val (.int p0), .val (.int p1), .val (.int p2), .val (.int p3), .val (.int N), .val (.ref a529), .val (.ref r9_604), .val (.ref r9_604)] [(.int (2 : Int32)), (.int (2 : Int32))]))
          refine own_go (fun _ k => XS.icmpNo X636.here hx rfl (hb hby at_473) rfl (by decide) k) ?_
          show OwnGo p e below _ (T636.setTop (mkF m 476 #[.val (.int p0), .val (.int p1), .val (.int p2), .val (.int p3), .val (.int N), .val (.ref a529), .val (.ref r9_604), .val (.ref r9_604)] []))
          refine own_go (fun _ k => XS.aload X636.here hx rfl (hb hby at_476) rfl rfl k) ?_
          show OwnGo p e below _ (T636.setTop (mkF m 478 #[.val (.int p0), .val (.int p1), .val (.int p2), .val (.int p3), .val (.int N), .val (.ref a529), .val (.ref r9_604), .val (.ref r9_604)] [(.ref r9_604)]))
          refine own_go (fun _ k => XS.iconst X636.here hx rfl (hb hby at_478) k) ?_
          show OwnGo p e below _ (T636.setTop (mkF m 479 #[.val (.int p0), .val (.int p1), .val (.int p2), .val (.int p3), .val (.int N), .val (.ref a529), .val (.ref r9_604), .val (.ref r9_604)] [(.int (0 : Int32)), (.ref r9_604)]))
          obtain ⟨cq637, kq637, qa637, qb637, qc637⟩ := isOf hZ K636 F635
          obtain ⟨_, _, ⟨T637, L637, k637, n637⟩, -, X637, ⟨Lc637, hQ637, l637, y637, z637⟩, st637⟩ := X636.virtualBack hx (y := (⟨"com/example/reweave/reweave/control/Keys", "get", "(I)I"⟩ : MethodName)) (z := (⟨"com/example/reweave/reweave/control/Keys", "get", "(I)I"⟩ : MethodName)) hown (mvT hZ (hw _ (List.mem_of_getElem? (i := 51) rfl))) (mvT hZ (hw _ (List.mem_of_getElem? (i := 52) rfl))) (notFace_of_selects (args := #[]) (mvT hZ (hw _ (List.mem_of_getElem? (i := 54) rfl)))) (mvT hZ (hw _ (List.mem_of_getElem? (i := 54) rfl))) (mvT hZ (hw _ (List.mem_of_getElem? (i := 53) rfl))) (by decide) (backOf (W := 0) (rm_get l Z a0 hw [] aNONE F0 r9_604 (0 : Int32) r9_630 (2 : Int32) (own_upd (own_upd (fun _ => 0) ((0 : Int32)).toNatClampNeg ((own_upd f9_604 ((0 : Int32)).toNatClampNeg p3) ((0 : Int32)).toNatClampNeg)) ((1 : Int32)).toNatClampNeg p1) T630.heap n0 O630 x630_0 x630_3 (by decide) (by decide) (by decide)) hZ (hw _ (List.mem_of_getElem? (i := 55) rfl)) (hw _ (List.mem_of_getElem? (i := 4) rfl)) (by decide) (by decide)) qa637 qc637 (g := (mkF m 479 #[.val (.int p0), .val (.int p1), .val (.int p2), .val (.int p3), .val (.int N), .val (.ref a529), .val (.ref r9_604), .val (.ref r9_604)] [(.int (0 : Int32)), (.ref r9_604)])) rfl (by rw [hml]; rfl) (Steps.refl _) (argsL := [(.int (0 : Int32))]) (rest := []) (lenOf pd_I__I rfl) rfl (by show 2 * 0 + _ ≤ _; exact Nat.le_of_eq rfl) (hb hby at_479) (fun _ _ => ⟨rfl, K636, (by decide : 7 + 0 ≤ _), (by decide : 297 + 0 ≤ _)⟩)
          dsimp only [Pt.U, Pt.locs, Pt.cells, Pt.slots] at X637 l637 y637 z637 st637 hQ637
          subst l637 y637 z637
          obtain ⟨rfl, Nq637, K637⟩ := hQ637
          have N637 := Fr.app N636 Nq637
          refine own_go (fun _ k => st637.trans k) ?_
          show OwnGo p e below _ (T637.setTop (mkF m 482 #[.val (.int p0), .val (.int p1), .val (.int p2), .val (.int p3), .val (.int N), .val (.ref a529), .val (.ref r9_604), .val (.ref r9_604)] [(.int ((own_upd (own_upd (fun _ => 0) ((0 : Int32)).toNatClampNeg ((own_upd f9_604 ((0 : Int32)).toNatClampNeg p3) ((0 : Int32)).toNatClampNeg)) ((1 : Int32)).toNatClampNeg p1) ((0 : Int32)).toNatClampNeg))]))
          refine own_go (fun _ k => XS.iloadN X637.here hx rfl (hb hby at_482) rfl k) ?_
          show OwnGo p e below _ (T637.setTop (mkF m 483 #[.val (.int p0), .val (.int p1), .val (.int p2), .val (.int p3), .val (.int N), .val (.ref a529), .val (.ref r9_604), .val (.ref r9_604)] [(.int p3), (.int ((own_upd (own_upd (fun _ => 0) ((0 : Int32)).toNatClampNeg ((own_upd f9_604 ((0 : Int32)).toNatClampNeg p3) ((0 : Int32)).toNatClampNeg)) ((1 : Int32)).toNatClampNeg p1) ((0 : Int32)).toNatClampNeg))]))
          refine own_go (fun _ k => XS.icmpNo X637.here hx rfl (hb hby at_483) rfl (teq (own_get0.trans (if_pos rfl))).2 k) ?_
          show OwnGo p e below _ (T637.setTop (mkF m 486 #[.val (.int p0), .val (.int p1), .val (.int p2), .val (.int p3), .val (.int N), .val (.ref a529), .val (.ref r9_604), .val (.ref r9_604)] []))
          refine own_go (fun _ k => XS.aload X637.here hx rfl (hb hby at_486) rfl rfl k) ?_
          show OwnGo p e below _ (T637.setTop (mkF m 488 #[.val (.int p0), .val (.int p1), .val (.int p2), .val (.int p3), .val (.int N), .val (.ref a529), .val (.ref r9_604), .val (.ref r9_604)] [(.ref r9_604)]))
          refine own_go (fun _ k => XS.iconst X637.here hx rfl (hb hby at_488) k) ?_
          show OwnGo p e below _ (T637.setTop (mkF m 489 #[.val (.int p0), .val (.int p1), .val (.int p2), .val (.int p3), .val (.int N), .val (.ref a529), .val (.ref r9_604), .val (.ref r9_604)] [(.int (1 : Int32)), (.ref r9_604)]))
          obtain ⟨cq638, kq638, qa638, qb638, qc638⟩ := isOf hZ K637 F635
          obtain ⟨_, _, ⟨T638, L638, k638, n638⟩, -, X638, ⟨Lc638, hQ638, l638, y638, z638⟩, st638⟩ := X637.virtualBack hx (y := (⟨"com/example/reweave/reweave/control/Keys", "get", "(I)I"⟩ : MethodName)) (z := (⟨"com/example/reweave/reweave/control/Keys", "get", "(I)I"⟩ : MethodName)) hown (mvT hZ (hw _ (List.mem_of_getElem? (i := 51) rfl))) (mvT hZ (hw _ (List.mem_of_getElem? (i := 52) rfl))) (notFace_of_selects (args := #[]) (mvT hZ (hw _ (List.mem_of_getElem? (i := 54) rfl)))) (mvT hZ (hw _ (List.mem_of_getElem? (i := 54) rfl))) (mvT hZ (hw _ (List.mem_of_getElem? (i := 53) rfl))) (by decide) (backOf (W := 0) (rm_get l Z a0 hw [] aNONE F0 r9_604 (1 : Int32) r9_630 (2 : Int32) (own_upd (own_upd (fun _ => 0) ((0 : Int32)).toNatClampNeg ((own_upd f9_604 ((0 : Int32)).toNatClampNeg p3) ((0 : Int32)).toNatClampNeg)) ((1 : Int32)).toNatClampNeg p1) T630.heap n0 O630 x630_0 x630_3 (by decide) (by decide) (by decide)) hZ (hw _ (List.mem_of_getElem? (i := 55) rfl)) (hw _ (List.mem_of_getElem? (i := 4) rfl)) (by decide) (by decide)) qa638 qc638 (g := (mkF m 489 #[.val (.int p0), .val (.int p1), .val (.int p2), .val (.int p3), .val (.int N), .val (.ref a529), .val (.ref r9_604), .val (.ref r9_604)] [(.int (1 : Int32)), (.ref r9_604)])) rfl (by rw [hml]; rfl) (Steps.refl _) (argsL := [(.int (1 : Int32))]) (rest := []) (lenOf pd_I__I rfl) rfl (by show 2 * 0 + _ ≤ _; exact Nat.le_of_eq rfl) (hb hby at_489) (fun _ _ => ⟨rfl, K637, (by decide : 7 + 0 ≤ _), (by decide : 297 + 0 ≤ _)⟩)
          dsimp only [Pt.U, Pt.locs, Pt.cells, Pt.slots] at X638 l638 y638 z638 st638 hQ638
          subst l638 y638 z638
          obtain ⟨rfl, Nq638, K638⟩ := hQ638
          have N638 := Fr.app N637 Nq638
          refine own_go (fun _ k => st638.trans k) ?_
          show OwnGo p e below _ (T638.setTop (mkF m 492 #[.val (.int p0), .val (.int p1), .val (.int p2), .val (.int p3), .val (.int N), .val (.ref a529), .val (.ref r9_604), .val (.ref r9_604)] [(.int ((own_upd (own_upd (fun _ => 0) ((0 : Int32)).toNatClampNeg ((own_upd f9_604 ((0 : Int32)).toNatClampNeg p3) ((0 : Int32)).toNatClampNeg)) ((1 : Int32)).toNatClampNeg p1) ((1 : Int32)).toNatClampNeg))]))
          refine own_go (fun _ k => XS.iloadN X638.here hx rfl (hb hby at_492) rfl k) ?_
          show OwnGo p e below _ (T638.setTop (mkF m 493 #[.val (.int p0), .val (.int p1), .val (.int p2), .val (.int p3), .val (.int N), .val (.ref a529), .val (.ref r9_604), .val (.ref r9_604)] [(.int p1), (.int ((own_upd (own_upd (fun _ => 0) ((0 : Int32)).toNatClampNeg ((own_upd f9_604 ((0 : Int32)).toNatClampNeg p3) ((0 : Int32)).toNatClampNeg)) ((1 : Int32)).toNatClampNeg p1) ((1 : Int32)).toNatClampNeg))]))
          refine own_go (fun _ k => XS.icmpNo X638.here hx rfl (hb hby at_493) rfl (teq (if_pos rfl)).2 k) ?_
          show OwnGo p e below _ (T638.setTop (mkF m 496 #[.val (.int p0), .val (.int p1), .val (.int p2), .val (.int p3), .val (.int N), .val (.ref a529), .val (.ref r9_604), .val (.ref r9_604)] []))
          refine own_go (fun _ k => XS.aload X638.here hx rfl (hb hby at_496) rfl rfl k) ?_
          show OwnGo p e below _ (T638.setTop (mkF m 498 #[.val (.int p0), .val (.int p1), .val (.int p2), .val (.int p3), .val (.int N), .val (.ref a529), .val (.ref r9_604), .val (.ref r9_604)] [(.ref r9_604)]))
          refine own_go (fun _ k => XS.iloadN X638.here hx rfl (hb hby at_498) rfl k) ?_
          show OwnGo p e below _ (T638.setTop (mkF m 499 #[.val (.int p0), .val (.int p1), .val (.int p2), .val (.int p3), .val (.int N), .val (.ref a529), .val (.ref r9_604), .val (.ref r9_604)] [(.int p3), (.ref r9_604)]))
          obtain ⟨cq639, kq639, qa639, qb639, qc639⟩ := isOf hZ K638 F635
          obtain ⟨_, _, ⟨T639, L639, k639, n639⟩, -, X639, ⟨Lc639, hQ639, l639, y639, z639⟩, st639⟩ := X638.virtualBack hx (y := (⟨"com/example/reweave/reweave/control/Keys", "contains", "(I)Z"⟩ : MethodName)) (z := (⟨"com/example/reweave/reweave/control/Keys", "contains", "(I)Z"⟩ : MethodName)) hown (mvT hZ (hw _ (List.mem_of_getElem? (i := 49) rfl))) (mvT hZ (hw _ (List.mem_of_getElem? (i := 37) rfl))) (notFace_of_selects (args := #[]) (mvT hZ (hw _ (List.mem_of_getElem? (i := 39) rfl)))) (mvT hZ (hw _ (List.mem_of_getElem? (i := 39) rfl))) (mvT hZ (hw _ (List.mem_of_getElem? (i := 38) rfl))) (by decide) (backOf (W := 0) (rm_con l Z a0 hw [] aNONE F0 r9_604 p3 r9_630 (2 : Int32) (own_upd (own_upd (fun _ => 0) ((0 : Int32)).toNatClampNeg ((own_upd f9_604 ((0 : Int32)).toNatClampNeg p3) ((0 : Int32)).toNatClampNeg)) ((1 : Int32)).toNatClampNeg p1) (2 : Int32) (1 : Int32) T630.heap n0 O630 x630_0 x630_2 x630_1 x630_3 (by decide) (by decide) (by decide) (by decide) (own_c0 (if_pos rfl))) hZ (hw _ (List.mem_of_getElem? (i := 40) rfl)) (hw _ (List.mem_of_getElem? (i := 4) rfl)) (by decide) (by decide)) qa639 qc639 (g := (mkF m 499 #[.val (.int p0), .val (.int p1), .val (.int p2), .val (.int p3), .val (.int N), .val (.ref a529), .val (.ref r9_604), .val (.ref r9_604)] [(.int p3), (.ref r9_604)])) rfl (by rw [hml]; rfl) (Steps.refl _) (argsL := [(.int p3)]) (rest := []) (lenOf pd_I__Z rfl) rfl (by show 2 * 0 + _ ≤ _; exact Nat.le_of_eq rfl) (hb hby at_499) (fun _ _ => ⟨rfl, K638, (by decide : 7 + 0 ≤ _), (by decide : 297 + 0 ≤ _)⟩)
          dsimp only [Pt.U, Pt.locs, Pt.cells, Pt.slots] at X639 l639 y639 z639 st639 hQ639
          subst l639 y639 z639
          obtain ⟨rfl, Nq639, K639⟩ := hQ639
          have N639 := Fr.app N638 Nq639
          refine own_go (fun _ k => st639.trans k) ?_
          show OwnGo p e below _ (T639.setTop (mkF m 502 #[.val (.int p0), .val (.int p1), .val (.int p2), .val (.int p3), .val (.int N), .val (.ref a529), .val (.ref r9_604), .val (.ref r9_604)] [(.int (1 : Int32))]))
          refine own_go (fun _ k => XS.ifNo X639.here hx rfl (hb hby at_502) rfl (by decide) k) ?_
          show OwnGo p e below _ (T639.setTop (mkF m 505 #[.val (.int p0), .val (.int p1), .val (.int p2), .val (.int p3), .val (.int N), .val (.ref a529), .val (.ref r9_604), .val (.ref r9_604)] []))
          refine own_go (fun _ k => XS.aload X639.here hx rfl (hb hby at_505) rfl rfl k) ?_
          show OwnGo p e below _ (T639.setTop (mkF m 507 #[.val (.int p0), .val (.int p1), .val (.int p2), .val (.int p3), .val (.int N), .val (.ref a529), .val (.ref r9_604), .val (.ref r9_604)] [(.ref r9_604)]))
          refine own_go (fun _ k => XS.iloadN X639.here hx rfl (hb hby at_507) rfl k) ?_
          show OwnGo p e below _ (T639.setTop (mkF m 508 #[.val (.int p0), .val (.int p1), .val (.int p2), .val (.int p3), .val (.int N), .val (.ref a529), .val (.ref r9_604), .val (.ref r9_604)] [(.int p1), (.ref r9_604)]))
          obtain ⟨cq640, kq640, qa640, qb640, qc640⟩ := isOf hZ K639 F635
          obtain ⟨_, _, ⟨T640, L640, k640, n640⟩, -, X640, ⟨Lc640, hQ640, l640, y640, z640⟩, st640⟩ := X639.virtualBack hx (y := (⟨"com/example/reweave/reweave/control/Keys", "contains", "(I)Z"⟩ : MethodName)) (z := (⟨"com/example/reweave/reweave/control/Keys", "contains", "(I)Z"⟩ : MethodName)) hown (mvT hZ (hw _ (List.mem_of_getElem? (i := 49) rfl))) (mvT hZ (hw _ (List.mem_of_getElem? (i := 37) rfl))) (notFace_of_selects (args := #[]) (mvT hZ (hw _ (List.mem_of_getElem? (i := 39) rfl)))) (mvT hZ (hw _ (List.mem_of_getElem? (i := 39) rfl))) (mvT hZ (hw _ (List.mem_of_getElem? (i := 38) rfl))) (by decide) (backOf (W := 0) (rm_con l Z a0 hw [] aNONE F0 r9_604 p1 r9_630 (2 : Int32) (own_upd (own_upd (fun _ => 0) ((0 : Int32)).toNatClampNeg ((own_upd f9_604 ((0 : Int32)).toNatClampNeg p3) ((0 : Int32)).toNatClampNeg)) ((1 : Int32)).toNatClampNeg p1) (2 : Int32) (1 : Int32) T630.heap n0 O630 x630_0 x630_2 x630_1 x630_3 (by decide) (by decide) (by decide) (by decide) own_c1) hZ (hw _ (List.mem_of_getElem? (i := 40) rfl)) (hw _ (List.mem_of_getElem? (i := 4) rfl)) (by decide) (by decide)) qa640 qc640 (g := (mkF m 508 #[.val (.int p0), .val (.int p1), .val (.int p2), .val (.int p3), .val (.int N), .val (.ref a529), .val (.ref r9_604), .val (.ref r9_604)] [(.int p1), (.ref r9_604)])) rfl (by rw [hml]; rfl) (Steps.refl _) (argsL := [(.int p1)]) (rest := []) (lenOf pd_I__Z rfl) rfl (by show 2 * 0 + _ ≤ _; exact Nat.le_of_eq rfl) (hb hby at_508) (fun _ _ => ⟨rfl, K639, (by decide : 7 + 0 ≤ _), (by decide : 297 + 0 ≤ _)⟩)
          dsimp only [Pt.U, Pt.locs, Pt.cells, Pt.slots] at X640 l640 y640 z640 st640 hQ640
          subst l640 y640 z640
          obtain ⟨rfl, Nq640, K640⟩ := hQ640
          have N640 := Fr.app N639 Nq640
          refine own_go (fun _ k => st640.trans k) ?_
          show OwnGo p e below _ (T640.setTop (mkF m 511 #[.val (.int p0), .val (.int p1), .val (.int p2), .val (.int p3), .val (.int N), .val (.ref a529), .val (.ref r9_604), .val (.ref r9_604)] [(.int (1 : Int32))]))
          refine own_go (fun _ k => XS.ifNo X640.here hx rfl (hb hby at_511) rfl (by decide) k) ?_
          show OwnGo p e below _ (T640.setTop (mkF m 514 #[.val (.int p0), .val (.int p1), .val (.int p2), .val (.int p3), .val (.int N), .val (.ref a529), .val (.ref r9_604), .val (.ref r9_604)] []))
          refine own_go (fun _ k => XS.iconst X640.here hx rfl (hb hby at_514) k) ?_
          show OwnGo p e below _ (T640.setTop (mkF m 515 #[.val (.int p0), .val (.int p1), .val (.int p2), .val (.int p3), .val (.int N), .val (.ref a529), .val (.ref r9_604), .val (.ref r9_604)] [(.int (1 : Int32))]))
          refine own_go (fun _ k => XS.goto X640.here hx rfl (pc0 := 515) (pc' := 519) rfl (hb hby at_515) (by decide) (by decide) k) ?_
          show OwnGo p e below _ (T640.setTop (mkF m 519 #[.val (.int p0), .val (.int p1), .val (.int p2), .val (.int p3), .val (.int N), .val (.ref a529), .val (.ref r9_604), .val (.ref r9_604)] [(.int (1 : Int32))]))
          obtain ⟨fs, hr, hrun, hended, hW, hsame⟩ := X640.leave (v := some (.int (1 : Int32))) (fun h => by rw [Bd.returns] at h; cases h)
          refine ⟨_, _, retOut X640 hx Bd.returns rfl (Or.inl ⟨rfl, Or.inr (Or.inl rfl), _, rfl⟩) (hb hby at_519) hr, hrun, hended, _, _, rfl, ?_, ⟨_, rfl⟩, hW, hsame.mono (by decide) (by decide)⟩
          show Q_law Z aNONE p0 p1 p2 p3 h0 n0 _ T640.heap _
          rw [K640]
          exact ⟨rfl, N640⟩
        · show OwnGo p e below _ (T618.setTop (mkF m 425 #[.val (.int p0), .val (.int p1), .val (.int p2), .val (.int p3), .val (.int N), .val (.ref a529), .val (.ref r9_604), .val (.ref r9_604)] [(.int p1), (.ref r9_604)]))
          have F641 := (F614.keep K618)
          obtain ⟨cq642, kq642, qa642, qb642, qc642⟩ := isOf hZ e618 F641
          obtain ⟨_, _, ⟨T642, L642, k642, n642⟩, -, X642, ⟨Lc642, hQ642, l642, y642, z642⟩, st642⟩ := X618.virtualBack hx (y := (⟨"com/example/reweave/reweave/control/Keys", "add", "(I)V"⟩ : MethodName)) (z := (⟨"com/example/reweave/reweave/control/Keys", "add", "(I)V"⟩ : MethodName)) hown (mvT hZ (hw _ (List.mem_of_getElem? (i := 50) rfl))) (mvT hZ (hw _ (List.mem_of_getElem? (i := 30) rfl))) (notFace_of_selects (args := #[]) (mvT hZ (hw _ (List.mem_of_getElem? (i := 32) rfl)))) (mvT hZ (hw _ (List.mem_of_getElem? (i := 32) rfl))) (mvT hZ (hw _ (List.mem_of_getElem? (i := 31) rfl))) (by decide) (backOf (W := 0) (rm_addL1m l Z a0 hw [] aNONE F0 r9_604 p1 b9_604 N (own_upd f9_604 ((0 : Int32)).toNatClampNeg p3) T618.heap n0 O618 F641 x618_0 x618_1 x618_2 gex604_5 gex604_6 x604_7 hNr.1 (by decide) (own_le1 hN1) hNk x618_3 (own_miss1 hc620) (own_lt1 hN1 hc626)) hZ (hw _ (List.mem_of_getElem? (i := 33) rfl)) (hw _ (List.mem_of_getElem? (i := 4) rfl)) (by decide) (by decide)) qa642 qc642 (g := (mkF m 425 #[.val (.int p0), .val (.int p1), .val (.int p2), .val (.int p3), .val (.int N), .val (.ref a529), .val (.ref r9_604), .val (.ref r9_604)] [(.int p1), (.ref r9_604)])) rfl (by rw [hml]; rfl) (Steps.refl _) (argsL := [(.int p1)]) (rest := []) (lenOf pd_I__V rfl) rfl (by show 2 * 0 + _ ≤ _; exact Nat.le_of_eq rfl) (hb hby at_425) (fun _ _ => ⟨rfl, e618, (by decide : 6 + 0 ≤ _), (by decide : 295 + 0 ≤ _)⟩)
          dsimp only [Pt.U, Pt.locs, Pt.cells, Pt.slots] at X642 l642 y642 z642 st642 hQ642
          subst l642 y642 z642
          obtain ⟨rfl, Nq642, K642, x642_0, x642_1, x642_2, x642_3⟩ := hQ642
          have N642 := Fr.app N618 Nq642
          have O642 := O618.keep K642 (allS gex604_5 (allS gex604_6 all0))
          have e642 : T642.heap = T642.heap := rfl
          have z643 : h0.size ≤ T642.heap.size := Nat.le_trans z619 K642.1
          refine own_go (fun _ k => st642.trans k) ?_
          show OwnGo p e below _ (T642.setTop (mkF m 428 #[.val (.int p0), .val (.int p1), .val (.int p2), .val (.int p3), .val (.int N), .val (.ref a529), .val (.ref r9_604), .val (.ref r9_604)] []))
          refine own_go (fun _ k => XS.iloadN X642.here hx rfl (hb hby at_428) rfl k) ?_
          show OwnGo p e below _ (T642.setTop (mkF m 429 #[.val (.int p0), .val (.int p1), .val (.int p2), .val (.int p3), .val (.int N), .val (.ref a529), .val (.ref r9_604), .val (.ref r9_604)] [(.int p3)]))
          refine own_go (fun _ k => XS.iloadN X642.here hx rfl (hb hby at_429) rfl k) ?_
          show OwnGo p e below _ (T642.setTop (mkF m 430 #[.val (.int p0), .val (.int p1), .val (.int p2), .val (.int p3), .val (.int N), .val (.ref a529), .val (.ref r9_604), .val (.ref r9_604)] [(.int p1), (.int p3)]))
          refine own_go (fun _ k => XS.icmpYes X642.here hx rfl (pc0 := 430) (pc' := 467) rfl (hb hby at_430) rfl (feq hc620).2 (by decide) (by decide) k) ?_
          show OwnGo p e below _ (T642.setTop (mkF m 467 #[.val (.int p0), .val (.int p1), .val (.int p2), .val (.int p3), .val (.int N), .val (.ref a529), .val (.ref r9_604), .val (.ref r9_604)] []))
          refine own_go (fun _ k => XS.aload X642.here hx rfl (hb hby at_467) rfl rfl k) ?_
          show OwnGo p e below _ (T642.setTop (mkF m 469 #[.val (.int p0), .val (.int p1), .val (.int p2), .val (.int p3), .val (.int N), .val (.ref a529), .val (.ref r9_604), .val (.ref r9_604)] [(.ref r9_604)]))
          have F644 := (F641.keep K642)
          obtain ⟨cq645, kq645, qa645, qb645, qc645⟩ := isOf hZ e642 F644
          obtain ⟨_, _, ⟨T645, L645, k645, n645⟩, -, X645, ⟨Lc645, hQ645, l645, y645, z645⟩, st645⟩ := X642.virtualBack hx (y := (⟨"com/example/reweave/reweave/control/Keys", "size", "()I"⟩ : MethodName)) (z := (⟨"com/example/reweave/reweave/control/Keys", "size", "()I"⟩ : MethodName)) hown (mvT hZ (hw _ (List.mem_of_getElem? (i := 12) rfl))) (mvT hZ (hw _ (List.mem_of_getElem? (i := 13) rfl))) (notFace_of_selects (args := #[]) (mvT hZ (hw _ (List.mem_of_getElem? (i := 15) rfl)))) (mvT hZ (hw _ (List.mem_of_getElem? (i := 15) rfl))) (mvT hZ (hw _ (List.mem_of_getElem? (i := 14) rfl))) (by decide) (backOf (W := 0) (rm_sz l Z a0 hw [] aNONE F0 r9_604 (2 : Int32) T642.heap n0 O642 x642_1) hZ (hw _ (List.mem_of_getElem? (i := 16) rfl)) (hw _ (List.mem_of_getElem? (i := 4) rfl)) (by decide) (by decide)) qa645 qc645 (g := (mkF m 469 #[.val (.int p0), .val (.int p1), .val (.int p2), .val (.int p3), .val (.int N), .val (.ref a529), .val (.ref r9_604), .val (.ref r9_604)] [(.ref r9_604)])) rfl (by rw [hml]; rfl) (Steps.refl _) (argsL := []) (rest := []) (lenOf pd___I rfl) rfl (by show 2 * 0 + _ ≤ _; exact Nat.le_of_eq rfl) (hb hby at_469) (fun _ _ => ⟨rfl, e642, (by decide : 6 + 0 ≤ _), (by decide : 295 + 0 ≤ _)⟩)
          dsimp only [Pt.U, Pt.locs, Pt.cells, Pt.slots] at X645 l645 y645 z645 st645 hQ645
          subst l645 y645 z645
          obtain ⟨rfl, Nq645, K645⟩ := hQ645
          have N645 := Fr.app N642 Nq645
          refine own_go (fun _ k => st645.trans k) ?_
          show OwnGo p e below _ (T645.setTop (mkF m 472 #[.val (.int p0), .val (.int p1), .val (.int p2), .val (.int p3), .val (.int N), .val (.ref a529), .val (.ref r9_604), .val (.ref r9_604)] [(.int (2 : Int32))]))
          refine own_go (fun _ k => XS.iconst X645.here hx rfl (hb hby at_472) k) ?_
          show OwnGo p e below _ (T645.setTop (mkF m 473 #[.val (.int p0), .val (.int p1), .val (.int p2), .val (.int p3), .val (.int N), .val (.ref a529), .val (.ref r9_604), .val (.ref r9_604)] [(.int (2 : Int32)), (.int (2 : Int32))]))
          refine own_go (fun _ k => XS.icmpNo X645.here hx rfl (hb hby at_473) rfl (by decide) k) ?_
          show OwnGo p e below _ (T645.setTop (mkF m 476 #[.val (.int p0), .val (.int p1), .val (.int p2), .val (.int p3), .val (.int N), .val (.ref a529), .val (.ref r9_604), .val (.ref r9_604)] []))
          refine own_go (fun _ k => XS.aload X645.here hx rfl (hb hby at_476) rfl rfl k) ?_
          show OwnGo p e below _ (T645.setTop (mkF m 478 #[.val (.int p0), .val (.int p1), .val (.int p2), .val (.int p3), .val (.int N), .val (.ref a529), .val (.ref r9_604), .val (.ref r9_604)] [(.ref r9_604)]))
          refine own_go (fun _ k => XS.iconst X645.here hx rfl (hb hby at_478) k) ?_
          show OwnGo p e below _ (T645.setTop (mkF m 479 #[.val (.int p0), .val (.int p1), .val (.int p2), .val (.int p3), .val (.int N), .val (.ref a529), .val (.ref r9_604), .val (.ref r9_604)] [(.int (0 : Int32)), (.ref r9_604)]))
          obtain ⟨cq646, kq646, qa646, qb646, qc646⟩ := isOf hZ K645 F644
          obtain ⟨_, _, ⟨T646, L646, k646, n646⟩, -, X646, ⟨Lc646, hQ646, l646, y646, z646⟩, st646⟩ := X645.virtualBack hx (y := (⟨"com/example/reweave/reweave/control/Keys", "get", "(I)I"⟩ : MethodName)) (z := (⟨"com/example/reweave/reweave/control/Keys", "get", "(I)I"⟩ : MethodName)) hown (mvT hZ (hw _ (List.mem_of_getElem? (i := 51) rfl))) (mvT hZ (hw _ (List.mem_of_getElem? (i := 52) rfl))) (notFace_of_selects (args := #[]) (mvT hZ (hw _ (List.mem_of_getElem? (i := 54) rfl)))) (mvT hZ (hw _ (List.mem_of_getElem? (i := 54) rfl))) (mvT hZ (hw _ (List.mem_of_getElem? (i := 53) rfl))) (by decide) (backOf (W := 0) (rm_get l Z a0 hw [] aNONE F0 r9_604 (0 : Int32) b9_604 N (own_upd (own_upd f9_604 ((0 : Int32)).toNatClampNeg p3) ((1 : Int32)).toNatClampNeg p1) T642.heap n0 O642 x642_0 x642_2 hNr.1 (by decide) (own_lt0 hN1)) hZ (hw _ (List.mem_of_getElem? (i := 55) rfl)) (hw _ (List.mem_of_getElem? (i := 4) rfl)) (by decide) (by decide)) qa646 qc646 (g := (mkF m 479 #[.val (.int p0), .val (.int p1), .val (.int p2), .val (.int p3), .val (.int N), .val (.ref a529), .val (.ref r9_604), .val (.ref r9_604)] [(.int (0 : Int32)), (.ref r9_604)])) rfl (by rw [hml]; rfl) (Steps.refl _) (argsL := [(.int (0 : Int32))]) (rest := []) (lenOf pd_I__I rfl) rfl (by show 2 * 0 + _ ≤ _; exact Nat.le_of_eq rfl) (hb hby at_479) (fun _ _ => ⟨rfl, K645, (by decide : 6 + 0 ≤ _), (by decide : 295 + 0 ≤ _)⟩)
          dsimp only [Pt.U, Pt.locs, Pt.cells, Pt.slots] at X646 l646 y646 z646 st646 hQ646
          subst l646 y646 z646
          obtain ⟨rfl, Nq646, K646⟩ := hQ646
          have N646 := Fr.app N645 Nq646
          refine own_go (fun _ k => st646.trans k) ?_
          show OwnGo p e below _ (T646.setTop (mkF m 482 #[.val (.int p0), .val (.int p1), .val (.int p2), .val (.int p3), .val (.int N), .val (.ref a529), .val (.ref r9_604), .val (.ref r9_604)] [(.int ((own_upd (own_upd f9_604 ((0 : Int32)).toNatClampNeg p3) ((1 : Int32)).toNatClampNeg p1) ((0 : Int32)).toNatClampNeg))]))
          refine own_go (fun _ k => XS.iloadN X646.here hx rfl (hb hby at_482) rfl k) ?_
          show OwnGo p e below _ (T646.setTop (mkF m 483 #[.val (.int p0), .val (.int p1), .val (.int p2), .val (.int p3), .val (.int N), .val (.ref a529), .val (.ref r9_604), .val (.ref r9_604)] [(.int p3), (.int ((own_upd (own_upd f9_604 ((0 : Int32)).toNatClampNeg p3) ((1 : Int32)).toNatClampNeg p1) ((0 : Int32)).toNatClampNeg))]))
          refine own_go (fun _ k => XS.icmpNo X646.here hx rfl (hb hby at_483) rfl (teq own_get0).2 k) ?_
          show OwnGo p e below _ (T646.setTop (mkF m 486 #[.val (.int p0), .val (.int p1), .val (.int p2), .val (.int p3), .val (.int N), .val (.ref a529), .val (.ref r9_604), .val (.ref r9_604)] []))
          refine own_go (fun _ k => XS.aload X646.here hx rfl (hb hby at_486) rfl rfl k) ?_
          show OwnGo p e below _ (T646.setTop (mkF m 488 #[.val (.int p0), .val (.int p1), .val (.int p2), .val (.int p3), .val (.int N), .val (.ref a529), .val (.ref r9_604), .val (.ref r9_604)] [(.ref r9_604)]))
          refine own_go (fun _ k => XS.iconst X646.here hx rfl (hb hby at_488) k) ?_
          show OwnGo p e below _ (T646.setTop (mkF m 489 #[.val (.int p0), .val (.int p1), .val (.int p2), .val (.int p3), .val (.int N), .val (.ref a529), .val (.ref r9_604), .val (.ref r9_604)] [(.int (1 : Int32)), (.ref r9_604)]))
          obtain ⟨cq647, kq647, qa647, qb647, qc647⟩ := isOf hZ K646 F644
          obtain ⟨_, _, ⟨T647, L647, k647, n647⟩, -, X647, ⟨Lc647, hQ647, l647, y647, z647⟩, st647⟩ := X646.virtualBack hx (y := (⟨"com/example/reweave/reweave/control/Keys", "get", "(I)I"⟩ : MethodName)) (z := (⟨"com/example/reweave/reweave/control/Keys", "get", "(I)I"⟩ : MethodName)) hown (mvT hZ (hw _ (List.mem_of_getElem? (i := 51) rfl))) (mvT hZ (hw _ (List.mem_of_getElem? (i := 52) rfl))) (notFace_of_selects (args := #[]) (mvT hZ (hw _ (List.mem_of_getElem? (i := 54) rfl)))) (mvT hZ (hw _ (List.mem_of_getElem? (i := 54) rfl))) (mvT hZ (hw _ (List.mem_of_getElem? (i := 53) rfl))) (by decide) (backOf (W := 0) (rm_get l Z a0 hw [] aNONE F0 r9_604 (1 : Int32) b9_604 N (own_upd (own_upd f9_604 ((0 : Int32)).toNatClampNeg p3) ((1 : Int32)).toNatClampNeg p1) T642.heap n0 O642 x642_0 x642_2 hNr.1 (by decide) (own_lt1 hN1 hc626)) hZ (hw _ (List.mem_of_getElem? (i := 55) rfl)) (hw _ (List.mem_of_getElem? (i := 4) rfl)) (by decide) (by decide)) qa647 qc647 (g := (mkF m 489 #[.val (.int p0), .val (.int p1), .val (.int p2), .val (.int p3), .val (.int N), .val (.ref a529), .val (.ref r9_604), .val (.ref r9_604)] [(.int (1 : Int32)), (.ref r9_604)])) rfl (by rw [hml]; rfl) (Steps.refl _) (argsL := [(.int (1 : Int32))]) (rest := []) (lenOf pd_I__I rfl) rfl (by show 2 * 0 + _ ≤ _; exact Nat.le_of_eq rfl) (hb hby at_489) (fun _ _ => ⟨rfl, K646, (by decide : 6 + 0 ≤ _), (by decide : 295 + 0 ≤ _)⟩)
          dsimp only [Pt.U, Pt.locs, Pt.cells, Pt.slots] at X647 l647 y647 z647 st647 hQ647
          subst l647 y647 z647
          obtain ⟨rfl, Nq647, K647⟩ := hQ647
          have N647 := Fr.app N646 Nq647
          refine own_go (fun _ k => st647.trans k) ?_
          show OwnGo p e below _ (T647.setTop (mkF m 492 #[.val (.int p0), .val (.int p1), .val (.int p2), .val (.int p3), .val (.int N), .val (.ref a529), .val (.ref r9_604), .val (.ref r9_604)] [(.int ((own_upd (own_upd f9_604 ((0 : Int32)).toNatClampNeg p3) ((1 : Int32)).toNatClampNeg p1) ((1 : Int32)).toNatClampNeg))]))
          refine own_go (fun _ k => XS.iloadN X647.here hx rfl (hb hby at_492) rfl k) ?_
          show OwnGo p e below _ (T647.setTop (mkF m 493 #[.val (.int p0), .val (.int p1), .val (.int p2), .val (.int p3), .val (.int N), .val (.ref a529), .val (.ref r9_604), .val (.ref r9_604)] [(.int p1), (.int ((own_upd (own_upd f9_604 ((0 : Int32)).toNatClampNeg p3) ((1 : Int32)).toNatClampNeg p1) ((1 : Int32)).toNatClampNeg))]))
          refine own_go (fun _ k => XS.icmpNo X647.here hx rfl (hb hby at_493) rfl (teq (if_pos rfl)).2 k) ?_
          show OwnGo p e below _ (T647.setTop (mkF m 496 #[.val (.int p0), .val (.int p1), .val (.int p2), .val (.int p3), .val (.int N), .val (.ref a529), .val (.ref r9_604), .val (.ref r9_604)] []))
          refine own_go (fun _ k => XS.aload X647.here hx rfl (hb hby at_496) rfl rfl k) ?_
          show OwnGo p e below _ (T647.setTop (mkF m 498 #[.val (.int p0), .val (.int p1), .val (.int p2), .val (.int p3), .val (.int N), .val (.ref a529), .val (.ref r9_604), .val (.ref r9_604)] [(.ref r9_604)]))
          refine own_go (fun _ k => XS.iloadN X647.here hx rfl (hb hby at_498) rfl k) ?_
          show OwnGo p e below _ (T647.setTop (mkF m 499 #[.val (.int p0), .val (.int p1), .val (.int p2), .val (.int p3), .val (.int N), .val (.ref a529), .val (.ref r9_604), .val (.ref r9_604)] [(.int p3), (.ref r9_604)]))
          obtain ⟨cq648, kq648, qa648, qb648, qc648⟩ := isOf hZ K647 F644
          obtain ⟨_, _, ⟨T648, L648, k648, n648⟩, -, X648, ⟨Lc648, hQ648, l648, y648, z648⟩, st648⟩ := X647.virtualBack hx (y := (⟨"com/example/reweave/reweave/control/Keys", "contains", "(I)Z"⟩ : MethodName)) (z := (⟨"com/example/reweave/reweave/control/Keys", "contains", "(I)Z"⟩ : MethodName)) hown (mvT hZ (hw _ (List.mem_of_getElem? (i := 49) rfl))) (mvT hZ (hw _ (List.mem_of_getElem? (i := 37) rfl))) (notFace_of_selects (args := #[]) (mvT hZ (hw _ (List.mem_of_getElem? (i := 39) rfl)))) (mvT hZ (hw _ (List.mem_of_getElem? (i := 39) rfl))) (mvT hZ (hw _ (List.mem_of_getElem? (i := 38) rfl))) (by decide) (backOf (W := 0) (rm_con l Z a0 hw [] aNONE F0 r9_604 p3 b9_604 N (own_upd (own_upd f9_604 ((0 : Int32)).toNatClampNeg p3) ((1 : Int32)).toNatClampNeg p1) (2 : Int32) (1 : Int32) T642.heap n0 O642 x642_0 x642_3 x642_1 x642_2 hNr.1 (by decide) (own_le2 hN1 hc626) hNk (own_c0 rfl)) hZ (hw _ (List.mem_of_getElem? (i := 40) rfl)) (hw _ (List.mem_of_getElem? (i := 4) rfl)) (by decide) (by decide)) qa648 qc648 (g := (mkF m 499 #[.val (.int p0), .val (.int p1), .val (.int p2), .val (.int p3), .val (.int N), .val (.ref a529), .val (.ref r9_604), .val (.ref r9_604)] [(.int p3), (.ref r9_604)])) rfl (by rw [hml]; rfl) (Steps.refl _) (argsL := [(.int p3)]) (rest := []) (lenOf pd_I__Z rfl) rfl (by show 2 * 0 + _ ≤ _; exact Nat.le_of_eq rfl) (hb hby at_499) (fun _ _ => ⟨rfl, K647, (by decide : 6 + 0 ≤ _), (by decide : 295 + 0 ≤ _)⟩)
          dsimp only [Pt.U, Pt.locs, Pt.cells, Pt.slots] at X648 l648 y648 z648 st648 hQ648
          subst l648 y648 z648
          obtain ⟨rfl, Nq648, K648⟩ := hQ648
          have N648 := Fr.app N647 Nq648
          refine own_go (fun _ k => st648.trans k) ?_
          show OwnGo p e below _ (T648.setTop (mkF m 502 #[.val (.int p0), .val (.int p1), .val (.int p2), .val (.int p3), .val (.int N), .val (.ref a529), .val (.ref r9_604), .val (.ref r9_604)] [(.int (1 : Int32))]))
          refine own_go (fun _ k => XS.ifNo X648.here hx rfl (hb hby at_502) rfl (by decide) k) ?_
          show OwnGo p e below _ (T648.setTop (mkF m 505 #[.val (.int p0), .val (.int p1), .val (.int p2), .val (.int p3), .val (.int N), .val (.ref a529), .val (.ref r9_604), .val (.ref r9_604)] []))
          refine own_go (fun _ k => XS.aload X648.here hx rfl (hb hby at_505) rfl rfl k) ?_
          show OwnGo p e below _ (T648.setTop (mkF m 507 #[.val (.int p0), .val (.int p1), .val (.int p2), .val (.int p3), .val (.int N), .val (.ref a529), .val (.ref r9_604), .val (.ref r9_604)] [(.ref r9_604)]))
          refine own_go (fun _ k => XS.iloadN X648.here hx rfl (hb hby at_507) rfl k) ?_
          show OwnGo p e below _ (T648.setTop (mkF m 508 #[.val (.int p0), .val (.int p1), .val (.int p2), .val (.int p3), .val (.int N), .val (.ref a529), .val (.ref r9_604), .val (.ref r9_604)] [(.int p1), (.ref r9_604)]))
          obtain ⟨cq649, kq649, qa649, qb649, qc649⟩ := isOf hZ K648 F644
          obtain ⟨_, _, ⟨T649, L649, k649, n649⟩, -, X649, ⟨Lc649, hQ649, l649, y649, z649⟩, st649⟩ := X648.virtualBack hx (y := (⟨"com/example/reweave/reweave/control/Keys", "contains", "(I)Z"⟩ : MethodName)) (z := (⟨"com/example/reweave/reweave/control/Keys", "contains", "(I)Z"⟩ : MethodName)) hown (mvT hZ (hw _ (List.mem_of_getElem? (i := 49) rfl))) (mvT hZ (hw _ (List.mem_of_getElem? (i := 37) rfl))) (notFace_of_selects (args := #[]) (mvT hZ (hw _ (List.mem_of_getElem? (i := 39) rfl)))) (mvT hZ (hw _ (List.mem_of_getElem? (i := 39) rfl))) (mvT hZ (hw _ (List.mem_of_getElem? (i := 38) rfl))) (by decide) (backOf (W := 0) (rm_con l Z a0 hw [] aNONE F0 r9_604 p1 b9_604 N (own_upd (own_upd f9_604 ((0 : Int32)).toNatClampNeg p3) ((1 : Int32)).toNatClampNeg p1) (2 : Int32) (1 : Int32) T642.heap n0 O642 x642_0 x642_3 x642_1 x642_2 hNr.1 (by decide) (own_le2 hN1 hc626) hNk own_c1) hZ (hw _ (List.mem_of_getElem? (i := 40) rfl)) (hw _ (List.mem_of_getElem? (i := 4) rfl)) (by decide) (by decide)) qa649 qc649 (g := (mkF m 508 #[.val (.int p0), .val (.int p1), .val (.int p2), .val (.int p3), .val (.int N), .val (.ref a529), .val (.ref r9_604), .val (.ref r9_604)] [(.int p1), (.ref r9_604)])) rfl (by rw [hml]; rfl) (Steps.refl _) (argsL := [(.int p1)]) (rest := []) (lenOf pd_I__Z rfl) rfl (by show 2 * 0 + _ ≤ _; exact Nat.le_of_eq rfl) (hb hby at_508) (fun _ _ => ⟨rfl, K648, (by decide : 6 + 0 ≤ _), (by decide : 295 + 0 ≤ _)⟩)
          dsimp only [Pt.U, Pt.locs, Pt.cells, Pt.slots] at X649 l649 y649 z649 st649 hQ649
          subst l649 y649 z649
          obtain ⟨rfl, Nq649, K649⟩ := hQ649
          have N649 := Fr.app N648 Nq649
          refine own_go (fun _ k => st649.trans k) ?_
          show OwnGo p e below _ (T649.setTop (mkF m 511 #[.val (.int p0), .val (.int p1), .val (.int p2), .val (.int p3), .val (.int N), .val (.ref a529), .val (.ref r9_604), .val (.ref r9_604)] [(.int (1 : Int32))]))
          refine own_go (fun _ k => XS.ifNo X649.here hx rfl (hb hby at_511) rfl (by decide) k) ?_
          show OwnGo p e below _ (T649.setTop (mkF m 514 #[.val (.int p0), .val (.int p1), .val (.int p2), .val (.int p3), .val (.int N), .val (.ref a529), .val (.ref r9_604), .val (.ref r9_604)] []))
          refine own_go (fun _ k => XS.iconst X649.here hx rfl (hb hby at_514) k) ?_
          show OwnGo p e below _ (T649.setTop (mkF m 515 #[.val (.int p0), .val (.int p1), .val (.int p2), .val (.int p3), .val (.int N), .val (.ref a529), .val (.ref r9_604), .val (.ref r9_604)] [(.int (1 : Int32))]))
          refine own_go (fun _ k => XS.goto X649.here hx rfl (pc0 := 515) (pc' := 519) rfl (hb hby at_515) (by decide) (by decide) k) ?_
          show OwnGo p e below _ (T649.setTop (mkF m 519 #[.val (.int p0), .val (.int p1), .val (.int p2), .val (.int p3), .val (.int N), .val (.ref a529), .val (.ref r9_604), .val (.ref r9_604)] [(.int (1 : Int32))]))
          obtain ⟨fs, hr, hrun, hended, hW, hsame⟩ := X649.leave (v := some (.int (1 : Int32))) (fun h => by rw [Bd.returns] at h; cases h)
          refine ⟨_, _, retOut X649 hx Bd.returns rfl (Or.inl ⟨rfl, Or.inr (Or.inl rfl), _, rfl⟩) (hb hby at_519) hr, hrun, hended, _, _, rfl, ?_, ⟨_, rfl⟩, hW, hsame.mono (by decide) (by decide)⟩
          show Q_law Z aNONE p0 p1 p2 p3 h0 n0 _ T649.heap _
          rw [K649]
          exact ⟨rfl, N649⟩
set_option maxRecDepth 65536 in
set_option maxHeartbeats 40000000 in
theorem comes_1 {Post : Tables → Env → Array Value → State → Outcome → State → Prop} (hpost : ∀ tb e args s v u, (limb_1_1.after args s (.returned v) u = true ∧ limb_1_2.after args s (.returned v) u = true ∧ True) → FrameEnd s (.returned v) u (Jvm.fieldLocs frame_1_writes args s ++ Jvm.arrayLocs frame_1_arrays args s ++ Jvm.staticLocs frame_1_statics s) 24 704 → Post tb e args s (.returned v) u) :
    ArmFor flags0 classFile x code maxLocals ret World_1 tables_1 room_1 Calls_1 rest_1 Pre_1 Post := by
  intro l hfl _ _ p e ha hc hk s m args below hf hA hF happ hP
  obtain ⟨hcalls, hrest, hpre⟩ := hP
  obtain ⟨-, -, -, hnamed, -, -, -, hat⟩ := (Spec.applies_iff hf).mp happ
  obtain ⟨hg, hn0⟩ := and_e (Cond.before_iff.mp (show (Jvm.Cond.and given_1 narrow_1).before args s = true from hpre))
  obtain ⟨h1, g0⟩ := and_e hg
  obtain ⟨t0, g1⟩ := and_e g0
  obtain ⟨t1, g2⟩ := and_e g1
  obtain ⟨t2, g3⟩ := and_e g2
  obtain ⟨w0, w1, w2, w3, rfl⟩ : ∃ w0 w1 w2 w3 : Value, args = #[w0, w1, w2, w3] := by
    have hs : args.size = 4 := by simpa [Cond.value, given_1] using h1
    obtain ⟨L⟩ := args
    match L, hs with
    | [w0, w1, w2, w3], _ => exact ⟨w0, w1, w2, w3, rfl⟩
  have hw := fun d (hd : d ∈ tables_1) => atoms_spec (ws := Jvm.Cond.code x code maxLocals ret :: tables_1) hat d (List.mem_cons_of_mem _ hd)
  have hfit : Fit s := fun {y c} hc i hi => by
    obtain ⟨ha, rfl⟩ := Array.getElem?_eq_some_iff.mp hc
    have q := List.all_eq_true.mp ((Array.all_eq_true_iff_forall_mem.mp hF) _ (Array.getElem_mem ha)) i (List.mem_range.mpr hi)
    simpa [Array.getElem?_eq_getElem hi] using q
  obtain ⟨i0, ev0⟩ := is_v t0
  obtain rfl : w0 = (.int i0) := Option.some.inj ev0
  obtain ⟨i1, ev1⟩ := is_v t1
  obtain rfl : w1 = (.int i1) := Option.some.inj ev1
  obtain ⟨i2, ev2⟩ := is_v t2
  obtain rfl : w2 = (.int i2) := Option.some.inj ev2
  obtain ⟨i3, ev3⟩ := is_v g3
  obtain rfl : w3 = (.int i3) := Option.some.inj ev3
  obtain ⟨c0, hn1⟩ := and_e hn0
  obtain ⟨aNONE, ev_aNONE⟩ := exa_v c0
  have F0 : OwnFacts s aNONE := ⟨(Sta.start ev_aNONE (Or.inr ⟨(hw _ (List.mem_of_getElem? (i := 4) rfl)), (hw _ (List.mem_of_getElem? (i := 7) rfl))⟩)), (Exa.start ev_aNONE c0), (own_fldI ev_aNONE hn1)⟩
  obtain ⟨n, o, h1, h2, h3, _, L, rfl, ⟨rfl, N⟩, hq⟩ := rm_law l s _ hw tables_1 aNONE F0 i0 i1 i2 i3 s.heap s.heap.size (Old.start s) p e ha hc hk s m _ below hf ((Spec.applies_iff_loose hf).mp happ).1 ⟨rfl, State.Warmed39.refl s, rfl⟩ trivial
  refine ⟨n, _, h1, h2, h3, hpost _ _ _ _ _ _ ⟨Cond.after_iff.mpr rfl, Cond.after_iff.mpr (eq_i res_at (Term.int_eval (1)) rfl), trivial⟩ ⟨hq.1, hq.2.1, (hq.2.2.sift fun y hy => Or.inr (N y hy)).mono (by decide) (by decide)⟩⟩
theorem main_1_1 : Claimed_1_1 := comes_1 fun _ _ _ _ _ _ h hF => ⟨h.1, hF⟩
theorem main_1_2 : Claimed_1_2 := comes_1 fun _ _ _ _ _ _ h hF => ⟨h.2.1, hF⟩
end Jvm.Pilot.@@N@@
namespace Jvm.Pilot.@@N@@
open Jvm Jvm.ClassFile Sem Op Lib Jvm.Free Jvm.Stand Jvm.Pilot.@@N@@.Jvm.D
/-! MADE BY PROGRAM (witnessworld.py) out of the Statement's table words and the real class files: 12 classes; the members and pool entries that the words name. The judged class is class 1, her method 1. -/
namespace start1
open Jvm.ClassFile
def u (s : String) : CpInfo := .utf8 (stringToUtf16 s)
/-- a pool by its gaps: so many unusable entries, then the entry; so many at the end -/
def gap : Nat → List CpInfo → List CpInfo
  | 0, r => r
  | n + 1, r => .unusable :: gap n r
def poolList (es : List (Nat × CpInfo)) (last : Nat) : List CpInfo := es.foldr (fun e r => gap e.1 (e.2 :: r)) (gap last [])
def pool (es : List (Nat × CpInfo)) (last : Nat) : Array CpInfo := ⟨poolList es last⟩
def fileOf (pool : Array CpInfo) (this : Nat) (attrs : Array Attribute := #[]) (ms : Array MethodInfo := #[]) (fl : Nat := 33) (sup : Nat := 0) (ifs : Array Nat := #[]) (fds : Array FieldInfo := #[]) : ClassFile where
  minorVersion := 0
  majorVersion := 65
  constantPool := pool
  accessFlags := fl
  thisClass := this
  superClass := sup
  interfaces := ifs
  fields := fds
  methods := ms
  attributes := attrs
def plain (name : String) (sup : Option ClassId) : Class where
  name := name
  kind := .ordinary
  loader := none
  accessFlags := 33
  super := sup
  interfaces := #[]
  cf := none
  fields := #[]
  methods := #[]
  instanceTypes := #[]
  staticTypes := #[]
  resolved := #[]
  callSites := []
  init := .initialized
  statics := none
  mirror := none

def pool0 : Array CpInfo := pool [(5, u "<init>"), (0, u "()V"), (1, .class_ 10), (1, u "java/lang/Object")] 113

def k0c0 : Code := { maxStack := 0, maxLocals := 1, code := object_method_1_code, exceptionTable := #[], attributes := #[] }
def k0m0 : Method := { name := "<init>", desc := "()V", sig := { parameters := [], returnType := none }, accessFlags := 1, code := some k0c0 }
/-- java/lang/Object -/
def k0 : Class := { plain "java/lang/Object" none with
  accessFlags := 33
  interfaces := #[]
  cf := some (fileOf pool0 8 #[] #[{ accessFlags := 1, nameIndex := 5, descriptorIndex := 6, attributes := #[] }] 33 0 #[] #[])
  fields := #[]
  methods := #[k0m0]
  instanceTypes := #[]
  staticTypes := #[]
  resolved := Array.replicate 124 none
  statics := none }

def pool1 : Array CpInfo := pool [(2, .class_ 4), (1, u "java/lang/Object"), (0, u "<init>"), (0, u "()V"), (0, .integer 2147483647), (0, .methodref 9 10), (0, .class_ 11), (0, .nameAndType 12 13), (0, u "com/example/reweave/reweave/control/Keys"), (0, u "of"), (0, u "([III)Lcom/example/reweave/reweave/control/Keys;"), (0, .methodref 9 15), (0, .nameAndType 16 17), (0, u "emptied"), (0, u "(Lcom/example/reweave/reweave/control/Keys;)Lcom/example/reweave/reweave/control/Keys;"), (0, .fieldref 9 19), (0, .nameAndType 20 21), (0, u "NONE"), (0, u "Lcom/example/reweave/reweave/control/Keys;"), (0, .methodref 9 23), (0, .nameAndType 24 25), (0, u "size"), (0, u "()I"), (0, .methodref 9 27), (0, .nameAndType 28 29), (0, u "contains"), (0, u "(I)Z"), (0, .methodref 9 31), (0, .nameAndType 32 33), (0, u "add"), (0, u "(I)V"), (0, .methodref 9 35), (0, .nameAndType 36 37), (0, u "get"), (0, u "(I)I"), (0, .class_ 39), (0, u "com/example/reweave/reweave/control/KeysEmptiedPinLaw"), (2, u "law"), (0, u "(IIII)Z")] 5

def k1m0 : Method := { name := "<init>", desc := "()V", sig := { parameters := [], returnType := none }, accessFlags := 1, code := none }
def k1c1 : Code := { maxStack := 6, maxLocals := 8, code := code, exceptionTable := #[], attributes := #[] }
def k1m1 : Method := { name := "law", desc := "(IIII)Z", sig := { parameters := [.int, .int, .int, .int], returnType := some .boolean }, accessFlags := 9, code := some k1c1 }
/-- com/example/reweave/reweave/control/KeysEmptiedPinLaw -/
def k1 : Class := { plain "com/example/reweave/reweave/control/KeysEmptiedPinLaw" (some 0) with
  accessFlags := 49
  interfaces := #[]
  cf := some (fileOf pool1 38 #[] #[{ accessFlags := 1, nameIndex := 5, descriptorIndex := 6, attributes := #[] }, { accessFlags := 9, nameIndex := 42, descriptorIndex := 43, attributes := #[] }] 49 2 #[] #[])
  fields := #[]
  methods := #[k1m0, k1m1]
  instanceTypes := #[]
  staticTypes := #[]
  resolved := Array.replicate 49 none
  statics := none }

def pool2 : Array CpInfo := pool [(1, .class_ 2), (0, u "com/example/reweave/reweave/control/Keys"), (0, .methodref 1 4), (0, .nameAndType 5 6), (0, u "<init>"), (0, u "(I)V"), (0, .methodref 8 9), (0, .class_ 10), (0, .nameAndType 5 11), (0, u "java/lang/Object"), (0, u "()V"), (0, .fieldref 1 13), (0, .nameAndType 14 15), (0, u "numbers"), (0, u "[I"), (0, .fieldref 1 17), (0, .nameAndType 18 19), (0, u "size"), (0, u "I"), (0, .fieldref 1 21), (0, .nameAndType 22 15), (0, u "slots"), (0, .methodref 1 24), (0, .nameAndType 25 26), (0, u "slotOf"), (0, u "(I)I"), (0, .fieldref 1 28), (0, .nameAndType 29 30), (0, u "NONE"), (0, u "Lcom/example/reweave/reweave/control/Keys;"), (7, .methodref 1 39), (0, .nameAndType 40 41), (0, u "contains"), (0, u "(I)Z"), (0, .methodref 43 44), (0, .class_ 45), (0, .nameAndType 46 47), (0, u "java/util/Arrays"), (0, u "copyOf"), (0, u "([II)[I"), (0, .methodref 1 49), (0, .nameAndType 50 6), (0, u "reslot"), (0, .methodref 1 52), (0, .nameAndType 53 6), (0, u "add"), (16, u "COMPARED"), (2, u "FIRST_CAPACITY"), (1, u "KEPT_CAPACITY"), (3, u "()I"), (1, u "get"), (0, u "emptied"), (0, u "(Lcom/example/reweave/reweave/control/Keys;)Lcom/example/reweave/reweave/control/Keys;"), (0, u "of"), (0, u "([III)Lcom/example/reweave/reweave/control/Keys;")] 9

def k2m0 : Method := { name := "<init>", desc := "()V", sig := { parameters := [], returnType := none }, accessFlags := 0, code := none }
def k2c1 : Code := { maxStack := 2, maxLocals := 2, code := prog_46_method_2_code, exceptionTable := #[], attributes := #[] }
def k2m1 : Method := { name := "<init>", desc := "(I)V", sig := { parameters := [.int], returnType := none }, accessFlags := 2, code := some k2c1 }
def k2c2 : Code := { maxStack := 1, maxLocals := 1, code := prog_46_method_3_code, exceptionTable := #[], attributes := #[] }
def k2m2 : Method := { name := "size", desc := "()I", sig := { parameters := [], returnType := some .int }, accessFlags := 0, code := some k2c2 }
def k2c3 : Code := { maxStack := 2, maxLocals := 2, code := prog_46_method_5_code, exceptionTable := #[], attributes := #[] }
def k2m3 : Method := { name := "get", desc := "(I)I", sig := { parameters := [.int], returnType := some .int }, accessFlags := 0, code := some k2c3 }
def k2c4 : Code := { maxStack := 3, maxLocals := 3, code := prog_46_method_6_code, exceptionTable := #[], attributes := #[] }
def k2m4 : Method := { name := "contains", desc := "(I)Z", sig := { parameters := [.int], returnType := some .boolean }, accessFlags := 0, code := some k2c4 }
def k2c5 : Code := { maxStack := 4, maxLocals := 3, code := prog_46_method_7_code, exceptionTable := #[], attributes := #[] }
def k2m5 : Method := { name := "add", desc := "(I)V", sig := { parameters := [.int], returnType := none }, accessFlags := 0, code := some k2c5 }
def k2c6 : Code := { maxStack := 2, maxLocals := 1, code := prog_46_method_8_code, exceptionTable := #[], attributes := #[] }
def k2m6 : Method := { name := "emptied", desc := "(Lcom/example/reweave/reweave/control/Keys;)Lcom/example/reweave/reweave/control/Keys;", sig := { parameters := [(.object "com/example/reweave/reweave/control/Keys")], returnType := some (.object "com/example/reweave/reweave/control/Keys") }, accessFlags := 8, code := some k2c6 }
def k2c7 : Code := { maxStack := 4, maxLocals := 5, code := prog_46_method_9_code, exceptionTable := #[], attributes := #[] }
def k2m7 : Method := { name := "of", desc := "([III)Lcom/example/reweave/reweave/control/Keys;", sig := { parameters := [(.array .int), .int, .int], returnType := some (.object "com/example/reweave/reweave/control/Keys") }, accessFlags := 8, code := some k2c7 }
def k2c8 : Code := { maxStack := 3, maxLocals := 4, code := prog_46_method_13_code, exceptionTable := #[], attributes := #[] }
def k2m8 : Method := { name := "slotOf", desc := "(I)I", sig := { parameters := [.int], returnType := some .int }, accessFlags := 2, code := some k2c8 }
def k2c9 : Code := { maxStack := 4, maxLocals := 3, code := prog_46_method_14_code, exceptionTable := #[], attributes := #[] }
def k2m9 : Method := { name := "reslot", desc := "(I)V", sig := { parameters := [.int], returnType := none }, accessFlags := 2, code := some k2c9 }
/-- com/example/reweave/reweave/control/Keys -/
def k2 : Class := { plain "com/example/reweave/reweave/control/Keys" (some 0) with
  accessFlags := 48
  interfaces := #[]
  cf := some (fileOf pool2 1 #[] #[{ accessFlags := 0, nameIndex := 5, descriptorIndex := 11, attributes := #[] }, { accessFlags := 2, nameIndex := 5, descriptorIndex := 6, attributes := #[] }, { accessFlags := 0, nameIndex := 18, descriptorIndex := 79, attributes := #[] }, { accessFlags := 0, nameIndex := 81, descriptorIndex := 26, attributes := #[] }, { accessFlags := 0, nameIndex := 40, descriptorIndex := 41, attributes := #[] }, { accessFlags := 0, nameIndex := 53, descriptorIndex := 6, attributes := #[] }, { accessFlags := 8, nameIndex := 82, descriptorIndex := 83, attributes := #[] }, { accessFlags := 8, nameIndex := 84, descriptorIndex := 85, attributes := #[] }, { accessFlags := 2, nameIndex := 25, descriptorIndex := 26, attributes := #[] }, { accessFlags := 2, nameIndex := 50, descriptorIndex := 6, attributes := #[] }] 48 8 #[] #[{ accessFlags := 24, nameIndex := 29, descriptorIndex := 30, attributes := #[] }, { accessFlags := 26, nameIndex := 70, descriptorIndex := 19, attributes := #[] }, { accessFlags := 26, nameIndex := 73, descriptorIndex := 19, attributes := #[] }, { accessFlags := 26, nameIndex := 75, descriptorIndex := 19, attributes := #[] }, { accessFlags := 2, nameIndex := 14, descriptorIndex := 15, attributes := #[] }, { accessFlags := 2, nameIndex := 18, descriptorIndex := 19, attributes := #[] }, { accessFlags := 2, nameIndex := 22, descriptorIndex := 15, attributes := #[] }])
  fields := #[{ name := "NONE", type := (.object "com/example/reweave/reweave/control/Keys"), accessFlags := 24, slot := 0, constantValue := 0 }, { name := "COMPARED", type := .int, accessFlags := 26, slot := 1, constantValue := 0 }, { name := "FIRST_CAPACITY", type := .int, accessFlags := 26, slot := 2, constantValue := 0 }, { name := "KEPT_CAPACITY", type := .int, accessFlags := 26, slot := 3, constantValue := 0 }, { name := "numbers", type := (.array .int), accessFlags := 2, slot := 0, constantValue := 0 }, { name := "size", type := .int, accessFlags := 2, slot := 1, constantValue := 0 }, { name := "slots", type := (.array .int), accessFlags := 2, slot := 2, constantValue := 0 }]
  methods := #[k2m0, k2m1, k2m2, k2m3, k2m4, k2m5, k2m6, k2m7, k2m8, k2m9]
  instanceTypes := #[(.array .int), .int, (.array .int)]
  staticTypes := #[(.object "com/example/reweave/reweave/control/Keys"), .int, .int, .int]
  resolved := Array.replicate 95 none
  statics := some 0 }

def pool3 : Array CpInfo := pool [(2, .class_ 4), (1, u "java/lang/Object"), (0, u "<init>"), (0, u "()V"), (7, .class_ 16), (1, u "java/util/Arrays"), (57, .class_ 76), (1, u "java/util/Arrays$NaturalOrder"), (36, .class_ 115), (1, u "java/util/Arrays$LegacyMergeSort"), (1, u "Z"), (32, .methodref 151 152), (0, .class_ 153), (0, .nameAndType 154 155), (0, u "java/lang/System"), (0, u "arraycopy"), (0, u "(Ljava/lang/Object;ILjava/lang/Object;II)V"), (146, u "copyOf"), (1, .methodref 305 306), (0, .class_ 307), (0, .nameAndType 308 309), (0, u "java/lang/Math"), (0, u "min"), (0, u "(II)I"), (65, .class_ 376), (0, u "java/util/Arrays$ArrayList"), (68, u "$assertionsDisabled"), (269, u "MIN_ARRAY_SORT_GRAN"), (0, u "I"), (2, u "INSERTIONSORT_THRESHOLD"), (151, u "([II)[I"), (103, .class_ 976), (0, u "java/util/Arrays$ArrayItr")] 52

def k3m0 : Method := { name := "<init>", desc := "()V", sig := { parameters := [], returnType := none }, accessFlags := 2, code := none }
def k3c1 : Code := { maxStack := 6, maxLocals := 3, code := jdk_65_method_123_code, exceptionTable := #[], attributes := #[] }
def k3m1 : Method := { name := "copyOf", desc := "([II)[I", sig := { parameters := [(.array .int), .int], returnType := some (.array .int) }, accessFlags := 9, code := some k3c1 }
/-- java/util/Arrays -/
def k3 : Class := { plain "java/util/Arrays" (some 0) with
  accessFlags := 49
  interfaces := #[]
  cf := some (fileOf pool3 14 #[.nestMembers #[975, 375, 113, 74]] #[{ accessFlags := 2, nameIndex := 5, descriptorIndex := 6, attributes := #[] }, { accessFlags := 9, nameIndex := 302, descriptorIndex := 871, attributes := #[] }] 49 2 #[] #[{ accessFlags := 26, nameIndex := 715, descriptorIndex := 716, attributes := #[] }, { accessFlags := 26, nameIndex := 719, descriptorIndex := 716, attributes := #[] }, { accessFlags := 4120, nameIndex := 445, descriptorIndex := 117, attributes := #[] }])
  fields := #[{ name := "MIN_ARRAY_SORT_GRAN", type := .int, accessFlags := 26, slot := 0, constantValue := 0 }, { name := "INSERTIONSORT_THRESHOLD", type := .int, accessFlags := 26, slot := 1, constantValue := 0 }, { name := "$assertionsDisabled", type := .boolean, accessFlags := 4120, slot := 2, constantValue := 0 }]
  methods := #[k3m0, k3m1]
  instanceTypes := #[]
  staticTypes := #[.int, .int, .boolean]
  resolved := Array.replicate 1029 none
  statics := none }

def pool4 : Array CpInfo := pool [(1, .class_ 2), (0, u "java/lang/Math"), (1, .class_ 6), (1, u "java/lang/Object"), (0, u "<init>"), (0, u "()V"), (89, .class_ 100), (1, u "java/lang/Math$RandomNumberGeneratorHolder"), (71, u "negativeZeroFloatBits"), (0, u "J"), (2, u "negativeZeroDoubleBits"), (24, u "min"), (43, u "$assertionsDisabled"), (0, u "Z"), (88, u "(II)I"), (2, u "twoToTheDoubleScaleDown"), (0, u "D"), (4, u "twoToTheDoubleScaleUp"), (9, u "E"), (3, u "PI"), (2, u "TAU"), (2, u "DEGREES_TO_RADIANS"), (0, u "RADIANS_TO_DEGREES")] 94

def k4m0 : Method := { name := "<init>", desc := "()V", sig := { parameters := [], returnType := none }, accessFlags := 2, code := none }
def k4c1 : Code := { maxStack := 2, maxLocals := 2, code := jdk_29_method_69_code, exceptionTable := #[], attributes := #[] }
def k4m1 : Method := { name := "min", desc := "(II)I", sig := { parameters := [.int, .int], returnType := some .int }, accessFlags := 9, code := some k4c1 }
/-- java/lang/Math -/
def k4 : Class := { plain "java/lang/Math" (some 0) with
  accessFlags := 49
  interfaces := #[]
  cf := some (fileOf pool4 1 #[.nestMembers #[98]] #[{ accessFlags := 2, nameIndex := 7, descriptorIndex := 8, attributes := #[] }, { accessFlags := 9, nameIndex := 201, descriptorIndex := 335, attributes := #[] }] 49 4 #[] #[{ accessFlags := 25, nameIndex := 354, descriptorIndex := 339, attributes := #[] }, { accessFlags := 25, nameIndex := 358, descriptorIndex := 339, attributes := #[] }, { accessFlags := 25, nameIndex := 361, descriptorIndex := 339, attributes := #[] }, { accessFlags := 26, nameIndex := 364, descriptorIndex := 339, attributes := #[] }, { accessFlags := 26, nameIndex := 365, descriptorIndex := 339, attributes := #[] }, { accessFlags := 26, nameIndex := 172, descriptorIndex := 173, attributes := #[] }, { accessFlags := 26, nameIndex := 176, descriptorIndex := 173, attributes := #[] }, { accessFlags := 8, nameIndex := 344, descriptorIndex := 339, attributes := #[] }, { accessFlags := 8, nameIndex := 338, descriptorIndex := 339, attributes := #[] }, { accessFlags := 4120, nameIndex := 245, descriptorIndex := 246, attributes := #[] }])
  fields := #[{ name := "E", type := .double, accessFlags := 25, slot := 0, constantValue := 0 }, { name := "PI", type := .double, accessFlags := 25, slot := 1, constantValue := 0 }, { name := "TAU", type := .double, accessFlags := 25, slot := 2, constantValue := 0 }, { name := "DEGREES_TO_RADIANS", type := .double, accessFlags := 26, slot := 3, constantValue := 0 }, { name := "RADIANS_TO_DEGREES", type := .double, accessFlags := 26, slot := 4, constantValue := 0 }, { name := "negativeZeroFloatBits", type := .long, accessFlags := 26, slot := 5, constantValue := 0 }, { name := "negativeZeroDoubleBits", type := .long, accessFlags := 26, slot := 6, constantValue := 0 }, { name := "twoToTheDoubleScaleUp", type := .double, accessFlags := 8, slot := 7, constantValue := 0 }, { name := "twoToTheDoubleScaleDown", type := .double, accessFlags := 8, slot := 8, constantValue := 0 }, { name := "$assertionsDisabled", type := .boolean, accessFlags := 4120, slot := 9, constantValue := 0 }]
  methods := #[k4m0, k4m1]
  instanceTypes := #[]
  staticTypes := #[.double, .double, .double, .double, .double, .long, .long, .double, .double, .boolean]
  resolved := Array.replicate 460 none
  statics := none }

def pool5 : Array CpInfo := pool [(2, .class_ 4), (1, u "java/lang/Object"), (0, u "<init>"), (0, u "()V"), (1, .class_ 10), (1, u "java/lang/System"), (0, u "allowSecurityManager"), (0, u "I"), (16, u "cons"), (0, u "Ljava/io/Console;"), (77, .class_ 110), (1, u "java/lang/System$CallersHolder"), (43, u "initialErrStream"), (0, u "Ljava/io/PrintStream;"), (19, u "security"), (0, u "Ljava/lang/SecurityManager;"), (31, .class_ 209), (0, u "java/lang/System$1"), (7, u "props"), (0, u "Ljava/util/Properties;"), (2, u "lineSeparator"), (0, u "Ljava/lang/String;"), (96, .class_ 321), (1, u "java/lang/System$LoggerFinder"), (5, .class_ 328), (0, u "java/lang/System$Logger"), (67, u "err"), (2, u "out"), (91, u "notSupportedJnuEncoding"), (15, u "in"), (17, u "initialIn"), (0, u "Ljava/io/InputStream;"), (35, u "bootLayer"), (0, u "Ljava/lang/ModuleLayer;"), (99, .class_ 664), (0, u "java/lang/System$2"), (9, u "NEVER"), (2, u "MAYBE"), (49, u "arraycopy"), (0, u "(Ljava/lang/Object;ILjava/lang/Object;II)V"), (72, .class_ 802), (0, u "java/lang/System$Logger$Level")] 31

def k5m0 : Method := { name := "<init>", desc := "()V", sig := { parameters := [], returnType := none }, accessFlags := 2, code := none }
def k5m1 : Method := { name := "arraycopy", desc := "(Ljava/lang/Object;ILjava/lang/Object;II)V", sig := { parameters := [(.object "java/lang/Object"), .int, (.object "java/lang/Object"), .int, .int], returnType := none }, accessFlags := 265, code := none }
/-- java/lang/System -/
def k5 : Class := { plain "java/lang/System" (some 0) with
  accessFlags := 49
  interfaces := #[]
  cf := some (fileOf pool5 8 #[.nestMembers #[319, 327, 801, 108, 663, 208]] #[{ accessFlags := 2, nameIndex := 5, descriptorIndex := 6, attributes := #[] }, { accessFlags := 265, nameIndex := 727, descriptorIndex := 728, attributes := #[] }] 49 2 #[] #[{ accessFlags := 25, nameIndex := 507, descriptorIndex := 526, attributes := #[] }, { accessFlags := 25, nameIndex := 399, descriptorIndex := 155, attributes := #[] }, { accessFlags := 25, nameIndex := 396, descriptorIndex := 155, attributes := #[] }, { accessFlags := 10, nameIndex := 525, descriptorIndex := 526, attributes := #[] }, { accessFlags := 26, nameIndex := 674, descriptorIndex := 12, attributes := #[] }, { accessFlags := 26, nameIndex := 677, descriptorIndex := 12, attributes := #[] }, { accessFlags := 10, nameIndex := 11, descriptorIndex := 12, attributes := #[] }, { accessFlags := 74, nameIndex := 175, descriptorIndex := 176, attributes := #[] }, { accessFlags := 10, nameIndex := 491, descriptorIndex := 222, attributes := #[] }, { accessFlags := 74, nameIndex := 29, descriptorIndex := 30, attributes := #[] }, { accessFlags := 74, nameIndex := 154, descriptorIndex := 155, attributes := #[] }, { accessFlags := 10, nameIndex := 217, descriptorIndex := 218, attributes := #[] }, { accessFlags := 10, nameIndex := 221, descriptorIndex := 222, attributes := #[] }, { accessFlags := 8, nameIndex := 562, descriptorIndex := 563, attributes := #[] }])
  fields := #[{ name := "in", type := (.object "java/io/InputStream"), accessFlags := 25, slot := 0, constantValue := 0 }, { name := "out", type := (.object "java/io/PrintStream"), accessFlags := 25, slot := 1, constantValue := 0 }, { name := "err", type := (.object "java/io/PrintStream"), accessFlags := 25, slot := 2, constantValue := 0 }, { name := "initialIn", type := (.object "java/io/InputStream"), accessFlags := 10, slot := 3, constantValue := 0 }, { name := "NEVER", type := .int, accessFlags := 26, slot := 4, constantValue := 0 }, { name := "MAYBE", type := .int, accessFlags := 26, slot := 5, constantValue := 0 }, { name := "allowSecurityManager", type := .int, accessFlags := 10, slot := 6, constantValue := 0 }, { name := "security", type := (.object "java/lang/SecurityManager"), accessFlags := 74, slot := 7, constantValue := 0 }, { name := "notSupportedJnuEncoding", type := (.object "java/lang/String"), accessFlags := 10, slot := 8, constantValue := 0 }, { name := "cons", type := (.object "java/io/Console"), accessFlags := 74, slot := 9, constantValue := 0 }, { name := "initialErrStream", type := (.object "java/io/PrintStream"), accessFlags := 74, slot := 10, constantValue := 0 }, { name := "props", type := (.object "java/util/Properties"), accessFlags := 10, slot := 11, constantValue := 0 }, { name := "lineSeparator", type := (.object "java/lang/String"), accessFlags := 10, slot := 12, constantValue := 0 }, { name := "bootLayer", type := (.object "java/lang/ModuleLayer"), accessFlags := 8, slot := 13, constantValue := 0 }]
  methods := #[k5m0, k5m1]
  instanceTypes := #[]
  staticTypes := #[(.object "java/io/InputStream"), (.object "java/io/PrintStream"), (.object "java/io/PrintStream"), (.object "java/io/InputStream"), .int, .int, .int, (.object "java/lang/SecurityManager"), (.object "java/lang/String"), (.object "java/io/Console"), (.object "java/io/PrintStream"), (.object "java/util/Properties"), (.object "java/lang/String"), (.object "java/lang/ModuleLayer")]
  resolved := Array.replicate 834 none
  statics := none }

def pool6 : Array CpInfo := pool [(1, u "java/lang/Cloneable"), (0, .class_ 1), (0, u "java/lang/Object"), (0, .class_ 3)] 3

/-- java/lang/Cloneable -/
def k6 : Class := { plain "java/lang/Cloneable" (some 0) with
  accessFlags := 1537
  interfaces := #[]
  cf := some (fileOf pool6 2 #[] #[] 1537 4 #[] #[])
  fields := #[]
  methods := #[]
  instanceTypes := #[]
  staticTypes := #[]
  resolved := Array.replicate 8 none
  statics := none }

def pool7 : Array CpInfo := pool [(1, u "java/io/Serializable"), (0, .class_ 1), (0, u "java/lang/Object"), (0, .class_ 3)] 3

/-- java/io/Serializable -/
def k7 : Class := { plain "java/io/Serializable" (some 0) with
  accessFlags := 1537
  interfaces := #[]
  cf := some (fileOf pool7 2 #[] #[] 1537 4 #[] #[])
  fields := #[]
  methods := #[]
  instanceTypes := #[]
  staticTypes := #[]
  resolved := Array.replicate 8 none
  statics := none }

/-- the primitive byte -/
def k8 : Class := { plain "byte" none with kind := .primitive 'B', accessFlags := 0x411 }
/-- [B -/
def k9 : Class := { plain "[B" (some 0) with kind := .array 8 .byte, interfaces := #[6, 7], accessFlags := 1041 }

/-- the primitive int -/
def k10 : Class := { plain "int" none with kind := .primitive 'I', accessFlags := 0x411 }
/-- [I -/
def k11 : Class := { plain "[I" (some 0) with kind := .array 10 .int, interfaces := #[6, 7], accessFlags := 1041 }

def heap : Heap := #[{ cls := 2, slots := #[.ref 1, .int 0, .int 0, .int 0], vm := .statics 2 },
  { cls := 2, slots := #[.null, .int 0, .null], vm := .none }]
def classes : Array Class := #[k0, k1, k2, k3, k4, k5, k6, k7, k8, k9, k10, k11]
def interned : List (Array UInt16 × Addr) := []
def slotsUsed : Nat := 7
def theMethod : MethodId := ⟨1, 1⟩
def args0 : Array Value := #[.int 5, .int 7, .int 2, .int 3]
def aboutOver (below : List Frame) : State where
  vm := { classes := classes, interned := interned.toArray }
  heap := heap
  slotsUsed := slotsUsed
  threads := #[{ frames := .invoking theMethod args0 :: below }]
def below0 : List Frame := [.native { method := ⟨0, 0⟩, args := #[] }]
def about1 : State := aboutOver below0
def p0 : Program := .bare "" "" ""
def e0 : Env := launch0.env 0 0 0
theorem w_frames : about1.frames = Frame.invoking theMethod args0 :: below0 := rfl
set_option maxRecDepth 65536 in
theorem w_args : argsFit about1.vm theMethod args0 = true := by decide +kernel
set_option maxRecDepth 65536 in
theorem w_heap : heapFits about1 = true := by decide +kernel
set_option maxRecDepth 65536 in
theorem w_runnable : about1.curStatus? = some .runnable := by decide +kernel
set_option maxRecDepth 65536 in
theorem w_alone : about1.alone = true := by decide +kernel
set_option maxRecDepth 65536 in
theorem w_named : about1.methodNamed? x = some theMethod := by decide +kernel
set_option maxRecDepth 65536 in
theorem w_hears : about1.hears theMethod below0 = true := by decide +kernel
set_option maxRecDepth 65536 in
theorem w_ripe : about1.ripe theMethod args0 below0 = true := by decide +kernel
theorem w_running : about1.status = .running := rfl
set_option maxRecDepth 65536 in
theorem w_room : about1.hasRoom e0.platform room_1 = true :=
  launch0.hasRoom_least _ room_1 (by decide +kernel) (by decide +kernel) (by decide +kernel) (by decide +kernel) (by decide +kernel) (by decide +kernel)
theorem allAtoms_all (ts : List Jvm.Cond) (a : Array Jvm.Value) (st : Jvm.State) : (allAtoms ts).before a st = ts.all (fun c => c.before a st) := by
  induction ts with
  | nil => rfl
  | cons c t ih =>
    show (Jvm.Cond.and c (allAtoms t)).before a st = _
    rw [Jvm.Cond.before_and, ih, List.all_cons]
def words1 : List Jvm.Cond := Jvm.Cond.code x code maxLocals ret :: tables_1
/-- a 'code' word, met by the world's own term for the bytes: nothing is compared byte by byte -/
theorem code_word {y : MethodName} {bytes : ByteArray} {mx : Nat} {rt : Option FieldType} {a : Array Value} {s : State} {m : MethodId} {meth : Method} {c : Code} (h1 : s.methodNamed? y = some m) (h2 : s.vm.method? m = some meth) (h3 : meth.code = some c) (h4 : c.code = bytes)
    (h5 : (c.maxLocals == mx && c.exceptionTable.isEmpty && decide (c.maxStack ≤ mostOperands) && decide (meth.sig.returnType = rt) && !meth.locks && decide (parseMethodDescriptor y.desc = some meth.sig)) = true) : (Jvm.Cond.code y bytes mx rt).before a s = true := by
  simp only [Bool.and_eq_true, beq_iff_eq, Bool.not_eq_true', decide_eq_true_eq] at h5
  obtain ⟨⟨⟨⟨⟨g1, g2⟩, g3⟩, g4⟩, g5⟩, g6⟩ := h5
  simp [Cond.before, Cond.holds, Cond.value, h1, h2, h3, h4, g1, g2, g3, g4, g5, g6]
def isCode : Jvm.Cond → Bool
  | .code _ _ _ _ => true
  | _ => false
theorem all_split {L : List Jvm.Cond} {P : Jvm.Cond → Bool} (h1 : L.all (fun c => isCode c || P c) = true) (h2 : ∀ c ∈ L.filter isCode, P c = true) : L.all P = true := by
  refine List.all_eq_true.mpr fun c hc => ?_
  have h := List.all_eq_true.mp h1 c hc
  rcases Bool.eq_false_or_eq_true (isCode c) with hi | hi
  · exact h2 c (List.mem_filter.mpr ⟨hc, hi⟩)
  · simpa [hi] using h
set_option maxRecDepth 65536 in
theorem w_c0 : (Jvm.Cond.code x code maxLocals ret).before args0 about1 = true := code_word (m := ⟨1, 1⟩) (meth := k1m1) (c := k1c1) (by decide +kernel) rfl rfl rfl (by decide +kernel)
set_option maxRecDepth 65536 in
theorem w_c1 : (Jvm.Cond.code ({ cls := "com/example/reweave/reweave/control/Keys", name := "of", desc := "([III)Lcom/example/reweave/reweave/control/Keys;" } : Jvm.MethodName) prog_46_method_9_code (5 : Nat) (Option.some (Jvm.ClassFile.FieldType.object "com/example/reweave/reweave/control/Keys"))).before args0 about1 = true := code_word (m := ⟨2, 7⟩) (meth := k2m7) (c := k2c7) (by decide +kernel) rfl rfl rfl (by decide +kernel)
set_option maxRecDepth 65536 in
theorem w_c2 : (Jvm.Cond.code ({ cls := "com/example/reweave/reweave/control/Keys", name := "emptied", desc := "(Lcom/example/reweave/reweave/control/Keys;)Lcom/example/reweave/reweave/control/Keys;" } : Jvm.MethodName) prog_46_method_8_code (1 : Nat) (Option.some (Jvm.ClassFile.FieldType.object "com/example/reweave/reweave/control/Keys"))).before args0 about1 = true := code_word (m := ⟨2, 6⟩) (meth := k2m6) (c := k2c6) (by decide +kernel) rfl rfl rfl (by decide +kernel)
set_option maxRecDepth 65536 in
theorem w_c3 : (Jvm.Cond.code ({ cls := "com/example/reweave/reweave/control/Keys", name := "size", desc := "()I" } : Jvm.MethodName) prog_46_method_3_code (1 : Nat) (Option.some Jvm.ClassFile.FieldType.int)).before args0 about1 = true := code_word (m := ⟨2, 2⟩) (meth := k2m2) (c := k2c2) (by decide +kernel) rfl rfl rfl (by decide +kernel)
set_option maxRecDepth 65536 in
theorem w_c4 : (Jvm.Cond.code ({ cls := "com/example/reweave/reweave/control/Keys", name := "<init>", desc := "(I)V" } : Jvm.MethodName) prog_46_method_2_code (2 : Nat) (Option.none : Option Jvm.ClassFile.FieldType)).before args0 about1 = true := code_word (m := ⟨2, 1⟩) (meth := k2m1) (c := k2c1) (by decide +kernel) rfl rfl rfl (by decide +kernel)
set_option maxRecDepth 65536 in
theorem w_c5 : (Jvm.Cond.code ({ cls := "java/lang/Object", name := "<init>", desc := "()V" } : Jvm.MethodName) object_method_1_code (1 : Nat) (Option.none : Option Jvm.ClassFile.FieldType)).before args0 about1 = true := code_word (m := ⟨0, 0⟩) (meth := k0m0) (c := k0c0) (by decide +kernel) rfl rfl rfl (by decide +kernel)
set_option maxRecDepth 65536 in
theorem w_c6 : (Jvm.Cond.code ({ cls := "com/example/reweave/reweave/control/Keys", name := "add", desc := "(I)V" } : Jvm.MethodName) prog_46_method_7_code (3 : Nat) (Option.none : Option Jvm.ClassFile.FieldType)).before args0 about1 = true := code_word (m := ⟨2, 5⟩) (meth := k2m5) (c := k2c5) (by decide +kernel) rfl rfl rfl (by decide +kernel)
set_option maxRecDepth 65536 in
theorem w_c7 : (Jvm.Cond.code ({ cls := "com/example/reweave/reweave/control/Keys", name := "contains", desc := "(I)Z" } : Jvm.MethodName) prog_46_method_6_code (3 : Nat) (Option.some Jvm.ClassFile.FieldType.boolean)).before args0 about1 = true := code_word (m := ⟨2, 4⟩) (meth := k2m4) (c := k2c4) (by decide +kernel) rfl rfl rfl (by decide +kernel)
set_option maxRecDepth 65536 in
theorem w_c8 : (Jvm.Cond.code ({ cls := "com/example/reweave/reweave/control/Keys", name := "reslot", desc := "(I)V" } : Jvm.MethodName) prog_46_method_14_code (3 : Nat) (Option.none : Option Jvm.ClassFile.FieldType)).before args0 about1 = true := code_word (m := ⟨2, 9⟩) (meth := k2m9) (c := k2c9) (by decide +kernel) rfl rfl rfl (by decide +kernel)
set_option maxRecDepth 65536 in
theorem w_c9 : (Jvm.Cond.code ({ cls := "com/example/reweave/reweave/control/Keys", name := "slotOf", desc := "(I)I" } : Jvm.MethodName) prog_46_method_13_code (4 : Nat) (Option.some Jvm.ClassFile.FieldType.int)).before args0 about1 = true := code_word (m := ⟨2, 8⟩) (meth := k2m8) (c := k2c8) (by decide +kernel) rfl rfl rfl (by decide +kernel)
set_option maxRecDepth 65536 in
theorem w_c10 : (Jvm.Cond.code ({ cls := "com/example/reweave/reweave/control/Keys", name := "get", desc := "(I)I" } : Jvm.MethodName) prog_46_method_5_code (2 : Nat) (Option.some Jvm.ClassFile.FieldType.int)).before args0 about1 = true := code_word (m := ⟨2, 3⟩) (meth := k2m3) (c := k2c3) (by decide +kernel) rfl rfl rfl (by decide +kernel)
set_option maxRecDepth 65536 in
theorem w_c11 : (Jvm.Cond.code ({ cls := "java/util/Arrays", name := "copyOf", desc := "([II)[I" } : Jvm.MethodName) jdk_65_method_123_code (3 : Nat) (Option.some (Jvm.ClassFile.FieldType.array Jvm.ClassFile.FieldType.int))).before args0 about1 = true := code_word (m := ⟨3, 1⟩) (meth := k3m1) (c := k3c1) (by decide +kernel) rfl rfl rfl (by decide +kernel)
set_option maxRecDepth 65536 in
theorem w_c12 : (Jvm.Cond.code ({ cls := "java/lang/Math", name := "min", desc := "(II)I" } : Jvm.MethodName) jdk_29_method_69_code (2 : Nat) (Option.some Jvm.ClassFile.FieldType.int)).before args0 about1 = true := code_word (m := ⟨4, 1⟩) (meth := k4m1) (c := k4c1) (by decide +kernel) rfl rfl rfl (by decide +kernel)
def codes1 : List Jvm.Cond := [Jvm.Cond.code x code maxLocals ret, Jvm.Cond.code ({ cls := "com/example/reweave/reweave/control/Keys", name := "of", desc := "([III)Lcom/example/reweave/reweave/control/Keys;" } : Jvm.MethodName) prog_46_method_9_code (5 : Nat) (Option.some (Jvm.ClassFile.FieldType.object "com/example/reweave/reweave/control/Keys")), Jvm.Cond.code ({ cls := "com/example/reweave/reweave/control/Keys", name := "emptied", desc := "(Lcom/example/reweave/reweave/control/Keys;)Lcom/example/reweave/reweave/control/Keys;" } : Jvm.MethodName) prog_46_method_8_code (1 : Nat) (Option.some (Jvm.ClassFile.FieldType.object "com/example/reweave/reweave/control/Keys")), Jvm.Cond.code ({ cls := "com/example/reweave/reweave/control/Keys", name := "size", desc := "()I" } : Jvm.MethodName) prog_46_method_3_code (1 : Nat) (Option.some Jvm.ClassFile.FieldType.int), Jvm.Cond.code ({ cls := "com/example/reweave/reweave/control/Keys", name := "<init>", desc := "(I)V" } : Jvm.MethodName) prog_46_method_2_code (2 : Nat) (Option.none : Option Jvm.ClassFile.FieldType), Jvm.Cond.code ({ cls := "java/lang/Object", name := "<init>", desc := "()V" } : Jvm.MethodName) object_method_1_code (1 : Nat) (Option.none : Option Jvm.ClassFile.FieldType), Jvm.Cond.code ({ cls := "com/example/reweave/reweave/control/Keys", name := "add", desc := "(I)V" } : Jvm.MethodName) prog_46_method_7_code (3 : Nat) (Option.none : Option Jvm.ClassFile.FieldType), Jvm.Cond.code ({ cls := "com/example/reweave/reweave/control/Keys", name := "contains", desc := "(I)Z" } : Jvm.MethodName) prog_46_method_6_code (3 : Nat) (Option.some Jvm.ClassFile.FieldType.boolean), Jvm.Cond.code ({ cls := "com/example/reweave/reweave/control/Keys", name := "reslot", desc := "(I)V" } : Jvm.MethodName) prog_46_method_14_code (3 : Nat) (Option.none : Option Jvm.ClassFile.FieldType), Jvm.Cond.code ({ cls := "com/example/reweave/reweave/control/Keys", name := "slotOf", desc := "(I)I" } : Jvm.MethodName) prog_46_method_13_code (4 : Nat) (Option.some Jvm.ClassFile.FieldType.int), Jvm.Cond.code ({ cls := "com/example/reweave/reweave/control/Keys", name := "get", desc := "(I)I" } : Jvm.MethodName) prog_46_method_5_code (2 : Nat) (Option.some Jvm.ClassFile.FieldType.int), Jvm.Cond.code ({ cls := "java/util/Arrays", name := "copyOf", desc := "([II)[I" } : Jvm.MethodName) jdk_65_method_123_code (3 : Nat) (Option.some (Jvm.ClassFile.FieldType.array Jvm.ClassFile.FieldType.int)), Jvm.Cond.code ({ cls := "java/lang/Math", name := "min", desc := "(II)I" } : Jvm.MethodName) jdk_29_method_69_code (2 : Nat) (Option.some Jvm.ClassFile.FieldType.int)]
set_option maxRecDepth 65536 in
theorem codes_eq : words1.filter isCode = codes1 := rfl
theorem w_codes : ∀ c ∈ words1.filter isCode, c.before args0 about1 = true := by
  rw [codes_eq]
  intro c hc
  simp only [codes1, List.mem_cons, List.not_mem_nil, or_false] at hc
  rcases hc with rfl | rfl | rfl | rfl | rfl | rfl | rfl | rfl | rfl | rfl | rfl | rfl | rfl
  · exact w_c0
  · exact w_c1
  · exact w_c2
  · exact w_c3
  · exact w_c4
  · exact w_c5
  · exact w_c6
  · exact w_c7
  · exact w_c8
  · exact w_c9
  · exact w_c10
  · exact w_c11
  · exact w_c12
set_option maxRecDepth 65536 in
theorem w_t1 : (words1.take 24).all (fun c => isCode c || c.before args0 about1) = true := by decide +kernel
set_option maxRecDepth 65536 in
theorem w_t2 : ((words1.drop 24).take 24).all (fun c => isCode c || c.before args0 about1) = true := by decide +kernel
set_option maxRecDepth 65536 in
theorem w_t3 : ((words1.drop 24).drop 24).all (fun c => isCode c || c.before args0 about1) = true := by decide +kernel
theorem w_tables : (allAtoms (Jvm.Cond.code x code maxLocals ret :: tables_1)).before args0 about1 = true := by
  rw [allAtoms_all]
  show words1.all (fun c => c.before args0 about1) = true
  refine all_split ?_ w_codes
  rw [← List.take_append_drop 24 words1, List.all_append, w_t1, ← List.take_append_drop 24 (words1.drop 24), List.all_append, w_t2, w_t3]
  rfl
set_option maxRecDepth 65536 in
theorem w_case : (Jvm.Cond.and given_1 narrow_1).before args0 about1 = true := by decide +kernel
theorem w_applies : (headSpec (Jvm.Cond.code x code maxLocals ret :: tables_1) room_1).applies x e0.platform about1 = true :=
  (Spec.applies_iff w_frames).mpr ⟨w_running, w_runnable, w_alone, w_named, w_hears, w_ripe, w_room, w_tables⟩
theorem atStart : AtStart classFile x code maxLocals ret World_1 tables_1 room_1 Calls_1 rest_1 Pre_1 launch0 p0 e0 about1 theMethod args0 below0 :=
  ⟨lists_1, trivial, launch0.admits_env _ _ _, launch0.least_env, fairChoices_fair.cas, fairChoices_fair.clock, w_frames, w_args, w_heap, w_applies, trivial, trivial, w_case⟩
end start1
theorem witness_1 : WitnessClaimed_1 := ⟨start1.p0, start1.e0, start1.about1, start1.theMethod, start1.args0, start1.below0, start1.atStart⟩
end Jvm.Pilot.@@N@@

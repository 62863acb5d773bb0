import JvmDerived
import JvmDerived.Pilot.@@N@@Statement
import JvmDerived.Pilot.@@N@@Code
set_option linter.unusedVariables false
set_option linter.unusedSimpArgs false
@@BLOCK:NumsL.lean.txt@@
namespace Jvm.Pilot.@@N@@
open Jvm Jvm.ClassFile Sem Op Lib Jvm.Free Jvm.Stand Jvm.LawKit Jvm.RoadKit Bundle Jvm.Pilot.@@N@@.Jvm.D
/-- from the state A the body's walk comes to an end of which Q tells -/
def OwnGo (p : Program) (e : Env) (below : List Frame) (Q : Outcome → State → Prop) (A : State) : Prop :=
  ∃ s₂ o, Steps p.tables e below A s₂ ∧ s₂.status = .running ∧ Ended s₂ below o ∧ Q o s₂
theorem own_go {p : Program} {e : Env} {below : List Frame} {Q : Outcome → State → Prop} {A B : State} (st : ∀ t, Steps p.tables e below B t → Steps p.tables e below A t) (h : OwnGo p e below Q B) : OwnGo p e below Q A := by
  obtain ⟨s₂, o, h1, h2⟩ := h
  exact ⟨s₂, o, st _ h1, h2⟩
theorem own_fldI {args : Array Value} {s : State} {t : Term} {C n d : String} {k : Int32} {a : Addr} (ev : t.eval args s none [] s = some (.ref a)) (h : (Jvm.Cond.eq (Term.field t C n d) (Term.int k)).value args s none s [] = some true) : Fld s s.heap a C n d (.int k) := by
  apply Fld.start
  have q := fld_at (C := C) (n := n) (dd := d) ev
  cases hf : s.fieldOf? a C n d with
  | none => rw [hf] at q; simp [Cond.value, q] at h
  | some v => rw [hf] at q; cases v <;> simp [Cond.value, q, Term.int_eval] at h; rw [h]
theorem own_fldL {args : Array Value} {s : State} {t : Term} {C n d : String} {k : Int64} {a : Addr} (ev : t.eval args s none [] s = some (.ref a)) (h : (Jvm.Cond.eq (Term.field t C n d) (Term.long k)).value args s none s [] = some true) : Fld s s.heap a C n d (.long k) := by
  apply Fld.start
  have q := fld_at (C := C) (n := n) (dd := d) ev
  cases hf : s.fieldOf? a C n d with
  | none => rw [hf] at q; simp [Cond.value, q] at h
  | some v => rw [hf] at q; cases v <;> simp [Cond.value, q, long_at] at h; rw [h]
theorem own_refne {a b : Addr} (h : a ≠ b) : decide (Value.ref a = Value.ref b) = false := decide_eq_false fun q => h (Value.ref.inj q)
theorem own_refeq (a : Addr) : decide (Value.ref a = Value.ref a) = true := decide_eq_true rfl
theorem own_rn (a : Addr) : decide (Value.ref a = Value.null) = false := decide_eq_false fun q => by cases q
theorem own_nr (a : Addr) : decide (Value.null = Value.ref a) = false := decide_eq_false fun q => by cases q
theorem own_narb (x : Int32) : nar .byte (x.toInt8.toInt32) = x.toInt8.toInt32 := by simp [nar]
theorem own_selp {Z s : State} {a0 args : Array Value} {y : MethodName} {n : Nat} (hZ : Z.Warmed39 s.vm) (wi : (Jvm.Cond.instantiable y.cls n).before a0 Z = true) (wp : (Jvm.Cond.privateMethod y).before a0 Z = true) (wm : (Jvm.Cond.instanceMethod y).before a0 Z = true)
    (hy : y.cls ≠ "java/lang/invoke/MethodHandle" ∧ y.cls ≠ "java/lang/invoke/VarHandle") : (Jvm.Cond.selects y.cls y y).before args s = true := by
  obtain ⟨c, k, h1, h2, -, h4, -⟩ := Cond.instantiable_spec (mv hZ wi : (Jvm.Cond.instantiable y.cls n).before args s = true)
  exact selects_self_of_private h1 h2 (by revert h4; cases k.isInterface <;> simp) (Cond.privateMethod_at (mvP hZ wp (args := args))) (mv hZ wm) hy
theorem own_len {s : State} {args : Array Value} {t : Term} {a : Addr} {c : Cell} {ty : FieldType} {n : Int32} (ev : t.eval args s none [] s = some (.ref a)) (A : Arr s s.heap a c ty) (h : (Jvm.Cond.eq (Term.length t) (Term.int n)).value args s none s [] = some true) : c.slots.size < 2 ^ 31 ∧ c.slots.size.toInt32 = n := by
  have e1 := eqv_i (Term.int_eval n) h
  have hA := A.fin (Vm.Alike.refl _)
  have hs : c.slots.size < 2 ^ 31 := by
    refine Nat.lt_of_not_le fun q => ?_
    simp [Term.eval, ev, hA, Nat.not_lt.mpr q] at e1
  exact ⟨hs, by have := (len_f ev hA hs).symm.trans e1; simpa using this⟩
theorem own_monoW {s : State} {o : Outcome} {t : State} {L : List Loc} {k n k' n' : Nat} (h : ReturnedEndW s o t L k n) (hk : k ≤ k') (hn : n ≤ n') : ReturnedEndW s o t L k' n' := ⟨h.1, h.2.1, h.2.2.1, h.2.2.2.mono hk hn⟩
theorem own_newlt {a b k : Nat} (q : a < k) (g : k ≤ b) : a ≠ b := Nat.ne_of_lt (Nat.lt_of_lt_of_le q g)
theorem own_sz {Z : State} {n0 : Nat} {h : Heap} (O : Old Z n0 h) : n0 ≤ h.size := O.1 ▸ O.2.1
theorem own_newne {a b : Addr} {h : Heap} (g : b = h.size) (q : a < h.size) : a ≠ b := fun z => by rw [z, g] at q; exact Nat.lt_irrefl _ q
theorem pk {p : Program} {l : Launch} {e : Env} {R : Room} {s : State} {m : MethodId} {A : Array Value} {below : List Frame} {meth : Method} {c : Code} {T : State} {L : List Loc} {a b n0 : Nat} (X : Stand p l e R s m A below meth c T L a b) (N : Fr n0 L) : ∃ L, Stand p l e R s m A below meth c T L a b ∧ Fr n0 L := ⟨L, X, N⟩
abbrev vr (a : Addr) : Slot := .val (.ref a)
abbrev vi (n : Int32) : Slot := .val (.int n)
theorem ow {Z : State} {a0 : Array Value} (hw : ∀ d ∈ tables_1, d.before a0 Z = true) (i : Nat) {d : Jvm.Cond} (h : tables_1[i]? = some d) : d.before a0 Z = true := hw _ (List.mem_of_getElem? h)
set_option maxRecDepth 65536
set_option maxHeartbeats 40000000
abbrev HW (Z : State) (a0 : Array Value) : Prop := ∀ d ∈ tables_1, d.before a0 Z = true
theorem og {p : Program} {e : Env} {below : List Frame} {Q : Outcome → State → Prop} {A B : State} (st : ∀ t, Steps p.tables e below B t → Steps p.tables e below A t) (h : OwnGo p e below Q B) : OwnGo p e below Q A := own_go st h
abbrev OG (p : Program) (e : Env) (below : List Frame) (Q : Outcome → State → Prop) (T : State) (m : MethodId) (n : Nat) (ls : Array Slot) (st : List Value) : Prop := OwnGo p e below Q (T.setTop (mkF m n ls st))
abbrev rk (a b c d : Nat) : Room := { frames := a, cells := b, slots := c, locals := d }
theorem om {ws : List Addr} {x : Addr} {n : Nat} (i : Nat) (h : ws[i]? = some x) : x ∈ ws ∨ n ≤ x := Or.inl (List.mem_of_getElem? h)
theorem aS {ws L : List Addr} {n : Nat} {y : Addr} (q : y ∈ ws ∨ n ≤ y) (r : ∀ x ∈ L, x ∈ ws ∨ n ≤ x) : ∀ x ∈ y :: L, x ∈ ws ∨ n ≤ x := allS q r
theorem qa {p : Program} {e : Env} {below : List Frame} {Q : Outcome → State → Prop} {T : State} {m : MethodId} {c : Code} {pc : Nat} {ls : Array Slot} {st : List Value} {code : ByteArray} (h : At T m c below) (hx : p.tables.exec = Jvm.exec) (hby : c.code = code) {k : Fin 4} {v : Value} (hd : decode code pc = .ok (.aload_n k, 1)) (hl : ls[k.val]? = some (.val v)) (hv : v.isRef = true) (G : OG p e below Q T m (pc + 1) ls (v :: st)) : OG p e below Q T m pc ls st := og (fun _ k => XS.aloadN h hx rfl (hb hby hd) hl hv k) G
theorem qb {p : Program} {e : Env} {below : List Frame} {Q : Outcome → State → Prop} {T : State} {m : MethodId} {c : Code} {pc : Nat} {ls : Array Slot} {st : List Value} {code : ByteArray} (h : At T m c below) (hx : p.tables.exec = Jvm.exec) (hby : c.code = code) {k : Nat} {v : Value} (hd : decode code pc = .ok (.aload k, 2)) (hl : ls[k]? = some (.val v)) (hv : v.isRef = true) (G : OG p e below Q T m (pc + 2) ls (v :: st)) : OG p e below Q T m pc ls st := og (fun _ k => XS.aload h hx rfl (hb hby hd) hl hv k) G
theorem qi {p : Program} {e : Env} {below : List Frame} {Q : Outcome → State → Prop} {T : State} {m : MethodId} {c : Code} {pc : Nat} {ls : Array Slot} {st : List Value} {code : ByteArray} (h : At T m c below) (hx : p.tables.exec = Jvm.exec) (hby : c.code = code) {k : Nat} {v : Int32} (hd : decode code pc = .ok (.iload k, 2)) (hl : ls[k]? = some (.val (.int v))) (G : OG p e below Q T m (pc + 2) ls (.int v :: st)) : OG p e below Q T m pc ls st := og (fun _ k => XS.iload h hx rfl (hb hby hd) hl k) G
theorem qj {p : Program} {e : Env} {below : List Frame} {Q : Outcome → State → Prop} {T : State} {m : MethodId} {c : Code} {pc : Nat} {ls : Array Slot} {st : List Value} {code : ByteArray} (h : At T m c below) (hx : p.tables.exec = Jvm.exec) (hby : c.code = code) {k : Fin 4} {v : Int32} (hd : decode code pc = .ok (.iload_n k, 1)) (hl : ls[k.val]? = some (.val (.int v))) (G : OG p e below Q T m (pc + 1) ls (.int v :: st)) : OG p e below Q T m pc ls st := og (fun _ k => XS.iloadN h hx rfl (hb hby hd) hl k) G
theorem qc {p : Program} {e : Env} {below : List Frame} {Q : Outcome → State → Prop} {T : State} {m : MethodId} {c : Code} {pc : Nat} {ls : Array Slot} {st : List Value} {code : ByteArray} (h : At T m c below) (hx : p.tables.exec = Jvm.exec) (hby : c.code = code) {i : Int} (hd : decode code pc = .ok (.iconst i, 1))  (G : OG p e below Q T m (pc + 1) ls (.int (Int32.ofInt i) :: st)) : OG p e below Q T m pc ls st := og (fun _ k => XS.iconst h hx rfl (hb hby hd)  k) G
theorem qp {p : Program} {e : Env} {below : List Frame} {Q : Outcome → State → Prop} {T : State} {m : MethodId} {c : Code} {pc : Nat} {ls : Array Slot} {st : List Value} {code : ByteArray} (h : At T m c below) (hx : p.tables.exec = Jvm.exec) (hby : c.code = code) {i : Int} (hd : decode code pc = .ok (.bipush i, 2))  (G : OG p e below Q T m (pc + 2) ls (.int (Int8.ofInt i).toInt32 :: st)) : OG p e below Q T m pc ls st := og (fun _ k => XS.bipush h hx rfl (hb hby hd)  k) G
theorem qs {p : Program} {e : Env} {below : List Frame} {Q : Outcome → State → Prop} {T : State} {m : MethodId} {c : Code} {pc : Nat} {ls : Array Slot} {st : List Value} {code : ByteArray} (h : At T m c below) (hx : p.tables.exec = Jvm.exec) (hby : c.code = code) {i : Int} (hd : decode code pc = .ok (.sipush i, 3))  (G : OG p e below Q T m (pc + 3) ls (.int (Int16.ofInt i).toInt32 :: st)) : OG p e below Q T m pc ls st := og (fun _ k => XS.sipush h hx rfl (hb hby hd)  k) G
theorem qd {p : Program} {e : Env} {below : List Frame} {Q : Outcome → State → Prop} {T : State} {m : MethodId} {c : Code} {pc : Nat} {ls : Array Slot} {st : List Value} {code : ByteArray} (h : At T m c below) (hx : p.tables.exec = Jvm.exec) (hby : c.code = code) {x : Value} {rest : List Value} (hd : decode code pc = .ok (.dup, 1)) (hs : st = x :: rest) (hc : x.category = 1) (G : OG p e below Q T m (pc + 1) ls (x :: x :: rest)) : OG p e below Q T m pc ls st := og (fun _ k => XS.dup h hx rfl (hb hby hd) hs hc k) G
theorem qe {p : Program} {e : Env} {below : List Frame} {Q : Outcome → State → Prop} {T : State} {m : MethodId} {c : Code} {pc : Nat} {ls : Array Slot} {st : List Value} {code : ByteArray} (h : At T m c below) (hx : p.tables.exec = Jvm.exec) (hby : c.code = code) {x y : Int32} {rest : List Value} (hd : decode code pc = .ok (.iadd, 1)) (hs : st = .int y :: .int x :: rest) (G : OG p e below Q T m (pc + 1) ls (.int (x + y) :: rest)) : OG p e below Q T m pc ls st := og (fun _ k => XS.iadd h hx rfl (hb hby hd) hs k) G
theorem qf {p : Program} {e : Env} {below : List Frame} {Q : Outcome → State → Prop} {T : State} {m : MethodId} {c : Code} {pc : Nat} {ls : Array Slot} {st : List Value} {code : ByteArray} (h : At T m c below) (hx : p.tables.exec = Jvm.exec) (hby : c.code = code) {x y : Int32} {rest : List Value} (hd : decode code pc = .ok (.isub, 1)) (hs : st = .int y :: .int x :: rest) (G : OG p e below Q T m (pc + 1) ls (.int (x - y) :: rest)) : OG p e below Q T m pc ls st := og (fun _ k => XS.isub h hx rfl (hb hby hd) hs k) G
theorem qg {p : Program} {e : Env} {below : List Frame} {Q : Outcome → State → Prop} {T : State} {m : MethodId} {c : Code} {pc : Nat} {ls : Array Slot} {st : List Value} {code : ByteArray} (h : At T m c below) (hx : p.tables.exec = Jvm.exec) (hby : c.code = code) {x y : Int32} {rest : List Value} (hd : decode code pc = .ok (.imul, 1)) (hs : st = .int y :: .int x :: rest) (G : OG p e below Q T m (pc + 1) ls (.int (x * y) :: rest)) : OG p e below Q T m pc ls st := og (fun _ k => XS.imul h hx rfl (hb hby hd) hs k) G
theorem qh {p : Program} {e : Env} {below : List Frame} {Q : Outcome → State → Prop} {T : State} {m : MethodId} {c : Code} {pc : Nat} {ls : Array Slot} {st : List Value} {code : ByteArray} (h : At T m c below) (hx : p.tables.exec = Jvm.exec) (hby : c.code = code) {x y : Int32} {rest : List Value} (hd : decode code pc = .ok (.iand, 1)) (hs : st = .int y :: .int x :: rest) (G : OG p e below Q T m (pc + 1) ls (.int (x &&& y) :: rest)) : OG p e below Q T m pc ls st := og (fun _ k => XS.iand h hx rfl (hb hby hd) hs k) G
abbrev mn0 : MethodName := ⟨"com/example/reweave/reweave/control/Point", "<init>", "(Lcom/example/reweave/reweave/control/Point$Kind;ILcom/example/reweave/reweave/control/Location;Ljava/util/List;)V"⟩
abbrev mn1 : MethodName := ⟨"com/example/reweave/reweave/control/Point", "<init>", "(Lcom/example/reweave/reweave/control/Point$Kind;ILcom/example/reweave/reweave/control/Location;Ljava/util/List;Ljava/util/List;)V"⟩
abbrev mn2 : MethodName := ⟨"com/example/reweave/reweave/control/Point", "kind", "()Lcom/example/reweave/reweave/control/Point$Kind;"⟩
abbrev mn3 : MethodName := ⟨"com/example/reweave/reweave/control/Point", "location", "()Lcom/example/reweave/reweave/control/Location;"⟩
abbrev mn4 : MethodName := ⟨"com/example/reweave/reweave/control/Point", "runnable", "()Ljava/util/List;"⟩
abbrev mn5 : MethodName := ⟨"com/example/reweave/reweave/control/Point", "thread", "()I"⟩
abbrev mn6 : MethodName := ⟨"com/example/reweave/reweave/control/Point", "timeOuts", "()Ljava/util/List;"⟩
abbrev mn7 : MethodName := ⟨"com/example/reweave/reweave/control/Point$Kind", "ordinal", "()I"⟩
abbrev mn8 : MethodName := ⟨"com/example/reweave/reweave/control/SearchPath", "<init>", "()V"⟩
abbrev mn9 : MethodName := ⟨"com/example/reweave/reweave/control/SearchPath", "add", "(Ljava/lang/Object;Ljava/util/List;Ljava/util/List;)I"⟩
abbrev mn10 : MethodName := ⟨"com/example/reweave/reweave/control/SearchPath", "hasRacedWithoutAMonitor", "(I)Z"⟩
abbrev mn11 : MethodName := ⟨"com/example/reweave/reweave/control/SearchPath", "listsRow", "(IIII)I"⟩
abbrev mn12 : MethodName := ⟨"com/example/reweave/reweave/control/SearchPath", "racedWithoutAMonitor", "(I)V"⟩
abbrev mn13 : MethodName := ⟨"com/example/reweave/reweave/control/SearchPath", "tail", "(I)V"⟩
abbrev mn14 : MethodName := ⟨"com/example/reweave/reweave/control/SearchPathHasRacedWithoutAMonitorPinLaw", "kind", "(I)Lcom/example/reweave/reweave/control/Point$Kind;"⟩
abbrev mn15 : MethodName := ⟨"com/example/reweave/reweave/control/SharedValues", "<init>", "()V"⟩
abbrev mn16 : MethodName := ⟨"com/example/reweave/reweave/control/SharedValues", "index", "(Ljava/lang/Object;)I"⟩
abbrev mn17 : MethodName := ⟨"java/lang/Enum", "ordinal", "()I"⟩
abbrev mn18 : MethodName := ⟨"java/lang/Integer", "valueOf", "(I)Ljava/lang/Integer;"⟩
abbrev mn19 : MethodName := ⟨"java/lang/Math", "max", "(II)I"⟩
abbrev mn20 : MethodName := ⟨"java/lang/Math", "min", "(II)I"⟩
abbrev mn21 : MethodName := ⟨"java/lang/Record", "<init>", "()V"⟩
abbrev mn22 : MethodName := ⟨"java/util/AbstractCollection", "<init>", "()V"⟩
abbrev mn23 : MethodName := ⟨"java/util/AbstractList", "<init>", "()V"⟩
abbrev mn24 : MethodName := ⟨"java/util/AbstractMap", "<init>", "()V"⟩
abbrev mn25 : MethodName := ⟨"java/util/ArrayList", "<init>", "()V"⟩
abbrev mn26 : MethodName := ⟨"java/util/ArrayList", "add", "(Ljava/lang/Object;)Z"⟩
abbrev mn27 : MethodName := ⟨"java/util/ArrayList", "add", "(Ljava/lang/Object;[Ljava/lang/Object;I)V"⟩
abbrev mn28 : MethodName := ⟨"java/util/ArrayList", "grow", "()[Ljava/lang/Object;"⟩
abbrev mn29 : MethodName := ⟨"java/util/ArrayList", "grow", "(I)[Ljava/lang/Object;"⟩
abbrev mn30 : MethodName := ⟨"java/util/ArrayList", "isEmpty", "()Z"⟩
abbrev mn31 : MethodName := ⟨"java/util/ArrayList", "size", "()I"⟩
abbrev mn32 : MethodName := ⟨"java/util/ArrayList", "toArray", "()[Ljava/lang/Object;"⟩
abbrev mn33 : MethodName := ⟨"java/util/Arrays", "copyOf", "([Ljava/lang/Object;I)[Ljava/lang/Object;"⟩
abbrev mn34 : MethodName := ⟨"java/util/Arrays", "copyOf", "([Ljava/lang/Object;ILjava/lang/Class;)[Ljava/lang/Object;"⟩
abbrev mn35 : MethodName := ⟨"java/util/Collection", "isEmpty", "()Z"⟩
abbrev mn36 : MethodName := ⟨"java/util/Collection", "toArray", "()[Ljava/lang/Object;"⟩
abbrev mn37 : MethodName := ⟨"java/util/HashMap", "<init>", "()V"⟩
abbrev mn38 : MethodName := ⟨"java/util/ImmutableCollections", "listCopy", "(Ljava/util/Collection;)Ljava/util/List;"⟩
abbrev mn39 : MethodName := ⟨"java/util/ImmutableCollections$AbstractImmutableCollection", "<init>", "()V"⟩
abbrev mn40 : MethodName := ⟨"java/util/ImmutableCollections$AbstractImmutableList", "<init>", "()V"⟩
abbrev mn41 : MethodName := ⟨"java/util/ImmutableCollections$List12", "<init>", "(Ljava/lang/Object;Ljava/lang/Object;)V"⟩
abbrev mn42 : MethodName := ⟨"java/util/List", "add", "(Ljava/lang/Object;)Z"⟩
abbrev mn43 : MethodName := ⟨"java/util/List", "copyOf", "(Ljava/util/Collection;)Ljava/util/List;"⟩
abbrev mn44 : MethodName := ⟨"java/util/List", "isEmpty", "()Z"⟩
abbrev mn45 : MethodName := ⟨"java/util/List", "of", "()Ljava/util/List;"⟩
abbrev mn46 : MethodName := ⟨"java/util/List", "of", "([Ljava/lang/Object;)Ljava/util/List;"⟩
abbrev mn47 : MethodName := ⟨"java/util/List", "size", "()I"⟩
abbrev mn48 : MethodName := ⟨"java/util/Objects", "requireNonNull", "(Ljava/lang/Object;)Ljava/lang/Object;"⟩
def LP (Z : State) (a0 : Array Value) (C O n d : String) : Prop := Laid Z a0 C O n d ∧ ∃ t, parseFieldDescriptor d = some t
theorem oo {Z : State} {a0 : Array Value} {h h' : Heap} {a : Addr} {w v : Value} {C O n d O' n' d' : String} (W : Wr h h' a (Jvm.RoadKit.slotOf Z O' n' d') w) (F : Fld Z h a O n d v) (L : LP Z a0 C O n d) (L' : LP Z a0 C O' n' d') (hn : n ≠ n') : Fld Z h' a O n d v := by
  obtain ⟨l, t, q⟩ := L
  obtain ⟨l', t', q'⟩ := L'
  exact F.other W (Or.inr (slot_ne l l' hn q q'))
theorem own_root {Z : State} {a0 : Array Value} {O K : String} {n : Nat} (w : (Jvm.Cond.noSuperclass O).before a0 Z = true) (wi : (Jvm.Cond.instantiable K n).before a0 Z = true) (hn : O ≠ K) : NS Z O K := by
  obtain ⟨c, k, h1, h2, h3, -, -⟩ := Cond.noSuperclass_spec w
  obtain ⟨t, kt, t1, t2, t3, t4, -⟩ := Cond.instantiable_spec wi
  have ne := ids_ne h1 t1 hn
  refine ⟨c, t, h1, t1, fun fuel => ?_⟩
  cases fuel with
  | zero => rfl
  | succ f => simp [Vm.isSubclassAux, ne, h2, h3]
theorem own_no {Z : State} {a0 : Array Value} {C S K : String} {n : Nat} (w : (Jvm.Cond.superclass C S).before a0 Z = true) (wi : (Jvm.Cond.instantiable K n).before a0 Z = true) (N : NS Z C K) (hn : C ≠ K) : ∃ c t, Z.vm.findClass C = some c ∧ Z.vm.findClass K = some t ∧ Z.vm.assignable c t = false := by
  obtain ⟨c, t, h0, g0, n3⟩ := N
  obtain ⟨p, k, kp, h1, h2, h3, h4, h5, -, h7⟩ := Cond.superclass_spec h0 w
  obtain ⟨t', kt, t1, t2, t3, t4, -⟩ := Cond.instantiable_spec wi
  cases g0.symm.trans t1
  have ne := ids_ne h0 g0 hn
  have t5 : kt.isInterface = false := by revert t4; cases kt.isInterface <;> simp
  refine ⟨c, t, h0, g0, ?_⟩
  show Z.vm.assignableAux (255 + 1) c t = false
  simp [Vm.assignableAux, ne, h2, t2, h5, t3, t5, Vm.isSubclass, n3]
theorem own_mir {Z s : State} {args : Array Value} {C : String} {a : Addr} (hZ : Z.Warmed39 s.vm) (M : Mir Z C a) : (Term.mirror C).eval args s none [] s = some (.ref a) := by
  obtain ⟨c, k, m1, m2, m3, -⟩ := M
  obtain ⟨k', q, ek⟩ := hZ.alike.2.2 _ _ m2
  have f : s.vm.findClass C = some c := by rw [hZ.alike.findClass]; exact m1
  have g : k'.mirror = some a := by rw [ek]; exact m3
  simp [Term.eval, f, q, g]
def own_val (j : Int32) : Value := .int (j - 128)
def OwnFacts (Z : State) (ku0 ku1 ku2 ku3 aDef aCac aEmp aMir : Addr) (kDef : ClassId) (cCac : Cell) : Prop := (Sta Z Z.heap "com/example/reweave/reweave/control/Point$Kind" "UNCONTROLLED" "Lcom/example/reweave/reweave/control/Point$Kind;" (.ref ku0)) ∧ (Exa Z Z.heap ku0 "com/example/reweave/reweave/control/Point$Kind") ∧ (Sta Z Z.heap "com/example/reweave/reweave/control/Point$Kind" "RELEASE" "Lcom/example/reweave/reweave/control/Point$Kind;" (.ref ku1)) ∧ (Exa Z Z.heap ku1 "com/example/reweave/reweave/control/Point$Kind") ∧ (Fld Z Z.heap ku0 "java/lang/Enum" "ordinal" "I" (.int 13)) ∧ (Fld Z Z.heap ku1 "java/lang/Enum" "ordinal" "I" (.int 0)) ∧ (Sta Z Z.heap "com/example/reweave/reweave/control/Point$Kind" "BLOCKED" "Lcom/example/reweave/reweave/control/Point$Kind;" (.ref ku2)) ∧ (Exa Z Z.heap ku2 "com/example/reweave/reweave/control/Point$Kind") ∧ (Fld Z Z.heap ku2 "java/lang/Enum" "ordinal" "I" (.int 3)) ∧ (Sta Z Z.heap "com/example/reweave/reweave/control/Point$Kind" "CALL" "Lcom/example/reweave/reweave/control/Point$Kind;" (.ref ku3)) ∧ (Exa Z Z.heap ku3 "com/example/reweave/reweave/control/Point$Kind") ∧ (Fld Z Z.heap ku3 "java/lang/Enum" "ordinal" "I" (.int 8)) ∧ (Sta Z Z.heap "java/util/ArrayList" "DEFAULTCAPACITY_EMPTY_ELEMENTDATA" "[Ljava/lang/Object;" (.ref aDef)) ∧ (Exa Z Z.heap aDef "[Ljava/lang/Object;") ∧ (Arv Z Z.heap aDef kDef (.object "java/lang/Object") (0 : Int32) [] .null) ∧ (Sta Z Z.heap "java/lang/Integer$IntegerCache" "high" "I" (.int 127)) ∧ (Sta Z Z.heap "java/lang/Integer$IntegerCache" "cache" "[Ljava/lang/Integer;" (.ref aCac)) ∧ (Bxs Z aCac cCac "java/lang/Integer" "I" (256 : Int32) own_val) ∧ (Sta Z Z.heap "java/util/ImmutableCollections" "EMPTY_LIST" "Ljava/util/ImmutableCollections$ListN;" (.ref aEmp)) ∧ (Exa Z Z.heap aEmp "java/util/ImmutableCollections$ListN") ∧ (Fld Z Z.heap aEmp "java/util/ImmutableCollections$ListN" "allowNulls" "Z" (.int 0)) ∧ (Mir Z "[Ljava/lang/Object;" aMir)
theorem dj22_1_0 : decode jdk_22_method_1_code 0 = .ok (.aload_n 0, 1) := by decide +kernel
theorem dj22_1_1 : decode jdk_22_method_1_code 1 = .ok (.invokespecial 1, 3) := by decide +kernel
theorem dj22_1_4 : decode jdk_22_method_1_code 4 = .ok (.return_, 1) := by decide +kernel
theorem pn_java_util_AbstractCollection : plainName "java/util/AbstractCollection" = true := by first | (simp [plainName, overriddenIn]; done) | decide +kernel
def Q_iAC (Z : State) (ku0 ku1 ku2 ku3 aDef aCac aEmp aMir : Addr) (kDef : ClassId) (cCac : Cell) (a1 : Addr) (h0 : Heap) (n0 : Nat) (v : Option Value) (h : Heap) (L : List Loc) : Prop := v = none ∧ Fr n0 L ∧ h = h0
theorem ef_iAC (m : MethodId) (x0 : Addr) : entryFrame m #[(.ref x0)] 1 = mkF m 0 #[vr x0] [] := by first | (simp [entryFrame, mkF, argsToLocals, Value.category]; done) | rfl
theorem rm_iAC (l : Launch) (Z : State) (a0 : Array Value) (hw : HW Z a0) (ws : List Jvm.Cond) (ku0 ku1 ku2 ku3 aDef aCac aEmp aMir : Addr) (kDef : ClassId) (cCac : Cell) (F0 : OwnFacts Z ku0 ku1 ku2 ku3 aDef aCac aEmp aMir kDef cCac) (a1 : Addr) (h0 : Heap) (n0 : Nat) (O0 : Old Z n0 h0) :
    MetFree l mn22 (head1 (Jvm.Cond.code mn22 jdk_22_method_1_code 1 none :: ws) (rk 1 0 0 12)) (fun a U => a = #[(.ref a1)] ∧ Z.Warmed39 U.vm ∧ U.heap = h0) (fun _ _ _ _ _ => True) (fun _ U o U' => ∃ v L, o = .returned v ∧ Q_iAC Z ku0 ku1 ku2 ku3 aDef aCac aEmp aMir kDef cCac a1 h0 n0 v U'.heap L ∧ FrameEnd U o U' L (rk 1 0 0 12).cells (rk 1 0 0 12).slots) := by
  refine MetFree.of_bodySF (plainFor_of_name pn_java_util_AbstractCollection) hisR ?_
  intro p e s m args below meth c s₁ Bd hml0 hP hK
  obtain ⟨rfl, hZ, hh⟩ := hP
  have hx := Bd.exec
  have hby := Bd.bytes
  have hml : c.maxLocals = 1 := hml0
  have hown : s.vm.findClass "java/util/AbstractCollection" = some m.cls := findClass_of_methodNamed Bd.named
  have hnm := (name_of_methodNamed Bd.named Bd.method).1
  have X0 : Stand p l e (rk 1 0 0 12) s m #[(.ref a1)] below meth c s₁ [] 0 0 := Stand.of_body Bd
  have e0 : s₁.heap = h0 := by rw [← hh, Bd.state]; rfl
  have N0 := Fr.nil n0
  refine og (Q := fun o U' => ∃ v L, o = .returned v ∧ Q_iAC Z ku0 ku1 ku2 ku3 aDef aCac aEmp aMir kDef cCac a1 h0 n0 v U'.heap L ∧ FrameEnd s o U' L (rk 1 0 0 12).cells (rk 1 0 0 12).slots) (fun t k => castTop (ef_iAC m a1) k) ?_
  show OG p e below _ s₁ m 0 #[vr a1] []
  refine qa X0.here hx hby dj22_1_0 rfl rfl ?_
  obtain ⟨T1, X1, e1, st1⟩ := initO X0 hx hZ hown (ow hw 18 rfl) (ow hw 19 rfl) (ow hw 20 rfl) e0 (g := (mkF m 1 #[vr a1] [(.ref a1)])) rfl (by rw [hml]; rfl) rfl (hb hby dj22_1_1) (by decide) (W := 0) (by show 2 * 0 + _ ≤ _; exact Nat.le_of_eq rfl) (by decide)
  refine og st1 ?_
  show OG p e below _ T1 m 4 #[vr a1] []
  obtain ⟨fs, hr, hrun, hended, hW, hsame⟩ := X1.leave (v := none) (fun h => rfl)
  refine ⟨_, _, X1.returnOut hx Bd.returns (hb hby dj22_1_4) hr, hrun, hended, _, _, rfl, ?_, ⟨_, rfl⟩, hW, hsame.mono (by decide) (by decide)⟩
  show Q_iAC Z ku0 ku1 ku2 ku3 aDef aCac aEmp aMir kDef cCac a1 h0 n0 _ T1.heap _
  rw [e1]
  exact ⟨rfl, N0, rfl⟩
theorem dj71_1_0 : decode jdk_71_method_1_code 0 = .ok (.aload_n 0, 1) := by decide +kernel
theorem dj71_1_1 : decode jdk_71_method_1_code 1 = .ok (.invokespecial 1, 3) := by decide +kernel
theorem dj71_1_4 : decode jdk_71_method_1_code 4 = .ok (.return_, 1) := by decide +kernel
theorem pn_java_util_AbstractMap : plainName "java/util/AbstractMap" = true := by first | (simp [plainName, overriddenIn]; done) | decide +kernel
def Q_iAM (Z : State) (ku0 ku1 ku2 ku3 aDef aCac aEmp aMir : Addr) (kDef : ClassId) (cCac : Cell) (a1 : Addr) (h0 : Heap) (n0 : Nat) (v : Option Value) (h : Heap) (L : List Loc) : Prop := v = none ∧ Fr n0 L ∧ h = h0
theorem ef_iAM (m : MethodId) (x0 : Addr) : entryFrame m #[(.ref x0)] 1 = mkF m 0 #[vr x0] [] := by first | (simp [entryFrame, mkF, argsToLocals, Value.category]; done) | rfl
theorem rm_iAM (l : Launch) (Z : State) (a0 : Array Value) (hw : HW Z a0) (ws : List Jvm.Cond) (ku0 ku1 ku2 ku3 aDef aCac aEmp aMir : Addr) (kDef : ClassId) (cCac : Cell) (F0 : OwnFacts Z ku0 ku1 ku2 ku3 aDef aCac aEmp aMir kDef cCac) (a1 : Addr) (h0 : Heap) (n0 : Nat) (O0 : Old Z n0 h0) :
    MetFree l mn24 (head1 (Jvm.Cond.code mn24 jdk_71_method_1_code 1 none :: ws) (rk 1 0 0 12)) (fun a U => a = #[(.ref a1)] ∧ Z.Warmed39 U.vm ∧ U.heap = h0) (fun _ _ _ _ _ => True) (fun _ U o U' => ∃ v L, o = .returned v ∧ Q_iAM Z ku0 ku1 ku2 ku3 aDef aCac aEmp aMir kDef cCac a1 h0 n0 v U'.heap L ∧ FrameEnd U o U' L (rk 1 0 0 12).cells (rk 1 0 0 12).slots) := by
  refine MetFree.of_bodySF (plainFor_of_name pn_java_util_AbstractMap) hisR ?_
  intro p e s m args below meth c s₁ Bd hml0 hP hK
  obtain ⟨rfl, hZ, hh⟩ := hP
  have hx := Bd.exec
  have hby := Bd.bytes
  have hml : c.maxLocals = 1 := hml0
  have hown : s.vm.findClass "java/util/AbstractMap" = some m.cls := findClass_of_methodNamed Bd.named
  have hnm := (name_of_methodNamed Bd.named Bd.method).1
  have X0 : Stand p l e (rk 1 0 0 12) s m #[(.ref a1)] below meth c s₁ [] 0 0 := Stand.of_body Bd
  have e0 : s₁.heap = h0 := by rw [← hh, Bd.state]; rfl
  have N0 := Fr.nil n0
  refine og (Q := fun o U' => ∃ v L, o = .returned v ∧ Q_iAM Z ku0 ku1 ku2 ku3 aDef aCac aEmp aMir kDef cCac a1 h0 n0 v U'.heap L ∧ FrameEnd s o U' L (rk 1 0 0 12).cells (rk 1 0 0 12).slots) (fun t k => castTop (ef_iAM m a1) k) ?_
  show OG p e below _ s₁ m 0 #[vr a1] []
  refine qa X0.here hx hby dj71_1_0 rfl rfl ?_
  obtain ⟨T2, X2, e2, st2⟩ := initO X0 hx hZ hown (ow hw 236 rfl) (ow hw 19 rfl) (ow hw 20 rfl) e0 (g := (mkF m 1 #[vr a1] [(.ref a1)])) rfl (by rw [hml]; rfl) rfl (hb hby dj71_1_1) (by decide) (W := 0) (by show 2 * 0 + _ ≤ _; exact Nat.le_of_eq rfl) (by decide)
  refine og st2 ?_
  show OG p e below _ T2 m 4 #[vr a1] []
  obtain ⟨fs, hr, hrun, hended, hW, hsame⟩ := X2.leave (v := none) (fun h => rfl)
  refine ⟨_, _, X2.returnOut hx Bd.returns (hb hby dj71_1_4) hr, hrun, hended, _, _, rfl, ?_, ⟨_, rfl⟩, hW, hsame.mono (by decide) (by decide)⟩
  show Q_iAM Z ku0 ku1 ku2 ku3 aDef aCac aEmp aMir kDef cCac a1 h0 n0 _ T2.heap _
  rw [e2]
  exact ⟨rfl, N0, rfl⟩
theorem dj30_1_0 : decode jdk_30_method_1_code 0 = .ok (.aload_n 0, 1) := by decide +kernel
theorem dj30_1_1 : decode jdk_30_method_1_code 1 = .ok (.invokespecial 1, 3) := by decide +kernel
theorem dj30_1_4 : decode jdk_30_method_1_code 4 = .ok (.return_, 1) := by decide +kernel
theorem pn_java_lang_Record : plainName "java/lang/Record" = true := by first | (simp [plainName, overriddenIn]; done) | decide +kernel
def Q_iRec (Z : State) (ku0 ku1 ku2 ku3 aDef aCac aEmp aMir : Addr) (kDef : ClassId) (cCac : Cell) (a1 : Addr) (h0 : Heap) (n0 : Nat) (v : Option Value) (h : Heap) (L : List Loc) : Prop := v = none ∧ Fr n0 L ∧ h = h0
theorem ef_iRec (m : MethodId) (x0 : Addr) : entryFrame m #[(.ref x0)] 1 = mkF m 0 #[vr x0] [] := by first | (simp [entryFrame, mkF, argsToLocals, Value.category]; done) | rfl
theorem rm_iRec (l : Launch) (Z : State) (a0 : Array Value) (hw : HW Z a0) (ws : List Jvm.Cond) (ku0 ku1 ku2 ku3 aDef aCac aEmp aMir : Addr) (kDef : ClassId) (cCac : Cell) (F0 : OwnFacts Z ku0 ku1 ku2 ku3 aDef aCac aEmp aMir kDef cCac) (a1 : Addr) (h0 : Heap) (n0 : Nat) (O0 : Old Z n0 h0) :
    MetFree l mn21 (head1 (Jvm.Cond.code mn21 jdk_30_method_1_code 1 none :: ws) (rk 1 0 0 12)) (fun a U => a = #[(.ref a1)] ∧ Z.Warmed39 U.vm ∧ U.heap = h0) (fun _ _ _ _ _ => True) (fun _ U o U' => ∃ v L, o = .returned v ∧ Q_iRec Z ku0 ku1 ku2 ku3 aDef aCac aEmp aMir kDef cCac a1 h0 n0 v U'.heap L ∧ FrameEnd U o U' L (rk 1 0 0 12).cells (rk 1 0 0 12).slots) := by
  refine MetFree.of_bodySF (plainFor_of_name pn_java_lang_Record) hisR ?_
  intro p e s m args below meth c s₁ Bd hml0 hP hK
  obtain ⟨rfl, hZ, hh⟩ := hP
  have hx := Bd.exec
  have hby := Bd.bytes
  have hml : c.maxLocals = 1 := hml0
  have hown : s.vm.findClass "java/lang/Record" = some m.cls := findClass_of_methodNamed Bd.named
  have hnm := (name_of_methodNamed Bd.named Bd.method).1
  have X0 : Stand p l e (rk 1 0 0 12) s m #[(.ref a1)] below meth c s₁ [] 0 0 := Stand.of_body Bd
  have e0 : s₁.heap = h0 := by rw [← hh, Bd.state]; rfl
  have N0 := Fr.nil n0
  refine og (Q := fun o U' => ∃ v L, o = .returned v ∧ Q_iRec Z ku0 ku1 ku2 ku3 aDef aCac aEmp aMir kDef cCac a1 h0 n0 v U'.heap L ∧ FrameEnd s o U' L (rk 1 0 0 12).cells (rk 1 0 0 12).slots) (fun t k => castTop (ef_iRec m a1) k) ?_
  show OG p e below _ s₁ m 0 #[vr a1] []
  refine qa X0.here hx hby dj30_1_0 rfl rfl ?_
  obtain ⟨T3, X3, e3, st3⟩ := initO X0 hx hZ hown (ow hw 91 rfl) (ow hw 19 rfl) (ow hw 20 rfl) e0 (g := (mkF m 1 #[vr a1] [(.ref a1)])) rfl (by rw [hml]; rfl) rfl (hb hby dj30_1_1) (by decide) (W := 0) (by show 2 * 0 + _ ≤ _; exact Nat.le_of_eq rfl) (by decide)
  refine og st3 ?_
  show OG p e below _ T3 m 4 #[vr a1] []
  obtain ⟨fs, hr, hrun, hended, hW, hsame⟩ := X3.leave (v := none) (fun h => rfl)
  refine ⟨_, _, X3.returnOut hx Bd.returns (hb hby dj30_1_4) hr, hrun, hended, _, _, rfl, ?_, ⟨_, rfl⟩, hW, hsame.mono (by decide) (by decide)⟩
  show Q_iRec Z ku0 ku1 ku2 ku3 aDef aCac aEmp aMir kDef cCac a1 h0 n0 _ T3.heap _
  rw [e3]
  exact ⟨rfl, N0, rfl⟩
theorem dj47_1_0 : decode jdk_47_method_1_code 0 = .ok (.aload_n 0, 1) := by decide +kernel
theorem dj47_1_1 : decode jdk_47_method_1_code 1 = .ok (.invokespecial 1, 3) := by decide +kernel
theorem pd___V : parseMethodDescriptor "()V" = some ⟨[], none⟩ := by decide +kernel
theorem dj47_1_4 : decode jdk_47_method_1_code 4 = .ok (.return_, 1) := by decide +kernel
theorem pn_java_util_ImmutableCollections_AbstractImmutableCollection : plainName "java/util/ImmutableCollections$AbstractImmutableCollection" = true := by first | (simp [plainName, overriddenIn]; done) | decide +kernel
def Q_iAIC (Z : State) (ku0 ku1 ku2 ku3 aDef aCac aEmp aMir : Addr) (kDef : ClassId) (cCac : Cell) (a1 : Addr) (h0 : Heap) (n0 : Nat) (v : Option Value) (h : Heap) (L : List Loc) : Prop := v = none ∧ Fr n0 L ∧ h = h0
theorem ef_iAIC (m : MethodId) (x0 : Addr) : entryFrame m #[(.ref x0)] 1 = mkF m 0 #[vr x0] [] := by first | (simp [entryFrame, mkF, argsToLocals, Value.category]; done) | rfl
theorem rm_iAIC (l : Launch) (Z : State) (a0 : Array Value) (hw : HW Z a0) (ws : List Jvm.Cond) (ku0 ku1 ku2 ku3 aDef aCac aEmp aMir : Addr) (kDef : ClassId) (cCac : Cell) (F0 : OwnFacts Z ku0 ku1 ku2 ku3 aDef aCac aEmp aMir kDef cCac) (a1 : Addr) (h0 : Heap) (n0 : Nat) (O0 : Old Z n0 h0) :
    MetFree l mn39 (head1 (Jvm.Cond.code mn39 jdk_47_method_1_code 1 none :: ws) (rk 2 0 0 24)) (fun a U => a = #[(.ref a1)] ∧ Z.Warmed39 U.vm ∧ U.heap = h0) (fun _ _ _ _ _ => True) (fun _ U o U' => ∃ v L, o = .returned v ∧ Q_iAIC Z ku0 ku1 ku2 ku3 aDef aCac aEmp aMir kDef cCac a1 h0 n0 v U'.heap L ∧ FrameEnd U o U' L (rk 2 0 0 24).cells (rk 2 0 0 24).slots) := by
  refine MetFree.of_bodySF (plainFor_of_name pn_java_util_ImmutableCollections_AbstractImmutableCollection) hisR ?_
  intro p e s m args below meth c s₁ Bd hml0 hP hK
  obtain ⟨rfl, hZ, hh⟩ := hP
  have hx := Bd.exec
  have hby := Bd.bytes
  have hml : c.maxLocals = 1 := hml0
  have hown : s.vm.findClass "java/util/ImmutableCollections$AbstractImmutableCollection" = some m.cls := findClass_of_methodNamed Bd.named
  have hnm := (name_of_methodNamed Bd.named Bd.method).1
  have X0 : Stand p l e (rk 2 0 0 24) s m #[(.ref a1)] below meth c s₁ [] 0 0 := Stand.of_body Bd
  have e0 : s₁.heap = h0 := by rw [← hh, Bd.state]; rfl
  have N0 := Fr.nil n0
  refine og (Q := fun o U' => ∃ v L, o = .returned v ∧ Q_iAIC Z ku0 ku1 ku2 ku3 aDef aCac aEmp aMir kDef cCac a1 h0 n0 v U'.heap L ∧ FrameEnd s o U' L (rk 2 0 0 24).cells (rk 2 0 0 24).slots) (fun t k => castTop (ef_iAIC m a1) k) ?_
  show OG p e below _ s₁ m 0 #[vr a1] []
  refine qa X0.here hx hby dj47_1_0 rfl rfl ?_
  obtain ⟨_, _, ⟨T4, L4, k4, n4⟩, -, X4, ⟨Lc4, hQ4, l4, y4, z4⟩, st4⟩ := X0.specialBack hx (y := mn22) rfl hown (mvT hZ (ow hw 165 rfl)) (mvT hZ (ow hw 13 rfl)) (mvT hZ (ow hw 17 rfl)) (by decide) (backOf (W := 0) (rm_iAC l Z a0 hw [] ku0 ku1 ku2 ku3 aDef aCac aEmp aMir kDef cCac F0 a1 h0 n0 O0) hZ (ow hw 17 rfl) (ow hw 16 rfl) (by decide) (by decide)) (g := (mkF m 1 #[vr a1] [(.ref a1)])) rfl (by rw [hml]; rfl) (Steps.refl _) (a := a1) (argsL := []) (rest := []) (lenOf pd___V rfl) rfl (by show 2 * 0 + _ ≤ _; exact Nat.le_of_eq rfl) (hb hby dj47_1_1) (fun _ _ => ⟨rfl, e0, (by decide : 0 + 0 ≤ _), (by decide : 0 + 0 ≤ _)⟩)
  dsimp only [Pt.U, Pt.locs, Pt.cells, Pt.slots] at X4 l4 y4 z4 st4 hQ4
  subst l4 y4 z4
  obtain ⟨rfl, Nq4, K4⟩ := hQ4
  obtain ⟨L4, X4, N4⟩ := pk X4 (Fr.app N0 Nq4)
  refine og (fun _ k => st4.trans k) ?_
  show OG p e below _ T4 m 4 #[vr a1] []
  obtain ⟨fs, hr, hrun, hended, hW, hsame⟩ := X4.leave (v := none) (fun h => rfl)
  refine ⟨_, _, X4.returnOut hx Bd.returns (hb hby dj47_1_4) hr, hrun, hended, _, _, rfl, ?_, ⟨_, rfl⟩, hW, hsame.mono (by decide) (by decide)⟩
  show Q_iAIC Z ku0 ku1 ku2 ku3 aDef aCac aEmp aMir kDef cCac a1 h0 n0 _ T4.heap _
  rw [K4]
  exact ⟨rfl, N4, rfl⟩
theorem dj46_1_0 : decode jdk_46_method_1_code 0 = .ok (.aload_n 0, 1) := by decide +kernel
theorem dj46_1_1 : decode jdk_46_method_1_code 1 = .ok (.invokespecial 1, 3) := by decide +kernel
theorem dj46_1_4 : decode jdk_46_method_1_code 4 = .ok (.return_, 1) := by decide +kernel
theorem pn_java_util_ImmutableCollections_AbstractImmutableList : plainName "java/util/ImmutableCollections$AbstractImmutableList" = true := by first | (simp [plainName, overriddenIn]; done) | decide +kernel
def Q_iAIL (Z : State) (ku0 ku1 ku2 ku3 aDef aCac aEmp aMir : Addr) (kDef : ClassId) (cCac : Cell) (a1 : Addr) (h0 : Heap) (n0 : Nat) (v : Option Value) (h : Heap) (L : List Loc) : Prop := v = none ∧ Fr n0 L ∧ h = h0
theorem ef_iAIL (m : MethodId) (x0 : Addr) : entryFrame m #[(.ref x0)] 1 = mkF m 0 #[vr x0] [] := by first | (simp [entryFrame, mkF, argsToLocals, Value.category]; done) | rfl
theorem rm_iAIL (l : Launch) (Z : State) (a0 : Array Value) (hw : HW Z a0) (ws : List Jvm.Cond) (ku0 ku1 ku2 ku3 aDef aCac aEmp aMir : Addr) (kDef : ClassId) (cCac : Cell) (F0 : OwnFacts Z ku0 ku1 ku2 ku3 aDef aCac aEmp aMir kDef cCac) (a1 : Addr) (h0 : Heap) (n0 : Nat) (O0 : Old Z n0 h0) :
    MetFree l mn40 (head1 (Jvm.Cond.code mn40 jdk_46_method_1_code 1 none :: ws) (rk 3 0 0 36)) (fun a U => a = #[(.ref a1)] ∧ Z.Warmed39 U.vm ∧ U.heap = h0) (fun _ _ _ _ _ => True) (fun _ U o U' => ∃ v L, o = .returned v ∧ Q_iAIL Z ku0 ku1 ku2 ku3 aDef aCac aEmp aMir kDef cCac a1 h0 n0 v U'.heap L ∧ FrameEnd U o U' L (rk 3 0 0 36).cells (rk 3 0 0 36).slots) := by
  refine MetFree.of_bodySF (plainFor_of_name pn_java_util_ImmutableCollections_AbstractImmutableList) hisR ?_
  intro p e s m args below meth c s₁ Bd hml0 hP hK
  obtain ⟨rfl, hZ, hh⟩ := hP
  have hx := Bd.exec
  have hby := Bd.bytes
  have hml : c.maxLocals = 1 := hml0
  have hown : s.vm.findClass "java/util/ImmutableCollections$AbstractImmutableList" = some m.cls := findClass_of_methodNamed Bd.named
  have hnm := (name_of_methodNamed Bd.named Bd.method).1
  have X0 : Stand p l e (rk 3 0 0 36) s m #[(.ref a1)] below meth c s₁ [] 0 0 := Stand.of_body Bd
  have e0 : s₁.heap = h0 := by rw [← hh, Bd.state]; rfl
  have N0 := Fr.nil n0
  refine og (Q := fun o U' => ∃ v L, o = .returned v ∧ Q_iAIL Z ku0 ku1 ku2 ku3 aDef aCac aEmp aMir kDef cCac a1 h0 n0 v U'.heap L ∧ FrameEnd s o U' L (rk 3 0 0 36).cells (rk 3 0 0 36).slots) (fun t k => castTop (ef_iAIL m a1) k) ?_
  show OG p e below _ s₁ m 0 #[vr a1] []
  refine qa X0.here hx hby dj46_1_0 rfl rfl ?_
  obtain ⟨_, _, ⟨T5, L5, k5, n5⟩, -, X5, ⟨Lc5, hQ5, l5, y5, z5⟩, st5⟩ := X0.specialBack hx (y := mn39) rfl hown (mvT hZ (ow hw 159 rfl)) (mvT hZ (ow hw 160 rfl)) (mvT hZ (ow hw 164 rfl)) (by decide) (backOf (W := 0) (rm_iAIC l Z a0 hw [] ku0 ku1 ku2 ku3 aDef aCac aEmp aMir kDef cCac F0 a1 h0 n0 O0) hZ (ow hw 164 rfl) (ow hw 163 rfl) (by decide) (by decide)) (g := (mkF m 1 #[vr a1] [(.ref a1)])) rfl (by rw [hml]; rfl) (Steps.refl _) (a := a1) (argsL := []) (rest := []) (lenOf pd___V rfl) rfl (by show 2 * 0 + _ ≤ _; exact Nat.le_of_eq rfl) (hb hby dj46_1_1) (fun _ _ => ⟨rfl, e0, (by decide : 0 + 0 ≤ _), (by decide : 0 + 0 ≤ _)⟩)
  dsimp only [Pt.U, Pt.locs, Pt.cells, Pt.slots] at X5 l5 y5 z5 st5 hQ5
  subst l5 y5 z5
  obtain ⟨rfl, Nq5, K5⟩ := hQ5
  obtain ⟨L5, X5, N5⟩ := pk X5 (Fr.app N0 Nq5)
  refine og (fun _ k => st5.trans k) ?_
  show OG p e below _ T5 m 4 #[vr a1] []
  obtain ⟨fs, hr, hrun, hended, hW, hsame⟩ := X5.leave (v := none) (fun h => rfl)
  refine ⟨_, _, X5.returnOut hx Bd.returns (hb hby dj46_1_4) hr, hrun, hended, _, _, rfl, ?_, ⟨_, rfl⟩, hW, hsame.mono (by decide) (by decide)⟩
  show Q_iAIL Z ku0 ku1 ku2 ku3 aDef aCac aEmp aMir kDef cCac a1 h0 n0 _ T5.heap _
  rw [K5]
  exact ⟨rfl, N5, rfl⟩
theorem dj39_1_0 : decode jdk_39_method_1_code 0 = .ok (.aload_n 0, 1) := by decide +kernel
theorem dj39_1_1 : decode jdk_39_method_1_code 1 = .ok (.invokespecial 1, 3) := by decide +kernel
theorem dj39_1_4 : decode jdk_39_method_1_code 4 = .ok (.aload_n 0, 1) := by decide +kernel
theorem dj39_1_5 : decode jdk_39_method_1_code 5 = .ok (.iconst 0, 1) := by decide +kernel
theorem dj39_1_6 : decode jdk_39_method_1_code 6 = .ok (.putfield 7, 3) := by decide +kernel
theorem dj39_1_9 : decode jdk_39_method_1_code 9 = .ok (.return_, 1) := by decide +kernel
theorem lp_0 {Z : State} {a0 : Array Value} (hw : HW Z a0) : LP Z a0 "java/util/ArrayList" "java/util/ArrayList" "elementData" "[Ljava/lang/Object;" := ⟨(Or.inl (ow hw 25 rfl)), (.array (.object "java/lang/Object")), by decide⟩
theorem lp_1 {Z : State} {a0 : Array Value} (hw : HW Z a0) : LP Z a0 "java/util/ArrayList" "java/util/AbstractList" "modCount" "I" := ⟨(Or.inl (ow hw 22 rfl)), .int, by decide⟩
theorem lp_2 {Z : State} {a0 : Array Value} (hw : HW Z a0) : LP Z a0 "java/util/ArrayList" "java/util/ArrayList" "size" "I" := ⟨(Or.inl (ow hw 41 rfl)), .int, by decide⟩
theorem pn_java_util_AbstractList : plainName "java/util/AbstractList" = true := by first | (simp [plainName, overriddenIn]; done) | decide +kernel
def Q_iABL (Z : State) (ku0 ku1 ku2 ku3 aDef aCac aEmp aMir : Addr) (kDef : ClassId) (cCac : Cell) (a1 : Addr) (h0 : Heap) (n0 : Nat) (v : Option Value) (h : Heap) (L : List Loc) : Prop := v = none ∧ Fr n0 L ∧ Keep h0 h [a1] ∧ Fld Z h a1 "java/util/AbstractList" "modCount" "I" (.int 0) ∧ Fld Z h a1 "java/util/ArrayList" "elementData" "[Ljava/lang/Object;" .null ∧ Fld Z h a1 "java/util/ArrayList" "size" "I" (.int 0)
theorem ef_iABL (m : MethodId) (x0 : Addr) : entryFrame m #[(.ref x0)] 1 = mkF m 0 #[vr x0] [] := by first | (simp [entryFrame, mkF, argsToLocals, Value.category]; done) | rfl
theorem rm_iABL (l : Launch) (Z : State) (a0 : Array Value) (hw : HW Z a0) (ws : List Jvm.Cond) (ku0 ku1 ku2 ku3 aDef aCac aEmp aMir : Addr) (kDef : ClassId) (cCac : Cell) (F0 : OwnFacts Z ku0 ku1 ku2 ku3 aDef aCac aEmp aMir kDef cCac) (a1 : Addr) (h0 : Heap) (n0 : Nat) (O0 : Old Z n0 h0) (PQ1 : Exa Z h0 a1 "java/util/ArrayList") (PQ2 : Fld Z h0 a1 "java/util/AbstractList" "modCount" "I" (.int 0)) (PQ3 : Fld Z h0 a1 "java/util/ArrayList" "elementData" "[Ljava/lang/Object;" .null) (PQ4 : Fld Z h0 a1 "java/util/ArrayList" "size" "I" (.int 0)) (PQ5 : n0 ≤ a1) :
    MetFree l mn23 (head1 (Jvm.Cond.code mn23 jdk_39_method_1_code 1 none :: ws) (rk 2 0 0 24)) (fun a U => a = #[(.ref a1)] ∧ Z.Warmed39 U.vm ∧ U.heap = h0) (fun _ _ _ _ _ => True) (fun _ U o U' => ∃ v L, o = .returned v ∧ Q_iABL Z ku0 ku1 ku2 ku3 aDef aCac aEmp aMir kDef cCac a1 h0 n0 v U'.heap L ∧ FrameEnd U o U' L (rk 2 0 0 24).cells (rk 2 0 0 24).slots) := by
  refine MetFree.of_bodySF (plainFor_of_name pn_java_util_AbstractList) hisR ?_
  intro p e s m args below meth c s₁ Bd hml0 hP hK
  obtain ⟨rfl, hZ, hh⟩ := hP
  have hx := Bd.exec
  have hby := Bd.bytes
  have hml : c.maxLocals = 1 := hml0
  have hown : s.vm.findClass "java/util/AbstractList" = some m.cls := findClass_of_methodNamed Bd.named
  have hnm := (name_of_methodNamed Bd.named Bd.method).1
  have X0 : Stand p l e (rk 2 0 0 24) s m #[(.ref a1)] below meth c s₁ [] 0 0 := Stand.of_body Bd
  have e0 : s₁.heap = h0 := by rw [← hh, Bd.state]; rfl
  have N0 := Fr.nil n0
  refine og (Q := fun o U' => ∃ v L, o = .returned v ∧ Q_iABL Z ku0 ku1 ku2 ku3 aDef aCac aEmp aMir kDef cCac a1 h0 n0 v U'.heap L ∧ FrameEnd s o U' L (rk 2 0 0 24).cells (rk 2 0 0 24).slots) (fun t k => castTop (ef_iABL m a1) k) ?_
  show OG p e below _ s₁ m 0 #[vr a1] []
  refine qa X0.here hx hby dj39_1_0 rfl rfl ?_
  obtain ⟨_, _, ⟨T6, L6, k6, n6⟩, -, X6, ⟨Lc6, hQ6, l6, y6, z6⟩, st6⟩ := X0.specialBack hx (y := mn22) rfl hown (mvT hZ (ow hw 12 rfl)) (mvT hZ (ow hw 13 rfl)) (mvT hZ (ow hw 17 rfl)) (by decide) (backOf (W := 0) (rm_iAC l Z a0 hw [] ku0 ku1 ku2 ku3 aDef aCac aEmp aMir kDef cCac F0 a1 h0 n0 O0) hZ (ow hw 17 rfl) (ow hw 16 rfl) (by decide) (by decide)) (g := (mkF m 1 #[vr a1] [(.ref a1)])) rfl (by rw [hml]; rfl) (Steps.refl _) (a := a1) (argsL := []) (rest := []) (lenOf pd___V rfl) rfl (by show 2 * 0 + _ ≤ _; exact Nat.le_of_eq rfl) (hb hby dj39_1_1) (fun _ _ => ⟨rfl, e0, (by decide : 0 + 0 ≤ _), (by decide : 0 + 0 ≤ _)⟩)
  dsimp only [Pt.U, Pt.locs, Pt.cells, Pt.slots] at X6 l6 y6 z6 st6 hQ6
  subst l6 y6 z6
  obtain ⟨rfl, Nq6, K6⟩ := hQ6
  obtain ⟨L6, X6, N6⟩ := pk X6 (Fr.app N0 Nq6)
  refine og (fun _ k => st6.trans k) ?_
  show OG p e below _ T6 m 4 #[vr a1] []
  refine qa X6.here hx hby dj39_1_4 rfl rfl ?_
  refine qc X6.here hx hby dj39_1_5 ?_
  obtain ⟨T7, h7, X7, e7, W7, st7⟩ := putF X6 hx hZ hown (host := "") (Or.inl (ow hw 21 rfl)) Via.refl K6 PQ2 PQ1 (Or.inl (ow hw 22 rfl)) (ow hw 1 rfl) (ty := .int) (by decide) rfl rfl (g := (mkF m 6 #[vr a1] [(.int 0), (.ref a1)])) rfl rfl (hb hby dj39_1_6)
  obtain ⟨L7, X7, N7⟩ := pk X7 (Fr.snoc X7 N6 PQ5)
  have O7 := O0.wr W7 PQ5
  have z8 := Nat.le_trans (Nat.le_refl _) (Nat.le_of_eq W7.size.symm)
  have F7 : Fld Z h7 a1 "java/util/AbstractList" "modCount" "I" (.int 0) := PQ2.same W7
  refine og st7 ?_
  show OG p e below _ T7 m 9 #[vr a1] []
  obtain ⟨fs, hr, hrun, hended, hW, hsame⟩ := X7.leave (v := none) (fun h => rfl)
  refine ⟨_, _, X7.returnOut hx Bd.returns (hb hby dj39_1_9) hr, hrun, hended, _, _, rfl, ?_, ⟨_, rfl⟩, hW, hsame.mono (by decide) (by decide)⟩
  show Q_iABL Z ku0 ku1 ku2 ku3 aDef aCac aEmp aMir kDef cCac a1 h0 n0 _ T7.heap _
  rw [e7]
  have F9 := (oo W7 PQ3 (lp_0 hw) (lp_1 hw) (by decide))
  have F10 := (oo W7 PQ4 (lp_2 hw) (lp_1 hw) (by decide))
  exact ⟨rfl, N7, ((Keep.refl _ [a1]).wr W7 (om 0 rfl)), F7, F9, F10⟩
theorem dj38_2_0 : decode jdk_38_method_2_code 0 = .ok (.aload_n 0, 1) := by decide +kernel
theorem dj38_2_1 : decode jdk_38_method_2_code 1 = .ok (.invokespecial 1, 3) := by decide +kernel
theorem dj38_2_4 : decode jdk_38_method_2_code 4 = .ok (.aload_n 0, 1) := by decide +kernel
theorem dj38_2_5 : decode jdk_38_method_2_code 5 = .ok (.getstatic 39, 3) := by decide +kernel
theorem dj38_2_8 : decode jdk_38_method_2_code 8 = .ok (.putfield 9, 3) := by decide +kernel
theorem dj38_2_11 : decode jdk_38_method_2_code 11 = .ok (.return_, 1) := by decide +kernel
theorem pn_java_util_ArrayList : plainName "java/util/ArrayList" = true := by first | (simp [plainName, overriddenIn]; done) | decide +kernel
def Q_iAL (Z : State) (ku0 ku1 ku2 ku3 aDef aCac aEmp aMir : Addr) (kDef : ClassId) (cCac : Cell) (a1 : Addr) (h0 : Heap) (n0 : Nat) (v : Option Value) (h : Heap) (L : List Loc) : Prop := v = none ∧ Fr n0 L ∧ Keep h0 h [a1] ∧ Fld Z h a1 "java/util/AbstractList" "modCount" "I" (.int 0) ∧ Fld Z h a1 "java/util/ArrayList" "elementData" "[Ljava/lang/Object;" (.ref aDef) ∧ Fld Z h a1 "java/util/ArrayList" "size" "I" (.int 0)
theorem ef_iAL (m : MethodId) (x0 : Addr) : entryFrame m #[(.ref x0)] 1 = mkF m 0 #[vr x0] [] := by first | (simp [entryFrame, mkF, argsToLocals, Value.category]; done) | rfl
theorem rm_iAL (l : Launch) (Z : State) (a0 : Array Value) (hw : HW Z a0) (ws : List Jvm.Cond) (ku0 ku1 ku2 ku3 aDef aCac aEmp aMir : Addr) (kDef : ClassId) (cCac : Cell) (F0 : OwnFacts Z ku0 ku1 ku2 ku3 aDef aCac aEmp aMir kDef cCac) (a1 : Addr) (h0 : Heap) (n0 : Nat) (O0 : Old Z n0 h0) (PQ6 : Exa Z h0 a1 "java/util/ArrayList") (PQ7 : Fld Z h0 a1 "java/util/AbstractList" "modCount" "I" (.int 0)) (PQ8 : Fld Z h0 a1 "java/util/ArrayList" "elementData" "[Ljava/lang/Object;" .null) (PQ9 : Fld Z h0 a1 "java/util/ArrayList" "size" "I" (.int 0)) (PQ10 : n0 ≤ a1) :
    MetFree l mn25 (head1 (Jvm.Cond.code mn25 jdk_38_method_2_code 1 none :: ws) (rk 3 0 0 36)) (fun a U => a = #[(.ref a1)] ∧ Z.Warmed39 U.vm ∧ U.heap = h0) (fun _ _ _ _ _ => True) (fun _ U o U' => ∃ v L, o = .returned v ∧ Q_iAL Z ku0 ku1 ku2 ku3 aDef aCac aEmp aMir kDef cCac a1 h0 n0 v U'.heap L ∧ FrameEnd U o U' L (rk 3 0 0 36).cells (rk 3 0 0 36).slots) := by
  refine MetFree.of_bodySF (plainFor_of_name pn_java_util_ArrayList) hisR ?_
  intro p e s m args below meth c s₁ Bd hml0 hP hK
  obtain ⟨rfl, hZ, hh⟩ := hP
  have hx := Bd.exec
  have hby := Bd.bytes
  have hml : c.maxLocals = 1 := hml0
  have hown : s.vm.findClass "java/util/ArrayList" = some m.cls := findClass_of_methodNamed Bd.named
  have hnm := (name_of_methodNamed Bd.named Bd.method).1
  have X0 : Stand p l e (rk 3 0 0 36) s m #[(.ref a1)] below meth c s₁ [] 0 0 := Stand.of_body Bd
  have e0 : s₁.heap = h0 := by rw [← hh, Bd.state]; rfl
  have N0 := Fr.nil n0
  refine og (Q := fun o U' => ∃ v L, o = .returned v ∧ Q_iAL Z ku0 ku1 ku2 ku3 aDef aCac aEmp aMir kDef cCac a1 h0 n0 v U'.heap L ∧ FrameEnd s o U' L (rk 3 0 0 36).cells (rk 3 0 0 36).slots) (fun t k => castTop (ef_iAL m a1) k) ?_
  show OG p e below _ s₁ m 0 #[vr a1] []
  refine qa X0.here hx hby dj38_2_0 rfl rfl ?_
  obtain ⟨_, _, ⟨T11, L11, k11, n11⟩, -, X11, ⟨Lc11, hQ11, l11, y11, z11⟩, st11⟩ := X0.specialBack hx (y := mn23) rfl hown (mvT hZ (ow hw 6 rfl)) (mvT hZ (ow hw 7 rfl)) (mvT hZ (ow hw 11 rfl)) (by decide) (backOf (W := 0) (rm_iABL l Z a0 hw [] ku0 ku1 ku2 ku3 aDef aCac aEmp aMir kDef cCac F0 a1 h0 n0 O0 PQ6 PQ7 PQ8 PQ9 PQ10) hZ (ow hw 11 rfl) (ow hw 10 rfl) (by decide) (by decide)) (g := (mkF m 1 #[vr a1] [(.ref a1)])) rfl (by rw [hml]; rfl) (Steps.refl _) (a := a1) (argsL := []) (rest := []) (lenOf pd___V rfl) rfl (by show 2 * 0 + _ ≤ _; exact Nat.le_of_eq rfl) (hb hby dj38_2_1) (fun _ _ => ⟨rfl, e0, (by decide : 0 + 0 ≤ _), (by decide : 0 + 0 ≤ _)⟩)
  dsimp only [Pt.U, Pt.locs, Pt.cells, Pt.slots] at X11 l11 y11 z11 st11 hQ11
  subst l11 y11 z11
  obtain ⟨rfl, Nq11, K11, x11_0, x11_1, x11_2⟩ := hQ11
  obtain ⟨L11, X11, N11⟩ := pk X11 (Fr.app N0 Nq11)
  have O11 := O0.keep K11 (allS PQ10 all0)
  have e11 : T11.heap = T11.heap := rfl
  have z12 := Nat.le_trans (Nat.le_refl _) K11.1
  refine og (fun _ k => st11.trans k) ?_
  show OG p e below _ T11 m 4 #[vr a1] []
  refine qa X11.here hx hby dj38_2_4 rfl rfl ?_
  obtain ⟨T13, X13, e13, st13⟩ := getS X11 hx hZ hown (host := "") (ow hw 23 rfl) Via.refl e11 (F0.2.2.2.2.2.2.2.2.2.2.2.2.1.ext O11.2) (g := (mkF m 5 #[vr a1] [(.ref a1)])) rfl (hb hby dj38_2_5)
  refine og st13 ?_
  show OG p e below _ T13 m 8 #[vr a1] [(.ref aDef), (.ref a1)]
  have F15 := (PQ6.keep K11)
  obtain ⟨T14, h14, X14, e14, W14, st14⟩ := putF X13 hx hZ hown (host := "") (Or.inl (ow hw 24 rfl)) Via.refl e13 x11_1 F15 (Or.inl (ow hw 25 rfl)) (ow hw 1 rfl) (ty := (.array (.object "java/lang/Object"))) (by decide) rfl rfl (g := (mkF m 8 #[vr a1] [(.ref aDef), (.ref a1)])) rfl rfl (hb hby dj38_2_8)
  obtain ⟨L14, X14, N14⟩ := pk X14 (Fr.snoc X14 N11 PQ10)
  have O14 := O11.wr W14 PQ10
  have z16 := Nat.le_trans z12 (Nat.le_of_eq W14.size.symm)
  have F14 : Fld Z h14 a1 "java/util/ArrayList" "elementData" "[Ljava/lang/Object;" (.ref aDef) := x11_1.same W14
  refine og st14 ?_
  show OG p e below _ T14 m 11 #[vr a1] []
  obtain ⟨fs, hr, hrun, hended, hW, hsame⟩ := X14.leave (v := none) (fun h => rfl)
  refine ⟨_, _, X14.returnOut hx Bd.returns (hb hby dj38_2_11) hr, hrun, hended, _, _, rfl, ?_, ⟨_, rfl⟩, hW, hsame.mono (by decide) (by decide)⟩
  show Q_iAL Z ku0 ku1 ku2 ku3 aDef aCac aEmp aMir kDef cCac a1 h0 n0 _ T14.heap _
  rw [e14]
  have F17 := (oo W14 x11_0 (lp_1 hw) (lp_0 hw) (by decide))
  have F18 := (oo W14 x11_2 (lp_2 hw) (lp_0 hw) (by decide))
  exact ⟨rfl, N14, (((Keep.refl _ [a1]).trans K11 (aS (om 0 rfl) all0)).wr W14 (om 0 rfl)), F17, F14, F18⟩
theorem dj33_22_0 : decode jdk_33_method_22_code 0 = .ok (.iload_n 0, 1) := by decide +kernel
theorem dj33_22_1 : decode jdk_33_method_22_code 1 = .ok (.bipush (-128), 2) := by decide +kernel
theorem dj33_22_3 : decode jdk_33_method_22_code 3 = .ok (.if_icmp .lt 20, 3) := by decide +kernel
theorem dj33_22_6 : decode jdk_33_method_22_code 6 = .ok (.iload_n 0, 1) := by decide +kernel
theorem dj33_22_7 : decode jdk_33_method_22_code 7 = .ok (.getstatic 191, 3) := by decide +kernel
theorem dj33_22_10 : decode jdk_33_method_22_code 10 = .ok (.if_icmp .gt 13, 3) := by decide +kernel
theorem dj33_22_13 : decode jdk_33_method_22_code 13 = .ok (.getstatic 195, 3) := by decide +kernel
theorem dj33_22_16 : decode jdk_33_method_22_code 16 = .ok (.iload_n 0, 1) := by decide +kernel
theorem dj33_22_17 : decode jdk_33_method_22_code 17 = .ok (.sipush 128, 3) := by decide +kernel
theorem dj33_22_20 : decode jdk_33_method_22_code 20 = .ok (.iadd, 1) := by decide +kernel
theorem dj33_22_21 : decode jdk_33_method_22_code 21 = .ok (.aaload, 1) := by decide +kernel
theorem dj33_22_22 : decode jdk_33_method_22_code 22 = .ok (.areturn, 1) := by decide +kernel
theorem pn_java_lang_Integer : plainName "java/lang/Integer" = true := by first | (simp [plainName, overriddenIn]; done) | decide +kernel
def Q_vo0 (Z : State) (ku0 ku1 ku2 ku3 aDef aCac aEmp aMir : Addr) (kDef : ClassId) (cCac : Cell) (h0 : Heap) (n0 : Nat) (v : Option Value) (h : Heap) (L : List Loc) : Prop := ∃ (r9 : Addr), v = some (.ref r9) ∧ Fr n0 L ∧ h = h0 ∧ Exa Z h r9 "java/lang/Integer" ∧ r9 < Z.heap.size
theorem ef_vo0 (m : MethodId) (x0 : Int32) : entryFrame m #[(.int x0)] 1 = mkF m 0 #[vi x0] [] := by first | (simp [entryFrame, mkF, argsToLocals, Value.category]; done) | rfl
theorem rm_vo0 (l : Launch) (Z : State) (a0 : Array Value) (hw : HW Z a0) (ws : List Jvm.Cond) (ku0 ku1 ku2 ku3 aDef aCac aEmp aMir : Addr) (kDef : ClassId) (cCac : Cell) (F0 : OwnFacts Z ku0 ku1 ku2 ku3 aDef aCac aEmp aMir kDef cCac) (h0 : Heap) (n0 : Nat) (O0 : Old Z n0 h0) :
    MetFree l mn18 (head1 (Jvm.Cond.code mn18 jdk_33_method_22_code 1 (some (.object "java/lang/Integer")) :: ws) (rk 0 0 0 0)) (fun a U => a = #[(.int 0)] ∧ Z.Warmed39 U.vm ∧ U.heap = h0) (fun _ _ _ _ _ => True) (fun _ U o U' => ∃ v L, o = .returned v ∧ Q_vo0 Z ku0 ku1 ku2 ku3 aDef aCac aEmp aMir kDef cCac h0 n0 v U'.heap L ∧ FrameEnd U o U' L (rk 0 0 0 0).cells (rk 0 0 0 0).slots) := by
  refine MetFree.of_bodySF (plainFor_of_name pn_java_lang_Integer) hisR ?_
  intro p e s m args below meth c s₁ Bd hml0 hP hK
  obtain ⟨rfl, hZ, hh⟩ := hP
  have hx := Bd.exec
  have hby := Bd.bytes
  have hml : c.maxLocals = 1 := hml0
  have hown : s.vm.findClass "java/lang/Integer" = some m.cls := findClass_of_methodNamed Bd.named
  have hnm := (name_of_methodNamed Bd.named Bd.method).1
  have X0 : Stand p l e (rk 0 0 0 0) s m #[(.int 0)] below meth c s₁ [] 0 0 := Stand.of_body Bd
  have e0 : s₁.heap = h0 := by rw [← hh, Bd.state]; rfl
  have N0 := Fr.nil n0
  refine og (Q := fun o U' => ∃ v L, o = .returned v ∧ Q_vo0 Z ku0 ku1 ku2 ku3 aDef aCac aEmp aMir kDef cCac h0 n0 v U'.heap L ∧ FrameEnd s o U' L (rk 0 0 0 0).cells (rk 0 0 0 0).slots) (fun t k => castTop (ef_vo0 m (0 : Int32)) k) ?_
  show OG p e below _ s₁ m 0 #[vi 0] []
  refine qj X0.here hx hby dj33_22_0 rfl ?_
  refine qp X0.here hx hby dj33_22_1 ?_
  refine og (fun _ k => XS.icmpNo X0.here hx rfl (hb hby dj33_22_3) rfl (by decide) k) ?_
  show OG p e below _ s₁ m 6 #[vi 0] []
  refine qj X0.here hx hby dj33_22_6 rfl ?_
  obtain ⟨T19, X19, e19, st19⟩ := getS X0 hx hZ hown (host := "") (ow hw 30 rfl) Via.refl e0 (F0.2.2.2.2.2.2.2.2.2.2.2.2.2.2.2.1.ext O0.2) (g := (mkF m 7 #[vi 0] [(.int 0)])) rfl (hb hby dj33_22_7)
  refine og st19 ?_
  show OG p e below _ T19 m 10 #[vi 0] [(.int 127), (.int 0)]
  refine og (fun _ k => XS.icmpNo X19.here hx rfl (hb hby dj33_22_10) rfl (by decide) k) ?_
  show OG p e below _ T19 m 13 #[vi 0] []
  obtain ⟨T20, X20, e20, st20⟩ := getS X19 hx hZ hown (host := "") (ow hw 32 rfl) Via.refl e19 (F0.2.2.2.2.2.2.2.2.2.2.2.2.2.2.2.2.1.ext O0.2) (g := (mkF m 13 #[vi 0] [])) rfl (hb hby dj33_22_13)
  refine og st20 ?_
  show OG p e below _ T20 m 16 #[vi 0] [(.ref aCac)]
  refine qj X20.here hx hby dj33_22_16 rfl ?_
  refine qs X20.here hx hby dj33_22_17 ?_
  refine qe X20.here hx hby dj33_22_20 rfl ?_
  show OG p e below _ T20 m 21 #[vi 0] [(.int ((0 : Int32) + (128 : Int32))), (.ref aCac)]
  rw [show ((0 : Int32) + (128 : Int32)) = (128 : Int32) from by decide]
  have hin21 : ¬ ((128 : Int32) < 0 ∨ cCac.slots.size ≤ ((128 : Int32)).toNatClampNeg) := inb_of F0.2.2.2.2.2.2.2.2.2.2.2.2.2.2.2.2.2.1.2.1 ⟨by decide, by decide⟩
  obtain ⟨box, hb1, hb2, -⟩ := F0.2.2.2.2.2.2.2.2.2.2.2.2.2.2.2.2.2.1.2.2.2 _ hin21
  have Ar21 := F0.2.2.2.2.2.2.2.2.2.2.2.2.2.2.2.2.2.1.1.ext O0.2
  refine og (fun _ k => X20.aaload hx (j := (128 : Int32)) (v := .ref box) (by rw [e20]; exact Ar21.1) (State.isArrayOf_alike hZ.alike Ar21.2.1) rfl Ar21.2.2 hin21 hb1 (g := (mkF m 21 #[vi 0] [(.int 128), (.ref aCac)])) rfl rfl (hb hby dj33_22_21) _ k) ?_
  have hbe := hb2.ext O0.2
  show OG p e below _ T20 m 22 #[vi 0] [(.ref box)]
  obtain ⟨fs, hr, hrun, hended, hW, hsame⟩ := X20.leave (v := some (.ref box)) (fun h => by rw [Bd.returns] at h; cases h)
  refine ⟨_, _, retOut X20 hx Bd.returns rfl (Or.inr (Or.inr (Or.inr (Or.inr ⟨rfl, rfl, rfl⟩)))) (hb hby dj33_22_22) hr, hrun, hended, _, _, rfl, ?_, ⟨_, rfl⟩, hW, hsame.mono (by decide) (by decide)⟩
  show Q_vo0 Z ku0 ku1 ku2 ku3 aDef aCac aEmp aMir kDef cCac h0 n0 _ T20.heap _
  rw [e20]
  exact ⟨box, rfl, N0, rfl, hbe, hb2.lt⟩
def Q_vo1 (Z : State) (ku0 ku1 ku2 ku3 aDef aCac aEmp aMir : Addr) (kDef : ClassId) (cCac : Cell) (h0 : Heap) (n0 : Nat) (v : Option Value) (h : Heap) (L : List Loc) : Prop := ∃ (r9 : Addr), v = some (.ref r9) ∧ Fr n0 L ∧ h = h0 ∧ Exa Z h r9 "java/lang/Integer" ∧ r9 < Z.heap.size
theorem ef_vo1 (m : MethodId) (x0 : Int32) : entryFrame m #[(.int x0)] 1 = mkF m 0 #[vi x0] [] := by first | (simp [entryFrame, mkF, argsToLocals, Value.category]; done) | rfl
theorem rm_vo1 (l : Launch) (Z : State) (a0 : Array Value) (hw : HW Z a0) (ws : List Jvm.Cond) (ku0 ku1 ku2 ku3 aDef aCac aEmp aMir : Addr) (kDef : ClassId) (cCac : Cell) (F0 : OwnFacts Z ku0 ku1 ku2 ku3 aDef aCac aEmp aMir kDef cCac) (h0 : Heap) (n0 : Nat) (O0 : Old Z n0 h0) :
    MetFree l mn18 (head1 (Jvm.Cond.code mn18 jdk_33_method_22_code 1 (some (.object "java/lang/Integer")) :: ws) (rk 0 0 0 0)) (fun a U => a = #[(.int 1)] ∧ Z.Warmed39 U.vm ∧ U.heap = h0) (fun _ _ _ _ _ => True) (fun _ U o U' => ∃ v L, o = .returned v ∧ Q_vo1 Z ku0 ku1 ku2 ku3 aDef aCac aEmp aMir kDef cCac h0 n0 v U'.heap L ∧ FrameEnd U o U' L (rk 0 0 0 0).cells (rk 0 0 0 0).slots) := by
  refine MetFree.of_bodySF (plainFor_of_name pn_java_lang_Integer) hisR ?_
  intro p e s m args below meth c s₁ Bd hml0 hP hK
  obtain ⟨rfl, hZ, hh⟩ := hP
  have hx := Bd.exec
  have hby := Bd.bytes
  have hml : c.maxLocals = 1 := hml0
  have hown : s.vm.findClass "java/lang/Integer" = some m.cls := findClass_of_methodNamed Bd.named
  have hnm := (name_of_methodNamed Bd.named Bd.method).1
  have X0 : Stand p l e (rk 0 0 0 0) s m #[(.int 1)] below meth c s₁ [] 0 0 := Stand.of_body Bd
  have e0 : s₁.heap = h0 := by rw [← hh, Bd.state]; rfl
  have N0 := Fr.nil n0
  refine og (Q := fun o U' => ∃ v L, o = .returned v ∧ Q_vo1 Z ku0 ku1 ku2 ku3 aDef aCac aEmp aMir kDef cCac h0 n0 v U'.heap L ∧ FrameEnd s o U' L (rk 0 0 0 0).cells (rk 0 0 0 0).slots) (fun t k => castTop (ef_vo1 m (1 : Int32)) k) ?_
  show OG p e below _ s₁ m 0 #[vi 1] []
  refine qj X0.here hx hby dj33_22_0 rfl ?_
  refine qp X0.here hx hby dj33_22_1 ?_
  refine og (fun _ k => XS.icmpNo X0.here hx rfl (hb hby dj33_22_3) rfl (by decide) k) ?_
  show OG p e below _ s₁ m 6 #[vi 1] []
  refine qj X0.here hx hby dj33_22_6 rfl ?_
  obtain ⟨T22, X22, e22, st22⟩ := getS X0 hx hZ hown (host := "") (ow hw 30 rfl) Via.refl e0 (F0.2.2.2.2.2.2.2.2.2.2.2.2.2.2.2.1.ext O0.2) (g := (mkF m 7 #[vi 1] [(.int 1)])) rfl (hb hby dj33_22_7)
  refine og st22 ?_
  show OG p e below _ T22 m 10 #[vi 1] [(.int 127), (.int 1)]
  refine og (fun _ k => XS.icmpNo X22.here hx rfl (hb hby dj33_22_10) rfl (by decide) k) ?_
  show OG p e below _ T22 m 13 #[vi 1] []
  obtain ⟨T23, X23, e23, st23⟩ := getS X22 hx hZ hown (host := "") (ow hw 32 rfl) Via.refl e22 (F0.2.2.2.2.2.2.2.2.2.2.2.2.2.2.2.2.1.ext O0.2) (g := (mkF m 13 #[vi 1] [])) rfl (hb hby dj33_22_13)
  refine og st23 ?_
  show OG p e below _ T23 m 16 #[vi 1] [(.ref aCac)]
  refine qj X23.here hx hby dj33_22_16 rfl ?_
  refine qs X23.here hx hby dj33_22_17 ?_
  refine qe X23.here hx hby dj33_22_20 rfl ?_
  show OG p e below _ T23 m 21 #[vi 1] [(.int ((1 : Int32) + (128 : Int32))), (.ref aCac)]
  rw [show ((1 : Int32) + (128 : Int32)) = (129 : Int32) from by decide]
  have hin24 : ¬ ((129 : Int32) < 0 ∨ cCac.slots.size ≤ ((129 : Int32)).toNatClampNeg) := inb_of F0.2.2.2.2.2.2.2.2.2.2.2.2.2.2.2.2.2.1.2.1 ⟨by decide, by decide⟩
  obtain ⟨box, hb1, hb2, -⟩ := F0.2.2.2.2.2.2.2.2.2.2.2.2.2.2.2.2.2.1.2.2.2 _ hin24
  have Ar24 := F0.2.2.2.2.2.2.2.2.2.2.2.2.2.2.2.2.2.1.1.ext O0.2
  refine og (fun _ k => X23.aaload hx (j := (129 : Int32)) (v := .ref box) (by rw [e23]; exact Ar24.1) (State.isArrayOf_alike hZ.alike Ar24.2.1) rfl Ar24.2.2 hin24 hb1 (g := (mkF m 21 #[vi 1] [(.int 129), (.ref aCac)])) rfl rfl (hb hby dj33_22_21) _ k) ?_
  have hbe := hb2.ext O0.2
  show OG p e below _ T23 m 22 #[vi 1] [(.ref box)]
  obtain ⟨fs, hr, hrun, hended, hW, hsame⟩ := X23.leave (v := some (.ref box)) (fun h => by rw [Bd.returns] at h; cases h)
  refine ⟨_, _, retOut X23 hx Bd.returns rfl (Or.inr (Or.inr (Or.inr (Or.inr ⟨rfl, rfl, rfl⟩)))) (hb hby dj33_22_22) hr, hrun, hended, _, _, rfl, ?_, ⟨_, rfl⟩, hW, hsame.mono (by decide) (by decide)⟩
  show Q_vo1 Z ku0 ku1 ku2 ku3 aDef aCac aEmp aMir kDef cCac h0 n0 _ T23.heap _
  rw [e23]
  exact ⟨box, rfl, N0, rfl, hbe, hb2.lt⟩
theorem dj38_6_0 : decode jdk_38_method_6_code 0 = .ok (.aload_n 0, 1) := by decide +kernel
theorem dj38_6_1 : decode jdk_38_method_6_code 1 = .ok (.getfield 9, 3) := by decide +kernel
theorem dj38_6_4 : decode jdk_38_method_6_code 4 = .ok (.arraylength, 1) := by decide +kernel
theorem dj38_6_5 : decode jdk_38_method_6_code 5 = .ok (.istore_n 2, 1) := by decide +kernel
theorem dj38_6_6 : decode jdk_38_method_6_code 6 = .ok (.iload_n 2, 1) := by decide +kernel
theorem dj38_6_7 : decode jdk_38_method_6_code 7 = .ok (.ifCond .gt 13, 3) := by decide +kernel
theorem dj38_6_10 : decode jdk_38_method_6_code 10 = .ok (.aload_n 0, 1) := by decide +kernel
theorem dj38_6_11 : decode jdk_38_method_6_code 11 = .ok (.getfield 9, 3) := by decide +kernel
theorem dj38_6_14 : decode jdk_38_method_6_code 14 = .ok (.getstatic 39, 3) := by decide +kernel
theorem dj38_6_17 : decode jdk_38_method_6_code 17 = .ok (.if_acmp .eq 28, 3) := by decide +kernel
theorem dj38_6_45 : decode jdk_38_method_6_code 45 = .ok (.aload_n 0, 1) := by decide +kernel
theorem dj38_6_46 : decode jdk_38_method_6_code 46 = .ok (.bipush 10, 2) := by decide +kernel
theorem dj38_6_48 : decode jdk_38_method_6_code 48 = .ok (.iload_n 1, 1) := by decide +kernel
theorem dj38_6_49 : decode jdk_38_method_6_code 49 = .ok (.invokestatic 79, 3) := by decide +kernel
theorem dj29_65_0 : decode jdk_29_method_65_code 0 = .ok (.iload_n 0, 1) := by decide +kernel
theorem dj29_65_1 : decode jdk_29_method_65_code 1 = .ok (.iload_n 1, 1) := by decide +kernel
theorem dj29_65_2 : decode jdk_29_method_65_code 2 = .ok (.if_icmp .lt 7, 3) := by decide +kernel
theorem dj29_65_5 : decode jdk_29_method_65_code 5 = .ok (.iload_n 0, 1) := by decide +kernel
theorem dj29_65_6 : decode jdk_29_method_65_code 6 = .ok (.goto 4, 3) := by decide +kernel
theorem dj29_65_10 : decode jdk_29_method_65_code 10 = .ok (.ireturn, 1) := by decide +kernel
def Q_max_10_1 (Z : State) (ku0 ku1 ku2 ku3 aDef aCac aEmp aMir : Addr) (kDef : ClassId) (cCac : Cell) (h0 : Heap) (n0 : Nat) (v : Option Value) (h : Heap) (L : List Loc) : Prop := v = some (.int 10) ∧ Fr n0 L ∧ h = h0
theorem ef_max_10_1 (m : MethodId) (x0 : Int32) (x1 : Int32) : entryFrame m #[(.int x0), (.int x1)] 2 = mkF m 0 #[vi x0, vi x1] [] := by first | (simp [entryFrame, mkF, argsToLocals, Value.category]; done) | rfl
theorem rm_max_10_1 (l : Launch) (Z : State) (a0 : Array Value) (hw : HW Z a0) (ws : List Jvm.Cond) (ku0 ku1 ku2 ku3 aDef aCac aEmp aMir : Addr) (kDef : ClassId) (cCac : Cell) (F0 : OwnFacts Z ku0 ku1 ku2 ku3 aDef aCac aEmp aMir kDef cCac) (h0 : Heap) (n0 : Nat) (O0 : Old Z n0 h0) :
    MetFree l mn19 (head1 (Jvm.Cond.code mn19 jdk_29_method_65_code 2 (some .int) :: ws) (rk 0 0 0 0)) (fun a U => a = #[(.int 10), (.int 1)] ∧ Z.Warmed39 U.vm ∧ U.heap = h0) (fun _ _ _ _ _ => True) (fun _ U o U' => ∃ v L, o = .returned v ∧ Q_max_10_1 Z ku0 ku1 ku2 ku3 aDef aCac aEmp aMir kDef cCac h0 n0 v U'.heap L ∧ FrameEnd U o U' L (rk 0 0 0 0).cells (rk 0 0 0 0).slots) := by
  refine MetFree.of_bodySF (by decide +kernel) hisR ?_
  intro p e s m args below meth c s₁ Bd hml0 hP hK
  obtain ⟨rfl, hZ, hh⟩ := hP
  have hx := Bd.exec
  have hby := Bd.bytes
  have hml : c.maxLocals = 2 := hml0
  have hown : s.vm.findClass "java/lang/Math" = some m.cls := findClass_of_methodNamed Bd.named
  have hnm := (name_of_methodNamed Bd.named Bd.method).1
  have X0 : Stand p l e (rk 0 0 0 0) s m #[(.int 10), (.int 1)] below meth c s₁ [] 0 0 := Stand.of_body Bd
  have e0 : s₁.heap = h0 := by rw [← hh, Bd.state]; rfl
  have N0 := Fr.nil n0
  refine og (Q := fun o U' => ∃ v L, o = .returned v ∧ Q_max_10_1 Z ku0 ku1 ku2 ku3 aDef aCac aEmp aMir kDef cCac h0 n0 v U'.heap L ∧ FrameEnd s o U' L (rk 0 0 0 0).cells (rk 0 0 0 0).slots) (fun t k => castTop (ef_max_10_1 m (10 : Int32) (1 : Int32)) k) ?_
  show OG p e below _ s₁ m 0 #[vi 10, vi 1] []
  refine qj X0.here hx hby dj29_65_0 rfl ?_
  refine qj X0.here hx hby dj29_65_1 rfl ?_
  refine og (fun _ k => XS.icmpNo X0.here hx rfl (hb hby dj29_65_2) rfl (by decide) k) ?_
  show OG p e below _ s₁ m 5 #[vi 10, vi 1] []
  refine qj X0.here hx hby dj29_65_5 rfl ?_
  refine og (fun _ k => XS.goto X0.here hx rfl (pc0 := 6) (pc' := 10) rfl (hb hby dj29_65_6) (by decide) (by decide) k) ?_
  obtain ⟨fs, hr, hrun, hended, hW, hsame⟩ := X0.leave (v := some (.int 10)) (fun h => by rw [Bd.returns] at h; cases h)
  refine ⟨_, _, retOut X0 hx Bd.returns rfl (Or.inl ⟨rfl, Or.inl rfl, _, rfl⟩) (hb hby dj29_65_10) hr, hrun, hended, _, _, rfl, ?_, ⟨_, rfl⟩, hW, hsame.mono (by decide) (by decide)⟩
  show Q_max_10_1 Z ku0 ku1 ku2 ku3 aDef aCac aEmp aMir kDef cCac h0 n0 _ s₁.heap _
  rw [e0]
  exact ⟨rfl, N0, rfl⟩
theorem pd_I_I__I : parseMethodDescriptor "(II)I" = some ⟨[.int, .int], some .int⟩ := by decide +kernel
theorem dj38_6_52 : decode jdk_38_method_6_code 52 = .ok (.anewarray 7, 3) := by decide +kernel
theorem dj38_6_55 : decode jdk_38_method_6_code 55 = .ok (.dup_x1, 1) := by decide +kernel
theorem dj38_6_56 : decode jdk_38_method_6_code 56 = .ok (.putfield 9, 3) := by decide +kernel
theorem dj38_6_59 : decode jdk_38_method_6_code 59 = .ok (.areturn, 1) := by decide +kernel
def Q_growI (Z : State) (ku0 ku1 ku2 ku3 aDef aCac aEmp aMir : Addr) (kDef : ClassId) (cCac : Cell) (a1 : Addr) (mc1 : Int32) (h0 : Heap) (n0 : Nat) (v : Option Value) (h : Heap) (L : List Loc) : Prop := ∃ (r1 : Addr) (k1 : ClassId), v = some (.ref r1) ∧ Fr n0 L ∧ Keep h0 h [a1] ∧ Fld Z h a1 "java/util/AbstractList" "modCount" "I" (.int mc1) ∧ Fld Z h a1 "java/util/ArrayList" "elementData" "[Ljava/lang/Object;" (.ref r1) ∧ Fld Z h a1 "java/util/ArrayList" "size" "I" (.int 0) ∧ h0.size ≤ r1 ∧ Exa Z h r1 "[Ljava/lang/Object;" ∧ Arv Z h r1 k1 (.object "java/lang/Object") (10 : Int32) [.null, .null] .null ∧ Ovr Z k1 "java/lang/Object"
theorem ef_growI (m : MethodId) (x0 : Addr) (x1 : Int32) : entryFrame m #[(.ref x0), (.int x1)] 4 = mkF m 0 #[vr x0, vi x1, .unset, .unset] [] := by first | (simp [entryFrame, mkF, argsToLocals, Value.category]; done) | rfl
theorem rm_growI (l : Launch) (Z : State) (a0 : Array Value) (hw : HW Z a0) (ws : List Jvm.Cond) (ku0 ku1 ku2 ku3 aDef aCac aEmp aMir : Addr) (kDef : ClassId) (cCac : Cell) (F0 : OwnFacts Z ku0 ku1 ku2 ku3 aDef aCac aEmp aMir kDef cCac) (a1 : Addr) (mc1 : Int32) (h0 : Heap) (n0 : Nat) (O0 : Old Z n0 h0) (PQ11 : Exa Z h0 a1 "java/util/ArrayList") (PQ12 : Fld Z h0 a1 "java/util/AbstractList" "modCount" "I" (.int mc1)) (PQ13 : Fld Z h0 a1 "java/util/ArrayList" "elementData" "[Ljava/lang/Object;" (.ref aDef)) (PQ14 : Fld Z h0 a1 "java/util/ArrayList" "size" "I" (.int 0)) (PQ15 : n0 ≤ a1) :
    MetFree l mn29 (head1 (Jvm.Cond.code mn29 jdk_38_method_6_code 4 (some (.array (.object "java/lang/Object"))) :: ws) (rk 1 1 10 14)) (fun a U => a = #[(.ref a1), (.int 1)] ∧ Z.Warmed39 U.vm ∧ U.heap = h0) (fun _ _ _ _ _ => True) (fun _ U o U' => ∃ v L, o = .returned v ∧ Q_growI Z ku0 ku1 ku2 ku3 aDef aCac aEmp aMir kDef cCac a1 mc1 h0 n0 v U'.heap L ∧ FrameEnd U o U' L (rk 1 1 10 14).cells (rk 1 1 10 14).slots) := by
  refine MetFree.of_bodySF (plainFor_of_name pn_java_util_ArrayList) hisR ?_
  intro p e s m args below meth c s₁ Bd hml0 hP hK
  obtain ⟨rfl, hZ, hh⟩ := hP
  have hx := Bd.exec
  have hby := Bd.bytes
  have hml : c.maxLocals = 4 := hml0
  have hown : s.vm.findClass "java/util/ArrayList" = some m.cls := findClass_of_methodNamed Bd.named
  have hnm := (name_of_methodNamed Bd.named Bd.method).1
  have X0 : Stand p l e (rk 1 1 10 14) s m #[(.ref a1), (.int 1)] below meth c s₁ [] 0 0 := Stand.of_body Bd
  have e0 : s₁.heap = h0 := by rw [← hh, Bd.state]; rfl
  have N0 := Fr.nil n0
  refine og (Q := fun o U' => ∃ v L, o = .returned v ∧ Q_growI Z ku0 ku1 ku2 ku3 aDef aCac aEmp aMir kDef cCac a1 mc1 h0 n0 v U'.heap L ∧ FrameEnd s o U' L (rk 1 1 10 14).cells (rk 1 1 10 14).slots) (fun t k => castTop (ef_growI m a1 (1 : Int32)) k) ?_
  show OG p e below _ s₁ m 0 #[vr a1, vi 1, .unset, .unset] []
  refine qa X0.here hx hby dj38_6_0 rfl rfl ?_
  obtain ⟨T25, X25, e25, st25⟩ := getF X0 hx hZ hown (host := "") (Or.inl (ow hw 24 rfl)) Via.refl e0 PQ13 (g := (mkF m 1 #[vr a1, vi 1, .unset, .unset] [(.ref a1)])) rfl rfl (hb hby dj38_6_1)
  refine og st25 ?_
  show OG p e below _ T25 m 4 #[vr a1, vi 1, .unset, .unset] [(.ref aDef)]
  obtain ⟨c26, Ar26, q26, S26, M26, H26, G26⟩ := (id (F0.2.2.2.2.2.2.2.2.2.2.2.2.2.2.1.ext O0.2))
  refine og (fun _ k => X25.arraylength hx (cell := c26) (by rw [e25]; exact Ar26.1) (State.isArrayOf_alike hZ.alike Ar26.2.1) (g := (mkF m 4 #[vr a1, vi 1, .unset, .unset] [(.ref aDef)])) rfl (rest := []) rfl (hb hby dj38_6_4) _ k) ?_
  rw [len_of S26 M26]
  show OG p e below _ T25 m 5 #[vr a1, vi 1, .unset, .unset] [(.int 0)]
  refine og (fun _ k => XS.istoreN X25.here hx rfl (hb hby dj38_6_5) rfl (l' := #[vr a1, vi 1, vi 0, .unset]) rfl k) ?_
  refine qj X25.here hx hby dj38_6_6 rfl ?_
  refine og (fun _ k => XS.ifNo X25.here hx rfl (hb hby dj38_6_7) rfl (by decide) k) ?_
  show OG p e below _ T25 m 10 #[vr a1, vi 1, vi 0, .unset] []
  refine qa X25.here hx hby dj38_6_10 rfl rfl ?_
  obtain ⟨T27, X27, e27, st27⟩ := getF X25 hx hZ hown (host := "") (Or.inl (ow hw 24 rfl)) Via.refl e25 PQ13 (g := (mkF m 11 #[vr a1, vi 1, vi 0, .unset] [(.ref a1)])) rfl rfl (hb hby dj38_6_11)
  refine og st27 ?_
  show OG p e below _ T27 m 14 #[vr a1, vi 1, vi 0, .unset] [(.ref aDef)]
  obtain ⟨T28, X28, e28, st28⟩ := getS X27 hx hZ hown (host := "") (ow hw 23 rfl) Via.refl e27 (F0.2.2.2.2.2.2.2.2.2.2.2.2.1.ext O0.2) (g := (mkF m 14 #[vr a1, vi 1, vi 0, .unset] [(.ref aDef)])) rfl (hb hby dj38_6_14)
  refine og st28 ?_
  show OG p e below _ T28 m 17 #[vr a1, vi 1, vi 0, .unset] [(.ref aDef), (.ref aDef)]
  refine og (fun _ k => acmp X28 hx rfl (cd := .eq) (o := 28) (x := (.ref aDef)) (y := (.ref aDef)) (pc0 := 17) (pc' := 45) rfl rfl rfl (hb hby dj38_6_17) rfl (own_refeq _) (by decide) (by decide) k) ?_
  show OG p e below _ T28 m 45 #[vr a1, vi 1, vi 0, .unset] []
  refine qa X28.here hx hby dj38_6_45 rfl rfl ?_
  refine qp X28.here hx hby dj38_6_46 ?_
  refine qj X28.here hx hby dj38_6_48 rfl ?_
  obtain ⟨_, _, ⟨T29, L29, k29, n29⟩, -, X29, ⟨Lc29, hQ29, l29, y29, z29⟩, st29⟩ := Jvm.LawKit.callS X28 hx (y := mn19) hown (mvT hZ (ow hw 57 rfl)) (mvT hZ (ow hw 58 rfl)) (mvT hZ (ow hw 59 rfl)) (mvT hZ (ow hw 60 rfl)) (by decide) (backOf (W := 1) (rm_max_10_1 l Z a0 hw [] ku0 ku1 ku2 ku3 aDef aCac aEmp aMir kDef cCac F0 h0 n0 O0) hZ (ow hw 60 rfl) (ow hw 59 rfl) (by decide) (by decide)) (g := (mkF m 49 #[vr a1, vi 1, vi 0, .unset] [(.int 1), (.int 10), (.ref a1)])) rfl (by rw [hml]; rfl) (argsL := [(.int 10), (.int 1)]) (rest := [(.ref a1)]) (lenOf pd_I_I__I rfl) rfl (by show 2 * 0 + _ ≤ _; exact Nat.le_of_eq rfl) (hb hby dj38_6_49) (fun _ _ => ⟨rfl, e28, (by decide : 0 + 0 ≤ _), (by decide : 0 + 0 ≤ _)⟩)
  dsimp only [Pt.U, Pt.locs, Pt.cells, Pt.slots] at X29 l29 y29 z29 st29 hQ29
  subst l29 y29 z29
  obtain ⟨rfl, Nq29, K29⟩ := hQ29
  obtain ⟨L29, X29, N29⟩ := pk X29 (Fr.app N0 Nq29)
  refine og st29 ?_
  show OG p e below _ T29 m 52 #[vr a1, vi 1, vi 0, .unset] [(.int 10), (.ref a1)]
  obtain ⟨T30, h30, k30, X30, e30, E30, A30, U30, B30, st30⟩ := newRE X29 hx hZ hown (ow hw 61 rfl) (ow hw 62 rfl) K29 (g := (mkF m 52 #[vr a1, vi 1, vi 0, .unset] [(.int 10), (.ref a1)])) rfl (hb hby dj38_6_52) rfl (by decide) (cap := 10) (by decide) (by decide) (by decide) (by decide) (ad := "[Ljava/lang/Object;") (by decide)
  obtain ⟨a30, g30⟩ : ∃ z, z = h0.size := ⟨_, rfl⟩
  rw [← g30] at A30 U30 st30
  have ge30 : n0 ≤ a30 := Nat.le_trans (own_sz O0) (Nat.le_of_eq g30.symm)
  have gh30 : h0.size ≤ a30 := Nat.le_trans (Nat.le_refl _) (Nat.le_of_eq g30.symm)
  have lo30 : a1 < a30 := Nat.lt_of_lt_of_eq PQ11.lt g30.symm
  have O30 := O0.ext E30
  have z31 := Nat.le_trans (Nat.le_refl _) E30.1
  have V30 : Arv Z h30 a30 k30 (.object "java/lang/Object") (10 : Int32) [.null, .null] .null := (Arv.new A30 (by decide)).pad (pad_rep [] _ 2)
  refine og st30 ?_
  show OG p e below _ T30 m 55 #[vr a1, vi 1, vi 0, .unset] [(.ref a30), (.ref a1)]
  refine og (fun _ k => XS.dupX1 X30.here hx rfl (hb hby dj38_6_55) rfl rfl rfl k) ?_
  show OG p e below _ T30 m 56 #[vr a1, vi 1, vi 0, .unset] [(.ref a30), (.ref a1), (.ref a30)]
  have F33 := (PQ13.ext E30)
  have F34 := (PQ11.ext E30)
  obtain ⟨T32, h32, X32, e32, W32, st32⟩ := putF X30 hx hZ hown (host := "") (Or.inl (ow hw 24 rfl)) Via.refl e30 F33 F34 (Or.inl (ow hw 25 rfl)) (ow hw 1 rfl) (ty := (.array (.object "java/lang/Object"))) (by decide) rfl rfl (g := (mkF m 56 #[vr a1, vi 1, vi 0, .unset] [(.ref a30), (.ref a1), (.ref a30)])) rfl rfl (hb hby dj38_6_56)
  obtain ⟨L32, X32, N32⟩ := pk X32 (Fr.snoc X32 N29 PQ15)
  have O32 := O30.wr W32 PQ15
  have z35 := Nat.le_trans z31 (Nat.le_of_eq W32.size.symm)
  have F32 : Fld Z h32 a1 "java/util/ArrayList" "elementData" "[Ljava/lang/Object;" (.ref a30) := F33.same W32
  refine og st32 ?_
  show OG p e below _ T32 m 59 #[vr a1, vi 1, vi 0, .unset] [(.ref a30)]
  obtain ⟨fs, hr, hrun, hended, hW, hsame⟩ := X32.leave (v := some (.ref a30)) (fun h => by rw [Bd.returns] at h; cases h)
  refine ⟨_, _, retOut X32 hx Bd.returns rfl (Or.inr (Or.inr (Or.inr (Or.inr ⟨rfl, rfl, rfl⟩)))) (hb hby dj38_6_59) hr, hrun, hended, _, _, rfl, ?_, ⟨_, rfl⟩, hW, hsame.mono (by decide) (by decide)⟩
  show Q_growI Z ku0 ku1 ku2 ku3 aDef aCac aEmp aMir kDef cCac a1 mc1 h0 n0 _ T32.heap _
  rw [e32]
  have F36 := (oo W32 (PQ12.ext E30) (lp_1 hw) (lp_0 hw) (by decide))
  have F37 := (oo W32 (PQ14.ext E30) (lp_2 hw) (lp_0 hw) (by decide))
  have F38 := (U30.wr W32)
  have F39 := (V30.other W32 (Ne.symm (Nat.ne_of_lt lo30)))
  exact ⟨a30, k30, rfl, N32, (((Keep.refl _ [a1]).ext E30).wr W32 (om 0 rfl)), F36, F32, F37, gh30, F38, F39, B30⟩
theorem dj38_7_0 : decode jdk_38_method_7_code 0 = .ok (.aload_n 0, 1) := by decide +kernel
theorem dj38_7_1 : decode jdk_38_method_7_code 1 = .ok (.aload_n 0, 1) := by decide +kernel
theorem dj38_7_2 : decode jdk_38_method_7_code 2 = .ok (.getfield 48, 3) := by decide +kernel
theorem dj38_7_5 : decode jdk_38_method_7_code 5 = .ok (.iconst 1, 1) := by decide +kernel
theorem dj38_7_6 : decode jdk_38_method_7_code 6 = .ok (.iadd, 1) := by decide +kernel
theorem dj38_7_7 : decode jdk_38_method_7_code 7 = .ok (.invokevirtual 69, 3) := by decide +kernel
theorem pd_I___Ljava_lang_Object_ : parseMethodDescriptor "(I)[Ljava/lang/Object;" = some ⟨[.int], some (.array (.object "java/lang/Object"))⟩ := by decide +kernel
theorem dj38_7_10 : decode jdk_38_method_7_code 10 = .ok (.areturn, 1) := by decide +kernel
def Q_grow (Z : State) (ku0 ku1 ku2 ku3 aDef aCac aEmp aMir : Addr) (kDef : ClassId) (cCac : Cell) (a1 : Addr) (mc1 : Int32) (h0 : Heap) (n0 : Nat) (v : Option Value) (h : Heap) (L : List Loc) : Prop := ∃ (r1 : Addr) (k1 : ClassId), v = some (.ref r1) ∧ Fr n0 L ∧ Keep h0 h [a1] ∧ Fld Z h a1 "java/util/AbstractList" "modCount" "I" (.int mc1) ∧ Fld Z h a1 "java/util/ArrayList" "elementData" "[Ljava/lang/Object;" (.ref r1) ∧ Fld Z h a1 "java/util/ArrayList" "size" "I" (.int 0) ∧ h0.size ≤ r1 ∧ Exa Z h r1 "[Ljava/lang/Object;" ∧ Arv Z h r1 k1 (.object "java/lang/Object") (10 : Int32) [.null, .null] .null ∧ Ovr Z k1 "java/lang/Object"
theorem ef_grow (m : MethodId) (x0 : Addr) : entryFrame m #[(.ref x0)] 1 = mkF m 0 #[vr x0] [] := by first | (simp [entryFrame, mkF, argsToLocals, Value.category]; done) | rfl
theorem rm_grow (l : Launch) (Z : State) (a0 : Array Value) (hw : HW Z a0) (ws : List Jvm.Cond) (ku0 ku1 ku2 ku3 aDef aCac aEmp aMir : Addr) (kDef : ClassId) (cCac : Cell) (F0 : OwnFacts Z ku0 ku1 ku2 ku3 aDef aCac aEmp aMir kDef cCac) (a1 : Addr) (mc1 : Int32) (h0 : Heap) (n0 : Nat) (O0 : Old Z n0 h0) (PQ16 : Exa Z h0 a1 "java/util/ArrayList") (PQ17 : Fld Z h0 a1 "java/util/AbstractList" "modCount" "I" (.int mc1)) (PQ18 : Fld Z h0 a1 "java/util/ArrayList" "elementData" "[Ljava/lang/Object;" (.ref aDef)) (PQ19 : Fld Z h0 a1 "java/util/ArrayList" "size" "I" (.int 0)) (PQ20 : n0 ≤ a1) :
    MetFree l mn28 (head1 (Jvm.Cond.code mn28 jdk_38_method_7_code 1 (some (.array (.object "java/lang/Object"))) :: ws) (rk 2 1 10 29)) (fun a U => a = #[(.ref a1)] ∧ Z.Warmed39 U.vm ∧ U.heap = h0) (fun _ _ _ _ _ => True) (fun _ U o U' => ∃ v L, o = .returned v ∧ Q_grow Z ku0 ku1 ku2 ku3 aDef aCac aEmp aMir kDef cCac a1 mc1 h0 n0 v U'.heap L ∧ FrameEnd U o U' L (rk 2 1 10 29).cells (rk 2 1 10 29).slots) := by
  refine MetFree.of_bodySF (plainFor_of_name pn_java_util_ArrayList) hisR ?_
  intro p e s m args below meth c s₁ Bd hml0 hP hK
  obtain ⟨rfl, hZ, hh⟩ := hP
  have hx := Bd.exec
  have hby := Bd.bytes
  have hml : c.maxLocals = 1 := hml0
  have hown : s.vm.findClass "java/util/ArrayList" = some m.cls := findClass_of_methodNamed Bd.named
  have hnm := (name_of_methodNamed Bd.named Bd.method).1
  have X0 : Stand p l e (rk 2 1 10 29) s m #[(.ref a1)] below meth c s₁ [] 0 0 := Stand.of_body Bd
  have e0 : s₁.heap = h0 := by rw [← hh, Bd.state]; rfl
  have N0 := Fr.nil n0
  refine og (Q := fun o U' => ∃ v L, o = .returned v ∧ Q_grow Z ku0 ku1 ku2 ku3 aDef aCac aEmp aMir kDef cCac a1 mc1 h0 n0 v U'.heap L ∧ FrameEnd s o U' L (rk 2 1 10 29).cells (rk 2 1 10 29).slots) (fun t k => castTop (ef_grow m a1) k) ?_
  show OG p e below _ s₁ m 0 #[vr a1] []
  refine qa X0.here hx hby dj38_7_0 rfl rfl ?_
  refine qa X0.here hx hby dj38_7_1 rfl rfl ?_
  obtain ⟨T40, X40, e40, st40⟩ := getF X0 hx hZ hown (host := "") (Or.inl (ow hw 40 rfl)) Via.refl e0 PQ19 (g := (mkF m 2 #[vr a1] [(.ref a1), (.ref a1)])) rfl rfl (hb hby dj38_7_2)
  refine og st40 ?_
  show OG p e below _ T40 m 5 #[vr a1] [(.int 0), (.ref a1)]
  refine qc X40.here hx hby dj38_7_5 ?_
  refine qe X40.here hx hby dj38_7_6 rfl ?_
  show OG p e below _ T40 m 7 #[vr a1] [(.int ((0 : Int32) + (1 : Int32))), (.ref a1)]
  rw [show ((0 : Int32) + (1 : Int32)) = (1 : Int32) from by decide]
  obtain ⟨cl41, hcl41, hob41⟩ := PQ16.cell
  obtain ⟨_, _, ⟨T41, L41, k41, n41⟩, -, X41, ⟨Lc41, hQ41, l41, y41, z41⟩, st41⟩ := X40.privateBack hx (y := mn29) hown (mvT hZ (ow hw 52 rfl)) (mvT hZ (ow hw 53 rfl)) (own_selp hZ (ow hw 1 rfl) (ow hw 54 rfl) (ow hw 53 rfl) (by decide)) (Cond.privateMethod_at (mvP hZ (ow hw 54 rfl) (args := #[]))) (mvT hZ (ow hw 56 rfl)) (by decide) (backOf (W := 0) (rm_growI l Z a0 hw [] ku0 ku1 ku2 ku3 aDef aCac aEmp aMir kDef cCac F0 a1 mc1 h0 n0 O0 PQ16 PQ17 PQ18 PQ19 PQ20) hZ (ow hw 56 rfl) (ow hw 2 rfl) (by decide) (by decide)) (g := (mkF m 7 #[vr a1] [(.int 1), (.ref a1)])) rfl (by rw [hml]; rfl) (Steps.refl _) (a := a1) (by rw [e40]; exact hcl41) hob41 (argsL := [(.int 1)]) (rest := []) (lenOf pd_I___Ljava_lang_Object_ rfl) rfl (by show 2 * 0 + _ ≤ _; exact Nat.le_of_eq rfl) (hb hby dj38_7_7) (fun _ _ => ⟨rfl, e40, (by decide : 0 + 1 ≤ _), (by decide : 0 + 10 ≤ _)⟩)
  dsimp only [Pt.U, Pt.locs, Pt.cells, Pt.slots] at X41 l41 y41 z41 st41 hQ41
  subst l41 y41 z41
  obtain ⟨r1_41, k1_41, rfl, Nq41, K41, x41_0, x41_1, x41_2, x41_3, x41_4, x41_5, x41_6⟩ := hQ41
  obtain ⟨L41, X41, N41⟩ := pk X41 (Fr.app N0 Nq41)
  have O41 := O0.keep K41 (allS PQ20 all0)
  have e41 : T41.heap = T41.heap := rfl
  have z42 := Nat.le_trans (Nat.le_refl _) K41.1
  have gex41_3 : n0 ≤ r1_41 := Nat.le_trans (own_sz O0) x41_3
  have ghx41_3 : h0.size ≤ r1_41 := Nat.le_trans (Nat.le_refl _) x41_3
  have lox41_3 : a1 < r1_41 := Nat.lt_of_lt_of_le PQ16.lt x41_3
  refine og (fun _ k => st41.trans k) ?_
  show OG p e below _ T41 m 10 #[vr a1] [(.ref r1_41)]
  obtain ⟨fs, hr, hrun, hended, hW, hsame⟩ := X41.leave (v := some (.ref r1_41)) (fun h => by rw [Bd.returns] at h; cases h)
  refine ⟨_, _, retOut X41 hx Bd.returns rfl (Or.inr (Or.inr (Or.inr (Or.inr ⟨rfl, rfl, rfl⟩)))) (hb hby dj38_7_10) hr, hrun, hended, _, _, rfl, ?_, ⟨_, rfl⟩, hW, hsame.mono (by decide) (by decide)⟩
  show Q_grow Z ku0 ku1 ku2 ku3 aDef aCac aEmp aMir kDef cCac a1 mc1 h0 n0 _ T41.heap _
  rw [e41]
  exact ⟨r1_41, k1_41, rfl, N41, ((Keep.refl _ [a1]).trans K41 (aS (om 0 rfl) all0)), x41_0, x41_1, x41_2, ghx41_3, x41_4, x41_5, x41_6⟩
theorem dj38_24_0 : decode jdk_38_method_24_code 0 = .ok (.iload_n 3, 1) := by decide +kernel
theorem dj38_24_1 : decode jdk_38_method_24_code 1 = .ok (.aload_n 2, 1) := by decide +kernel
theorem dj38_24_2 : decode jdk_38_method_24_code 2 = .ok (.arraylength, 1) := by decide +kernel
theorem dj38_24_3 : decode jdk_38_method_24_code 3 = .ok (.if_icmp .ne 8, 3) := by decide +kernel
theorem dj38_24_6 : decode jdk_38_method_24_code 6 = .ok (.aload_n 0, 1) := by decide +kernel
theorem dj38_24_7 : decode jdk_38_method_24_code 7 = .ok (.invokevirtual 129, 3) := by decide +kernel
theorem pd____Ljava_lang_Object_ : parseMethodDescriptor "()[Ljava/lang/Object;" = some ⟨[], some (.array (.object "java/lang/Object"))⟩ := by decide +kernel
theorem dj38_24_10 : decode jdk_38_method_24_code 10 = .ok (.astore_n 2, 1) := by decide +kernel
theorem dj38_24_11 : decode jdk_38_method_24_code 11 = .ok (.aload_n 2, 1) := by decide +kernel
theorem dj38_24_12 : decode jdk_38_method_24_code 12 = .ok (.iload_n 3, 1) := by decide +kernel
theorem dj38_24_13 : decode jdk_38_method_24_code 13 = .ok (.aload_n 1, 1) := by decide +kernel
theorem dj38_24_14 : decode jdk_38_method_24_code 14 = .ok (.aastore, 1) := by decide +kernel
theorem dj38_24_15 : decode jdk_38_method_24_code 15 = .ok (.aload_n 0, 1) := by decide +kernel
theorem dj38_24_16 : decode jdk_38_method_24_code 16 = .ok (.iload_n 3, 1) := by decide +kernel
theorem dj38_24_17 : decode jdk_38_method_24_code 17 = .ok (.iconst 1, 1) := by decide +kernel
theorem dj38_24_18 : decode jdk_38_method_24_code 18 = .ok (.iadd, 1) := by decide +kernel
theorem dj38_24_19 : decode jdk_38_method_24_code 19 = .ok (.putfield 48, 3) := by decide +kernel
theorem dj38_24_22 : decode jdk_38_method_24_code 22 = .ok (.return_, 1) := by decide +kernel
def Q_add3fn (Z : State) (ku0 ku1 ku2 ku3 aDef aCac aEmp aMir : Addr) (kDef : ClassId) (cCac : Cell) (a1 : Addr) (mc1 : Int32) (h0 : Heap) (n0 : Nat) (v : Option Value) (h : Heap) (L : List Loc) : Prop := ∃ (r1 : Addr) (k1 : ClassId), v = none ∧ Fr n0 L ∧ Keep h0 h [a1] ∧ Fld Z h a1 "java/util/AbstractList" "modCount" "I" (.int mc1) ∧ Fld Z h a1 "java/util/ArrayList" "elementData" "[Ljava/lang/Object;" (.ref r1) ∧ Fld Z h a1 "java/util/ArrayList" "size" "I" (.int 1) ∧ h0.size ≤ r1 ∧ Exa Z h r1 "[Ljava/lang/Object;" ∧ Arv Z h r1 k1 (.object "java/lang/Object") (10 : Int32) [.null, .null] .null ∧ Ovr Z k1 "java/lang/Object"
theorem ef_add3fn (m : MethodId) (x0 : Addr) (x2 : Addr) (x3 : Int32) : entryFrame m #[(.ref x0), .null, (.ref x2), (.int x3)] 4 = mkF m 0 #[vr x0, .val .null, vr x2, vi x3] [] := by first | (simp [entryFrame, mkF, argsToLocals, Value.category]; done) | rfl
theorem rm_add3fn (l : Launch) (Z : State) (a0 : Array Value) (hw : HW Z a0) (ws : List Jvm.Cond) (ku0 ku1 ku2 ku3 aDef aCac aEmp aMir : Addr) (kDef : ClassId) (cCac : Cell) (F0 : OwnFacts Z ku0 ku1 ku2 ku3 aDef aCac aEmp aMir kDef cCac) (a1 : Addr) (mc1 : Int32) (h0 : Heap) (n0 : Nat) (O0 : Old Z n0 h0) (PQ21 : Exa Z h0 a1 "java/util/ArrayList") (PQ22 : Fld Z h0 a1 "java/util/AbstractList" "modCount" "I" (.int mc1)) (PQ23 : Fld Z h0 a1 "java/util/ArrayList" "elementData" "[Ljava/lang/Object;" (.ref aDef)) (PQ24 : Fld Z h0 a1 "java/util/ArrayList" "size" "I" (.int 0)) (PQ25 : n0 ≤ a1) :
    MetFree l mn27 (head1 (Jvm.Cond.code mn27 jdk_38_method_24_code 4 none :: ws) (rk 3 1 10 41)) (fun a U => a = #[(.ref a1), .null, (.ref aDef), (.int 0)] ∧ Z.Warmed39 U.vm ∧ U.heap = h0) (fun _ _ _ _ _ => True) (fun _ U o U' => ∃ v L, o = .returned v ∧ Q_add3fn Z ku0 ku1 ku2 ku3 aDef aCac aEmp aMir kDef cCac a1 mc1 h0 n0 v U'.heap L ∧ FrameEnd U o U' L (rk 3 1 10 41).cells (rk 3 1 10 41).slots) := by
  refine MetFree.of_bodySF (plainFor_of_name pn_java_util_ArrayList) hisR ?_
  intro p e s m args below meth c s₁ Bd hml0 hP hK
  obtain ⟨rfl, hZ, hh⟩ := hP
  have hx := Bd.exec
  have hby := Bd.bytes
  have hml : c.maxLocals = 4 := hml0
  have hown : s.vm.findClass "java/util/ArrayList" = some m.cls := findClass_of_methodNamed Bd.named
  have hnm := (name_of_methodNamed Bd.named Bd.method).1
  have X0 : Stand p l e (rk 3 1 10 41) s m #[(.ref a1), .null, (.ref aDef), (.int 0)] below meth c s₁ [] 0 0 := Stand.of_body Bd
  have e0 : s₁.heap = h0 := by rw [← hh, Bd.state]; rfl
  have N0 := Fr.nil n0
  refine og (Q := fun o U' => ∃ v L, o = .returned v ∧ Q_add3fn Z ku0 ku1 ku2 ku3 aDef aCac aEmp aMir kDef cCac a1 mc1 h0 n0 v U'.heap L ∧ FrameEnd s o U' L (rk 3 1 10 41).cells (rk 3 1 10 41).slots) (fun t k => castTop (ef_add3fn m a1 aDef (0 : Int32)) k) ?_
  show OG p e below _ s₁ m 0 #[vr a1, .val .null, vr aDef, vi 0] []
  refine qj X0.here hx hby dj38_24_0 rfl ?_
  refine qa X0.here hx hby dj38_24_1 rfl rfl ?_
  obtain ⟨c43, Ar43, q43, S43, M43, H43, G43⟩ := (id (F0.2.2.2.2.2.2.2.2.2.2.2.2.2.2.1.ext O0.2))
  refine og (fun _ k => X0.arraylength hx (cell := c43) (by rw [e0]; exact Ar43.1) (State.isArrayOf_alike hZ.alike Ar43.2.1) (g := (mkF m 2 #[vr a1, .val .null, vr aDef, vi 0] [(.ref aDef), (.int 0)])) rfl (rest := [(.int 0)]) rfl (hb hby dj38_24_2) _ k) ?_
  rw [len_of S43 M43]
  show OG p e below _ s₁ m 3 #[vr a1, .val .null, vr aDef, vi 0] [(.int 0), (.int 0)]
  refine og (fun _ k => XS.icmpNo X0.here hx rfl (hb hby dj38_24_3) rfl (by decide) k) ?_
  show OG p e below _ s₁ m 6 #[vr a1, .val .null, vr aDef, vi 0] []
  refine qa X0.here hx hby dj38_24_6 rfl rfl ?_
  obtain ⟨cl44, hcl44, hob44⟩ := PQ21.cell
  obtain ⟨_, _, ⟨T44, L44, k44, n44⟩, -, X44, ⟨Lc44, hQ44, l44, y44, z44⟩, st44⟩ := X0.privateBack hx (y := mn28) hown (mvT hZ (ow hw 47 rfl)) (mvT hZ (ow hw 48 rfl)) (own_selp hZ (ow hw 1 rfl) (ow hw 49 rfl) (ow hw 48 rfl) (by decide)) (Cond.privateMethod_at (mvP hZ (ow hw 49 rfl) (args := #[]))) (mvT hZ (ow hw 51 rfl)) (by decide) (backOf (W := 0) (rm_grow l Z a0 hw [] ku0 ku1 ku2 ku3 aDef aCac aEmp aMir kDef cCac F0 a1 mc1 h0 n0 O0 PQ21 PQ22 PQ23 PQ24 PQ25) hZ (ow hw 51 rfl) (ow hw 2 rfl) (by decide) (by decide)) (g := (mkF m 7 #[vr a1, .val .null, vr aDef, vi 0] [(.ref a1)])) rfl (by rw [hml]; rfl) (Steps.refl _) (a := a1) (by rw [e0]; exact hcl44) hob44 (argsL := []) (rest := []) (lenOf pd____Ljava_lang_Object_ rfl) rfl (by show 2 * 0 + _ ≤ _; exact Nat.le_of_eq rfl) (hb hby dj38_24_7) (fun _ _ => ⟨rfl, e0, (by decide : 0 + 1 ≤ _), (by decide : 0 + 10 ≤ _)⟩)
  dsimp only [Pt.U, Pt.locs, Pt.cells, Pt.slots] at X44 l44 y44 z44 st44 hQ44
  subst l44 y44 z44
  obtain ⟨r1_44, k1_44, rfl, Nq44, K44, x44_0, x44_1, x44_2, x44_3, x44_4, x44_5, x44_6⟩ := hQ44
  obtain ⟨L44, X44, N44⟩ := pk X44 (Fr.app N0 Nq44)
  have O44 := O0.keep K44 (allS PQ25 all0)
  have e44 : T44.heap = T44.heap := rfl
  have z45 := Nat.le_trans (Nat.le_refl _) K44.1
  have gex44_3 : n0 ≤ r1_44 := Nat.le_trans (own_sz O0) x44_3
  have ghx44_3 : h0.size ≤ r1_44 := Nat.le_trans (Nat.le_refl _) x44_3
  have lox44_3 : a1 < r1_44 := Nat.lt_of_lt_of_le PQ21.lt x44_3
  refine og (fun _ k => st44.trans k) ?_
  show OG p e below _ T44 m 10 #[vr a1, .val .null, vr aDef, vi 0] [(.ref r1_44)]
  refine og (fun _ k => XS.astoreN X44.here hx rfl (hb hby dj38_24_10) rfl rfl (l' := #[vr a1, .val .null, vr r1_44, vi 0]) rfl k) ?_
  refine qa X44.here hx hby dj38_24_11 rfl rfl ?_
  refine qj X44.here hx hby dj38_24_12 rfl ?_
  refine qa X44.here hx hby dj38_24_13 rfl rfl ?_
  obtain ⟨c46, Ar46, q46, S46, M46, H46, G46⟩ := (id x44_5)
  obtain ⟨T46, h46, X46, e46, W46, st46⟩ := stR X44 hx hZ e44 Ar46 (j := (0 : Int32)) (v := .null) (inb_of S46 ⟨by decide, by decide⟩) rfl (Or.inl rfl) (g := (mkF m 14 #[vr a1, .val .null, vr r1_44, vi 0] [.null, (.int 0), (.ref r1_44)])) rfl rfl (hb hby dj38_24_14)
  obtain ⟨L46, X46, N46⟩ := pk X46 (Fr.snoc X46 N44 gex44_3)
  have O46 := O44.wr W46 gex44_3
  have z47 := Nat.le_trans z45 (Nat.le_of_eq W46.size.symm)
  have V46 : Arv Z h46 r1_44 k1_44 (.object "java/lang/Object") (10 : Int32) [.null, .null] .null := Arv.set Ar46 q46 S46 M46 H46 G46 rfl W46 0 (by decide) (Nat.le_of_ble_eq_true rfl)
  refine og st46 ?_
  show OG p e below _ T46 m 15 #[vr a1, .val .null, vr r1_44, vi 0] []
  refine qa X46.here hx hby dj38_24_15 rfl rfl ?_
  refine qj X46.here hx hby dj38_24_16 rfl ?_
  refine qc X46.here hx hby dj38_24_17 ?_
  refine qe X46.here hx hby dj38_24_18 rfl ?_
  show OG p e below _ T46 m 19 #[vr a1, .val .null, vr r1_44, vi 0] [(.int ((0 : Int32) + (1 : Int32))), (.ref a1)]
  rw [show ((0 : Int32) + (1 : Int32)) = (1 : Int32) from by decide]
  have F49 := (x44_2.other W46 (Or.inl (Nat.ne_of_lt lox44_3)))
  have kg50 := (((Keep.refl _ [a1, r1_44]).trans K44 (aS (om 0 rfl) all0)).wr W46 (om 1 rfl))
  have F51 := (PQ21.keep kg50)
  obtain ⟨T48, h48, X48, e48, W48, st48⟩ := putF X46 hx hZ hown (host := "") (Or.inl (ow hw 40 rfl)) Via.refl e46 F49 F51 (Or.inl (ow hw 41 rfl)) (ow hw 1 rfl) (ty := .int) (by decide) rfl rfl (g := (mkF m 19 #[vr a1, .val .null, vr r1_44, vi 0] [(.int 1), (.ref a1)])) rfl rfl (hb hby dj38_24_19)
  obtain ⟨L48, X48, N48⟩ := pk X48 (Fr.snoc X48 N46 PQ25)
  have O48 := O46.wr W48 PQ25
  have z52 := Nat.le_trans z47 (Nat.le_of_eq W48.size.symm)
  have F48 : Fld Z h48 a1 "java/util/ArrayList" "size" "I" (.int 1) := F49.same W48
  refine og st48 ?_
  show OG p e below _ T48 m 22 #[vr a1, .val .null, vr r1_44, vi 0] []
  obtain ⟨fs, hr, hrun, hended, hW, hsame⟩ := X48.leave (v := none) (fun h => rfl)
  refine ⟨_, _, X48.returnOut hx Bd.returns (hb hby dj38_24_22) hr, hrun, hended, _, _, rfl, ?_, ⟨_, rfl⟩, hW, hsame.mono (by decide) (by decide)⟩
  show Q_add3fn Z ku0 ku1 ku2 ku3 aDef aCac aEmp aMir kDef cCac a1 mc1 h0 n0 _ T48.heap _
  rw [e48]
  have F53 := (oo W48 (x44_0.other W46 (Or.inl (Nat.ne_of_lt lox44_3))) (lp_1 hw) (lp_2 hw) (by decide))
  have F54 := (oo W48 (x44_1.other W46 (Or.inl (Nat.ne_of_lt lox44_3))) (lp_0 hw) (lp_2 hw) (by decide))
  have kg55 := (((Keep.refl _ [r1_44, a1]).wr W46 (om 0 rfl)).wr W48 (om 1 rfl))
  have F56 := (x44_4.keep kg55)
  have F57 := (V46.other W48 (Ne.symm (Nat.ne_of_lt lox44_3)))
  exact ⟨r1_44, k1_44, rfl, N48, ((((Keep.refl _ [a1]).trans K44 (aS (om 0 rfl) all0)).wr W46 (Or.inr ghx44_3)).wr W48 (om 0 rfl)), F53, F54, F48, ghx44_3, F56, F57, x44_6⟩
theorem dj38_25_0 : decode jdk_38_method_25_code 0 = .ok (.aload_n 0, 1) := by decide +kernel
theorem dj38_25_1 : decode jdk_38_method_25_code 1 = .ok (.dup, 1) := by decide +kernel
theorem dj38_25_2 : decode jdk_38_method_25_code 2 = .ok (.getfield 63, 3) := by decide +kernel
theorem dj38_25_5 : decode jdk_38_method_25_code 5 = .ok (.iconst 1, 1) := by decide +kernel
theorem dj38_25_6 : decode jdk_38_method_25_code 6 = .ok (.iadd, 1) := by decide +kernel
theorem dj38_25_7 : decode jdk_38_method_25_code 7 = .ok (.putfield 63, 3) := by decide +kernel
theorem dj38_25_10 : decode jdk_38_method_25_code 10 = .ok (.aload_n 0, 1) := by decide +kernel
theorem dj38_25_11 : decode jdk_38_method_25_code 11 = .ok (.aload_n 1, 1) := by decide +kernel
theorem dj38_25_12 : decode jdk_38_method_25_code 12 = .ok (.aload_n 0, 1) := by decide +kernel
theorem dj38_25_13 : decode jdk_38_method_25_code 13 = .ok (.getfield 9, 3) := by decide +kernel
theorem dj38_25_16 : decode jdk_38_method_25_code 16 = .ok (.aload_n 0, 1) := by decide +kernel
theorem dj38_25_17 : decode jdk_38_method_25_code 17 = .ok (.getfield 48, 3) := by decide +kernel
theorem dj38_25_20 : decode jdk_38_method_25_code 20 = .ok (.invokevirtual 131, 3) := by decide +kernel
theorem pd_Ljava_lang_Object___Ljava_lang_Object__I__V : parseMethodDescriptor "(Ljava/lang/Object;[Ljava/lang/Object;I)V" = some ⟨[(.object "java/lang/Object"), (.array (.object "java/lang/Object")), .int], none⟩ := by decide +kernel
theorem dj38_25_23 : decode jdk_38_method_25_code 23 = .ok (.iconst 1, 1) := by decide +kernel
theorem dj38_25_24 : decode jdk_38_method_25_code 24 = .ok (.ireturn, 1) := by decide +kernel
def Q_addfn (Z : State) (ku0 ku1 ku2 ku3 aDef aCac aEmp aMir : Addr) (kDef : ClassId) (cCac : Cell) (a1 : Addr) (mc1 : Int32) (h0 : Heap) (n0 : Nat) (v : Option Value) (h : Heap) (L : List Loc) : Prop := ∃ (r1 : Addr) (k1 : ClassId), v = some (.int 1) ∧ Fr n0 L ∧ Keep h0 h [a1] ∧ Fld Z h a1 "java/util/AbstractList" "modCount" "I" (.int (mc1 + (1 : Int32))) ∧ Fld Z h a1 "java/util/ArrayList" "elementData" "[Ljava/lang/Object;" (.ref r1) ∧ Fld Z h a1 "java/util/ArrayList" "size" "I" (.int 1) ∧ h0.size ≤ r1 ∧ Exa Z h r1 "[Ljava/lang/Object;" ∧ Arv Z h r1 k1 (.object "java/lang/Object") (10 : Int32) [.null, .null] .null ∧ Ovr Z k1 "java/lang/Object"
theorem ef_addfn (m : MethodId) (x0 : Addr) : entryFrame m #[(.ref x0), .null] 2 = mkF m 0 #[vr x0, .val .null] [] := by first | (simp [entryFrame, mkF, argsToLocals, Value.category]; done) | rfl
theorem rm_addfn (l : Launch) (Z : State) (a0 : Array Value) (hw : HW Z a0) (ws : List Jvm.Cond) (ku0 ku1 ku2 ku3 aDef aCac aEmp aMir : Addr) (kDef : ClassId) (cCac : Cell) (F0 : OwnFacts Z ku0 ku1 ku2 ku3 aDef aCac aEmp aMir kDef cCac) (a1 : Addr) (mc1 : Int32) (h0 : Heap) (n0 : Nat) (O0 : Old Z n0 h0) (PQ26 : Exa Z h0 a1 "java/util/ArrayList") (PQ27 : Fld Z h0 a1 "java/util/AbstractList" "modCount" "I" (.int mc1)) (PQ28 : Fld Z h0 a1 "java/util/ArrayList" "elementData" "[Ljava/lang/Object;" (.ref aDef)) (PQ29 : Fld Z h0 a1 "java/util/ArrayList" "size" "I" (.int 0)) (PQ30 : n0 ≤ a1) :
    MetFree l mn26 (head1 (Jvm.Cond.code mn26 jdk_38_method_25_code 2 (some .boolean) :: ws) (rk 4 1 10 56)) (fun a U => a = #[(.ref a1), .null] ∧ Z.Warmed39 U.vm ∧ U.heap = h0) (fun _ _ _ _ _ => True) (fun _ U o U' => ∃ v L, o = .returned v ∧ Q_addfn Z ku0 ku1 ku2 ku3 aDef aCac aEmp aMir kDef cCac a1 mc1 h0 n0 v U'.heap L ∧ FrameEnd U o U' L (rk 4 1 10 56).cells (rk 4 1 10 56).slots) := by
  refine MetFree.of_bodySF (plainFor_of_name pn_java_util_ArrayList) hisR ?_
  intro p e s m args below meth c s₁ Bd hml0 hP hK
  obtain ⟨rfl, hZ, hh⟩ := hP
  have hx := Bd.exec
  have hby := Bd.bytes
  have hml : c.maxLocals = 2 := hml0
  have hown : s.vm.findClass "java/util/ArrayList" = some m.cls := findClass_of_methodNamed Bd.named
  have hnm := (name_of_methodNamed Bd.named Bd.method).1
  have X0 : Stand p l e (rk 4 1 10 56) s m #[(.ref a1), .null] below meth c s₁ [] 0 0 := Stand.of_body Bd
  have e0 : s₁.heap = h0 := by rw [← hh, Bd.state]; rfl
  have N0 := Fr.nil n0
  refine og (Q := fun o U' => ∃ v L, o = .returned v ∧ Q_addfn Z ku0 ku1 ku2 ku3 aDef aCac aEmp aMir kDef cCac a1 mc1 h0 n0 v U'.heap L ∧ FrameEnd s o U' L (rk 4 1 10 56).cells (rk 4 1 10 56).slots) (fun t k => castTop (ef_addfn m a1) k) ?_
  show OG p e below _ s₁ m 0 #[vr a1, .val .null] []
  refine qa X0.here hx hby dj38_25_0 rfl rfl ?_
  refine qd X0.here hx hby dj38_25_1 rfl rfl ?_
  obtain ⟨T58, X58, e58, st58⟩ := getF X0 hx hZ hown (host := "") (Or.inl (ow hw 38 rfl)) (Via.of (ow hw 39 rfl)) e0 PQ27 (g := (mkF m 2 #[vr a1, .val .null] [(.ref a1), (.ref a1)])) rfl rfl (hb hby dj38_25_2)
  refine og st58 ?_
  show OG p e below _ T58 m 5 #[vr a1, .val .null] [(.int mc1), (.ref a1)]
  refine qc X58.here hx hby dj38_25_5 ?_
  refine qe X58.here hx hby dj38_25_6 rfl ?_
  obtain ⟨T59, h59, X59, e59, W59, st59⟩ := putF X58 hx hZ hown (host := "") (Or.inl (ow hw 38 rfl)) (Via.of (ow hw 39 rfl)) e58 PQ27 PQ26 (Or.inl (ow hw 22 rfl)) (ow hw 1 rfl) (ty := .int) (by decide) rfl rfl (g := (mkF m 7 #[vr a1, .val .null] [(.int (mc1 + (1 : Int32))), (.ref a1)])) rfl rfl (hb hby dj38_25_7)
  obtain ⟨L59, X59, N59⟩ := pk X59 (Fr.snoc X59 N0 PQ30)
  have O59 := O0.wr W59 PQ30
  have z60 := Nat.le_trans (Nat.le_refl _) (Nat.le_of_eq W59.size.symm)
  have F59 : Fld Z h59 a1 "java/util/AbstractList" "modCount" "I" (.int (mc1 + (1 : Int32))) := PQ27.same W59
  refine og st59 ?_
  show OG p e below _ T59 m 10 #[vr a1, .val .null] []
  refine qa X59.here hx hby dj38_25_10 rfl rfl ?_
  refine qa X59.here hx hby dj38_25_11 rfl rfl ?_
  refine qa X59.here hx hby dj38_25_12 rfl rfl ?_
  have F62 := (oo W59 PQ28 (lp_0 hw) (lp_1 hw) (by decide))
  obtain ⟨T61, X61, e61, st61⟩ := getF X59 hx hZ hown (host := "") (Or.inl (ow hw 24 rfl)) Via.refl e59 F62 (g := (mkF m 13 #[vr a1, .val .null] [(.ref a1), .null, (.ref a1)])) rfl rfl (hb hby dj38_25_13)
  refine og st61 ?_
  show OG p e below _ T61 m 16 #[vr a1, .val .null] [(.ref aDef), .null, (.ref a1)]
  refine qa X61.here hx hby dj38_25_16 rfl rfl ?_
  have F64 := (oo W59 PQ29 (lp_2 hw) (lp_1 hw) (by decide))
  obtain ⟨T63, X63, e63, st63⟩ := getF X61 hx hZ hown (host := "") (Or.inl (ow hw 40 rfl)) Via.refl e61 F64 (g := (mkF m 17 #[vr a1, .val .null] [(.ref a1), (.ref aDef), .null, (.ref a1)])) rfl rfl (hb hby dj38_25_17)
  refine og st63 ?_
  show OG p e below _ T63 m 20 #[vr a1, .val .null] [(.int 0), (.ref aDef), .null, (.ref a1)]
  have F65 := (PQ26.wr W59)
  obtain ⟨cl66, hcl66, hob66⟩ := F65.cell
  obtain ⟨_, _, ⟨T66, L66, k66, n66⟩, -, X66, ⟨Lc66, hQ66, l66, y66, z66⟩, st66⟩ := X63.privateBack hx (y := mn27) hown (mvT hZ (ow hw 42 rfl)) (mvT hZ (ow hw 43 rfl)) (own_selp hZ (ow hw 1 rfl) (ow hw 44 rfl) (ow hw 43 rfl) (by decide)) (Cond.privateMethod_at (mvP hZ (ow hw 44 rfl) (args := #[]))) (mvT hZ (ow hw 46 rfl)) (by decide) (backOf (W := 0) (rm_add3fn l Z a0 hw [] ku0 ku1 ku2 ku3 aDef aCac aEmp aMir kDef cCac F0 a1 (mc1 + (1 : Int32)) h59 n0 O59 F65 F59 F62 F64 PQ30) hZ (ow hw 46 rfl) (ow hw 2 rfl) (by decide) (by decide)) (g := (mkF m 20 #[vr a1, .val .null] [(.int 0), (.ref aDef), .null, (.ref a1)])) rfl (by rw [hml]; rfl) (Steps.refl _) (a := a1) (by rw [e63]; exact hcl66) hob66 (argsL := [.null, (.ref aDef), (.int 0)]) (rest := []) (lenOf pd_Ljava_lang_Object___Ljava_lang_Object__I__V rfl) rfl (by show 2 * 0 + _ ≤ _; exact Nat.le_of_eq rfl) (hb hby dj38_25_20) (fun _ _ => ⟨rfl, e63, (by decide : 0 + 1 ≤ _), (by decide : 0 + 10 ≤ _)⟩)
  dsimp only [Pt.U, Pt.locs, Pt.cells, Pt.slots] at X66 l66 y66 z66 st66 hQ66
  subst l66 y66 z66
  obtain ⟨r1_66, k1_66, rfl, Nq66, K66, x66_0, x66_1, x66_2, x66_3, x66_4, x66_5, x66_6⟩ := hQ66
  obtain ⟨L66, X66, N66⟩ := pk X66 (Fr.app N59 Nq66)
  have O66 := O59.keep K66 (allS PQ30 all0)
  have e66 : T66.heap = T66.heap := rfl
  have z67 := Nat.le_trans z60 K66.1
  have gex66_3 : n0 ≤ r1_66 := Nat.le_trans (own_sz O59) x66_3
  have ghx66_3 : h0.size ≤ r1_66 := Nat.le_trans z60 x66_3
  have lox66_3 : a1 < r1_66 := Nat.lt_of_lt_of_le F65.lt x66_3
  refine og (fun _ k => st66.trans k) ?_
  show OG p e below _ T66 m 23 #[vr a1, .val .null] []
  refine qc X66.here hx hby dj38_25_23 ?_
  obtain ⟨fs, hr, hrun, hended, hW, hsame⟩ := X66.leave (v := some (.int 1)) (fun h => by rw [Bd.returns] at h; cases h)
  refine ⟨_, _, retOut X66 hx Bd.returns rfl (Or.inl ⟨rfl, Or.inr (Or.inl rfl), _, rfl⟩) (hb hby dj38_25_24) hr, hrun, hended, _, _, rfl, ?_, ⟨_, rfl⟩, hW, hsame.mono (by decide) (by decide)⟩
  show Q_addfn Z ku0 ku1 ku2 ku3 aDef aCac aEmp aMir kDef cCac a1 mc1 h0 n0 _ T66.heap _
  rw [e66]
  exact ⟨r1_66, k1_66, rfl, N66, (((Keep.refl _ [a1]).wr W59 (om 0 rfl)).trans K66 (aS (om 0 rfl) all0)), x66_0, x66_1, x66_2, ghx66_3, x66_4, x66_5, x66_6⟩
def Q_add3fr (Z : State) (ku0 ku1 ku2 ku3 aDef aCac aEmp aMir : Addr) (kDef : ClassId) (cCac : Cell) (a1 : Addr) (a2 : Addr) (K9 : String) (mc1 : Int32) (h0 : Heap) (n0 : Nat) (v : Option Value) (h : Heap) (L : List Loc) : Prop := ∃ (r1 : Addr) (k1 : ClassId), v = none ∧ Fr n0 L ∧ Keep h0 h [a1] ∧ Fld Z h a1 "java/util/AbstractList" "modCount" "I" (.int mc1) ∧ Fld Z h a1 "java/util/ArrayList" "elementData" "[Ljava/lang/Object;" (.ref r1) ∧ Fld Z h a1 "java/util/ArrayList" "size" "I" (.int 1) ∧ h0.size ≤ r1 ∧ Exa Z h r1 "[Ljava/lang/Object;" ∧ Arv Z h r1 k1 (.object "java/lang/Object") (10 : Int32) [(.ref a2), .null] .null ∧ Ovr Z k1 "java/lang/Object"
theorem ef_add3fr (m : MethodId) (x0 : Addr) (x1 : Addr) (x2 : Addr) (x3 : Int32) : entryFrame m #[(.ref x0), (.ref x1), (.ref x2), (.int x3)] 4 = mkF m 0 #[vr x0, vr x1, vr x2, vi x3] [] := by first | (simp [entryFrame, mkF, argsToLocals, Value.category]; done) | rfl
theorem rm_add3fr (l : Launch) (Z : State) (a0 : Array Value) (hw : HW Z a0) (ws : List Jvm.Cond) (ku0 ku1 ku2 ku3 aDef aCac aEmp aMir : Addr) (kDef : ClassId) (cCac : Cell) (F0 : OwnFacts Z ku0 ku1 ku2 ku3 aDef aCac aEmp aMir kDef cCac) (a1 : Addr) (a2 : Addr) (K9 : String) (mc1 : Int32) (h0 : Heap) (n0 : Nat) (O0 : Old Z n0 h0) (PQ32 : Exa Z h0 a1 "java/util/ArrayList") (PQ33 : Fld Z h0 a1 "java/util/AbstractList" "modCount" "I" (.int mc1)) (PQ34 : Fld Z h0 a1 "java/util/ArrayList" "elementData" "[Ljava/lang/Object;" (.ref aDef)) (PQ35 : Fld Z h0 a1 "java/util/ArrayList" "size" "I" (.int 0)) (PQ36 : n0 ≤ a1) (PQ31 : Exa Z h0 a2 K9) (PK9 : (Jvm.Cond.castable K9 "java/lang/Object").before a0 Z = true) :
    MetFree l mn27 (head1 (Jvm.Cond.code mn27 jdk_38_method_24_code 4 none :: ws) (rk 3 1 10 41)) (fun a U => a = #[(.ref a1), (.ref a2), (.ref aDef), (.int 0)] ∧ Z.Warmed39 U.vm ∧ U.heap = h0) (fun _ _ _ _ _ => True) (fun _ U o U' => ∃ v L, o = .returned v ∧ Q_add3fr Z ku0 ku1 ku2 ku3 aDef aCac aEmp aMir kDef cCac a1 a2 K9 mc1 h0 n0 v U'.heap L ∧ FrameEnd U o U' L (rk 3 1 10 41).cells (rk 3 1 10 41).slots) := by
  refine MetFree.of_bodySF (plainFor_of_name pn_java_util_ArrayList) hisR ?_
  intro p e s m args below meth c s₁ Bd hml0 hP hK
  obtain ⟨rfl, hZ, hh⟩ := hP
  have hx := Bd.exec
  have hby := Bd.bytes
  have hml : c.maxLocals = 4 := hml0
  have hown : s.vm.findClass "java/util/ArrayList" = some m.cls := findClass_of_methodNamed Bd.named
  have hnm := (name_of_methodNamed Bd.named Bd.method).1
  have X0 : Stand p l e (rk 3 1 10 41) s m #[(.ref a1), (.ref a2), (.ref aDef), (.int 0)] below meth c s₁ [] 0 0 := Stand.of_body Bd
  have e0 : s₁.heap = h0 := by rw [← hh, Bd.state]; rfl
  have N0 := Fr.nil n0
  refine og (Q := fun o U' => ∃ v L, o = .returned v ∧ Q_add3fr Z ku0 ku1 ku2 ku3 aDef aCac aEmp aMir kDef cCac a1 a2 K9 mc1 h0 n0 v U'.heap L ∧ FrameEnd s o U' L (rk 3 1 10 41).cells (rk 3 1 10 41).slots) (fun t k => castTop (ef_add3fr m a1 a2 aDef (0 : Int32)) k) ?_
  show OG p e below _ s₁ m 0 #[vr a1, vr a2, vr aDef, vi 0] []
  refine qj X0.here hx hby dj38_24_0 rfl ?_
  refine qa X0.here hx hby dj38_24_1 rfl rfl ?_
  obtain ⟨c68, Ar68, q68, S68, M68, H68, G68⟩ := (id (F0.2.2.2.2.2.2.2.2.2.2.2.2.2.2.1.ext O0.2))
  refine og (fun _ k => X0.arraylength hx (cell := c68) (by rw [e0]; exact Ar68.1) (State.isArrayOf_alike hZ.alike Ar68.2.1) (g := (mkF m 2 #[vr a1, vr a2, vr aDef, vi 0] [(.ref aDef), (.int 0)])) rfl (rest := [(.int 0)]) rfl (hb hby dj38_24_2) _ k) ?_
  rw [len_of S68 M68]
  show OG p e below _ s₁ m 3 #[vr a1, vr a2, vr aDef, vi 0] [(.int 0), (.int 0)]
  refine og (fun _ k => XS.icmpNo X0.here hx rfl (hb hby dj38_24_3) rfl (by decide) k) ?_
  show OG p e below _ s₁ m 6 #[vr a1, vr a2, vr aDef, vi 0] []
  refine qa X0.here hx hby dj38_24_6 rfl rfl ?_
  obtain ⟨cl69, hcl69, hob69⟩ := PQ32.cell
  obtain ⟨_, _, ⟨T69, L69, k69, n69⟩, -, X69, ⟨Lc69, hQ69, l69, y69, z69⟩, st69⟩ := X0.privateBack hx (y := mn28) hown (mvT hZ (ow hw 47 rfl)) (mvT hZ (ow hw 48 rfl)) (own_selp hZ (ow hw 1 rfl) (ow hw 49 rfl) (ow hw 48 rfl) (by decide)) (Cond.privateMethod_at (mvP hZ (ow hw 49 rfl) (args := #[]))) (mvT hZ (ow hw 51 rfl)) (by decide) (backOf (W := 0) (rm_grow l Z a0 hw [] ku0 ku1 ku2 ku3 aDef aCac aEmp aMir kDef cCac F0 a1 mc1 h0 n0 O0 PQ32 PQ33 PQ34 PQ35 PQ36) hZ (ow hw 51 rfl) (ow hw 2 rfl) (by decide) (by decide)) (g := (mkF m 7 #[vr a1, vr a2, vr aDef, vi 0] [(.ref a1)])) rfl (by rw [hml]; rfl) (Steps.refl _) (a := a1) (by rw [e0]; exact hcl69) hob69 (argsL := []) (rest := []) (lenOf pd____Ljava_lang_Object_ rfl) rfl (by show 2 * 0 + _ ≤ _; exact Nat.le_of_eq rfl) (hb hby dj38_24_7) (fun _ _ => ⟨rfl, e0, (by decide : 0 + 1 ≤ _), (by decide : 0 + 10 ≤ _)⟩)
  dsimp only [Pt.U, Pt.locs, Pt.cells, Pt.slots] at X69 l69 y69 z69 st69 hQ69
  subst l69 y69 z69
  obtain ⟨r1_69, k1_69, rfl, Nq69, K69, x69_0, x69_1, x69_2, x69_3, x69_4, x69_5, x69_6⟩ := hQ69
  obtain ⟨L69, X69, N69⟩ := pk X69 (Fr.app N0 Nq69)
  have O69 := O0.keep K69 (allS PQ36 all0)
  have e69 : T69.heap = T69.heap := rfl
  have z70 := Nat.le_trans (Nat.le_refl _) K69.1
  have gex69_3 : n0 ≤ r1_69 := Nat.le_trans (own_sz O0) x69_3
  have ghx69_3 : h0.size ≤ r1_69 := Nat.le_trans (Nat.le_refl _) x69_3
  have lox69_3 : a1 < r1_69 := Nat.lt_of_lt_of_le PQ32.lt x69_3
  refine og (fun _ k => st69.trans k) ?_
  show OG p e below _ T69 m 10 #[vr a1, vr a2, vr aDef, vi 0] [(.ref r1_69)]
  refine og (fun _ k => XS.astoreN X69.here hx rfl (hb hby dj38_24_10) rfl rfl (l' := #[vr a1, vr a2, vr r1_69, vi 0]) rfl k) ?_
  refine qa X69.here hx hby dj38_24_11 rfl rfl ?_
  refine qj X69.here hx hby dj38_24_12 rfl ?_
  refine qa X69.here hx hby dj38_24_13 rfl rfl ?_
  obtain ⟨c71, Ar71, q71, S71, M71, H71, G71⟩ := (id x69_5)
  have F72 := (PQ31.keep K69)
  obtain ⟨T71, h71, X71, e71, W71, st71⟩ := stR X69 hx hZ e69 Ar71 (j := (0 : Int32)) (v := (.ref a2)) (inb_of S71 ⟨by decide, by decide⟩) rfl (Sto.ofV Ar71 q71 x69_6 (Ins.of_exa F72 PK9)) (g := (mkF m 14 #[vr a1, vr a2, vr r1_69, vi 0] [(.ref a2), (.int 0), (.ref r1_69)])) rfl rfl (hb hby dj38_24_14)
  obtain ⟨L71, X71, N71⟩ := pk X71 (Fr.snoc X71 N69 gex69_3)
  have O71 := O69.wr W71 gex69_3
  have z73 := Nat.le_trans z70 (Nat.le_of_eq W71.size.symm)
  have V71 : Arv Z h71 r1_69 k1_69 (.object "java/lang/Object") (10 : Int32) [(.ref a2), .null] .null := Arv.set Ar71 q71 S71 M71 H71 G71 rfl W71 0 (by decide) (Nat.le_of_ble_eq_true rfl)
  refine og st71 ?_
  show OG p e below _ T71 m 15 #[vr a1, vr a2, vr r1_69, vi 0] []
  refine qa X71.here hx hby dj38_24_15 rfl rfl ?_
  refine qj X71.here hx hby dj38_24_16 rfl ?_
  refine qc X71.here hx hby dj38_24_17 ?_
  refine qe X71.here hx hby dj38_24_18 rfl ?_
  show OG p e below _ T71 m 19 #[vr a1, vr a2, vr r1_69, vi 0] [(.int ((0 : Int32) + (1 : Int32))), (.ref a1)]
  rw [show ((0 : Int32) + (1 : Int32)) = (1 : Int32) from by decide]
  have F75 := (x69_2.other W71 (Or.inl (Nat.ne_of_lt lox69_3)))
  have kg76 := (((Keep.refl _ [a1, r1_69]).trans K69 (aS (om 0 rfl) all0)).wr W71 (om 1 rfl))
  have F77 := (PQ32.keep kg76)
  obtain ⟨T74, h74, X74, e74, W74, st74⟩ := putF X71 hx hZ hown (host := "") (Or.inl (ow hw 40 rfl)) Via.refl e71 F75 F77 (Or.inl (ow hw 41 rfl)) (ow hw 1 rfl) (ty := .int) (by decide) rfl rfl (g := (mkF m 19 #[vr a1, vr a2, vr r1_69, vi 0] [(.int 1), (.ref a1)])) rfl rfl (hb hby dj38_24_19)
  obtain ⟨L74, X74, N74⟩ := pk X74 (Fr.snoc X74 N71 PQ36)
  have O74 := O71.wr W74 PQ36
  have z78 := Nat.le_trans z73 (Nat.le_of_eq W74.size.symm)
  have F74 : Fld Z h74 a1 "java/util/ArrayList" "size" "I" (.int 1) := F75.same W74
  refine og st74 ?_
  show OG p e below _ T74 m 22 #[vr a1, vr a2, vr r1_69, vi 0] []
  obtain ⟨fs, hr, hrun, hended, hW, hsame⟩ := X74.leave (v := none) (fun h => rfl)
  refine ⟨_, _, X74.returnOut hx Bd.returns (hb hby dj38_24_22) hr, hrun, hended, _, _, rfl, ?_, ⟨_, rfl⟩, hW, hsame.mono (by decide) (by decide)⟩
  show Q_add3fr Z ku0 ku1 ku2 ku3 aDef aCac aEmp aMir kDef cCac a1 a2 K9 mc1 h0 n0 _ T74.heap _
  rw [e74]
  have F79 := (oo W74 (x69_0.other W71 (Or.inl (Nat.ne_of_lt lox69_3))) (lp_1 hw) (lp_2 hw) (by decide))
  have F80 := (oo W74 (x69_1.other W71 (Or.inl (Nat.ne_of_lt lox69_3))) (lp_0 hw) (lp_2 hw) (by decide))
  have kg81 := (((Keep.refl _ [r1_69, a1]).wr W71 (om 0 rfl)).wr W74 (om 1 rfl))
  have F82 := (x69_4.keep kg81)
  have F83 := (V71.other W74 (Ne.symm (Nat.ne_of_lt lox69_3)))
  exact ⟨r1_69, k1_69, rfl, N74, ((((Keep.refl _ [a1]).trans K69 (aS (om 0 rfl) all0)).wr W71 (Or.inr ghx69_3)).wr W74 (om 0 rfl)), F79, F80, F74, ghx69_3, F82, F83, x69_6⟩
def Q_addfr (Z : State) (ku0 ku1 ku2 ku3 aDef aCac aEmp aMir : Addr) (kDef : ClassId) (cCac : Cell) (a1 : Addr) (a2 : Addr) (K9 : String) (mc1 : Int32) (h0 : Heap) (n0 : Nat) (v : Option Value) (h : Heap) (L : List Loc) : Prop := ∃ (r1 : Addr) (k1 : ClassId), v = some (.int 1) ∧ Fr n0 L ∧ Keep h0 h [a1] ∧ Fld Z h a1 "java/util/AbstractList" "modCount" "I" (.int (mc1 + (1 : Int32))) ∧ Fld Z h a1 "java/util/ArrayList" "elementData" "[Ljava/lang/Object;" (.ref r1) ∧ Fld Z h a1 "java/util/ArrayList" "size" "I" (.int 1) ∧ h0.size ≤ r1 ∧ Exa Z h r1 "[Ljava/lang/Object;" ∧ Arv Z h r1 k1 (.object "java/lang/Object") (10 : Int32) [(.ref a2), .null] .null ∧ Ovr Z k1 "java/lang/Object"
theorem ef_addfr (m : MethodId) (x0 : Addr) (x1 : Addr) : entryFrame m #[(.ref x0), (.ref x1)] 2 = mkF m 0 #[vr x0, vr x1] [] := by first | (simp [entryFrame, mkF, argsToLocals, Value.category]; done) | rfl
theorem rm_addfr (l : Launch) (Z : State) (a0 : Array Value) (hw : HW Z a0) (ws : List Jvm.Cond) (ku0 ku1 ku2 ku3 aDef aCac aEmp aMir : Addr) (kDef : ClassId) (cCac : Cell) (F0 : OwnFacts Z ku0 ku1 ku2 ku3 aDef aCac aEmp aMir kDef cCac) (a1 : Addr) (a2 : Addr) (K9 : String) (mc1 : Int32) (h0 : Heap) (n0 : Nat) (O0 : Old Z n0 h0) (PQ37 : Exa Z h0 a1 "java/util/ArrayList") (PQ38 : Fld Z h0 a1 "java/util/AbstractList" "modCount" "I" (.int mc1)) (PQ39 : Fld Z h0 a1 "java/util/ArrayList" "elementData" "[Ljava/lang/Object;" (.ref aDef)) (PQ40 : Fld Z h0 a1 "java/util/ArrayList" "size" "I" (.int 0)) (PQ41 : n0 ≤ a1) (PQ31 : Exa Z h0 a2 K9) (PK9 : (Jvm.Cond.castable K9 "java/lang/Object").before a0 Z = true) :
    MetFree l mn26 (head1 (Jvm.Cond.code mn26 jdk_38_method_25_code 2 (some .boolean) :: ws) (rk 4 1 10 56)) (fun a U => a = #[(.ref a1), (.ref a2)] ∧ Z.Warmed39 U.vm ∧ U.heap = h0) (fun _ _ _ _ _ => True) (fun _ U o U' => ∃ v L, o = .returned v ∧ Q_addfr Z ku0 ku1 ku2 ku3 aDef aCac aEmp aMir kDef cCac a1 a2 K9 mc1 h0 n0 v U'.heap L ∧ FrameEnd U o U' L (rk 4 1 10 56).cells (rk 4 1 10 56).slots) := by
  refine MetFree.of_bodySF (plainFor_of_name pn_java_util_ArrayList) hisR ?_
  intro p e s m args below meth c s₁ Bd hml0 hP hK
  obtain ⟨rfl, hZ, hh⟩ := hP
  have hx := Bd.exec
  have hby := Bd.bytes
  have hml : c.maxLocals = 2 := hml0
  have hown : s.vm.findClass "java/util/ArrayList" = some m.cls := findClass_of_methodNamed Bd.named
  have hnm := (name_of_methodNamed Bd.named Bd.method).1
  have X0 : Stand p l e (rk 4 1 10 56) s m #[(.ref a1), (.ref a2)] below meth c s₁ [] 0 0 := Stand.of_body Bd
  have e0 : s₁.heap = h0 := by rw [← hh, Bd.state]; rfl
  have N0 := Fr.nil n0
  refine og (Q := fun o U' => ∃ v L, o = .returned v ∧ Q_addfr Z ku0 ku1 ku2 ku3 aDef aCac aEmp aMir kDef cCac a1 a2 K9 mc1 h0 n0 v U'.heap L ∧ FrameEnd s o U' L (rk 4 1 10 56).cells (rk 4 1 10 56).slots) (fun t k => castTop (ef_addfr m a1 a2) k) ?_
  show OG p e below _ s₁ m 0 #[vr a1, vr a2] []
  refine qa X0.here hx hby dj38_25_0 rfl rfl ?_
  refine qd X0.here hx hby dj38_25_1 rfl rfl ?_
  obtain ⟨T84, X84, e84, st84⟩ := getF X0 hx hZ hown (host := "") (Or.inl (ow hw 38 rfl)) (Via.of (ow hw 39 rfl)) e0 PQ38 (g := (mkF m 2 #[vr a1, vr a2] [(.ref a1), (.ref a1)])) rfl rfl (hb hby dj38_25_2)
  refine og st84 ?_
  show OG p e below _ T84 m 5 #[vr a1, vr a2] [(.int mc1), (.ref a1)]
  refine qc X84.here hx hby dj38_25_5 ?_
  refine qe X84.here hx hby dj38_25_6 rfl ?_
  obtain ⟨T85, h85, X85, e85, W85, st85⟩ := putF X84 hx hZ hown (host := "") (Or.inl (ow hw 38 rfl)) (Via.of (ow hw 39 rfl)) e84 PQ38 PQ37 (Or.inl (ow hw 22 rfl)) (ow hw 1 rfl) (ty := .int) (by decide) rfl rfl (g := (mkF m 7 #[vr a1, vr a2] [(.int (mc1 + (1 : Int32))), (.ref a1)])) rfl rfl (hb hby dj38_25_7)
  obtain ⟨L85, X85, N85⟩ := pk X85 (Fr.snoc X85 N0 PQ41)
  have O85 := O0.wr W85 PQ41
  have z86 := Nat.le_trans (Nat.le_refl _) (Nat.le_of_eq W85.size.symm)
  have F85 : Fld Z h85 a1 "java/util/AbstractList" "modCount" "I" (.int (mc1 + (1 : Int32))) := PQ38.same W85
  refine og st85 ?_
  show OG p e below _ T85 m 10 #[vr a1, vr a2] []
  refine qa X85.here hx hby dj38_25_10 rfl rfl ?_
  refine qa X85.here hx hby dj38_25_11 rfl rfl ?_
  refine qa X85.here hx hby dj38_25_12 rfl rfl ?_
  have F88 := (oo W85 PQ39 (lp_0 hw) (lp_1 hw) (by decide))
  obtain ⟨T87, X87, e87, st87⟩ := getF X85 hx hZ hown (host := "") (Or.inl (ow hw 24 rfl)) Via.refl e85 F88 (g := (mkF m 13 #[vr a1, vr a2] [(.ref a1), (.ref a2), (.ref a1)])) rfl rfl (hb hby dj38_25_13)
  refine og st87 ?_
  show OG p e below _ T87 m 16 #[vr a1, vr a2] [(.ref aDef), (.ref a2), (.ref a1)]
  refine qa X87.here hx hby dj38_25_16 rfl rfl ?_
  have F90 := (oo W85 PQ40 (lp_2 hw) (lp_1 hw) (by decide))
  obtain ⟨T89, X89, e89, st89⟩ := getF X87 hx hZ hown (host := "") (Or.inl (ow hw 40 rfl)) Via.refl e87 F90 (g := (mkF m 17 #[vr a1, vr a2] [(.ref a1), (.ref aDef), (.ref a2), (.ref a1)])) rfl rfl (hb hby dj38_25_17)
  refine og st89 ?_
  show OG p e below _ T89 m 20 #[vr a1, vr a2] [(.int 0), (.ref aDef), (.ref a2), (.ref a1)]
  have F91 := (PQ37.wr W85)
  have F92 := (PQ31.wr W85)
  obtain ⟨cl93, hcl93, hob93⟩ := F91.cell
  obtain ⟨_, _, ⟨T93, L93, k93, n93⟩, -, X93, ⟨Lc93, hQ93, l93, y93, z93⟩, st93⟩ := X89.privateBack hx (y := mn27) hown (mvT hZ (ow hw 42 rfl)) (mvT hZ (ow hw 43 rfl)) (own_selp hZ (ow hw 1 rfl) (ow hw 44 rfl) (ow hw 43 rfl) (by decide)) (Cond.privateMethod_at (mvP hZ (ow hw 44 rfl) (args := #[]))) (mvT hZ (ow hw 46 rfl)) (by decide) (backOf (W := 0) (rm_add3fr l Z a0 hw [] ku0 ku1 ku2 ku3 aDef aCac aEmp aMir kDef cCac F0 a1 a2 K9 (mc1 + (1 : Int32)) h85 n0 O85 F91 F85 F88 F90 PQ41 F92 PK9) hZ (ow hw 46 rfl) (ow hw 2 rfl) (by decide) (by decide)) (g := (mkF m 20 #[vr a1, vr a2] [(.int 0), (.ref aDef), (.ref a2), (.ref a1)])) rfl (by rw [hml]; rfl) (Steps.refl _) (a := a1) (by rw [e89]; exact hcl93) hob93 (argsL := [(.ref a2), (.ref aDef), (.int 0)]) (rest := []) (lenOf pd_Ljava_lang_Object___Ljava_lang_Object__I__V rfl) rfl (by show 2 * 0 + _ ≤ _; exact Nat.le_of_eq rfl) (hb hby dj38_25_20) (fun _ _ => ⟨rfl, e89, (by decide : 0 + 1 ≤ _), (by decide : 0 + 10 ≤ _)⟩)
  dsimp only [Pt.U, Pt.locs, Pt.cells, Pt.slots] at X93 l93 y93 z93 st93 hQ93
  subst l93 y93 z93
  obtain ⟨r1_93, k1_93, rfl, Nq93, K93, x93_0, x93_1, x93_2, x93_3, x93_4, x93_5, x93_6⟩ := hQ93
  obtain ⟨L93, X93, N93⟩ := pk X93 (Fr.app N85 Nq93)
  have O93 := O85.keep K93 (allS PQ41 all0)
  have e93 : T93.heap = T93.heap := rfl
  have z94 := Nat.le_trans z86 K93.1
  have gex93_3 : n0 ≤ r1_93 := Nat.le_trans (own_sz O85) x93_3
  have ghx93_3 : h0.size ≤ r1_93 := Nat.le_trans z86 x93_3
  have lox93_3 : a1 < r1_93 := Nat.lt_of_lt_of_le F91.lt x93_3
  refine og (fun _ k => st93.trans k) ?_
  show OG p e below _ T93 m 23 #[vr a1, vr a2] []
  refine qc X93.here hx hby dj38_25_23 ?_
  obtain ⟨fs, hr, hrun, hended, hW, hsame⟩ := X93.leave (v := some (.int 1)) (fun h => by rw [Bd.returns] at h; cases h)
  refine ⟨_, _, retOut X93 hx Bd.returns rfl (Or.inl ⟨rfl, Or.inr (Or.inl rfl), _, rfl⟩) (hb hby dj38_25_24) hr, hrun, hended, _, _, rfl, ?_, ⟨_, rfl⟩, hW, hsame.mono (by decide) (by decide)⟩
  show Q_addfr Z ku0 ku1 ku2 ku3 aDef aCac aEmp aMir kDef cCac a1 a2 K9 mc1 h0 n0 _ T93.heap _
  rw [e93]
  exact ⟨r1_93, k1_93, rfl, N93, (((Keep.refl _ [a1]).wr W85 (om 0 rfl)).trans K93 (aS (om 0 rfl) all0)), x93_0, x93_1, x93_2, ghx93_3, x93_4, x93_5, x93_6⟩
def Q_add3sr (Z : State) (ku0 ku1 ku2 ku3 aDef aCac aEmp aMir : Addr) (kDef : ClassId) (cCac : Cell) (a1 : Addr) (e1 : Addr) (k1 : ClassId) (w0 : Value) (a2 : Addr) (K9 : String) (mc1 : Int32) (h0 : Heap) (n0 : Nat) (v : Option Value) (h : Heap) (L : List Loc) : Prop := v = none ∧ Fr n0 L ∧ Keep h0 h [a1, e1] ∧ Fld Z h a1 "java/util/AbstractList" "modCount" "I" (.int mc1) ∧ Fld Z h a1 "java/util/ArrayList" "elementData" "[Ljava/lang/Object;" (.ref e1) ∧ Fld Z h a1 "java/util/ArrayList" "size" "I" (.int 2) ∧ Arv Z h e1 k1 (.object "java/lang/Object") (10 : Int32) [w0, (.ref a2)] .null
theorem ef_add3sr (m : MethodId) (x0 : Addr) (x1 : Addr) (x2 : Addr) (x3 : Int32) : entryFrame m #[(.ref x0), (.ref x1), (.ref x2), (.int x3)] 4 = mkF m 0 #[vr x0, vr x1, vr x2, vi x3] [] := by first | (simp [entryFrame, mkF, argsToLocals, Value.category]; done) | rfl
theorem rm_add3sr (l : Launch) (Z : State) (a0 : Array Value) (hw : HW Z a0) (ws : List Jvm.Cond) (ku0 ku1 ku2 ku3 aDef aCac aEmp aMir : Addr) (kDef : ClassId) (cCac : Cell) (F0 : OwnFacts Z ku0 ku1 ku2 ku3 aDef aCac aEmp aMir kDef cCac) (a1 : Addr) (e1 : Addr) (k1 : ClassId) (w0 : Value) (a2 : Addr) (K9 : String) (mc1 : Int32) (h0 : Heap) (n0 : Nat) (O0 : Old Z n0 h0) (PQ43 : Exa Z h0 a1 "java/util/ArrayList") (PQ44 : Fld Z h0 a1 "java/util/AbstractList" "modCount" "I" (.int mc1)) (PQ45 : Fld Z h0 a1 "java/util/ArrayList" "elementData" "[Ljava/lang/Object;" (.ref e1)) (PQ46 : Fld Z h0 a1 "java/util/ArrayList" "size" "I" (.int 1)) (PQ47 : n0 ≤ a1) (PQ48 : Arv Z h0 e1 k1 (.object "java/lang/Object") (10 : Int32) [w0, .null] .null) (PQ49 : Ovr Z k1 "java/lang/Object") (PQ50 : Exa Z h0 e1 "[Ljava/lang/Object;") (PQ42 : Exa Z h0 a2 K9) (PK9 : (Jvm.Cond.castable K9 "java/lang/Object").before a0 Z = true) (PO1 : a1 < e1) :
    MetFree l mn27 (head1 (Jvm.Cond.code mn27 jdk_38_method_24_code 4 none :: ws) (rk 0 0 0 0)) (fun a U => a = #[(.ref a1), (.ref a2), (.ref e1), (.int 1)] ∧ Z.Warmed39 U.vm ∧ U.heap = h0) (fun _ _ _ _ _ => True) (fun _ U o U' => ∃ v L, o = .returned v ∧ Q_add3sr Z ku0 ku1 ku2 ku3 aDef aCac aEmp aMir kDef cCac a1 e1 k1 w0 a2 K9 mc1 h0 n0 v U'.heap L ∧ FrameEnd U o U' L (rk 0 0 0 0).cells (rk 0 0 0 0).slots) := by
  refine MetFree.of_bodySF (plainFor_of_name pn_java_util_ArrayList) hisR ?_
  intro p e s m args below meth c s₁ Bd hml0 hP hK
  obtain ⟨rfl, hZ, hh⟩ := hP
  have hx := Bd.exec
  have hby := Bd.bytes
  have hml : c.maxLocals = 4 := hml0
  have hown : s.vm.findClass "java/util/ArrayList" = some m.cls := findClass_of_methodNamed Bd.named
  have hnm := (name_of_methodNamed Bd.named Bd.method).1
  have X0 : Stand p l e (rk 0 0 0 0) s m #[(.ref a1), (.ref a2), (.ref e1), (.int 1)] below meth c s₁ [] 0 0 := Stand.of_body Bd
  have e0 : s₁.heap = h0 := by rw [← hh, Bd.state]; rfl
  have N0 := Fr.nil n0
  refine og (Q := fun o U' => ∃ v L, o = .returned v ∧ Q_add3sr Z ku0 ku1 ku2 ku3 aDef aCac aEmp aMir kDef cCac a1 e1 k1 w0 a2 K9 mc1 h0 n0 v U'.heap L ∧ FrameEnd s o U' L (rk 0 0 0 0).cells (rk 0 0 0 0).slots) (fun t k => castTop (ef_add3sr m a1 a2 e1 (1 : Int32)) k) ?_
  show OG p e below _ s₁ m 0 #[vr a1, vr a2, vr e1, vi 1] []
  refine qj X0.here hx hby dj38_24_0 rfl ?_
  refine qa X0.here hx hby dj38_24_1 rfl rfl ?_
  obtain ⟨c95, Ar95, q95, S95, M95, H95, G95⟩ := (id PQ48)
  refine og (fun _ k => X0.arraylength hx (cell := c95) (by rw [e0]; exact Ar95.1) (State.isArrayOf_alike hZ.alike Ar95.2.1) (g := (mkF m 2 #[vr a1, vr a2, vr e1, vi 1] [(.ref e1), (.int 1)])) rfl (rest := [(.int 1)]) rfl (hb hby dj38_24_2) _ k) ?_
  rw [len_of S95 M95]
  show OG p e below _ s₁ m 3 #[vr a1, vr a2, vr e1, vi 1] [(.int 10), (.int 1)]
  refine og (fun _ k => XS.icmpYes X0.here hx rfl (pc0 := 3) (pc' := 11) rfl (hb hby dj38_24_3) rfl (by decide) (by decide) (by decide) k) ?_
  show OG p e below _ s₁ m 11 #[vr a1, vr a2, vr e1, vi 1] []
  refine qa X0.here hx hby dj38_24_11 rfl rfl ?_
  refine qj X0.here hx hby dj38_24_12 rfl ?_
  refine qa X0.here hx hby dj38_24_13 rfl rfl ?_
  obtain ⟨c96, Ar96, q96, S96, M96, H96, G96⟩ := (id PQ48)
  obtain ⟨T96, h96, X96, e96, W96, st96⟩ := stR X0 hx hZ e0 Ar96 (j := (1 : Int32)) (v := (.ref a2)) (inb_of S96 ⟨by decide, by decide⟩) rfl (Sto.ofV Ar96 q96 PQ49 (Ins.of_exa PQ42 PK9)) (g := (mkF m 14 #[vr a1, vr a2, vr e1, vi 1] [(.ref a2), (.int 1), (.ref e1)])) rfl rfl (hb hby dj38_24_14)
  have le97 : n0 ≤ e1 := Nat.le_trans PQ47 (Nat.le_of_lt PO1)
  obtain ⟨L96, X96, N96⟩ := pk X96 (Fr.snoc X96 N0 le97)
  have O96 := O0.wr W96 le97
  have z98 := Nat.le_trans (Nat.le_refl _) (Nat.le_of_eq W96.size.symm)
  have V96 : Arv Z h96 e1 k1 (.object "java/lang/Object") (10 : Int32) [w0, (.ref a2)] .null := Arv.set Ar96 q96 S96 M96 H96 G96 rfl W96 1 (by decide) (Nat.le_of_ble_eq_true rfl)
  refine og st96 ?_
  show OG p e below _ T96 m 15 #[vr a1, vr a2, vr e1, vi 1] []
  refine qa X96.here hx hby dj38_24_15 rfl rfl ?_
  refine qj X96.here hx hby dj38_24_16 rfl ?_
  refine qc X96.here hx hby dj38_24_17 ?_
  refine qe X96.here hx hby dj38_24_18 rfl ?_
  show OG p e below _ T96 m 19 #[vr a1, vr a2, vr e1, vi 1] [(.int ((1 : Int32) + (1 : Int32))), (.ref a1)]
  rw [show ((1 : Int32) + (1 : Int32)) = (2 : Int32) from by decide]
  have F100 := (PQ46.other W96 (Or.inl (Nat.ne_of_lt PO1)))
  have F101 := (PQ43.wr W96)
  obtain ⟨T99, h99, X99, e99, W99, st99⟩ := putF X96 hx hZ hown (host := "") (Or.inl (ow hw 40 rfl)) Via.refl e96 F100 F101 (Or.inl (ow hw 41 rfl)) (ow hw 1 rfl) (ty := .int) (by decide) rfl rfl (g := (mkF m 19 #[vr a1, vr a2, vr e1, vi 1] [(.int 2), (.ref a1)])) rfl rfl (hb hby dj38_24_19)
  obtain ⟨L99, X99, N99⟩ := pk X99 (Fr.snoc X99 N96 PQ47)
  have O99 := O96.wr W99 PQ47
  have z102 := Nat.le_trans z98 (Nat.le_of_eq W99.size.symm)
  have F99 : Fld Z h99 a1 "java/util/ArrayList" "size" "I" (.int 2) := F100.same W99
  refine og st99 ?_
  show OG p e below _ T99 m 22 #[vr a1, vr a2, vr e1, vi 1] []
  obtain ⟨fs, hr, hrun, hended, hW, hsame⟩ := X99.leave (v := none) (fun h => rfl)
  refine ⟨_, _, X99.returnOut hx Bd.returns (hb hby dj38_24_22) hr, hrun, hended, _, _, rfl, ?_, ⟨_, rfl⟩, hW, hsame.mono (by decide) (by decide)⟩
  show Q_add3sr Z ku0 ku1 ku2 ku3 aDef aCac aEmp aMir kDef cCac a1 e1 k1 w0 a2 K9 mc1 h0 n0 _ T99.heap _
  rw [e99]
  have F103 := (oo W99 (PQ44.other W96 (Or.inl (Nat.ne_of_lt PO1))) (lp_1 hw) (lp_2 hw) (by decide))
  have F104 := (oo W99 (PQ45.other W96 (Or.inl (Nat.ne_of_lt PO1))) (lp_0 hw) (lp_2 hw) (by decide))
  have F105 := (V96.other W99 (Ne.symm (Nat.ne_of_lt PO1)))
  exact ⟨rfl, N99, (((Keep.refl _ [a1, e1]).wr W96 (om 1 rfl)).wr W99 (om 0 rfl)), F103, F104, F99, F105⟩
def Q_addsr (Z : State) (ku0 ku1 ku2 ku3 aDef aCac aEmp aMir : Addr) (kDef : ClassId) (cCac : Cell) (a1 : Addr) (e1 : Addr) (k1 : ClassId) (w0 : Value) (a2 : Addr) (K9 : String) (mc1 : Int32) (h0 : Heap) (n0 : Nat) (v : Option Value) (h : Heap) (L : List Loc) : Prop := v = some (.int 1) ∧ Fr n0 L ∧ Keep h0 h [a1, e1] ∧ Fld Z h a1 "java/util/AbstractList" "modCount" "I" (.int (mc1 + (1 : Int32))) ∧ Fld Z h a1 "java/util/ArrayList" "elementData" "[Ljava/lang/Object;" (.ref e1) ∧ Fld Z h a1 "java/util/ArrayList" "size" "I" (.int 2) ∧ Arv Z h e1 k1 (.object "java/lang/Object") (10 : Int32) [w0, (.ref a2)] .null
theorem ef_addsr (m : MethodId) (x0 : Addr) (x1 : Addr) : entryFrame m #[(.ref x0), (.ref x1)] 2 = mkF m 0 #[vr x0, vr x1] [] := by first | (simp [entryFrame, mkF, argsToLocals, Value.category]; done) | rfl
theorem rm_addsr (l : Launch) (Z : State) (a0 : Array Value) (hw : HW Z a0) (ws : List Jvm.Cond) (ku0 ku1 ku2 ku3 aDef aCac aEmp aMir : Addr) (kDef : ClassId) (cCac : Cell) (F0 : OwnFacts Z ku0 ku1 ku2 ku3 aDef aCac aEmp aMir kDef cCac) (a1 : Addr) (e1 : Addr) (k1 : ClassId) (w0 : Value) (a2 : Addr) (K9 : String) (mc1 : Int32) (h0 : Heap) (n0 : Nat) (O0 : Old Z n0 h0) (PQ43 : Exa Z h0 a1 "java/util/ArrayList") (PQ44 : Fld Z h0 a1 "java/util/AbstractList" "modCount" "I" (.int mc1)) (PQ45 : Fld Z h0 a1 "java/util/ArrayList" "elementData" "[Ljava/lang/Object;" (.ref e1)) (PQ46 : Fld Z h0 a1 "java/util/ArrayList" "size" "I" (.int 1)) (PQ47 : n0 ≤ a1) (PQ48 : Arv Z h0 e1 k1 (.object "java/lang/Object") (10 : Int32) [w0, .null] .null) (PQ49 : Ovr Z k1 "java/lang/Object") (PQ50 : Exa Z h0 e1 "[Ljava/lang/Object;") (PQ42 : Exa Z h0 a2 K9) (PK9 : (Jvm.Cond.castable K9 "java/lang/Object").before a0 Z = true) (PO1 : a1 < e1) :
    MetFree l mn26 (head1 (Jvm.Cond.code mn26 jdk_38_method_25_code 2 (some .boolean) :: ws) (rk 1 0 0 15)) (fun a U => a = #[(.ref a1), (.ref a2)] ∧ Z.Warmed39 U.vm ∧ U.heap = h0) (fun _ _ _ _ _ => True) (fun _ U o U' => ∃ v L, o = .returned v ∧ Q_addsr Z ku0 ku1 ku2 ku3 aDef aCac aEmp aMir kDef cCac a1 e1 k1 w0 a2 K9 mc1 h0 n0 v U'.heap L ∧ FrameEnd U o U' L (rk 1 0 0 15).cells (rk 1 0 0 15).slots) := by
  refine MetFree.of_bodySF (plainFor_of_name pn_java_util_ArrayList) hisR ?_
  intro p e s m args below meth c s₁ Bd hml0 hP hK
  obtain ⟨rfl, hZ, hh⟩ := hP
  have hx := Bd.exec
  have hby := Bd.bytes
  have hml : c.maxLocals = 2 := hml0
  have hown : s.vm.findClass "java/util/ArrayList" = some m.cls := findClass_of_methodNamed Bd.named
  have hnm := (name_of_methodNamed Bd.named Bd.method).1
  have X0 : Stand p l e (rk 1 0 0 15) s m #[(.ref a1), (.ref a2)] below meth c s₁ [] 0 0 := Stand.of_body Bd
  have e0 : s₁.heap = h0 := by rw [← hh, Bd.state]; rfl
  have N0 := Fr.nil n0
  refine og (Q := fun o U' => ∃ v L, o = .returned v ∧ Q_addsr Z ku0 ku1 ku2 ku3 aDef aCac aEmp aMir kDef cCac a1 e1 k1 w0 a2 K9 mc1 h0 n0 v U'.heap L ∧ FrameEnd s o U' L (rk 1 0 0 15).cells (rk 1 0 0 15).slots) (fun t k => castTop (ef_addsr m a1 a2) k) ?_
  show OG p e below _ s₁ m 0 #[vr a1, vr a2] []
  refine qa X0.here hx hby dj38_25_0 rfl rfl ?_
  refine qd X0.here hx hby dj38_25_1 rfl rfl ?_
  obtain ⟨T106, X106, e106, st106⟩ := getF X0 hx hZ hown (host := "") (Or.inl (ow hw 38 rfl)) (Via.of (ow hw 39 rfl)) e0 PQ44 (g := (mkF m 2 #[vr a1, vr a2] [(.ref a1), (.ref a1)])) rfl rfl (hb hby dj38_25_2)
  refine og st106 ?_
  show OG p e below _ T106 m 5 #[vr a1, vr a2] [(.int mc1), (.ref a1)]
  refine qc X106.here hx hby dj38_25_5 ?_
  refine qe X106.here hx hby dj38_25_6 rfl ?_
  obtain ⟨T107, h107, X107, e107, W107, st107⟩ := putF X106 hx hZ hown (host := "") (Or.inl (ow hw 38 rfl)) (Via.of (ow hw 39 rfl)) e106 PQ44 PQ43 (Or.inl (ow hw 22 rfl)) (ow hw 1 rfl) (ty := .int) (by decide) rfl rfl (g := (mkF m 7 #[vr a1, vr a2] [(.int (mc1 + (1 : Int32))), (.ref a1)])) rfl rfl (hb hby dj38_25_7)
  obtain ⟨L107, X107, N107⟩ := pk X107 (Fr.snoc X107 N0 PQ47)
  have O107 := O0.wr W107 PQ47
  have z108 := Nat.le_trans (Nat.le_refl _) (Nat.le_of_eq W107.size.symm)
  have F107 : Fld Z h107 a1 "java/util/AbstractList" "modCount" "I" (.int (mc1 + (1 : Int32))) := PQ44.same W107
  refine og st107 ?_
  show OG p e below _ T107 m 10 #[vr a1, vr a2] []
  refine qa X107.here hx hby dj38_25_10 rfl rfl ?_
  refine qa X107.here hx hby dj38_25_11 rfl rfl ?_
  refine qa X107.here hx hby dj38_25_12 rfl rfl ?_
  have F110 := (oo W107 PQ45 (lp_0 hw) (lp_1 hw) (by decide))
  obtain ⟨T109, X109, e109, st109⟩ := getF X107 hx hZ hown (host := "") (Or.inl (ow hw 24 rfl)) Via.refl e107 F110 (g := (mkF m 13 #[vr a1, vr a2] [(.ref a1), (.ref a2), (.ref a1)])) rfl rfl (hb hby dj38_25_13)
  refine og st109 ?_
  show OG p e below _ T109 m 16 #[vr a1, vr a2] [(.ref e1), (.ref a2), (.ref a1)]
  refine qa X109.here hx hby dj38_25_16 rfl rfl ?_
  have F112 := (oo W107 PQ46 (lp_2 hw) (lp_1 hw) (by decide))
  obtain ⟨T111, X111, e111, st111⟩ := getF X109 hx hZ hown (host := "") (Or.inl (ow hw 40 rfl)) Via.refl e109 F112 (g := (mkF m 17 #[vr a1, vr a2] [(.ref a1), (.ref e1), (.ref a2), (.ref a1)])) rfl rfl (hb hby dj38_25_17)
  refine og st111 ?_
  show OG p e below _ T111 m 20 #[vr a1, vr a2] [(.int 1), (.ref e1), (.ref a2), (.ref a1)]
  have F113 := (PQ43.wr W107)
  have F114 := (PQ48.other W107 (Ne.symm (Nat.ne_of_lt PO1)))
  have F115 := (PQ50.wr W107)
  have F116 := (PQ42.wr W107)
  obtain ⟨cl117, hcl117, hob117⟩ := F113.cell
  obtain ⟨_, _, ⟨T117, L117, k117, n117⟩, -, X117, ⟨Lc117, hQ117, l117, y117, z117⟩, st117⟩ := X111.privateBack hx (y := mn27) hown (mvT hZ (ow hw 42 rfl)) (mvT hZ (ow hw 43 rfl)) (own_selp hZ (ow hw 1 rfl) (ow hw 44 rfl) (ow hw 43 rfl) (by decide)) (Cond.privateMethod_at (mvP hZ (ow hw 44 rfl) (args := #[]))) (mvT hZ (ow hw 46 rfl)) (by decide) (backOf (W := 0) (rm_add3sr l Z a0 hw [] ku0 ku1 ku2 ku3 aDef aCac aEmp aMir kDef cCac F0 a1 e1 k1 w0 a2 K9 (mc1 + (1 : Int32)) h107 n0 O107 F113 F107 F110 F112 PQ47 F114 PQ49 F115 F116 PK9 PO1) hZ (ow hw 46 rfl) (ow hw 2 rfl) (by decide) (by decide)) (g := (mkF m 20 #[vr a1, vr a2] [(.int 1), (.ref e1), (.ref a2), (.ref a1)])) rfl (by rw [hml]; rfl) (Steps.refl _) (a := a1) (by rw [e111]; exact hcl117) hob117 (argsL := [(.ref a2), (.ref e1), (.int 1)]) (rest := []) (lenOf pd_Ljava_lang_Object___Ljava_lang_Object__I__V rfl) rfl (by show 2 * 0 + _ ≤ _; exact Nat.le_of_eq rfl) (hb hby dj38_25_20) (fun _ _ => ⟨rfl, e111, (by decide : 0 + 0 ≤ _), (by decide : 0 + 0 ≤ _)⟩)
  dsimp only [Pt.U, Pt.locs, Pt.cells, Pt.slots] at X117 l117 y117 z117 st117 hQ117
  subst l117 y117 z117
  obtain ⟨rfl, Nq117, K117, x117_0, x117_1, x117_2, x117_3⟩ := hQ117
  obtain ⟨L117, X117, N117⟩ := pk X117 (Fr.app N107 Nq117)
  have le118 : n0 ≤ e1 := Nat.le_trans PQ47 (Nat.le_of_lt PO1)
  have O117 := O107.keep K117 (allS PQ47 (allS le118 all0))
  have e117 : T117.heap = T117.heap := rfl
  have z119 := Nat.le_trans z108 K117.1
  refine og (fun _ k => st117.trans k) ?_
  show OG p e below _ T117 m 23 #[vr a1, vr a2] []
  refine qc X117.here hx hby dj38_25_23 ?_
  obtain ⟨fs, hr, hrun, hended, hW, hsame⟩ := X117.leave (v := some (.int 1)) (fun h => by rw [Bd.returns] at h; cases h)
  refine ⟨_, _, retOut X117 hx Bd.returns rfl (Or.inl ⟨rfl, Or.inr (Or.inl rfl), _, rfl⟩) (hb hby dj38_25_24) hr, hrun, hended, _, _, rfl, ?_, ⟨_, rfl⟩, hW, hsame.mono (by decide) (by decide)⟩
  show Q_addsr Z ku0 ku1 ku2 ku3 aDef aCac aEmp aMir kDef cCac a1 e1 k1 w0 a2 K9 mc1 h0 n0 _ T117.heap _
  rw [e117]
  exact ⟨rfl, N117, (((Keep.refl _ [a1, e1]).wr W107 (om 0 rfl)).trans K117 (aS (om 0 rfl) (aS (om 1 rfl) all0))), x117_0, x117_1, x117_2, x117_3⟩
theorem dj38_8_0 : decode jdk_38_method_8_code 0 = .ok (.aload_n 0, 1) := by decide +kernel
theorem dj38_8_1 : decode jdk_38_method_8_code 1 = .ok (.getfield 48, 3) := by decide +kernel
theorem dj38_8_4 : decode jdk_38_method_8_code 4 = .ok (.ireturn, 1) := by decide +kernel
def Q_size (Z : State) (ku0 ku1 ku2 ku3 aDef aCac aEmp aMir : Addr) (kDef : ClassId) (cCac : Cell) (a1 : Addr) (p9 : Int32) (h0 : Heap) (n0 : Nat) (v : Option Value) (h : Heap) (L : List Loc) : Prop := v = some (.int p9) ∧ Fr n0 L ∧ h = h0
theorem ef_size (m : MethodId) (x0 : Addr) : entryFrame m #[(.ref x0)] 1 = mkF m 0 #[vr x0] [] := by first | (simp [entryFrame, mkF, argsToLocals, Value.category]; done) | rfl
theorem rm_size (l : Launch) (Z : State) (a0 : Array Value) (hw : HW Z a0) (ws : List Jvm.Cond) (ku0 ku1 ku2 ku3 aDef aCac aEmp aMir : Addr) (kDef : ClassId) (cCac : Cell) (F0 : OwnFacts Z ku0 ku1 ku2 ku3 aDef aCac aEmp aMir kDef cCac) (a1 : Addr) (p9 : Int32) (h0 : Heap) (n0 : Nat) (O0 : Old Z n0 h0) (PQ51 : Fld Z h0 a1 "java/util/ArrayList" "size" "I" (.int p9)) :
    MetFree l mn31 (head1 (Jvm.Cond.code mn31 jdk_38_method_8_code 1 (some .int) :: ws) (rk 0 0 0 0)) (fun a U => a = #[(.ref a1)] ∧ Z.Warmed39 U.vm ∧ U.heap = h0) (fun _ _ _ _ _ => True) (fun _ U o U' => ∃ v L, o = .returned v ∧ Q_size Z ku0 ku1 ku2 ku3 aDef aCac aEmp aMir kDef cCac a1 p9 h0 n0 v U'.heap L ∧ FrameEnd U o U' L (rk 0 0 0 0).cells (rk 0 0 0 0).slots) := by
  refine MetFree.of_bodySF (plainFor_of_name pn_java_util_ArrayList) hisR ?_
  intro p e s m args below meth c s₁ Bd hml0 hP hK
  obtain ⟨rfl, hZ, hh⟩ := hP
  have hx := Bd.exec
  have hby := Bd.bytes
  have hml : c.maxLocals = 1 := hml0
  have hown : s.vm.findClass "java/util/ArrayList" = some m.cls := findClass_of_methodNamed Bd.named
  have hnm := (name_of_methodNamed Bd.named Bd.method).1
  have X0 : Stand p l e (rk 0 0 0 0) s m #[(.ref a1)] below meth c s₁ [] 0 0 := Stand.of_body Bd
  have e0 : s₁.heap = h0 := by rw [← hh, Bd.state]; rfl
  have N0 := Fr.nil n0
  refine og (Q := fun o U' => ∃ v L, o = .returned v ∧ Q_size Z ku0 ku1 ku2 ku3 aDef aCac aEmp aMir kDef cCac a1 p9 h0 n0 v U'.heap L ∧ FrameEnd s o U' L (rk 0 0 0 0).cells (rk 0 0 0 0).slots) (fun t k => castTop (ef_size m a1) k) ?_
  show OG p e below _ s₁ m 0 #[vr a1] []
  refine qa X0.here hx hby dj38_8_0 rfl rfl ?_
  obtain ⟨T120, X120, e120, st120⟩ := getF X0 hx hZ hown (host := "") (Or.inl (ow hw 40 rfl)) Via.refl e0 PQ51 (g := (mkF m 1 #[vr a1] [(.ref a1)])) rfl rfl (hb hby dj38_8_1)
  refine og st120 ?_
  show OG p e below _ T120 m 4 #[vr a1] [(.int p9)]
  obtain ⟨fs, hr, hrun, hended, hW, hsame⟩ := X120.leave (v := some (.int p9)) (fun h => by rw [Bd.returns] at h; cases h)
  refine ⟨_, _, retOut X120 hx Bd.returns rfl (Or.inl ⟨rfl, Or.inl rfl, _, rfl⟩) (hb hby dj38_8_4) hr, hrun, hended, _, _, rfl, ?_, ⟨_, rfl⟩, hW, hsame.mono (by decide) (by decide)⟩
  show Q_size Z ku0 ku1 ku2 ku3 aDef aCac aEmp aMir kDef cCac a1 p9 h0 n0 _ T120.heap _
  rw [e120]
  exact ⟨rfl, N0, rfl⟩
theorem dj65_120_0 : decode jdk_65_method_120_code 0 = .ok (.aload_n 2, 1) := by decide +kernel
theorem dj65_120_1 : decode jdk_65_method_120_code 1 = .ok (.ldc 110, 2) := by decide +kernel
theorem dj65_120_3 : decode jdk_65_method_120_code 3 = .ok (.if_acmp .ne 10, 3) := by decide +kernel
theorem dj65_120_6 : decode jdk_65_method_120_code 6 = .ok (.iload_n 1, 1) := by decide +kernel
theorem dj65_120_7 : decode jdk_65_method_120_code 7 = .ok (.anewarray 2, 3) := by decide +kernel
theorem dj65_120_10 : decode jdk_65_method_120_code 10 = .ok (.goto 14, 3) := by decide +kernel
theorem dj65_120_24 : decode jdk_65_method_120_code 24 = .ok (.astore_n 3, 1) := by decide +kernel
theorem dj65_120_25 : decode jdk_65_method_120_code 25 = .ok (.aload_n 0, 1) := by decide +kernel
theorem dj65_120_26 : decode jdk_65_method_120_code 26 = .ok (.iconst 0, 1) := by decide +kernel
theorem dj65_120_27 : decode jdk_65_method_120_code 27 = .ok (.aload_n 3, 1) := by decide +kernel
theorem dj65_120_28 : decode jdk_65_method_120_code 28 = .ok (.iconst 0, 1) := by decide +kernel
theorem dj65_120_29 : decode jdk_65_method_120_code 29 = .ok (.aload_n 0, 1) := by decide +kernel
theorem dj65_120_30 : decode jdk_65_method_120_code 30 = .ok (.arraylength, 1) := by decide +kernel
theorem dj65_120_31 : decode jdk_65_method_120_code 31 = .ok (.iload_n 1, 1) := by decide +kernel
theorem dj65_120_32 : decode jdk_65_method_120_code 32 = .ok (.invokestatic 304, 3) := by decide +kernel
theorem dj29_69_0 : decode jdk_29_method_69_code 0 = .ok (.iload_n 0, 1) := by decide +kernel
theorem dj29_69_1 : decode jdk_29_method_69_code 1 = .ok (.iload_n 1, 1) := by decide +kernel
theorem dj29_69_2 : decode jdk_29_method_69_code 2 = .ok (.if_icmp .gt 7, 3) := by decide +kernel
theorem dj29_69_9 : decode jdk_29_method_69_code 9 = .ok (.iload_n 1, 1) := by decide +kernel
theorem dj29_69_10 : decode jdk_29_method_69_code 10 = .ok (.ireturn, 1) := by decide +kernel
def Q_min_10_2 (Z : State) (ku0 ku1 ku2 ku3 aDef aCac aEmp aMir : Addr) (kDef : ClassId) (cCac : Cell) (h0 : Heap) (n0 : Nat) (v : Option Value) (h : Heap) (L : List Loc) : Prop := v = some (.int 2) ∧ Fr n0 L ∧ h = h0
theorem ef_min_10_2 (m : MethodId) (x0 : Int32) (x1 : Int32) : entryFrame m #[(.int x0), (.int x1)] 2 = mkF m 0 #[vi x0, vi x1] [] := by first | (simp [entryFrame, mkF, argsToLocals, Value.category]; done) | rfl
theorem rm_min_10_2 (l : Launch) (Z : State) (a0 : Array Value) (hw : HW Z a0) (ws : List Jvm.Cond) (ku0 ku1 ku2 ku3 aDef aCac aEmp aMir : Addr) (kDef : ClassId) (cCac : Cell) (F0 : OwnFacts Z ku0 ku1 ku2 ku3 aDef aCac aEmp aMir kDef cCac) (h0 : Heap) (n0 : Nat) (O0 : Old Z n0 h0) :
    MetFree l mn20 (head1 (Jvm.Cond.code mn20 jdk_29_method_69_code 2 (some .int) :: ws) (rk 0 0 0 0)) (fun a U => a = #[(.int 10), (.int 2)] ∧ Z.Warmed39 U.vm ∧ U.heap = h0) (fun _ _ _ _ _ => True) (fun _ U o U' => ∃ v L, o = .returned v ∧ Q_min_10_2 Z ku0 ku1 ku2 ku3 aDef aCac aEmp aMir kDef cCac h0 n0 v U'.heap L ∧ FrameEnd U o U' L (rk 0 0 0 0).cells (rk 0 0 0 0).slots) := by
  refine MetFree.of_bodySF (by decide +kernel) hisR ?_
  intro p e s m args below meth c s₁ Bd hml0 hP hK
  obtain ⟨rfl, hZ, hh⟩ := hP
  have hx := Bd.exec
  have hby := Bd.bytes
  have hml : c.maxLocals = 2 := hml0
  have hown : s.vm.findClass "java/lang/Math" = some m.cls := findClass_of_methodNamed Bd.named
  have hnm := (name_of_methodNamed Bd.named Bd.method).1
  have X0 : Stand p l e (rk 0 0 0 0) s m #[(.int 10), (.int 2)] below meth c s₁ [] 0 0 := Stand.of_body Bd
  have e0 : s₁.heap = h0 := by rw [← hh, Bd.state]; rfl
  have N0 := Fr.nil n0
  refine og (Q := fun o U' => ∃ v L, o = .returned v ∧ Q_min_10_2 Z ku0 ku1 ku2 ku3 aDef aCac aEmp aMir kDef cCac h0 n0 v U'.heap L ∧ FrameEnd s o U' L (rk 0 0 0 0).cells (rk 0 0 0 0).slots) (fun t k => castTop (ef_min_10_2 m (10 : Int32) (2 : Int32)) k) ?_
  show OG p e below _ s₁ m 0 #[vi 10, vi 2] []
  refine qj X0.here hx hby dj29_69_0 rfl ?_
  refine qj X0.here hx hby dj29_69_1 rfl ?_
  refine og (fun _ k => XS.icmpYes X0.here hx rfl (pc0 := 2) (pc' := 9) rfl (hb hby dj29_69_2) rfl (by decide) (by decide) (by decide) k) ?_
  show OG p e below _ s₁ m 9 #[vi 10, vi 2] []
  refine qj X0.here hx hby dj29_69_9 rfl ?_
  obtain ⟨fs, hr, hrun, hended, hW, hsame⟩ := X0.leave (v := some (.int 2)) (fun h => by rw [Bd.returns] at h; cases h)
  refine ⟨_, _, retOut X0 hx Bd.returns rfl (Or.inl ⟨rfl, Or.inl rfl, _, rfl⟩) (hb hby dj29_69_10) hr, hrun, hended, _, _, rfl, ?_, ⟨_, rfl⟩, hW, hsame.mono (by decide) (by decide)⟩
  show Q_min_10_2 Z ku0 ku1 ku2 ku3 aDef aCac aEmp aMir kDef cCac h0 n0 _ s₁.heap _
  rw [e0]
  exact ⟨rfl, N0, rfl⟩
theorem dj65_120_35 : decode jdk_65_method_120_code 35 = .ok (.invokestatic 150, 3) := by decide +kernel
theorem dj65_120_38 : decode jdk_65_method_120_code 38 = .ok (.aload_n 3, 1) := by decide +kernel
theorem dj65_120_39 : decode jdk_65_method_120_code 39 = .ok (.areturn, 1) := by decide +kernel
theorem pn_java_util_Arrays : plainName "java/util/Arrays" = true := by first | (simp [plainName, overriddenIn]; done) | decide +kernel
def Q_cp3 (Z : State) (ku0 ku1 ku2 ku3 aDef aCac aEmp aMir : Addr) (kDef : ClassId) (cCac : Cell) (e1 : Addr) (k9 : ClassId) (b0 : Addr) (b1 : Addr) (h0 : Heap) (n0 : Nat) (v : Option Value) (h : Heap) (L : List Loc) : Prop := ∃ (r1 : Addr) (k1 : ClassId), v = some (.ref r1) ∧ Fr n0 L ∧ Keep h0 h [] ∧ h0.size ≤ r1 ∧ Exa Z h r1 "[Ljava/lang/Object;" ∧ Arv Z h r1 k1 (.object "java/lang/Object") (2 : Int32) [(.ref b0), (.ref b1)] .null
theorem ef_cp3 (m : MethodId) (x0 : Addr) (x1 : Int32) (x2 : Addr) : entryFrame m #[(.ref x0), (.int x1), (.ref x2)] 4 = mkF m 0 #[vr x0, vi x1, vr x2, .unset] [] := by first | (simp [entryFrame, mkF, argsToLocals, Value.category]; done) | rfl
theorem rm_cp3 (l : Launch) (Z : State) (a0 : Array Value) (hw : HW Z a0) (ws : List Jvm.Cond) (ku0 ku1 ku2 ku3 aDef aCac aEmp aMir : Addr) (kDef : ClassId) (cCac : Cell) (F0 : OwnFacts Z ku0 ku1 ku2 ku3 aDef aCac aEmp aMir kDef cCac) (e1 : Addr) (k9 : ClassId) (b0 : Addr) (b1 : Addr) (h0 : Heap) (n0 : Nat) (O0 : Old Z n0 h0) (PQ54 : Arv Z h0 e1 k9 (.object "java/lang/Object") (10 : Int32) [(.ref b0), (.ref b1)] .null) (PQ55 : Exa Z h0 e1 "[Ljava/lang/Object;") (PQ52 : Exa Z h0 b0 "java/lang/Integer") (PQ53 : Exa Z h0 b1 "java/lang/Integer") :
    MetFree l mn34 (head1 (Jvm.Cond.code mn34 jdk_65_method_120_code 4 (some (.array (.object "java/lang/Object"))) :: ws) (rk 1 1 2 19)) (fun a U => a = #[(.ref e1), (.int 2), (.ref aMir)] ∧ Z.Warmed39 U.vm ∧ U.heap = h0) (fun _ _ _ _ _ => True) (fun _ U o U' => ∃ v L, o = .returned v ∧ Q_cp3 Z ku0 ku1 ku2 ku3 aDef aCac aEmp aMir kDef cCac e1 k9 b0 b1 h0 n0 v U'.heap L ∧ FrameEnd U o U' L (rk 1 1 2 19).cells (rk 1 1 2 19).slots) := by
  refine MetFree.of_bodySF (plainFor_of_name pn_java_util_Arrays) hisR ?_
  intro p e s m args below meth c s₁ Bd hml0 hP hK
  obtain ⟨rfl, hZ, hh⟩ := hP
  have hx := Bd.exec
  have hby := Bd.bytes
  have hml : c.maxLocals = 4 := hml0
  have hown : s.vm.findClass "java/util/Arrays" = some m.cls := findClass_of_methodNamed Bd.named
  have hnm := (name_of_methodNamed Bd.named Bd.method).1
  have X0 : Stand p l e (rk 1 1 2 19) s m #[(.ref e1), (.int 2), (.ref aMir)] below meth c s₁ [] 0 0 := Stand.of_body Bd
  have e0 : s₁.heap = h0 := by rw [← hh, Bd.state]; rfl
  have N0 := Fr.nil n0
  refine og (Q := fun o U' => ∃ v L, o = .returned v ∧ Q_cp3 Z ku0 ku1 ku2 ku3 aDef aCac aEmp aMir kDef cCac e1 k9 b0 b1 h0 n0 v U'.heap L ∧ FrameEnd s o U' L (rk 1 1 2 19).cells (rk 1 1 2 19).slots) (fun t k => castTop (ef_cp3 m e1 (2 : Int32) aMir) k) ?_
  show OG p e below _ s₁ m 0 #[vr e1, vi 2, vr aMir, .unset] []
  refine qa X0.here hx hby dj65_120_0 rfl rfl ?_
  obtain ⟨vm121, X121, st121⟩ := X0.ldcMirror hx (C := "[Ljava/lang/Object;") hown (mvT hZ (ow hw 134 rfl)) (own_mir hZ F0.2.2.2.2.2.2.2.2.2.2.2.2.2.2.2.2.2.2.2.2.2) (g := (mkF m 1 #[vr e1, vi 2, vr aMir, .unset] [(.ref aMir)])) rfl (hb hby dj65_120_1)
  have e121 : (s₁.setVm vm121).heap = h0 := e0
  refine og st121 ?_
  show OG p e below _ (s₁.setVm vm121) m 3 #[vr e1, vi 2, vr aMir, .unset] [(.ref aMir), (.ref aMir)]
  refine og (fun _ k => acmp X121 hx rfl (cd := .ne) (o := 10) (x := (.ref aMir)) (y := (.ref aMir)) (pc0 := 3) (pc' := 6) rfl rfl rfl (hb hby dj65_120_3) rfl (own_refeq _) (by decide) (by decide) k) ?_
  show OG p e below _ (s₁.setVm vm121) m 6 #[vr e1, vi 2, vr aMir, .unset] []
  refine qj X121.here hx hby dj65_120_6 rfl ?_
  obtain ⟨T122, h122, k122, X122, e122, E122, A122, U122, B122, st122⟩ := newRE X121 hx hZ hown (ow hw 135 rfl) (ow hw 62 rfl) e121 (g := (mkF m 7 #[vr e1, vi 2, vr aMir, .unset] [(.int 2)])) rfl (hb hby dj65_120_7) rfl (by decide) (cap := 2) (by decide) (by decide) (by decide) (by decide) (ad := "[Ljava/lang/Object;") (by decide)
  obtain ⟨a122, g122⟩ : ∃ z, z = h0.size := ⟨_, rfl⟩
  rw [← g122] at A122 U122 st122
  have ge122 : n0 ≤ a122 := Nat.le_trans (own_sz O0) (Nat.le_of_eq g122.symm)
  have gh122 : h0.size ≤ a122 := Nat.le_trans (Nat.le_refl _) (Nat.le_of_eq g122.symm)
  have lo122 : e1 < a122 := Nat.lt_of_lt_of_eq PQ55.lt g122.symm
  have O122 := O0.ext E122
  have z123 := Nat.le_trans (Nat.le_refl _) E122.1
  have V122 : Arv Z h122 a122 k122 (.object "java/lang/Object") (2 : Int32) [.null, .null] .null := (Arv.new A122 (by decide)).pad (pad_rep [] _ 2)
  refine og st122 ?_
  show OG p e below _ T122 m 10 #[vr e1, vi 2, vr aMir, .unset] [(.ref a122)]
  refine og (fun _ k => XS.goto X122.here hx rfl (pc0 := 10) (pc' := 24) rfl (hb hby dj65_120_10) (by decide) (by decide) k) ?_
  refine og (fun _ k => XS.astoreN X122.here hx rfl (hb hby dj65_120_24) rfl rfl (l' := #[vr e1, vi 2, vr aMir, vr a122]) rfl k) ?_
  refine qa X122.here hx hby dj65_120_25 rfl rfl ?_
  refine qc X122.here hx hby dj65_120_26 ?_
  refine qa X122.here hx hby dj65_120_27 rfl rfl ?_
  show OG p e below _ T122 m 28 #[vr e1, vi 2, vr aMir, vr a122] [(.ref a122), (.int 0), (.ref e1)]
  refine qc X122.here hx hby dj65_120_28 ?_
  refine qa X122.here hx hby dj65_120_29 rfl rfl ?_
  have F124 := (PQ54.ext E122)
  obtain ⟨c125, Ar125, q125, S125, M125, H125, G125⟩ := (id F124)
  refine og (fun _ k => X122.arraylength hx (cell := c125) (by rw [e122]; exact Ar125.1) (State.isArrayOf_alike hZ.alike Ar125.2.1) (g := (mkF m 30 #[vr e1, vi 2, vr aMir, vr a122] [(.ref e1), (.int 0), (.ref a122), (.int 0), (.ref e1)])) rfl (rest := [(.int 0), (.ref a122), (.int 0), (.ref e1)]) rfl (hb hby dj65_120_30) _ k) ?_
  rw [len_of S125 M125]
  show OG p e below _ T122 m 31 #[vr e1, vi 2, vr aMir, vr a122] [(.int 10), (.int 0), (.ref a122), (.int 0), (.ref e1)]
  refine qj X122.here hx hby dj65_120_31 rfl ?_
  obtain ⟨_, _, ⟨T126, L126, k126, n126⟩, -, X126, ⟨Lc126, hQ126, l126, y126, z126⟩, st126⟩ := Jvm.LawKit.callS X122 hx (y := mn20) hown (mvT hZ (ow hw 136 rfl)) (mvT hZ (ow hw 137 rfl)) (mvT hZ (ow hw 59 rfl)) (mvT hZ (ow hw 138 rfl)) (by decide) (backOf (W := 4) (rm_min_10_2 l Z a0 hw [] ku0 ku1 ku2 ku3 aDef aCac aEmp aMir kDef cCac F0 h122 n0 O122) hZ (ow hw 138 rfl) (ow hw 59 rfl) (by decide) (by decide)) (g := (mkF m 32 #[vr e1, vi 2, vr aMir, vr a122] [(.int 2), (.int 10), (.int 0), (.ref a122), (.int 0), (.ref e1)])) rfl (by rw [hml]; rfl) (argsL := [(.int 10), (.int 2)]) (rest := [(.int 0), (.ref a122), (.int 0), (.ref e1)]) (lenOf pd_I_I__I rfl) rfl (by show 2 * 0 + _ ≤ _; exact Nat.le_of_eq rfl) (hb hby dj65_120_32) (fun _ _ => ⟨rfl, e122, (by decide : 1 + 0 ≤ _), (by decide : 2 + 0 ≤ _)⟩)
  dsimp only [Pt.U, Pt.locs, Pt.cells, Pt.slots] at X126 l126 y126 z126 st126 hQ126
  subst l126 y126 z126
  obtain ⟨rfl, Nq126, K126⟩ := hQ126
  obtain ⟨L126, X126, N126⟩ := pk X126 (Fr.app N0 Nq126)
  refine og st126 ?_
  show OG p e below _ T126 m 35 #[vr e1, vi 2, vr aMir, vr a122] [(.int 2), (.int 0), (.ref a122), (.int 0), (.ref e1)]
  obtain ⟨cs127, Ar127, q127, -⟩ := (id V122)
  have F128 := (PQ53.ext E122)
  have F129 := (PQ52.ext E122)
  obtain ⟨T127, h127, L127, X127, e127, N127, K127, V127, st127⟩ := cpA X126 hx hZ hown (ow hw 139 rfl) (ow hw 142 rfl) (ow hw 140 rfl) (ow hw 141 rfl) K126 F124 V122 (us := [(.ref b0), (.ref b1)]) (Or.inr ⟨rfl, rfl, ⟨Sto.ofV Ar127 q127 B122 (Ins.of_exa F129 (ow hw 63 rfl)), ⟨Sto.ofV Ar127 q127 B122 (Ins.of_exa F128 (ow hw 63 rfl)), trivial⟩⟩⟩) (by decide) (by decide) (by decide) (by decide) (by decide) rfl (Nat.le_of_ble_eq_true rfl) N126 ge122 (g := (mkF m 35 #[vr e1, vi 2, vr aMir, vr a122] [(.int 2), (.int 0), (.ref a122), (.int 0), (.ref e1)])) rfl (by rw [hml]; rfl) rfl (hb hby dj65_120_35) (by decide) (W := 0) (by show 2 * 0 + _ ≤ _; exact Nat.le_of_eq rfl) (by decide)
  have O127 := O122.keep K127 (allS ge122 all0)
  have z130 := Nat.le_trans z123 K127.1
  have F131 : Arv Z h127 a122 k122 (.object "java/lang/Object") (2 : Int32) [(.ref b0), (.ref b1)] .null := V127
  refine og st127 ?_
  show OG p e below _ T127 m 38 #[vr e1, vi 2, vr aMir, vr a122] []
  refine qa X127.here hx hby dj65_120_38 rfl rfl ?_
  obtain ⟨fs, hr, hrun, hended, hW, hsame⟩ := X127.leave (v := some (.ref a122)) (fun h => by rw [Bd.returns] at h; cases h)
  refine ⟨_, _, retOut X127 hx Bd.returns rfl (Or.inr (Or.inr (Or.inr (Or.inr ⟨rfl, rfl, rfl⟩)))) (hb hby dj65_120_39) hr, hrun, hended, _, _, rfl, ?_, ⟨_, rfl⟩, hW, hsame.mono (by decide) (by decide)⟩
  show Q_cp3 Z ku0 ku1 ku2 ku3 aDef aCac aEmp aMir kDef cCac e1 k9 b0 b1 h0 n0 _ T127.heap _
  rw [e127]
  have F132 := (U122.keep K127)
  exact ⟨a122, k122, rfl, N127, (((Keep.refl _ []).ext E122).trans K127 (aS (Or.inr gh122) all0)), gh122, F132, F131⟩
theorem dj65_119_0 : decode jdk_65_method_119_code 0 = .ok (.aload_n 0, 1) := by decide +kernel
theorem dj65_119_1 : decode jdk_65_method_119_code 1 = .ok (.iload_n 1, 1) := by decide +kernel
theorem dj65_119_2 : decode jdk_65_method_119_code 2 = .ok (.aload_n 0, 1) := by decide +kernel
theorem dj65_119_3 : decode jdk_65_method_119_code 3 = .ok (.invokevirtual 86, 3) := by decide +kernel
theorem dj65_119_6 : decode jdk_65_method_119_code 6 = .ok (.invokestatic 300, 3) := by decide +kernel
theorem pd__Ljava_lang_Object__I_Ljava_lang_Class____Ljava_lang_Object_ : parseMethodDescriptor "([Ljava/lang/Object;ILjava/lang/Class;)[Ljava/lang/Object;" = some ⟨[(.array (.object "java/lang/Object")), .int, (.object "java/lang/Class")], some (.array (.object "java/lang/Object"))⟩ := by decide +kernel
theorem dj65_119_9 : decode jdk_65_method_119_code 9 = .ok (.areturn, 1) := by decide +kernel
def Q_cp2 (Z : State) (ku0 ku1 ku2 ku3 aDef aCac aEmp aMir : Addr) (kDef : ClassId) (cCac : Cell) (e1 : Addr) (k9 : ClassId) (b0 : Addr) (b1 : Addr) (h0 : Heap) (n0 : Nat) (v : Option Value) (h : Heap) (L : List Loc) : Prop := ∃ (r1 : Addr) (k1 : ClassId), v = some (.ref r1) ∧ Fr n0 L ∧ Keep h0 h [] ∧ h0.size ≤ r1 ∧ Exa Z h r1 "[Ljava/lang/Object;" ∧ Arv Z h r1 k1 (.object "java/lang/Object") (2 : Int32) [(.ref b0), (.ref b1)] .null
theorem ef_cp2 (m : MethodId) (x0 : Addr) (x1 : Int32) : entryFrame m #[(.ref x0), (.int x1)] 2 = mkF m 0 #[vr x0, vi x1] [] := by first | (simp [entryFrame, mkF, argsToLocals, Value.category]; done) | rfl
theorem rm_cp2 (l : Launch) (Z : State) (a0 : Array Value) (hw : HW Z a0) (ws : List Jvm.Cond) (ku0 ku1 ku2 ku3 aDef aCac aEmp aMir : Addr) (kDef : ClassId) (cCac : Cell) (F0 : OwnFacts Z ku0 ku1 ku2 ku3 aDef aCac aEmp aMir kDef cCac) (e1 : Addr) (k9 : ClassId) (b0 : Addr) (b1 : Addr) (h0 : Heap) (n0 : Nat) (O0 : Old Z n0 h0) (PQ56 : Arv Z h0 e1 k9 (.object "java/lang/Object") (10 : Int32) [(.ref b0), (.ref b1)] .null) (PQ57 : Exa Z h0 e1 "[Ljava/lang/Object;") (PQ52 : Exa Z h0 b0 "java/lang/Integer") (PQ53 : Exa Z h0 b1 "java/lang/Integer") :
    MetFree l mn33 (head1 (Jvm.Cond.code mn33 jdk_65_method_119_code 2 (some (.array (.object "java/lang/Object"))) :: ws) (rk 2 1 2 34)) (fun a U => a = #[(.ref e1), (.int 2)] ∧ Z.Warmed39 U.vm ∧ U.heap = h0) (fun _ _ _ _ _ => True) (fun _ U o U' => ∃ v L, o = .returned v ∧ Q_cp2 Z ku0 ku1 ku2 ku3 aDef aCac aEmp aMir kDef cCac e1 k9 b0 b1 h0 n0 v U'.heap L ∧ FrameEnd U o U' L (rk 2 1 2 34).cells (rk 2 1 2 34).slots) := by
  refine MetFree.of_bodySF (plainFor_of_name pn_java_util_Arrays) hisR ?_
  intro p e s m args below meth c s₁ Bd hml0 hP hK
  obtain ⟨rfl, hZ, hh⟩ := hP
  have hx := Bd.exec
  have hby := Bd.bytes
  have hml : c.maxLocals = 2 := hml0
  have hown : s.vm.findClass "java/util/Arrays" = some m.cls := findClass_of_methodNamed Bd.named
  have hnm := (name_of_methodNamed Bd.named Bd.method).1
  have X0 : Stand p l e (rk 2 1 2 34) s m #[(.ref e1), (.int 2)] below meth c s₁ [] 0 0 := Stand.of_body Bd
  have e0 : s₁.heap = h0 := by rw [← hh, Bd.state]; rfl
  have N0 := Fr.nil n0
  refine og (Q := fun o U' => ∃ v L, o = .returned v ∧ Q_cp2 Z ku0 ku1 ku2 ku3 aDef aCac aEmp aMir kDef cCac e1 k9 b0 b1 h0 n0 v U'.heap L ∧ FrameEnd s o U' L (rk 2 1 2 34).cells (rk 2 1 2 34).slots) (fun t k => castTop (ef_cp2 m e1 (2 : Int32)) k) ?_
  show OG p e below _ s₁ m 0 #[vr e1, vi 2] []
  refine qa X0.here hx hby dj65_119_0 rfl rfl ?_
  refine qj X0.here hx hby dj65_119_1 rfl ?_
  refine qa X0.here hx hby dj65_119_2 rfl rfl ?_
  obtain ⟨T133, X133, e133, st133⟩ := gcls X0 hx hZ hown (ow hw 125 rfl) (ow hw 126 rfl) (ow hw 102 rfl) (ow hw 128 rfl) (ow hw 127 rfl) (ow hw 129 rfl) e0 PQ57 F0.2.2.2.2.2.2.2.2.2.2.2.2.2.2.2.2.2.2.2.2.2 (g := (mkF m 3 #[vr e1, vi 2] [(.ref e1), (.int 2), (.ref e1)])) rfl (by rw [hml]; rfl) rfl (hb hby dj65_119_3) (by decide) (W := 2) (by show 2 * 0 + _ ≤ _; exact Nat.le_of_eq rfl) (by decide)
  refine og st133 ?_
  show OG p e below _ T133 m 6 #[vr e1, vi 2] [(.ref aMir), (.int 2), (.ref e1)]
  obtain ⟨_, _, ⟨T134, L134, k134, n134⟩, -, X134, ⟨Lc134, hQ134, l134, y134, z134⟩, st134⟩ := Jvm.LawKit.callS X133 hx (y := mn34) hown (mvT hZ (ow hw 131 rfl)) (mvT hZ (ow hw 132 rfl)) (mvT hZ (ow hw 123 rfl)) (mvT hZ (ow hw 133 rfl)) (by decide) (backOf (W := 0) (rm_cp3 l Z a0 hw [] ku0 ku1 ku2 ku3 aDef aCac aEmp aMir kDef cCac F0 e1 k9 b0 b1 h0 n0 O0 PQ56 PQ57 PQ52 PQ53) hZ (ow hw 133 rfl) (ow hw 123 rfl) (by decide) (by decide)) (g := (mkF m 6 #[vr e1, vi 2] [(.ref aMir), (.int 2), (.ref e1)])) rfl (by rw [hml]; rfl) (argsL := [(.ref e1), (.int 2), (.ref aMir)]) (rest := []) (lenOf pd__Ljava_lang_Object__I_Ljava_lang_Class____Ljava_lang_Object_ rfl) rfl (by show 2 * 0 + _ ≤ _; exact Nat.le_of_eq rfl) (hb hby dj65_119_6) (fun _ _ => ⟨rfl, e133, (by decide : 0 + 1 ≤ _), (by decide : 0 + 2 ≤ _)⟩)
  dsimp only [Pt.U, Pt.locs, Pt.cells, Pt.slots] at X134 l134 y134 z134 st134 hQ134
  subst l134 y134 z134
  obtain ⟨r1_134, k1_134, rfl, Nq134, K134, x134_0, x134_1, x134_2⟩ := hQ134
  obtain ⟨L134, X134, N134⟩ := pk X134 (Fr.app N0 Nq134)
  have O134 := O0.keep K134 all0
  have e134 : T134.heap = T134.heap := rfl
  have z135 := Nat.le_trans (Nat.le_refl _) K134.1
  have gex134_0 : n0 ≤ r1_134 := Nat.le_trans (own_sz O0) x134_0
  have ghx134_0 : h0.size ≤ r1_134 := Nat.le_trans (Nat.le_refl _) x134_0
  have lox134_0 : e1 < r1_134 := Nat.lt_of_lt_of_le PQ57.lt x134_0
  refine og st134 ?_
  show OG p e below _ T134 m 9 #[vr e1, vi 2] [(.ref r1_134)]
  obtain ⟨fs, hr, hrun, hended, hW, hsame⟩ := X134.leave (v := some (.ref r1_134)) (fun h => by rw [Bd.returns] at h; cases h)
  refine ⟨_, _, retOut X134 hx Bd.returns rfl (Or.inr (Or.inr (Or.inr (Or.inr ⟨rfl, rfl, rfl⟩)))) (hb hby dj65_119_9) hr, hrun, hended, _, _, rfl, ?_, ⟨_, rfl⟩, hW, hsame.mono (by decide) (by decide)⟩
  show Q_cp2 Z ku0 ku1 ku2 ku3 aDef aCac aEmp aMir kDef cCac e1 k9 b0 b1 h0 n0 _ T134.heap _
  rw [e134]
  exact ⟨r1_134, k1_134, rfl, N134, ((Keep.refl _ []).trans K134 all0), ghx134_0, x134_1, x134_2⟩
theorem dj38_16_0 : decode jdk_38_method_16_code 0 = .ok (.aload_n 0, 1) := by decide +kernel
theorem dj38_16_1 : decode jdk_38_method_16_code 1 = .ok (.getfield 9, 3) := by decide +kernel
theorem dj38_16_4 : decode jdk_38_method_16_code 4 = .ok (.aload_n 0, 1) := by decide +kernel
theorem dj38_16_5 : decode jdk_38_method_16_code 5 = .ok (.getfield 48, 3) := by decide +kernel
theorem dj38_16_8 : decode jdk_38_method_16_code 8 = .ok (.invokestatic 66, 3) := by decide +kernel
theorem pd__Ljava_lang_Object__I___Ljava_lang_Object_ : parseMethodDescriptor "([Ljava/lang/Object;I)[Ljava/lang/Object;" = some ⟨[(.array (.object "java/lang/Object")), .int], some (.array (.object "java/lang/Object"))⟩ := by decide +kernel
theorem dj38_16_11 : decode jdk_38_method_16_code 11 = .ok (.areturn, 1) := by decide +kernel
def Q_ta (Z : State) (ku0 ku1 ku2 ku3 aDef aCac aEmp aMir : Addr) (kDef : ClassId) (cCac : Cell) (a1 : Addr) (e1 : Addr) (k9 : ClassId) (b0 : Addr) (b1 : Addr) (h0 : Heap) (n0 : Nat) (v : Option Value) (h : Heap) (L : List Loc) : Prop := ∃ (r1 : Addr) (k1 : ClassId), v = some (.ref r1) ∧ Fr n0 L ∧ Keep h0 h [] ∧ h0.size ≤ r1 ∧ Exa Z h r1 "[Ljava/lang/Object;" ∧ Arv Z h r1 k1 (.object "java/lang/Object") (2 : Int32) [(.ref b0), (.ref b1)] .null
theorem ef_ta (m : MethodId) (x0 : Addr) : entryFrame m #[(.ref x0)] 1 = mkF m 0 #[vr x0] [] := by first | (simp [entryFrame, mkF, argsToLocals, Value.category]; done) | rfl
theorem rm_ta (l : Launch) (Z : State) (a0 : Array Value) (hw : HW Z a0) (ws : List Jvm.Cond) (ku0 ku1 ku2 ku3 aDef aCac aEmp aMir : Addr) (kDef : ClassId) (cCac : Cell) (F0 : OwnFacts Z ku0 ku1 ku2 ku3 aDef aCac aEmp aMir kDef cCac) (a1 : Addr) (e1 : Addr) (k9 : ClassId) (b0 : Addr) (b1 : Addr) (h0 : Heap) (n0 : Nat) (O0 : Old Z n0 h0) (PQ58 : Exa Z h0 a1 "java/util/ArrayList") (PQ59 : Fld Z h0 a1 "java/util/ArrayList" "elementData" "[Ljava/lang/Object;" (.ref e1)) (PQ60 : Fld Z h0 a1 "java/util/ArrayList" "size" "I" (.int 2)) (PQ61 : Arv Z h0 e1 k9 (.object "java/lang/Object") (10 : Int32) [(.ref b0), (.ref b1)] .null) (PQ62 : Exa Z h0 e1 "[Ljava/lang/Object;") (PQ52 : Exa Z h0 b0 "java/lang/Integer") (PQ53 : Exa Z h0 b1 "java/lang/Integer") :
    MetFree l mn32 (head1 (Jvm.Cond.code mn32 jdk_38_method_16_code 1 (some (.array (.object "java/lang/Object"))) :: ws) (rk 3 1 2 47)) (fun a U => a = #[(.ref a1)] ∧ Z.Warmed39 U.vm ∧ U.heap = h0) (fun _ _ _ _ _ => True) (fun _ U o U' => ∃ v L, o = .returned v ∧ Q_ta Z ku0 ku1 ku2 ku3 aDef aCac aEmp aMir kDef cCac a1 e1 k9 b0 b1 h0 n0 v U'.heap L ∧ FrameEnd U o U' L (rk 3 1 2 47).cells (rk 3 1 2 47).slots) := by
  refine MetFree.of_bodySF (plainFor_of_name pn_java_util_ArrayList) hisR ?_
  intro p e s m args below meth c s₁ Bd hml0 hP hK
  obtain ⟨rfl, hZ, hh⟩ := hP
  have hx := Bd.exec
  have hby := Bd.bytes
  have hml : c.maxLocals = 1 := hml0
  have hown : s.vm.findClass "java/util/ArrayList" = some m.cls := findClass_of_methodNamed Bd.named
  have hnm := (name_of_methodNamed Bd.named Bd.method).1
  have X0 : Stand p l e (rk 3 1 2 47) s m #[(.ref a1)] below meth c s₁ [] 0 0 := Stand.of_body Bd
  have e0 : s₁.heap = h0 := by rw [← hh, Bd.state]; rfl
  have N0 := Fr.nil n0
  refine og (Q := fun o U' => ∃ v L, o = .returned v ∧ Q_ta Z ku0 ku1 ku2 ku3 aDef aCac aEmp aMir kDef cCac a1 e1 k9 b0 b1 h0 n0 v U'.heap L ∧ FrameEnd s o U' L (rk 3 1 2 47).cells (rk 3 1 2 47).slots) (fun t k => castTop (ef_ta m a1) k) ?_
  show OG p e below _ s₁ m 0 #[vr a1] []
  refine qa X0.here hx hby dj38_16_0 rfl rfl ?_
  obtain ⟨T136, X136, e136, st136⟩ := getF X0 hx hZ hown (host := "") (Or.inl (ow hw 24 rfl)) Via.refl e0 PQ59 (g := (mkF m 1 #[vr a1] [(.ref a1)])) rfl rfl (hb hby dj38_16_1)
  refine og st136 ?_
  show OG p e below _ T136 m 4 #[vr a1] [(.ref e1)]
  refine qa X136.here hx hby dj38_16_4 rfl rfl ?_
  obtain ⟨T137, X137, e137, st137⟩ := getF X136 hx hZ hown (host := "") (Or.inl (ow hw 40 rfl)) Via.refl e136 PQ60 (g := (mkF m 5 #[vr a1] [(.ref a1), (.ref e1)])) rfl rfl (hb hby dj38_16_5)
  refine og st137 ?_
  show OG p e below _ T137 m 8 #[vr a1] [(.int 2), (.ref e1)]
  obtain ⟨_, _, ⟨T138, L138, k138, n138⟩, -, X138, ⟨Lc138, hQ138, l138, y138, z138⟩, st138⟩ := Jvm.LawKit.callS X137 hx (y := mn33) hown (mvT hZ (ow hw 121 rfl)) (mvT hZ (ow hw 122 rfl)) (mvT hZ (ow hw 123 rfl)) (mvT hZ (ow hw 124 rfl)) (by decide) (backOf (W := 0) (rm_cp2 l Z a0 hw [] ku0 ku1 ku2 ku3 aDef aCac aEmp aMir kDef cCac F0 e1 k9 b0 b1 h0 n0 O0 PQ61 PQ62 PQ52 PQ53) hZ (ow hw 124 rfl) (ow hw 123 rfl) (by decide) (by decide)) (g := (mkF m 8 #[vr a1] [(.int 2), (.ref e1)])) rfl (by rw [hml]; rfl) (argsL := [(.ref e1), (.int 2)]) (rest := []) (lenOf pd__Ljava_lang_Object__I___Ljava_lang_Object_ rfl) rfl (by show 2 * 0 + _ ≤ _; exact Nat.le_of_eq rfl) (hb hby dj38_16_8) (fun _ _ => ⟨rfl, e137, (by decide : 0 + 1 ≤ _), (by decide : 0 + 2 ≤ _)⟩)
  dsimp only [Pt.U, Pt.locs, Pt.cells, Pt.slots] at X138 l138 y138 z138 st138 hQ138
  subst l138 y138 z138
  obtain ⟨r1_138, k1_138, rfl, Nq138, K138, x138_0, x138_1, x138_2⟩ := hQ138
  obtain ⟨L138, X138, N138⟩ := pk X138 (Fr.app N0 Nq138)
  have O138 := O0.keep K138 all0
  have e138 : T138.heap = T138.heap := rfl
  have z139 := Nat.le_trans (Nat.le_refl _) K138.1
  have gex138_0 : n0 ≤ r1_138 := Nat.le_trans (own_sz O0) x138_0
  have ghx138_0 : h0.size ≤ r1_138 := Nat.le_trans (Nat.le_refl _) x138_0
  have lox138_0 : e1 < r1_138 := Nat.lt_of_lt_of_le PQ62.lt x138_0
  refine og st138 ?_
  show OG p e below _ T138 m 11 #[vr a1] [(.ref r1_138)]
  obtain ⟨fs, hr, hrun, hended, hW, hsame⟩ := X138.leave (v := some (.ref r1_138)) (fun h => by rw [Bd.returns] at h; cases h)
  refine ⟨_, _, retOut X138 hx Bd.returns rfl (Or.inr (Or.inr (Or.inr (Or.inr ⟨rfl, rfl, rfl⟩)))) (hb hby dj38_16_11) hr, hrun, hended, _, _, rfl, ?_, ⟨_, rfl⟩, hW, hsame.mono (by decide) (by decide)⟩
  show Q_ta Z ku0 ku1 ku2 ku3 aDef aCac aEmp aMir kDef cCac a1 e1 k9 b0 b1 h0 n0 _ T138.heap _
  rw [e138]
  exact ⟨r1_138, k1_138, rfl, N138, ((Keep.refl _ []).trans K138 all0), ghx138_0, x138_1, x138_2⟩
theorem dj31_10_0 : decode jdk_31_method_10_code 0 = .ok (.aload_n 0, 1) := by decide +kernel
theorem dj31_10_1 : decode jdk_31_method_10_code 1 = .ok (.ifnonnull 11, 3) := by decide +kernel
theorem dj31_10_12 : decode jdk_31_method_10_code 12 = .ok (.aload_n 0, 1) := by decide +kernel
theorem dj31_10_13 : decode jdk_31_method_10_code 13 = .ok (.areturn, 1) := by decide +kernel
theorem pn_java_util_Objects : plainName "java/util/Objects" = true := by first | (simp [plainName, overriddenIn]; done) | decide +kernel
def Q_rnn (Z : State) (ku0 ku1 ku2 ku3 aDef aCac aEmp aMir : Addr) (kDef : ClassId) (cCac : Cell) (a1 : Addr) (h0 : Heap) (n0 : Nat) (v : Option Value) (h : Heap) (L : List Loc) : Prop := v = some (.ref a1) ∧ Fr n0 L ∧ h = h0
theorem ef_rnn (m : MethodId) (x0 : Addr) : entryFrame m #[(.ref x0)] 1 = mkF m 0 #[vr x0] [] := by first | (simp [entryFrame, mkF, argsToLocals, Value.category]; done) | rfl
theorem rm_rnn (l : Launch) (Z : State) (a0 : Array Value) (hw : HW Z a0) (ws : List Jvm.Cond) (ku0 ku1 ku2 ku3 aDef aCac aEmp aMir : Addr) (kDef : ClassId) (cCac : Cell) (F0 : OwnFacts Z ku0 ku1 ku2 ku3 aDef aCac aEmp aMir kDef cCac) (a1 : Addr) (h0 : Heap) (n0 : Nat) (O0 : Old Z n0 h0) :
    MetFree l mn48 (head1 (Jvm.Cond.code mn48 jdk_31_method_10_code 1 (some (.object "java/lang/Object")) :: ws) (rk 0 0 0 0)) (fun a U => a = #[(.ref a1)] ∧ Z.Warmed39 U.vm ∧ U.heap = h0) (fun _ _ _ _ _ => True) (fun _ U o U' => ∃ v L, o = .returned v ∧ Q_rnn Z ku0 ku1 ku2 ku3 aDef aCac aEmp aMir kDef cCac a1 h0 n0 v U'.heap L ∧ FrameEnd U o U' L (rk 0 0 0 0).cells (rk 0 0 0 0).slots) := by
  refine MetFree.of_bodySF (plainFor_of_name pn_java_util_Objects) hisR ?_
  intro p e s m args below meth c s₁ Bd hml0 hP hK
  obtain ⟨rfl, hZ, hh⟩ := hP
  have hx := Bd.exec
  have hby := Bd.bytes
  have hml : c.maxLocals = 1 := hml0
  have hown : s.vm.findClass "java/util/Objects" = some m.cls := findClass_of_methodNamed Bd.named
  have hnm := (name_of_methodNamed Bd.named Bd.method).1
  have X0 : Stand p l e (rk 0 0 0 0) s m #[(.ref a1)] below meth c s₁ [] 0 0 := Stand.of_body Bd
  have e0 : s₁.heap = h0 := by rw [← hh, Bd.state]; rfl
  have N0 := Fr.nil n0
  refine og (Q := fun o U' => ∃ v L, o = .returned v ∧ Q_rnn Z ku0 ku1 ku2 ku3 aDef aCac aEmp aMir kDef cCac a1 h0 n0 v U'.heap L ∧ FrameEnd s o U' L (rk 0 0 0 0).cells (rk 0 0 0 0).slots) (fun t k => castTop (ef_rnn m a1) k) ?_
  show OG p e below _ s₁ m 0 #[vr a1] []
  refine qa X0.here hx hby dj31_10_0 rfl rfl ?_
  refine og (fun _ k => XS.ifnonnullYes X0.here hx rfl (pc0 := 1) (pc' := 12) rfl (hb hby dj31_10_1) rfl (by decide) (by decide) k) ?_
  show OG p e below _ s₁ m 12 #[vr a1] []
  refine qa X0.here hx hby dj31_10_12 rfl rfl ?_
  obtain ⟨fs, hr, hrun, hended, hW, hsame⟩ := X0.leave (v := some (.ref a1)) (fun h => by rw [Bd.returns] at h; cases h)
  refine ⟨_, _, retOut X0 hx Bd.returns rfl (Or.inr (Or.inr (Or.inr (Or.inr ⟨rfl, rfl, rfl⟩)))) (hb hby dj31_10_13) hr, hrun, hended, _, _, rfl, ?_, ⟨_, rfl⟩, hW, hsame.mono (by decide) (by decide)⟩
  show Q_rnn Z ku0 ku1 ku2 ku3 aDef aCac aEmp aMir kDef cCac a1 h0 n0 _ s₁.heap _
  rw [e0]
  exact ⟨rfl, N0, rfl⟩
theorem dj44_2_0 : decode jdk_44_method_2_code 0 = .ok (.aload_n 0, 1) := by decide +kernel
theorem dj44_2_1 : decode jdk_44_method_2_code 1 = .ok (.invokespecial 1, 3) := by decide +kernel
theorem dj44_2_4 : decode jdk_44_method_2_code 4 = .ok (.aload_n 0, 1) := by decide +kernel
theorem dj44_2_5 : decode jdk_44_method_2_code 5 = .ok (.aload_n 1, 1) := by decide +kernel
theorem dj44_2_6 : decode jdk_44_method_2_code 6 = .ok (.invokestatic 7, 3) := by decide +kernel
theorem pd_Ljava_lang_Object___Ljava_lang_Object_ : parseMethodDescriptor "(Ljava/lang/Object;)Ljava/lang/Object;" = some ⟨[(.object "java/lang/Object")], some (.object "java/lang/Object")⟩ := by decide +kernel
theorem dj44_2_9 : decode jdk_44_method_2_code 9 = .ok (.putfield 13, 3) := by decide +kernel
theorem dj44_2_12 : decode jdk_44_method_2_code 12 = .ok (.aload_n 0, 1) := by decide +kernel
theorem dj44_2_13 : decode jdk_44_method_2_code 13 = .ok (.aload_n 2, 1) := by decide +kernel
theorem dj44_2_14 : decode jdk_44_method_2_code 14 = .ok (.invokestatic 7, 3) := by decide +kernel
theorem dj44_2_17 : decode jdk_44_method_2_code 17 = .ok (.putfield 24, 3) := by decide +kernel
theorem lp_3 {Z : State} {a0 : Array Value} (hw : HW Z a0) : LP Z a0 "java/util/ImmutableCollections$List12" "java/util/ImmutableCollections$List12" "e1" "Ljava/lang/Object;" := ⟨(Or.inr (ow hw 174 rfl)), (.object "java/lang/Object"), by decide⟩
theorem lp_4 {Z : State} {a0 : Array Value} (hw : HW Z a0) : LP Z a0 "java/util/ImmutableCollections$List12" "java/util/ImmutableCollections$List12" "e0" "Ljava/lang/Object;" := ⟨(Or.inr (ow hw 172 rfl)), (.object "java/lang/Object"), by decide⟩
theorem dj44_2_20 : decode jdk_44_method_2_code 20 = .ok (.return_, 1) := by decide +kernel
theorem pn_java_util_ImmutableCollections_List12 : plainName "java/util/ImmutableCollections$List12" = true := by first | (simp [plainName, overriddenIn]; done) | decide +kernel
def Q_iL12 (Z : State) (ku0 ku1 ku2 ku3 aDef aCac aEmp aMir : Addr) (kDef : ClassId) (cCac : Cell) (a1 : Addr) (b0 : Addr) (b1 : Addr) (h0 : Heap) (n0 : Nat) (v : Option Value) (h : Heap) (L : List Loc) : Prop := v = none ∧ Fr n0 L ∧ Keep h0 h [a1]
theorem ef_iL12 (m : MethodId) (x0 : Addr) (x1 : Addr) (x2 : Addr) : entryFrame m #[(.ref x0), (.ref x1), (.ref x2)] 3 = mkF m 0 #[vr x0, vr x1, vr x2] [] := by first | (simp [entryFrame, mkF, argsToLocals, Value.category]; done) | rfl
theorem rm_iL12 (l : Launch) (Z : State) (a0 : Array Value) (hw : HW Z a0) (ws : List Jvm.Cond) (ku0 ku1 ku2 ku3 aDef aCac aEmp aMir : Addr) (kDef : ClassId) (cCac : Cell) (F0 : OwnFacts Z ku0 ku1 ku2 ku3 aDef aCac aEmp aMir kDef cCac) (a1 : Addr) (b0 : Addr) (b1 : Addr) (h0 : Heap) (n0 : Nat) (O0 : Old Z n0 h0) (PQ63 : Exa Z h0 a1 "java/util/ImmutableCollections$List12") (PQ64 : Fld Z h0 a1 "java/util/ImmutableCollections$List12" "e0" "Ljava/lang/Object;" .null) (PQ65 : Fld Z h0 a1 "java/util/ImmutableCollections$List12" "e1" "Ljava/lang/Object;" .null) (PQ66 : n0 ≤ a1) :
    MetFree l mn41 (head1 (Jvm.Cond.code mn41 jdk_44_method_2_code 3 none :: ws) (rk 4 0 0 48)) (fun a U => a = #[(.ref a1), (.ref b0), (.ref b1)] ∧ Z.Warmed39 U.vm ∧ U.heap = h0) (fun _ _ _ _ _ => True) (fun _ U o U' => ∃ v L, o = .returned v ∧ Q_iL12 Z ku0 ku1 ku2 ku3 aDef aCac aEmp aMir kDef cCac a1 b0 b1 h0 n0 v U'.heap L ∧ FrameEnd U o U' L (rk 4 0 0 48).cells (rk 4 0 0 48).slots) := by
  refine MetFree.of_bodySF (plainFor_of_name pn_java_util_ImmutableCollections_List12) hisR ?_
  intro p e s m args below meth c s₁ Bd hml0 hP hK
  obtain ⟨rfl, hZ, hh⟩ := hP
  have hx := Bd.exec
  have hby := Bd.bytes
  have hml : c.maxLocals = 3 := hml0
  have hown : s.vm.findClass "java/util/ImmutableCollections$List12" = some m.cls := findClass_of_methodNamed Bd.named
  have hnm := (name_of_methodNamed Bd.named Bd.method).1
  have X0 : Stand p l e (rk 4 0 0 48) s m #[(.ref a1), (.ref b0), (.ref b1)] below meth c s₁ [] 0 0 := Stand.of_body Bd
  have e0 : s₁.heap = h0 := by rw [← hh, Bd.state]; rfl
  have N0 := Fr.nil n0
  refine og (Q := fun o U' => ∃ v L, o = .returned v ∧ Q_iL12 Z ku0 ku1 ku2 ku3 aDef aCac aEmp aMir kDef cCac a1 b0 b1 h0 n0 v U'.heap L ∧ FrameEnd s o U' L (rk 4 0 0 48).cells (rk 4 0 0 48).slots) (fun t k => castTop (ef_iL12 m a1 b0 b1) k) ?_
  show OG p e below _ s₁ m 0 #[vr a1, vr b0, vr b1] []
  refine qa X0.here hx hby dj44_2_0 rfl rfl ?_
  obtain ⟨_, _, ⟨T140, L140, k140, n140⟩, -, X140, ⟨Lc140, hQ140, l140, y140, z140⟩, st140⟩ := X0.specialBack hx (y := mn40) rfl hown (mvT hZ (ow hw 153 rfl)) (mvT hZ (ow hw 154 rfl)) (mvT hZ (ow hw 158 rfl)) (by decide) (backOf (W := 0) (rm_iAIL l Z a0 hw [] ku0 ku1 ku2 ku3 aDef aCac aEmp aMir kDef cCac F0 a1 h0 n0 O0) hZ (ow hw 158 rfl) (ow hw 157 rfl) (by decide) (by decide)) (g := (mkF m 1 #[vr a1, vr b0, vr b1] [(.ref a1)])) rfl (by rw [hml]; rfl) (Steps.refl _) (a := a1) (argsL := []) (rest := []) (lenOf pd___V rfl) rfl (by show 2 * 0 + _ ≤ _; exact Nat.le_of_eq rfl) (hb hby dj44_2_1) (fun _ _ => ⟨rfl, e0, (by decide : 0 + 0 ≤ _), (by decide : 0 + 0 ≤ _)⟩)
  dsimp only [Pt.U, Pt.locs, Pt.cells, Pt.slots] at X140 l140 y140 z140 st140 hQ140
  subst l140 y140 z140
  obtain ⟨rfl, Nq140, K140⟩ := hQ140
  obtain ⟨L140, X140, N140⟩ := pk X140 (Fr.app N0 Nq140)
  refine og (fun _ k => st140.trans k) ?_
  show OG p e below _ T140 m 4 #[vr a1, vr b0, vr b1] []
  refine qa X140.here hx hby dj44_2_4 rfl rfl ?_
  refine qa X140.here hx hby dj44_2_5 rfl rfl ?_
  obtain ⟨_, _, ⟨T141, L141, k141, n141⟩, -, X141, ⟨Lc141, hQ141, l141, y141, z141⟩, st141⟩ := Jvm.LawKit.callS X140 hx (y := mn48) hown (mvT hZ (ow hw 167 rfl)) (mvT hZ (ow hw 168 rfl)) (mvT hZ (ow hw 169 rfl)) (mvT hZ (ow hw 170 rfl)) (by decide) (backOf (W := 1) (rm_rnn l Z a0 hw [] ku0 ku1 ku2 ku3 aDef aCac aEmp aMir kDef cCac F0 b0 h0 n0 O0) hZ (ow hw 170 rfl) (ow hw 169 rfl) (by decide) (by decide)) (g := (mkF m 6 #[vr a1, vr b0, vr b1] [(.ref b0), (.ref a1)])) rfl (by rw [hml]; rfl) (argsL := [(.ref b0)]) (rest := [(.ref a1)]) (lenOf pd_Ljava_lang_Object___Ljava_lang_Object_ rfl) rfl (by show 2 * 0 + _ ≤ _; exact Nat.le_of_eq rfl) (hb hby dj44_2_6) (fun _ _ => ⟨rfl, K140, (by decide : 0 + 0 ≤ _), (by decide : 0 + 0 ≤ _)⟩)
  dsimp only [Pt.U, Pt.locs, Pt.cells, Pt.slots] at X141 l141 y141 z141 st141 hQ141
  subst l141 y141 z141
  obtain ⟨rfl, Nq141, K141⟩ := hQ141
  obtain ⟨L141, X141, N141⟩ := pk X141 (Fr.app N140 Nq141)
  refine og st141 ?_
  show OG p e below _ T141 m 9 #[vr a1, vr b0, vr b1] [(.ref b0), (.ref a1)]
  obtain ⟨T142, h142, X142, e142, W142, st142⟩ := putF X141 hx hZ hown (host := "") (Or.inl (ow hw 171 rfl)) Via.refl K141 PQ64 PQ63 (Or.inr ⟨(ow hw 172 rfl), rfl, hnm⟩) (ow hw 147 rfl) (ty := (.object "java/lang/Object")) (by decide) rfl rfl (g := (mkF m 9 #[vr a1, vr b0, vr b1] [(.ref b0), (.ref a1)])) rfl rfl (hb hby dj44_2_9)
  obtain ⟨L142, X142, N142⟩ := pk X142 (Fr.snoc X142 N141 PQ66)
  have O142 := O0.wr W142 PQ66
  have z143 := Nat.le_trans (Nat.le_refl _) (Nat.le_of_eq W142.size.symm)
  have F142 : Fld Z h142 a1 "java/util/ImmutableCollections$List12" "e0" "Ljava/lang/Object;" (.ref b0) := PQ64.same W142
  refine og st142 ?_
  show OG p e below _ T142 m 12 #[vr a1, vr b0, vr b1] []
  refine qa X142.here hx hby dj44_2_12 rfl rfl ?_
  refine qa X142.here hx hby dj44_2_13 rfl rfl ?_
  obtain ⟨_, _, ⟨T144, L144, k144, n144⟩, -, X144, ⟨Lc144, hQ144, l144, y144, z144⟩, st144⟩ := Jvm.LawKit.callS X142 hx (y := mn48) hown (mvT hZ (ow hw 167 rfl)) (mvT hZ (ow hw 168 rfl)) (mvT hZ (ow hw 169 rfl)) (mvT hZ (ow hw 170 rfl)) (by decide) (backOf (W := 1) (rm_rnn l Z a0 hw [] ku0 ku1 ku2 ku3 aDef aCac aEmp aMir kDef cCac F0 b1 h142 n0 O142) hZ (ow hw 170 rfl) (ow hw 169 rfl) (by decide) (by decide)) (g := (mkF m 14 #[vr a1, vr b0, vr b1] [(.ref b1), (.ref a1)])) rfl (by rw [hml]; rfl) (argsL := [(.ref b1)]) (rest := [(.ref a1)]) (lenOf pd_Ljava_lang_Object___Ljava_lang_Object_ rfl) rfl (by show 2 * 0 + _ ≤ _; exact Nat.le_of_eq rfl) (hb hby dj44_2_14) (fun _ _ => ⟨rfl, e142, (by decide : 0 + 0 ≤ _), (by decide : 0 + 0 ≤ _)⟩)
  dsimp only [Pt.U, Pt.locs, Pt.cells, Pt.slots] at X144 l144 y144 z144 st144 hQ144
  subst l144 y144 z144
  obtain ⟨rfl, Nq144, K144⟩ := hQ144
  obtain ⟨L144, X144, N144⟩ := pk X144 (Fr.app N142 Nq144)
  refine og st144 ?_
  show OG p e below _ T144 m 17 #[vr a1, vr b0, vr b1] [(.ref b1), (.ref a1)]
  have F146 := (oo W142 PQ65 (lp_3 hw) (lp_4 hw) (by decide))
  have F147 := (PQ63.wr W142)
  obtain ⟨T145, h145, X145, e145, W145, st145⟩ := putF X144 hx hZ hown (host := "") (Or.inl (ow hw 173 rfl)) Via.refl K144 F146 F147 (Or.inr ⟨(ow hw 174 rfl), rfl, hnm⟩) (ow hw 147 rfl) (ty := (.object "java/lang/Object")) (by decide) rfl rfl (g := (mkF m 17 #[vr a1, vr b0, vr b1] [(.ref b1), (.ref a1)])) rfl rfl (hb hby dj44_2_17)
  obtain ⟨L145, X145, N145⟩ := pk X145 (Fr.snoc X145 N144 PQ66)
  have O145 := O142.wr W145 PQ66
  have z148 := Nat.le_trans z143 (Nat.le_of_eq W145.size.symm)
  have F145 : Fld Z h145 a1 "java/util/ImmutableCollections$List12" "e1" "Ljava/lang/Object;" (.ref b1) := F146.same W145
  refine og st145 ?_
  show OG p e below _ T145 m 20 #[vr a1, vr b0, vr b1] []
  obtain ⟨fs, hr, hrun, hended, hW, hsame⟩ := X145.leave (v := none) (fun h => rfl)
  refine ⟨_, _, X145.returnOut hx Bd.returns (hb hby dj44_2_20) hr, hrun, hended, _, _, rfl, ?_, ⟨_, rfl⟩, hW, hsame.mono (by decide) (by decide)⟩
  show Q_iL12 Z ku0 ku1 ku2 ku3 aDef aCac aEmp aMir kDef cCac a1 b0 b1 h0 n0 _ T145.heap _
  rw [e145]
  exact ⟨rfl, N145, (((Keep.refl _ [a1]).wr W142 (om 0 rfl)).wr W145 (om 0 rfl))⟩
theorem dj40_47_0 : decode jdk_40_method_47_code 0 = .ok (.aload_n 0, 1) := by decide +kernel
theorem dj40_47_1 : decode jdk_40_method_47_code 1 = .ok (.arraylength, 1) := by decide +kernel
theorem dj40_47_2 : decode jdk_40_method_47_code 2 = .ok (.tableswitch 57 0 2 #[26, 32, 43], 26) := by decide +kernel
theorem dj40_47_45 : decode jdk_40_method_47_code 45 = .ok (.new 96, 3) := by decide +kernel
theorem dj40_47_48 : decode jdk_40_method_47_code 48 = .ok (.dup, 1) := by decide +kernel
theorem dj40_47_49 : decode jdk_40_method_47_code 49 = .ok (.aload_n 0, 1) := by decide +kernel
theorem dj40_47_50 : decode jdk_40_method_47_code 50 = .ok (.iconst 0, 1) := by decide +kernel
theorem dj40_47_51 : decode jdk_40_method_47_code 51 = .ok (.aaload, 1) := by decide +kernel
theorem dj40_47_52 : decode jdk_40_method_47_code 52 = .ok (.aload_n 0, 1) := by decide +kernel
theorem dj40_47_53 : decode jdk_40_method_47_code 53 = .ok (.iconst 1, 1) := by decide +kernel
theorem dj40_47_54 : decode jdk_40_method_47_code 54 = .ok (.aaload, 1) := by decide +kernel
theorem dj40_47_55 : decode jdk_40_method_47_code 55 = .ok (.invokespecial 100, 3) := by decide +kernel
theorem pd_Ljava_lang_Object__Ljava_lang_Object___V : parseMethodDescriptor "(Ljava/lang/Object;Ljava/lang/Object;)V" = some ⟨[(.object "java/lang/Object"), (.object "java/lang/Object")], none⟩ := by decide +kernel
theorem dj40_47_58 : decode jdk_40_method_47_code 58 = .ok (.areturn, 1) := by decide +kernel
theorem pn_java_util_List : plainName "java/util/List" = true := by first | (simp [plainName, overriddenIn]; done) | decide +kernel
def Q_lo (Z : State) (ku0 ku1 ku2 ku3 aDef aCac aEmp aMir : Addr) (kDef : ClassId) (cCac : Cell) (a1 : Addr) (k9 : ClassId) (b0 : Addr) (b1 : Addr) (h0 : Heap) (n0 : Nat) (v : Option Value) (h : Heap) (L : List Loc) : Prop := ∃ (r2 : Addr), v = some (.ref r2) ∧ Fr n0 L ∧ Keep h0 h [] ∧ h0.size ≤ r2 ∧ Exa Z h r2 "java/util/ImmutableCollections$List12"
theorem ef_lo (m : MethodId) (x0 : Addr) : entryFrame m #[(.ref x0)] 2 = mkF m 0 #[vr x0, .unset] [] := by first | (simp [entryFrame, mkF, argsToLocals, Value.category]; done) | rfl
theorem rm_lo (l : Launch) (Z : State) (a0 : Array Value) (hw : HW Z a0) (ws : List Jvm.Cond) (ku0 ku1 ku2 ku3 aDef aCac aEmp aMir : Addr) (kDef : ClassId) (cCac : Cell) (F0 : OwnFacts Z ku0 ku1 ku2 ku3 aDef aCac aEmp aMir kDef cCac) (a1 : Addr) (k9 : ClassId) (b0 : Addr) (b1 : Addr) (h0 : Heap) (n0 : Nat) (O0 : Old Z n0 h0) (PQ67 : Arv Z h0 a1 k9 (.object "java/lang/Object") (2 : Int32) [(.ref b0), (.ref b1)] .null) (PQ68 : Exa Z h0 a1 "[Ljava/lang/Object;") :
    MetFree l mn46 (head1 (Jvm.Cond.code mn46 jdk_40_method_47_code 2 (some (.object "java/util/List")) :: ws) (rk 5 1 2 63)) (fun a U => a = #[(.ref a1)] ∧ Z.Warmed39 U.vm ∧ U.heap = h0) (fun _ _ _ _ _ => True) (fun _ U o U' => ∃ v L, o = .returned v ∧ Q_lo Z ku0 ku1 ku2 ku3 aDef aCac aEmp aMir kDef cCac a1 k9 b0 b1 h0 n0 v U'.heap L ∧ FrameEnd U o U' L (rk 5 1 2 63).cells (rk 5 1 2 63).slots) := by
  refine MetFree.of_bodySF (plainFor_of_name pn_java_util_List) hisR ?_
  intro p e s m args below meth c s₁ Bd hml0 hP hK
  obtain ⟨rfl, hZ, hh⟩ := hP
  have hx := Bd.exec
  have hby := Bd.bytes
  have hml : c.maxLocals = 2 := hml0
  have hown : s.vm.findClass "java/util/List" = some m.cls := findClass_of_methodNamed Bd.named
  have hnm := (name_of_methodNamed Bd.named Bd.method).1
  have X0 : Stand p l e (rk 5 1 2 63) s m #[(.ref a1)] below meth c s₁ [] 0 0 := Stand.of_body Bd
  have e0 : s₁.heap = h0 := by rw [← hh, Bd.state]; rfl
  have N0 := Fr.nil n0
  refine og (Q := fun o U' => ∃ v L, o = .returned v ∧ Q_lo Z ku0 ku1 ku2 ku3 aDef aCac aEmp aMir kDef cCac a1 k9 b0 b1 h0 n0 v U'.heap L ∧ FrameEnd s o U' L (rk 5 1 2 63).cells (rk 5 1 2 63).slots) (fun t k => castTop (ef_lo m a1) k) ?_
  show OG p e below _ s₁ m 0 #[vr a1, .unset] []
  refine qa X0.here hx hby dj40_47_0 rfl rfl ?_
  obtain ⟨c149, Ar149, q149, S149, M149, H149, G149⟩ := (id PQ67)
  refine og (fun _ k => X0.arraylength hx (cell := c149) (by rw [e0]; exact Ar149.1) (State.isArrayOf_alike hZ.alike Ar149.2.1) (g := (mkF m 1 #[vr a1, .unset] [(.ref a1)])) rfl (rest := []) rfl (hb hby dj40_47_1) _ k) ?_
  rw [len_of S149 M149]
  show OG p e below _ s₁ m 2 #[vr a1, .unset] [(.int 2)]
  refine og (fun _ k => XS.tswIn X0.here hx rfl (pc0 := 2) (pc' := 45) (o := 43) rfl (hb hby dj40_47_2) rfl (by decide) (by decide) (by decide) (by decide) k) ?_
  show OG p e below _ s₁ m 45 #[vr a1, .unset] []
  obtain ⟨T150, h150, X150, e150, E150, A150, D150, -, st150⟩ := newO X0 hx hZ hown (ow hw 146 rfl) (ow hw 147 rfl) (ow hw 148 rfl) e0 (g := (mkF m 45 #[vr a1, .unset] [])) rfl (hb hby dj40_47_45) (by decide) (by decide)
  obtain ⟨a150, g150⟩ : ∃ z, z = h0.size := ⟨_, rfl⟩
  rw [← g150] at A150 D150 st150
  have ge150 : n0 ≤ a150 := Nat.le_trans (own_sz O0) (Nat.le_of_eq g150.symm)
  have gh150 : h0.size ≤ a150 := Nat.le_trans (Nat.le_refl _) (Nat.le_of_eq g150.symm)
  have lo150 : a1 < a150 := Nat.lt_of_lt_of_eq PQ68.lt g150.symm
  have O150 := O0.ext E150
  have z151 := Nat.le_trans (Nat.le_refl _) E150.1
  have F152 : Fld Z h150 a150 "java/util/ImmutableCollections$List12" "e0" "Ljava/lang/Object;" .null := D150 (Or.inr (ow hw 172 rfl)) (ty := (.object "java/lang/Object")) (by decide)
  have F153 : Fld Z h150 a150 "java/util/ImmutableCollections$List12" "e1" "Ljava/lang/Object;" .null := D150 (Or.inr (ow hw 174 rfl)) (ty := (.object "java/lang/Object")) (by decide)
  refine og st150 ?_
  show OG p e below _ T150 m 48 #[vr a1, .unset] [(.ref a150)]
  refine qd X150.here hx hby dj40_47_48 rfl rfl ?_
  refine qa X150.here hx hby dj40_47_49 rfl rfl ?_
  refine qc X150.here hx hby dj40_47_50 ?_
  have F154 := (PQ67.ext E150)
  obtain ⟨c155, Ar155, q155, S155, M155, H155, G155⟩ := (id F154)
  refine og (fun _ k => X150.aaload hx (j := (0 : Int32)) (v := (.ref b0)) (by rw [e150]; exact Ar155.1) (State.isArrayOf_alike hZ.alike Ar155.2.1) rfl Ar155.2.2 (inb_of S155 ⟨by decide, by decide⟩) (Has.at H155 (inb_of S155 ⟨by decide, by decide⟩) rfl) (g := (mkF m 51 #[vr a1, .unset] [(.int 0), (.ref a1), (.ref a150), (.ref a150)])) rfl rfl (hb hby dj40_47_51) _ k) ?_
  show OG p e below _ T150 m 52 #[vr a1, .unset] [(.ref b0), (.ref a150), (.ref a150)]
  refine qa X150.here hx hby dj40_47_52 rfl rfl ?_
  refine qc X150.here hx hby dj40_47_53 ?_
  obtain ⟨c156, Ar156, q156, S156, M156, H156, G156⟩ := (id F154)
  refine og (fun _ k => X150.aaload hx (j := (1 : Int32)) (v := (.ref b1)) (by rw [e150]; exact Ar156.1) (State.isArrayOf_alike hZ.alike Ar156.2.1) rfl Ar156.2.2 (inb_of S156 ⟨by decide, by decide⟩) (Has.at H156 (inb_of S156 ⟨by decide, by decide⟩) rfl) (g := (mkF m 54 #[vr a1, .unset] [(.int 1), (.ref a1), (.ref b0), (.ref a150), (.ref a150)])) rfl rfl (hb hby dj40_47_54) _ k) ?_
  show OG p e below _ T150 m 55 #[vr a1, .unset] [(.ref b1), (.ref b0), (.ref a150), (.ref a150)]
  obtain ⟨_, _, ⟨T157, L157, k157, n157⟩, -, X157, ⟨Lc157, hQ157, l157, y157, z157⟩, st157⟩ := X150.specialBack hx (y := mn41) rfl hown (mvT hZ (ow hw 149 rfl)) (mvT hZ (ow hw 150 rfl)) (mvT hZ (ow hw 152 rfl)) (by decide) (backOf (W := 1) (rm_iL12 l Z a0 hw [] ku0 ku1 ku2 ku3 aDef aCac aEmp aMir kDef cCac F0 a150 b0 b1 h150 n0 O150 A150 F152 F153 ge150) hZ (ow hw 152 rfl) (ow hw 148 rfl) (by decide) (by decide)) (g := (mkF m 55 #[vr a1, .unset] [(.ref b1), (.ref b0), (.ref a150), (.ref a150)])) rfl (by rw [hml]; rfl) (Steps.refl _) (a := a150) (argsL := [(.ref b0), (.ref b1)]) (rest := [(.ref a150)]) (lenOf pd_Ljava_lang_Object__Ljava_lang_Object___V rfl) rfl (by show 2 * 0 + _ ≤ _; exact Nat.le_of_eq rfl) (hb hby dj40_47_55) (fun _ _ => ⟨rfl, e150, (by decide : 1 + 0 ≤ _), (by decide : 2 + 0 ≤ _)⟩)
  dsimp only [Pt.U, Pt.locs, Pt.cells, Pt.slots] at X157 l157 y157 z157 st157 hQ157
  subst l157 y157 z157
  obtain ⟨rfl, Nq157, K157⟩ := hQ157
  obtain ⟨L157, X157, N157⟩ := pk X157 (Fr.app N0 Nq157)
  have O157 := O150.keep K157 (allS ge150 all0)
  have e157 : T157.heap = T157.heap := rfl
  have z158 := Nat.le_trans z151 K157.1
  refine og (fun _ k => st157.trans k) ?_
  show OG p e below _ T157 m 58 #[vr a1, .unset] [(.ref a150)]
  obtain ⟨fs, hr, hrun, hended, hW, hsame⟩ := X157.leave (v := some (.ref a150)) (fun h => by rw [Bd.returns] at h; cases h)
  refine ⟨_, _, retOut X157 hx Bd.returns rfl (Or.inr (Or.inr (Or.inr (Or.inr ⟨rfl, rfl, rfl⟩)))) (hb hby dj40_47_58) hr, hrun, hended, _, _, rfl, ?_, ⟨_, rfl⟩, hW, hsame.mono (by decide) (by decide)⟩
  show Q_lo Z ku0 ku1 ku2 ku3 aDef aCac aEmp aMir kDef cCac a1 k9 b0 b1 h0 n0 _ T157.heap _
  rw [e157]
  have F159 := (A150.keep K157)
  exact ⟨a150, rfl, N157, (((Keep.refl _ []).ext E150).trans K157 (aS (Or.inr gh150) all0)), gh150, F159⟩
theorem dj40_36_0 : decode jdk_40_method_36_code 0 = .ok (.getstatic 90, 3) := by decide +kernel
theorem dj40_36_3 : decode jdk_40_method_36_code 3 = .ok (.areturn, 1) := by decide +kernel
def Q_lo0 (Z : State) (ku0 ku1 ku2 ku3 aDef aCac aEmp aMir : Addr) (kDef : ClassId) (cCac : Cell) (h0 : Heap) (n0 : Nat) (v : Option Value) (h : Heap) (L : List Loc) : Prop := v = some (.ref aEmp) ∧ Fr n0 L ∧ h = h0
theorem ef_lo0 (m : MethodId) : entryFrame m #[] 0 = mkF m 0 #[] [] := by first | (simp [entryFrame, mkF, argsToLocals, Value.category]; done) | rfl
theorem rm_lo0 (l : Launch) (Z : State) (a0 : Array Value) (hw : HW Z a0) (ws : List Jvm.Cond) (ku0 ku1 ku2 ku3 aDef aCac aEmp aMir : Addr) (kDef : ClassId) (cCac : Cell) (F0 : OwnFacts Z ku0 ku1 ku2 ku3 aDef aCac aEmp aMir kDef cCac) (h0 : Heap) (n0 : Nat) (O0 : Old Z n0 h0) :
    MetFree l mn45 (head1 (Jvm.Cond.code mn45 jdk_40_method_36_code 0 (some (.object "java/util/List")) :: ws) (rk 0 0 0 0)) (fun a U => a = #[] ∧ Z.Warmed39 U.vm ∧ U.heap = h0) (fun _ _ _ _ _ => True) (fun _ U o U' => ∃ v L, o = .returned v ∧ Q_lo0 Z ku0 ku1 ku2 ku3 aDef aCac aEmp aMir kDef cCac h0 n0 v U'.heap L ∧ FrameEnd U o U' L (rk 0 0 0 0).cells (rk 0 0 0 0).slots) := by
  refine MetFree.of_bodySF (plainFor_of_name pn_java_util_List) hisR ?_
  intro p e s m args below meth c s₁ Bd hml0 hP hK
  obtain ⟨rfl, hZ, hh⟩ := hP
  have hx := Bd.exec
  have hby := Bd.bytes
  have hml : c.maxLocals = 0 := hml0
  have hown : s.vm.findClass "java/util/List" = some m.cls := findClass_of_methodNamed Bd.named
  have hnm := (name_of_methodNamed Bd.named Bd.method).1
  have X0 : Stand p l e (rk 0 0 0 0) s m #[] below meth c s₁ [] 0 0 := Stand.of_body Bd
  have e0 : s₁.heap = h0 := by rw [← hh, Bd.state]; rfl
  have N0 := Fr.nil n0
  refine og (Q := fun o U' => ∃ v L, o = .returned v ∧ Q_lo0 Z ku0 ku1 ku2 ku3 aDef aCac aEmp aMir kDef cCac h0 n0 v U'.heap L ∧ FrameEnd s o U' L (rk 0 0 0 0).cells (rk 0 0 0 0).slots) (fun t k => castTop (ef_lo0 m) k) ?_
  show OG p e below _ s₁ m 0 #[] []
  obtain ⟨T160, X160, e160, st160⟩ := getS X0 hx hZ hown (host := "") (ow hw 81 rfl) Via.refl e0 (F0.2.2.2.2.2.2.2.2.2.2.2.2.2.2.2.2.2.2.1.ext O0.2) (g := (mkF m 0 #[] [])) rfl (hb hby dj40_36_0)
  refine og st160 ?_
  show OG p e below _ T160 m 3 #[] [(.ref aEmp)]
  obtain ⟨fs, hr, hrun, hended, hW, hsame⟩ := X160.leave (v := some (.ref aEmp)) (fun h => by rw [Bd.returns] at h; cases h)
  refine ⟨_, _, retOut X160 hx Bd.returns rfl (Or.inr (Or.inr (Or.inr (Or.inr ⟨rfl, rfl, rfl⟩)))) (hb hby dj40_36_3) hr, hrun, hended, _, _, rfl, ?_, ⟨_, rfl⟩, hW, hsame.mono (by decide) (by decide)⟩
  show Q_lo0 Z ku0 ku1 ku2 ku3 aDef aCac aEmp aMir kDef cCac h0 n0 _ T160.heap _
  rw [e160]
  exact ⟨rfl, N0, rfl⟩
theorem dj56_3_0 : decode jdk_56_method_3_code 0 = .ok (.aload_n 0, 1) := by decide +kernel
theorem dj56_3_1 : decode jdk_56_method_3_code 1 = .ok (.instanceof 10, 3) := by decide +kernel
theorem dj56_3_4 : decode jdk_56_method_3_code 4 = .ok (.ifCond .ne 22, 3) := by decide +kernel
theorem dj56_3_7 : decode jdk_56_method_3_code 7 = .ok (.aload_n 0, 1) := by decide +kernel
theorem dj56_3_8 : decode jdk_56_method_3_code 8 = .ok (.instanceof 12, 3) := by decide +kernel
theorem dj56_3_11 : decode jdk_56_method_3_code 11 = .ok (.ifCond .eq 20, 3) := by decide +kernel
theorem dj56_3_31 : decode jdk_56_method_3_code 31 = .ok (.aload_n 0, 1) := by decide +kernel
theorem dj56_3_32 : decode jdk_56_method_3_code 32 = .ok (.invokeinterface 20 1, 5) := by decide +kernel
theorem dj38_9_0 : decode jdk_38_method_9_code 0 = .ok (.aload_n 0, 1) := by decide +kernel
theorem dj38_9_1 : decode jdk_38_method_9_code 1 = .ok (.getfield 48, 3) := by decide +kernel
theorem dj38_9_4 : decode jdk_38_method_9_code 4 = .ok (.ifCond .ne 7, 3) := by decide +kernel
theorem dj38_9_11 : decode jdk_38_method_9_code 11 = .ok (.iconst 0, 1) := by decide +kernel
theorem dj38_9_12 : decode jdk_38_method_9_code 12 = .ok (.ireturn, 1) := by decide +kernel
def Q_ie2 (Z : State) (ku0 ku1 ku2 ku3 aDef aCac aEmp aMir : Addr) (kDef : ClassId) (cCac : Cell) (a1 : Addr) (h0 : Heap) (n0 : Nat) (v : Option Value) (h : Heap) (L : List Loc) : Prop := v = some (.int 0) ∧ Fr n0 L ∧ h = h0
theorem ef_ie2 (m : MethodId) (x0 : Addr) : entryFrame m #[(.ref x0)] 1 = mkF m 0 #[vr x0] [] := by first | (simp [entryFrame, mkF, argsToLocals, Value.category]; done) | rfl
theorem rm_ie2 (l : Launch) (Z : State) (a0 : Array Value) (hw : HW Z a0) (ws : List Jvm.Cond) (ku0 ku1 ku2 ku3 aDef aCac aEmp aMir : Addr) (kDef : ClassId) (cCac : Cell) (F0 : OwnFacts Z ku0 ku1 ku2 ku3 aDef aCac aEmp aMir kDef cCac) (a1 : Addr) (h0 : Heap) (n0 : Nat) (O0 : Old Z n0 h0) (PQ74 : Fld Z h0 a1 "java/util/ArrayList" "size" "I" (.int 2)) :
    MetFree l mn30 (head1 (Jvm.Cond.code mn30 jdk_38_method_9_code 1 (some .boolean) :: ws) (rk 0 0 0 0)) (fun a U => a = #[(.ref a1)] ∧ Z.Warmed39 U.vm ∧ U.heap = h0) (fun _ _ _ _ _ => True) (fun _ U o U' => ∃ v L, o = .returned v ∧ Q_ie2 Z ku0 ku1 ku2 ku3 aDef aCac aEmp aMir kDef cCac a1 h0 n0 v U'.heap L ∧ FrameEnd U o U' L (rk 0 0 0 0).cells (rk 0 0 0 0).slots) := by
  refine MetFree.of_bodySF (plainFor_of_name pn_java_util_ArrayList) hisR ?_
  intro p e s m args below meth c s₁ Bd hml0 hP hK
  obtain ⟨rfl, hZ, hh⟩ := hP
  have hx := Bd.exec
  have hby := Bd.bytes
  have hml : c.maxLocals = 1 := hml0
  have hown : s.vm.findClass "java/util/ArrayList" = some m.cls := findClass_of_methodNamed Bd.named
  have hnm := (name_of_methodNamed Bd.named Bd.method).1
  have X0 : Stand p l e (rk 0 0 0 0) s m #[(.ref a1)] below meth c s₁ [] 0 0 := Stand.of_body Bd
  have e0 : s₁.heap = h0 := by rw [← hh, Bd.state]; rfl
  have N0 := Fr.nil n0
  refine og (Q := fun o U' => ∃ v L, o = .returned v ∧ Q_ie2 Z ku0 ku1 ku2 ku3 aDef aCac aEmp aMir kDef cCac a1 h0 n0 v U'.heap L ∧ FrameEnd s o U' L (rk 0 0 0 0).cells (rk 0 0 0 0).slots) (fun t k => castTop (ef_ie2 m a1) k) ?_
  show OG p e below _ s₁ m 0 #[vr a1] []
  refine qa X0.here hx hby dj38_9_0 rfl rfl ?_
  obtain ⟨T163, X163, e163, st163⟩ := getF X0 hx hZ hown (host := "") (Or.inl (ow hw 40 rfl)) Via.refl e0 PQ74 (g := (mkF m 1 #[vr a1] [(.ref a1)])) rfl rfl (hb hby dj38_9_1)
  refine og st163 ?_
  show OG p e below _ T163 m 4 #[vr a1] [(.int 2)]
  refine og (fun _ k => XS.ifYes X163.here hx rfl (pc0 := 4) (pc' := 11) rfl (hb hby dj38_9_4) rfl (by decide) (by decide) (by decide) k) ?_
  show OG p e below _ T163 m 11 #[vr a1] []
  refine qc X163.here hx hby dj38_9_11 ?_
  obtain ⟨fs, hr, hrun, hended, hW, hsame⟩ := X163.leave (v := some (.int 0)) (fun h => by rw [Bd.returns] at h; cases h)
  refine ⟨_, _, retOut X163 hx Bd.returns rfl (Or.inl ⟨rfl, Or.inr (Or.inl rfl), _, rfl⟩) (hb hby dj38_9_12) hr, hrun, hended, _, _, rfl, ?_, ⟨_, rfl⟩, hW, hsame.mono (by decide) (by decide)⟩
  show Q_ie2 Z ku0 ku1 ku2 ku3 aDef aCac aEmp aMir kDef cCac a1 h0 n0 _ T163.heap _
  rw [e163]
  exact ⟨rfl, N0, rfl⟩
theorem pd___Z : parseMethodDescriptor "()Z" = some ⟨[], some .boolean⟩ := by decide +kernel
theorem dj56_3_37 : decode jdk_56_method_3_code 37 = .ok (.ifCond .eq 7, 3) := by decide +kernel
theorem dj56_3_44 : decode jdk_56_method_3_code 44 = .ok (.aload_n 0, 1) := by decide +kernel
theorem dj56_3_45 : decode jdk_56_method_3_code 45 = .ok (.invokeinterface 30 1, 5) := by decide +kernel
theorem dj56_3_50 : decode jdk_56_method_3_code 50 = .ok (.invokestatic 34, 3) := by decide +kernel
theorem pd__Ljava_lang_Object___Ljava_util_List_ : parseMethodDescriptor "([Ljava/lang/Object;)Ljava/util/List;" = some ⟨[(.array (.object "java/lang/Object"))], some (.object "java/util/List")⟩ := by decide +kernel
theorem dj56_3_53 : decode jdk_56_method_3_code 53 = .ok (.areturn, 1) := by decide +kernel
theorem pn_java_util_ImmutableCollections : plainName "java/util/ImmutableCollections" = true := by first | (simp [plainName, overriddenIn]; done) | decide +kernel
def Q_lc (Z : State) (ku0 ku1 ku2 ku3 aDef aCac aEmp aMir : Addr) (kDef : ClassId) (cCac : Cell) (a1 : Addr) (e1 : Addr) (k9 : ClassId) (b0 : Addr) (b1 : Addr) (h0 : Heap) (n0 : Nat) (v : Option Value) (h : Heap) (L : List Loc) : Prop := ∃ (r2 : Addr), v = some (.ref r2) ∧ Fr n0 L ∧ Keep h0 h [] ∧ h0.size ≤ r2 ∧ Exa Z h r2 "java/util/ImmutableCollections$List12"
theorem ef_lc (m : MethodId) (x0 : Addr) : entryFrame m #[(.ref x0)] 2 = mkF m 0 #[vr x0, .unset] [] := by first | (simp [entryFrame, mkF, argsToLocals, Value.category]; done) | rfl
theorem rm_lc (l : Launch) (Z : State) (a0 : Array Value) (hw : HW Z a0) (ws : List Jvm.Cond) (ku0 ku1 ku2 ku3 aDef aCac aEmp aMir : Addr) (kDef : ClassId) (cCac : Cell) (F0 : OwnFacts Z ku0 ku1 ku2 ku3 aDef aCac aEmp aMir kDef cCac) (a1 : Addr) (e1 : Addr) (k9 : ClassId) (b0 : Addr) (b1 : Addr) (h0 : Heap) (n0 : Nat) (O0 : Old Z n0 h0) (PQ69 : Exa Z h0 a1 "java/util/ArrayList") (PQ70 : Fld Z h0 a1 "java/util/ArrayList" "elementData" "[Ljava/lang/Object;" (.ref e1)) (PQ71 : Fld Z h0 a1 "java/util/ArrayList" "size" "I" (.int 2)) (PQ72 : Arv Z h0 e1 k9 (.object "java/lang/Object") (10 : Int32) [(.ref b0), (.ref b1)] .null) (PQ73 : Exa Z h0 e1 "[Ljava/lang/Object;") (PQ52 : Exa Z h0 b0 "java/lang/Integer") (PQ53 : Exa Z h0 b1 "java/lang/Integer") :
    MetFree l mn38 (head1 (Jvm.Cond.code mn38 jdk_56_method_3_code 2 (some (.object "java/util/List")) :: ws) (rk 6 2 4 76)) (fun a U => a = #[(.ref a1)] ∧ Z.Warmed39 U.vm ∧ U.heap = h0) (fun _ _ _ _ _ => True) (fun _ U o U' => ∃ v L, o = .returned v ∧ Q_lc Z ku0 ku1 ku2 ku3 aDef aCac aEmp aMir kDef cCac a1 e1 k9 b0 b1 h0 n0 v U'.heap L ∧ FrameEnd U o U' L (rk 6 2 4 76).cells (rk 6 2 4 76).slots) := by
  refine MetFree.of_bodySF (plainFor_of_name pn_java_util_ImmutableCollections) hisR ?_
  intro p e s m args below meth c s₁ Bd hml0 hP hK
  obtain ⟨rfl, hZ, hh⟩ := hP
  have hx := Bd.exec
  have hby := Bd.bytes
  have hml : c.maxLocals = 2 := hml0
  have hown : s.vm.findClass "java/util/ImmutableCollections" = some m.cls := findClass_of_methodNamed Bd.named
  have hnm := (name_of_methodNamed Bd.named Bd.method).1
  have X0 : Stand p l e (rk 6 2 4 76) s m #[(.ref a1)] below meth c s₁ [] 0 0 := Stand.of_body Bd
  have e0 : s₁.heap = h0 := by rw [← hh, Bd.state]; rfl
  have N0 := Fr.nil n0
  refine og (Q := fun o U' => ∃ v L, o = .returned v ∧ Q_lc Z ku0 ku1 ku2 ku3 aDef aCac aEmp aMir kDef cCac a1 e1 k9 b0 b1 h0 n0 v U'.heap L ∧ FrameEnd s o U' L (rk 6 2 4 76).cells (rk 6 2 4 76).slots) (fun t k => castTop (ef_lc m a1) k) ?_
  show OG p e below _ s₁ m 0 #[vr a1, .unset] []
  refine qa X0.here hx hby dj56_3_0 rfl rfl ?_
  obtain ⟨T161, X161, e161, st161⟩ := instNo X0 hx hZ hown (ow hw 98 rfl) e0 PQ69 (own_no (ow hw 99 rfl) (ow hw 147 rfl) (NS.step (ow hw 99 rfl) (NS.step (ow hw 100 rfl) (NS.step (ow hw 101 rfl) (own_root (ow hw 102 rfl) (ow hw 147 rfl) (by decide)) (by decide)) (by decide)) (by decide)) (by decide)) (g := (mkF m 1 #[vr a1, .unset] [(.ref a1)])) rfl rfl (hb hby dj56_3_1)
  refine og st161 ?_
  show OG p e below _ T161 m 4 #[vr a1, .unset] [(.int 0)]
  refine og (fun _ k => XS.ifNo X161.here hx rfl (hb hby dj56_3_4) rfl (by decide) k) ?_
  show OG p e below _ T161 m 7 #[vr a1, .unset] []
  refine qa X161.here hx hby dj56_3_7 rfl rfl ?_
  obtain ⟨T162, X162, e162, st162⟩ := instNo X161 hx hZ hown (ow hw 103 rfl) e161 PQ69 (NS.no (ow hw 99 rfl) (ow hw 175 rfl) (NS.step (ow hw 99 rfl) (NS.step (ow hw 100 rfl) (NS.step (ow hw 101 rfl) (NS.root (ow hw 102 rfl) (ow hw 175 rfl) (by decide)) (by decide)) (by decide)) (by decide)) (by decide)) (g := (mkF m 8 #[vr a1, .unset] [(.ref a1)])) rfl rfl (hb hby dj56_3_8)
  refine og st162 ?_
  show OG p e below _ T162 m 11 #[vr a1, .unset] [(.int 0)]
  refine og (fun _ k => XS.ifYes X162.here hx rfl (pc0 := 11) (pc' := 31) rfl (hb hby dj56_3_11) rfl (by decide) (by decide) (by decide) k) ?_
  show OG p e below _ T162 m 31 #[vr a1, .unset] []
  refine qa X162.here hx hby dj56_3_31 rfl rfl ?_
  obtain ⟨cq164, kq164, qa164, qb164, qc164⟩ := isOf hZ e162 PQ69
  obtain ⟨_, _, ⟨T164, L164, k164, n164⟩, -, X164, ⟨Lc164, hQ164, l164, y164, z164⟩, st164⟩ := X162.interfaceBack hx (xi := mn35) (y := mn30) hown (mvT hZ (ow hw 104 rfl)) (mvT hZ (ow hw 105 rfl)) (mvT hZ (ow hw 106 rfl)) (mvT hZ (ow hw 107 rfl)) (mvT hZ (ow hw 108 rfl)) (mvT hZ (ow hw 109 rfl)) (mvT hZ (ow hw 110 rfl)) (mvT hZ (ow hw 111 rfl)) (by decide) (backOf (W := 0) (rm_ie2 l Z a0 hw [] ku0 ku1 ku2 ku3 aDef aCac aEmp aMir kDef cCac F0 a1 h0 n0 O0 PQ71) hZ (ow hw 112 rfl) (ow hw 2 rfl) (by decide) (by decide)) qa164 qb164 qc164 (g := (mkF m 32 #[vr a1, .unset] [(.ref a1)])) rfl (by rw [hml]; rfl) (Steps.refl _) (argsL := []) (rest := []) (lenOf pd___Z rfl) rfl (by show 2 * 0 + _ ≤ _; exact Nat.le_of_eq rfl) (hb hby dj56_3_32) (fun _ _ => ⟨rfl, e162, (by decide : 0 + 0 ≤ _), (by decide : 0 + 0 ≤ _)⟩)
  dsimp only [Pt.U, Pt.locs, Pt.cells, Pt.slots] at X164 l164 y164 z164 st164 hQ164
  subst l164 y164 z164
  obtain ⟨rfl, Nq164, K164⟩ := hQ164
  obtain ⟨L164, X164, N164⟩ := pk X164 (Fr.app N0 Nq164)
  refine og (fun _ k => st164.trans k) ?_
  show OG p e below _ T164 m 37 #[vr a1, .unset] [(.int 0)]
  refine og (fun _ k => XS.ifYes X164.here hx rfl (pc0 := 37) (pc' := 44) rfl (hb hby dj56_3_37) rfl (by decide) (by decide) (by decide) k) ?_
  show OG p e below _ T164 m 44 #[vr a1, .unset] []
  refine qa X164.here hx hby dj56_3_44 rfl rfl ?_
  obtain ⟨cq165, kq165, qa165, qb165, qc165⟩ := isOf hZ K164 PQ69
  obtain ⟨_, _, ⟨T165, L165, k165, n165⟩, -, X165, ⟨Lc165, hQ165, l165, y165, z165⟩, st165⟩ := X164.interfaceBack hx (xi := mn36) (y := mn32) hown (mvT hZ (ow hw 113 rfl)) (mvT hZ (ow hw 114 rfl)) (mvT hZ (ow hw 115 rfl)) (mvT hZ (ow hw 116 rfl)) (mvT hZ (ow hw 117 rfl)) (mvT hZ (ow hw 118 rfl)) (mvT hZ (ow hw 119 rfl)) (mvT hZ (ow hw 111 rfl)) (by decide) (backOf (W := 0) (rm_ta l Z a0 hw [] ku0 ku1 ku2 ku3 aDef aCac aEmp aMir kDef cCac F0 a1 e1 k9 b0 b1 h0 n0 O0 PQ69 PQ70 PQ71 PQ72 PQ73 PQ52 PQ53) hZ (ow hw 120 rfl) (ow hw 2 rfl) (by decide) (by decide)) qa165 qb165 qc165 (g := (mkF m 45 #[vr a1, .unset] [(.ref a1)])) rfl (by rw [hml]; rfl) (Steps.refl _) (argsL := []) (rest := []) (lenOf pd____Ljava_lang_Object_ rfl) rfl (by show 2 * 0 + _ ≤ _; exact Nat.le_of_eq rfl) (hb hby dj56_3_45) (fun _ _ => ⟨rfl, K164, (by decide : 0 + 1 ≤ _), (by decide : 0 + 2 ≤ _)⟩)
  dsimp only [Pt.U, Pt.locs, Pt.cells, Pt.slots] at X165 l165 y165 z165 st165 hQ165
  subst l165 y165 z165
  obtain ⟨r1_165, k1_165, rfl, Nq165, K165, x165_0, x165_1, x165_2⟩ := hQ165
  obtain ⟨L165, X165, N165⟩ := pk X165 (Fr.app N164 Nq165)
  have O165 := O0.keep K165 all0
  have e165 : T165.heap = T165.heap := rfl
  have z166 := Nat.le_trans (Nat.le_refl _) K165.1
  have gex165_0 : n0 ≤ r1_165 := Nat.le_trans (own_sz O0) x165_0
  have ghx165_0 : h0.size ≤ r1_165 := Nat.le_trans (Nat.le_refl _) x165_0
  have lox165_0 : e1 < r1_165 := Nat.lt_of_lt_of_le PQ73.lt x165_0
  refine og (fun _ k => st165.trans k) ?_
  show OG p e below _ T165 m 50 #[vr a1, .unset] [(.ref r1_165)]
  obtain ⟨_, _, ⟨T167, L167, k167, n167⟩, -, X167, ⟨Lc167, hQ167, l167, y167, z167⟩, st167⟩ := Jvm.LawKit.callS X165 hx (y := mn46) hown (mvT hZ (ow hw 143 rfl)) (mvT hZ (ow hw 144 rfl)) (mvT hZ (ow hw 79 rfl)) (mvT hZ (ow hw 145 rfl)) (by decide) (backOf (W := 0) (rm_lo l Z a0 hw [] ku0 ku1 ku2 ku3 aDef aCac aEmp aMir kDef cCac F0 r1_165 k1_165 b0 b1 T165.heap n0 O165 x165_2 x165_1) hZ (ow hw 145 rfl) (ow hw 79 rfl) (by decide) (by decide)) (g := (mkF m 50 #[vr a1, .unset] [(.ref r1_165)])) rfl (by rw [hml]; rfl) (argsL := [(.ref r1_165)]) (rest := []) (lenOf pd__Ljava_lang_Object___Ljava_util_List_ rfl) rfl (by show 2 * 0 + _ ≤ _; exact Nat.le_of_eq rfl) (hb hby dj56_3_50) (fun _ _ => ⟨rfl, e165, (by decide : 1 + 1 ≤ _), (by decide : 2 + 2 ≤ _)⟩)
  dsimp only [Pt.U, Pt.locs, Pt.cells, Pt.slots] at X167 l167 y167 z167 st167 hQ167
  subst l167 y167 z167
  obtain ⟨r2_167, rfl, Nq167, K167, x167_0, x167_1⟩ := hQ167
  obtain ⟨L167, X167, N167⟩ := pk X167 (Fr.app N165 Nq167)
  have O167 := O165.keep K167 all0
  have e167 : T167.heap = T167.heap := rfl
  have z168 := Nat.le_trans z166 K167.1
  have gex167_0 : n0 ≤ r2_167 := Nat.le_trans (own_sz O165) x167_0
  have ghx167_0 : h0.size ≤ r2_167 := Nat.le_trans z166 x167_0
  have lox167_0 : r1_165 < r2_167 := Nat.lt_of_lt_of_le x165_1.lt x167_0
  refine og st167 ?_
  show OG p e below _ T167 m 53 #[vr a1, .unset] [(.ref r2_167)]
  obtain ⟨fs, hr, hrun, hended, hW, hsame⟩ := X167.leave (v := some (.ref r2_167)) (fun h => by rw [Bd.returns] at h; cases h)
  refine ⟨_, _, retOut X167 hx Bd.returns rfl (Or.inr (Or.inr (Or.inr (Or.inr ⟨rfl, rfl, rfl⟩)))) (hb hby dj56_3_53) hr, hrun, hended, _, _, rfl, ?_, ⟨_, rfl⟩, hW, hsame.mono (by decide) (by decide)⟩
  show Q_lc Z ku0 ku1 ku2 ku3 aDef aCac aEmp aMir kDef cCac a1 e1 k9 b0 b1 h0 n0 _ T167.heap _
  rw [e167]
  exact ⟨r2_167, rfl, N167, (((Keep.refl _ []).trans K165 all0).trans K167 all0), ghx167_0, x167_1⟩
theorem dj56_3_14 : decode jdk_56_method_3_code 14 = .ok (.aload_n 0, 1) := by decide +kernel
theorem dj56_3_15 : decode jdk_56_method_3_code 15 = .ok (.checkcast 12, 3) := by decide +kernel
theorem dj56_3_18 : decode jdk_56_method_3_code 18 = .ok (.astore_n 1, 1) := by decide +kernel
theorem dj56_3_19 : decode jdk_56_method_3_code 19 = .ok (.aload_n 1, 1) := by decide +kernel
theorem dj56_3_20 : decode jdk_56_method_3_code 20 = .ok (.getfield 14, 3) := by decide +kernel
theorem dj56_3_23 : decode jdk_56_method_3_code 23 = .ok (.ifCond .ne 8, 3) := by decide +kernel
theorem dj56_3_26 : decode jdk_56_method_3_code 26 = .ok (.aload_n 0, 1) := by decide +kernel
theorem dj56_3_27 : decode jdk_56_method_3_code 27 = .ok (.checkcast 18, 3) := by decide +kernel
theorem dj56_3_30 : decode jdk_56_method_3_code 30 = .ok (.areturn, 1) := by decide +kernel
def Q_lcE (Z : State) (ku0 ku1 ku2 ku3 aDef aCac aEmp aMir : Addr) (kDef : ClassId) (cCac : Cell) (h0 : Heap) (n0 : Nat) (v : Option Value) (h : Heap) (L : List Loc) : Prop := v = some (.ref aEmp) ∧ Fr n0 L ∧ h = h0
theorem ef_lcE (m : MethodId) (x0 : Addr) : entryFrame m #[(.ref x0)] 2 = mkF m 0 #[vr x0, .unset] [] := by first | (simp [entryFrame, mkF, argsToLocals, Value.category]; done) | rfl
theorem rm_lcE (l : Launch) (Z : State) (a0 : Array Value) (hw : HW Z a0) (ws : List Jvm.Cond) (ku0 ku1 ku2 ku3 aDef aCac aEmp aMir : Addr) (kDef : ClassId) (cCac : Cell) (F0 : OwnFacts Z ku0 ku1 ku2 ku3 aDef aCac aEmp aMir kDef cCac) (h0 : Heap) (n0 : Nat) (O0 : Old Z n0 h0) :
    MetFree l mn38 (head1 (Jvm.Cond.code mn38 jdk_56_method_3_code 2 (some (.object "java/util/List")) :: ws) (rk 0 0 0 0)) (fun a U => a = #[(.ref aEmp)] ∧ Z.Warmed39 U.vm ∧ U.heap = h0) (fun _ _ _ _ _ => True) (fun _ U o U' => ∃ v L, o = .returned v ∧ Q_lcE Z ku0 ku1 ku2 ku3 aDef aCac aEmp aMir kDef cCac h0 n0 v U'.heap L ∧ FrameEnd U o U' L (rk 0 0 0 0).cells (rk 0 0 0 0).slots) := by
  refine MetFree.of_bodySF (plainFor_of_name pn_java_util_ImmutableCollections) hisR ?_
  intro p e s m args below meth c s₁ Bd hml0 hP hK
  obtain ⟨rfl, hZ, hh⟩ := hP
  have hx := Bd.exec
  have hby := Bd.bytes
  have hml : c.maxLocals = 2 := hml0
  have hown : s.vm.findClass "java/util/ImmutableCollections" = some m.cls := findClass_of_methodNamed Bd.named
  have hnm := (name_of_methodNamed Bd.named Bd.method).1
  have X0 : Stand p l e (rk 0 0 0 0) s m #[(.ref aEmp)] below meth c s₁ [] 0 0 := Stand.of_body Bd
  have e0 : s₁.heap = h0 := by rw [← hh, Bd.state]; rfl
  have N0 := Fr.nil n0
  refine og (Q := fun o U' => ∃ v L, o = .returned v ∧ Q_lcE Z ku0 ku1 ku2 ku3 aDef aCac aEmp aMir kDef cCac h0 n0 v U'.heap L ∧ FrameEnd s o U' L (rk 0 0 0 0).cells (rk 0 0 0 0).slots) (fun t k => castTop (ef_lcE m aEmp) k) ?_
  show OG p e below _ s₁ m 0 #[vr aEmp, .unset] []
  refine qa X0.here hx hby dj56_3_0 rfl rfl ?_
  obtain ⟨T169, X169, e169, st169⟩ := instNo X0 hx hZ hown (ow hw 98 rfl) e0 (F0.2.2.2.2.2.2.2.2.2.2.2.2.2.2.2.2.2.2.2.1.ext O0.2) (own_no (ow hw 175 rfl) (ow hw 147 rfl) (NS.step (ow hw 175 rfl) (NS.step (ow hw 176 rfl) (NS.step (ow hw 177 rfl) (NS.step (ow hw 101 rfl) (own_root (ow hw 102 rfl) (ow hw 147 rfl) (by decide)) (by decide)) (by decide)) (by decide)) (by decide)) (by decide)) (g := (mkF m 1 #[vr aEmp, .unset] [(.ref aEmp)])) rfl rfl (hb hby dj56_3_1)
  refine og st169 ?_
  show OG p e below _ T169 m 4 #[vr aEmp, .unset] [(.int 0)]
  refine og (fun _ k => XS.ifNo X169.here hx rfl (hb hby dj56_3_4) rfl (by decide) k) ?_
  show OG p e below _ T169 m 7 #[vr aEmp, .unset] []
  refine qa X169.here hx hby dj56_3_7 rfl rfl ?_
  obtain ⟨T170, X170, e170, st170⟩ := instY X169 hx hZ hown (ow hw 103 rfl) e169 (Ins.self (F0.2.2.2.2.2.2.2.2.2.2.2.2.2.2.2.2.2.2.2.1.ext O0.2)) (g := (mkF m 8 #[vr aEmp, .unset] [(.ref aEmp)])) rfl rfl (hb hby dj56_3_8)
  refine og st170 ?_
  show OG p e below _ T170 m 11 #[vr aEmp, .unset] [(.int 1)]
  refine og (fun _ k => XS.ifNo X170.here hx rfl (hb hby dj56_3_11) rfl (by decide) k) ?_
  show OG p e below _ T170 m 14 #[vr aEmp, .unset] []
  refine qa X170.here hx hby dj56_3_14 rfl rfl ?_
  obtain ⟨T171, X171, e171, st171⟩ := castY X170 hx hZ hown (ow hw 103 rfl) e170 (Ins.self (F0.2.2.2.2.2.2.2.2.2.2.2.2.2.2.2.2.2.2.2.1.ext O0.2)) (g := (mkF m 15 #[vr aEmp, .unset] [(.ref aEmp)])) rfl rfl (hb hby dj56_3_15)
  refine og st171 ?_
  show OG p e below _ T171 m 18 #[vr aEmp, .unset] [(.ref aEmp)]
  refine og (fun _ k => XS.astoreN X171.here hx rfl (hb hby dj56_3_18) rfl rfl (l' := #[vr aEmp, vr aEmp]) rfl k) ?_
  refine qa X171.here hx hby dj56_3_19 rfl rfl ?_
  obtain ⟨T172, X172, e172, st172⟩ := getF X171 hx hZ hown (host := "java/util/ImmutableCollections") (Or.inr (ow hw 179 rfl)) Via.refl e171 (F0.2.2.2.2.2.2.2.2.2.2.2.2.2.2.2.2.2.2.2.2.1.ext O0.2) (g := (mkF m 20 #[vr aEmp, vr aEmp] [(.ref aEmp)])) rfl rfl (hb hby dj56_3_20)
  refine og st172 ?_
  show OG p e below _ T172 m 23 #[vr aEmp, vr aEmp] [(.int 0)]
  refine og (fun _ k => XS.ifNo X172.here hx rfl (hb hby dj56_3_23) rfl (by decide) k) ?_
  show OG p e below _ T172 m 26 #[vr aEmp, vr aEmp] []
  refine qa X172.here hx hby dj56_3_26 rfl rfl ?_
  obtain ⟨T173, X173, e173, st173⟩ := castY X172 hx hZ hown (ow hw 181 rfl) e172 (Ins.of_exa (F0.2.2.2.2.2.2.2.2.2.2.2.2.2.2.2.2.2.2.2.1.ext O0.2) (ow hw 182 rfl)) (g := (mkF m 27 #[vr aEmp, vr aEmp] [(.ref aEmp)])) rfl rfl (hb hby dj56_3_27)
  refine og st173 ?_
  show OG p e below _ T173 m 30 #[vr aEmp, vr aEmp] [(.ref aEmp)]
  obtain ⟨fs, hr, hrun, hended, hW, hsame⟩ := X173.leave (v := some (.ref aEmp)) (fun h => by rw [Bd.returns] at h; cases h)
  refine ⟨_, _, retOut X173 hx Bd.returns rfl (Or.inr (Or.inr (Or.inr (Or.inr ⟨rfl, rfl, rfl⟩)))) (hb hby dj56_3_30) hr, hrun, hended, _, _, rfl, ?_, ⟨_, rfl⟩, hW, hsame.mono (by decide) (by decide)⟩
  show Q_lcE Z ku0 ku1 ku2 ku3 aDef aCac aEmp aMir kDef cCac h0 n0 _ T173.heap _
  rw [e173]
  exact ⟨rfl, N0, rfl⟩
theorem dj40_48_0 : decode jdk_40_method_48_code 0 = .ok (.aload_n 0, 1) := by decide +kernel
theorem dj40_48_1 : decode jdk_40_method_48_code 1 = .ok (.invokestatic 112, 3) := by decide +kernel
theorem pd_Ljava_util_Collection___Ljava_util_List_ : parseMethodDescriptor "(Ljava/util/Collection;)Ljava/util/List;" = some ⟨[(.object "java/util/Collection")], some (.object "java/util/List")⟩ := by decide +kernel
theorem dj40_48_4 : decode jdk_40_method_48_code 4 = .ok (.areturn, 1) := by decide +kernel
def Q_co (Z : State) (ku0 ku1 ku2 ku3 aDef aCac aEmp aMir : Addr) (kDef : ClassId) (cCac : Cell) (a1 : Addr) (e1 : Addr) (k9 : ClassId) (b0 : Addr) (b1 : Addr) (h0 : Heap) (n0 : Nat) (v : Option Value) (h : Heap) (L : List Loc) : Prop := ∃ (r2 : Addr), v = some (.ref r2) ∧ Fr n0 L ∧ Keep h0 h [] ∧ h0.size ≤ r2 ∧ Exa Z h r2 "java/util/ImmutableCollections$List12"
theorem ef_co (m : MethodId) (x0 : Addr) : entryFrame m #[(.ref x0)] 1 = mkF m 0 #[vr x0] [] := by first | (simp [entryFrame, mkF, argsToLocals, Value.category]; done) | rfl
theorem rm_co (l : Launch) (Z : State) (a0 : Array Value) (hw : HW Z a0) (ws : List Jvm.Cond) (ku0 ku1 ku2 ku3 aDef aCac aEmp aMir : Addr) (kDef : ClassId) (cCac : Cell) (F0 : OwnFacts Z ku0 ku1 ku2 ku3 aDef aCac aEmp aMir kDef cCac) (a1 : Addr) (e1 : Addr) (k9 : ClassId) (b0 : Addr) (b1 : Addr) (h0 : Heap) (n0 : Nat) (O0 : Old Z n0 h0) (PQ75 : Exa Z h0 a1 "java/util/ArrayList") (PQ76 : Fld Z h0 a1 "java/util/ArrayList" "elementData" "[Ljava/lang/Object;" (.ref e1)) (PQ77 : Fld Z h0 a1 "java/util/ArrayList" "size" "I" (.int 2)) (PQ78 : Arv Z h0 e1 k9 (.object "java/lang/Object") (10 : Int32) [(.ref b0), (.ref b1)] .null) (PQ79 : Exa Z h0 e1 "[Ljava/lang/Object;") (PQ52 : Exa Z h0 b0 "java/lang/Integer") (PQ53 : Exa Z h0 b1 "java/lang/Integer") :
    MetFree l mn43 (head1 (Jvm.Cond.code mn43 jdk_40_method_48_code 1 (some (.object "java/util/List")) :: ws) (rk 7 2 4 89)) (fun a U => a = #[(.ref a1)] ∧ Z.Warmed39 U.vm ∧ U.heap = h0) (fun _ _ _ _ _ => True) (fun _ U o U' => ∃ v L, o = .returned v ∧ Q_co Z ku0 ku1 ku2 ku3 aDef aCac aEmp aMir kDef cCac a1 e1 k9 b0 b1 h0 n0 v U'.heap L ∧ FrameEnd U o U' L (rk 7 2 4 89).cells (rk 7 2 4 89).slots) := by
  refine MetFree.of_bodySF (plainFor_of_name pn_java_util_List) hisR ?_
  intro p e s m args below meth c s₁ Bd hml0 hP hK
  obtain ⟨rfl, hZ, hh⟩ := hP
  have hx := Bd.exec
  have hby := Bd.bytes
  have hml : c.maxLocals = 1 := hml0
  have hown : s.vm.findClass "java/util/List" = some m.cls := findClass_of_methodNamed Bd.named
  have hnm := (name_of_methodNamed Bd.named Bd.method).1
  have X0 : Stand p l e (rk 7 2 4 89) s m #[(.ref a1)] below meth c s₁ [] 0 0 := Stand.of_body Bd
  have e0 : s₁.heap = h0 := by rw [← hh, Bd.state]; rfl
  have N0 := Fr.nil n0
  refine og (Q := fun o U' => ∃ v L, o = .returned v ∧ Q_co Z ku0 ku1 ku2 ku3 aDef aCac aEmp aMir kDef cCac a1 e1 k9 b0 b1 h0 n0 v U'.heap L ∧ FrameEnd s o U' L (rk 7 2 4 89).cells (rk 7 2 4 89).slots) (fun t k => castTop (ef_co m a1) k) ?_
  show OG p e below _ s₁ m 0 #[vr a1] []
  refine qa X0.here hx hby dj40_48_0 rfl rfl ?_
  obtain ⟨_, _, ⟨T174, L174, k174, n174⟩, -, X174, ⟨Lc174, hQ174, l174, y174, z174⟩, st174⟩ := Jvm.LawKit.callS X0 hx (y := mn38) hown (mvT hZ (ow hw 95 rfl)) (mvT hZ (ow hw 96 rfl)) (mvT hZ (ow hw 82 rfl)) (mvT hZ (ow hw 97 rfl)) (by decide) (backOf (W := 0) (rm_lc l Z a0 hw [] ku0 ku1 ku2 ku3 aDef aCac aEmp aMir kDef cCac F0 a1 e1 k9 b0 b1 h0 n0 O0 PQ75 PQ76 PQ77 PQ78 PQ79 PQ52 PQ53) hZ (ow hw 97 rfl) (ow hw 82 rfl) (by decide) (by decide)) (g := (mkF m 1 #[vr a1] [(.ref a1)])) rfl (by rw [hml]; rfl) (argsL := [(.ref a1)]) (rest := []) (lenOf pd_Ljava_util_Collection___Ljava_util_List_ rfl) rfl (by show 2 * 0 + _ ≤ _; exact Nat.le_of_eq rfl) (hb hby dj40_48_1) (fun _ _ => ⟨rfl, e0, (by decide : 0 + 2 ≤ _), (by decide : 0 + 4 ≤ _)⟩)
  dsimp only [Pt.U, Pt.locs, Pt.cells, Pt.slots] at X174 l174 y174 z174 st174 hQ174
  subst l174 y174 z174
  obtain ⟨r2_174, rfl, Nq174, K174, x174_0, x174_1⟩ := hQ174
  obtain ⟨L174, X174, N174⟩ := pk X174 (Fr.app N0 Nq174)
  have O174 := O0.keep K174 all0
  have e174 : T174.heap = T174.heap := rfl
  have z175 := Nat.le_trans (Nat.le_refl _) K174.1
  have gex174_0 : n0 ≤ r2_174 := Nat.le_trans (own_sz O0) x174_0
  have ghx174_0 : h0.size ≤ r2_174 := Nat.le_trans (Nat.le_refl _) x174_0
  have lox174_0 : e1 < r2_174 := Nat.lt_of_lt_of_le PQ79.lt x174_0
  refine og st174 ?_
  show OG p e below _ T174 m 4 #[vr a1] [(.ref r2_174)]
  obtain ⟨fs, hr, hrun, hended, hW, hsame⟩ := X174.leave (v := some (.ref r2_174)) (fun h => by rw [Bd.returns] at h; cases h)
  refine ⟨_, _, retOut X174 hx Bd.returns rfl (Or.inr (Or.inr (Or.inr (Or.inr ⟨rfl, rfl, rfl⟩)))) (hb hby dj40_48_4) hr, hrun, hended, _, _, rfl, ?_, ⟨_, rfl⟩, hW, hsame.mono (by decide) (by decide)⟩
  show Q_co Z ku0 ku1 ku2 ku3 aDef aCac aEmp aMir kDef cCac a1 e1 k9 b0 b1 h0 n0 _ T174.heap _
  rw [e174]
  exact ⟨r2_174, rfl, N174, ((Keep.refl _ []).trans K174 all0), ghx174_0, x174_1⟩
def Q_coE (Z : State) (ku0 ku1 ku2 ku3 aDef aCac aEmp aMir : Addr) (kDef : ClassId) (cCac : Cell) (h0 : Heap) (n0 : Nat) (v : Option Value) (h : Heap) (L : List Loc) : Prop := v = some (.ref aEmp) ∧ Fr n0 L ∧ h = h0
theorem ef_coE (m : MethodId) (x0 : Addr) : entryFrame m #[(.ref x0)] 1 = mkF m 0 #[vr x0] [] := by first | (simp [entryFrame, mkF, argsToLocals, Value.category]; done) | rfl
theorem rm_coE (l : Launch) (Z : State) (a0 : Array Value) (hw : HW Z a0) (ws : List Jvm.Cond) (ku0 ku1 ku2 ku3 aDef aCac aEmp aMir : Addr) (kDef : ClassId) (cCac : Cell) (F0 : OwnFacts Z ku0 ku1 ku2 ku3 aDef aCac aEmp aMir kDef cCac) (h0 : Heap) (n0 : Nat) (O0 : Old Z n0 h0) :
    MetFree l mn43 (head1 (Jvm.Cond.code mn43 jdk_40_method_48_code 1 (some (.object "java/util/List")) :: ws) (rk 1 0 0 13)) (fun a U => a = #[(.ref aEmp)] ∧ Z.Warmed39 U.vm ∧ U.heap = h0) (fun _ _ _ _ _ => True) (fun _ U o U' => ∃ v L, o = .returned v ∧ Q_coE Z ku0 ku1 ku2 ku3 aDef aCac aEmp aMir kDef cCac h0 n0 v U'.heap L ∧ FrameEnd U o U' L (rk 1 0 0 13).cells (rk 1 0 0 13).slots) := by
  refine MetFree.of_bodySF (plainFor_of_name pn_java_util_List) hisR ?_
  intro p e s m args below meth c s₁ Bd hml0 hP hK
  obtain ⟨rfl, hZ, hh⟩ := hP
  have hx := Bd.exec
  have hby := Bd.bytes
  have hml : c.maxLocals = 1 := hml0
  have hown : s.vm.findClass "java/util/List" = some m.cls := findClass_of_methodNamed Bd.named
  have hnm := (name_of_methodNamed Bd.named Bd.method).1
  have X0 : Stand p l e (rk 1 0 0 13) s m #[(.ref aEmp)] below meth c s₁ [] 0 0 := Stand.of_body Bd
  have e0 : s₁.heap = h0 := by rw [← hh, Bd.state]; rfl
  have N0 := Fr.nil n0
  refine og (Q := fun o U' => ∃ v L, o = .returned v ∧ Q_coE Z ku0 ku1 ku2 ku3 aDef aCac aEmp aMir kDef cCac h0 n0 v U'.heap L ∧ FrameEnd s o U' L (rk 1 0 0 13).cells (rk 1 0 0 13).slots) (fun t k => castTop (ef_coE m aEmp) k) ?_
  show OG p e below _ s₁ m 0 #[vr aEmp] []
  refine qa X0.here hx hby dj40_48_0 rfl rfl ?_
  obtain ⟨_, _, ⟨T176, L176, k176, n176⟩, -, X176, ⟨Lc176, hQ176, l176, y176, z176⟩, st176⟩ := Jvm.LawKit.callS X0 hx (y := mn38) hown (mvT hZ (ow hw 95 rfl)) (mvT hZ (ow hw 96 rfl)) (mvT hZ (ow hw 82 rfl)) (mvT hZ (ow hw 97 rfl)) (by decide) (backOf (W := 0) (rm_lcE l Z a0 hw [] ku0 ku1 ku2 ku3 aDef aCac aEmp aMir kDef cCac F0 h0 n0 O0) hZ (ow hw 97 rfl) (ow hw 82 rfl) (by decide) (by decide)) (g := (mkF m 1 #[vr aEmp] [(.ref aEmp)])) rfl (by rw [hml]; rfl) (argsL := [(.ref aEmp)]) (rest := []) (lenOf pd_Ljava_util_Collection___Ljava_util_List_ rfl) rfl (by show 2 * 0 + _ ≤ _; exact Nat.le_of_eq rfl) (hb hby dj40_48_1) (fun _ _ => ⟨rfl, e0, (by decide : 0 + 0 ≤ _), (by decide : 0 + 0 ≤ _)⟩)
  dsimp only [Pt.U, Pt.locs, Pt.cells, Pt.slots] at X176 l176 y176 z176 st176 hQ176
  subst l176 y176 z176
  obtain ⟨rfl, Nq176, K176⟩ := hQ176
  obtain ⟨L176, X176, N176⟩ := pk X176 (Fr.app N0 Nq176)
  refine og st176 ?_
  show OG p e below _ T176 m 4 #[vr aEmp] [(.ref aEmp)]
  obtain ⟨fs, hr, hrun, hended, hW, hsame⟩ := X176.leave (v := some (.ref aEmp)) (fun h => by rw [Bd.returns] at h; cases h)
  refine ⟨_, _, retOut X176 hx Bd.returns rfl (Or.inr (Or.inr (Or.inr (Or.inr ⟨rfl, rfl, rfl⟩)))) (hb hby dj40_48_4) hr, hrun, hended, _, _, rfl, ?_, ⟨_, rfl⟩, hW, hsame.mono (by decide) (by decide)⟩
  show Q_coE Z ku0 ku1 ku2 ku3 aDef aCac aEmp aMir kDef cCac h0 n0 _ T176.heap _
  rw [K176]
  exact ⟨rfl, N176, rfl⟩
theorem dp53_1_0 : decode prog_53_method_1_code 0 = .ok (.aload_n 0, 1) := by decide +kernel
theorem dp53_1_1 : decode prog_53_method_1_code 1 = .ok (.invokespecial 1, 3) := by decide +kernel
theorem dp53_1_4 : decode prog_53_method_1_code 4 = .ok (.aload 4, 2) := by decide +kernel
theorem dp53_1_6 : decode prog_53_method_1_code 6 = .ok (.invokestatic 7, 3) := by decide +kernel
theorem dp53_1_9 : decode prog_53_method_1_code 9 = .ok (.astore 4, 2) := by decide +kernel
theorem dp53_1_11 : decode prog_53_method_1_code 11 = .ok (.aload 5, 2) := by decide +kernel
theorem dp53_1_13 : decode prog_53_method_1_code 13 = .ok (.invokestatic 7, 3) := by decide +kernel
theorem dp53_1_16 : decode prog_53_method_1_code 16 = .ok (.astore 5, 2) := by decide +kernel
theorem dp53_1_18 : decode prog_53_method_1_code 18 = .ok (.aload_n 0, 1) := by decide +kernel
theorem dp53_1_19 : decode prog_53_method_1_code 19 = .ok (.aload_n 1, 1) := by decide +kernel
theorem dp53_1_20 : decode prog_53_method_1_code 20 = .ok (.putfield 13, 3) := by decide +kernel
theorem dp53_1_23 : decode prog_53_method_1_code 23 = .ok (.aload_n 0, 1) := by decide +kernel
theorem dp53_1_24 : decode prog_53_method_1_code 24 = .ok (.iload_n 2, 1) := by decide +kernel
theorem dp53_1_25 : decode prog_53_method_1_code 25 = .ok (.putfield 19, 3) := by decide +kernel
theorem lp_5 {Z : State} {a0 : Array Value} (hw : HW Z a0) : LP Z a0 "com/example/reweave/reweave/control/Point" "com/example/reweave/reweave/control/Point" "thread" "I" := ⟨(Or.inr (ow hw 186 rfl)), .int, by decide⟩
theorem lp_6 {Z : State} {a0 : Array Value} (hw : HW Z a0) : LP Z a0 "com/example/reweave/reweave/control/Point" "com/example/reweave/reweave/control/Point" "kind" "Lcom/example/reweave/reweave/control/Point$Kind;" := ⟨(Or.inr (ow hw 184 rfl)), (.object "com/example/reweave/reweave/control/Point$Kind"), by decide⟩
theorem dp53_1_28 : decode prog_53_method_1_code 28 = .ok (.aload_n 0, 1) := by decide +kernel
theorem dp53_1_29 : decode prog_53_method_1_code 29 = .ok (.aload_n 3, 1) := by decide +kernel
theorem dp53_1_30 : decode prog_53_method_1_code 30 = .ok (.putfield 23, 3) := by decide +kernel
theorem lp_7 {Z : State} {a0 : Array Value} (hw : HW Z a0) : LP Z a0 "com/example/reweave/reweave/control/Point" "com/example/reweave/reweave/control/Point" "location" "Lcom/example/reweave/reweave/control/Location;" := ⟨(Or.inr (ow hw 188 rfl)), (.object "com/example/reweave/reweave/control/Location"), by decide⟩
theorem dp53_1_33 : decode prog_53_method_1_code 33 = .ok (.aload_n 0, 1) := by decide +kernel
theorem dp53_1_34 : decode prog_53_method_1_code 34 = .ok (.aload 4, 2) := by decide +kernel
theorem dp53_1_36 : decode prog_53_method_1_code 36 = .ok (.putfield 27, 3) := by decide +kernel
theorem lp_8 {Z : State} {a0 : Array Value} (hw : HW Z a0) : LP Z a0 "com/example/reweave/reweave/control/Point" "com/example/reweave/reweave/control/Point" "runnable" "Ljava/util/List;" := ⟨(Or.inr (ow hw 190 rfl)), (.object "java/util/List"), by decide⟩
theorem dp53_1_39 : decode prog_53_method_1_code 39 = .ok (.aload_n 0, 1) := by decide +kernel
theorem dp53_1_40 : decode prog_53_method_1_code 40 = .ok (.aload 5, 2) := by decide +kernel
theorem dp53_1_42 : decode prog_53_method_1_code 42 = .ok (.putfield 31, 3) := by decide +kernel
theorem lp_9 {Z : State} {a0 : Array Value} (hw : HW Z a0) : LP Z a0 "com/example/reweave/reweave/control/Point" "com/example/reweave/reweave/control/Point" "timeOuts" "Ljava/util/List;" := ⟨(Or.inr (ow hw 192 rfl)), (.object "java/util/List"), by decide⟩
theorem dp53_1_45 : decode prog_53_method_1_code 45 = .ok (.return_, 1) := by decide +kernel
theorem pn_com_example_reweave_reweave_control_Point : plainName "com/example/reweave/reweave/control/Point" = true := by first | (simp [plainName, overriddenIn]; done) | decide +kernel
def Q_pt5 (Z : State) (ku0 ku1 ku2 ku3 aDef aCac aEmp aMir : Addr) (kDef : ClassId) (cCac : Cell) (a1 : Addr) (d1 : Addr) (p2 : Int32) (t1 : Addr) (e1 : Addr) (k9 : ClassId) (b0 : Addr) (b1 : Addr) (h0 : Heap) (n0 : Nat) (v : Option Value) (h : Heap) (L : List Loc) : Prop := ∃ (r2 : Addr), v = none ∧ Fr n0 L ∧ Keep h0 h [a1] ∧ Fld Z h a1 "com/example/reweave/reweave/control/Point" "kind" "Lcom/example/reweave/reweave/control/Point$Kind;" (.ref d1) ∧ Fld Z h a1 "com/example/reweave/reweave/control/Point" "thread" "I" (.int p2) ∧ Fld Z h a1 "com/example/reweave/reweave/control/Point" "location" "Lcom/example/reweave/reweave/control/Location;" .null ∧ Fld Z h a1 "com/example/reweave/reweave/control/Point" "runnable" "Ljava/util/List;" (.ref r2) ∧ Fld Z h a1 "com/example/reweave/reweave/control/Point" "timeOuts" "Ljava/util/List;" (.ref aEmp) ∧ h0.size ≤ r2 ∧ Exa Z h r2 "java/util/ImmutableCollections$List12"
theorem ef_pt5 (m : MethodId) (x0 : Addr) (x1 : Addr) (x2 : Int32) (x4 : Addr) (x5 : Addr) : entryFrame m #[(.ref x0), (.ref x1), (.int x2), .null, (.ref x4), (.ref x5)] 6 = mkF m 0 #[vr x0, vr x1, vi x2, .val .null, vr x4, vr x5] [] := by first | (simp [entryFrame, mkF, argsToLocals, Value.category]; done) | rfl
theorem rm_pt5 (l : Launch) (Z : State) (a0 : Array Value) (hw : HW Z a0) (ws : List Jvm.Cond) (ku0 ku1 ku2 ku3 aDef aCac aEmp aMir : Addr) (kDef : ClassId) (cCac : Cell) (F0 : OwnFacts Z ku0 ku1 ku2 ku3 aDef aCac aEmp aMir kDef cCac) (a1 : Addr) (d1 : Addr) (p2 : Int32) (t1 : Addr) (e1 : Addr) (k9 : ClassId) (b0 : Addr) (b1 : Addr) (h0 : Heap) (n0 : Nat) (O0 : Old Z n0 h0) (PQ85 : Exa Z h0 a1 "com/example/reweave/reweave/control/Point") (PQ86 : n0 ≤ a1) (PQ87 : Fld Z h0 a1 "com/example/reweave/reweave/control/Point" "kind" "Lcom/example/reweave/reweave/control/Point$Kind;" .null) (PQ88 : Fld Z h0 a1 "com/example/reweave/reweave/control/Point" "thread" "I" (.int 0)) (PQ89 : Fld Z h0 a1 "com/example/reweave/reweave/control/Point" "location" "Lcom/example/reweave/reweave/control/Location;" .null) (PQ90 : Fld Z h0 a1 "com/example/reweave/reweave/control/Point" "runnable" "Ljava/util/List;" .null) (PQ91 : Fld Z h0 a1 "com/example/reweave/reweave/control/Point" "timeOuts" "Ljava/util/List;" .null) (PQ80 : Exa Z h0 t1 "java/util/ArrayList") (PQ81 : Fld Z h0 t1 "java/util/ArrayList" "elementData" "[Ljava/lang/Object;" (.ref e1)) (PQ82 : Fld Z h0 t1 "java/util/ArrayList" "size" "I" (.int 2)) (PQ83 : Arv Z h0 e1 k9 (.object "java/lang/Object") (10 : Int32) [(.ref b0), (.ref b1)] .null) (PQ84 : Exa Z h0 e1 "[Ljava/lang/Object;") (PQ52 : Exa Z h0 b0 "java/lang/Integer") (PQ53 : Exa Z h0 b1 "java/lang/Integer") :
    MetFree l mn1 (head1 (Jvm.Cond.code mn1 prog_53_method_1_code 6 none :: ws) (rk 8 2 4 101)) (fun a U => a = #[(.ref a1), (.ref d1), (.int p2), .null, (.ref t1), (.ref aEmp)] ∧ Z.Warmed39 U.vm ∧ U.heap = h0) (fun _ _ _ _ _ => True) (fun _ U o U' => ∃ v L, o = .returned v ∧ Q_pt5 Z ku0 ku1 ku2 ku3 aDef aCac aEmp aMir kDef cCac a1 d1 p2 t1 e1 k9 b0 b1 h0 n0 v U'.heap L ∧ FrameEnd U o U' L (rk 8 2 4 101).cells (rk 8 2 4 101).slots) := by
  refine MetFree.of_bodySF (plainFor_of_name pn_com_example_reweave_reweave_control_Point) hisR ?_
  intro p e s m args below meth c s₁ Bd hml0 hP hK
  obtain ⟨rfl, hZ, hh⟩ := hP
  have hx := Bd.exec
  have hby := Bd.bytes
  have hml : c.maxLocals = 6 := hml0
  have hown : s.vm.findClass "com/example/reweave/reweave/control/Point" = some m.cls := findClass_of_methodNamed Bd.named
  have hnm := (name_of_methodNamed Bd.named Bd.method).1
  have X0 : Stand p l e (rk 8 2 4 101) s m #[(.ref a1), (.ref d1), (.int p2), .null, (.ref t1), (.ref aEmp)] below meth c s₁ [] 0 0 := Stand.of_body Bd
  have e0 : s₁.heap = h0 := by rw [← hh, Bd.state]; rfl
  have N0 := Fr.nil n0
  refine og (Q := fun o U' => ∃ v L, o = .returned v ∧ Q_pt5 Z ku0 ku1 ku2 ku3 aDef aCac aEmp aMir kDef cCac a1 d1 p2 t1 e1 k9 b0 b1 h0 n0 v U'.heap L ∧ FrameEnd s o U' L (rk 8 2 4 101).cells (rk 8 2 4 101).slots) (fun t k => castTop (ef_pt5 m a1 d1 p2 t1 aEmp) k) ?_
  show OG p e below _ s₁ m 0 #[vr a1, vr d1, vi p2, .val .null, vr t1, vr aEmp] []
  refine qa X0.here hx hby dp53_1_0 rfl rfl ?_
  obtain ⟨_, _, ⟨T177, L177, k177, n177⟩, -, X177, ⟨Lc177, hQ177, l177, y177, z177⟩, st177⟩ := X0.specialBack hx (y := mn21) rfl hown (mvT hZ (ow hw 86 rfl)) (mvT hZ (ow hw 87 rfl)) (mvT hZ (ow hw 90 rfl)) (by decide) (backOf (W := 0) (rm_iRec l Z a0 hw [] ku0 ku1 ku2 ku3 aDef aCac aEmp aMir kDef cCac F0 a1 h0 n0 O0) hZ (ow hw 90 rfl) (ow hw 89 rfl) (by decide) (by decide)) (g := (mkF m 1 #[vr a1, vr d1, vi p2, .val .null, vr t1, vr aEmp] [(.ref a1)])) rfl (by rw [hml]; rfl) (Steps.refl _) (a := a1) (argsL := []) (rest := []) (lenOf pd___V rfl) rfl (by show 2 * 0 + _ ≤ _; exact Nat.le_of_eq rfl) (hb hby dp53_1_1) (fun _ _ => ⟨rfl, e0, (by decide : 0 + 0 ≤ _), (by decide : 0 + 0 ≤ _)⟩)
  dsimp only [Pt.U, Pt.locs, Pt.cells, Pt.slots] at X177 l177 y177 z177 st177 hQ177
  subst l177 y177 z177
  obtain ⟨rfl, Nq177, K177⟩ := hQ177
  obtain ⟨L177, X177, N177⟩ := pk X177 (Fr.app N0 Nq177)
  refine og (fun _ k => st177.trans k) ?_
  show OG p e below _ T177 m 4 #[vr a1, vr d1, vi p2, .val .null, vr t1, vr aEmp] []
  refine qb X177.here hx hby dp53_1_4 rfl rfl ?_
  obtain ⟨_, _, ⟨T178, L178, k178, n178⟩, -, X178, ⟨Lc178, hQ178, l178, y178, z178⟩, st178⟩ := Jvm.LawKit.callS X177 hx (y := mn43) hown (mvT hZ (ow hw 92 rfl)) (mvT hZ (ow hw 93 rfl)) (mvT hZ (ow hw 79 rfl)) (mvT hZ (ow hw 94 rfl)) (by decide) (backOf (W := 0) (rm_co l Z a0 hw [] ku0 ku1 ku2 ku3 aDef aCac aEmp aMir kDef cCac F0 t1 e1 k9 b0 b1 h0 n0 O0 PQ80 PQ81 PQ82 PQ83 PQ84 PQ52 PQ53) hZ (ow hw 94 rfl) (ow hw 79 rfl) (by decide) (by decide)) (g := (mkF m 6 #[vr a1, vr d1, vi p2, .val .null, vr t1, vr aEmp] [(.ref t1)])) rfl (by rw [hml]; rfl) (argsL := [(.ref t1)]) (rest := []) (lenOf pd_Ljava_util_Collection___Ljava_util_List_ rfl) rfl (by show 2 * 0 + _ ≤ _; exact Nat.le_of_eq rfl) (hb hby dp53_1_6) (fun _ _ => ⟨rfl, K177, (by decide : 0 + 2 ≤ _), (by decide : 0 + 4 ≤ _)⟩)
  dsimp only [Pt.U, Pt.locs, Pt.cells, Pt.slots] at X178 l178 y178 z178 st178 hQ178
  subst l178 y178 z178
  obtain ⟨r2_178, rfl, Nq178, K178, x178_0, x178_1⟩ := hQ178
  obtain ⟨L178, X178, N178⟩ := pk X178 (Fr.app N177 Nq178)
  have O178 := O0.keep K178 all0
  have e178 : T178.heap = T178.heap := rfl
  have z179 := Nat.le_trans (Nat.le_refl _) K178.1
  have gex178_0 : n0 ≤ r2_178 := Nat.le_trans (own_sz O0) x178_0
  have ghx178_0 : h0.size ≤ r2_178 := Nat.le_trans (Nat.le_refl _) x178_0
  have lox178_0 : a1 < r2_178 := Nat.lt_of_lt_of_le PQ85.lt x178_0
  refine og st178 ?_
  show OG p e below _ T178 m 9 #[vr a1, vr d1, vi p2, .val .null, vr t1, vr aEmp] [(.ref r2_178)]
  refine og (fun _ k => XS.astore X178.here hx rfl (hb hby dp53_1_9) rfl rfl (l' := #[vr a1, vr d1, vi p2, .val .null, vr r2_178, vr aEmp]) rfl k) ?_
  refine qb X178.here hx hby dp53_1_11 rfl rfl ?_
  obtain ⟨_, _, ⟨T180, L180, k180, n180⟩, -, X180, ⟨Lc180, hQ180, l180, y180, z180⟩, st180⟩ := Jvm.LawKit.callS X178 hx (y := mn43) hown (mvT hZ (ow hw 92 rfl)) (mvT hZ (ow hw 93 rfl)) (mvT hZ (ow hw 79 rfl)) (mvT hZ (ow hw 94 rfl)) (by decide) (backOf (W := 0) (rm_coE l Z a0 hw [] ku0 ku1 ku2 ku3 aDef aCac aEmp aMir kDef cCac F0 T178.heap n0 O178) hZ (ow hw 94 rfl) (ow hw 79 rfl) (by decide) (by decide)) (g := (mkF m 13 #[vr a1, vr d1, vi p2, .val .null, vr r2_178, vr aEmp] [(.ref aEmp)])) rfl (by rw [hml]; rfl) (argsL := [(.ref aEmp)]) (rest := []) (lenOf pd_Ljava_util_Collection___Ljava_util_List_ rfl) rfl (by show 2 * 0 + _ ≤ _; exact Nat.le_of_eq rfl) (hb hby dp53_1_13) (fun _ _ => ⟨rfl, e178, (by decide : 2 + 0 ≤ _), (by decide : 4 + 0 ≤ _)⟩)
  dsimp only [Pt.U, Pt.locs, Pt.cells, Pt.slots] at X180 l180 y180 z180 st180 hQ180
  subst l180 y180 z180
  obtain ⟨rfl, Nq180, K180⟩ := hQ180
  obtain ⟨L180, X180, N180⟩ := pk X180 (Fr.app N178 Nq180)
  refine og st180 ?_
  show OG p e below _ T180 m 16 #[vr a1, vr d1, vi p2, .val .null, vr r2_178, vr aEmp] [(.ref aEmp)]
  refine og (fun _ k => XS.astore X180.here hx rfl (hb hby dp53_1_16) rfl rfl (l' := #[vr a1, vr d1, vi p2, .val .null, vr r2_178, vr aEmp]) rfl k) ?_
  refine qa X180.here hx hby dp53_1_18 rfl rfl ?_
  refine qa X180.here hx hby dp53_1_19 rfl rfl ?_
  have F182 := (PQ87.keep K178 nin0)
  have F183 := (PQ85.keep K178)
  obtain ⟨T181, h181, X181, e181, W181, st181⟩ := putF X180 hx hZ hown (host := "") (Or.inl (ow hw 183 rfl)) Via.refl K180 F182 F183 (Or.inr ⟨(ow hw 184 rfl), rfl, hnm⟩) (ow hw 65 rfl) (ty := (.object "com/example/reweave/reweave/control/Point$Kind")) (by decide) rfl rfl (g := (mkF m 20 #[vr a1, vr d1, vi p2, .val .null, vr r2_178, vr aEmp] [(.ref d1), (.ref a1)])) rfl rfl (hb hby dp53_1_20)
  obtain ⟨L181, X181, N181⟩ := pk X181 (Fr.snoc X181 N180 PQ86)
  have O181 := O178.wr W181 PQ86
  have z184 := Nat.le_trans z179 (Nat.le_of_eq W181.size.symm)
  have F181 : Fld Z h181 a1 "com/example/reweave/reweave/control/Point" "kind" "Lcom/example/reweave/reweave/control/Point$Kind;" (.ref d1) := F182.same W181
  refine og st181 ?_
  show OG p e below _ T181 m 23 #[vr a1, vr d1, vi p2, .val .null, vr r2_178, vr aEmp] []
  refine qa X181.here hx hby dp53_1_23 rfl rfl ?_
  refine qj X181.here hx hby dp53_1_24 rfl ?_
  have F186 := (oo W181 (PQ88.keep K178 nin0) (lp_5 hw) (lp_6 hw) (by decide))
  have F187 := (F183.wr W181)
  obtain ⟨T185, h185, X185, e185, W185, st185⟩ := putF X181 hx hZ hown (host := "") (Or.inl (ow hw 185 rfl)) Via.refl e181 F186 F187 (Or.inr ⟨(ow hw 186 rfl), rfl, hnm⟩) (ow hw 65 rfl) (ty := .int) (by decide) rfl rfl (g := (mkF m 25 #[vr a1, vr d1, vi p2, .val .null, vr r2_178, vr aEmp] [(.int p2), (.ref a1)])) rfl rfl (hb hby dp53_1_25)
  obtain ⟨L185, X185, N185⟩ := pk X185 (Fr.snoc X185 N181 PQ86)
  have O185 := O181.wr W185 PQ86
  have z188 := Nat.le_trans z184 (Nat.le_of_eq W185.size.symm)
  have F185 : Fld Z h185 a1 "com/example/reweave/reweave/control/Point" "thread" "I" (.int p2) := F186.same W185
  refine og st185 ?_
  show OG p e below _ T185 m 28 #[vr a1, vr d1, vi p2, .val .null, vr r2_178, vr aEmp] []
  refine qa X185.here hx hby dp53_1_28 rfl rfl ?_
  refine qa X185.here hx hby dp53_1_29 rfl rfl ?_
  have F190 := (oo W185 (oo W181 (PQ89.keep K178 nin0) (lp_7 hw) (lp_6 hw) (by decide)) (lp_7 hw) (lp_5 hw) (by decide))
  have F191 := (F187.wr W185)
  obtain ⟨T189, h189, X189, e189, W189, st189⟩ := putF X185 hx hZ hown (host := "") (Or.inl (ow hw 187 rfl)) Via.refl e185 F190 F191 (Or.inr ⟨(ow hw 188 rfl), rfl, hnm⟩) (ow hw 65 rfl) (ty := (.object "com/example/reweave/reweave/control/Location")) (by decide) rfl rfl (g := (mkF m 30 #[vr a1, vr d1, vi p2, .val .null, vr r2_178, vr aEmp] [.null, (.ref a1)])) rfl rfl (hb hby dp53_1_30)
  obtain ⟨L189, X189, N189⟩ := pk X189 (Fr.snoc X189 N185 PQ86)
  have O189 := O185.wr W189 PQ86
  have z192 := Nat.le_trans z188 (Nat.le_of_eq W189.size.symm)
  have F189 : Fld Z h189 a1 "com/example/reweave/reweave/control/Point" "location" "Lcom/example/reweave/reweave/control/Location;" .null := F190.same W189
  refine og st189 ?_
  show OG p e below _ T189 m 33 #[vr a1, vr d1, vi p2, .val .null, vr r2_178, vr aEmp] []
  refine qa X189.here hx hby dp53_1_33 rfl rfl ?_
  refine qb X189.here hx hby dp53_1_34 rfl rfl ?_
  have F194 := (oo W189 (oo W185 (oo W181 (PQ90.keep K178 nin0) (lp_8 hw) (lp_6 hw) (by decide)) (lp_8 hw) (lp_5 hw) (by decide)) (lp_8 hw) (lp_7 hw) (by decide))
  have F195 := (F191.wr W189)
  obtain ⟨T193, h193, X193, e193, W193, st193⟩ := putF X189 hx hZ hown (host := "") (Or.inl (ow hw 189 rfl)) Via.refl e189 F194 F195 (Or.inr ⟨(ow hw 190 rfl), rfl, hnm⟩) (ow hw 65 rfl) (ty := (.object "java/util/List")) (by decide) rfl rfl (g := (mkF m 36 #[vr a1, vr d1, vi p2, .val .null, vr r2_178, vr aEmp] [(.ref r2_178), (.ref a1)])) rfl rfl (hb hby dp53_1_36)
  obtain ⟨L193, X193, N193⟩ := pk X193 (Fr.snoc X193 N189 PQ86)
  have O193 := O189.wr W193 PQ86
  have z196 := Nat.le_trans z192 (Nat.le_of_eq W193.size.symm)
  have F193 : Fld Z h193 a1 "com/example/reweave/reweave/control/Point" "runnable" "Ljava/util/List;" (.ref r2_178) := F194.same W193
  refine og st193 ?_
  show OG p e below _ T193 m 39 #[vr a1, vr d1, vi p2, .val .null, vr r2_178, vr aEmp] []
  refine qa X193.here hx hby dp53_1_39 rfl rfl ?_
  refine qb X193.here hx hby dp53_1_40 rfl rfl ?_
  have F198 := (oo W193 (oo W189 (oo W185 (oo W181 (PQ91.keep K178 nin0) (lp_9 hw) (lp_6 hw) (by decide)) (lp_9 hw) (lp_5 hw) (by decide)) (lp_9 hw) (lp_7 hw) (by decide)) (lp_9 hw) (lp_8 hw) (by decide))
  have F199 := (F195.wr W193)
  obtain ⟨T197, h197, X197, e197, W197, st197⟩ := putF X193 hx hZ hown (host := "") (Or.inl (ow hw 191 rfl)) Via.refl e193 F198 F199 (Or.inr ⟨(ow hw 192 rfl), rfl, hnm⟩) (ow hw 65 rfl) (ty := (.object "java/util/List")) (by decide) rfl rfl (g := (mkF m 42 #[vr a1, vr d1, vi p2, .val .null, vr r2_178, vr aEmp] [(.ref aEmp), (.ref a1)])) rfl rfl (hb hby dp53_1_42)
  obtain ⟨L197, X197, N197⟩ := pk X197 (Fr.snoc X197 N193 PQ86)
  have O197 := O193.wr W197 PQ86
  have z200 := Nat.le_trans z196 (Nat.le_of_eq W197.size.symm)
  have F197 : Fld Z h197 a1 "com/example/reweave/reweave/control/Point" "timeOuts" "Ljava/util/List;" (.ref aEmp) := F198.same W197
  refine og st197 ?_
  show OG p e below _ T197 m 45 #[vr a1, vr d1, vi p2, .val .null, vr r2_178, vr aEmp] []
  obtain ⟨fs, hr, hrun, hended, hW, hsame⟩ := X197.leave (v := none) (fun h => rfl)
  refine ⟨_, _, X197.returnOut hx Bd.returns (hb hby dp53_1_45) hr, hrun, hended, _, _, rfl, ?_, ⟨_, rfl⟩, hW, hsame.mono (by decide) (by decide)⟩
  show Q_pt5 Z ku0 ku1 ku2 ku3 aDef aCac aEmp aMir kDef cCac a1 d1 p2 t1 e1 k9 b0 b1 h0 n0 _ T197.heap _
  rw [e197]
  have F201 := (oo W197 (oo W193 (oo W189 (oo W185 F181 (lp_6 hw) (lp_5 hw) (by decide)) (lp_6 hw) (lp_7 hw) (by decide)) (lp_6 hw) (lp_8 hw) (by decide)) (lp_6 hw) (lp_9 hw) (by decide))
  have F202 := (oo W197 (oo W193 (oo W189 F185 (lp_5 hw) (lp_7 hw) (by decide)) (lp_5 hw) (lp_8 hw) (by decide)) (lp_5 hw) (lp_9 hw) (by decide))
  have F203 := (oo W197 (oo W193 F189 (lp_7 hw) (lp_8 hw) (by decide)) (lp_7 hw) (lp_9 hw) (by decide))
  have F204 := (oo W197 F193 (lp_8 hw) (lp_9 hw) (by decide))
  have kg205 := ((((((Keep.refl _ [a1]).wr W181 (om 0 rfl)).wr W185 (om 0 rfl)).wr W189 (om 0 rfl)).wr W193 (om 0 rfl)).wr W197 (om 0 rfl))
  have F206 := (x178_1.keep kg205)
  exact ⟨r2_178, rfl, N197, (((((((Keep.refl _ [a1]).trans K178 all0).wr W181 (om 0 rfl)).wr W185 (om 0 rfl)).wr W189 (om 0 rfl)).wr W193 (om 0 rfl)).wr W197 (om 0 rfl)), F201, F202, F203, F204, F197, ghx178_0, F206⟩
theorem dp53_2_0 : decode prog_53_method_2_code 0 = .ok (.aload_n 0, 1) := by decide +kernel
theorem dp53_2_1 : decode prog_53_method_2_code 1 = .ok (.aload_n 1, 1) := by decide +kernel
theorem dp53_2_2 : decode prog_53_method_2_code 2 = .ok (.iload_n 2, 1) := by decide +kernel
theorem dp53_2_3 : decode prog_53_method_2_code 3 = .ok (.aload_n 3, 1) := by decide +kernel
theorem dp53_2_4 : decode prog_53_method_2_code 4 = .ok (.aload 4, 2) := by decide +kernel
theorem dp53_2_6 : decode prog_53_method_2_code 6 = .ok (.invokestatic 34, 3) := by decide +kernel
theorem pd___Ljava_util_List_ : parseMethodDescriptor "()Ljava/util/List;" = some ⟨[], some (.object "java/util/List")⟩ := by decide +kernel
theorem dp53_2_9 : decode prog_53_method_2_code 9 = .ok (.invokespecial 38, 3) := by decide +kernel
theorem pd_Lcom_example_reweave_reweave_control_Point_Kind__I_Lcom_example_reweave_reweave_control_Location__Ljava_util_List__Ljava_util_List___V : parseMethodDescriptor "(Lcom/example/reweave/reweave/control/Point$Kind;ILcom/example/reweave/reweave/control/Location;Ljava/util/List;Ljava/util/List;)V" = some ⟨[(.object "com/example/reweave/reweave/control/Point$Kind"), .int, (.object "com/example/reweave/reweave/control/Location"), (.object "java/util/List"), (.object "java/util/List")], none⟩ := by decide +kernel
theorem dp53_2_12 : decode prog_53_method_2_code 12 = .ok (.return_, 1) := by decide +kernel
def Q_pt4 (Z : State) (ku0 ku1 ku2 ku3 aDef aCac aEmp aMir : Addr) (kDef : ClassId) (cCac : Cell) (a1 : Addr) (d1 : Addr) (p2 : Int32) (t1 : Addr) (e1 : Addr) (k9 : ClassId) (b0 : Addr) (b1 : Addr) (h0 : Heap) (n0 : Nat) (v : Option Value) (h : Heap) (L : List Loc) : Prop := ∃ (r2 : Addr), v = none ∧ Fr n0 L ∧ Keep h0 h [a1] ∧ Fld Z h a1 "com/example/reweave/reweave/control/Point" "kind" "Lcom/example/reweave/reweave/control/Point$Kind;" (.ref d1) ∧ Fld Z h a1 "com/example/reweave/reweave/control/Point" "thread" "I" (.int p2) ∧ Fld Z h a1 "com/example/reweave/reweave/control/Point" "location" "Lcom/example/reweave/reweave/control/Location;" .null ∧ Fld Z h a1 "com/example/reweave/reweave/control/Point" "runnable" "Ljava/util/List;" (.ref r2) ∧ Fld Z h a1 "com/example/reweave/reweave/control/Point" "timeOuts" "Ljava/util/List;" (.ref aEmp) ∧ h0.size ≤ r2 ∧ Exa Z h r2 "java/util/ImmutableCollections$List12"
theorem ef_pt4 (m : MethodId) (x0 : Addr) (x1 : Addr) (x2 : Int32) (x4 : Addr) : entryFrame m #[(.ref x0), (.ref x1), (.int x2), .null, (.ref x4)] 5 = mkF m 0 #[vr x0, vr x1, vi x2, .val .null, vr x4] [] := by first | (simp [entryFrame, mkF, argsToLocals, Value.category]; done) | rfl
theorem rm_pt4 (l : Launch) (Z : State) (a0 : Array Value) (hw : HW Z a0) (ws : List Jvm.Cond) (ku0 ku1 ku2 ku3 aDef aCac aEmp aMir : Addr) (kDef : ClassId) (cCac : Cell) (F0 : OwnFacts Z ku0 ku1 ku2 ku3 aDef aCac aEmp aMir kDef cCac) (a1 : Addr) (d1 : Addr) (p2 : Int32) (t1 : Addr) (e1 : Addr) (k9 : ClassId) (b0 : Addr) (b1 : Addr) (h0 : Heap) (n0 : Nat) (O0 : Old Z n0 h0) (PQ85 : Exa Z h0 a1 "com/example/reweave/reweave/control/Point") (PQ86 : n0 ≤ a1) (PQ87 : Fld Z h0 a1 "com/example/reweave/reweave/control/Point" "kind" "Lcom/example/reweave/reweave/control/Point$Kind;" .null) (PQ88 : Fld Z h0 a1 "com/example/reweave/reweave/control/Point" "thread" "I" (.int 0)) (PQ89 : Fld Z h0 a1 "com/example/reweave/reweave/control/Point" "location" "Lcom/example/reweave/reweave/control/Location;" .null) (PQ90 : Fld Z h0 a1 "com/example/reweave/reweave/control/Point" "runnable" "Ljava/util/List;" .null) (PQ91 : Fld Z h0 a1 "com/example/reweave/reweave/control/Point" "timeOuts" "Ljava/util/List;" .null) (PQ80 : Exa Z h0 t1 "java/util/ArrayList") (PQ81 : Fld Z h0 t1 "java/util/ArrayList" "elementData" "[Ljava/lang/Object;" (.ref e1)) (PQ82 : Fld Z h0 t1 "java/util/ArrayList" "size" "I" (.int 2)) (PQ83 : Arv Z h0 e1 k9 (.object "java/lang/Object") (10 : Int32) [(.ref b0), (.ref b1)] .null) (PQ84 : Exa Z h0 e1 "[Ljava/lang/Object;") (PQ52 : Exa Z h0 b0 "java/lang/Integer") (PQ53 : Exa Z h0 b1 "java/lang/Integer") :
    MetFree l mn0 (head1 (Jvm.Cond.code mn0 prog_53_method_2_code 5 none :: ws) (rk 9 2 4 118)) (fun a U => a = #[(.ref a1), (.ref d1), (.int p2), .null, (.ref t1)] ∧ Z.Warmed39 U.vm ∧ U.heap = h0) (fun _ _ _ _ _ => True) (fun _ U o U' => ∃ v L, o = .returned v ∧ Q_pt4 Z ku0 ku1 ku2 ku3 aDef aCac aEmp aMir kDef cCac a1 d1 p2 t1 e1 k9 b0 b1 h0 n0 v U'.heap L ∧ FrameEnd U o U' L (rk 9 2 4 118).cells (rk 9 2 4 118).slots) := by
  refine MetFree.of_bodySF (plainFor_of_name pn_com_example_reweave_reweave_control_Point) hisR ?_
  intro p e s m args below meth c s₁ Bd hml0 hP hK
  obtain ⟨rfl, hZ, hh⟩ := hP
  have hx := Bd.exec
  have hby := Bd.bytes
  have hml : c.maxLocals = 5 := hml0
  have hown : s.vm.findClass "com/example/reweave/reweave/control/Point" = some m.cls := findClass_of_methodNamed Bd.named
  have hnm := (name_of_methodNamed Bd.named Bd.method).1
  have X0 : Stand p l e (rk 9 2 4 118) s m #[(.ref a1), (.ref d1), (.int p2), .null, (.ref t1)] below meth c s₁ [] 0 0 := Stand.of_body Bd
  have e0 : s₁.heap = h0 := by rw [← hh, Bd.state]; rfl
  have N0 := Fr.nil n0
  refine og (Q := fun o U' => ∃ v L, o = .returned v ∧ Q_pt4 Z ku0 ku1 ku2 ku3 aDef aCac aEmp aMir kDef cCac a1 d1 p2 t1 e1 k9 b0 b1 h0 n0 v U'.heap L ∧ FrameEnd s o U' L (rk 9 2 4 118).cells (rk 9 2 4 118).slots) (fun t k => castTop (ef_pt4 m a1 d1 p2 t1) k) ?_
  show OG p e below _ s₁ m 0 #[vr a1, vr d1, vi p2, .val .null, vr t1] []
  refine qa X0.here hx hby dp53_2_0 rfl rfl ?_
  refine qa X0.here hx hby dp53_2_1 rfl rfl ?_
  refine qj X0.here hx hby dp53_2_2 rfl ?_
  refine qa X0.here hx hby dp53_2_3 rfl rfl ?_
  refine qb X0.here hx hby dp53_2_4 rfl rfl ?_
  show OG p e below _ s₁ m 6 #[vr a1, vr d1, vi p2, .val .null, vr t1] [(.ref t1), .null, (.int p2), (.ref d1), (.ref a1)]
  obtain ⟨_, _, ⟨T207, L207, k207, n207⟩, -, X207, ⟨Lc207, hQ207, l207, y207, z207⟩, st207⟩ := Jvm.LawKit.callS X0 hx (y := mn45) hown (mvT hZ (ow hw 77 rfl)) (mvT hZ (ow hw 78 rfl)) (mvT hZ (ow hw 79 rfl)) (mvT hZ (ow hw 80 rfl)) (by decide) (backOf (W := 5) (rm_lo0 l Z a0 hw [] ku0 ku1 ku2 ku3 aDef aCac aEmp aMir kDef cCac F0 h0 n0 O0) hZ (ow hw 80 rfl) (ow hw 79 rfl) (by decide) (by decide)) (g := (mkF m 6 #[vr a1, vr d1, vi p2, .val .null, vr t1] [(.ref t1), .null, (.int p2), (.ref d1), (.ref a1)])) rfl (by rw [hml]; rfl) (argsL := []) (rest := [(.ref t1), .null, (.int p2), (.ref d1), (.ref a1)]) (lenOf pd___Ljava_util_List_ rfl) rfl (by show 2 * 0 + _ ≤ _; exact Nat.le_of_eq rfl) (hb hby dp53_2_6) (fun _ _ => ⟨rfl, e0, (by decide : 0 + 0 ≤ _), (by decide : 0 + 0 ≤ _)⟩)
  dsimp only [Pt.U, Pt.locs, Pt.cells, Pt.slots] at X207 l207 y207 z207 st207 hQ207
  subst l207 y207 z207
  obtain ⟨rfl, Nq207, K207⟩ := hQ207
  obtain ⟨L207, X207, N207⟩ := pk X207 (Fr.app N0 Nq207)
  refine og st207 ?_
  show OG p e below _ T207 m 9 #[vr a1, vr d1, vi p2, .val .null, vr t1] [(.ref aEmp), (.ref t1), .null, (.int p2), (.ref d1), (.ref a1)]
  obtain ⟨_, _, ⟨T208, L208, k208, n208⟩, -, X208, ⟨Lc208, hQ208, l208, y208, z208⟩, st208⟩ := X207.specialBack hx (y := mn1) rfl hown (mvT hZ (ow hw 83 rfl)) (mvT hZ (ow hw 84 rfl)) (mvT hZ (ow hw 85 rfl)) (by decide) (backOf (W := 0) (rm_pt5 l Z a0 hw [] ku0 ku1 ku2 ku3 aDef aCac aEmp aMir kDef cCac F0 a1 d1 p2 t1 e1 k9 b0 b1 h0 n0 O0 PQ85 PQ86 PQ87 PQ88 PQ89 PQ90 PQ91 PQ80 PQ81 PQ82 PQ83 PQ84 PQ52 PQ53) hZ (ow hw 85 rfl) (ow hw 66 rfl) (by decide) (by decide)) (g := (mkF m 9 #[vr a1, vr d1, vi p2, .val .null, vr t1] [(.ref aEmp), (.ref t1), .null, (.int p2), (.ref d1), (.ref a1)])) rfl (by rw [hml]; rfl) (Steps.refl _) (a := a1) (argsL := [(.ref d1), (.int p2), .null, (.ref t1), (.ref aEmp)]) (rest := []) (lenOf pd_Lcom_example_reweave_reweave_control_Point_Kind__I_Lcom_example_reweave_reweave_control_Location__Ljava_util_List__Ljava_util_List___V rfl) rfl (by show 2 * 0 + _ ≤ _; exact Nat.le_of_eq rfl) (hb hby dp53_2_9) (fun _ _ => ⟨rfl, K207, (by decide : 0 + 2 ≤ _), (by decide : 0 + 4 ≤ _)⟩)
  dsimp only [Pt.U, Pt.locs, Pt.cells, Pt.slots] at X208 l208 y208 z208 st208 hQ208
  subst l208 y208 z208
  obtain ⟨r2_208, rfl, Nq208, K208, x208_0, x208_1, x208_2, x208_3, x208_4, x208_5, x208_6⟩ := hQ208
  obtain ⟨L208, X208, N208⟩ := pk X208 (Fr.app N207 Nq208)
  have O208 := O0.keep K208 (allS PQ86 all0)
  have e208 : T208.heap = T208.heap := rfl
  have z209 := Nat.le_trans (Nat.le_refl _) K208.1
  have gex208_5 : n0 ≤ r2_208 := Nat.le_trans (own_sz O0) x208_5
  have ghx208_5 : h0.size ≤ r2_208 := Nat.le_trans (Nat.le_refl _) x208_5
  have lox208_5 : a1 < r2_208 := Nat.lt_of_lt_of_le PQ85.lt x208_5
  refine og (fun _ k => st208.trans k) ?_
  show OG p e below _ T208 m 12 #[vr a1, vr d1, vi p2, .val .null, vr t1] []
  obtain ⟨fs, hr, hrun, hended, hW, hsame⟩ := X208.leave (v := none) (fun h => rfl)
  refine ⟨_, _, X208.returnOut hx Bd.returns (hb hby dp53_2_12) hr, hrun, hended, _, _, rfl, ?_, ⟨_, rfl⟩, hW, hsame.mono (by decide) (by decide)⟩
  show Q_pt4 Z ku0 ku1 ku2 ku3 aDef aCac aEmp aMir kDef cCac a1 d1 p2 t1 e1 k9 b0 b1 h0 n0 _ T208.heap _
  rw [e208]
  exact ⟨r2_208, rfl, N208, ((Keep.refl _ [a1]).trans K208 (aS (om 0 rfl) all0)), x208_0, x208_1, x208_2, x208_3, x208_4, ghx208_5, x208_6⟩
theorem own_and3 (x : Int32) : (x &&& (3 : Int32)) = (0 : Int32) ∨ (x &&& (3 : Int32)) = (1 : Int32) ∨ (x &&& (3 : Int32)) = (2 : Int32) ∨ (x &&& (3 : Int32)) = (3 : Int32) := by
  have e1 : (x &&& (3 : Int32)).toInt = x.toInt % 2 ^ 2 := Jvm.Kit.i32_mask x _ (k := 2) (by decide) (by decide)
  have c : (x &&& (3 : Int32)).toInt = 0 ∨ (x &&& (3 : Int32)).toInt = 1 ∨ (x &&& (3 : Int32)).toInt = 2 ∨ (x &&& (3 : Int32)).toInt = 3 := by omega
  rcases c with c | c | c | c
  · exact (Or.inl (Int32.toInt_inj.mp (c.trans (by decide))))
  · exact Or.inr ((Or.inl (Int32.toInt_inj.mp (c.trans (by decide)))))
  · exact Or.inr (Or.inr ((Or.inl (Int32.toInt_inj.mp (c.trans (by decide))))))
  · exact Or.inr (Or.inr (Or.inr (((Int32.toInt_inj.mp (c.trans (by decide)))))))
theorem d_method_2_0 : decode method_2_code 0 = .ok (.iload_n 0, 1) := by decide +kernel
theorem d_method_2_1 : decode method_2_code 1 = .ok (.iconst 3, 1) := by decide +kernel
theorem d_method_2_2 : decode method_2_code 2 = .ok (.iand, 1) := by decide +kernel
theorem d_method_2_3 : decode method_2_code 3 = .ok (.istore_n 1, 1) := by decide +kernel
theorem d_method_2_4 : decode method_2_code 4 = .ok (.iload_n 1, 1) := by decide +kernel
theorem d_method_2_5 : decode method_2_code 5 = .ok (.ifCond .ne 7, 3) := by decide +kernel
theorem d_method_2_8 : decode method_2_code 8 = .ok (.getstatic 7, 3) := by decide +kernel
theorem d_method_2_11 : decode method_2_code 11 = .ok (.areturn, 1) := by decide +kernel
theorem d_method_2_12 : decode method_2_code 12 = .ok (.iload_n 1, 1) := by decide +kernel
theorem d_method_2_13 : decode method_2_code 13 = .ok (.iconst 1, 1) := by decide +kernel
theorem d_method_2_14 : decode method_2_code 14 = .ok (.if_icmp .ne 7, 3) := by decide +kernel
theorem d_method_2_17 : decode method_2_code 17 = .ok (.getstatic 13, 3) := by decide +kernel
theorem d_method_2_20 : decode method_2_code 20 = .ok (.areturn, 1) := by decide +kernel
theorem d_method_2_21 : decode method_2_code 21 = .ok (.iload_n 1, 1) := by decide +kernel
theorem d_method_2_22 : decode method_2_code 22 = .ok (.iconst 2, 1) := by decide +kernel
theorem d_method_2_23 : decode method_2_code 23 = .ok (.if_icmp .ne 7, 3) := by decide +kernel
theorem d_method_2_26 : decode method_2_code 26 = .ok (.getstatic 16, 3) := by decide +kernel
theorem d_method_2_29 : decode method_2_code 29 = .ok (.areturn, 1) := by decide +kernel
theorem d_method_2_30 : decode method_2_code 30 = .ok (.getstatic 19, 3) := by decide +kernel
theorem d_method_2_33 : decode method_2_code 33 = .ok (.areturn, 1) := by decide +kernel
theorem pn_com_example_reweave_reweave_control_SearchPathHasRacedWithoutAMonitorPinLaw : plainName "com/example/reweave/reweave/control/SearchPathHasRacedWithoutAMonitorPinLaw" = true := by first | (simp [plainName, overriddenIn]; done) | decide +kernel
def Q_kind (Z : State) (ku0 ku1 ku2 ku3 aDef aCac aEmp aMir : Addr) (kDef : ClassId) (cCac : Cell) (p1 : Int32) (h0 : Heap) (n0 : Nat) (v : Option Value) (h : Heap) (L : List Loc) : Prop := ∃ (d9 : Addr) (c9 : Int32), v = some (.ref d9) ∧ Fr n0 L ∧ h = h0 ∧ Exa Z h d9 "com/example/reweave/reweave/control/Point$Kind" ∧ Fld Z h d9 "java/lang/Enum" "ordinal" "I" (.int c9) ∧ d9 < Z.heap.size ∧ (c9 + (1 : Int32)) &&& (512 : Int32) = (0 : Int32)
theorem ef_kind (m : MethodId) (x0 : Int32) : entryFrame m #[(.int x0)] 2 = mkF m 0 #[vi x0, .unset] [] := by first | (simp [entryFrame, mkF, argsToLocals, Value.category]; done) | rfl
theorem rm_kind (l : Launch) (Z : State) (a0 : Array Value) (hw : HW Z a0) (ws : List Jvm.Cond) (ku0 ku1 ku2 ku3 aDef aCac aEmp aMir : Addr) (kDef : ClassId) (cCac : Cell) (F0 : OwnFacts Z ku0 ku1 ku2 ku3 aDef aCac aEmp aMir kDef cCac) (p1 : Int32) (h0 : Heap) (n0 : Nat) (O0 : Old Z n0 h0) :
    MetFree l mn14 (head1 (Jvm.Cond.code mn14 method_2_code 2 (some (.object "com/example/reweave/reweave/control/Point$Kind")) :: ws) (rk 0 0 0 0)) (fun a U => a = #[(.int p1)] ∧ Z.Warmed39 U.vm ∧ U.heap = h0) (fun _ _ _ _ _ => True) (fun _ U o U' => ∃ v L, o = .returned v ∧ Q_kind Z ku0 ku1 ku2 ku3 aDef aCac aEmp aMir kDef cCac p1 h0 n0 v U'.heap L ∧ FrameEnd U o U' L (rk 0 0 0 0).cells (rk 0 0 0 0).slots) := by
  refine MetFree.of_bodySF (plainFor_of_name pn_com_example_reweave_reweave_control_SearchPathHasRacedWithoutAMonitorPinLaw) hisR ?_
  intro p e s m args below meth c s₁ Bd hml0 hP hK
  obtain ⟨rfl, hZ, hh⟩ := hP
  have hx := Bd.exec
  have hby := Bd.bytes
  have hml : c.maxLocals = 2 := hml0
  have hown : s.vm.findClass "com/example/reweave/reweave/control/SearchPathHasRacedWithoutAMonitorPinLaw" = some m.cls := findClass_of_methodNamed Bd.named
  have hnm := (name_of_methodNamed Bd.named Bd.method).1
  have X0 : Stand p l e (rk 0 0 0 0) s m #[(.int p1)] below meth c s₁ [] 0 0 := Stand.of_body Bd
  have e0 : s₁.heap = h0 := by rw [← hh, Bd.state]; rfl
  have N0 := Fr.nil n0
  refine og (Q := fun o U' => ∃ v L, o = .returned v ∧ Q_kind Z ku0 ku1 ku2 ku3 aDef aCac aEmp aMir kDef cCac p1 h0 n0 v U'.heap L ∧ FrameEnd s o U' L (rk 0 0 0 0).cells (rk 0 0 0 0).slots) (fun t k => castTop (ef_kind m p1) k) ?_
  show OG p e below _ s₁ m 0 #[vi p1, .unset] []
  refine qj X0.here hx hby d_method_2_0 rfl ?_
  refine qc X0.here hx hby d_method_2_1 ?_
  refine qh X0.here hx hby d_method_2_2 rfl ?_
  show OG p e below _ s₁ m 3 #[vi p1, .unset] [(.int (p1 &&& (3 : Int32)))]
  rcases own_and3 p1 with hv210 | hv210 | hv210 | hv210
  · rw [hv210]
    show OG p e below _ s₁ m 3 #[vi p1, .unset] [(.int 0)]
    refine og (fun _ k => XS.istoreN X0.here hx rfl (hb hby d_method_2_3) rfl (l' := #[vi p1, vi 0]) rfl k) ?_
    show OG p e below _ s₁ m 4 #[vi p1, vi 0] []
    refine qj X0.here hx hby d_method_2_4 rfl ?_
    refine og (fun _ k => XS.ifNo X0.here hx rfl (hb hby d_method_2_5) rfl (by decide) k) ?_
    show OG p e below _ s₁ m 8 #[vi p1, vi 0] []
    obtain ⟨T211, X211, e211, st211⟩ := getS X0 hx hZ hown (host := "") (ow hw 193 rfl) Via.refl e0 (F0.2.2.1.ext O0.2) (g := (mkF m 8 #[vi p1, vi 0] [])) rfl (hb hby d_method_2_8)
    refine og st211 ?_
    show OG p e below _ T211 m 11 #[vi p1, vi 0] [(.ref ku1)]
    obtain ⟨fs, hr, hrun, hended, hW, hsame⟩ := X211.leave (v := some (.ref ku1)) (fun h => by rw [Bd.returns] at h; cases h)
    refine ⟨_, _, retOut X211 hx Bd.returns rfl (Or.inr (Or.inr (Or.inr (Or.inr ⟨rfl, rfl, rfl⟩)))) (hb hby d_method_2_11) hr, hrun, hended, _, _, rfl, ?_, ⟨_, rfl⟩, hW, hsame.mono (by decide) (by decide)⟩
    show Q_kind Z ku0 ku1 ku2 ku3 aDef aCac aEmp aMir kDef cCac p1 h0 n0 _ T211.heap _
    rw [e211]
    exact ⟨ku1, (0 : Int32), rfl, N0, rfl, (F0.2.2.2.1.ext O0.2), (F0.2.2.2.2.2.1.ext O0.2), F0.2.2.2.1.lt, (by decide)⟩
  · rw [hv210]
    show OG p e below _ s₁ m 3 #[vi p1, .unset] [(.int 1)]
    refine og (fun _ k => XS.istoreN X0.here hx rfl (hb hby d_method_2_3) rfl (l' := #[vi p1, vi 1]) rfl k) ?_
    show OG p e below _ s₁ m 4 #[vi p1, vi 1] []
    refine qj X0.here hx hby d_method_2_4 rfl ?_
    refine og (fun _ k => XS.ifYes X0.here hx rfl (pc0 := 5) (pc' := 12) rfl (hb hby d_method_2_5) rfl (by decide) (by decide) (by decide) k) ?_
    show OG p e below _ s₁ m 12 #[vi p1, vi 1] []
    refine qj X0.here hx hby d_method_2_12 rfl ?_
    refine qc X0.here hx hby d_method_2_13 ?_
    refine og (fun _ k => XS.icmpNo X0.here hx rfl (hb hby d_method_2_14) rfl (by decide) k) ?_
    show OG p e below _ s₁ m 17 #[vi p1, vi 1] []
    obtain ⟨T212, X212, e212, st212⟩ := getS X0 hx hZ hown (host := "") (ow hw 354 rfl) Via.refl e0 (F0.2.2.2.2.2.2.1.ext O0.2) (g := (mkF m 17 #[vi p1, vi 1] [])) rfl (hb hby d_method_2_17)
    refine og st212 ?_
    show OG p e below _ T212 m 20 #[vi p1, vi 1] [(.ref ku2)]
    obtain ⟨fs, hr, hrun, hended, hW, hsame⟩ := X212.leave (v := some (.ref ku2)) (fun h => by rw [Bd.returns] at h; cases h)
    refine ⟨_, _, retOut X212 hx Bd.returns rfl (Or.inr (Or.inr (Or.inr (Or.inr ⟨rfl, rfl, rfl⟩)))) (hb hby d_method_2_20) hr, hrun, hended, _, _, rfl, ?_, ⟨_, rfl⟩, hW, hsame.mono (by decide) (by decide)⟩
    show Q_kind Z ku0 ku1 ku2 ku3 aDef aCac aEmp aMir kDef cCac p1 h0 n0 _ T212.heap _
    rw [e212]
    exact ⟨ku2, (3 : Int32), rfl, N0, rfl, (F0.2.2.2.2.2.2.2.1.ext O0.2), (F0.2.2.2.2.2.2.2.2.1.ext O0.2), F0.2.2.2.2.2.2.2.1.lt, (by decide)⟩
  · rw [hv210]
    show OG p e below _ s₁ m 3 #[vi p1, .unset] [(.int 2)]
    refine og (fun _ k => XS.istoreN X0.here hx rfl (hb hby d_method_2_3) rfl (l' := #[vi p1, vi 2]) rfl k) ?_
    show OG p e below _ s₁ m 4 #[vi p1, vi 2] []
    refine qj X0.here hx hby d_method_2_4 rfl ?_
    refine og (fun _ k => XS.ifYes X0.here hx rfl (pc0 := 5) (pc' := 12) rfl (hb hby d_method_2_5) rfl (by decide) (by decide) (by decide) k) ?_
    show OG p e below _ s₁ m 12 #[vi p1, vi 2] []
    refine qj X0.here hx hby d_method_2_12 rfl ?_
    refine qc X0.here hx hby d_method_2_13 ?_
    refine og (fun _ k => XS.icmpYes X0.here hx rfl (pc0 := 14) (pc' := 21) rfl (hb hby d_method_2_14) rfl (by decide) (by decide) (by decide) k) ?_
    show OG p e below _ s₁ m 21 #[vi p1, vi 2] []
    refine qj X0.here hx hby d_method_2_21 rfl ?_
    refine qc X0.here hx hby d_method_2_22 ?_
    refine og (fun _ k => XS.icmpNo X0.here hx rfl (hb hby d_method_2_23) rfl (by decide) k) ?_
    show OG p e below _ s₁ m 26 #[vi p1, vi 2] []
    obtain ⟨T213, X213, e213, st213⟩ := getS X0 hx hZ hown (host := "") (ow hw 356 rfl) Via.refl e0 (F0.2.2.2.2.2.2.2.2.2.1.ext O0.2) (g := (mkF m 26 #[vi p1, vi 2] [])) rfl (hb hby d_method_2_26)
    refine og st213 ?_
    show OG p e below _ T213 m 29 #[vi p1, vi 2] [(.ref ku3)]
    obtain ⟨fs, hr, hrun, hended, hW, hsame⟩ := X213.leave (v := some (.ref ku3)) (fun h => by rw [Bd.returns] at h; cases h)
    refine ⟨_, _, retOut X213 hx Bd.returns rfl (Or.inr (Or.inr (Or.inr (Or.inr ⟨rfl, rfl, rfl⟩)))) (hb hby d_method_2_29) hr, hrun, hended, _, _, rfl, ?_, ⟨_, rfl⟩, hW, hsame.mono (by decide) (by decide)⟩
    show Q_kind Z ku0 ku1 ku2 ku3 aDef aCac aEmp aMir kDef cCac p1 h0 n0 _ T213.heap _
    rw [e213]
    exact ⟨ku3, (8 : Int32), rfl, N0, rfl, (F0.2.2.2.2.2.2.2.2.2.2.1.ext O0.2), (F0.2.2.2.2.2.2.2.2.2.2.2.1.ext O0.2), F0.2.2.2.2.2.2.2.2.2.2.1.lt, (by decide)⟩
  · rw [hv210]
    show OG p e below _ s₁ m 3 #[vi p1, .unset] [(.int 3)]
    refine og (fun _ k => XS.istoreN X0.here hx rfl (hb hby d_method_2_3) rfl (l' := #[vi p1, vi 3]) rfl k) ?_
    show OG p e below _ s₁ m 4 #[vi p1, vi 3] []
    refine qj X0.here hx hby d_method_2_4 rfl ?_
    refine og (fun _ k => XS.ifYes X0.here hx rfl (pc0 := 5) (pc' := 12) rfl (hb hby d_method_2_5) rfl (by decide) (by decide) (by decide) k) ?_
    show OG p e below _ s₁ m 12 #[vi p1, vi 3] []
    refine qj X0.here hx hby d_method_2_12 rfl ?_
    refine qc X0.here hx hby d_method_2_13 ?_
    refine og (fun _ k => XS.icmpYes X0.here hx rfl (pc0 := 14) (pc' := 21) rfl (hb hby d_method_2_14) rfl (by decide) (by decide) (by decide) k) ?_
    show OG p e below _ s₁ m 21 #[vi p1, vi 3] []
    refine qj X0.here hx hby d_method_2_21 rfl ?_
    refine qc X0.here hx hby d_method_2_22 ?_
    refine og (fun _ k => XS.icmpYes X0.here hx rfl (pc0 := 23) (pc' := 30) rfl (hb hby d_method_2_23) rfl (by decide) (by decide) (by decide) k) ?_
    show OG p e below _ s₁ m 30 #[vi p1, vi 3] []
    obtain ⟨T214, X214, e214, st214⟩ := getS X0 hx hZ hown (host := "") (ow hw 71 rfl) Via.refl e0 (F0.1.ext O0.2) (g := (mkF m 30 #[vi p1, vi 3] [])) rfl (hb hby d_method_2_30)
    refine og st214 ?_
    show OG p e below _ T214 m 33 #[vi p1, vi 3] [(.ref ku0)]
    obtain ⟨fs, hr, hrun, hended, hW, hsame⟩ := X214.leave (v := some (.ref ku0)) (fun h => by rw [Bd.returns] at h; cases h)
    refine ⟨_, _, retOut X214 hx Bd.returns rfl (Or.inr (Or.inr (Or.inr (Or.inr ⟨rfl, rfl, rfl⟩)))) (hb hby d_method_2_33) hr, hrun, hended, _, _, rfl, ?_, ⟨_, rfl⟩, hW, hsame.mono (by decide) (by decide)⟩
    show Q_kind Z ku0 ku1 ku2 ku3 aDef aCac aEmp aMir kDef cCac p1 h0 n0 _ T214.heap _
    rw [e214]
    exact ⟨ku0, (13 : Int32), rfl, N0, rfl, (F0.2.1.ext O0.2), (F0.2.2.2.2.1.ext O0.2), F0.2.1.lt, (by decide)⟩
theorem dp65_1_0 : decode prog_65_method_1_code 0 = .ok (.aload_n 0, 1) := by decide +kernel
theorem dp65_1_1 : decode prog_65_method_1_code 1 = .ok (.invokespecial 1, 3) := by decide +kernel
theorem dp65_1_4 : decode prog_65_method_1_code 4 = .ok (.aload_n 0, 1) := by decide +kernel
theorem dp65_1_5 : decode prog_65_method_1_code 5 = .ok (.new 7, 3) := by decide +kernel
theorem dp65_1_8 : decode prog_65_method_1_code 8 = .ok (.dup, 1) := by decide +kernel
theorem dp65_1_9 : decode prog_65_method_1_code 9 = .ok (.invokespecial 9, 3) := by decide +kernel
theorem dp65_1_12 : decode prog_65_method_1_code 12 = .ok (.putfield 10, 3) := by decide +kernel
theorem dp65_1_15 : decode prog_65_method_1_code 15 = .ok (.return_, 1) := by decide +kernel
theorem lp_10 {Z : State} {a0 : Array Value} (hw : HW Z a0) : LP Z a0 "com/example/reweave/reweave/control/SharedValues" "com/example/reweave/reweave/control/SharedValues" "last" "Ljava/lang/Object;" := ⟨(Or.inl (ow hw 299 rfl)), (.object "java/lang/Object"), by decide⟩
theorem lp_11 {Z : State} {a0 : Array Value} (hw : HW Z a0) : LP Z a0 "com/example/reweave/reweave/control/SharedValues" "com/example/reweave/reweave/control/SharedValues" "values" "Ljava/util/List;" := ⟨(Or.inr (ow hw 221 rfl)), (.object "java/util/List"), by decide⟩
theorem pn_com_example_reweave_reweave_control_SharedValues : plainName "com/example/reweave/reweave/control/SharedValues" = true := by first | (simp [plainName, overriddenIn]; done) | decide +kernel
def Q_sv (Z : State) (ku0 ku1 ku2 ku3 aDef aCac aEmp aMir : Addr) (kDef : ClassId) (cCac : Cell) (a1 : Addr) (h0 : Heap) (n0 : Nat) (v : Option Value) (h : Heap) (L : List Loc) : Prop := ∃ (r3 : Addr), v = none ∧ Fr n0 L ∧ Keep h0 h [a1] ∧ Fld Z h a1 "com/example/reweave/reweave/control/SharedValues" "values" "Ljava/util/List;" (.ref r3) ∧ Fld Z h a1 "com/example/reweave/reweave/control/SharedValues" "last" "Ljava/lang/Object;" .null ∧ h0.size ≤ r3 ∧ Exa Z h r3 "java/util/ArrayList" ∧ Fld Z h r3 "java/util/AbstractList" "modCount" "I" (.int 0) ∧ Fld Z h r3 "java/util/ArrayList" "elementData" "[Ljava/lang/Object;" (.ref aDef) ∧ Fld Z h r3 "java/util/ArrayList" "size" "I" (.int 0)
theorem ef_sv (m : MethodId) (x0 : Addr) : entryFrame m #[(.ref x0)] 1 = mkF m 0 #[vr x0] [] := by first | (simp [entryFrame, mkF, argsToLocals, Value.category]; done) | rfl
theorem rm_sv (l : Launch) (Z : State) (a0 : Array Value) (hw : HW Z a0) (ws : List Jvm.Cond) (ku0 ku1 ku2 ku3 aDef aCac aEmp aMir : Addr) (kDef : ClassId) (cCac : Cell) (F0 : OwnFacts Z ku0 ku1 ku2 ku3 aDef aCac aEmp aMir kDef cCac) (a1 : Addr) (h0 : Heap) (n0 : Nat) (O0 : Old Z n0 h0) (PQ92 : Exa Z h0 a1 "com/example/reweave/reweave/control/SharedValues") (PQ93 : n0 ≤ a1) (PQ94 : Fld Z h0 a1 "com/example/reweave/reweave/control/SharedValues" "values" "Ljava/util/List;" .null) (PQ95 : Fld Z h0 a1 "com/example/reweave/reweave/control/SharedValues" "last" "Ljava/lang/Object;" .null) :
    MetFree l mn15 (head1 (Jvm.Cond.code mn15 prog_65_method_1_code 1 none :: ws) (rk 4 1 3 50)) (fun a U => a = #[(.ref a1)] ∧ Z.Warmed39 U.vm ∧ U.heap = h0) (fun _ _ _ _ _ => True) (fun _ U o U' => ∃ v L, o = .returned v ∧ Q_sv Z ku0 ku1 ku2 ku3 aDef aCac aEmp aMir kDef cCac a1 h0 n0 v U'.heap L ∧ FrameEnd U o U' L (rk 4 1 3 50).cells (rk 4 1 3 50).slots) := by
  refine MetFree.of_bodySF (plainFor_of_name pn_com_example_reweave_reweave_control_SharedValues) hisR ?_
  intro p e s m args below meth c s₁ Bd hml0 hP hK
  obtain ⟨rfl, hZ, hh⟩ := hP
  have hx := Bd.exec
  have hby := Bd.bytes
  have hml : c.maxLocals = 1 := hml0
  have hown : s.vm.findClass "com/example/reweave/reweave/control/SharedValues" = some m.cls := findClass_of_methodNamed Bd.named
  have hnm := (name_of_methodNamed Bd.named Bd.method).1
  have X0 : Stand p l e (rk 4 1 3 50) s m #[(.ref a1)] below meth c s₁ [] 0 0 := Stand.of_body Bd
  have e0 : s₁.heap = h0 := by rw [← hh, Bd.state]; rfl
  have N0 := Fr.nil n0
  refine og (Q := fun o U' => ∃ v L, o = .returned v ∧ Q_sv Z ku0 ku1 ku2 ku3 aDef aCac aEmp aMir kDef cCac a1 h0 n0 v U'.heap L ∧ FrameEnd s o U' L (rk 4 1 3 50).cells (rk 4 1 3 50).slots) (fun t k => castTop (ef_sv m a1) k) ?_
  show OG p e below _ s₁ m 0 #[vr a1] []
  refine qa X0.here hx hby dp65_1_0 rfl rfl ?_
  obtain ⟨T215, X215, e215, st215⟩ := initO X0 hx hZ hown (ow hw 217 rfl) (ow hw 19 rfl) (ow hw 20 rfl) e0 (g := (mkF m 1 #[vr a1] [(.ref a1)])) rfl (by rw [hml]; rfl) rfl (hb hby dp65_1_1) (by decide) (W := 0) (by show 2 * 0 + _ ≤ _; exact Nat.le_of_eq rfl) (by decide)
  refine og st215 ?_
  show OG p e below _ T215 m 4 #[vr a1] []
  refine qa X215.here hx hby dp65_1_4 rfl rfl ?_
  obtain ⟨T216, h216, X216, e216, E216, A216, D216, -, st216⟩ := newO X215 hx hZ hown (ow hw 218 rfl) (ow hw 1 rfl) (ow hw 2 rfl) e215 (g := (mkF m 5 #[vr a1] [(.ref a1)])) rfl (hb hby dp65_1_5) (by decide) (by decide)
  obtain ⟨a216, g216⟩ : ∃ z, z = h0.size := ⟨_, rfl⟩
  rw [← g216] at A216 D216 st216
  have ge216 : n0 ≤ a216 := Nat.le_trans (own_sz O0) (Nat.le_of_eq g216.symm)
  have gh216 : h0.size ≤ a216 := Nat.le_trans (Nat.le_refl _) (Nat.le_of_eq g216.symm)
  have lo216 : a1 < a216 := Nat.lt_of_lt_of_eq PQ92.lt g216.symm
  have O216 := O0.ext E216
  have z217 := Nat.le_trans (Nat.le_refl _) E216.1
  have F218 : Fld Z h216 a216 "java/util/AbstractList" "modCount" "I" (.int 0) := D216 (Or.inl (ow hw 22 rfl)) (ty := .int) (by decide)
  have F219 : Fld Z h216 a216 "java/util/ArrayList" "elementData" "[Ljava/lang/Object;" .null := D216 (Or.inl (ow hw 25 rfl)) (ty := (.array (.object "java/lang/Object"))) (by decide)
  have F220 : Fld Z h216 a216 "java/util/ArrayList" "size" "I" (.int 0) := D216 (Or.inl (ow hw 41 rfl)) (ty := .int) (by decide)
  refine og st216 ?_
  show OG p e below _ T216 m 8 #[vr a1] [(.ref a216), (.ref a1)]
  refine qd X216.here hx hby dp65_1_8 rfl rfl ?_
  obtain ⟨_, _, ⟨T221, L221, k221, n221⟩, -, X221, ⟨Lc221, hQ221, l221, y221, z221⟩, st221⟩ := X216.specialBack hx (y := mn25) rfl hown (mvT hZ (ow hw 219 rfl)) (mvT hZ (ow hw 4 rfl)) (mvT hZ (ow hw 5 rfl)) (by decide) (backOf (W := 2) (rm_iAL l Z a0 hw [] ku0 ku1 ku2 ku3 aDef aCac aEmp aMir kDef cCac F0 a216 h216 n0 O216 A216 F218 F219 F220 ge216) hZ (ow hw 5 rfl) (ow hw 2 rfl) (by decide) (by decide)) (g := (mkF m 9 #[vr a1] [(.ref a216), (.ref a216), (.ref a1)])) rfl (by rw [hml]; rfl) (Steps.refl _) (a := a216) (argsL := []) (rest := [(.ref a216), (.ref a1)]) (lenOf pd___V rfl) rfl (by show 2 * 0 + _ ≤ _; exact Nat.le_of_eq rfl) (hb hby dp65_1_9) (fun _ _ => ⟨rfl, e216, (by decide : 1 + 0 ≤ _), (by decide : 3 + 0 ≤ _)⟩)
  dsimp only [Pt.U, Pt.locs, Pt.cells, Pt.slots] at X221 l221 y221 z221 st221 hQ221
  subst l221 y221 z221
  obtain ⟨rfl, Nq221, K221, x221_0, x221_1, x221_2⟩ := hQ221
  obtain ⟨L221, X221, N221⟩ := pk X221 (Fr.app N0 Nq221)
  have O221 := O216.keep K221 (allS ge216 all0)
  have e221 : T221.heap = T221.heap := rfl
  have z222 := Nat.le_trans z217 K221.1
  refine og (fun _ k => st221.trans k) ?_
  show OG p e below _ T221 m 12 #[vr a1] [(.ref a216), (.ref a1)]
  have kg224 := (((Keep.refl _ [a216]).ext E216).trans K221 (aS (om 0 rfl) all0))
  have ni225 := (ninS (Nat.ne_of_lt lo216) nin0)
  have F226 := (PQ94.keep kg224 ni225)
  have F227 := (PQ92.keep kg224)
  obtain ⟨T223, h223, X223, e223, W223, st223⟩ := putF X221 hx hZ hown (host := "") (Or.inl (ow hw 220 rfl)) Via.refl e221 F226 F227 (Or.inr ⟨(ow hw 221 rfl), rfl, hnm⟩) (ow hw 212 rfl) (ty := (.object "java/util/List")) (by decide) rfl rfl (g := (mkF m 12 #[vr a1] [(.ref a216), (.ref a1)])) rfl rfl (hb hby dp65_1_12)
  obtain ⟨L223, X223, N223⟩ := pk X223 (Fr.snoc X223 N221 PQ93)
  have O223 := O221.wr W223 PQ93
  have z228 := Nat.le_trans z222 (Nat.le_of_eq W223.size.symm)
  have F223 : Fld Z h223 a1 "com/example/reweave/reweave/control/SharedValues" "values" "Ljava/util/List;" (.ref a216) := F226.same W223
  refine og st223 ?_
  show OG p e below _ T223 m 15 #[vr a1] []
  obtain ⟨fs, hr, hrun, hended, hW, hsame⟩ := X223.leave (v := none) (fun h => rfl)
  refine ⟨_, _, X223.returnOut hx Bd.returns (hb hby dp65_1_15) hr, hrun, hended, _, _, rfl, ?_, ⟨_, rfl⟩, hW, hsame.mono (by decide) (by decide)⟩
  show Q_sv Z ku0 ku1 ku2 ku3 aDef aCac aEmp aMir kDef cCac a1 h0 n0 _ T223.heap _
  rw [e223]
  have F229 := (oo W223 (PQ95.keep kg224 ni225) (lp_10 hw) (lp_11 hw) (by decide))
  have kg230 := (((Keep.refl _ [a216, a1]).trans K221 (aS (om 0 rfl) all0)).wr W223 (om 1 rfl))
  have F231 := (A216.keep kg230)
  have F232 := (x221_0.other W223 (Or.inl (Ne.symm (Nat.ne_of_lt lo216))))
  have F233 := (x221_1.other W223 (Or.inl (Ne.symm (Nat.ne_of_lt lo216))))
  have F234 := (x221_2.other W223 (Or.inl (Ne.symm (Nat.ne_of_lt lo216))))
  exact ⟨a216, rfl, N223, ((((Keep.refl _ [a1]).ext E216).trans K221 (aS (Or.inr gh216) all0)).wr W223 (om 0 rfl)), F223, F229, gh216, F231, F232, F233, F234⟩
theorem dj69_7_0 : decode jdk_69_method_7_code 0 = .ok (.aload_n 0, 1) := by decide +kernel
theorem dj69_7_1 : decode jdk_69_method_7_code 1 = .ok (.invokespecial 43, 3) := by decide +kernel
theorem dj69_7_4 : decode jdk_69_method_7_code 4 = .ok (.aload_n 0, 1) := by decide +kernel
theorem dj69_7_5 : decode jdk_69_method_7_code 5 = .ok (.ldc 92, 2) := by decide +kernel
theorem dj69_7_7 : decode jdk_69_method_7_code 7 = .ok (.putfield 81, 3) := by decide +kernel
theorem dj69_7_10 : decode jdk_69_method_7_code 10 = .ok (.return_, 1) := by decide +kernel
theorem pn_java_util_HashMap : plainName "java/util/HashMap" = true := by first | (simp [plainName, overriddenIn]; done) | decide +kernel
def Q_hm (Z : State) (ku0 ku1 ku2 ku3 aDef aCac aEmp aMir : Addr) (kDef : ClassId) (cCac : Cell) (a1 : Addr) (h0 : Heap) (n0 : Nat) (v : Option Value) (h : Heap) (L : List Loc) : Prop := v = none ∧ Fr n0 L ∧ Keep h0 h [a1]
theorem ef_hm (m : MethodId) (x0 : Addr) : entryFrame m #[(.ref x0)] 1 = mkF m 0 #[vr x0] [] := by first | (simp [entryFrame, mkF, argsToLocals, Value.category]; done) | rfl
theorem rm_hm (l : Launch) (Z : State) (a0 : Array Value) (hw : HW Z a0) (ws : List Jvm.Cond) (ku0 ku1 ku2 ku3 aDef aCac aEmp aMir : Addr) (kDef : ClassId) (cCac : Cell) (F0 : OwnFacts Z ku0 ku1 ku2 ku3 aDef aCac aEmp aMir kDef cCac) (a1 : Addr) (h0 : Heap) (n0 : Nat) (O0 : Old Z n0 h0) (PQ96 : Exa Z h0 a1 "java/util/HashMap") (PQ97 : n0 ≤ a1) (PQ98 : Fld Z h0 a1 "java/util/HashMap" "loadFactor" "F" (.float 0)) :
    MetFree l mn37 (head1 (Jvm.Cond.code mn37 jdk_69_method_7_code 1 none :: ws) (rk 2 0 0 24)) (fun a U => a = #[(.ref a1)] ∧ Z.Warmed39 U.vm ∧ U.heap = h0) (fun _ _ _ _ _ => True) (fun _ U o U' => ∃ v L, o = .returned v ∧ Q_hm Z ku0 ku1 ku2 ku3 aDef aCac aEmp aMir kDef cCac a1 h0 n0 v U'.heap L ∧ FrameEnd U o U' L (rk 2 0 0 24).cells (rk 2 0 0 24).slots) := by
  refine MetFree.of_bodySF (plainFor_of_name pn_java_util_HashMap) hisR ?_
  intro p e s m args below meth c s₁ Bd hml0 hP hK
  obtain ⟨rfl, hZ, hh⟩ := hP
  have hx := Bd.exec
  have hby := Bd.bytes
  have hml : c.maxLocals = 1 := hml0
  have hown : s.vm.findClass "java/util/HashMap" = some m.cls := findClass_of_methodNamed Bd.named
  have hnm := (name_of_methodNamed Bd.named Bd.method).1
  have X0 : Stand p l e (rk 2 0 0 24) s m #[(.ref a1)] below meth c s₁ [] 0 0 := Stand.of_body Bd
  have e0 : s₁.heap = h0 := by rw [← hh, Bd.state]; rfl
  have N0 := Fr.nil n0
  refine og (Q := fun o U' => ∃ v L, o = .returned v ∧ Q_hm Z ku0 ku1 ku2 ku3 aDef aCac aEmp aMir kDef cCac a1 h0 n0 v U'.heap L ∧ FrameEnd s o U' L (rk 2 0 0 24).cells (rk 2 0 0 24).slots) (fun t k => castTop (ef_hm m a1) k) ?_
  show OG p e below _ s₁ m 0 #[vr a1] []
  refine qa X0.here hx hby dj69_7_0 rfl rfl ?_
  obtain ⟨_, _, ⟨T235, L235, k235, n235⟩, -, X235, ⟨Lc235, hQ235, l235, y235, z235⟩, st235⟩ := X0.specialBack hx (y := mn24) rfl hown (mvT hZ (ow hw 230 rfl)) (mvT hZ (ow hw 231 rfl)) (mvT hZ (ow hw 235 rfl)) (by decide) (backOf (W := 0) (rm_iAM l Z a0 hw [] ku0 ku1 ku2 ku3 aDef aCac aEmp aMir kDef cCac F0 a1 h0 n0 O0) hZ (ow hw 235 rfl) (ow hw 234 rfl) (by decide) (by decide)) (g := (mkF m 1 #[vr a1] [(.ref a1)])) rfl (by rw [hml]; rfl) (Steps.refl _) (a := a1) (argsL := []) (rest := []) (lenOf pd___V rfl) rfl (by show 2 * 0 + _ ≤ _; exact Nat.le_of_eq rfl) (hb hby dj69_7_1) (fun _ _ => ⟨rfl, e0, (by decide : 0 + 0 ≤ _), (by decide : 0 + 0 ≤ _)⟩)
  dsimp only [Pt.U, Pt.locs, Pt.cells, Pt.slots] at X235 l235 y235 z235 st235 hQ235
  subst l235 y235 z235
  obtain ⟨rfl, Nq235, K235⟩ := hQ235
  obtain ⟨L235, X235, N235⟩ := pk X235 (Fr.app N0 Nq235)
  refine og (fun _ k => st235.trans k) ?_
  show OG p e below _ T235 m 4 #[vr a1] []
  refine qa X235.here hx hby dj69_7_4 rfl rfl ?_
  refine og (fun _ k => X235.ldcFloatC hx hown (mvT hZ (ow hw 237 rfl)) (g := (mkF m 5 #[vr a1] [(.ref a1)])) rfl (hb hby dj69_7_5) _ k) ?_
  show OG p e below _ T235 m 7 #[vr a1] [(.float (1061158912 : UInt32)), (.ref a1)]
  obtain ⟨T237, h237, X237, e237, W237, st237⟩ := putF X235 hx hZ hown (host := "") (Or.inl (ow hw 238 rfl)) Via.refl K235 PQ98 PQ96 (Or.inr ⟨(ow hw 239 rfl), rfl, hnm⟩) (ow hw 225 rfl) (ty := .float) (by decide) rfl rfl (g := (mkF m 7 #[vr a1] [(.float (1061158912 : UInt32)), (.ref a1)])) rfl rfl (hb hby dj69_7_7)
  obtain ⟨L237, X237, N237⟩ := pk X237 (Fr.snoc X237 N235 PQ97)
  have O237 := O0.wr W237 PQ97
  have z238 := Nat.le_trans (Nat.le_refl _) (Nat.le_of_eq W237.size.symm)
  have F237 : Fld Z h237 a1 "java/util/HashMap" "loadFactor" "F" (.float (1061158912 : UInt32)) := PQ98.same W237
  refine og st237 ?_
  show OG p e below _ T237 m 10 #[vr a1] []
  obtain ⟨fs, hr, hrun, hended, hW, hsame⟩ := X237.leave (v := none) (fun h => rfl)
  refine ⟨_, _, X237.returnOut hx Bd.returns (hb hby dj69_7_10) hr, hrun, hended, _, _, rfl, ?_, ⟨_, rfl⟩, hW, hsame.mono (by decide) (by decide)⟩
  show Q_hm Z ku0 ku1 ku2 ku3 aDef aCac aEmp aMir kDef cCac a1 h0 n0 _ T237.heap _
  rw [e237]
  exact ⟨rfl, N237, ((Keep.refl _ [a1]).wr W237 (om 0 rfl))⟩
theorem dp62_1_0 : decode prog_62_method_1_code 0 = .ok (.aload_n 0, 1) := by decide +kernel
theorem dp62_1_1 : decode prog_62_method_1_code 1 = .ok (.invokespecial 1, 3) := by decide +kernel
theorem dp62_1_4 : decode prog_62_method_1_code 4 = .ok (.aload_n 0, 1) := by decide +kernel
theorem dp62_1_5 : decode prog_62_method_1_code 5 = .ok (.sipush 576, 3) := by decide +kernel
theorem dp62_1_8 : decode prog_62_method_1_code 8 = .ok (.newarray .int, 2) := by decide +kernel
theorem dp62_1_10 : decode prog_62_method_1_code 10 = .ok (.putfield 9, 3) := by decide +kernel
theorem dp62_1_13 : decode prog_62_method_1_code 13 = .ok (.aload_n 0, 1) := by decide +kernel
theorem dp62_1_14 : decode prog_62_method_1_code 14 = .ok (.bipush 64, 2) := by decide +kernel
theorem dp62_1_16 : decode prog_62_method_1_code 16 = .ok (.anewarray 13, 3) := by decide +kernel
theorem dp62_1_19 : decode prog_62_method_1_code 19 = .ok (.putfield 15, 3) := by decide +kernel
theorem lp_12 {Z : State} {a0 : Array Value} (hw : HW Z a0) : LP Z a0 "com/example/reweave/reweave/control/SearchPath" "com/example/reweave/reweave/control/SearchPath" "more" "[Lcom/example/reweave/reweave/control/SearchPath$More;" := ⟨(Or.inl (ow hw 208 rfl)), (.array (.object "com/example/reweave/reweave/control/SearchPath$More")), by decide⟩
theorem lp_13 {Z : State} {a0 : Array Value} (hw : HW Z a0) : LP Z a0 "com/example/reweave/reweave/control/SearchPath" "com/example/reweave/reweave/control/SearchPath" "numbers" "[I" := ⟨(Or.inl (ow hw 204 rfl)), (.array .int), by decide⟩
theorem dp62_1_22 : decode prog_62_method_1_code 22 = .ok (.aload_n 0, 1) := by decide +kernel
theorem dp62_1_23 : decode prog_62_method_1_code 23 = .ok (.sipush 256, 3) := by decide +kernel
theorem dp62_1_26 : decode prog_62_method_1_code 26 = .ok (.newarray .int, 2) := by decide +kernel
theorem dp62_1_28 : decode prog_62_method_1_code 28 = .ok (.putfield 19, 3) := by decide +kernel
theorem lp_14 {Z : State} {a0 : Array Value} (hw : HW Z a0) : LP Z a0 "com/example/reweave/reweave/control/SearchPath" "com/example/reweave/reweave/control/SearchPath" "lists" "[I" := ⟨(Or.inl (ow hw 210 rfl)), (.array .int), by decide⟩
theorem dp62_1_31 : decode prog_62_method_1_code 31 = .ok (.aload_n 0, 1) := by decide +kernel
theorem dp62_1_32 : decode prog_62_method_1_code 32 = .ok (.new 22, 3) := by decide +kernel
theorem dp62_1_35 : decode prog_62_method_1_code 35 = .ok (.dup, 1) := by decide +kernel
theorem dp62_1_36 : decode prog_62_method_1_code 36 = .ok (.invokespecial 24, 3) := by decide +kernel
theorem dp62_1_39 : decode prog_62_method_1_code 39 = .ok (.putfield 25, 3) := by decide +kernel
theorem lp_15 {Z : State} {a0 : Array Value} (hw : HW Z a0) : LP Z a0 "com/example/reweave/reweave/control/SearchPath" "com/example/reweave/reweave/control/SearchPath" "locations" "Lcom/example/reweave/reweave/control/SharedValues;" := ⟨(Or.inr (ow hw 223 rfl)), (.object "com/example/reweave/reweave/control/SharedValues"), by decide⟩
theorem dp62_1_42 : decode prog_62_method_1_code 42 = .ok (.aload_n 0, 1) := by decide +kernel
theorem dp62_1_43 : decode prog_62_method_1_code 43 = .ok (.new 29, 3) := by decide +kernel
theorem dp62_1_46 : decode prog_62_method_1_code 46 = .ok (.dup, 1) := by decide +kernel
theorem dp62_1_47 : decode prog_62_method_1_code 47 = .ok (.invokespecial 31, 3) := by decide +kernel
theorem dp62_1_50 : decode prog_62_method_1_code 50 = .ok (.putfield 32, 3) := by decide +kernel
theorem lp_16 {Z : State} {a0 : Array Value} (hw : HW Z a0) : LP Z a0 "com/example/reweave/reweave/control/SearchPath" "com/example/reweave/reweave/control/SearchPath" "notifies" "Ljava/util/Map;" := ⟨(Or.inr (ow hw 241 rfl)), (.object "java/util/Map"), by decide⟩
theorem dp62_1_53 : decode prog_62_method_1_code 53 = .ok (.aload_n 0, 1) := by decide +kernel
theorem dp62_1_54 : decode prog_62_method_1_code 54 = .ok (.new 22, 3) := by decide +kernel
theorem dp62_1_57 : decode prog_62_method_1_code 57 = .ok (.dup, 1) := by decide +kernel
theorem dp62_1_58 : decode prog_62_method_1_code 58 = .ok (.invokespecial 24, 3) := by decide +kernel
theorem dp62_1_61 : decode prog_62_method_1_code 61 = .ok (.putfield 36, 3) := by decide +kernel
theorem lp_17 {Z : State} {a0 : Array Value} (hw : HW Z a0) : LP Z a0 "com/example/reweave/reweave/control/SearchPath" "com/example/reweave/reweave/control/SearchPath" "runnables" "Lcom/example/reweave/reweave/control/SharedValues;" := ⟨(Or.inr (ow hw 243 rfl)), (.object "com/example/reweave/reweave/control/SharedValues"), by decide⟩
theorem dp62_1_64 : decode prog_62_method_1_code 64 = .ok (.aload_n 0, 1) := by decide +kernel
theorem dp62_1_65 : decode prog_62_method_1_code 65 = .ok (.new 22, 3) := by decide +kernel
theorem dp62_1_68 : decode prog_62_method_1_code 68 = .ok (.dup, 1) := by decide +kernel
theorem dp62_1_69 : decode prog_62_method_1_code 69 = .ok (.invokespecial 24, 3) := by decide +kernel
theorem dp62_1_72 : decode prog_62_method_1_code 72 = .ok (.putfield 39, 3) := by decide +kernel
theorem lp_18 {Z : State} {a0 : Array Value} (hw : HW Z a0) : LP Z a0 "com/example/reweave/reweave/control/SearchPath" "com/example/reweave/reweave/control/SearchPath" "timeOuts" "Lcom/example/reweave/reweave/control/SharedValues;" := ⟨(Or.inr (ow hw 245 rfl)), (.object "com/example/reweave/reweave/control/SharedValues"), by decide⟩
theorem dp62_1_75 : decode prog_62_method_1_code 75 = .ok (.aload_n 0, 1) := by decide +kernel
theorem dp62_1_76 : decode prog_62_method_1_code 76 = .ok (.new 22, 3) := by decide +kernel
theorem dp62_1_79 : decode prog_62_method_1_code 79 = .ok (.dup, 1) := by decide +kernel
theorem dp62_1_80 : decode prog_62_method_1_code 80 = .ok (.invokespecial 24, 3) := by decide +kernel
theorem dp62_1_83 : decode prog_62_method_1_code 83 = .ok (.putfield 42, 3) := by decide +kernel
theorem lp_19 {Z : State} {a0 : Array Value} (hw : HW Z a0) : LP Z a0 "com/example/reweave/reweave/control/SearchPath" "com/example/reweave/reweave/control/SearchPath" "options" "Lcom/example/reweave/reweave/control/SharedValues;" := ⟨(Or.inr (ow hw 247 rfl)), (.object "com/example/reweave/reweave/control/SharedValues"), by decide⟩
theorem dp62_1_86 : decode prog_62_method_1_code 86 = .ok (.aload_n 0, 1) := by decide +kernel
theorem dp62_1_87 : decode prog_62_method_1_code 87 = .ok (.new 22, 3) := by decide +kernel
theorem dp62_1_90 : decode prog_62_method_1_code 90 = .ok (.dup, 1) := by decide +kernel
theorem dp62_1_91 : decode prog_62_method_1_code 91 = .ok (.invokespecial 24, 3) := by decide +kernel
theorem dp62_1_94 : decode prog_62_method_1_code 94 = .ok (.putfield 45, 3) := by decide +kernel
theorem lp_20 {Z : State} {a0 : Array Value} (hw : HW Z a0) : LP Z a0 "com/example/reweave/reweave/control/SearchPath" "com/example/reweave/reweave/control/SearchPath" "waiting" "Lcom/example/reweave/reweave/control/SharedValues;" := ⟨(Or.inr (ow hw 249 rfl)), (.object "com/example/reweave/reweave/control/SharedValues"), by decide⟩
theorem dp62_1_97 : decode prog_62_method_1_code 97 = .ok (.aload_n 0, 1) := by decide +kernel
theorem dp62_1_98 : decode prog_62_method_1_code 98 = .ok (.iconst 1, 1) := by decide +kernel
theorem dp62_1_99 : decode prog_62_method_1_code 99 = .ok (.putfield 48, 3) := by decide +kernel
theorem lp_21 {Z : State} {a0 : Array Value} (hw : HW Z a0) : LP Z a0 "com/example/reweave/reweave/control/SearchPath" "com/example/reweave/reweave/control/SearchPath" "schedule" "I" := ⟨(Or.inl (ow hw 251 rfl)), .int, by decide⟩
theorem dp62_1_102 : decode prog_62_method_1_code 102 = .ok (.aload_n 0, 1) := by decide +kernel
theorem dp62_1_103 : decode prog_62_method_1_code 103 = .ok (.bipush 64, 2) := by decide +kernel
theorem dp62_1_105 : decode prog_62_method_1_code 105 = .ok (.newarray .int, 2) := by decide +kernel
theorem dp62_1_107 : decode prog_62_method_1_code 107 = .ok (.putfield 52, 3) := by decide +kernel
theorem lp_22 {Z : State} {a0 : Array Value} (hw : HW Z a0) : LP Z a0 "com/example/reweave/reweave/control/SearchPath" "com/example/reweave/reweave/control/SearchPath" "log" "[I" := ⟨(Or.inl (ow hw 253 rfl)), (.array .int), by decide⟩
theorem dp62_1_110 : decode prog_62_method_1_code 110 = .ok (.aload_n 0, 1) := by decide +kernel
theorem dp62_1_111 : decode prog_62_method_1_code 111 = .ok (.new 55, 3) := by decide +kernel
theorem dp62_1_114 : decode prog_62_method_1_code 114 = .ok (.dup, 1) := by decide +kernel
theorem dp62_1_115 : decode prog_62_method_1_code 115 = .ok (.invokespecial 57, 3) := by decide +kernel
theorem dp62_1_118 : decode prog_62_method_1_code 118 = .ok (.putfield 58, 3) := by decide +kernel
theorem lp_23 {Z : State} {a0 : Array Value} (hw : HW Z a0) : LP Z a0 "com/example/reweave/reweave/control/SearchPath" "com/example/reweave/reweave/control/SearchPath" "wholeBlocks" "Ljava/util/List;" := ⟨(Or.inr (ow hw 257 rfl)), (.object "java/util/List"), by decide⟩
theorem dp62_1_121 : decode prog_62_method_1_code 121 = .ok (.aload_n 0, 1) := by decide +kernel
theorem dp62_1_122 : decode prog_62_method_1_code 122 = .ok (.new 29, 3) := by decide +kernel
theorem dp62_1_125 : decode prog_62_method_1_code 125 = .ok (.dup, 1) := by decide +kernel
theorem dp62_1_126 : decode prog_62_method_1_code 126 = .ok (.invokespecial 31, 3) := by decide +kernel
theorem dp62_1_129 : decode prog_62_method_1_code 129 = .ok (.putfield 62, 3) := by decide +kernel
theorem lp_24 {Z : State} {a0 : Array Value} (hw : HW Z a0) : LP Z a0 "com/example/reweave/reweave/control/SearchPath" "com/example/reweave/reweave/control/SearchPath" "tails" "Ljava/util/Map;" := ⟨(Or.inr (ow hw 259 rfl)), (.object "java/util/Map"), by decide⟩
theorem dp62_1_132 : decode prog_62_method_1_code 132 = .ok (.return_, 1) := by decide +kernel
theorem lp_25 {Z : State} {a0 : Array Value} (hw : HW Z a0) : LP Z a0 "com/example/reweave/reweave/control/SearchPath" "com/example/reweave/reweave/control/SearchPath" "size" "I" := ⟨(Or.inl (ow hw 266 rfl)), .int, by decide⟩
theorem lp_26 {Z : State} {a0 : Array Value} (hw : HW Z a0) : LP Z a0 "com/example/reweave/reweave/control/SearchPath" "com/example/reweave/reweave/control/SearchPath" "listRows" "I" := ⟨(Or.inl (ow hw 337 rfl)), .int, by decide⟩
theorem pn_com_example_reweave_reweave_control_SearchPath : plainName "com/example/reweave/reweave/control/SearchPath" = true := by first | (simp [plainName, overriddenIn]; done) | decide +kernel
def Q_sp (Z : State) (ku0 ku1 ku2 ku3 aDef aCac aEmp aMir : Addr) (kDef : ClassId) (cCac : Cell) (a1 : Addr) (h0 : Heap) (n0 : Nat) (v : Option Value) (h : Heap) (L : List Loc) : Prop := ∃ (n1 : Addr) (m1 : Addr) (o1 : Addr) (s1 : Addr) (l1 : Addr) (s2 : Addr) (l2 : Addr) (s3 : Addr) (l3 : Addr) (s4 : Addr) (l4 : Addr) (s5 : Addr) (l5 : Addr) (kn1 : ClassId) (kl1 : ClassId) (km1 : ClassId), v = none ∧ Fr n0 L ∧ Keep h0 h [a1] ∧ Fld Z h a1 "com/example/reweave/reweave/control/SearchPath" "numbers" "[I" (.ref n1) ∧ Fld Z h a1 "com/example/reweave/reweave/control/SearchPath" "more" "[Lcom/example/reweave/reweave/control/SearchPath$More;" (.ref m1) ∧ Fld Z h a1 "com/example/reweave/reweave/control/SearchPath" "lists" "[I" (.ref o1) ∧ Fld Z h a1 "com/example/reweave/reweave/control/SearchPath" "size" "I" (.int 0) ∧ Fld Z h a1 "com/example/reweave/reweave/control/SearchPath" "listRows" "I" (.int 0) ∧ Fld Z h a1 "com/example/reweave/reweave/control/SearchPath" "locations" "Lcom/example/reweave/reweave/control/SharedValues;" (.ref s1) ∧ Fld Z h a1 "com/example/reweave/reweave/control/SearchPath" "runnables" "Lcom/example/reweave/reweave/control/SharedValues;" (.ref s2) ∧ Fld Z h a1 "com/example/reweave/reweave/control/SearchPath" "timeOuts" "Lcom/example/reweave/reweave/control/SharedValues;" (.ref s3) ∧ Fld Z h a1 "com/example/reweave/reweave/control/SearchPath" "options" "Lcom/example/reweave/reweave/control/SharedValues;" (.ref s4) ∧ Fld Z h a1 "com/example/reweave/reweave/control/SearchPath" "waiting" "Lcom/example/reweave/reweave/control/SharedValues;" (.ref s5) ∧ h0.size ≤ n1 ∧ n1 < m1 ∧ m1 < o1 ∧ o1 < s1 ∧ s1 < l1 ∧ l1 < s2 ∧ s2 < l2 ∧ l2 < s3 ∧ s3 < l3 ∧ l3 < s4 ∧ s4 < l4 ∧ l4 < s5 ∧ s5 < l5 ∧ Exa Z h n1 "[I" ∧ Exa Z h m1 "[Lcom/example/reweave/reweave/control/SearchPath$More;" ∧ Exa Z h o1 "[I" ∧ Arv Z h n1 kn1 .int 576 [(.int 0), (.int 0), (.int 0), (.int 0), (.int 0), (.int 0), (.int 0), (.int 0), (.int 0), (.int 0), (.int 0), (.int 0), (.int 0), (.int 0), (.int 0), (.int 0), (.int 0), (.int 0)] (.int 0) ∧ Arv Z h m1 km1 (.object "com/example/reweave/reweave/control/SearchPath$More") (64 : Int32) [.null, .null] .null ∧ Arv Z h o1 kl1 .int 256 [(.int 0), (.int 0), (.int 0), (.int 0), (.int 0), (.int 0), (.int 0), (.int 0)] (.int 0) ∧ Ovr Z km1 "com/example/reweave/reweave/control/SearchPath$More" ∧ Exa Z h s1 "com/example/reweave/reweave/control/SharedValues" ∧ Fld Z h s1 "com/example/reweave/reweave/control/SharedValues" "values" "Ljava/util/List;" (.ref l1) ∧ Fld Z h s1 "com/example/reweave/reweave/control/SharedValues" "last" "Ljava/lang/Object;" .null ∧ Exa Z h l1 "java/util/ArrayList" ∧ Fld Z h l1 "java/util/AbstractList" "modCount" "I" (.int 0) ∧ Fld Z h l1 "java/util/ArrayList" "elementData" "[Ljava/lang/Object;" (.ref aDef) ∧ Fld Z h l1 "java/util/ArrayList" "size" "I" (.int 0) ∧ Exa Z h s2 "com/example/reweave/reweave/control/SharedValues" ∧ Fld Z h s2 "com/example/reweave/reweave/control/SharedValues" "values" "Ljava/util/List;" (.ref l2) ∧ Fld Z h s2 "com/example/reweave/reweave/control/SharedValues" "last" "Ljava/lang/Object;" .null ∧ Exa Z h l2 "java/util/ArrayList" ∧ Fld Z h l2 "java/util/AbstractList" "modCount" "I" (.int 0) ∧ Fld Z h l2 "java/util/ArrayList" "elementData" "[Ljava/lang/Object;" (.ref aDef) ∧ Fld Z h l2 "java/util/ArrayList" "size" "I" (.int 0) ∧ Exa Z h s3 "com/example/reweave/reweave/control/SharedValues" ∧ Fld Z h s3 "com/example/reweave/reweave/control/SharedValues" "values" "Ljava/util/List;" (.ref l3) ∧ Fld Z h s3 "com/example/reweave/reweave/control/SharedValues" "last" "Ljava/lang/Object;" .null ∧ Exa Z h l3 "java/util/ArrayList" ∧ Fld Z h l3 "java/util/AbstractList" "modCount" "I" (.int 0) ∧ Fld Z h l3 "java/util/ArrayList" "elementData" "[Ljava/lang/Object;" (.ref aDef) ∧ Fld Z h l3 "java/util/ArrayList" "size" "I" (.int 0) ∧ Exa Z h s4 "com/example/reweave/reweave/control/SharedValues" ∧ Fld Z h s4 "com/example/reweave/reweave/control/SharedValues" "values" "Ljava/util/List;" (.ref l4) ∧ Fld Z h s4 "com/example/reweave/reweave/control/SharedValues" "last" "Ljava/lang/Object;" .null ∧ Exa Z h l4 "java/util/ArrayList" ∧ Fld Z h l4 "java/util/AbstractList" "modCount" "I" (.int 0) ∧ Fld Z h l4 "java/util/ArrayList" "elementData" "[Ljava/lang/Object;" (.ref aDef) ∧ Fld Z h l4 "java/util/ArrayList" "size" "I" (.int 0) ∧ Exa Z h s5 "com/example/reweave/reweave/control/SharedValues" ∧ Fld Z h s5 "com/example/reweave/reweave/control/SharedValues" "values" "Ljava/util/List;" (.ref l5) ∧ Fld Z h s5 "com/example/reweave/reweave/control/SharedValues" "last" "Ljava/lang/Object;" .null ∧ Exa Z h l5 "java/util/ArrayList" ∧ Fld Z h l5 "java/util/AbstractList" "modCount" "I" (.int 0) ∧ Fld Z h l5 "java/util/ArrayList" "elementData" "[Ljava/lang/Object;" (.ref aDef) ∧ Fld Z h l5 "java/util/ArrayList" "size" "I" (.int 0)
theorem ef_sp (m : MethodId) (x0 : Addr) : entryFrame m #[(.ref x0)] 1 = mkF m 0 #[vr x0] [] := by first | (simp [entryFrame, mkF, argsToLocals, Value.category]; done) | rfl
theorem rm_sp (l : Launch) (Z : State) (a0 : Array Value) (hw : HW Z a0) (ws : List Jvm.Cond) (ku0 ku1 ku2 ku3 aDef aCac aEmp aMir : Addr) (kDef : ClassId) (cCac : Cell) (F0 : OwnFacts Z ku0 ku1 ku2 ku3 aDef aCac aEmp aMir kDef cCac) (a1 : Addr) (h0 : Heap) (n0 : Nat) (O0 : Old Z n0 h0) (PQ99 : Exa Z h0 a1 "com/example/reweave/reweave/control/SearchPath") (PQ100 : n0 ≤ a1) (PQ101 : Fld Z h0 a1 "com/example/reweave/reweave/control/SearchPath" "numbers" "[I" .null) (PQ102 : Fld Z h0 a1 "com/example/reweave/reweave/control/SearchPath" "more" "[Lcom/example/reweave/reweave/control/SearchPath$More;" .null) (PQ103 : Fld Z h0 a1 "com/example/reweave/reweave/control/SearchPath" "lists" "[I" .null) (PQ104 : Fld Z h0 a1 "com/example/reweave/reweave/control/SearchPath" "locations" "Lcom/example/reweave/reweave/control/SharedValues;" .null) (PQ105 : Fld Z h0 a1 "com/example/reweave/reweave/control/SearchPath" "notifies" "Ljava/util/Map;" .null) (PQ106 : Fld Z h0 a1 "com/example/reweave/reweave/control/SearchPath" "runnables" "Lcom/example/reweave/reweave/control/SharedValues;" .null) (PQ107 : Fld Z h0 a1 "com/example/reweave/reweave/control/SearchPath" "timeOuts" "Lcom/example/reweave/reweave/control/SharedValues;" .null) (PQ108 : Fld Z h0 a1 "com/example/reweave/reweave/control/SearchPath" "options" "Lcom/example/reweave/reweave/control/SharedValues;" .null) (PQ109 : Fld Z h0 a1 "com/example/reweave/reweave/control/SearchPath" "waiting" "Lcom/example/reweave/reweave/control/SharedValues;" .null) (PQ110 : Fld Z h0 a1 "com/example/reweave/reweave/control/SearchPath" "schedule" "I" (.int 0)) (PQ111 : Fld Z h0 a1 "com/example/reweave/reweave/control/SearchPath" "log" "[I" .null) (PQ112 : Fld Z h0 a1 "com/example/reweave/reweave/control/SearchPath" "wholeBlocks" "Ljava/util/List;" .null) (PQ113 : Fld Z h0 a1 "com/example/reweave/reweave/control/SearchPath" "tails" "Ljava/util/Map;" .null) (PQ114 : Fld Z h0 a1 "com/example/reweave/reweave/control/SearchPath" "size" "I" (.int 0)) (PQ115 : Fld Z h0 a1 "com/example/reweave/reweave/control/SearchPath" "listRows" "I" (.int 0)) :
    MetFree l mn8 (head1 (Jvm.Cond.code mn8 prog_62_method_1_code 1 none :: ws) (rk 5 17 1004 64)) (fun a U => a = #[(.ref a1)] ∧ Z.Warmed39 U.vm ∧ U.heap = h0) (fun _ _ _ _ _ => True) (fun _ U o U' => ∃ v L, o = .returned v ∧ Q_sp Z ku0 ku1 ku2 ku3 aDef aCac aEmp aMir kDef cCac a1 h0 n0 v U'.heap L ∧ FrameEnd U o U' L (rk 5 17 1004 64).cells (rk 5 17 1004 64).slots) := by
  refine MetFree.of_bodySF (plainFor_of_name pn_com_example_reweave_reweave_control_SearchPath) hisR ?_
  intro p e s m args below meth c s₁ Bd hml0 hP hK
  obtain ⟨rfl, hZ, hh⟩ := hP
  have hx := Bd.exec
  have hby := Bd.bytes
  have hml : c.maxLocals = 1 := hml0
  have hown : s.vm.findClass "com/example/reweave/reweave/control/SearchPath" = some m.cls := findClass_of_methodNamed Bd.named
  have hnm := (name_of_methodNamed Bd.named Bd.method).1
  have X0 : Stand p l e (rk 5 17 1004 64) s m #[(.ref a1)] below meth c s₁ [] 0 0 := Stand.of_body Bd
  have e0 : s₁.heap = h0 := by rw [← hh, Bd.state]; rfl
  have N0 := Fr.nil n0
  refine og (Q := fun o U' => ∃ v L, o = .returned v ∧ Q_sp Z ku0 ku1 ku2 ku3 aDef aCac aEmp aMir kDef cCac a1 h0 n0 v U'.heap L ∧ FrameEnd s o U' L (rk 5 17 1004 64).cells (rk 5 17 1004 64).slots) (fun t k => castTop (ef_sp m a1) k) ?_
  show OG p e below _ s₁ m 0 #[vr a1] []
  refine qa X0.here hx hby dp62_1_0 rfl rfl ?_
  obtain ⟨T239, X239, e239, st239⟩ := initO X0 hx hZ hown (ow hw 201 rfl) (ow hw 19 rfl) (ow hw 20 rfl) e0 (g := (mkF m 1 #[vr a1] [(.ref a1)])) rfl (by rw [hml]; rfl) rfl (hb hby dp62_1_1) (by decide) (W := 0) (by show 2 * 0 + _ ≤ _; exact Nat.le_of_eq rfl) (by decide)
  refine og st239 ?_
  show OG p e below _ T239 m 4 #[vr a1] []
  refine qa X239.here hx hby dp62_1_4 rfl rfl ?_
  refine qs X239.here hx hby dp62_1_5 ?_
  obtain ⟨T240, h240, k240, X240, e240, E240, A240, U240, st240⟩ := newPE X239 hx hZ (ow hw 202 rfl) e239 (g := (mkF m 8 #[vr a1] [(.int 576), (.ref a1)])) rfl (hb hby dp62_1_8) rfl (by decide) (cap := 576) (by decide) (by decide) (by decide) (by decide) (ad := "[I") (by decide)
  obtain ⟨a240, g240⟩ : ∃ z, z = h0.size := ⟨_, rfl⟩
  rw [← g240] at A240 U240 st240
  have ge240 : n0 ≤ a240 := Nat.le_trans (own_sz O0) (Nat.le_of_eq g240.symm)
  have gh240 : h0.size ≤ a240 := Nat.le_trans (Nat.le_refl _) (Nat.le_of_eq g240.symm)
  have lo240 : a1 < a240 := Nat.lt_of_lt_of_eq PQ99.lt g240.symm
  have O240 := O0.ext E240
  have z241 := Nat.le_trans (Nat.le_refl _) E240.1
  have V240 : Arv Z h240 a240 k240 .int 576 [(.int 0), (.int 0), (.int 0), (.int 0), (.int 0), (.int 0), (.int 0), (.int 0), (.int 0), (.int 0), (.int 0), (.int 0), (.int 0), (.int 0), (.int 0), (.int 0), (.int 0), (.int 0)] (.int 0) := (Arv.new A240 (by decide)).pad (pad_rep [] _ 18)
  refine og st240 ?_
  show OG p e below _ T240 m 10 #[vr a1] [(.ref a240), (.ref a1)]
  have F243 := (PQ101.ext E240)
  have F244 := (PQ99.ext E240)
  obtain ⟨T242, h242, X242, e242, W242, st242⟩ := putF X240 hx hZ hown (host := "") (Or.inl (ow hw 203 rfl)) Via.refl e240 F243 F244 (Or.inl (ow hw 204 rfl)) (ow hw 196 rfl) (ty := (.array .int)) (by decide) rfl rfl (g := (mkF m 10 #[vr a1] [(.ref a240), (.ref a1)])) rfl rfl (hb hby dp62_1_10)
  obtain ⟨L242, X242, N242⟩ := pk X242 (Fr.snoc X242 N0 PQ100)
  have O242 := O240.wr W242 PQ100
  have z245 := Nat.le_trans z241 (Nat.le_of_eq W242.size.symm)
  have F242 : Fld Z h242 a1 "com/example/reweave/reweave/control/SearchPath" "numbers" "[I" (.ref a240) := F243.same W242
  refine og st242 ?_
  show OG p e below _ T242 m 13 #[vr a1] []
  refine qa X242.here hx hby dp62_1_13 rfl rfl ?_
  refine qp X242.here hx hby dp62_1_14 ?_
  obtain ⟨T246, h246, k246, X246, e246, E246, A246, U246, B246, st246⟩ := newRE X242 hx hZ hown (ow hw 205 rfl) (ow hw 206 rfl) e242 (g := (mkF m 16 #[vr a1] [(.int 64), (.ref a1)])) rfl (hb hby dp62_1_16) rfl (by decide) (cap := 64) (by decide) (by decide) (by decide) (by decide) (ad := "[Lcom/example/reweave/reweave/control/SearchPath$More;") (by decide)
  have F247 := (U240.wr W242)
  obtain ⟨a246, g246⟩ : ∃ z, z = h242.size := ⟨_, rfl⟩
  rw [← g246] at A246 U246 st246
  have ge246 : n0 ≤ a246 := Nat.le_trans (own_sz O242) (Nat.le_of_eq g246.symm)
  have gh246 : h0.size ≤ a246 := Nat.le_trans z245 (Nat.le_of_eq g246.symm)
  have lo246 : a240 < a246 := Nat.lt_of_lt_of_eq F247.lt g246.symm
  have O246 := O242.ext E246
  have z248 := Nat.le_trans z245 E246.1
  have V246 : Arv Z h246 a246 k246 (.object "com/example/reweave/reweave/control/SearchPath$More") (64 : Int32) [.null, .null] .null := (Arv.new A246 (by decide)).pad (pad_rep [] _ 2)
  refine og st246 ?_
  show OG p e below _ T246 m 19 #[vr a1] [(.ref a246), (.ref a1)]
  have F250 := ((oo W242 (PQ102.ext E240) (lp_12 hw) (lp_13 hw) (by decide)).ext E246)
  have kg251 := (((Keep.refl _ [a1]).wr W242 (om 0 rfl)).ext E246)
  have F252 := (F244.keep kg251)
  obtain ⟨T249, h249, X249, e249, W249, st249⟩ := putF X246 hx hZ hown (host := "") (Or.inl (ow hw 207 rfl)) Via.refl e246 F250 F252 (Or.inl (ow hw 208 rfl)) (ow hw 196 rfl) (ty := (.array (.object "com/example/reweave/reweave/control/SearchPath$More"))) (by decide) rfl rfl (g := (mkF m 19 #[vr a1] [(.ref a246), (.ref a1)])) rfl rfl (hb hby dp62_1_19)
  obtain ⟨L249, X249, N249⟩ := pk X249 (Fr.snoc X249 N242 PQ100)
  have O249 := O246.wr W249 PQ100
  have z253 := Nat.le_trans z248 (Nat.le_of_eq W249.size.symm)
  have F249 : Fld Z h249 a1 "com/example/reweave/reweave/control/SearchPath" "more" "[Lcom/example/reweave/reweave/control/SearchPath$More;" (.ref a246) := F250.same W249
  refine og st249 ?_
  show OG p e below _ T249 m 22 #[vr a1] []
  refine qa X249.here hx hby dp62_1_22 rfl rfl ?_
  refine qs X249.here hx hby dp62_1_23 ?_
  obtain ⟨T254, h254, k254, X254, e254, E254, A254, U254, st254⟩ := newPE X249 hx hZ (ow hw 202 rfl) e249 (g := (mkF m 26 #[vr a1] [(.int 256), (.ref a1)])) rfl (hb hby dp62_1_26) rfl (by decide) (cap := 256) (by decide) (by decide) (by decide) (by decide) (ad := "[I") (by decide)
  have F255 := (U246.wr W249)
  obtain ⟨a254, g254⟩ : ∃ z, z = h249.size := ⟨_, rfl⟩
  rw [← g254] at A254 U254 st254
  have ge254 : n0 ≤ a254 := Nat.le_trans (own_sz O249) (Nat.le_of_eq g254.symm)
  have gh254 : h0.size ≤ a254 := Nat.le_trans z253 (Nat.le_of_eq g254.symm)
  have lo254 : a246 < a254 := Nat.lt_of_lt_of_eq F255.lt g254.symm
  have O254 := O249.ext E254
  have z256 := Nat.le_trans z253 E254.1
  have V254 : Arv Z h254 a254 k254 .int 256 [(.int 0), (.int 0), (.int 0), (.int 0), (.int 0), (.int 0), (.int 0), (.int 0)] (.int 0) := (Arv.new A254 (by decide)).pad (pad_rep [] _ 8)
  refine og st254 ?_
  show OG p e below _ T254 m 28 #[vr a1] [(.ref a254), (.ref a1)]
  have F258 := ((oo W249 ((oo W242 (PQ103.ext E240) (lp_14 hw) (lp_13 hw) (by decide)).ext E246) (lp_14 hw) (lp_12 hw) (by decide)).ext E254)
  have kg259 := (((Keep.refl _ [a1]).wr W249 (om 0 rfl)).ext E254)
  have F260 := (F252.keep kg259)
  obtain ⟨T257, h257, X257, e257, W257, st257⟩ := putF X254 hx hZ hown (host := "") (Or.inl (ow hw 209 rfl)) Via.refl e254 F258 F260 (Or.inl (ow hw 210 rfl)) (ow hw 196 rfl) (ty := (.array .int)) (by decide) rfl rfl (g := (mkF m 28 #[vr a1] [(.ref a254), (.ref a1)])) rfl rfl (hb hby dp62_1_28)
  obtain ⟨L257, X257, N257⟩ := pk X257 (Fr.snoc X257 N249 PQ100)
  have O257 := O254.wr W257 PQ100
  have z261 := Nat.le_trans z256 (Nat.le_of_eq W257.size.symm)
  have F257 : Fld Z h257 a1 "com/example/reweave/reweave/control/SearchPath" "lists" "[I" (.ref a254) := F258.same W257
  refine og st257 ?_
  show OG p e below _ T257 m 31 #[vr a1] []
  refine qa X257.here hx hby dp62_1_31 rfl rfl ?_
  obtain ⟨T262, h262, X262, e262, E262, A262, D262, -, st262⟩ := newO X257 hx hZ hown (ow hw 211 rfl) (ow hw 212 rfl) (ow hw 213 rfl) e257 (g := (mkF m 32 #[vr a1] [(.ref a1)])) rfl (hb hby dp62_1_32) (by decide) (by decide)
  have F263 := (U254.wr W257)
  obtain ⟨a262, g262⟩ : ∃ z, z = h257.size := ⟨_, rfl⟩
  rw [← g262] at A262 D262 st262
  have ge262 : n0 ≤ a262 := Nat.le_trans (own_sz O257) (Nat.le_of_eq g262.symm)
  have gh262 : h0.size ≤ a262 := Nat.le_trans z261 (Nat.le_of_eq g262.symm)
  have lo262 : a254 < a262 := Nat.lt_of_lt_of_eq F263.lt g262.symm
  have O262 := O257.ext E262
  have z264 := Nat.le_trans z261 E262.1
  have F265 : Fld Z h262 a262 "com/example/reweave/reweave/control/SharedValues" "values" "Ljava/util/List;" .null := D262 (Or.inr (ow hw 221 rfl)) (ty := (.object "java/util/List")) (by decide)
  have F266 : Fld Z h262 a262 "com/example/reweave/reweave/control/SharedValues" "last" "Ljava/lang/Object;" .null := D262 (Or.inl (ow hw 299 rfl)) (ty := (.object "java/lang/Object")) (by decide)
  refine og st262 ?_
  show OG p e below _ T262 m 35 #[vr a1] [(.ref a262), (.ref a1)]
  refine qd X262.here hx hby dp62_1_35 rfl rfl ?_
  obtain ⟨_, _, ⟨T267, L267, k267, n267⟩, -, X267, ⟨Lc267, hQ267, l267, y267, z267⟩, st267⟩ := X262.specialBack hx (y := mn15) rfl hown (mvT hZ (ow hw 214 rfl)) (mvT hZ (ow hw 215 rfl)) (mvT hZ (ow hw 216 rfl)) (by decide) (backOf (W := 2) (rm_sv l Z a0 hw [] ku0 ku1 ku2 ku3 aDef aCac aEmp aMir kDef cCac F0 a262 h262 n0 O262 A262 ge262 F265 F266) hZ (ow hw 216 rfl) (ow hw 213 rfl) (by decide) (by decide)) (g := (mkF m 36 #[vr a1] [(.ref a262), (.ref a262), (.ref a1)])) rfl (by rw [hml]; rfl) (Steps.refl _) (a := a262) (argsL := []) (rest := [(.ref a262), (.ref a1)]) (lenOf pd___V rfl) rfl (by show 2 * 0 + _ ≤ _; exact Nat.le_of_eq rfl) (hb hby dp62_1_36) (fun _ _ => ⟨rfl, e262, (by decide : 4 + 1 ≤ _), (by decide : 898 + 3 ≤ _)⟩)
  dsimp only [Pt.U, Pt.locs, Pt.cells, Pt.slots] at X267 l267 y267 z267 st267 hQ267
  subst l267 y267 z267
  obtain ⟨r3_267, rfl, Nq267, K267, x267_0, x267_1, x267_2, x267_3, x267_4, x267_5, x267_6⟩ := hQ267
  obtain ⟨L267, X267, N267⟩ := pk X267 (Fr.app N257 Nq267)
  have O267 := O262.keep K267 (allS ge262 all0)
  have e267 : T267.heap = T267.heap := rfl
  have z268 := Nat.le_trans z264 K267.1
  have gex267_2 : n0 ≤ r3_267 := Nat.le_trans (own_sz O262) x267_2
  have ghx267_2 : h0.size ≤ r3_267 := Nat.le_trans z264 x267_2
  have lox267_2 : a262 < r3_267 := Nat.lt_of_lt_of_le A262.lt x267_2
  refine og (fun _ k => st267.trans k) ?_
  show OG p e below _ T267 m 39 #[vr a1] [(.ref a262), (.ref a1)]
  have kg270 := (((Keep.refl _ [a262]).ext E262).trans K267 (aS (om 0 rfl) all0))
  have lt271 := Nat.lt_trans lo240 lo246
  have lt272 := Nat.lt_trans lt271 lo254
  have lt273 := Nat.lt_trans lt272 lo262
  have ni274 := (ninS (Nat.ne_of_lt lt273) nin0)
  have F275 := ((oo W257 ((oo W249 ((oo W242 (PQ104.ext E240) (lp_15 hw) (lp_13 hw) (by decide)).ext E246) (lp_15 hw) (lp_12 hw) (by decide)).ext E254) (lp_15 hw) (lp_14 hw) (by decide)).keep kg270 ni274)
  have kg276 := ((((Keep.refl _ [a1, a262]).wr W257 (om 0 rfl)).ext E262).trans K267 (aS (om 1 rfl) all0))
  have F277 := (F260.keep kg276)
  obtain ⟨T269, h269, X269, e269, W269, st269⟩ := putF X267 hx hZ hown (host := "") (Or.inl (ow hw 222 rfl)) Via.refl e267 F275 F277 (Or.inr ⟨(ow hw 223 rfl), rfl, hnm⟩) (ow hw 196 rfl) (ty := (.object "com/example/reweave/reweave/control/SharedValues")) (by decide) rfl rfl (g := (mkF m 39 #[vr a1] [(.ref a262), (.ref a1)])) rfl rfl (hb hby dp62_1_39)
  obtain ⟨L269, X269, N269⟩ := pk X269 (Fr.snoc X269 N267 PQ100)
  have O269 := O267.wr W269 PQ100
  have z278 := Nat.le_trans z268 (Nat.le_of_eq W269.size.symm)
  have F269 : Fld Z h269 a1 "com/example/reweave/reweave/control/SearchPath" "locations" "Lcom/example/reweave/reweave/control/SharedValues;" (.ref a262) := F275.same W269
  refine og st269 ?_
  show OG p e below _ T269 m 42 #[vr a1] []
  refine qa X269.here hx hby dp62_1_42 rfl rfl ?_
  obtain ⟨T279, h279, X279, e279, E279, A279, D279, -, st279⟩ := newO X269 hx hZ hown (ow hw 224 rfl) (ow hw 225 rfl) (ow hw 226 rfl) e269 (g := (mkF m 43 #[vr a1] [(.ref a1)])) rfl (hb hby dp62_1_43) (by decide) (by decide)
  have F280 := (x267_3.wr W269)
  obtain ⟨a279, g279⟩ : ∃ z, z = h269.size := ⟨_, rfl⟩
  rw [← g279] at A279 D279 st279
  have ge279 : n0 ≤ a279 := Nat.le_trans (own_sz O269) (Nat.le_of_eq g279.symm)
  have gh279 : h0.size ≤ a279 := Nat.le_trans z278 (Nat.le_of_eq g279.symm)
  have lo279 : r3_267 < a279 := Nat.lt_of_lt_of_eq F280.lt g279.symm
  have O279 := O269.ext E279
  have z281 := Nat.le_trans z278 E279.1
  have F282 : Fld Z h279 a279 "java/util/HashMap" "loadFactor" "F" (.float 0) := D279 (Or.inr (ow hw 239 rfl)) (ty := .float) (by decide)
  refine og st279 ?_
  show OG p e below _ T279 m 46 #[vr a1] [(.ref a279), (.ref a1)]
  refine qd X279.here hx hby dp62_1_46 rfl rfl ?_
  obtain ⟨_, _, ⟨T283, L283, k283, n283⟩, -, X283, ⟨Lc283, hQ283, l283, y283, z283⟩, st283⟩ := X279.specialBack hx (y := mn37) rfl hown (mvT hZ (ow hw 227 rfl)) (mvT hZ (ow hw 228 rfl)) (mvT hZ (ow hw 229 rfl)) (by decide) (backOf (W := 2) (rm_hm l Z a0 hw [] ku0 ku1 ku2 ku3 aDef aCac aEmp aMir kDef cCac F0 a279 h279 n0 O279 A279 ge279 F282) hZ (ow hw 229 rfl) (ow hw 226 rfl) (by decide) (by decide)) (g := (mkF m 47 #[vr a1] [(.ref a279), (.ref a279), (.ref a1)])) rfl (by rw [hml]; rfl) (Steps.refl _) (a := a279) (argsL := []) (rest := [(.ref a279), (.ref a1)]) (lenOf pd___V rfl) rfl (by show 2 * 0 + _ ≤ _; exact Nat.le_of_eq rfl) (hb hby dp62_1_47) (fun _ _ => ⟨rfl, e279, (by decide : 6 + 0 ≤ _), (by decide : 909 + 0 ≤ _)⟩)
  dsimp only [Pt.U, Pt.locs, Pt.cells, Pt.slots] at X283 l283 y283 z283 st283 hQ283
  subst l283 y283 z283
  obtain ⟨rfl, Nq283, K283⟩ := hQ283
  obtain ⟨L283, X283, N283⟩ := pk X283 (Fr.app N269 Nq283)
  have O283 := O279.keep K283 (allS ge279 all0)
  have e283 : T283.heap = T283.heap := rfl
  have z284 := Nat.le_trans z281 K283.1
  refine og (fun _ k => st283.trans k) ?_
  show OG p e below _ T283 m 50 #[vr a1] [(.ref a279), (.ref a1)]
  have kg286 := (((Keep.refl _ [a279]).ext E279).trans K283 (aS (om 0 rfl) all0))
  have lt287 := Nat.lt_trans lt273 lox267_2
  have lt288 := Nat.lt_trans lt287 lo279
  have ni289 := (ninS (Nat.ne_of_lt lt288) nin0)
  have F290 := ((oo W269 ((oo W257 ((oo W249 ((oo W242 (PQ105.ext E240) (lp_16 hw) (lp_13 hw) (by decide)).ext E246) (lp_16 hw) (lp_12 hw) (by decide)).ext E254) (lp_16 hw) (lp_14 hw) (by decide)).keep kg270 ni274) (lp_16 hw) (lp_15 hw) (by decide)).keep kg286 ni289)
  have kg291 := ((((Keep.refl _ [a1, a279]).wr W269 (om 0 rfl)).ext E279).trans K283 (aS (om 1 rfl) all0))
  have F292 := (F277.keep kg291)
  obtain ⟨T285, h285, X285, e285, W285, st285⟩ := putF X283 hx hZ hown (host := "") (Or.inl (ow hw 240 rfl)) Via.refl e283 F290 F292 (Or.inr ⟨(ow hw 241 rfl), rfl, hnm⟩) (ow hw 196 rfl) (ty := (.object "java/util/Map")) (by decide) rfl rfl (g := (mkF m 50 #[vr a1] [(.ref a279), (.ref a1)])) rfl rfl (hb hby dp62_1_50)
  obtain ⟨L285, X285, N285⟩ := pk X285 (Fr.snoc X285 N283 PQ100)
  have O285 := O283.wr W285 PQ100
  have z293 := Nat.le_trans z284 (Nat.le_of_eq W285.size.symm)
  have F285 : Fld Z h285 a1 "com/example/reweave/reweave/control/SearchPath" "notifies" "Ljava/util/Map;" (.ref a279) := F290.same W285
  refine og st285 ?_
  show OG p e below _ T285 m 53 #[vr a1] []
  refine qa X285.here hx hby dp62_1_53 rfl rfl ?_
  obtain ⟨T294, h294, X294, e294, E294, A294, D294, -, st294⟩ := newO X285 hx hZ hown (ow hw 211 rfl) (ow hw 212 rfl) (ow hw 213 rfl) e285 (g := (mkF m 54 #[vr a1] [(.ref a1)])) rfl (hb hby dp62_1_54) (by decide) (by decide)
  have kg295 := (((Keep.refl _ [a279, a1]).trans K283 (aS (om 0 rfl) all0)).wr W285 (om 1 rfl))
  have F296 := (A279.keep kg295)
  obtain ⟨a294, g294⟩ : ∃ z, z = h285.size := ⟨_, rfl⟩
  rw [← g294] at A294 D294 st294
  have ge294 : n0 ≤ a294 := Nat.le_trans (own_sz O285) (Nat.le_of_eq g294.symm)
  have gh294 : h0.size ≤ a294 := Nat.le_trans z293 (Nat.le_of_eq g294.symm)
  have lo294 : a279 < a294 := Nat.lt_of_lt_of_eq F296.lt g294.symm
  have O294 := O285.ext E294
  have z297 := Nat.le_trans z293 E294.1
  have F298 : Fld Z h294 a294 "com/example/reweave/reweave/control/SharedValues" "values" "Ljava/util/List;" .null := D294 (Or.inr (ow hw 221 rfl)) (ty := (.object "java/util/List")) (by decide)
  have F299 : Fld Z h294 a294 "com/example/reweave/reweave/control/SharedValues" "last" "Ljava/lang/Object;" .null := D294 (Or.inl (ow hw 299 rfl)) (ty := (.object "java/lang/Object")) (by decide)
  refine og st294 ?_
  show OG p e below _ T294 m 57 #[vr a1] [(.ref a294), (.ref a1)]
  refine qd X294.here hx hby dp62_1_57 rfl rfl ?_
  obtain ⟨_, _, ⟨T300, L300, k300, n300⟩, -, X300, ⟨Lc300, hQ300, l300, y300, z300⟩, st300⟩ := X294.specialBack hx (y := mn15) rfl hown (mvT hZ (ow hw 214 rfl)) (mvT hZ (ow hw 215 rfl)) (mvT hZ (ow hw 216 rfl)) (by decide) (backOf (W := 2) (rm_sv l Z a0 hw [] ku0 ku1 ku2 ku3 aDef aCac aEmp aMir kDef cCac F0 a294 h294 n0 O294 A294 ge294 F298 F299) hZ (ow hw 216 rfl) (ow hw 213 rfl) (by decide) (by decide)) (g := (mkF m 58 #[vr a1] [(.ref a294), (.ref a294), (.ref a1)])) rfl (by rw [hml]; rfl) (Steps.refl _) (a := a294) (argsL := []) (rest := [(.ref a294), (.ref a1)]) (lenOf pd___V rfl) rfl (by show 2 * 0 + _ ≤ _; exact Nat.le_of_eq rfl) (hb hby dp62_1_58) (fun _ _ => ⟨rfl, e294, (by decide : 7 + 1 ≤ _), (by decide : 911 + 3 ≤ _)⟩)
  dsimp only [Pt.U, Pt.locs, Pt.cells, Pt.slots] at X300 l300 y300 z300 st300 hQ300
  subst l300 y300 z300
  obtain ⟨r3_300, rfl, Nq300, K300, x300_0, x300_1, x300_2, x300_3, x300_4, x300_5, x300_6⟩ := hQ300
  obtain ⟨L300, X300, N300⟩ := pk X300 (Fr.app N285 Nq300)
  have O300 := O294.keep K300 (allS ge294 all0)
  have e300 : T300.heap = T300.heap := rfl
  have z301 := Nat.le_trans z297 K300.1
  have gex300_2 : n0 ≤ r3_300 := Nat.le_trans (own_sz O294) x300_2
  have ghx300_2 : h0.size ≤ r3_300 := Nat.le_trans z297 x300_2
  have lox300_2 : a294 < r3_300 := Nat.lt_of_lt_of_le A294.lt x300_2
  refine og (fun _ k => st300.trans k) ?_
  show OG p e below _ T300 m 61 #[vr a1] [(.ref a294), (.ref a1)]
  have kg303 := (((Keep.refl _ [a294]).ext E294).trans K300 (aS (om 0 rfl) all0))
  have lt304 := Nat.lt_trans lt288 lo294
  have ni305 := (ninS (Nat.ne_of_lt lt304) nin0)
  have F306 := ((oo W285 ((oo W269 ((oo W257 ((oo W249 ((oo W242 (PQ106.ext E240) (lp_17 hw) (lp_13 hw) (by decide)).ext E246) (lp_17 hw) (lp_12 hw) (by decide)).ext E254) (lp_17 hw) (lp_14 hw) (by decide)).keep kg270 ni274) (lp_17 hw) (lp_15 hw) (by decide)).keep kg286 ni289) (lp_17 hw) (lp_16 hw) (by decide)).keep kg303 ni305)
  have kg307 := ((((Keep.refl _ [a1, a294]).wr W285 (om 0 rfl)).ext E294).trans K300 (aS (om 1 rfl) all0))
  have F308 := (F292.keep kg307)
  obtain ⟨T302, h302, X302, e302, W302, st302⟩ := putF X300 hx hZ hown (host := "") (Or.inl (ow hw 242 rfl)) Via.refl e300 F306 F308 (Or.inr ⟨(ow hw 243 rfl), rfl, hnm⟩) (ow hw 196 rfl) (ty := (.object "com/example/reweave/reweave/control/SharedValues")) (by decide) rfl rfl (g := (mkF m 61 #[vr a1] [(.ref a294), (.ref a1)])) rfl rfl (hb hby dp62_1_61)
  obtain ⟨L302, X302, N302⟩ := pk X302 (Fr.snoc X302 N300 PQ100)
  have O302 := O300.wr W302 PQ100
  have z309 := Nat.le_trans z301 (Nat.le_of_eq W302.size.symm)
  have F302 : Fld Z h302 a1 "com/example/reweave/reweave/control/SearchPath" "runnables" "Lcom/example/reweave/reweave/control/SharedValues;" (.ref a294) := F306.same W302
  refine og st302 ?_
  show OG p e below _ T302 m 64 #[vr a1] []
  refine qa X302.here hx hby dp62_1_64 rfl rfl ?_
  obtain ⟨T310, h310, X310, e310, E310, A310, D310, -, st310⟩ := newO X302 hx hZ hown (ow hw 211 rfl) (ow hw 212 rfl) (ow hw 213 rfl) e302 (g := (mkF m 65 #[vr a1] [(.ref a1)])) rfl (hb hby dp62_1_65) (by decide) (by decide)
  have F311 := (x300_3.wr W302)
  obtain ⟨a310, g310⟩ : ∃ z, z = h302.size := ⟨_, rfl⟩
  rw [← g310] at A310 D310 st310
  have ge310 : n0 ≤ a310 := Nat.le_trans (own_sz O302) (Nat.le_of_eq g310.symm)
  have gh310 : h0.size ≤ a310 := Nat.le_trans z309 (Nat.le_of_eq g310.symm)
  have lo310 : r3_300 < a310 := Nat.lt_of_lt_of_eq F311.lt g310.symm
  have O310 := O302.ext E310
  have z312 := Nat.le_trans z309 E310.1
  have F313 : Fld Z h310 a310 "com/example/reweave/reweave/control/SharedValues" "values" "Ljava/util/List;" .null := D310 (Or.inr (ow hw 221 rfl)) (ty := (.object "java/util/List")) (by decide)
  have F314 : Fld Z h310 a310 "com/example/reweave/reweave/control/SharedValues" "last" "Ljava/lang/Object;" .null := D310 (Or.inl (ow hw 299 rfl)) (ty := (.object "java/lang/Object")) (by decide)
  refine og st310 ?_
  show OG p e below _ T310 m 68 #[vr a1] [(.ref a310), (.ref a1)]
  refine qd X310.here hx hby dp62_1_68 rfl rfl ?_
  obtain ⟨_, _, ⟨T315, L315, k315, n315⟩, -, X315, ⟨Lc315, hQ315, l315, y315, z315⟩, st315⟩ := X310.specialBack hx (y := mn15) rfl hown (mvT hZ (ow hw 214 rfl)) (mvT hZ (ow hw 215 rfl)) (mvT hZ (ow hw 216 rfl)) (by decide) (backOf (W := 2) (rm_sv l Z a0 hw [] ku0 ku1 ku2 ku3 aDef aCac aEmp aMir kDef cCac F0 a310 h310 n0 O310 A310 ge310 F313 F314) hZ (ow hw 216 rfl) (ow hw 213 rfl) (by decide) (by decide)) (g := (mkF m 69 #[vr a1] [(.ref a310), (.ref a310), (.ref a1)])) rfl (by rw [hml]; rfl) (Steps.refl _) (a := a310) (argsL := []) (rest := [(.ref a310), (.ref a1)]) (lenOf pd___V rfl) rfl (by show 2 * 0 + _ ≤ _; exact Nat.le_of_eq rfl) (hb hby dp62_1_69) (fun _ _ => ⟨rfl, e310, (by decide : 9 + 1 ≤ _), (by decide : 916 + 3 ≤ _)⟩)
  dsimp only [Pt.U, Pt.locs, Pt.cells, Pt.slots] at X315 l315 y315 z315 st315 hQ315
  subst l315 y315 z315
  obtain ⟨r3_315, rfl, Nq315, K315, x315_0, x315_1, x315_2, x315_3, x315_4, x315_5, x315_6⟩ := hQ315
  obtain ⟨L315, X315, N315⟩ := pk X315 (Fr.app N302 Nq315)
  have O315 := O310.keep K315 (allS ge310 all0)
  have e315 : T315.heap = T315.heap := rfl
  have z316 := Nat.le_trans z312 K315.1
  have gex315_2 : n0 ≤ r3_315 := Nat.le_trans (own_sz O310) x315_2
  have ghx315_2 : h0.size ≤ r3_315 := Nat.le_trans z312 x315_2
  have lox315_2 : a310 < r3_315 := Nat.lt_of_lt_of_le A310.lt x315_2
  refine og (fun _ k => st315.trans k) ?_
  show OG p e below _ T315 m 72 #[vr a1] [(.ref a310), (.ref a1)]
  have kg318 := (((Keep.refl _ [a310]).ext E310).trans K315 (aS (om 0 rfl) all0))
  have lt319 := Nat.lt_trans lt304 lox300_2
  have lt320 := Nat.lt_trans lt319 lo310
  have ni321 := (ninS (Nat.ne_of_lt lt320) nin0)
  have F322 := ((oo W302 ((oo W285 ((oo W269 ((oo W257 ((oo W249 ((oo W242 (PQ107.ext E240) (lp_18 hw) (lp_13 hw) (by decide)).ext E246) (lp_18 hw) (lp_12 hw) (by decide)).ext E254) (lp_18 hw) (lp_14 hw) (by decide)).keep kg270 ni274) (lp_18 hw) (lp_15 hw) (by decide)).keep kg286 ni289) (lp_18 hw) (lp_16 hw) (by decide)).keep kg303 ni305) (lp_18 hw) (lp_17 hw) (by decide)).keep kg318 ni321)
  have kg323 := ((((Keep.refl _ [a1, a310]).wr W302 (om 0 rfl)).ext E310).trans K315 (aS (om 1 rfl) all0))
  have F324 := (F308.keep kg323)
  obtain ⟨T317, h317, X317, e317, W317, st317⟩ := putF X315 hx hZ hown (host := "") (Or.inl (ow hw 244 rfl)) Via.refl e315 F322 F324 (Or.inr ⟨(ow hw 245 rfl), rfl, hnm⟩) (ow hw 196 rfl) (ty := (.object "com/example/reweave/reweave/control/SharedValues")) (by decide) rfl rfl (g := (mkF m 72 #[vr a1] [(.ref a310), (.ref a1)])) rfl rfl (hb hby dp62_1_72)
  obtain ⟨L317, X317, N317⟩ := pk X317 (Fr.snoc X317 N315 PQ100)
  have O317 := O315.wr W317 PQ100
  have z325 := Nat.le_trans z316 (Nat.le_of_eq W317.size.symm)
  have F317 : Fld Z h317 a1 "com/example/reweave/reweave/control/SearchPath" "timeOuts" "Lcom/example/reweave/reweave/control/SharedValues;" (.ref a310) := F322.same W317
  refine og st317 ?_
  show OG p e below _ T317 m 75 #[vr a1] []
  refine qa X317.here hx hby dp62_1_75 rfl rfl ?_
  obtain ⟨T326, h326, X326, e326, E326, A326, D326, -, st326⟩ := newO X317 hx hZ hown (ow hw 211 rfl) (ow hw 212 rfl) (ow hw 213 rfl) e317 (g := (mkF m 76 #[vr a1] [(.ref a1)])) rfl (hb hby dp62_1_76) (by decide) (by decide)
  have F327 := (x315_3.wr W317)
  obtain ⟨a326, g326⟩ : ∃ z, z = h317.size := ⟨_, rfl⟩
  rw [← g326] at A326 D326 st326
  have ge326 : n0 ≤ a326 := Nat.le_trans (own_sz O317) (Nat.le_of_eq g326.symm)
  have gh326 : h0.size ≤ a326 := Nat.le_trans z325 (Nat.le_of_eq g326.symm)
  have lo326 : r3_315 < a326 := Nat.lt_of_lt_of_eq F327.lt g326.symm
  have O326 := O317.ext E326
  have z328 := Nat.le_trans z325 E326.1
  have F329 : Fld Z h326 a326 "com/example/reweave/reweave/control/SharedValues" "values" "Ljava/util/List;" .null := D326 (Or.inr (ow hw 221 rfl)) (ty := (.object "java/util/List")) (by decide)
  have F330 : Fld Z h326 a326 "com/example/reweave/reweave/control/SharedValues" "last" "Ljava/lang/Object;" .null := D326 (Or.inl (ow hw 299 rfl)) (ty := (.object "java/lang/Object")) (by decide)
  refine og st326 ?_
  show OG p e below _ T326 m 79 #[vr a1] [(.ref a326), (.ref a1)]
  refine qd X326.here hx hby dp62_1_79 rfl rfl ?_
  obtain ⟨_, _, ⟨T331, L331, k331, n331⟩, -, X331, ⟨Lc331, hQ331, l331, y331, z331⟩, st331⟩ := X326.specialBack hx (y := mn15) rfl hown (mvT hZ (ow hw 214 rfl)) (mvT hZ (ow hw 215 rfl)) (mvT hZ (ow hw 216 rfl)) (by decide) (backOf (W := 2) (rm_sv l Z a0 hw [] ku0 ku1 ku2 ku3 aDef aCac aEmp aMir kDef cCac F0 a326 h326 n0 O326 A326 ge326 F329 F330) hZ (ow hw 216 rfl) (ow hw 213 rfl) (by decide) (by decide)) (g := (mkF m 80 #[vr a1] [(.ref a326), (.ref a326), (.ref a1)])) rfl (by rw [hml]; rfl) (Steps.refl _) (a := a326) (argsL := []) (rest := [(.ref a326), (.ref a1)]) (lenOf pd___V rfl) rfl (by show 2 * 0 + _ ≤ _; exact Nat.le_of_eq rfl) (hb hby dp62_1_80) (fun _ _ => ⟨rfl, e326, (by decide : 11 + 1 ≤ _), (by decide : 921 + 3 ≤ _)⟩)
  dsimp only [Pt.U, Pt.locs, Pt.cells, Pt.slots] at X331 l331 y331 z331 st331 hQ331
  subst l331 y331 z331
  obtain ⟨r3_331, rfl, Nq331, K331, x331_0, x331_1, x331_2, x331_3, x331_4, x331_5, x331_6⟩ := hQ331
  obtain ⟨L331, X331, N331⟩ := pk X331 (Fr.app N317 Nq331)
  have O331 := O326.keep K331 (allS ge326 all0)
  have e331 : T331.heap = T331.heap := rfl
  have z332 := Nat.le_trans z328 K331.1
  have gex331_2 : n0 ≤ r3_331 := Nat.le_trans (own_sz O326) x331_2
  have ghx331_2 : h0.size ≤ r3_331 := Nat.le_trans z328 x331_2
  have lox331_2 : a326 < r3_331 := Nat.lt_of_lt_of_le A326.lt x331_2
  refine og (fun _ k => st331.trans k) ?_
  show OG p e below _ T331 m 83 #[vr a1] [(.ref a326), (.ref a1)]
  have kg334 := (((Keep.refl _ [a326]).ext E326).trans K331 (aS (om 0 rfl) all0))
  have lt335 := Nat.lt_trans lt320 lox315_2
  have lt336 := Nat.lt_trans lt335 lo326
  have ni337 := (ninS (Nat.ne_of_lt lt336) nin0)
  have F338 := ((oo W317 ((oo W302 ((oo W285 ((oo W269 ((oo W257 ((oo W249 ((oo W242 (PQ108.ext E240) (lp_19 hw) (lp_13 hw) (by decide)).ext E246) (lp_19 hw) (lp_12 hw) (by decide)).ext E254) (lp_19 hw) (lp_14 hw) (by decide)).keep kg270 ni274) (lp_19 hw) (lp_15 hw) (by decide)).keep kg286 ni289) (lp_19 hw) (lp_16 hw) (by decide)).keep kg303 ni305) (lp_19 hw) (lp_17 hw) (by decide)).keep kg318 ni321) (lp_19 hw) (lp_18 hw) (by decide)).keep kg334 ni337)
  have kg339 := ((((Keep.refl _ [a1, a326]).wr W317 (om 0 rfl)).ext E326).trans K331 (aS (om 1 rfl) all0))
  have F340 := (F324.keep kg339)
  obtain ⟨T333, h333, X333, e333, W333, st333⟩ := putF X331 hx hZ hown (host := "") (Or.inl (ow hw 246 rfl)) Via.refl e331 F338 F340 (Or.inr ⟨(ow hw 247 rfl), rfl, hnm⟩) (ow hw 196 rfl) (ty := (.object "com/example/reweave/reweave/control/SharedValues")) (by decide) rfl rfl (g := (mkF m 83 #[vr a1] [(.ref a326), (.ref a1)])) rfl rfl (hb hby dp62_1_83)
  obtain ⟨L333, X333, N333⟩ := pk X333 (Fr.snoc X333 N331 PQ100)
  have O333 := O331.wr W333 PQ100
  have z341 := Nat.le_trans z332 (Nat.le_of_eq W333.size.symm)
  have F333 : Fld Z h333 a1 "com/example/reweave/reweave/control/SearchPath" "options" "Lcom/example/reweave/reweave/control/SharedValues;" (.ref a326) := F338.same W333
  refine og st333 ?_
  show OG p e below _ T333 m 86 #[vr a1] []
  refine qa X333.here hx hby dp62_1_86 rfl rfl ?_
  obtain ⟨T342, h342, X342, e342, E342, A342, D342, -, st342⟩ := newO X333 hx hZ hown (ow hw 211 rfl) (ow hw 212 rfl) (ow hw 213 rfl) e333 (g := (mkF m 87 #[vr a1] [(.ref a1)])) rfl (hb hby dp62_1_87) (by decide) (by decide)
  have F343 := (x331_3.wr W333)
  obtain ⟨a342, g342⟩ : ∃ z, z = h333.size := ⟨_, rfl⟩
  rw [← g342] at A342 D342 st342
  have ge342 : n0 ≤ a342 := Nat.le_trans (own_sz O333) (Nat.le_of_eq g342.symm)
  have gh342 : h0.size ≤ a342 := Nat.le_trans z341 (Nat.le_of_eq g342.symm)
  have lo342 : r3_331 < a342 := Nat.lt_of_lt_of_eq F343.lt g342.symm
  have O342 := O333.ext E342
  have z344 := Nat.le_trans z341 E342.1
  have F345 : Fld Z h342 a342 "com/example/reweave/reweave/control/SharedValues" "values" "Ljava/util/List;" .null := D342 (Or.inr (ow hw 221 rfl)) (ty := (.object "java/util/List")) (by decide)
  have F346 : Fld Z h342 a342 "com/example/reweave/reweave/control/SharedValues" "last" "Ljava/lang/Object;" .null := D342 (Or.inl (ow hw 299 rfl)) (ty := (.object "java/lang/Object")) (by decide)
  refine og st342 ?_
  show OG p e below _ T342 m 90 #[vr a1] [(.ref a342), (.ref a1)]
  refine qd X342.here hx hby dp62_1_90 rfl rfl ?_
  obtain ⟨_, _, ⟨T347, L347, k347, n347⟩, -, X347, ⟨Lc347, hQ347, l347, y347, z347⟩, st347⟩ := X342.specialBack hx (y := mn15) rfl hown (mvT hZ (ow hw 214 rfl)) (mvT hZ (ow hw 215 rfl)) (mvT hZ (ow hw 216 rfl)) (by decide) (backOf (W := 2) (rm_sv l Z a0 hw [] ku0 ku1 ku2 ku3 aDef aCac aEmp aMir kDef cCac F0 a342 h342 n0 O342 A342 ge342 F345 F346) hZ (ow hw 216 rfl) (ow hw 213 rfl) (by decide) (by decide)) (g := (mkF m 91 #[vr a1] [(.ref a342), (.ref a342), (.ref a1)])) rfl (by rw [hml]; rfl) (Steps.refl _) (a := a342) (argsL := []) (rest := [(.ref a342), (.ref a1)]) (lenOf pd___V rfl) rfl (by show 2 * 0 + _ ≤ _; exact Nat.le_of_eq rfl) (hb hby dp62_1_91) (fun _ _ => ⟨rfl, e342, (by decide : 13 + 1 ≤ _), (by decide : 926 + 3 ≤ _)⟩)
  dsimp only [Pt.U, Pt.locs, Pt.cells, Pt.slots] at X347 l347 y347 z347 st347 hQ347
  subst l347 y347 z347
  obtain ⟨r3_347, rfl, Nq347, K347, x347_0, x347_1, x347_2, x347_3, x347_4, x347_5, x347_6⟩ := hQ347
  obtain ⟨L347, X347, N347⟩ := pk X347 (Fr.app N333 Nq347)
  have O347 := O342.keep K347 (allS ge342 all0)
  have e347 : T347.heap = T347.heap := rfl
  have z348 := Nat.le_trans z344 K347.1
  have gex347_2 : n0 ≤ r3_347 := Nat.le_trans (own_sz O342) x347_2
  have ghx347_2 : h0.size ≤ r3_347 := Nat.le_trans z344 x347_2
  have lox347_2 : a342 < r3_347 := Nat.lt_of_lt_of_le A342.lt x347_2
  refine og (fun _ k => st347.trans k) ?_
  show OG p e below _ T347 m 94 #[vr a1] [(.ref a342), (.ref a1)]
  have kg350 := (((Keep.refl _ [a342]).ext E342).trans K347 (aS (om 0 rfl) all0))
  have lt351 := Nat.lt_trans lt336 lox331_2
  have lt352 := Nat.lt_trans lt351 lo342
  have ni353 := (ninS (Nat.ne_of_lt lt352) nin0)
  have F354 := ((oo W333 ((oo W317 ((oo W302 ((oo W285 ((oo W269 ((oo W257 ((oo W249 ((oo W242 (PQ109.ext E240) (lp_20 hw) (lp_13 hw) (by decide)).ext E246) (lp_20 hw) (lp_12 hw) (by decide)).ext E254) (lp_20 hw) (lp_14 hw) (by decide)).keep kg270 ni274) (lp_20 hw) (lp_15 hw) (by decide)).keep kg286 ni289) (lp_20 hw) (lp_16 hw) (by decide)).keep kg303 ni305) (lp_20 hw) (lp_17 hw) (by decide)).keep kg318 ni321) (lp_20 hw) (lp_18 hw) (by decide)).keep kg334 ni337) (lp_20 hw) (lp_19 hw) (by decide)).keep kg350 ni353)
  have kg355 := ((((Keep.refl _ [a1, a342]).wr W333 (om 0 rfl)).ext E342).trans K347 (aS (om 1 rfl) all0))
  have F356 := (F340.keep kg355)
  obtain ⟨T349, h349, X349, e349, W349, st349⟩ := putF X347 hx hZ hown (host := "") (Or.inl (ow hw 248 rfl)) Via.refl e347 F354 F356 (Or.inr ⟨(ow hw 249 rfl), rfl, hnm⟩) (ow hw 196 rfl) (ty := (.object "com/example/reweave/reweave/control/SharedValues")) (by decide) rfl rfl (g := (mkF m 94 #[vr a1] [(.ref a342), (.ref a1)])) rfl rfl (hb hby dp62_1_94)
  obtain ⟨L349, X349, N349⟩ := pk X349 (Fr.snoc X349 N347 PQ100)
  have O349 := O347.wr W349 PQ100
  have z357 := Nat.le_trans z348 (Nat.le_of_eq W349.size.symm)
  have F349 : Fld Z h349 a1 "com/example/reweave/reweave/control/SearchPath" "waiting" "Lcom/example/reweave/reweave/control/SharedValues;" (.ref a342) := F354.same W349
  refine og st349 ?_
  show OG p e below _ T349 m 97 #[vr a1] []
  refine qa X349.here hx hby dp62_1_97 rfl rfl ?_
  refine qc X349.here hx hby dp62_1_98 ?_
  have F359 := (oo W349 ((oo W333 ((oo W317 ((oo W302 ((oo W285 ((oo W269 ((oo W257 ((oo W249 ((oo W242 (PQ110.ext E240) (lp_21 hw) (lp_13 hw) (by decide)).ext E246) (lp_21 hw) (lp_12 hw) (by decide)).ext E254) (lp_21 hw) (lp_14 hw) (by decide)).keep kg270 ni274) (lp_21 hw) (lp_15 hw) (by decide)).keep kg286 ni289) (lp_21 hw) (lp_16 hw) (by decide)).keep kg303 ni305) (lp_21 hw) (lp_17 hw) (by decide)).keep kg318 ni321) (lp_21 hw) (lp_18 hw) (by decide)).keep kg334 ni337) (lp_21 hw) (lp_19 hw) (by decide)).keep kg350 ni353) (lp_21 hw) (lp_20 hw) (by decide))
  have F360 := (F356.wr W349)
  obtain ⟨T358, h358, X358, e358, W358, st358⟩ := putF X349 hx hZ hown (host := "") (Or.inl (ow hw 250 rfl)) Via.refl e349 F359 F360 (Or.inl (ow hw 251 rfl)) (ow hw 196 rfl) (ty := .int) (by decide) rfl rfl (g := (mkF m 99 #[vr a1] [(.int 1), (.ref a1)])) rfl rfl (hb hby dp62_1_99)
  obtain ⟨L358, X358, N358⟩ := pk X358 (Fr.snoc X358 N349 PQ100)
  have O358 := O349.wr W358 PQ100
  have z361 := Nat.le_trans z357 (Nat.le_of_eq W358.size.symm)
  have F358 : Fld Z h358 a1 "com/example/reweave/reweave/control/SearchPath" "schedule" "I" (.int 1) := F359.same W358
  refine og st358 ?_
  show OG p e below _ T358 m 102 #[vr a1] []
  refine qa X358.here hx hby dp62_1_102 rfl rfl ?_
  refine qp X358.here hx hby dp62_1_103 ?_
  obtain ⟨T362, h362, k362, X362, e362, E362, A362, U362, st362⟩ := newPE X358 hx hZ (ow hw 202 rfl) e358 (g := (mkF m 105 #[vr a1] [(.int 64), (.ref a1)])) rfl (hb hby dp62_1_105) rfl (by decide) (cap := 64) (by decide) (by decide) (by decide) (by decide) (ad := "[I") (by decide)
  have kg363 := (((Keep.refl _ [a1]).wr W349 (om 0 rfl)).wr W358 (om 0 rfl))
  have F364 := (x347_3.keep kg363)
  obtain ⟨a362, g362⟩ : ∃ z, z = h358.size := ⟨_, rfl⟩
  rw [← g362] at A362 U362 st362
  have ge362 : n0 ≤ a362 := Nat.le_trans (own_sz O358) (Nat.le_of_eq g362.symm)
  have gh362 : h0.size ≤ a362 := Nat.le_trans z361 (Nat.le_of_eq g362.symm)
  have lo362 : r3_347 < a362 := Nat.lt_of_lt_of_eq F364.lt g362.symm
  have O362 := O358.ext E362
  have z365 := Nat.le_trans z361 E362.1
  have V362 : Arv Z h362 a362 k362 .int 64 [] (.int 0) := (Arv.new A362 (by decide)).pad (pad_rep [] _ 0)
  refine og st362 ?_
  show OG p e below _ T362 m 107 #[vr a1] [(.ref a362), (.ref a1)]
  have F367 := ((oo W358 (oo W349 ((oo W333 ((oo W317 ((oo W302 ((oo W285 ((oo W269 ((oo W257 ((oo W249 ((oo W242 (PQ111.ext E240) (lp_22 hw) (lp_13 hw) (by decide)).ext E246) (lp_22 hw) (lp_12 hw) (by decide)).ext E254) (lp_22 hw) (lp_14 hw) (by decide)).keep kg270 ni274) (lp_22 hw) (lp_15 hw) (by decide)).keep kg286 ni289) (lp_22 hw) (lp_16 hw) (by decide)).keep kg303 ni305) (lp_22 hw) (lp_17 hw) (by decide)).keep kg318 ni321) (lp_22 hw) (lp_18 hw) (by decide)).keep kg334 ni337) (lp_22 hw) (lp_19 hw) (by decide)).keep kg350 ni353) (lp_22 hw) (lp_20 hw) (by decide)) (lp_22 hw) (lp_21 hw) (by decide)).ext E362)
  have kg368 := (((Keep.refl _ [a1]).wr W358 (om 0 rfl)).ext E362)
  have F369 := (F360.keep kg368)
  obtain ⟨T366, h366, X366, e366, W366, st366⟩ := putF X362 hx hZ hown (host := "") (Or.inl (ow hw 252 rfl)) Via.refl e362 F367 F369 (Or.inl (ow hw 253 rfl)) (ow hw 196 rfl) (ty := (.array .int)) (by decide) rfl rfl (g := (mkF m 107 #[vr a1] [(.ref a362), (.ref a1)])) rfl rfl (hb hby dp62_1_107)
  obtain ⟨L366, X366, N366⟩ := pk X366 (Fr.snoc X366 N358 PQ100)
  have O366 := O362.wr W366 PQ100
  have z370 := Nat.le_trans z365 (Nat.le_of_eq W366.size.symm)
  have F366 : Fld Z h366 a1 "com/example/reweave/reweave/control/SearchPath" "log" "[I" (.ref a362) := F367.same W366
  refine og st366 ?_
  show OG p e below _ T366 m 110 #[vr a1] []
  refine qa X366.here hx hby dp62_1_110 rfl rfl ?_
  obtain ⟨T371, h371, X371, e371, E371, A371, D371, -, st371⟩ := newO X366 hx hZ hown (ow hw 254 rfl) (ow hw 1 rfl) (ow hw 2 rfl) e366 (g := (mkF m 111 #[vr a1] [(.ref a1)])) rfl (hb hby dp62_1_111) (by decide) (by decide)
  have F372 := (U362.wr W366)
  obtain ⟨a371, g371⟩ : ∃ z, z = h366.size := ⟨_, rfl⟩
  rw [← g371] at A371 D371 st371
  have ge371 : n0 ≤ a371 := Nat.le_trans (own_sz O366) (Nat.le_of_eq g371.symm)
  have gh371 : h0.size ≤ a371 := Nat.le_trans z370 (Nat.le_of_eq g371.symm)
  have lo371 : a362 < a371 := Nat.lt_of_lt_of_eq F372.lt g371.symm
  have O371 := O366.ext E371
  have z373 := Nat.le_trans z370 E371.1
  have F374 : Fld Z h371 a371 "java/util/AbstractList" "modCount" "I" (.int 0) := D371 (Or.inl (ow hw 22 rfl)) (ty := .int) (by decide)
  have F375 : Fld Z h371 a371 "java/util/ArrayList" "elementData" "[Ljava/lang/Object;" .null := D371 (Or.inl (ow hw 25 rfl)) (ty := (.array (.object "java/lang/Object"))) (by decide)
  have F376 : Fld Z h371 a371 "java/util/ArrayList" "size" "I" (.int 0) := D371 (Or.inl (ow hw 41 rfl)) (ty := .int) (by decide)
  refine og st371 ?_
  show OG p e below _ T371 m 114 #[vr a1] [(.ref a371), (.ref a1)]
  refine qd X371.here hx hby dp62_1_114 rfl rfl ?_
  obtain ⟨_, _, ⟨T377, L377, k377, n377⟩, -, X377, ⟨Lc377, hQ377, l377, y377, z377⟩, st377⟩ := X371.specialBack hx (y := mn25) rfl hown (mvT hZ (ow hw 255 rfl)) (mvT hZ (ow hw 4 rfl)) (mvT hZ (ow hw 5 rfl)) (by decide) (backOf (W := 2) (rm_iAL l Z a0 hw [] ku0 ku1 ku2 ku3 aDef aCac aEmp aMir kDef cCac F0 a371 h371 n0 O371 A371 F374 F375 F376 ge371) hZ (ow hw 5 rfl) (ow hw 2 rfl) (by decide) (by decide)) (g := (mkF m 115 #[vr a1] [(.ref a371), (.ref a371), (.ref a1)])) rfl (by rw [hml]; rfl) (Steps.refl _) (a := a371) (argsL := []) (rest := [(.ref a371), (.ref a1)]) (lenOf pd___V rfl) rfl (by show 2 * 0 + _ ≤ _; exact Nat.le_of_eq rfl) (hb hby dp62_1_115) (fun _ _ => ⟨rfl, e371, (by decide : 16 + 0 ≤ _), (by decide : 996 + 0 ≤ _)⟩)
  dsimp only [Pt.U, Pt.locs, Pt.cells, Pt.slots] at X377 l377 y377 z377 st377 hQ377
  subst l377 y377 z377
  obtain ⟨rfl, Nq377, K377, x377_0, x377_1, x377_2⟩ := hQ377
  obtain ⟨L377, X377, N377⟩ := pk X377 (Fr.app N366 Nq377)
  have O377 := O371.keep K377 (allS ge371 all0)
  have e377 : T377.heap = T377.heap := rfl
  have z378 := Nat.le_trans z373 K377.1
  refine og (fun _ k => st377.trans k) ?_
  show OG p e below _ T377 m 118 #[vr a1] [(.ref a371), (.ref a1)]
  have kg380 := (((Keep.refl _ [a371]).ext E371).trans K377 (aS (om 0 rfl) all0))
  have lt381 := Nat.lt_trans lt352 lox347_2
  have lt382 := Nat.lt_trans lt381 lo362
  have lt383 := Nat.lt_trans lt382 lo371
  have ni384 := (ninS (Nat.ne_of_lt lt383) nin0)
  have F385 := ((oo W366 ((oo W358 (oo W349 ((oo W333 ((oo W317 ((oo W302 ((oo W285 ((oo W269 ((oo W257 ((oo W249 ((oo W242 (PQ112.ext E240) (lp_23 hw) (lp_13 hw) (by decide)).ext E246) (lp_23 hw) (lp_12 hw) (by decide)).ext E254) (lp_23 hw) (lp_14 hw) (by decide)).keep kg270 ni274) (lp_23 hw) (lp_15 hw) (by decide)).keep kg286 ni289) (lp_23 hw) (lp_16 hw) (by decide)).keep kg303 ni305) (lp_23 hw) (lp_17 hw) (by decide)).keep kg318 ni321) (lp_23 hw) (lp_18 hw) (by decide)).keep kg334 ni337) (lp_23 hw) (lp_19 hw) (by decide)).keep kg350 ni353) (lp_23 hw) (lp_20 hw) (by decide)) (lp_23 hw) (lp_21 hw) (by decide)).ext E362) (lp_23 hw) (lp_22 hw) (by decide)).keep kg380 ni384)
  have kg386 := ((((Keep.refl _ [a1, a371]).wr W366 (om 0 rfl)).ext E371).trans K377 (aS (om 1 rfl) all0))
  have F387 := (F369.keep kg386)
  obtain ⟨T379, h379, X379, e379, W379, st379⟩ := putF X377 hx hZ hown (host := "") (Or.inl (ow hw 256 rfl)) Via.refl e377 F385 F387 (Or.inr ⟨(ow hw 257 rfl), rfl, hnm⟩) (ow hw 196 rfl) (ty := (.object "java/util/List")) (by decide) rfl rfl (g := (mkF m 118 #[vr a1] [(.ref a371), (.ref a1)])) rfl rfl (hb hby dp62_1_118)
  obtain ⟨L379, X379, N379⟩ := pk X379 (Fr.snoc X379 N377 PQ100)
  have O379 := O377.wr W379 PQ100
  have z388 := Nat.le_trans z378 (Nat.le_of_eq W379.size.symm)
  have F379 : Fld Z h379 a1 "com/example/reweave/reweave/control/SearchPath" "wholeBlocks" "Ljava/util/List;" (.ref a371) := F385.same W379
  refine og st379 ?_
  show OG p e below _ T379 m 121 #[vr a1] []
  refine qa X379.here hx hby dp62_1_121 rfl rfl ?_
  obtain ⟨T389, h389, X389, e389, E389, A389, D389, -, st389⟩ := newO X379 hx hZ hown (ow hw 224 rfl) (ow hw 225 rfl) (ow hw 226 rfl) e379 (g := (mkF m 122 #[vr a1] [(.ref a1)])) rfl (hb hby dp62_1_122) (by decide) (by decide)
  have kg390 := (((Keep.refl _ [a371, a1]).trans K377 (aS (om 0 rfl) all0)).wr W379 (om 1 rfl))
  have F391 := (A371.keep kg390)
  obtain ⟨a389, g389⟩ : ∃ z, z = h379.size := ⟨_, rfl⟩
  rw [← g389] at A389 D389 st389
  have ge389 : n0 ≤ a389 := Nat.le_trans (own_sz O379) (Nat.le_of_eq g389.symm)
  have gh389 : h0.size ≤ a389 := Nat.le_trans z388 (Nat.le_of_eq g389.symm)
  have lo389 : a371 < a389 := Nat.lt_of_lt_of_eq F391.lt g389.symm
  have O389 := O379.ext E389
  have z392 := Nat.le_trans z388 E389.1
  have F393 : Fld Z h389 a389 "java/util/HashMap" "loadFactor" "F" (.float 0) := D389 (Or.inr (ow hw 239 rfl)) (ty := .float) (by decide)
  refine og st389 ?_
  show OG p e below _ T389 m 125 #[vr a1] [(.ref a389), (.ref a1)]
  refine qd X389.here hx hby dp62_1_125 rfl rfl ?_
  obtain ⟨_, _, ⟨T394, L394, k394, n394⟩, -, X394, ⟨Lc394, hQ394, l394, y394, z394⟩, st394⟩ := X389.specialBack hx (y := mn37) rfl hown (mvT hZ (ow hw 227 rfl)) (mvT hZ (ow hw 228 rfl)) (mvT hZ (ow hw 229 rfl)) (by decide) (backOf (W := 2) (rm_hm l Z a0 hw [] ku0 ku1 ku2 ku3 aDef aCac aEmp aMir kDef cCac F0 a389 h389 n0 O389 A389 ge389 F393) hZ (ow hw 229 rfl) (ow hw 226 rfl) (by decide) (by decide)) (g := (mkF m 126 #[vr a1] [(.ref a389), (.ref a389), (.ref a1)])) rfl (by rw [hml]; rfl) (Steps.refl _) (a := a389) (argsL := []) (rest := [(.ref a389), (.ref a1)]) (lenOf pd___V rfl) rfl (by show 2 * 0 + _ ≤ _; exact Nat.le_of_eq rfl) (hb hby dp62_1_126) (fun _ _ => ⟨rfl, e389, (by decide : 17 + 0 ≤ _), (by decide : 1004 + 0 ≤ _)⟩)
  dsimp only [Pt.U, Pt.locs, Pt.cells, Pt.slots] at X394 l394 y394 z394 st394 hQ394
  subst l394 y394 z394
  obtain ⟨rfl, Nq394, K394⟩ := hQ394
  obtain ⟨L394, X394, N394⟩ := pk X394 (Fr.app N379 Nq394)
  have O394 := O389.keep K394 (allS ge389 all0)
  have e394 : T394.heap = T394.heap := rfl
  have z395 := Nat.le_trans z392 K394.1
  refine og (fun _ k => st394.trans k) ?_
  show OG p e below _ T394 m 129 #[vr a1] [(.ref a389), (.ref a1)]
  have kg397 := (((Keep.refl _ [a389]).ext E389).trans K394 (aS (om 0 rfl) all0))
  have lt398 := Nat.lt_trans lt383 lo389
  have ni399 := (ninS (Nat.ne_of_lt lt398) nin0)
  have F400 := ((oo W379 ((oo W366 ((oo W358 (oo W349 ((oo W333 ((oo W317 ((oo W302 ((oo W285 ((oo W269 ((oo W257 ((oo W249 ((oo W242 (PQ113.ext E240) (lp_24 hw) (lp_13 hw) (by decide)).ext E246) (lp_24 hw) (lp_12 hw) (by decide)).ext E254) (lp_24 hw) (lp_14 hw) (by decide)).keep kg270 ni274) (lp_24 hw) (lp_15 hw) (by decide)).keep kg286 ni289) (lp_24 hw) (lp_16 hw) (by decide)).keep kg303 ni305) (lp_24 hw) (lp_17 hw) (by decide)).keep kg318 ni321) (lp_24 hw) (lp_18 hw) (by decide)).keep kg334 ni337) (lp_24 hw) (lp_19 hw) (by decide)).keep kg350 ni353) (lp_24 hw) (lp_20 hw) (by decide)) (lp_24 hw) (lp_21 hw) (by decide)).ext E362) (lp_24 hw) (lp_22 hw) (by decide)).keep kg380 ni384) (lp_24 hw) (lp_23 hw) (by decide)).keep kg397 ni399)
  have kg401 := ((((Keep.refl _ [a1, a389]).wr W379 (om 0 rfl)).ext E389).trans K394 (aS (om 1 rfl) all0))
  have F402 := (F387.keep kg401)
  obtain ⟨T396, h396, X396, e396, W396, st396⟩ := putF X394 hx hZ hown (host := "") (Or.inl (ow hw 258 rfl)) Via.refl e394 F400 F402 (Or.inr ⟨(ow hw 259 rfl), rfl, hnm⟩) (ow hw 196 rfl) (ty := (.object "java/util/Map")) (by decide) rfl rfl (g := (mkF m 129 #[vr a1] [(.ref a389), (.ref a1)])) rfl rfl (hb hby dp62_1_129)
  obtain ⟨L396, X396, N396⟩ := pk X396 (Fr.snoc X396 N394 PQ100)
  have O396 := O394.wr W396 PQ100
  have z403 := Nat.le_trans z395 (Nat.le_of_eq W396.size.symm)
  have F396 : Fld Z h396 a1 "com/example/reweave/reweave/control/SearchPath" "tails" "Ljava/util/Map;" (.ref a389) := F400.same W396
  refine og st396 ?_
  show OG p e below _ T396 m 132 #[vr a1] []
  obtain ⟨fs, hr, hrun, hended, hW, hsame⟩ := X396.leave (v := none) (fun h => rfl)
  refine ⟨_, _, X396.returnOut hx Bd.returns (hb hby dp62_1_132) hr, hrun, hended, _, _, rfl, ?_, ⟨_, rfl⟩, hW, hsame.mono (by decide) (by decide)⟩
  show Q_sp Z ku0 ku1 ku2 ku3 aDef aCac aEmp aMir kDef cCac a1 h0 n0 _ T396.heap _
  rw [e396]
  have F404 := (oo W396 ((oo W379 ((oo W366 ((oo W358 (oo W349 ((oo W333 ((oo W317 ((oo W302 ((oo W285 ((oo W269 ((oo W257 ((oo W249 (F242.ext E246) (lp_13 hw) (lp_12 hw) (by decide)).ext E254) (lp_13 hw) (lp_14 hw) (by decide)).keep kg270 ni274) (lp_13 hw) (lp_15 hw) (by decide)).keep kg286 ni289) (lp_13 hw) (lp_16 hw) (by decide)).keep kg303 ni305) (lp_13 hw) (lp_17 hw) (by decide)).keep kg318 ni321) (lp_13 hw) (lp_18 hw) (by decide)).keep kg334 ni337) (lp_13 hw) (lp_19 hw) (by decide)).keep kg350 ni353) (lp_13 hw) (lp_20 hw) (by decide)) (lp_13 hw) (lp_21 hw) (by decide)).ext E362) (lp_13 hw) (lp_22 hw) (by decide)).keep kg380 ni384) (lp_13 hw) (lp_23 hw) (by decide)).keep kg397 ni399) (lp_13 hw) (lp_24 hw) (by decide))
  have F405 := (oo W396 ((oo W379 ((oo W366 ((oo W358 (oo W349 ((oo W333 ((oo W317 ((oo W302 ((oo W285 ((oo W269 ((oo W257 (F249.ext E254) (lp_12 hw) (lp_14 hw) (by decide)).keep kg270 ni274) (lp_12 hw) (lp_15 hw) (by decide)).keep kg286 ni289) (lp_12 hw) (lp_16 hw) (by decide)).keep kg303 ni305) (lp_12 hw) (lp_17 hw) (by decide)).keep kg318 ni321) (lp_12 hw) (lp_18 hw) (by decide)).keep kg334 ni337) (lp_12 hw) (lp_19 hw) (by decide)).keep kg350 ni353) (lp_12 hw) (lp_20 hw) (by decide)) (lp_12 hw) (lp_21 hw) (by decide)).ext E362) (lp_12 hw) (lp_22 hw) (by decide)).keep kg380 ni384) (lp_12 hw) (lp_23 hw) (by decide)).keep kg397 ni399) (lp_12 hw) (lp_24 hw) (by decide))
  have F406 := (oo W396 ((oo W379 ((oo W366 ((oo W358 (oo W349 ((oo W333 ((oo W317 ((oo W302 ((oo W285 ((oo W269 (F257.keep kg270 ni274) (lp_14 hw) (lp_15 hw) (by decide)).keep kg286 ni289) (lp_14 hw) (lp_16 hw) (by decide)).keep kg303 ni305) (lp_14 hw) (lp_17 hw) (by decide)).keep kg318 ni321) (lp_14 hw) (lp_18 hw) (by decide)).keep kg334 ni337) (lp_14 hw) (lp_19 hw) (by decide)).keep kg350 ni353) (lp_14 hw) (lp_20 hw) (by decide)) (lp_14 hw) (lp_21 hw) (by decide)).ext E362) (lp_14 hw) (lp_22 hw) (by decide)).keep kg380 ni384) (lp_14 hw) (lp_23 hw) (by decide)).keep kg397 ni399) (lp_14 hw) (lp_24 hw) (by decide))
  have F407 := (oo W396 ((oo W379 ((oo W366 ((oo W358 (oo W349 ((oo W333 ((oo W317 ((oo W302 ((oo W285 ((oo W269 ((oo W257 ((oo W249 ((oo W242 (PQ114.ext E240) (lp_25 hw) (lp_13 hw) (by decide)).ext E246) (lp_25 hw) (lp_12 hw) (by decide)).ext E254) (lp_25 hw) (lp_14 hw) (by decide)).keep kg270 ni274) (lp_25 hw) (lp_15 hw) (by decide)).keep kg286 ni289) (lp_25 hw) (lp_16 hw) (by decide)).keep kg303 ni305) (lp_25 hw) (lp_17 hw) (by decide)).keep kg318 ni321) (lp_25 hw) (lp_18 hw) (by decide)).keep kg334 ni337) (lp_25 hw) (lp_19 hw) (by decide)).keep kg350 ni353) (lp_25 hw) (lp_20 hw) (by decide)) (lp_25 hw) (lp_21 hw) (by decide)).ext E362) (lp_25 hw) (lp_22 hw) (by decide)).keep kg380 ni384) (lp_25 hw) (lp_23 hw) (by decide)).keep kg397 ni399) (lp_25 hw) (lp_24 hw) (by decide))
  have F408 := (oo W396 ((oo W379 ((oo W366 ((oo W358 (oo W349 ((oo W333 ((oo W317 ((oo W302 ((oo W285 ((oo W269 ((oo W257 ((oo W249 ((oo W242 (PQ115.ext E240) (lp_26 hw) (lp_13 hw) (by decide)).ext E246) (lp_26 hw) (lp_12 hw) (by decide)).ext E254) (lp_26 hw) (lp_14 hw) (by decide)).keep kg270 ni274) (lp_26 hw) (lp_15 hw) (by decide)).keep kg286 ni289) (lp_26 hw) (lp_16 hw) (by decide)).keep kg303 ni305) (lp_26 hw) (lp_17 hw) (by decide)).keep kg318 ni321) (lp_26 hw) (lp_18 hw) (by decide)).keep kg334 ni337) (lp_26 hw) (lp_19 hw) (by decide)).keep kg350 ni353) (lp_26 hw) (lp_20 hw) (by decide)) (lp_26 hw) (lp_21 hw) (by decide)).ext E362) (lp_26 hw) (lp_22 hw) (by decide)).keep kg380 ni384) (lp_26 hw) (lp_23 hw) (by decide)).keep kg397 ni399) (lp_26 hw) (lp_24 hw) (by decide))
  have F409 := (oo W396 ((oo W379 ((oo W366 ((oo W358 (oo W349 ((oo W333 ((oo W317 ((oo W302 ((oo W285 (F269.keep kg286 ni289) (lp_15 hw) (lp_16 hw) (by decide)).keep kg303 ni305) (lp_15 hw) (lp_17 hw) (by decide)).keep kg318 ni321) (lp_15 hw) (lp_18 hw) (by decide)).keep kg334 ni337) (lp_15 hw) (lp_19 hw) (by decide)).keep kg350 ni353) (lp_15 hw) (lp_20 hw) (by decide)) (lp_15 hw) (lp_21 hw) (by decide)).ext E362) (lp_15 hw) (lp_22 hw) (by decide)).keep kg380 ni384) (lp_15 hw) (lp_23 hw) (by decide)).keep kg397 ni399) (lp_15 hw) (lp_24 hw) (by decide))
  have F410 := (oo W396 ((oo W379 ((oo W366 ((oo W358 (oo W349 ((oo W333 ((oo W317 (F302.keep kg318 ni321) (lp_17 hw) (lp_18 hw) (by decide)).keep kg334 ni337) (lp_17 hw) (lp_19 hw) (by decide)).keep kg350 ni353) (lp_17 hw) (lp_20 hw) (by decide)) (lp_17 hw) (lp_21 hw) (by decide)).ext E362) (lp_17 hw) (lp_22 hw) (by decide)).keep kg380 ni384) (lp_17 hw) (lp_23 hw) (by decide)).keep kg397 ni399) (lp_17 hw) (lp_24 hw) (by decide))
  have F411 := (oo W396 ((oo W379 ((oo W366 ((oo W358 (oo W349 ((oo W333 (F317.keep kg334 ni337) (lp_18 hw) (lp_19 hw) (by decide)).keep kg350 ni353) (lp_18 hw) (lp_20 hw) (by decide)) (lp_18 hw) (lp_21 hw) (by decide)).ext E362) (lp_18 hw) (lp_22 hw) (by decide)).keep kg380 ni384) (lp_18 hw) (lp_23 hw) (by decide)).keep kg397 ni399) (lp_18 hw) (lp_24 hw) (by decide))
  have F412 := (oo W396 ((oo W379 ((oo W366 ((oo W358 (oo W349 (F333.keep kg350 ni353) (lp_19 hw) (lp_20 hw) (by decide)) (lp_19 hw) (lp_21 hw) (by decide)).ext E362) (lp_19 hw) (lp_22 hw) (by decide)).keep kg380 ni384) (lp_19 hw) (lp_23 hw) (by decide)).keep kg397 ni399) (lp_19 hw) (lp_24 hw) (by decide))
  have F413 := (oo W396 ((oo W379 ((oo W366 ((oo W358 F349 (lp_20 hw) (lp_21 hw) (by decide)).ext E362) (lp_20 hw) (lp_22 hw) (by decide)).keep kg380 ni384) (lp_20 hw) (lp_23 hw) (by decide)).keep kg397 ni399) (lp_20 hw) (lp_24 hw) (by decide))
  have lt414 := Nat.lt_trans lo279 lo294
  have kg415 := ((((((((((((((((((((((((((((((((Keep.refl _ [a1, a262, a279, a294, a310, a326, a342, a371, a389]).ext E246).wr W249 (om 0 rfl)).ext E254).wr W257 (om 0 rfl)).ext E262).trans K267 (aS (om 1 rfl) all0)).wr W269 (om 0 rfl)).ext E279).trans K283 (aS (om 2 rfl) all0)).wr W285 (om 0 rfl)).ext E294).trans K300 (aS (om 3 rfl) all0)).wr W302 (om 0 rfl)).ext E310).trans K315 (aS (om 4 rfl) all0)).wr W317 (om 0 rfl)).ext E326).trans K331 (aS (om 5 rfl) all0)).wr W333 (om 0 rfl)).ext E342).trans K347 (aS (om 6 rfl) all0)).wr W349 (om 0 rfl)).wr W358 (om 0 rfl)).ext E362).wr W366 (om 0 rfl)).ext E371).trans K377 (aS (om 7 rfl) all0)).wr W379 (om 0 rfl)).ext E389).trans K394 (aS (om 8 rfl) all0)).wr W396 (om 0 rfl))
  have F416 := (F247.keep kg415)
  have kg417 := ((((((((((((((((((((((((((((((Keep.refl _ [a1, a262, a279, a294, a310, a326, a342, a371, a389]).ext E254).wr W257 (om 0 rfl)).ext E262).trans K267 (aS (om 1 rfl) all0)).wr W269 (om 0 rfl)).ext E279).trans K283 (aS (om 2 rfl) all0)).wr W285 (om 0 rfl)).ext E294).trans K300 (aS (om 3 rfl) all0)).wr W302 (om 0 rfl)).ext E310).trans K315 (aS (om 4 rfl) all0)).wr W317 (om 0 rfl)).ext E326).trans K331 (aS (om 5 rfl) all0)).wr W333 (om 0 rfl)).ext E342).trans K347 (aS (om 6 rfl) all0)).wr W349 (om 0 rfl)).wr W358 (om 0 rfl)).ext E362).wr W366 (om 0 rfl)).ext E371).trans K377 (aS (om 7 rfl) all0)).wr W379 (om 0 rfl)).ext E389).trans K394 (aS (om 8 rfl) all0)).wr W396 (om 0 rfl))
  have F418 := (F255.keep kg417)
  have kg419 := ((((((((((((((((((((((((((((Keep.refl _ [a262, a1, a279, a294, a310, a326, a342, a371, a389]).ext E262).trans K267 (aS (om 0 rfl) all0)).wr W269 (om 1 rfl)).ext E279).trans K283 (aS (om 2 rfl) all0)).wr W285 (om 1 rfl)).ext E294).trans K300 (aS (om 3 rfl) all0)).wr W302 (om 1 rfl)).ext E310).trans K315 (aS (om 4 rfl) all0)).wr W317 (om 1 rfl)).ext E326).trans K331 (aS (om 5 rfl) all0)).wr W333 (om 1 rfl)).ext E342).trans K347 (aS (om 6 rfl) all0)).wr W349 (om 1 rfl)).wr W358 (om 1 rfl)).ext E362).wr W366 (om 1 rfl)).ext E371).trans K377 (aS (om 7 rfl) all0)).wr W379 (om 1 rfl)).ext E389).trans K394 (aS (om 8 rfl) all0)).wr W396 (om 1 rfl))
  have F420 := (F263.keep kg419)
  have kg421 := (((((((((((((((((((((((((((((((((Keep.refl _ [a1, a262, a279, a294, a310, a326, a342, a371, a389]).wr W242 (om 0 rfl)).ext E246).wr W249 (om 0 rfl)).ext E254).wr W257 (om 0 rfl)).ext E262).trans K267 (aS (om 1 rfl) all0)).wr W269 (om 0 rfl)).ext E279).trans K283 (aS (om 2 rfl) all0)).wr W285 (om 0 rfl)).ext E294).trans K300 (aS (om 3 rfl) all0)).wr W302 (om 0 rfl)).ext E310).trans K315 (aS (om 4 rfl) all0)).wr W317 (om 0 rfl)).ext E326).trans K331 (aS (om 5 rfl) all0)).wr W333 (om 0 rfl)).ext E342).trans K347 (aS (om 6 rfl) all0)).wr W349 (om 0 rfl)).wr W358 (om 0 rfl)).ext E362).wr W366 (om 0 rfl)).ext E371).trans K377 (aS (om 7 rfl) all0)).wr W379 (om 0 rfl)).ext E389).trans K394 (aS (om 8 rfl) all0)).wr W396 (om 0 rfl))
  have lt422 := Nat.lt_trans lo246 lo254
  have lt423 := Nat.lt_trans lt422 lo262
  have lt424 := Nat.lt_trans lt423 lox267_2
  have lt425 := Nat.lt_trans lt424 lo279
  have lt426 := Nat.lt_trans lt425 lo294
  have lt427 := Nat.lt_trans lt426 lox300_2
  have lt428 := Nat.lt_trans lt427 lo310
  have lt429 := Nat.lt_trans lt428 lox315_2
  have lt430 := Nat.lt_trans lt429 lo326
  have lt431 := Nat.lt_trans lt430 lox331_2
  have lt432 := Nat.lt_trans lt431 lo342
  have lt433 := Nat.lt_trans lt432 lox347_2
  have lt434 := Nat.lt_trans lt433 lo362
  have lt435 := Nat.lt_trans lt434 lo371
  have lt436 := Nat.lt_trans lt435 lo389
  have ni437 := (ninS (Ne.symm (Nat.ne_of_lt lo240)) (ninS (Nat.ne_of_lt lt423) (ninS (Nat.ne_of_lt lt425) (ninS (Nat.ne_of_lt lt426) (ninS (Nat.ne_of_lt lt428) (ninS (Nat.ne_of_lt lt430) (ninS (Nat.ne_of_lt lt432) (ninS (Nat.ne_of_lt lt435) (ninS (Nat.ne_of_lt lt436) nin0)))))))))
  have F438 := (V240.keep kg421 ni437)
  have kg439 := (((((((((((((((((((((((((((((((Keep.refl _ [a1, a262, a279, a294, a310, a326, a342, a371, a389]).wr W249 (om 0 rfl)).ext E254).wr W257 (om 0 rfl)).ext E262).trans K267 (aS (om 1 rfl) all0)).wr W269 (om 0 rfl)).ext E279).trans K283 (aS (om 2 rfl) all0)).wr W285 (om 0 rfl)).ext E294).trans K300 (aS (om 3 rfl) all0)).wr W302 (om 0 rfl)).ext E310).trans K315 (aS (om 4 rfl) all0)).wr W317 (om 0 rfl)).ext E326).trans K331 (aS (om 5 rfl) all0)).wr W333 (om 0 rfl)).ext E342).trans K347 (aS (om 6 rfl) all0)).wr W349 (om 0 rfl)).wr W358 (om 0 rfl)).ext E362).wr W366 (om 0 rfl)).ext E371).trans K377 (aS (om 7 rfl) all0)).wr W379 (om 0 rfl)).ext E389).trans K394 (aS (om 8 rfl) all0)).wr W396 (om 0 rfl))
  have lt440 := Nat.lt_trans lo254 lo262
  have lt441 := Nat.lt_trans lt440 lox267_2
  have lt442 := Nat.lt_trans lt441 lo279
  have lt443 := Nat.lt_trans lt442 lo294
  have lt444 := Nat.lt_trans lt443 lox300_2
  have lt445 := Nat.lt_trans lt444 lo310
  have lt446 := Nat.lt_trans lt445 lox315_2
  have lt447 := Nat.lt_trans lt446 lo326
  have lt448 := Nat.lt_trans lt447 lox331_2
  have lt449 := Nat.lt_trans lt448 lo342
  have lt450 := Nat.lt_trans lt449 lox347_2
  have lt451 := Nat.lt_trans lt450 lo362
  have lt452 := Nat.lt_trans lt451 lo371
  have lt453 := Nat.lt_trans lt452 lo389
  have ni454 := (ninS (Ne.symm (Nat.ne_of_lt lt271)) (ninS (Nat.ne_of_lt lt440) (ninS (Nat.ne_of_lt lt442) (ninS (Nat.ne_of_lt lt443) (ninS (Nat.ne_of_lt lt445) (ninS (Nat.ne_of_lt lt447) (ninS (Nat.ne_of_lt lt449) (ninS (Nat.ne_of_lt lt452) (ninS (Nat.ne_of_lt lt453) nin0)))))))))
  have F455 := (V246.keep kg439 ni454)
  have kg456 := (((((((((((((((((((((((((((((Keep.refl _ [a1, a262, a279, a294, a310, a326, a342, a371, a389]).wr W257 (om 0 rfl)).ext E262).trans K267 (aS (om 1 rfl) all0)).wr W269 (om 0 rfl)).ext E279).trans K283 (aS (om 2 rfl) all0)).wr W285 (om 0 rfl)).ext E294).trans K300 (aS (om 3 rfl) all0)).wr W302 (om 0 rfl)).ext E310).trans K315 (aS (om 4 rfl) all0)).wr W317 (om 0 rfl)).ext E326).trans K331 (aS (om 5 rfl) all0)).wr W333 (om 0 rfl)).ext E342).trans K347 (aS (om 6 rfl) all0)).wr W349 (om 0 rfl)).wr W358 (om 0 rfl)).ext E362).wr W366 (om 0 rfl)).ext E371).trans K377 (aS (om 7 rfl) all0)).wr W379 (om 0 rfl)).ext E389).trans K394 (aS (om 8 rfl) all0)).wr W396 (om 0 rfl))
  have lt457 := Nat.lt_trans lo262 lox267_2
  have lt458 := Nat.lt_trans lt457 lo279
  have lt459 := Nat.lt_trans lt458 lo294
  have lt460 := Nat.lt_trans lt459 lox300_2
  have lt461 := Nat.lt_trans lt460 lo310
  have lt462 := Nat.lt_trans lt461 lox315_2
  have lt463 := Nat.lt_trans lt462 lo326
  have lt464 := Nat.lt_trans lt463 lox331_2
  have lt465 := Nat.lt_trans lt464 lo342
  have lt466 := Nat.lt_trans lt465 lox347_2
  have lt467 := Nat.lt_trans lt466 lo362
  have lt468 := Nat.lt_trans lt467 lo371
  have lt469 := Nat.lt_trans lt468 lo389
  have ni470 := (ninS (Ne.symm (Nat.ne_of_lt lt272)) (ninS (Nat.ne_of_lt lo262) (ninS (Nat.ne_of_lt lt458) (ninS (Nat.ne_of_lt lt459) (ninS (Nat.ne_of_lt lt461) (ninS (Nat.ne_of_lt lt463) (ninS (Nat.ne_of_lt lt465) (ninS (Nat.ne_of_lt lt468) (ninS (Nat.ne_of_lt lt469) nin0)))))))))
  have F471 := (V254.keep kg456 ni470)
  have kg472 := (((((((((((((((((((((((((((Keep.refl _ [a262, a1, a279, a294, a310, a326, a342, a371, a389]).trans K267 (aS (om 0 rfl) all0)).wr W269 (om 1 rfl)).ext E279).trans K283 (aS (om 2 rfl) all0)).wr W285 (om 1 rfl)).ext E294).trans K300 (aS (om 3 rfl) all0)).wr W302 (om 1 rfl)).ext E310).trans K315 (aS (om 4 rfl) all0)).wr W317 (om 1 rfl)).ext E326).trans K331 (aS (om 5 rfl) all0)).wr W333 (om 1 rfl)).ext E342).trans K347 (aS (om 6 rfl) all0)).wr W349 (om 1 rfl)).wr W358 (om 1 rfl)).ext E362).wr W366 (om 1 rfl)).ext E371).trans K377 (aS (om 7 rfl) all0)).wr W379 (om 1 rfl)).ext E389).trans K394 (aS (om 8 rfl) all0)).wr W396 (om 1 rfl))
  have F473 := (A262.keep kg472)
  have kg474 := ((((((((((((((((((((((((((Keep.refl _ [a1, a279, a294, a310, a326, a342, a371, a389]).wr W269 (om 0 rfl)).ext E279).trans K283 (aS (om 1 rfl) all0)).wr W285 (om 0 rfl)).ext E294).trans K300 (aS (om 2 rfl) all0)).wr W302 (om 0 rfl)).ext E310).trans K315 (aS (om 3 rfl) all0)).wr W317 (om 0 rfl)).ext E326).trans K331 (aS (om 4 rfl) all0)).wr W333 (om 0 rfl)).ext E342).trans K347 (aS (om 5 rfl) all0)).wr W349 (om 0 rfl)).wr W358 (om 0 rfl)).ext E362).wr W366 (om 0 rfl)).ext E371).trans K377 (aS (om 6 rfl) all0)).wr W379 (om 0 rfl)).ext E389).trans K394 (aS (om 7 rfl) all0)).wr W396 (om 0 rfl))
  have lt475 := Nat.lt_trans lox267_2 lo279
  have lt476 := Nat.lt_trans lt475 lo294
  have lt477 := Nat.lt_trans lt476 lox300_2
  have lt478 := Nat.lt_trans lt477 lo310
  have lt479 := Nat.lt_trans lt478 lox315_2
  have lt480 := Nat.lt_trans lt479 lo326
  have lt481 := Nat.lt_trans lt480 lox331_2
  have lt482 := Nat.lt_trans lt481 lo342
  have lt483 := Nat.lt_trans lt482 lox347_2
  have lt484 := Nat.lt_trans lt483 lo362
  have lt485 := Nat.lt_trans lt484 lo371
  have lt486 := Nat.lt_trans lt485 lo389
  have ni487 := (ninS (Ne.symm (Nat.ne_of_lt lt273)) (ninS (Nat.ne_of_lt lt475) (ninS (Nat.ne_of_lt lt476) (ninS (Nat.ne_of_lt lt478) (ninS (Nat.ne_of_lt lt480) (ninS (Nat.ne_of_lt lt482) (ninS (Nat.ne_of_lt lt485) (ninS (Nat.ne_of_lt lt486) nin0))))))))
  have F488 := (x267_0.keep kg474 ni487)
  have F489 := (x267_1.keep kg474 ni487)
  have kg490 := (((((((((((((((((((((((((Keep.refl _ [a279, a1, a294, a310, a326, a342, a371, a389]).ext E279).trans K283 (aS (om 0 rfl) all0)).wr W285 (om 1 rfl)).ext E294).trans K300 (aS (om 2 rfl) all0)).wr W302 (om 1 rfl)).ext E310).trans K315 (aS (om 3 rfl) all0)).wr W317 (om 1 rfl)).ext E326).trans K331 (aS (om 4 rfl) all0)).wr W333 (om 1 rfl)).ext E342).trans K347 (aS (om 5 rfl) all0)).wr W349 (om 1 rfl)).wr W358 (om 1 rfl)).ext E362).wr W366 (om 1 rfl)).ext E371).trans K377 (aS (om 6 rfl) all0)).wr W379 (om 1 rfl)).ext E389).trans K394 (aS (om 7 rfl) all0)).wr W396 (om 1 rfl))
  have F491 := (F280.keep kg490)
  have lt492 := Nat.lt_trans lt414 lox300_2
  have lt493 := Nat.lt_trans lt492 lo310
  have lt494 := Nat.lt_trans lt493 lox315_2
  have lt495 := Nat.lt_trans lt494 lo326
  have lt496 := Nat.lt_trans lt495 lox331_2
  have lt497 := Nat.lt_trans lt496 lo342
  have lt498 := Nat.lt_trans lt497 lox347_2
  have lt499 := Nat.lt_trans lt498 lo362
  have lt500 := Nat.lt_trans lt499 lo371
  have lt501 := Nat.lt_trans lt500 lo389
  have ni502 := (ninS (Ne.symm (Nat.ne_of_lt lt287)) (ninS (Nat.ne_of_lt lo279) (ninS (Nat.ne_of_lt lt414) (ninS (Nat.ne_of_lt lt493) (ninS (Nat.ne_of_lt lt495) (ninS (Nat.ne_of_lt lt497) (ninS (Nat.ne_of_lt lt500) (ninS (Nat.ne_of_lt lt501) nin0))))))))
  have F503 := (x267_4.keep kg474 ni502)
  have F504 := (x267_5.keep kg474 ni502)
  have F505 := (x267_6.keep kg474 ni502)
  have kg506 := (((((((((((((((((((((Keep.refl _ [a294, a1, a310, a326, a342, a371, a389]).trans K300 (aS (om 0 rfl) all0)).wr W302 (om 1 rfl)).ext E310).trans K315 (aS (om 2 rfl) all0)).wr W317 (om 1 rfl)).ext E326).trans K331 (aS (om 3 rfl) all0)).wr W333 (om 1 rfl)).ext E342).trans K347 (aS (om 4 rfl) all0)).wr W349 (om 1 rfl)).wr W358 (om 1 rfl)).ext E362).wr W366 (om 1 rfl)).ext E371).trans K377 (aS (om 5 rfl) all0)).wr W379 (om 1 rfl)).ext E389).trans K394 (aS (om 6 rfl) all0)).wr W396 (om 1 rfl))
  have F507 := (A294.keep kg506)
  have kg508 := ((((((((((((((((((((Keep.refl _ [a1, a310, a326, a342, a371, a389]).wr W302 (om 0 rfl)).ext E310).trans K315 (aS (om 1 rfl) all0)).wr W317 (om 0 rfl)).ext E326).trans K331 (aS (om 2 rfl) all0)).wr W333 (om 0 rfl)).ext E342).trans K347 (aS (om 3 rfl) all0)).wr W349 (om 0 rfl)).wr W358 (om 0 rfl)).ext E362).wr W366 (om 0 rfl)).ext E371).trans K377 (aS (om 4 rfl) all0)).wr W379 (om 0 rfl)).ext E389).trans K394 (aS (om 5 rfl) all0)).wr W396 (om 0 rfl))
  have lt509 := Nat.lt_trans lox300_2 lo310
  have lt510 := Nat.lt_trans lt509 lox315_2
  have lt511 := Nat.lt_trans lt510 lo326
  have lt512 := Nat.lt_trans lt511 lox331_2
  have lt513 := Nat.lt_trans lt512 lo342
  have lt514 := Nat.lt_trans lt513 lox347_2
  have lt515 := Nat.lt_trans lt514 lo362
  have lt516 := Nat.lt_trans lt515 lo371
  have lt517 := Nat.lt_trans lt516 lo389
  have ni518 := (ninS (Ne.symm (Nat.ne_of_lt lt304)) (ninS (Nat.ne_of_lt lt509) (ninS (Nat.ne_of_lt lt511) (ninS (Nat.ne_of_lt lt513) (ninS (Nat.ne_of_lt lt516) (ninS (Nat.ne_of_lt lt517) nin0))))))
  have F519 := (x300_0.keep kg508 ni518)
  have F520 := (x300_1.keep kg508 ni518)
  have kg521 := (((((((((((((((((((Keep.refl _ [a310, a1, a326, a342, a371, a389]).ext E310).trans K315 (aS (om 0 rfl) all0)).wr W317 (om 1 rfl)).ext E326).trans K331 (aS (om 2 rfl) all0)).wr W333 (om 1 rfl)).ext E342).trans K347 (aS (om 3 rfl) all0)).wr W349 (om 1 rfl)).wr W358 (om 1 rfl)).ext E362).wr W366 (om 1 rfl)).ext E371).trans K377 (aS (om 4 rfl) all0)).wr W379 (om 1 rfl)).ext E389).trans K394 (aS (om 5 rfl) all0)).wr W396 (om 1 rfl))
  have F522 := (F311.keep kg521)
  have lt523 := Nat.lt_trans lo310 lox315_2
  have lt524 := Nat.lt_trans lt523 lo326
  have lt525 := Nat.lt_trans lt524 lox331_2
  have lt526 := Nat.lt_trans lt525 lo342
  have lt527 := Nat.lt_trans lt526 lox347_2
  have lt528 := Nat.lt_trans lt527 lo362
  have lt529 := Nat.lt_trans lt528 lo371
  have lt530 := Nat.lt_trans lt529 lo389
  have ni531 := (ninS (Ne.symm (Nat.ne_of_lt lt319)) (ninS (Nat.ne_of_lt lo310) (ninS (Nat.ne_of_lt lt524) (ninS (Nat.ne_of_lt lt526) (ninS (Nat.ne_of_lt lt529) (ninS (Nat.ne_of_lt lt530) nin0))))))
  have F532 := (x300_4.keep kg508 ni531)
  have F533 := (x300_5.keep kg508 ni531)
  have F534 := (x300_6.keep kg508 ni531)
  have kg535 := ((((((((((((((((((Keep.refl _ [a310, a1, a326, a342, a371, a389]).trans K315 (aS (om 0 rfl) all0)).wr W317 (om 1 rfl)).ext E326).trans K331 (aS (om 2 rfl) all0)).wr W333 (om 1 rfl)).ext E342).trans K347 (aS (om 3 rfl) all0)).wr W349 (om 1 rfl)).wr W358 (om 1 rfl)).ext E362).wr W366 (om 1 rfl)).ext E371).trans K377 (aS (om 4 rfl) all0)).wr W379 (om 1 rfl)).ext E389).trans K394 (aS (om 5 rfl) all0)).wr W396 (om 1 rfl))
  have F536 := (A310.keep kg535)
  have kg537 := (((((((((((((((((Keep.refl _ [a1, a326, a342, a371, a389]).wr W317 (om 0 rfl)).ext E326).trans K331 (aS (om 1 rfl) all0)).wr W333 (om 0 rfl)).ext E342).trans K347 (aS (om 2 rfl) all0)).wr W349 (om 0 rfl)).wr W358 (om 0 rfl)).ext E362).wr W366 (om 0 rfl)).ext E371).trans K377 (aS (om 3 rfl) all0)).wr W379 (om 0 rfl)).ext E389).trans K394 (aS (om 4 rfl) all0)).wr W396 (om 0 rfl))
  have lt538 := Nat.lt_trans lox315_2 lo326
  have lt539 := Nat.lt_trans lt538 lox331_2
  have lt540 := Nat.lt_trans lt539 lo342
  have lt541 := Nat.lt_trans lt540 lox347_2
  have lt542 := Nat.lt_trans lt541 lo362
  have lt543 := Nat.lt_trans lt542 lo371
  have lt544 := Nat.lt_trans lt543 lo389
  have ni545 := (ninS (Ne.symm (Nat.ne_of_lt lt320)) (ninS (Nat.ne_of_lt lt538) (ninS (Nat.ne_of_lt lt540) (ninS (Nat.ne_of_lt lt543) (ninS (Nat.ne_of_lt lt544) nin0)))))
  have F546 := (x315_0.keep kg537 ni545)
  have F547 := (x315_1.keep kg537 ni545)
  have kg548 := ((((((((((((((((Keep.refl _ [a326, a1, a342, a371, a389]).ext E326).trans K331 (aS (om 0 rfl) all0)).wr W333 (om 1 rfl)).ext E342).trans K347 (aS (om 2 rfl) all0)).wr W349 (om 1 rfl)).wr W358 (om 1 rfl)).ext E362).wr W366 (om 1 rfl)).ext E371).trans K377 (aS (om 3 rfl) all0)).wr W379 (om 1 rfl)).ext E389).trans K394 (aS (om 4 rfl) all0)).wr W396 (om 1 rfl))
  have F549 := (F327.keep kg548)
  have lt550 := Nat.lt_trans lo326 lox331_2
  have lt551 := Nat.lt_trans lt550 lo342
  have lt552 := Nat.lt_trans lt551 lox347_2
  have lt553 := Nat.lt_trans lt552 lo362
  have lt554 := Nat.lt_trans lt553 lo371
  have lt555 := Nat.lt_trans lt554 lo389
  have ni556 := (ninS (Ne.symm (Nat.ne_of_lt lt335)) (ninS (Nat.ne_of_lt lo326) (ninS (Nat.ne_of_lt lt551) (ninS (Nat.ne_of_lt lt554) (ninS (Nat.ne_of_lt lt555) nin0)))))
  have F557 := (x315_4.keep kg537 ni556)
  have F558 := (x315_5.keep kg537 ni556)
  have F559 := (x315_6.keep kg537 ni556)
  have kg560 := (((((((((((((((Keep.refl _ [a326, a1, a342, a371, a389]).trans K331 (aS (om 0 rfl) all0)).wr W333 (om 1 rfl)).ext E342).trans K347 (aS (om 2 rfl) all0)).wr W349 (om 1 rfl)).wr W358 (om 1 rfl)).ext E362).wr W366 (om 1 rfl)).ext E371).trans K377 (aS (om 3 rfl) all0)).wr W379 (om 1 rfl)).ext E389).trans K394 (aS (om 4 rfl) all0)).wr W396 (om 1 rfl))
  have F561 := (A326.keep kg560)
  have kg562 := ((((((((((((((Keep.refl _ [a1, a342, a371, a389]).wr W333 (om 0 rfl)).ext E342).trans K347 (aS (om 1 rfl) all0)).wr W349 (om 0 rfl)).wr W358 (om 0 rfl)).ext E362).wr W366 (om 0 rfl)).ext E371).trans K377 (aS (om 2 rfl) all0)).wr W379 (om 0 rfl)).ext E389).trans K394 (aS (om 3 rfl) all0)).wr W396 (om 0 rfl))
  have lt563 := Nat.lt_trans lox331_2 lo342
  have lt564 := Nat.lt_trans lt563 lox347_2
  have lt565 := Nat.lt_trans lt564 lo362
  have lt566 := Nat.lt_trans lt565 lo371
  have lt567 := Nat.lt_trans lt566 lo389
  have ni568 := (ninS (Ne.symm (Nat.ne_of_lt lt336)) (ninS (Nat.ne_of_lt lt563) (ninS (Nat.ne_of_lt lt566) (ninS (Nat.ne_of_lt lt567) nin0))))
  have F569 := (x331_0.keep kg562 ni568)
  have F570 := (x331_1.keep kg562 ni568)
  have kg571 := (((((((((((((Keep.refl _ [a342, a1, a371, a389]).ext E342).trans K347 (aS (om 0 rfl) all0)).wr W349 (om 1 rfl)).wr W358 (om 1 rfl)).ext E362).wr W366 (om 1 rfl)).ext E371).trans K377 (aS (om 2 rfl) all0)).wr W379 (om 1 rfl)).ext E389).trans K394 (aS (om 3 rfl) all0)).wr W396 (om 1 rfl))
  have F572 := (F343.keep kg571)
  have lt573 := Nat.lt_trans lo342 lox347_2
  have lt574 := Nat.lt_trans lt573 lo362
  have lt575 := Nat.lt_trans lt574 lo371
  have lt576 := Nat.lt_trans lt575 lo389
  have ni577 := (ninS (Ne.symm (Nat.ne_of_lt lt351)) (ninS (Nat.ne_of_lt lo342) (ninS (Nat.ne_of_lt lt575) (ninS (Nat.ne_of_lt lt576) nin0))))
  have F578 := (x331_4.keep kg562 ni577)
  have F579 := (x331_5.keep kg562 ni577)
  have F580 := (x331_6.keep kg562 ni577)
  have kg581 := ((((((((((((Keep.refl _ [a342, a1, a371, a389]).trans K347 (aS (om 0 rfl) all0)).wr W349 (om 1 rfl)).wr W358 (om 1 rfl)).ext E362).wr W366 (om 1 rfl)).ext E371).trans K377 (aS (om 2 rfl) all0)).wr W379 (om 1 rfl)).ext E389).trans K394 (aS (om 3 rfl) all0)).wr W396 (om 1 rfl))
  have F582 := (A342.keep kg581)
  have kg583 := (((((((((((Keep.refl _ [a1, a371, a389]).wr W349 (om 0 rfl)).wr W358 (om 0 rfl)).ext E362).wr W366 (om 0 rfl)).ext E371).trans K377 (aS (om 1 rfl) all0)).wr W379 (om 0 rfl)).ext E389).trans K394 (aS (om 2 rfl) all0)).wr W396 (om 0 rfl))
  have lt584 := Nat.lt_trans lox347_2 lo362
  have lt585 := Nat.lt_trans lt584 lo371
  have lt586 := Nat.lt_trans lt585 lo389
  have ni587 := (ninS (Ne.symm (Nat.ne_of_lt lt352)) (ninS (Nat.ne_of_lt lt585) (ninS (Nat.ne_of_lt lt586) nin0)))
  have F588 := (x347_0.keep kg583 ni587)
  have F589 := (x347_1.keep kg583 ni587)
  have kg590 := (((((((((Keep.refl _ [a1, a371, a389]).ext E362).wr W366 (om 0 rfl)).ext E371).trans K377 (aS (om 1 rfl) all0)).wr W379 (om 0 rfl)).ext E389).trans K394 (aS (om 2 rfl) all0)).wr W396 (om 0 rfl))
  have F591 := (F364.keep kg590)
  have lt592 := Nat.lt_trans lo362 lo371
  have lt593 := Nat.lt_trans lt592 lo389
  have ni594 := (ninS (Ne.symm (Nat.ne_of_lt lt381)) (ninS (Nat.ne_of_lt lt592) (ninS (Nat.ne_of_lt lt593) nin0)))
  have F595 := (x347_4.keep kg583 ni594)
  have F596 := (x347_5.keep kg583 ni594)
  have F597 := (x347_6.keep kg583 ni594)
  exact ⟨a240, a246, a254, a262, r3_267, a294, r3_300, a310, r3_315, a326, r3_331, a342, r3_347, k240, k254, k246, rfl, N396, ((((((((((((((((((((((((((((((((((Keep.refl _ [a1]).ext E240).wr W242 (om 0 rfl)).ext E246).wr W249 (om 0 rfl)).ext E254).wr W257 (om 0 rfl)).ext E262).trans K267 (aS (Or.inr gh262) all0)).wr W269 (om 0 rfl)).ext E279).trans K283 (aS (Or.inr gh279) all0)).wr W285 (om 0 rfl)).ext E294).trans K300 (aS (Or.inr gh294) all0)).wr W302 (om 0 rfl)).ext E310).trans K315 (aS (Or.inr gh310) all0)).wr W317 (om 0 rfl)).ext E326).trans K331 (aS (Or.inr gh326) all0)).wr W333 (om 0 rfl)).ext E342).trans K347 (aS (Or.inr gh342) all0)).wr W349 (om 0 rfl)).wr W358 (om 0 rfl)).ext E362).wr W366 (om 0 rfl)).ext E371).trans K377 (aS (Or.inr gh371) all0)).wr W379 (om 0 rfl)).ext E389).trans K394 (aS (Or.inr gh389) all0)).wr W396 (om 0 rfl)), F404, F405, F406, F407, F408, F409, F410, F411, F412, F413, gh240, lo246, lo254, lo262, lox267_2, lt414, lox300_2, lo310, lox315_2, lo326, lox331_2, lo342, lox347_2, F416, F418, F420, F438, F455, F471, B246, F473, F488, F489, F491, F503, F504, F505, F507, F519, F520, F522, F532, F533, F534, F536, F546, F547, F549, F557, F558, F559, F561, F569, F570, F572, F578, F579, F580, F582, F588, F589, F591, F595, F596, F597⟩
theorem dp53_11_0 : decode prog_53_method_11_code 0 = .ok (.aload_n 0, 1) := by decide +kernel
theorem dp53_11_1 : decode prog_53_method_11_code 1 = .ok (.getfield 13, 3) := by decide +kernel
theorem dp53_11_4 : decode prog_53_method_11_code 4 = .ok (.areturn, 1) := by decide +kernel
def Q_pt_gk (Z : State) (ku0 ku1 ku2 ku3 aDef aCac aEmp aMir : Addr) (kDef : ClassId) (cCac : Cell) (a1 : Addr) (d1 : Addr) (h0 : Heap) (n0 : Nat) (v : Option Value) (h : Heap) (L : List Loc) : Prop := v = some (.ref d1) ∧ Fr n0 L ∧ h = h0
theorem ef_pt_gk (m : MethodId) (x0 : Addr) : entryFrame m #[(.ref x0)] 1 = mkF m 0 #[vr x0] [] := by first | (simp [entryFrame, mkF, argsToLocals, Value.category]; done) | rfl
theorem rm_pt_gk (l : Launch) (Z : State) (a0 : Array Value) (hw : HW Z a0) (ws : List Jvm.Cond) (ku0 ku1 ku2 ku3 aDef aCac aEmp aMir : Addr) (kDef : ClassId) (cCac : Cell) (F0 : OwnFacts Z ku0 ku1 ku2 ku3 aDef aCac aEmp aMir kDef cCac) (a1 : Addr) (d1 : Addr) (h0 : Heap) (n0 : Nat) (O0 : Old Z n0 h0) (PQ116 : Fld Z h0 a1 "com/example/reweave/reweave/control/Point" "kind" "Lcom/example/reweave/reweave/control/Point$Kind;" (.ref d1)) :
    MetFree l mn2 (head1 (Jvm.Cond.code mn2 prog_53_method_11_code 1 (some (.object "com/example/reweave/reweave/control/Point$Kind")) :: ws) (rk 0 0 0 0)) (fun a U => a = #[(.ref a1)] ∧ Z.Warmed39 U.vm ∧ U.heap = h0) (fun _ _ _ _ _ => True) (fun _ U o U' => ∃ v L, o = .returned v ∧ Q_pt_gk Z ku0 ku1 ku2 ku3 aDef aCac aEmp aMir kDef cCac a1 d1 h0 n0 v U'.heap L ∧ FrameEnd U o U' L (rk 0 0 0 0).cells (rk 0 0 0 0).slots) := by
  refine MetFree.of_bodySF (plainFor_of_name pn_com_example_reweave_reweave_control_Point) hisR ?_
  intro p e s m args below meth c s₁ Bd hml0 hP hK
  obtain ⟨rfl, hZ, hh⟩ := hP
  have hx := Bd.exec
  have hby := Bd.bytes
  have hml : c.maxLocals = 1 := hml0
  have hown : s.vm.findClass "com/example/reweave/reweave/control/Point" = some m.cls := findClass_of_methodNamed Bd.named
  have hnm := (name_of_methodNamed Bd.named Bd.method).1
  have X0 : Stand p l e (rk 0 0 0 0) s m #[(.ref a1)] below meth c s₁ [] 0 0 := Stand.of_body Bd
  have e0 : s₁.heap = h0 := by rw [← hh, Bd.state]; rfl
  have N0 := Fr.nil n0
  refine og (Q := fun o U' => ∃ v L, o = .returned v ∧ Q_pt_gk Z ku0 ku1 ku2 ku3 aDef aCac aEmp aMir kDef cCac a1 d1 h0 n0 v U'.heap L ∧ FrameEnd s o U' L (rk 0 0 0 0).cells (rk 0 0 0 0).slots) (fun t k => castTop (ef_pt_gk m a1) k) ?_
  show OG p e below _ s₁ m 0 #[vr a1] []
  refine qa X0.here hx hby dp53_11_0 rfl rfl ?_
  obtain ⟨T598, X598, e598, st598⟩ := getF X0 hx hZ hown (host := "") (Or.inl (ow hw 183 rfl)) Via.refl e0 PQ116 (g := (mkF m 1 #[vr a1] [(.ref a1)])) rfl rfl (hb hby dp53_11_1)
  refine og st598 ?_
  show OG p e below _ T598 m 4 #[vr a1] [(.ref d1)]
  obtain ⟨fs, hr, hrun, hended, hW, hsame⟩ := X598.leave (v := some (.ref d1)) (fun h => by rw [Bd.returns] at h; cases h)
  refine ⟨_, _, retOut X598 hx Bd.returns rfl (Or.inr (Or.inr (Or.inr (Or.inr ⟨rfl, rfl, rfl⟩)))) (hb hby dp53_11_4) hr, hrun, hended, _, _, rfl, ?_, ⟨_, rfl⟩, hW, hsame.mono (by decide) (by decide)⟩
  show Q_pt_gk Z ku0 ku1 ku2 ku3 aDef aCac aEmp aMir kDef cCac a1 d1 h0 n0 _ T598.heap _
  rw [e598]
  exact ⟨rfl, N0, rfl⟩
theorem dp53_12_0 : decode prog_53_method_12_code 0 = .ok (.aload_n 0, 1) := by decide +kernel
theorem dp53_12_1 : decode prog_53_method_12_code 1 = .ok (.getfield 19, 3) := by decide +kernel
theorem dp53_12_4 : decode prog_53_method_12_code 4 = .ok (.ireturn, 1) := by decide +kernel
def Q_pt_gt (Z : State) (ku0 ku1 ku2 ku3 aDef aCac aEmp aMir : Addr) (kDef : ClassId) (cCac : Cell) (a1 : Addr) (p9 : Int32) (h0 : Heap) (n0 : Nat) (v : Option Value) (h : Heap) (L : List Loc) : Prop := v = some (.int p9) ∧ Fr n0 L ∧ h = h0
theorem ef_pt_gt (m : MethodId) (x0 : Addr) : entryFrame m #[(.ref x0)] 1 = mkF m 0 #[vr x0] [] := by first | (simp [entryFrame, mkF, argsToLocals, Value.category]; done) | rfl
theorem rm_pt_gt (l : Launch) (Z : State) (a0 : Array Value) (hw : HW Z a0) (ws : List Jvm.Cond) (ku0 ku1 ku2 ku3 aDef aCac aEmp aMir : Addr) (kDef : ClassId) (cCac : Cell) (F0 : OwnFacts Z ku0 ku1 ku2 ku3 aDef aCac aEmp aMir kDef cCac) (a1 : Addr) (p9 : Int32) (h0 : Heap) (n0 : Nat) (O0 : Old Z n0 h0) (PQ117 : Fld Z h0 a1 "com/example/reweave/reweave/control/Point" "thread" "I" (.int p9)) :
    MetFree l mn5 (head1 (Jvm.Cond.code mn5 prog_53_method_12_code 1 (some .int) :: ws) (rk 0 0 0 0)) (fun a U => a = #[(.ref a1)] ∧ Z.Warmed39 U.vm ∧ U.heap = h0) (fun _ _ _ _ _ => True) (fun _ U o U' => ∃ v L, o = .returned v ∧ Q_pt_gt Z ku0 ku1 ku2 ku3 aDef aCac aEmp aMir kDef cCac a1 p9 h0 n0 v U'.heap L ∧ FrameEnd U o U' L (rk 0 0 0 0).cells (rk 0 0 0 0).slots) := by
  refine MetFree.of_bodySF (plainFor_of_name pn_com_example_reweave_reweave_control_Point) hisR ?_
  intro p e s m args below meth c s₁ Bd hml0 hP hK
  obtain ⟨rfl, hZ, hh⟩ := hP
  have hx := Bd.exec
  have hby := Bd.bytes
  have hml : c.maxLocals = 1 := hml0
  have hown : s.vm.findClass "com/example/reweave/reweave/control/Point" = some m.cls := findClass_of_methodNamed Bd.named
  have hnm := (name_of_methodNamed Bd.named Bd.method).1
  have X0 : Stand p l e (rk 0 0 0 0) s m #[(.ref a1)] below meth c s₁ [] 0 0 := Stand.of_body Bd
  have e0 : s₁.heap = h0 := by rw [← hh, Bd.state]; rfl
  have N0 := Fr.nil n0
  refine og (Q := fun o U' => ∃ v L, o = .returned v ∧ Q_pt_gt Z ku0 ku1 ku2 ku3 aDef aCac aEmp aMir kDef cCac a1 p9 h0 n0 v U'.heap L ∧ FrameEnd s o U' L (rk 0 0 0 0).cells (rk 0 0 0 0).slots) (fun t k => castTop (ef_pt_gt m a1) k) ?_
  show OG p e below _ s₁ m 0 #[vr a1] []
  refine qa X0.here hx hby dp53_12_0 rfl rfl ?_
  obtain ⟨T599, X599, e599, st599⟩ := getF X0 hx hZ hown (host := "") (Or.inl (ow hw 185 rfl)) Via.refl e0 PQ117 (g := (mkF m 1 #[vr a1] [(.ref a1)])) rfl rfl (hb hby dp53_12_1)
  refine og st599 ?_
  show OG p e below _ T599 m 4 #[vr a1] [(.int p9)]
  obtain ⟨fs, hr, hrun, hended, hW, hsame⟩ := X599.leave (v := some (.int p9)) (fun h => by rw [Bd.returns] at h; cases h)
  refine ⟨_, _, retOut X599 hx Bd.returns rfl (Or.inl ⟨rfl, Or.inl rfl, _, rfl⟩) (hb hby dp53_12_4) hr, hrun, hended, _, _, rfl, ?_, ⟨_, rfl⟩, hW, hsame.mono (by decide) (by decide)⟩
  show Q_pt_gt Z ku0 ku1 ku2 ku3 aDef aCac aEmp aMir kDef cCac a1 p9 h0 n0 _ T599.heap _
  rw [e599]
  exact ⟨rfl, N0, rfl⟩
theorem dp53_13_0 : decode prog_53_method_13_code 0 = .ok (.aload_n 0, 1) := by decide +kernel
theorem dp53_13_1 : decode prog_53_method_13_code 1 = .ok (.getfield 23, 3) := by decide +kernel
theorem dp53_13_4 : decode prog_53_method_13_code 4 = .ok (.areturn, 1) := by decide +kernel
def Q_pt_gl (Z : State) (ku0 ku1 ku2 ku3 aDef aCac aEmp aMir : Addr) (kDef : ClassId) (cCac : Cell) (a1 : Addr) (h0 : Heap) (n0 : Nat) (v : Option Value) (h : Heap) (L : List Loc) : Prop := v = some .null ∧ Fr n0 L ∧ h = h0
theorem ef_pt_gl (m : MethodId) (x0 : Addr) : entryFrame m #[(.ref x0)] 1 = mkF m 0 #[vr x0] [] := by first | (simp [entryFrame, mkF, argsToLocals, Value.category]; done) | rfl
theorem rm_pt_gl (l : Launch) (Z : State) (a0 : Array Value) (hw : HW Z a0) (ws : List Jvm.Cond) (ku0 ku1 ku2 ku3 aDef aCac aEmp aMir : Addr) (kDef : ClassId) (cCac : Cell) (F0 : OwnFacts Z ku0 ku1 ku2 ku3 aDef aCac aEmp aMir kDef cCac) (a1 : Addr) (h0 : Heap) (n0 : Nat) (O0 : Old Z n0 h0) (PQ118 : Fld Z h0 a1 "com/example/reweave/reweave/control/Point" "location" "Lcom/example/reweave/reweave/control/Location;" .null) :
    MetFree l mn3 (head1 (Jvm.Cond.code mn3 prog_53_method_13_code 1 (some (.object "com/example/reweave/reweave/control/Location")) :: ws) (rk 0 0 0 0)) (fun a U => a = #[(.ref a1)] ∧ Z.Warmed39 U.vm ∧ U.heap = h0) (fun _ _ _ _ _ => True) (fun _ U o U' => ∃ v L, o = .returned v ∧ Q_pt_gl Z ku0 ku1 ku2 ku3 aDef aCac aEmp aMir kDef cCac a1 h0 n0 v U'.heap L ∧ FrameEnd U o U' L (rk 0 0 0 0).cells (rk 0 0 0 0).slots) := by
  refine MetFree.of_bodySF (plainFor_of_name pn_com_example_reweave_reweave_control_Point) hisR ?_
  intro p e s m args below meth c s₁ Bd hml0 hP hK
  obtain ⟨rfl, hZ, hh⟩ := hP
  have hx := Bd.exec
  have hby := Bd.bytes
  have hml : c.maxLocals = 1 := hml0
  have hown : s.vm.findClass "com/example/reweave/reweave/control/Point" = some m.cls := findClass_of_methodNamed Bd.named
  have hnm := (name_of_methodNamed Bd.named Bd.method).1
  have X0 : Stand p l e (rk 0 0 0 0) s m #[(.ref a1)] below meth c s₁ [] 0 0 := Stand.of_body Bd
  have e0 : s₁.heap = h0 := by rw [← hh, Bd.state]; rfl
  have N0 := Fr.nil n0
  refine og (Q := fun o U' => ∃ v L, o = .returned v ∧ Q_pt_gl Z ku0 ku1 ku2 ku3 aDef aCac aEmp aMir kDef cCac a1 h0 n0 v U'.heap L ∧ FrameEnd s o U' L (rk 0 0 0 0).cells (rk 0 0 0 0).slots) (fun t k => castTop (ef_pt_gl m a1) k) ?_
  show OG p e below _ s₁ m 0 #[vr a1] []
  refine qa X0.here hx hby dp53_13_0 rfl rfl ?_
  obtain ⟨T600, X600, e600, st600⟩ := getF X0 hx hZ hown (host := "") (Or.inl (ow hw 187 rfl)) Via.refl e0 PQ118 (g := (mkF m 1 #[vr a1] [(.ref a1)])) rfl rfl (hb hby dp53_13_1)
  refine og st600 ?_
  show OG p e below _ T600 m 4 #[vr a1] [.null]
  obtain ⟨fs, hr, hrun, hended, hW, hsame⟩ := X600.leave (v := some .null) (fun h => by rw [Bd.returns] at h; cases h)
  refine ⟨_, _, retOut X600 hx Bd.returns rfl (Or.inr (Or.inr (Or.inr (Or.inr ⟨rfl, rfl, rfl⟩)))) (hb hby dp53_13_4) hr, hrun, hended, _, _, rfl, ?_, ⟨_, rfl⟩, hW, hsame.mono (by decide) (by decide)⟩
  show Q_pt_gl Z ku0 ku1 ku2 ku3 aDef aCac aEmp aMir kDef cCac a1 h0 n0 _ T600.heap _
  rw [e600]
  exact ⟨rfl, N0, rfl⟩
theorem dp53_14_0 : decode prog_53_method_14_code 0 = .ok (.aload_n 0, 1) := by decide +kernel
theorem dp53_14_1 : decode prog_53_method_14_code 1 = .ok (.getfield 27, 3) := by decide +kernel
theorem dp53_14_4 : decode prog_53_method_14_code 4 = .ok (.areturn, 1) := by decide +kernel
def Q_pt_gr (Z : State) (ku0 ku1 ku2 ku3 aDef aCac aEmp aMir : Addr) (kDef : ClassId) (cCac : Cell) (a1 : Addr) (d1 : Addr) (h0 : Heap) (n0 : Nat) (v : Option Value) (h : Heap) (L : List Loc) : Prop := v = some (.ref d1) ∧ Fr n0 L ∧ h = h0
theorem ef_pt_gr (m : MethodId) (x0 : Addr) : entryFrame m #[(.ref x0)] 1 = mkF m 0 #[vr x0] [] := by first | (simp [entryFrame, mkF, argsToLocals, Value.category]; done) | rfl
theorem rm_pt_gr (l : Launch) (Z : State) (a0 : Array Value) (hw : HW Z a0) (ws : List Jvm.Cond) (ku0 ku1 ku2 ku3 aDef aCac aEmp aMir : Addr) (kDef : ClassId) (cCac : Cell) (F0 : OwnFacts Z ku0 ku1 ku2 ku3 aDef aCac aEmp aMir kDef cCac) (a1 : Addr) (d1 : Addr) (h0 : Heap) (n0 : Nat) (O0 : Old Z n0 h0) (PQ119 : Fld Z h0 a1 "com/example/reweave/reweave/control/Point" "runnable" "Ljava/util/List;" (.ref d1)) :
    MetFree l mn4 (head1 (Jvm.Cond.code mn4 prog_53_method_14_code 1 (some (.object "java/util/List")) :: ws) (rk 0 0 0 0)) (fun a U => a = #[(.ref a1)] ∧ Z.Warmed39 U.vm ∧ U.heap = h0) (fun _ _ _ _ _ => True) (fun _ U o U' => ∃ v L, o = .returned v ∧ Q_pt_gr Z ku0 ku1 ku2 ku3 aDef aCac aEmp aMir kDef cCac a1 d1 h0 n0 v U'.heap L ∧ FrameEnd U o U' L (rk 0 0 0 0).cells (rk 0 0 0 0).slots) := by
  refine MetFree.of_bodySF (plainFor_of_name pn_com_example_reweave_reweave_control_Point) hisR ?_
  intro p e s m args below meth c s₁ Bd hml0 hP hK
  obtain ⟨rfl, hZ, hh⟩ := hP
  have hx := Bd.exec
  have hby := Bd.bytes
  have hml : c.maxLocals = 1 := hml0
  have hown : s.vm.findClass "com/example/reweave/reweave/control/Point" = some m.cls := findClass_of_methodNamed Bd.named
  have hnm := (name_of_methodNamed Bd.named Bd.method).1
  have X0 : Stand p l e (rk 0 0 0 0) s m #[(.ref a1)] below meth c s₁ [] 0 0 := Stand.of_body Bd
  have e0 : s₁.heap = h0 := by rw [← hh, Bd.state]; rfl
  have N0 := Fr.nil n0
  refine og (Q := fun o U' => ∃ v L, o = .returned v ∧ Q_pt_gr Z ku0 ku1 ku2 ku3 aDef aCac aEmp aMir kDef cCac a1 d1 h0 n0 v U'.heap L ∧ FrameEnd s o U' L (rk 0 0 0 0).cells (rk 0 0 0 0).slots) (fun t k => castTop (ef_pt_gr m a1) k) ?_
  show OG p e below _ s₁ m 0 #[vr a1] []
  refine qa X0.here hx hby dp53_14_0 rfl rfl ?_
  obtain ⟨T601, X601, e601, st601⟩ := getF X0 hx hZ hown (host := "") (Or.inl (ow hw 189 rfl)) Via.refl e0 PQ119 (g := (mkF m 1 #[vr a1] [(.ref a1)])) rfl rfl (hb hby dp53_14_1)
  refine og st601 ?_
  show OG p e below _ T601 m 4 #[vr a1] [(.ref d1)]
  obtain ⟨fs, hr, hrun, hended, hW, hsame⟩ := X601.leave (v := some (.ref d1)) (fun h => by rw [Bd.returns] at h; cases h)
  refine ⟨_, _, retOut X601 hx Bd.returns rfl (Or.inr (Or.inr (Or.inr (Or.inr ⟨rfl, rfl, rfl⟩)))) (hb hby dp53_14_4) hr, hrun, hended, _, _, rfl, ?_, ⟨_, rfl⟩, hW, hsame.mono (by decide) (by decide)⟩
  show Q_pt_gr Z ku0 ku1 ku2 ku3 aDef aCac aEmp aMir kDef cCac a1 d1 h0 n0 _ T601.heap _
  rw [e601]
  exact ⟨rfl, N0, rfl⟩
theorem dp53_15_0 : decode prog_53_method_15_code 0 = .ok (.aload_n 0, 1) := by decide +kernel
theorem dp53_15_1 : decode prog_53_method_15_code 1 = .ok (.getfield 31, 3) := by decide +kernel
theorem dp53_15_4 : decode prog_53_method_15_code 4 = .ok (.areturn, 1) := by decide +kernel
def Q_pt_go_ (Z : State) (ku0 ku1 ku2 ku3 aDef aCac aEmp aMir : Addr) (kDef : ClassId) (cCac : Cell) (a1 : Addr) (d1 : Addr) (h0 : Heap) (n0 : Nat) (v : Option Value) (h : Heap) (L : List Loc) : Prop := v = some (.ref d1) ∧ Fr n0 L ∧ h = h0
theorem ef_pt_go_ (m : MethodId) (x0 : Addr) : entryFrame m #[(.ref x0)] 1 = mkF m 0 #[vr x0] [] := by first | (simp [entryFrame, mkF, argsToLocals, Value.category]; done) | rfl
theorem rm_pt_go_ (l : Launch) (Z : State) (a0 : Array Value) (hw : HW Z a0) (ws : List Jvm.Cond) (ku0 ku1 ku2 ku3 aDef aCac aEmp aMir : Addr) (kDef : ClassId) (cCac : Cell) (F0 : OwnFacts Z ku0 ku1 ku2 ku3 aDef aCac aEmp aMir kDef cCac) (a1 : Addr) (d1 : Addr) (h0 : Heap) (n0 : Nat) (O0 : Old Z n0 h0) (PQ120 : Fld Z h0 a1 "com/example/reweave/reweave/control/Point" "timeOuts" "Ljava/util/List;" (.ref d1)) :
    MetFree l mn6 (head1 (Jvm.Cond.code mn6 prog_53_method_15_code 1 (some (.object "java/util/List")) :: ws) (rk 0 0 0 0)) (fun a U => a = #[(.ref a1)] ∧ Z.Warmed39 U.vm ∧ U.heap = h0) (fun _ _ _ _ _ => True) (fun _ U o U' => ∃ v L, o = .returned v ∧ Q_pt_go_ Z ku0 ku1 ku2 ku3 aDef aCac aEmp aMir kDef cCac a1 d1 h0 n0 v U'.heap L ∧ FrameEnd U o U' L (rk 0 0 0 0).cells (rk 0 0 0 0).slots) := by
  refine MetFree.of_bodySF (plainFor_of_name pn_com_example_reweave_reweave_control_Point) hisR ?_
  intro p e s m args below meth c s₁ Bd hml0 hP hK
  obtain ⟨rfl, hZ, hh⟩ := hP
  have hx := Bd.exec
  have hby := Bd.bytes
  have hml : c.maxLocals = 1 := hml0
  have hown : s.vm.findClass "com/example/reweave/reweave/control/Point" = some m.cls := findClass_of_methodNamed Bd.named
  have hnm := (name_of_methodNamed Bd.named Bd.method).1
  have X0 : Stand p l e (rk 0 0 0 0) s m #[(.ref a1)] below meth c s₁ [] 0 0 := Stand.of_body Bd
  have e0 : s₁.heap = h0 := by rw [← hh, Bd.state]; rfl
  have N0 := Fr.nil n0
  refine og (Q := fun o U' => ∃ v L, o = .returned v ∧ Q_pt_go_ Z ku0 ku1 ku2 ku3 aDef aCac aEmp aMir kDef cCac a1 d1 h0 n0 v U'.heap L ∧ FrameEnd s o U' L (rk 0 0 0 0).cells (rk 0 0 0 0).slots) (fun t k => castTop (ef_pt_go_ m a1) k) ?_
  show OG p e below _ s₁ m 0 #[vr a1] []
  refine qa X0.here hx hby dp53_15_0 rfl rfl ?_
  obtain ⟨T602, X602, e602, st602⟩ := getF X0 hx hZ hown (host := "") (Or.inl (ow hw 191 rfl)) Via.refl e0 PQ120 (g := (mkF m 1 #[vr a1] [(.ref a1)])) rfl rfl (hb hby dp53_15_1)
  refine og st602 ?_
  show OG p e below _ T602 m 4 #[vr a1] [(.ref d1)]
  obtain ⟨fs, hr, hrun, hended, hW, hsame⟩ := X602.leave (v := some (.ref d1)) (fun h => by rw [Bd.returns] at h; cases h)
  refine ⟨_, _, retOut X602 hx Bd.returns rfl (Or.inr (Or.inr (Or.inr (Or.inr ⟨rfl, rfl, rfl⟩)))) (hb hby dp53_15_4) hr, hrun, hended, _, _, rfl, ?_, ⟨_, rfl⟩, hW, hsame.mono (by decide) (by decide)⟩
  show Q_pt_go_ Z ku0 ku1 ku2 ku3 aDef aCac aEmp aMir kDef cCac a1 d1 h0 n0 _ T602.heap _
  rw [e602]
  exact ⟨rfl, N0, rfl⟩
theorem dj37_2_0 : decode jdk_37_method_2_code 0 = .ok (.aload_n 0, 1) := by decide +kernel
theorem dj37_2_1 : decode jdk_37_method_2_code 1 = .ok (.getfield 7, 3) := by decide +kernel
theorem dj37_2_4 : decode jdk_37_method_2_code 4 = .ok (.ireturn, 1) := by decide +kernel
theorem pn_java_lang_Enum : plainName "java/lang/Enum" = true := by first | (simp [plainName, overriddenIn]; done) | decide +kernel
def Q_ord (Z : State) (ku0 ku1 ku2 ku3 aDef aCac aEmp aMir : Addr) (kDef : ClassId) (cCac : Cell) (a1 : Addr) (p9 : Int32) (h0 : Heap) (n0 : Nat) (v : Option Value) (h : Heap) (L : List Loc) : Prop := v = some (.int p9) ∧ Fr n0 L ∧ h = h0
theorem ef_ord (m : MethodId) (x0 : Addr) : entryFrame m #[(.ref x0)] 1 = mkF m 0 #[vr x0] [] := by first | (simp [entryFrame, mkF, argsToLocals, Value.category]; done) | rfl
theorem rm_ord (l : Launch) (Z : State) (a0 : Array Value) (hw : HW Z a0) (ws : List Jvm.Cond) (ku0 ku1 ku2 ku3 aDef aCac aEmp aMir : Addr) (kDef : ClassId) (cCac : Cell) (F0 : OwnFacts Z ku0 ku1 ku2 ku3 aDef aCac aEmp aMir kDef cCac) (a1 : Addr) (p9 : Int32) (h0 : Heap) (n0 : Nat) (O0 : Old Z n0 h0) (PQ121 : Fld Z h0 a1 "java/lang/Enum" "ordinal" "I" (.int p9)) :
    MetFree l mn17 (head1 (Jvm.Cond.code mn17 jdk_37_method_2_code 1 (some .int) :: ws) (rk 0 0 0 0)) (fun a U => a = #[(.ref a1)] ∧ Z.Warmed39 U.vm ∧ U.heap = h0) (fun _ _ _ _ _ => True) (fun _ U o U' => ∃ v L, o = .returned v ∧ Q_ord Z ku0 ku1 ku2 ku3 aDef aCac aEmp aMir kDef cCac a1 p9 h0 n0 v U'.heap L ∧ FrameEnd U o U' L (rk 0 0 0 0).cells (rk 0 0 0 0).slots) := by
  refine MetFree.of_bodySF (plainFor_of_name pn_java_lang_Enum) hisR ?_
  intro p e s m args below meth c s₁ Bd hml0 hP hK
  obtain ⟨rfl, hZ, hh⟩ := hP
  have hx := Bd.exec
  have hby := Bd.bytes
  have hml : c.maxLocals = 1 := hml0
  have hown : s.vm.findClass "java/lang/Enum" = some m.cls := findClass_of_methodNamed Bd.named
  have hnm := (name_of_methodNamed Bd.named Bd.method).1
  have X0 : Stand p l e (rk 0 0 0 0) s m #[(.ref a1)] below meth c s₁ [] 0 0 := Stand.of_body Bd
  have e0 : s₁.heap = h0 := by rw [← hh, Bd.state]; rfl
  have N0 := Fr.nil n0
  refine og (Q := fun o U' => ∃ v L, o = .returned v ∧ Q_ord Z ku0 ku1 ku2 ku3 aDef aCac aEmp aMir kDef cCac a1 p9 h0 n0 v U'.heap L ∧ FrameEnd s o U' L (rk 0 0 0 0).cells (rk 0 0 0 0).slots) (fun t k => castTop (ef_ord m a1) k) ?_
  show OG p e below _ s₁ m 0 #[vr a1] []
  refine qa X0.here hx hby dj37_2_0 rfl rfl ?_
  obtain ⟨T603, X603, e603, st603⟩ := getF X0 hx hZ hown (host := "") (Or.inl (ow hw 281 rfl)) Via.refl e0 PQ121 (g := (mkF m 1 #[vr a1] [(.ref a1)])) rfl rfl (hb hby dj37_2_1)
  refine og st603 ?_
  show OG p e below _ T603 m 4 #[vr a1] [(.int p9)]
  obtain ⟨fs, hr, hrun, hended, hW, hsame⟩ := X603.leave (v := some (.int p9)) (fun h => by rw [Bd.returns] at h; cases h)
  refine ⟨_, _, retOut X603 hx Bd.returns rfl (Or.inl ⟨rfl, Or.inl rfl, _, rfl⟩) (hb hby dj37_2_4) hr, hrun, hended, _, _, rfl, ?_, ⟨_, rfl⟩, hW, hsame.mono (by decide) (by decide)⟩
  show Q_ord Z ku0 ku1 ku2 ku3 aDef aCac aEmp aMir kDef cCac a1 p9 h0 n0 _ T603.heap _
  rw [e603]
  exact ⟨rfl, N0, rfl⟩
theorem dp65_2_0 : decode prog_65_method_2_code 0 = .ok (.aload_n 1, 1) := by decide +kernel
theorem dp65_2_1 : decode prog_65_method_2_code 1 = .ok (.aload_n 0, 1) := by decide +kernel
theorem dp65_2_2 : decode prog_65_method_2_code 2 = .ok (.getfield 16, 3) := by decide +kernel
theorem dp65_2_5 : decode prog_65_method_2_code 5 = .ok (.if_acmp .ne 15, 3) := by decide +kernel
theorem dp65_2_8 : decode prog_65_method_2_code 8 = .ok (.aload_n 0, 1) := by decide +kernel
theorem dp65_2_9 : decode prog_65_method_2_code 9 = .ok (.getfield 10, 3) := by decide +kernel
theorem dp65_2_12 : decode prog_65_method_2_code 12 = .ok (.invokeinterface 20 1, 5) := by decide +kernel
theorem dj38_9_7 : decode jdk_38_method_9_code 7 = .ok (.iconst 1, 1) := by decide +kernel
theorem dj38_9_8 : decode jdk_38_method_9_code 8 = .ok (.goto 4, 3) := by decide +kernel
def Q_ie0 (Z : State) (ku0 ku1 ku2 ku3 aDef aCac aEmp aMir : Addr) (kDef : ClassId) (cCac : Cell) (a1 : Addr) (h0 : Heap) (n0 : Nat) (v : Option Value) (h : Heap) (L : List Loc) : Prop := v = some (.int 1) ∧ Fr n0 L ∧ h = h0
theorem ef_ie0 (m : MethodId) (x0 : Addr) : entryFrame m #[(.ref x0)] 1 = mkF m 0 #[vr x0] [] := by first | (simp [entryFrame, mkF, argsToLocals, Value.category]; done) | rfl
theorem rm_ie0 (l : Launch) (Z : State) (a0 : Array Value) (hw : HW Z a0) (ws : List Jvm.Cond) (ku0 ku1 ku2 ku3 aDef aCac aEmp aMir : Addr) (kDef : ClassId) (cCac : Cell) (F0 : OwnFacts Z ku0 ku1 ku2 ku3 aDef aCac aEmp aMir kDef cCac) (a1 : Addr) (h0 : Heap) (n0 : Nat) (O0 : Old Z n0 h0) (PQ130 : Fld Z h0 a1 "java/util/ArrayList" "size" "I" (.int 0)) :
    MetFree l mn30 (head1 (Jvm.Cond.code mn30 jdk_38_method_9_code 1 (some .boolean) :: ws) (rk 0 0 0 0)) (fun a U => a = #[(.ref a1)] ∧ Z.Warmed39 U.vm ∧ U.heap = h0) (fun _ _ _ _ _ => True) (fun _ U o U' => ∃ v L, o = .returned v ∧ Q_ie0 Z ku0 ku1 ku2 ku3 aDef aCac aEmp aMir kDef cCac a1 h0 n0 v U'.heap L ∧ FrameEnd U o U' L (rk 0 0 0 0).cells (rk 0 0 0 0).slots) := by
  refine MetFree.of_bodySF (plainFor_of_name pn_java_util_ArrayList) hisR ?_
  intro p e s m args below meth c s₁ Bd hml0 hP hK
  obtain ⟨rfl, hZ, hh⟩ := hP
  have hx := Bd.exec
  have hby := Bd.bytes
  have hml : c.maxLocals = 1 := hml0
  have hown : s.vm.findClass "java/util/ArrayList" = some m.cls := findClass_of_methodNamed Bd.named
  have hnm := (name_of_methodNamed Bd.named Bd.method).1
  have X0 : Stand p l e (rk 0 0 0 0) s m #[(.ref a1)] below meth c s₁ [] 0 0 := Stand.of_body Bd
  have e0 : s₁.heap = h0 := by rw [← hh, Bd.state]; rfl
  have N0 := Fr.nil n0
  refine og (Q := fun o U' => ∃ v L, o = .returned v ∧ Q_ie0 Z ku0 ku1 ku2 ku3 aDef aCac aEmp aMir kDef cCac a1 h0 n0 v U'.heap L ∧ FrameEnd s o U' L (rk 0 0 0 0).cells (rk 0 0 0 0).slots) (fun t k => castTop (ef_ie0 m a1) k) ?_
  show OG p e below _ s₁ m 0 #[vr a1] []
  refine qa X0.here hx hby dj38_9_0 rfl rfl ?_
  obtain ⟨T606, X606, e606, st606⟩ := getF X0 hx hZ hown (host := "") (Or.inl (ow hw 40 rfl)) Via.refl e0 PQ130 (g := (mkF m 1 #[vr a1] [(.ref a1)])) rfl rfl (hb hby dj38_9_1)
  refine og st606 ?_
  show OG p e below _ T606 m 4 #[vr a1] [(.int 0)]
  refine og (fun _ k => XS.ifNo X606.here hx rfl (hb hby dj38_9_4) rfl (by decide) k) ?_
  show OG p e below _ T606 m 7 #[vr a1] []
  refine qc X606.here hx hby dj38_9_7 ?_
  refine og (fun _ k => XS.goto X606.here hx rfl (pc0 := 8) (pc' := 12) rfl (hb hby dj38_9_8) (by decide) (by decide) k) ?_
  obtain ⟨fs, hr, hrun, hended, hW, hsame⟩ := X606.leave (v := some (.int 1)) (fun h => by rw [Bd.returns] at h; cases h)
  refine ⟨_, _, retOut X606 hx Bd.returns rfl (Or.inl ⟨rfl, Or.inr (Or.inl rfl), _, rfl⟩) (hb hby dj38_9_12) hr, hrun, hended, _, _, rfl, ?_, ⟨_, rfl⟩, hW, hsame.mono (by decide) (by decide)⟩
  show Q_ie0 Z ku0 ku1 ku2 ku3 aDef aCac aEmp aMir kDef cCac a1 h0 n0 _ T606.heap _
  rw [e606]
  exact ⟨rfl, N0, rfl⟩
theorem dp65_2_17 : decode prog_65_method_2_code 17 = .ok (.ifCond .eq 19, 3) := by decide +kernel
theorem dp65_2_20 : decode prog_65_method_2_code 20 = .ok (.aload_n 0, 1) := by decide +kernel
theorem dp65_2_21 : decode prog_65_method_2_code 21 = .ok (.getfield 10, 3) := by decide +kernel
theorem dp65_2_24 : decode prog_65_method_2_code 24 = .ok (.aload_n 1, 1) := by decide +kernel
theorem dp65_2_25 : decode prog_65_method_2_code 25 = .ok (.invokeinterface 26 2, 5) := by decide +kernel
theorem pd_Ljava_lang_Object___Z : parseMethodDescriptor "(Ljava/lang/Object;)Z" = some ⟨[(.object "java/lang/Object")], some .boolean⟩ := by decide +kernel
theorem dp65_2_30 : decode prog_65_method_2_code 30 = .ok (.pop, 1) := by decide +kernel
theorem dp65_2_31 : decode prog_65_method_2_code 31 = .ok (.aload_n 0, 1) := by decide +kernel
theorem dp65_2_32 : decode prog_65_method_2_code 32 = .ok (.aload_n 1, 1) := by decide +kernel
theorem dp65_2_33 : decode prog_65_method_2_code 33 = .ok (.putfield 16, 3) := by decide +kernel
theorem dp65_2_36 : decode prog_65_method_2_code 36 = .ok (.aload_n 0, 1) := by decide +kernel
theorem dp65_2_37 : decode prog_65_method_2_code 37 = .ok (.getfield 10, 3) := by decide +kernel
theorem dp65_2_40 : decode prog_65_method_2_code 40 = .ok (.invokeinterface 30 1, 5) := by decide +kernel
theorem pd___I : parseMethodDescriptor "()I" = some ⟨[], some .int⟩ := by decide +kernel
theorem dp65_2_45 : decode prog_65_method_2_code 45 = .ok (.iconst 1, 1) := by decide +kernel
theorem dp65_2_46 : decode prog_65_method_2_code 46 = .ok (.isub, 1) := by decide +kernel
theorem dp65_2_47 : decode prog_65_method_2_code 47 = .ok (.ireturn, 1) := by decide +kernel
def Q_ixfn (Z : State) (ku0 ku1 ku2 ku3 aDef aCac aEmp aMir : Addr) (kDef : ClassId) (cCac : Cell) (a1 : Addr) (l1 : Addr) (mc1 : Int32) (h0 : Heap) (n0 : Nat) (v : Option Value) (h : Heap) (L : List Loc) : Prop := ∃ (r1 : Addr) (k1 : ClassId), v = some (.int 0) ∧ Fr n0 L ∧ Keep h0 h [a1, l1] ∧ Fld Z h a1 "com/example/reweave/reweave/control/SharedValues" "values" "Ljava/util/List;" (.ref l1) ∧ Fld Z h a1 "com/example/reweave/reweave/control/SharedValues" "last" "Ljava/lang/Object;" .null ∧ Fld Z h l1 "java/util/AbstractList" "modCount" "I" (.int (mc1 + (1 : Int32))) ∧ Fld Z h l1 "java/util/ArrayList" "elementData" "[Ljava/lang/Object;" (.ref r1) ∧ Fld Z h l1 "java/util/ArrayList" "size" "I" (.int 1) ∧ h0.size ≤ r1 ∧ Exa Z h r1 "[Ljava/lang/Object;" ∧ Arv Z h r1 k1 (.object "java/lang/Object") (10 : Int32) [.null, .null] .null ∧ Ovr Z k1 "java/lang/Object"
theorem ef_ixfn (m : MethodId) (x0 : Addr) : entryFrame m #[(.ref x0), .null] 2 = mkF m 0 #[vr x0, .val .null] [] := by first | (simp [entryFrame, mkF, argsToLocals, Value.category]; done) | rfl
theorem rm_ixfn (l : Launch) (Z : State) (a0 : Array Value) (hw : HW Z a0) (ws : List Jvm.Cond) (ku0 ku1 ku2 ku3 aDef aCac aEmp aMir : Addr) (kDef : ClassId) (cCac : Cell) (F0 : OwnFacts Z ku0 ku1 ku2 ku3 aDef aCac aEmp aMir kDef cCac) (a1 : Addr) (l1 : Addr) (mc1 : Int32) (h0 : Heap) (n0 : Nat) (O0 : Old Z n0 h0) (PQ122 : Fld Z h0 a1 "com/example/reweave/reweave/control/SharedValues" "values" "Ljava/util/List;" (.ref l1)) (PQ123 : Fld Z h0 a1 "com/example/reweave/reweave/control/SharedValues" "last" "Ljava/lang/Object;" .null) (PQ124 : Exa Z h0 l1 "java/util/ArrayList") (PQ125 : Exa Z h0 a1 "com/example/reweave/reweave/control/SharedValues") (PQ126 : n0 ≤ a1) (PQ127 : Fld Z h0 l1 "java/util/AbstractList" "modCount" "I" (.int mc1)) (PQ128 : Fld Z h0 l1 "java/util/ArrayList" "elementData" "[Ljava/lang/Object;" (.ref aDef)) (PQ129 : Fld Z h0 l1 "java/util/ArrayList" "size" "I" (.int 0)) (PO1 : a1 < l1) :
    MetFree l mn16 (head1 (Jvm.Cond.code mn16 prog_65_method_2_code 2 (some .int) :: ws) (rk 5 1 10 69)) (fun a U => a = #[(.ref a1), .null] ∧ Z.Warmed39 U.vm ∧ U.heap = h0) (fun _ _ _ _ _ => True) (fun _ U o U' => ∃ v L, o = .returned v ∧ Q_ixfn Z ku0 ku1 ku2 ku3 aDef aCac aEmp aMir kDef cCac a1 l1 mc1 h0 n0 v U'.heap L ∧ FrameEnd U o U' L (rk 5 1 10 69).cells (rk 5 1 10 69).slots) := by
  refine MetFree.of_bodySF (plainFor_of_name pn_com_example_reweave_reweave_control_SharedValues) hisR ?_
  intro p e s m args below meth c s₁ Bd hml0 hP hK
  obtain ⟨rfl, hZ, hh⟩ := hP
  have hx := Bd.exec
  have hby := Bd.bytes
  have hml : c.maxLocals = 2 := hml0
  have hown : s.vm.findClass "com/example/reweave/reweave/control/SharedValues" = some m.cls := findClass_of_methodNamed Bd.named
  have hnm := (name_of_methodNamed Bd.named Bd.method).1
  have X0 : Stand p l e (rk 5 1 10 69) s m #[(.ref a1), .null] below meth c s₁ [] 0 0 := Stand.of_body Bd
  have e0 : s₁.heap = h0 := by rw [← hh, Bd.state]; rfl
  have N0 := Fr.nil n0
  refine og (Q := fun o U' => ∃ v L, o = .returned v ∧ Q_ixfn Z ku0 ku1 ku2 ku3 aDef aCac aEmp aMir kDef cCac a1 l1 mc1 h0 n0 v U'.heap L ∧ FrameEnd s o U' L (rk 5 1 10 69).cells (rk 5 1 10 69).slots) (fun t k => castTop (ef_ixfn m a1) k) ?_
  show OG p e below _ s₁ m 0 #[vr a1, .val .null] []
  refine qa X0.here hx hby dp65_2_0 rfl rfl ?_
  refine qa X0.here hx hby dp65_2_1 rfl rfl ?_
  obtain ⟨T604, X604, e604, st604⟩ := getF X0 hx hZ hown (host := "") (Or.inl (ow hw 298 rfl)) Via.refl e0 PQ123 (g := (mkF m 2 #[vr a1, .val .null] [(.ref a1), .null])) rfl rfl (hb hby dp65_2_2)
  refine og st604 ?_
  show OG p e below _ T604 m 5 #[vr a1, .val .null] [.null, .null]
  refine og (fun _ k => acmp X604 hx rfl (cd := .ne) (o := 15) (x := .null) (y := .null) (pc0 := 5) (pc' := 8) rfl rfl rfl (hb hby dp65_2_5) rfl rfl (by decide) (by decide) k) ?_
  show OG p e below _ T604 m 8 #[vr a1, .val .null] []
  refine qa X604.here hx hby dp65_2_8 rfl rfl ?_
  obtain ⟨T605, X605, e605, st605⟩ := getF X604 hx hZ hown (host := "") (Or.inl (ow hw 220 rfl)) Via.refl e604 PQ122 (g := (mkF m 9 #[vr a1, .val .null] [(.ref a1)])) rfl rfl (hb hby dp65_2_9)
  refine og st605 ?_
  show OG p e below _ T605 m 12 #[vr a1, .val .null] [(.ref l1)]
  obtain ⟨cq607, kq607, qa607, qb607, qc607⟩ := isOf hZ e605 PQ124
  obtain ⟨_, _, ⟨T607, L607, k607, n607⟩, -, X607, ⟨Lc607, hQ607, l607, y607, z607⟩, st607⟩ := X605.interfaceBack hx (xi := mn44) (y := mn30) hown (mvT hZ (ow hw 300 rfl)) (mvT hZ (ow hw 301 rfl)) (mvT hZ (ow hw 302 rfl)) (mvT hZ (ow hw 303 rfl)) (mvT hZ (ow hw 108 rfl)) (mvT hZ (ow hw 109 rfl)) (mvT hZ (ow hw 110 rfl)) (mvT hZ (ow hw 304 rfl)) (by decide) (backOf (W := 0) (rm_ie0 l Z a0 hw [] ku0 ku1 ku2 ku3 aDef aCac aEmp aMir kDef cCac F0 l1 h0 n0 O0 PQ129) hZ (ow hw 112 rfl) (ow hw 2 rfl) (by decide) (by decide)) qa607 qb607 qc607 (g := (mkF m 12 #[vr a1, .val .null] [(.ref l1)])) rfl (by rw [hml]; rfl) (Steps.refl _) (argsL := []) (rest := []) (lenOf pd___Z rfl) rfl (by show 2 * 0 + _ ≤ _; exact Nat.le_of_eq rfl) (hb hby dp65_2_12) (fun _ _ => ⟨rfl, e605, (by decide : 0 + 0 ≤ _), (by decide : 0 + 0 ≤ _)⟩)
  dsimp only [Pt.U, Pt.locs, Pt.cells, Pt.slots] at X607 l607 y607 z607 st607 hQ607
  subst l607 y607 z607
  obtain ⟨rfl, Nq607, K607⟩ := hQ607
  obtain ⟨L607, X607, N607⟩ := pk X607 (Fr.app N0 Nq607)
  refine og (fun _ k => st607.trans k) ?_
  show OG p e below _ T607 m 17 #[vr a1, .val .null] [(.int 1)]
  refine og (fun _ k => XS.ifNo X607.here hx rfl (hb hby dp65_2_17) rfl (by decide) k) ?_
  show OG p e below _ T607 m 20 #[vr a1, .val .null] []
  refine qa X607.here hx hby dp65_2_20 rfl rfl ?_
  obtain ⟨T608, X608, e608, st608⟩ := getF X607 hx hZ hown (host := "") (Or.inl (ow hw 220 rfl)) Via.refl K607 PQ122 (g := (mkF m 21 #[vr a1, .val .null] [(.ref a1)])) rfl rfl (hb hby dp65_2_21)
  refine og st608 ?_
  show OG p e below _ T608 m 24 #[vr a1, .val .null] [(.ref l1)]
  refine qa X608.here hx hby dp65_2_24 rfl rfl ?_
  have le609 : n0 ≤ l1 := Nat.le_trans PQ126 (Nat.le_of_lt PO1)
  obtain ⟨cq610, kq610, qa610, qb610, qc610⟩ := isOf hZ e608 PQ124
  obtain ⟨_, _, ⟨T610, L610, k610, n610⟩, -, X610, ⟨Lc610, hQ610, l610, y610, z610⟩, st610⟩ := X608.interfaceBack hx (xi := mn42) (y := mn26) hown (mvT hZ (ow hw 305 rfl)) (mvT hZ (ow hw 306 rfl)) (mvT hZ (ow hw 307 rfl)) (mvT hZ (ow hw 308 rfl)) (mvT hZ (ow hw 35 rfl)) (mvT hZ (ow hw 309 rfl)) (mvT hZ (ow hw 310 rfl)) (mvT hZ (ow hw 304 rfl)) (by decide) (backOf (W := 0) (rm_addfn l Z a0 hw [] ku0 ku1 ku2 ku3 aDef aCac aEmp aMir kDef cCac F0 l1 mc1 h0 n0 O0 PQ124 PQ127 PQ128 PQ129 le609) hZ (ow hw 37 rfl) (ow hw 2 rfl) (by decide) (by decide)) qa610 qb610 qc610 (g := (mkF m 25 #[vr a1, .val .null] [.null, (.ref l1)])) rfl (by rw [hml]; rfl) (Steps.refl _) (argsL := [.null]) (rest := []) (lenOf pd_Ljava_lang_Object___Z rfl) rfl (by show 2 * 0 + _ ≤ _; exact Nat.le_of_eq rfl) (hb hby dp65_2_25) (fun _ _ => ⟨rfl, e608, (by decide : 0 + 1 ≤ _), (by decide : 0 + 10 ≤ _)⟩)
  dsimp only [Pt.U, Pt.locs, Pt.cells, Pt.slots] at X610 l610 y610 z610 st610 hQ610
  subst l610 y610 z610
  obtain ⟨r1_610, k1_610, rfl, Nq610, K610, x610_0, x610_1, x610_2, x610_3, x610_4, x610_5, x610_6⟩ := hQ610
  obtain ⟨L610, X610, N610⟩ := pk X610 (Fr.app N607 Nq610)
  have O610 := O0.keep K610 (allS le609 all0)
  have e610 : T610.heap = T610.heap := rfl
  have z611 := Nat.le_trans (Nat.le_refl _) K610.1
  have gex610_3 : n0 ≤ r1_610 := Nat.le_trans (own_sz O0) x610_3
  have ghx610_3 : h0.size ≤ r1_610 := Nat.le_trans (Nat.le_refl _) x610_3
  have lox610_3 : l1 < r1_610 := Nat.lt_of_lt_of_le PQ124.lt x610_3
  refine og (fun _ k => st610.trans k) ?_
  show OG p e below _ T610 m 30 #[vr a1, .val .null] [(.int 1)]
  refine og (fun _ k => XS.pop X610.here hx rfl (hb hby dp65_2_30) rfl rfl k) ?_
  refine qa X610.here hx hby dp65_2_31 rfl rfl ?_
  refine qa X610.here hx hby dp65_2_32 rfl rfl ?_
  have ni613 := (ninS (Nat.ne_of_lt PO1) nin0)
  have F614 := (PQ123.keep K610 ni613)
  have F615 := (PQ125.keep K610)
  obtain ⟨T612, h612, X612, e612, W612, st612⟩ := putF X610 hx hZ hown (host := "") (Or.inl (ow hw 298 rfl)) Via.refl e610 F614 F615 (Or.inl (ow hw 299 rfl)) (ow hw 212 rfl) (ty := (.object "java/lang/Object")) (by decide) rfl rfl (g := (mkF m 33 #[vr a1, .val .null] [.null, (.ref a1)])) rfl rfl (hb hby dp65_2_33)
  obtain ⟨L612, X612, N612⟩ := pk X612 (Fr.snoc X612 N610 PQ126)
  have O612 := O610.wr W612 PQ126
  have z616 := Nat.le_trans z611 (Nat.le_of_eq W612.size.symm)
  have F612 : Fld Z h612 a1 "com/example/reweave/reweave/control/SharedValues" "last" "Ljava/lang/Object;" .null := F614.same W612
  refine og st612 ?_
  show OG p e below _ T612 m 36 #[vr a1, .val .null] []
  refine qa X612.here hx hby dp65_2_36 rfl rfl ?_
  have F618 := (oo W612 (PQ122.keep K610 ni613) (lp_11 hw) (lp_10 hw) (by decide))
  obtain ⟨T617, X617, e617, st617⟩ := getF X612 hx hZ hown (host := "") (Or.inl (ow hw 220 rfl)) Via.refl e612 F618 (g := (mkF m 37 #[vr a1, .val .null] [(.ref a1)])) rfl rfl (hb hby dp65_2_37)
  refine og st617 ?_
  show OG p e below _ T617 m 40 #[vr a1, .val .null] [(.ref l1)]
  have kg619 := (((Keep.refl _ [l1, a1]).trans K610 (aS (om 0 rfl) all0)).wr W612 (om 1 rfl))
  have F620 := (PQ124.keep kg619)
  have F621 := (x610_2.other W612 (Or.inl (Ne.symm (Nat.ne_of_lt PO1))))
  obtain ⟨cq622, kq622, qa622, qb622, qc622⟩ := isOf hZ e617 F620
  obtain ⟨_, _, ⟨T622, L622, k622, n622⟩, -, X622, ⟨Lc622, hQ622, l622, y622, z622⟩, st622⟩ := X617.interfaceBack hx (xi := mn47) (y := mn31) hown (mvT hZ (ow hw 311 rfl)) (mvT hZ (ow hw 312 rfl)) (mvT hZ (ow hw 313 rfl)) (mvT hZ (ow hw 314 rfl)) (mvT hZ (ow hw 315 rfl)) (mvT hZ (ow hw 316 rfl)) (mvT hZ (ow hw 317 rfl)) (mvT hZ (ow hw 304 rfl)) (by decide) (backOf (W := 0) (rm_size l Z a0 hw [] ku0 ku1 ku2 ku3 aDef aCac aEmp aMir kDef cCac F0 l1 (1 : Int32) h612 n0 O612 F621) hZ (ow hw 318 rfl) (ow hw 2 rfl) (by decide) (by decide)) qa622 qb622 qc622 (g := (mkF m 40 #[vr a1, .val .null] [(.ref l1)])) rfl (by rw [hml]; rfl) (Steps.refl _) (argsL := []) (rest := []) (lenOf pd___I rfl) rfl (by show 2 * 0 + _ ≤ _; exact Nat.le_of_eq rfl) (hb hby dp65_2_40) (fun _ _ => ⟨rfl, e617, (by decide : 1 + 0 ≤ _), (by decide : 10 + 0 ≤ _)⟩)
  dsimp only [Pt.U, Pt.locs, Pt.cells, Pt.slots] at X622 l622 y622 z622 st622 hQ622
  subst l622 y622 z622
  obtain ⟨rfl, Nq622, K622⟩ := hQ622
  obtain ⟨L622, X622, N622⟩ := pk X622 (Fr.app N612 Nq622)
  refine og (fun _ k => st622.trans k) ?_
  show OG p e below _ T622 m 45 #[vr a1, .val .null] [(.int 1)]
  refine qc X622.here hx hby dp65_2_45 ?_
  refine qf X622.here hx hby dp65_2_46 rfl ?_
  show OG p e below _ T622 m 47 #[vr a1, .val .null] [(.int ((1 : Int32) - (1 : Int32)))]
  rw [show ((1 : Int32) - (1 : Int32)) = (0 : Int32) from by decide]
  obtain ⟨fs, hr, hrun, hended, hW, hsame⟩ := X622.leave (v := some (.int 0)) (fun h => by rw [Bd.returns] at h; cases h)
  refine ⟨_, _, retOut X622 hx Bd.returns rfl (Or.inl ⟨rfl, Or.inl rfl, _, rfl⟩) (hb hby dp65_2_47) hr, hrun, hended, _, _, rfl, ?_, ⟨_, rfl⟩, hW, hsame.mono (by decide) (by decide)⟩
  show Q_ixfn Z ku0 ku1 ku2 ku3 aDef aCac aEmp aMir kDef cCac a1 l1 mc1 h0 n0 _ T622.heap _
  rw [K622]
  have F623 := (x610_0.other W612 (Or.inl (Ne.symm (Nat.ne_of_lt PO1))))
  have F624 := (x610_1.other W612 (Or.inl (Ne.symm (Nat.ne_of_lt PO1))))
  have F625 := (x610_4.wr W612)
  have lt626 := Nat.lt_trans PO1 lox610_3
  have F627 := (x610_5.other W612 (Ne.symm (Nat.ne_of_lt lt626)))
  exact ⟨r1_610, k1_610, rfl, N622, (((Keep.refl _ [a1, l1]).trans K610 (aS (om 1 rfl) all0)).wr W612 (om 0 rfl)), F618, F612, F623, F624, F621, ghx610_3, F625, F627, x610_6⟩
def Q_ixfr (Z : State) (ku0 ku1 ku2 ku3 aDef aCac aEmp aMir : Addr) (kDef : ClassId) (cCac : Cell) (a1 : Addr) (l1 : Addr) (a2 : Addr) (K9 : String) (mc1 : Int32) (h0 : Heap) (n0 : Nat) (v : Option Value) (h : Heap) (L : List Loc) : Prop := ∃ (r1 : Addr) (k1 : ClassId), v = some (.int 0) ∧ Fr n0 L ∧ Keep h0 h [a1, l1] ∧ Fld Z h a1 "com/example/reweave/reweave/control/SharedValues" "values" "Ljava/util/List;" (.ref l1) ∧ Fld Z h a1 "com/example/reweave/reweave/control/SharedValues" "last" "Ljava/lang/Object;" (.ref a2) ∧ Fld Z h l1 "java/util/AbstractList" "modCount" "I" (.int (mc1 + (1 : Int32))) ∧ Fld Z h l1 "java/util/ArrayList" "elementData" "[Ljava/lang/Object;" (.ref r1) ∧ Fld Z h l1 "java/util/ArrayList" "size" "I" (.int 1) ∧ h0.size ≤ r1 ∧ Exa Z h r1 "[Ljava/lang/Object;" ∧ Arv Z h r1 k1 (.object "java/lang/Object") (10 : Int32) [(.ref a2), .null] .null ∧ Ovr Z k1 "java/lang/Object"
theorem ef_ixfr (m : MethodId) (x0 : Addr) (x1 : Addr) : entryFrame m #[(.ref x0), (.ref x1)] 2 = mkF m 0 #[vr x0, vr x1] [] := by first | (simp [entryFrame, mkF, argsToLocals, Value.category]; done) | rfl
theorem rm_ixfr (l : Launch) (Z : State) (a0 : Array Value) (hw : HW Z a0) (ws : List Jvm.Cond) (ku0 ku1 ku2 ku3 aDef aCac aEmp aMir : Addr) (kDef : ClassId) (cCac : Cell) (F0 : OwnFacts Z ku0 ku1 ku2 ku3 aDef aCac aEmp aMir kDef cCac) (a1 : Addr) (l1 : Addr) (a2 : Addr) (K9 : String) (mc1 : Int32) (h0 : Heap) (n0 : Nat) (O0 : Old Z n0 h0) (PQ131 : Fld Z h0 a1 "com/example/reweave/reweave/control/SharedValues" "values" "Ljava/util/List;" (.ref l1)) (PQ132 : Fld Z h0 a1 "com/example/reweave/reweave/control/SharedValues" "last" "Ljava/lang/Object;" .null) (PQ133 : Exa Z h0 l1 "java/util/ArrayList") (PQ134 : Exa Z h0 a1 "com/example/reweave/reweave/control/SharedValues") (PQ135 : n0 ≤ a1) (PQ136 : Fld Z h0 l1 "java/util/AbstractList" "modCount" "I" (.int mc1)) (PQ137 : Fld Z h0 l1 "java/util/ArrayList" "elementData" "[Ljava/lang/Object;" (.ref aDef)) (PQ138 : Fld Z h0 l1 "java/util/ArrayList" "size" "I" (.int 0)) (PQ139 : Exa Z h0 a2 K9) (PK9 : (Jvm.Cond.castable K9 "java/lang/Object").before a0 Z = true) (PO1 : a1 < l1) :
    MetFree l mn16 (head1 (Jvm.Cond.code mn16 prog_65_method_2_code 2 (some .int) :: ws) (rk 5 1 10 69)) (fun a U => a = #[(.ref a1), (.ref a2)] ∧ Z.Warmed39 U.vm ∧ U.heap = h0) (fun _ _ _ _ _ => True) (fun _ U o U' => ∃ v L, o = .returned v ∧ Q_ixfr Z ku0 ku1 ku2 ku3 aDef aCac aEmp aMir kDef cCac a1 l1 a2 K9 mc1 h0 n0 v U'.heap L ∧ FrameEnd U o U' L (rk 5 1 10 69).cells (rk 5 1 10 69).slots) := by
  refine MetFree.of_bodySF (plainFor_of_name pn_com_example_reweave_reweave_control_SharedValues) hisR ?_
  intro p e s m args below meth c s₁ Bd hml0 hP hK
  obtain ⟨rfl, hZ, hh⟩ := hP
  have hx := Bd.exec
  have hby := Bd.bytes
  have hml : c.maxLocals = 2 := hml0
  have hown : s.vm.findClass "com/example/reweave/reweave/control/SharedValues" = some m.cls := findClass_of_methodNamed Bd.named
  have hnm := (name_of_methodNamed Bd.named Bd.method).1
  have X0 : Stand p l e (rk 5 1 10 69) s m #[(.ref a1), (.ref a2)] below meth c s₁ [] 0 0 := Stand.of_body Bd
  have e0 : s₁.heap = h0 := by rw [← hh, Bd.state]; rfl
  have N0 := Fr.nil n0
  refine og (Q := fun o U' => ∃ v L, o = .returned v ∧ Q_ixfr Z ku0 ku1 ku2 ku3 aDef aCac aEmp aMir kDef cCac a1 l1 a2 K9 mc1 h0 n0 v U'.heap L ∧ FrameEnd s o U' L (rk 5 1 10 69).cells (rk 5 1 10 69).slots) (fun t k => castTop (ef_ixfr m a1 a2) k) ?_
  show OG p e below _ s₁ m 0 #[vr a1, vr a2] []
  refine qa X0.here hx hby dp65_2_0 rfl rfl ?_
  refine qa X0.here hx hby dp65_2_1 rfl rfl ?_
  obtain ⟨T628, X628, e628, st628⟩ := getF X0 hx hZ hown (host := "") (Or.inl (ow hw 298 rfl)) Via.refl e0 PQ132 (g := (mkF m 2 #[vr a1, vr a2] [(.ref a1), (.ref a2)])) rfl rfl (hb hby dp65_2_2)
  refine og st628 ?_
  show OG p e below _ T628 m 5 #[vr a1, vr a2] [.null, (.ref a2)]
  refine og (fun _ k => acmp X628 hx rfl (cd := .ne) (o := 15) (x := (.ref a2)) (y := .null) (pc0 := 5) (pc' := 20) rfl rfl rfl (hb hby dp65_2_5) rfl (own_rn _) (by decide) (by decide) k) ?_
  show OG p e below _ T628 m 20 #[vr a1, vr a2] []
  refine qa X628.here hx hby dp65_2_20 rfl rfl ?_
  obtain ⟨T629, X629, e629, st629⟩ := getF X628 hx hZ hown (host := "") (Or.inl (ow hw 220 rfl)) Via.refl e628 PQ131 (g := (mkF m 21 #[vr a1, vr a2] [(.ref a1)])) rfl rfl (hb hby dp65_2_21)
  refine og st629 ?_
  show OG p e below _ T629 m 24 #[vr a1, vr a2] [(.ref l1)]
  refine qa X629.here hx hby dp65_2_24 rfl rfl ?_
  have le630 : n0 ≤ l1 := Nat.le_trans PQ135 (Nat.le_of_lt PO1)
  obtain ⟨cq631, kq631, qa631, qb631, qc631⟩ := isOf hZ e629 PQ133
  obtain ⟨_, _, ⟨T631, L631, k631, n631⟩, -, X631, ⟨Lc631, hQ631, l631, y631, z631⟩, st631⟩ := X629.interfaceBack hx (xi := mn42) (y := mn26) hown (mvT hZ (ow hw 305 rfl)) (mvT hZ (ow hw 306 rfl)) (mvT hZ (ow hw 307 rfl)) (mvT hZ (ow hw 308 rfl)) (mvT hZ (ow hw 35 rfl)) (mvT hZ (ow hw 309 rfl)) (mvT hZ (ow hw 310 rfl)) (mvT hZ (ow hw 304 rfl)) (by decide) (backOf (W := 0) (rm_addfr l Z a0 hw [] ku0 ku1 ku2 ku3 aDef aCac aEmp aMir kDef cCac F0 l1 a2 K9 mc1 h0 n0 O0 PQ133 PQ136 PQ137 PQ138 le630 PQ139 PK9) hZ (ow hw 37 rfl) (ow hw 2 rfl) (by decide) (by decide)) qa631 qb631 qc631 (g := (mkF m 25 #[vr a1, vr a2] [(.ref a2), (.ref l1)])) rfl (by rw [hml]; rfl) (Steps.refl _) (argsL := [(.ref a2)]) (rest := []) (lenOf pd_Ljava_lang_Object___Z rfl) rfl (by show 2 * 0 + _ ≤ _; exact Nat.le_of_eq rfl) (hb hby dp65_2_25) (fun _ _ => ⟨rfl, e629, (by decide : 0 + 1 ≤ _), (by decide : 0 + 10 ≤ _)⟩)
  dsimp only [Pt.U, Pt.locs, Pt.cells, Pt.slots] at X631 l631 y631 z631 st631 hQ631
  subst l631 y631 z631
  obtain ⟨r1_631, k1_631, rfl, Nq631, K631, x631_0, x631_1, x631_2, x631_3, x631_4, x631_5, x631_6⟩ := hQ631
  obtain ⟨L631, X631, N631⟩ := pk X631 (Fr.app N0 Nq631)
  have O631 := O0.keep K631 (allS le630 all0)
  have e631 : T631.heap = T631.heap := rfl
  have z632 := Nat.le_trans (Nat.le_refl _) K631.1
  have gex631_3 : n0 ≤ r1_631 := Nat.le_trans (own_sz O0) x631_3
  have ghx631_3 : h0.size ≤ r1_631 := Nat.le_trans (Nat.le_refl _) x631_3
  have lox631_3 : l1 < r1_631 := Nat.lt_of_lt_of_le PQ133.lt x631_3
  refine og (fun _ k => st631.trans k) ?_
  show OG p e below _ T631 m 30 #[vr a1, vr a2] [(.int 1)]
  refine og (fun _ k => XS.pop X631.here hx rfl (hb hby dp65_2_30) rfl rfl k) ?_
  refine qa X631.here hx hby dp65_2_31 rfl rfl ?_
  refine qa X631.here hx hby dp65_2_32 rfl rfl ?_
  have ni634 := (ninS (Nat.ne_of_lt PO1) nin0)
  have F635 := (PQ132.keep K631 ni634)
  have F636 := (PQ134.keep K631)
  obtain ⟨T633, h633, X633, e633, W633, st633⟩ := putF X631 hx hZ hown (host := "") (Or.inl (ow hw 298 rfl)) Via.refl e631 F635 F636 (Or.inl (ow hw 299 rfl)) (ow hw 212 rfl) (ty := (.object "java/lang/Object")) (by decide) rfl rfl (g := (mkF m 33 #[vr a1, vr a2] [(.ref a2), (.ref a1)])) rfl rfl (hb hby dp65_2_33)
  obtain ⟨L633, X633, N633⟩ := pk X633 (Fr.snoc X633 N631 PQ135)
  have O633 := O631.wr W633 PQ135
  have z637 := Nat.le_trans z632 (Nat.le_of_eq W633.size.symm)
  have F633 : Fld Z h633 a1 "com/example/reweave/reweave/control/SharedValues" "last" "Ljava/lang/Object;" (.ref a2) := F635.same W633
  refine og st633 ?_
  show OG p e below _ T633 m 36 #[vr a1, vr a2] []
  refine qa X633.here hx hby dp65_2_36 rfl rfl ?_
  have F639 := (oo W633 (PQ131.keep K631 ni634) (lp_11 hw) (lp_10 hw) (by decide))
  obtain ⟨T638, X638, e638, st638⟩ := getF X633 hx hZ hown (host := "") (Or.inl (ow hw 220 rfl)) Via.refl e633 F639 (g := (mkF m 37 #[vr a1, vr a2] [(.ref a1)])) rfl rfl (hb hby dp65_2_37)
  refine og st638 ?_
  show OG p e below _ T638 m 40 #[vr a1, vr a2] [(.ref l1)]
  have kg640 := (((Keep.refl _ [l1, a1]).trans K631 (aS (om 0 rfl) all0)).wr W633 (om 1 rfl))
  have F641 := (PQ133.keep kg640)
  have F642 := (x631_2.other W633 (Or.inl (Ne.symm (Nat.ne_of_lt PO1))))
  obtain ⟨cq643, kq643, qa643, qb643, qc643⟩ := isOf hZ e638 F641
  obtain ⟨_, _, ⟨T643, L643, k643, n643⟩, -, X643, ⟨Lc643, hQ643, l643, y643, z643⟩, st643⟩ := X638.interfaceBack hx (xi := mn47) (y := mn31) hown (mvT hZ (ow hw 311 rfl)) (mvT hZ (ow hw 312 rfl)) (mvT hZ (ow hw 313 rfl)) (mvT hZ (ow hw 314 rfl)) (mvT hZ (ow hw 315 rfl)) (mvT hZ (ow hw 316 rfl)) (mvT hZ (ow hw 317 rfl)) (mvT hZ (ow hw 304 rfl)) (by decide) (backOf (W := 0) (rm_size l Z a0 hw [] ku0 ku1 ku2 ku3 aDef aCac aEmp aMir kDef cCac F0 l1 (1 : Int32) h633 n0 O633 F642) hZ (ow hw 318 rfl) (ow hw 2 rfl) (by decide) (by decide)) qa643 qb643 qc643 (g := (mkF m 40 #[vr a1, vr a2] [(.ref l1)])) rfl (by rw [hml]; rfl) (Steps.refl _) (argsL := []) (rest := []) (lenOf pd___I rfl) rfl (by show 2 * 0 + _ ≤ _; exact Nat.le_of_eq rfl) (hb hby dp65_2_40) (fun _ _ => ⟨rfl, e638, (by decide : 1 + 0 ≤ _), (by decide : 10 + 0 ≤ _)⟩)
  dsimp only [Pt.U, Pt.locs, Pt.cells, Pt.slots] at X643 l643 y643 z643 st643 hQ643
  subst l643 y643 z643
  obtain ⟨rfl, Nq643, K643⟩ := hQ643
  obtain ⟨L643, X643, N643⟩ := pk X643 (Fr.app N633 Nq643)
  refine og (fun _ k => st643.trans k) ?_
  show OG p e below _ T643 m 45 #[vr a1, vr a2] [(.int 1)]
  refine qc X643.here hx hby dp65_2_45 ?_
  refine qf X643.here hx hby dp65_2_46 rfl ?_
  show OG p e below _ T643 m 47 #[vr a1, vr a2] [(.int ((1 : Int32) - (1 : Int32)))]
  rw [show ((1 : Int32) - (1 : Int32)) = (0 : Int32) from by decide]
  obtain ⟨fs, hr, hrun, hended, hW, hsame⟩ := X643.leave (v := some (.int 0)) (fun h => by rw [Bd.returns] at h; cases h)
  refine ⟨_, _, retOut X643 hx Bd.returns rfl (Or.inl ⟨rfl, Or.inl rfl, _, rfl⟩) (hb hby dp65_2_47) hr, hrun, hended, _, _, rfl, ?_, ⟨_, rfl⟩, hW, hsame.mono (by decide) (by decide)⟩
  show Q_ixfr Z ku0 ku1 ku2 ku3 aDef aCac aEmp aMir kDef cCac a1 l1 a2 K9 mc1 h0 n0 _ T643.heap _
  rw [K643]
  have F644 := (x631_0.other W633 (Or.inl (Ne.symm (Nat.ne_of_lt PO1))))
  have F645 := (x631_1.other W633 (Or.inl (Ne.symm (Nat.ne_of_lt PO1))))
  have F646 := (x631_4.wr W633)
  have lt647 := Nat.lt_trans PO1 lox631_3
  have F648 := (x631_5.other W633 (Ne.symm (Nat.ne_of_lt lt647)))
  exact ⟨r1_631, k1_631, rfl, N643, (((Keep.refl _ [a1, l1]).trans K631 (aS (om 1 rfl) all0)).wr W633 (om 0 rfl)), F639, F633, F644, F645, F642, ghx631_3, F646, F648, x631_6⟩
def Q_ie1 (Z : State) (ku0 ku1 ku2 ku3 aDef aCac aEmp aMir : Addr) (kDef : ClassId) (cCac : Cell) (a1 : Addr) (h0 : Heap) (n0 : Nat) (v : Option Value) (h : Heap) (L : List Loc) : Prop := v = some (.int 0) ∧ Fr n0 L ∧ h = h0
theorem ef_ie1 (m : MethodId) (x0 : Addr) : entryFrame m #[(.ref x0)] 1 = mkF m 0 #[vr x0] [] := by first | (simp [entryFrame, mkF, argsToLocals, Value.category]; done) | rfl
theorem rm_ie1 (l : Launch) (Z : State) (a0 : Array Value) (hw : HW Z a0) (ws : List Jvm.Cond) (ku0 ku1 ku2 ku3 aDef aCac aEmp aMir : Addr) (kDef : ClassId) (cCac : Cell) (F0 : OwnFacts Z ku0 ku1 ku2 ku3 aDef aCac aEmp aMir kDef cCac) (a1 : Addr) (h0 : Heap) (n0 : Nat) (O0 : Old Z n0 h0) (PQ144 : Fld Z h0 a1 "java/util/ArrayList" "size" "I" (.int 1)) :
    MetFree l mn30 (head1 (Jvm.Cond.code mn30 jdk_38_method_9_code 1 (some .boolean) :: ws) (rk 0 0 0 0)) (fun a U => a = #[(.ref a1)] ∧ Z.Warmed39 U.vm ∧ U.heap = h0) (fun _ _ _ _ _ => True) (fun _ U o U' => ∃ v L, o = .returned v ∧ Q_ie1 Z ku0 ku1 ku2 ku3 aDef aCac aEmp aMir kDef cCac a1 h0 n0 v U'.heap L ∧ FrameEnd U o U' L (rk 0 0 0 0).cells (rk 0 0 0 0).slots) := by
  refine MetFree.of_bodySF (plainFor_of_name pn_java_util_ArrayList) hisR ?_
  intro p e s m args below meth c s₁ Bd hml0 hP hK
  obtain ⟨rfl, hZ, hh⟩ := hP
  have hx := Bd.exec
  have hby := Bd.bytes
  have hml : c.maxLocals = 1 := hml0
  have hown : s.vm.findClass "java/util/ArrayList" = some m.cls := findClass_of_methodNamed Bd.named
  have hnm := (name_of_methodNamed Bd.named Bd.method).1
  have X0 : Stand p l e (rk 0 0 0 0) s m #[(.ref a1)] below meth c s₁ [] 0 0 := Stand.of_body Bd
  have e0 : s₁.heap = h0 := by rw [← hh, Bd.state]; rfl
  have N0 := Fr.nil n0
  refine og (Q := fun o U' => ∃ v L, o = .returned v ∧ Q_ie1 Z ku0 ku1 ku2 ku3 aDef aCac aEmp aMir kDef cCac a1 h0 n0 v U'.heap L ∧ FrameEnd s o U' L (rk 0 0 0 0).cells (rk 0 0 0 0).slots) (fun t k => castTop (ef_ie1 m a1) k) ?_
  show OG p e below _ s₁ m 0 #[vr a1] []
  refine qa X0.here hx hby dj38_9_0 rfl rfl ?_
  obtain ⟨T651, X651, e651, st651⟩ := getF X0 hx hZ hown (host := "") (Or.inl (ow hw 40 rfl)) Via.refl e0 PQ144 (g := (mkF m 1 #[vr a1] [(.ref a1)])) rfl rfl (hb hby dj38_9_1)
  refine og st651 ?_
  show OG p e below _ T651 m 4 #[vr a1] [(.int 1)]
  refine og (fun _ k => XS.ifYes X651.here hx rfl (pc0 := 4) (pc' := 11) rfl (hb hby dj38_9_4) rfl (by decide) (by decide) (by decide) k) ?_
  show OG p e below _ T651 m 11 #[vr a1] []
  refine qc X651.here hx hby dj38_9_11 ?_
  obtain ⟨fs, hr, hrun, hended, hW, hsame⟩ := X651.leave (v := some (.int 0)) (fun h => by rw [Bd.returns] at h; cases h)
  refine ⟨_, _, retOut X651 hx Bd.returns rfl (Or.inl ⟨rfl, Or.inr (Or.inl rfl), _, rfl⟩) (hb hby dj38_9_12) hr, hrun, hended, _, _, rfl, ?_, ⟨_, rfl⟩, hW, hsame.mono (by decide) (by decide)⟩
  show Q_ie1 Z ku0 ku1 ku2 ku3 aDef aCac aEmp aMir kDef cCac a1 h0 n0 _ T651.heap _
  rw [e651]
  exact ⟨rfl, N0, rfl⟩
def Q_ixzn (Z : State) (ku0 ku1 ku2 ku3 aDef aCac aEmp aMir : Addr) (kDef : ClassId) (cCac : Cell) (a1 : Addr) (l1 : Addr) (h0 : Heap) (n0 : Nat) (v : Option Value) (h : Heap) (L : List Loc) : Prop := v = some (.int 0) ∧ Fr n0 L ∧ h = h0
theorem ef_ixzn (m : MethodId) (x0 : Addr) : entryFrame m #[(.ref x0), .null] 2 = mkF m 0 #[vr x0, .val .null] [] := by first | (simp [entryFrame, mkF, argsToLocals, Value.category]; done) | rfl
theorem rm_ixzn (l : Launch) (Z : State) (a0 : Array Value) (hw : HW Z a0) (ws : List Jvm.Cond) (ku0 ku1 ku2 ku3 aDef aCac aEmp aMir : Addr) (kDef : ClassId) (cCac : Cell) (F0 : OwnFacts Z ku0 ku1 ku2 ku3 aDef aCac aEmp aMir kDef cCac) (a1 : Addr) (l1 : Addr) (h0 : Heap) (n0 : Nat) (O0 : Old Z n0 h0) (PQ140 : Fld Z h0 a1 "com/example/reweave/reweave/control/SharedValues" "values" "Ljava/util/List;" (.ref l1)) (PQ141 : Fld Z h0 a1 "com/example/reweave/reweave/control/SharedValues" "last" "Ljava/lang/Object;" .null) (PQ142 : Exa Z h0 l1 "java/util/ArrayList") (PQ143 : Fld Z h0 l1 "java/util/ArrayList" "size" "I" (.int 1)) :
    MetFree l mn16 (head1 (Jvm.Cond.code mn16 prog_65_method_2_code 2 (some .int) :: ws) (rk 1 0 0 12)) (fun a U => a = #[(.ref a1), .null] ∧ Z.Warmed39 U.vm ∧ U.heap = h0) (fun _ _ _ _ _ => True) (fun _ U o U' => ∃ v L, o = .returned v ∧ Q_ixzn Z ku0 ku1 ku2 ku3 aDef aCac aEmp aMir kDef cCac a1 l1 h0 n0 v U'.heap L ∧ FrameEnd U o U' L (rk 1 0 0 12).cells (rk 1 0 0 12).slots) := by
  refine MetFree.of_bodySF (plainFor_of_name pn_com_example_reweave_reweave_control_SharedValues) hisR ?_
  intro p e s m args below meth c s₁ Bd hml0 hP hK
  obtain ⟨rfl, hZ, hh⟩ := hP
  have hx := Bd.exec
  have hby := Bd.bytes
  have hml : c.maxLocals = 2 := hml0
  have hown : s.vm.findClass "com/example/reweave/reweave/control/SharedValues" = some m.cls := findClass_of_methodNamed Bd.named
  have hnm := (name_of_methodNamed Bd.named Bd.method).1
  have X0 : Stand p l e (rk 1 0 0 12) s m #[(.ref a1), .null] below meth c s₁ [] 0 0 := Stand.of_body Bd
  have e0 : s₁.heap = h0 := by rw [← hh, Bd.state]; rfl
  have N0 := Fr.nil n0
  refine og (Q := fun o U' => ∃ v L, o = .returned v ∧ Q_ixzn Z ku0 ku1 ku2 ku3 aDef aCac aEmp aMir kDef cCac a1 l1 h0 n0 v U'.heap L ∧ FrameEnd s o U' L (rk 1 0 0 12).cells (rk 1 0 0 12).slots) (fun t k => castTop (ef_ixzn m a1) k) ?_
  show OG p e below _ s₁ m 0 #[vr a1, .val .null] []
  refine qa X0.here hx hby dp65_2_0 rfl rfl ?_
  refine qa X0.here hx hby dp65_2_1 rfl rfl ?_
  obtain ⟨T649, X649, e649, st649⟩ := getF X0 hx hZ hown (host := "") (Or.inl (ow hw 298 rfl)) Via.refl e0 PQ141 (g := (mkF m 2 #[vr a1, .val .null] [(.ref a1), .null])) rfl rfl (hb hby dp65_2_2)
  refine og st649 ?_
  show OG p e below _ T649 m 5 #[vr a1, .val .null] [.null, .null]
  refine og (fun _ k => acmp X649 hx rfl (cd := .ne) (o := 15) (x := .null) (y := .null) (pc0 := 5) (pc' := 8) rfl rfl rfl (hb hby dp65_2_5) rfl rfl (by decide) (by decide) k) ?_
  show OG p e below _ T649 m 8 #[vr a1, .val .null] []
  refine qa X649.here hx hby dp65_2_8 rfl rfl ?_
  obtain ⟨T650, X650, e650, st650⟩ := getF X649 hx hZ hown (host := "") (Or.inl (ow hw 220 rfl)) Via.refl e649 PQ140 (g := (mkF m 9 #[vr a1, .val .null] [(.ref a1)])) rfl rfl (hb hby dp65_2_9)
  refine og st650 ?_
  show OG p e below _ T650 m 12 #[vr a1, .val .null] [(.ref l1)]
  obtain ⟨cq652, kq652, qa652, qb652, qc652⟩ := isOf hZ e650 PQ142
  obtain ⟨_, _, ⟨T652, L652, k652, n652⟩, -, X652, ⟨Lc652, hQ652, l652, y652, z652⟩, st652⟩ := X650.interfaceBack hx (xi := mn44) (y := mn30) hown (mvT hZ (ow hw 300 rfl)) (mvT hZ (ow hw 301 rfl)) (mvT hZ (ow hw 302 rfl)) (mvT hZ (ow hw 303 rfl)) (mvT hZ (ow hw 108 rfl)) (mvT hZ (ow hw 109 rfl)) (mvT hZ (ow hw 110 rfl)) (mvT hZ (ow hw 304 rfl)) (by decide) (backOf (W := 0) (rm_ie1 l Z a0 hw [] ku0 ku1 ku2 ku3 aDef aCac aEmp aMir kDef cCac F0 l1 h0 n0 O0 PQ143) hZ (ow hw 112 rfl) (ow hw 2 rfl) (by decide) (by decide)) qa652 qb652 qc652 (g := (mkF m 12 #[vr a1, .val .null] [(.ref l1)])) rfl (by rw [hml]; rfl) (Steps.refl _) (argsL := []) (rest := []) (lenOf pd___Z rfl) rfl (by show 2 * 0 + _ ≤ _; exact Nat.le_of_eq rfl) (hb hby dp65_2_12) (fun _ _ => ⟨rfl, e650, (by decide : 0 + 0 ≤ _), (by decide : 0 + 0 ≤ _)⟩)
  dsimp only [Pt.U, Pt.locs, Pt.cells, Pt.slots] at X652 l652 y652 z652 st652 hQ652
  subst l652 y652 z652
  obtain ⟨rfl, Nq652, K652⟩ := hQ652
  obtain ⟨L652, X652, N652⟩ := pk X652 (Fr.app N0 Nq652)
  refine og (fun _ k => st652.trans k) ?_
  show OG p e below _ T652 m 17 #[vr a1, .val .null] [(.int 0)]
  refine og (fun _ k => XS.ifYes X652.here hx rfl (pc0 := 17) (pc' := 36) rfl (hb hby dp65_2_17) rfl (by decide) (by decide) (by decide) k) ?_
  show OG p e below _ T652 m 36 #[vr a1, .val .null] []
  refine qa X652.here hx hby dp65_2_36 rfl rfl ?_
  obtain ⟨T653, X653, e653, st653⟩ := getF X652 hx hZ hown (host := "") (Or.inl (ow hw 220 rfl)) Via.refl K652 PQ140 (g := (mkF m 37 #[vr a1, .val .null] [(.ref a1)])) rfl rfl (hb hby dp65_2_37)
  refine og st653 ?_
  show OG p e below _ T653 m 40 #[vr a1, .val .null] [(.ref l1)]
  obtain ⟨cq654, kq654, qa654, qb654, qc654⟩ := isOf hZ e653 PQ142
  obtain ⟨_, _, ⟨T654, L654, k654, n654⟩, -, X654, ⟨Lc654, hQ654, l654, y654, z654⟩, st654⟩ := X653.interfaceBack hx (xi := mn47) (y := mn31) hown (mvT hZ (ow hw 311 rfl)) (mvT hZ (ow hw 312 rfl)) (mvT hZ (ow hw 313 rfl)) (mvT hZ (ow hw 314 rfl)) (mvT hZ (ow hw 315 rfl)) (mvT hZ (ow hw 316 rfl)) (mvT hZ (ow hw 317 rfl)) (mvT hZ (ow hw 304 rfl)) (by decide) (backOf (W := 0) (rm_size l Z a0 hw [] ku0 ku1 ku2 ku3 aDef aCac aEmp aMir kDef cCac F0 l1 (1 : Int32) h0 n0 O0 PQ143) hZ (ow hw 318 rfl) (ow hw 2 rfl) (by decide) (by decide)) qa654 qb654 qc654 (g := (mkF m 40 #[vr a1, .val .null] [(.ref l1)])) rfl (by rw [hml]; rfl) (Steps.refl _) (argsL := []) (rest := []) (lenOf pd___I rfl) rfl (by show 2 * 0 + _ ≤ _; exact Nat.le_of_eq rfl) (hb hby dp65_2_40) (fun _ _ => ⟨rfl, e653, (by decide : 0 + 0 ≤ _), (by decide : 0 + 0 ≤ _)⟩)
  dsimp only [Pt.U, Pt.locs, Pt.cells, Pt.slots] at X654 l654 y654 z654 st654 hQ654
  subst l654 y654 z654
  obtain ⟨rfl, Nq654, K654⟩ := hQ654
  obtain ⟨L654, X654, N654⟩ := pk X654 (Fr.app N652 Nq654)
  refine og (fun _ k => st654.trans k) ?_
  show OG p e below _ T654 m 45 #[vr a1, .val .null] [(.int 1)]
  refine qc X654.here hx hby dp65_2_45 ?_
  refine qf X654.here hx hby dp65_2_46 rfl ?_
  show OG p e below _ T654 m 47 #[vr a1, .val .null] [(.int ((1 : Int32) - (1 : Int32)))]
  rw [show ((1 : Int32) - (1 : Int32)) = (0 : Int32) from by decide]
  obtain ⟨fs, hr, hrun, hended, hW, hsame⟩ := X654.leave (v := some (.int 0)) (fun h => by rw [Bd.returns] at h; cases h)
  refine ⟨_, _, retOut X654 hx Bd.returns rfl (Or.inl ⟨rfl, Or.inl rfl, _, rfl⟩) (hb hby dp65_2_47) hr, hrun, hended, _, _, rfl, ?_, ⟨_, rfl⟩, hW, hsame.mono (by decide) (by decide)⟩
  show Q_ixzn Z ku0 ku1 ku2 ku3 aDef aCac aEmp aMir kDef cCac a1 l1 h0 n0 _ T654.heap _
  rw [K654]
  exact ⟨rfl, N654, rfl⟩
def Q_ixzr (Z : State) (ku0 ku1 ku2 ku3 aDef aCac aEmp aMir : Addr) (kDef : ClassId) (cCac : Cell) (a1 : Addr) (l1 : Addr) (a2 : Addr) (h0 : Heap) (n0 : Nat) (v : Option Value) (h : Heap) (L : List Loc) : Prop := v = some (.int 0) ∧ Fr n0 L ∧ h = h0
theorem ef_ixzr (m : MethodId) (x0 : Addr) (x1 : Addr) : entryFrame m #[(.ref x0), (.ref x1)] 2 = mkF m 0 #[vr x0, vr x1] [] := by first | (simp [entryFrame, mkF, argsToLocals, Value.category]; done) | rfl
theorem rm_ixzr (l : Launch) (Z : State) (a0 : Array Value) (hw : HW Z a0) (ws : List Jvm.Cond) (ku0 ku1 ku2 ku3 aDef aCac aEmp aMir : Addr) (kDef : ClassId) (cCac : Cell) (F0 : OwnFacts Z ku0 ku1 ku2 ku3 aDef aCac aEmp aMir kDef cCac) (a1 : Addr) (l1 : Addr) (a2 : Addr) (h0 : Heap) (n0 : Nat) (O0 : Old Z n0 h0) (PQ145 : Fld Z h0 a1 "com/example/reweave/reweave/control/SharedValues" "values" "Ljava/util/List;" (.ref l1)) (PQ146 : Fld Z h0 a1 "com/example/reweave/reweave/control/SharedValues" "last" "Ljava/lang/Object;" (.ref a2)) (PQ147 : Exa Z h0 l1 "java/util/ArrayList") (PQ148 : Fld Z h0 l1 "java/util/ArrayList" "size" "I" (.int 1)) :
    MetFree l mn16 (head1 (Jvm.Cond.code mn16 prog_65_method_2_code 2 (some .int) :: ws) (rk 1 0 0 12)) (fun a U => a = #[(.ref a1), (.ref a2)] ∧ Z.Warmed39 U.vm ∧ U.heap = h0) (fun _ _ _ _ _ => True) (fun _ U o U' => ∃ v L, o = .returned v ∧ Q_ixzr Z ku0 ku1 ku2 ku3 aDef aCac aEmp aMir kDef cCac a1 l1 a2 h0 n0 v U'.heap L ∧ FrameEnd U o U' L (rk 1 0 0 12).cells (rk 1 0 0 12).slots) := by
  refine MetFree.of_bodySF (plainFor_of_name pn_com_example_reweave_reweave_control_SharedValues) hisR ?_
  intro p e s m args below meth c s₁ Bd hml0 hP hK
  obtain ⟨rfl, hZ, hh⟩ := hP
  have hx := Bd.exec
  have hby := Bd.bytes
  have hml : c.maxLocals = 2 := hml0
  have hown : s.vm.findClass "com/example/reweave/reweave/control/SharedValues" = some m.cls := findClass_of_methodNamed Bd.named
  have hnm := (name_of_methodNamed Bd.named Bd.method).1
  have X0 : Stand p l e (rk 1 0 0 12) s m #[(.ref a1), (.ref a2)] below meth c s₁ [] 0 0 := Stand.of_body Bd
  have e0 : s₁.heap = h0 := by rw [← hh, Bd.state]; rfl
  have N0 := Fr.nil n0
  refine og (Q := fun o U' => ∃ v L, o = .returned v ∧ Q_ixzr Z ku0 ku1 ku2 ku3 aDef aCac aEmp aMir kDef cCac a1 l1 a2 h0 n0 v U'.heap L ∧ FrameEnd s o U' L (rk 1 0 0 12).cells (rk 1 0 0 12).slots) (fun t k => castTop (ef_ixzr m a1 a2) k) ?_
  show OG p e below _ s₁ m 0 #[vr a1, vr a2] []
  refine qa X0.here hx hby dp65_2_0 rfl rfl ?_
  refine qa X0.here hx hby dp65_2_1 rfl rfl ?_
  obtain ⟨T655, X655, e655, st655⟩ := getF X0 hx hZ hown (host := "") (Or.inl (ow hw 298 rfl)) Via.refl e0 PQ146 (g := (mkF m 2 #[vr a1, vr a2] [(.ref a1), (.ref a2)])) rfl rfl (hb hby dp65_2_2)
  refine og st655 ?_
  show OG p e below _ T655 m 5 #[vr a1, vr a2] [(.ref a2), (.ref a2)]
  refine og (fun _ k => acmp X655 hx rfl (cd := .ne) (o := 15) (x := (.ref a2)) (y := (.ref a2)) (pc0 := 5) (pc' := 8) rfl rfl rfl (hb hby dp65_2_5) rfl (own_refeq _) (by decide) (by decide) k) ?_
  show OG p e below _ T655 m 8 #[vr a1, vr a2] []
  refine qa X655.here hx hby dp65_2_8 rfl rfl ?_
  obtain ⟨T656, X656, e656, st656⟩ := getF X655 hx hZ hown (host := "") (Or.inl (ow hw 220 rfl)) Via.refl e655 PQ145 (g := (mkF m 9 #[vr a1, vr a2] [(.ref a1)])) rfl rfl (hb hby dp65_2_9)
  refine og st656 ?_
  show OG p e below _ T656 m 12 #[vr a1, vr a2] [(.ref l1)]
  obtain ⟨cq657, kq657, qa657, qb657, qc657⟩ := isOf hZ e656 PQ147
  obtain ⟨_, _, ⟨T657, L657, k657, n657⟩, -, X657, ⟨Lc657, hQ657, l657, y657, z657⟩, st657⟩ := X656.interfaceBack hx (xi := mn44) (y := mn30) hown (mvT hZ (ow hw 300 rfl)) (mvT hZ (ow hw 301 rfl)) (mvT hZ (ow hw 302 rfl)) (mvT hZ (ow hw 303 rfl)) (mvT hZ (ow hw 108 rfl)) (mvT hZ (ow hw 109 rfl)) (mvT hZ (ow hw 110 rfl)) (mvT hZ (ow hw 304 rfl)) (by decide) (backOf (W := 0) (rm_ie1 l Z a0 hw [] ku0 ku1 ku2 ku3 aDef aCac aEmp aMir kDef cCac F0 l1 h0 n0 O0 PQ148) hZ (ow hw 112 rfl) (ow hw 2 rfl) (by decide) (by decide)) qa657 qb657 qc657 (g := (mkF m 12 #[vr a1, vr a2] [(.ref l1)])) rfl (by rw [hml]; rfl) (Steps.refl _) (argsL := []) (rest := []) (lenOf pd___Z rfl) rfl (by show 2 * 0 + _ ≤ _; exact Nat.le_of_eq rfl) (hb hby dp65_2_12) (fun _ _ => ⟨rfl, e656, (by decide : 0 + 0 ≤ _), (by decide : 0 + 0 ≤ _)⟩)
  dsimp only [Pt.U, Pt.locs, Pt.cells, Pt.slots] at X657 l657 y657 z657 st657 hQ657
  subst l657 y657 z657
  obtain ⟨rfl, Nq657, K657⟩ := hQ657
  obtain ⟨L657, X657, N657⟩ := pk X657 (Fr.app N0 Nq657)
  refine og (fun _ k => st657.trans k) ?_
  show OG p e below _ T657 m 17 #[vr a1, vr a2] [(.int 0)]
  refine og (fun _ k => XS.ifYes X657.here hx rfl (pc0 := 17) (pc' := 36) rfl (hb hby dp65_2_17) rfl (by decide) (by decide) (by decide) k) ?_
  show OG p e below _ T657 m 36 #[vr a1, vr a2] []
  refine qa X657.here hx hby dp65_2_36 rfl rfl ?_
  obtain ⟨T658, X658, e658, st658⟩ := getF X657 hx hZ hown (host := "") (Or.inl (ow hw 220 rfl)) Via.refl K657 PQ145 (g := (mkF m 37 #[vr a1, vr a2] [(.ref a1)])) rfl rfl (hb hby dp65_2_37)
  refine og st658 ?_
  show OG p e below _ T658 m 40 #[vr a1, vr a2] [(.ref l1)]
  obtain ⟨cq659, kq659, qa659, qb659, qc659⟩ := isOf hZ e658 PQ147
  obtain ⟨_, _, ⟨T659, L659, k659, n659⟩, -, X659, ⟨Lc659, hQ659, l659, y659, z659⟩, st659⟩ := X658.interfaceBack hx (xi := mn47) (y := mn31) hown (mvT hZ (ow hw 311 rfl)) (mvT hZ (ow hw 312 rfl)) (mvT hZ (ow hw 313 rfl)) (mvT hZ (ow hw 314 rfl)) (mvT hZ (ow hw 315 rfl)) (mvT hZ (ow hw 316 rfl)) (mvT hZ (ow hw 317 rfl)) (mvT hZ (ow hw 304 rfl)) (by decide) (backOf (W := 0) (rm_size l Z a0 hw [] ku0 ku1 ku2 ku3 aDef aCac aEmp aMir kDef cCac F0 l1 (1 : Int32) h0 n0 O0 PQ148) hZ (ow hw 318 rfl) (ow hw 2 rfl) (by decide) (by decide)) qa659 qb659 qc659 (g := (mkF m 40 #[vr a1, vr a2] [(.ref l1)])) rfl (by rw [hml]; rfl) (Steps.refl _) (argsL := []) (rest := []) (lenOf pd___I rfl) rfl (by show 2 * 0 + _ ≤ _; exact Nat.le_of_eq rfl) (hb hby dp65_2_40) (fun _ _ => ⟨rfl, e658, (by decide : 0 + 0 ≤ _), (by decide : 0 + 0 ≤ _)⟩)
  dsimp only [Pt.U, Pt.locs, Pt.cells, Pt.slots] at X659 l659 y659 z659 st659 hQ659
  subst l659 y659 z659
  obtain ⟨rfl, Nq659, K659⟩ := hQ659
  obtain ⟨L659, X659, N659⟩ := pk X659 (Fr.app N657 Nq659)
  refine og (fun _ k => st659.trans k) ?_
  show OG p e below _ T659 m 45 #[vr a1, vr a2] [(.int 1)]
  refine qc X659.here hx hby dp65_2_45 ?_
  refine qf X659.here hx hby dp65_2_46 rfl ?_
  show OG p e below _ T659 m 47 #[vr a1, vr a2] [(.int ((1 : Int32) - (1 : Int32)))]
  rw [show ((1 : Int32) - (1 : Int32)) = (0 : Int32) from by decide]
  obtain ⟨fs, hr, hrun, hended, hW, hsame⟩ := X659.leave (v := some (.int 0)) (fun h => by rw [Bd.returns] at h; cases h)
  refine ⟨_, _, retOut X659 hx Bd.returns rfl (Or.inl ⟨rfl, Or.inl rfl, _, rfl⟩) (hb hby dp65_2_47) hr, hrun, hended, _, _, rfl, ?_, ⟨_, rfl⟩, hW, hsame.mono (by decide) (by decide)⟩
  show Q_ixzr Z ku0 ku1 ku2 ku3 aDef aCac aEmp aMir kDef cCac a1 l1 a2 h0 n0 _ T659.heap _
  rw [K659]
  exact ⟨rfl, N659, rfl⟩
def Q_ixsr (Z : State) (ku0 ku1 ku2 ku3 aDef aCac aEmp aMir : Addr) (kDef : ClassId) (cCac : Cell) (a1 : Addr) (l1 : Addr) (a2 : Addr) (K9 : String) (a3 : Addr) (e1 : Addr) (k1 : ClassId) (w0 : Value) (mc1 : Int32) (h0 : Heap) (n0 : Nat) (v : Option Value) (h : Heap) (L : List Loc) : Prop := v = some (.int 1) ∧ Fr n0 L ∧ Keep h0 h [a1, l1, e1] ∧ Fld Z h a1 "com/example/reweave/reweave/control/SharedValues" "values" "Ljava/util/List;" (.ref l1) ∧ Fld Z h a1 "com/example/reweave/reweave/control/SharedValues" "last" "Ljava/lang/Object;" (.ref a2) ∧ Fld Z h l1 "java/util/AbstractList" "modCount" "I" (.int (mc1 + (1 : Int32))) ∧ Fld Z h l1 "java/util/ArrayList" "elementData" "[Ljava/lang/Object;" (.ref e1) ∧ Fld Z h l1 "java/util/ArrayList" "size" "I" (.int 2) ∧ Arv Z h e1 k1 (.object "java/lang/Object") (10 : Int32) [w0, (.ref a2)] .null
theorem ef_ixsr (m : MethodId) (x0 : Addr) (x1 : Addr) : entryFrame m #[(.ref x0), (.ref x1)] 2 = mkF m 0 #[vr x0, vr x1] [] := by first | (simp [entryFrame, mkF, argsToLocals, Value.category]; done) | rfl
theorem rm_ixsr (l : Launch) (Z : State) (a0 : Array Value) (hw : HW Z a0) (ws : List Jvm.Cond) (ku0 ku1 ku2 ku3 aDef aCac aEmp aMir : Addr) (kDef : ClassId) (cCac : Cell) (F0 : OwnFacts Z ku0 ku1 ku2 ku3 aDef aCac aEmp aMir kDef cCac) (a1 : Addr) (l1 : Addr) (a2 : Addr) (K9 : String) (a3 : Addr) (e1 : Addr) (k1 : ClassId) (w0 : Value) (mc1 : Int32) (h0 : Heap) (n0 : Nat) (O0 : Old Z n0 h0) (PQ149 : Fld Z h0 a1 "com/example/reweave/reweave/control/SharedValues" "values" "Ljava/util/List;" (.ref l1)) (PQ150 : Fld Z h0 a1 "com/example/reweave/reweave/control/SharedValues" "last" "Ljava/lang/Object;" (.ref a3)) (PQ151 : Exa Z h0 l1 "java/util/ArrayList") (PQ152 : Exa Z h0 a1 "com/example/reweave/reweave/control/SharedValues") (PQ153 : n0 ≤ a1) (hna : a2 ≠ a3) (PQ154 : Fld Z h0 l1 "java/util/AbstractList" "modCount" "I" (.int mc1)) (PQ155 : Fld Z h0 l1 "java/util/ArrayList" "elementData" "[Ljava/lang/Object;" (.ref e1)) (PQ156 : Fld Z h0 l1 "java/util/ArrayList" "size" "I" (.int 1)) (PQ157 : Arv Z h0 e1 k1 (.object "java/lang/Object") (10 : Int32) [w0, .null] .null) (PQ158 : Ovr Z k1 "java/lang/Object") (PQ159 : Exa Z h0 e1 "[Ljava/lang/Object;") (PQ160 : Exa Z h0 a2 K9) (PK9 : (Jvm.Cond.castable K9 "java/lang/Object").before a0 Z = true) (PO1 : a1 < l1) (PO2 : l1 < e1) :
    MetFree l mn16 (head1 (Jvm.Cond.code mn16 prog_65_method_2_code 2 (some .int) :: ws) (rk 2 0 0 28)) (fun a U => a = #[(.ref a1), (.ref a2)] ∧ Z.Warmed39 U.vm ∧ U.heap = h0) (fun _ _ _ _ _ => True) (fun _ U o U' => ∃ v L, o = .returned v ∧ Q_ixsr Z ku0 ku1 ku2 ku3 aDef aCac aEmp aMir kDef cCac a1 l1 a2 K9 a3 e1 k1 w0 mc1 h0 n0 v U'.heap L ∧ FrameEnd U o U' L (rk 2 0 0 28).cells (rk 2 0 0 28).slots) := by
  refine MetFree.of_bodySF (plainFor_of_name pn_com_example_reweave_reweave_control_SharedValues) hisR ?_
  intro p e s m args below meth c s₁ Bd hml0 hP hK
  obtain ⟨rfl, hZ, hh⟩ := hP
  have hx := Bd.exec
  have hby := Bd.bytes
  have hml : c.maxLocals = 2 := hml0
  have hown : s.vm.findClass "com/example/reweave/reweave/control/SharedValues" = some m.cls := findClass_of_methodNamed Bd.named
  have hnm := (name_of_methodNamed Bd.named Bd.method).1
  have X0 : Stand p l e (rk 2 0 0 28) s m #[(.ref a1), (.ref a2)] below meth c s₁ [] 0 0 := Stand.of_body Bd
  have e0 : s₁.heap = h0 := by rw [← hh, Bd.state]; rfl
  have N0 := Fr.nil n0
  refine og (Q := fun o U' => ∃ v L, o = .returned v ∧ Q_ixsr Z ku0 ku1 ku2 ku3 aDef aCac aEmp aMir kDef cCac a1 l1 a2 K9 a3 e1 k1 w0 mc1 h0 n0 v U'.heap L ∧ FrameEnd s o U' L (rk 2 0 0 28).cells (rk 2 0 0 28).slots) (fun t k => castTop (ef_ixsr m a1 a2) k) ?_
  show OG p e below _ s₁ m 0 #[vr a1, vr a2] []
  refine qa X0.here hx hby dp65_2_0 rfl rfl ?_
  refine qa X0.here hx hby dp65_2_1 rfl rfl ?_
  obtain ⟨T660, X660, e660, st660⟩ := getF X0 hx hZ hown (host := "") (Or.inl (ow hw 298 rfl)) Via.refl e0 PQ150 (g := (mkF m 2 #[vr a1, vr a2] [(.ref a1), (.ref a2)])) rfl rfl (hb hby dp65_2_2)
  refine og st660 ?_
  show OG p e below _ T660 m 5 #[vr a1, vr a2] [(.ref a3), (.ref a2)]
  refine og (fun _ k => acmp X660 hx rfl (cd := .ne) (o := 15) (x := (.ref a2)) (y := (.ref a3)) (pc0 := 5) (pc' := 20) rfl rfl rfl (hb hby dp65_2_5) rfl (own_refne hna) (by decide) (by decide) k) ?_
  show OG p e below _ T660 m 20 #[vr a1, vr a2] []
  refine qa X660.here hx hby dp65_2_20 rfl rfl ?_
  obtain ⟨T661, X661, e661, st661⟩ := getF X660 hx hZ hown (host := "") (Or.inl (ow hw 220 rfl)) Via.refl e660 PQ149 (g := (mkF m 21 #[vr a1, vr a2] [(.ref a1)])) rfl rfl (hb hby dp65_2_21)
  refine og st661 ?_
  show OG p e below _ T661 m 24 #[vr a1, vr a2] [(.ref l1)]
  refine qa X661.here hx hby dp65_2_24 rfl rfl ?_
  have le662 : n0 ≤ l1 := Nat.le_trans PQ153 (Nat.le_of_lt PO1)
  obtain ⟨cq663, kq663, qa663, qb663, qc663⟩ := isOf hZ e661 PQ151
  obtain ⟨_, _, ⟨T663, L663, k663, n663⟩, -, X663, ⟨Lc663, hQ663, l663, y663, z663⟩, st663⟩ := X661.interfaceBack hx (xi := mn42) (y := mn26) hown (mvT hZ (ow hw 305 rfl)) (mvT hZ (ow hw 306 rfl)) (mvT hZ (ow hw 307 rfl)) (mvT hZ (ow hw 308 rfl)) (mvT hZ (ow hw 35 rfl)) (mvT hZ (ow hw 309 rfl)) (mvT hZ (ow hw 310 rfl)) (mvT hZ (ow hw 304 rfl)) (by decide) (backOf (W := 0) (rm_addsr l Z a0 hw [] ku0 ku1 ku2 ku3 aDef aCac aEmp aMir kDef cCac F0 l1 e1 k1 w0 a2 K9 mc1 h0 n0 O0 PQ151 PQ154 PQ155 PQ156 le662 PQ157 PQ158 PQ159 PQ160 PK9 PO2) hZ (ow hw 37 rfl) (ow hw 2 rfl) (by decide) (by decide)) qa663 qb663 qc663 (g := (mkF m 25 #[vr a1, vr a2] [(.ref a2), (.ref l1)])) rfl (by rw [hml]; rfl) (Steps.refl _) (argsL := [(.ref a2)]) (rest := []) (lenOf pd_Ljava_lang_Object___Z rfl) rfl (by show 2 * 0 + _ ≤ _; exact Nat.le_of_eq rfl) (hb hby dp65_2_25) (fun _ _ => ⟨rfl, e661, (by decide : 0 + 0 ≤ _), (by decide : 0 + 0 ≤ _)⟩)
  dsimp only [Pt.U, Pt.locs, Pt.cells, Pt.slots] at X663 l663 y663 z663 st663 hQ663
  subst l663 y663 z663
  obtain ⟨rfl, Nq663, K663, x663_0, x663_1, x663_2, x663_3⟩ := hQ663
  obtain ⟨L663, X663, N663⟩ := pk X663 (Fr.app N0 Nq663)
  have le664 : n0 ≤ e1 := Nat.le_trans le662 (Nat.le_of_lt PO2)
  have O663 := O0.keep K663 (allS le662 (allS le664 all0))
  have e663 : T663.heap = T663.heap := rfl
  have z665 := Nat.le_trans (Nat.le_refl _) K663.1
  refine og (fun _ k => st663.trans k) ?_
  show OG p e below _ T663 m 30 #[vr a1, vr a2] [(.int 1)]
  refine og (fun _ k => XS.pop X663.here hx rfl (hb hby dp65_2_30) rfl rfl k) ?_
  refine qa X663.here hx hby dp65_2_31 rfl rfl ?_
  refine qa X663.here hx hby dp65_2_32 rfl rfl ?_
  have lt667 := Nat.lt_trans PO1 PO2
  have ni668 := (ninS (Nat.ne_of_lt PO1) (ninS (Nat.ne_of_lt lt667) nin0))
  have F669 := (PQ150.keep K663 ni668)
  have F670 := (PQ152.keep K663)
  obtain ⟨T666, h666, X666, e666, W666, st666⟩ := putF X663 hx hZ hown (host := "") (Or.inl (ow hw 298 rfl)) Via.refl e663 F669 F670 (Or.inl (ow hw 299 rfl)) (ow hw 212 rfl) (ty := (.object "java/lang/Object")) (by decide) rfl rfl (g := (mkF m 33 #[vr a1, vr a2] [(.ref a2), (.ref a1)])) rfl rfl (hb hby dp65_2_33)
  obtain ⟨L666, X666, N666⟩ := pk X666 (Fr.snoc X666 N663 PQ153)
  have O666 := O663.wr W666 PQ153
  have z671 := Nat.le_trans z665 (Nat.le_of_eq W666.size.symm)
  have F666 : Fld Z h666 a1 "com/example/reweave/reweave/control/SharedValues" "last" "Ljava/lang/Object;" (.ref a2) := F669.same W666
  refine og st666 ?_
  show OG p e below _ T666 m 36 #[vr a1, vr a2] []
  refine qa X666.here hx hby dp65_2_36 rfl rfl ?_
  have F673 := (oo W666 (PQ149.keep K663 ni668) (lp_11 hw) (lp_10 hw) (by decide))
  obtain ⟨T672, X672, e672, st672⟩ := getF X666 hx hZ hown (host := "") (Or.inl (ow hw 220 rfl)) Via.refl e666 F673 (g := (mkF m 37 #[vr a1, vr a2] [(.ref a1)])) rfl rfl (hb hby dp65_2_37)
  refine og st672 ?_
  show OG p e below _ T672 m 40 #[vr a1, vr a2] [(.ref l1)]
  have kg674 := (((Keep.refl _ [l1, e1, a1]).trans K663 (aS (om 0 rfl) (aS (om 1 rfl) all0))).wr W666 (om 2 rfl))
  have F675 := (PQ151.keep kg674)
  have F676 := (x663_2.other W666 (Or.inl (Ne.symm (Nat.ne_of_lt PO1))))
  obtain ⟨cq677, kq677, qa677, qb677, qc677⟩ := isOf hZ e672 F675
  obtain ⟨_, _, ⟨T677, L677, k677, n677⟩, -, X677, ⟨Lc677, hQ677, l677, y677, z677⟩, st677⟩ := X672.interfaceBack hx (xi := mn47) (y := mn31) hown (mvT hZ (ow hw 311 rfl)) (mvT hZ (ow hw 312 rfl)) (mvT hZ (ow hw 313 rfl)) (mvT hZ (ow hw 314 rfl)) (mvT hZ (ow hw 315 rfl)) (mvT hZ (ow hw 316 rfl)) (mvT hZ (ow hw 317 rfl)) (mvT hZ (ow hw 304 rfl)) (by decide) (backOf (W := 0) (rm_size l Z a0 hw [] ku0 ku1 ku2 ku3 aDef aCac aEmp aMir kDef cCac F0 l1 (2 : Int32) h666 n0 O666 F676) hZ (ow hw 318 rfl) (ow hw 2 rfl) (by decide) (by decide)) qa677 qb677 qc677 (g := (mkF m 40 #[vr a1, vr a2] [(.ref l1)])) rfl (by rw [hml]; rfl) (Steps.refl _) (argsL := []) (rest := []) (lenOf pd___I rfl) rfl (by show 2 * 0 + _ ≤ _; exact Nat.le_of_eq rfl) (hb hby dp65_2_40) (fun _ _ => ⟨rfl, e672, (by decide : 0 + 0 ≤ _), (by decide : 0 + 0 ≤ _)⟩)
  dsimp only [Pt.U, Pt.locs, Pt.cells, Pt.slots] at X677 l677 y677 z677 st677 hQ677
  subst l677 y677 z677
  obtain ⟨rfl, Nq677, K677⟩ := hQ677
  obtain ⟨L677, X677, N677⟩ := pk X677 (Fr.app N666 Nq677)
  refine og (fun _ k => st677.trans k) ?_
  show OG p e below _ T677 m 45 #[vr a1, vr a2] [(.int 2)]
  refine qc X677.here hx hby dp65_2_45 ?_
  refine qf X677.here hx hby dp65_2_46 rfl ?_
  show OG p e below _ T677 m 47 #[vr a1, vr a2] [(.int ((2 : Int32) - (1 : Int32)))]
  rw [show ((2 : Int32) - (1 : Int32)) = (1 : Int32) from by decide]
  obtain ⟨fs, hr, hrun, hended, hW, hsame⟩ := X677.leave (v := some (.int 1)) (fun h => by rw [Bd.returns] at h; cases h)
  refine ⟨_, _, retOut X677 hx Bd.returns rfl (Or.inl ⟨rfl, Or.inl rfl, _, rfl⟩) (hb hby dp65_2_47) hr, hrun, hended, _, _, rfl, ?_, ⟨_, rfl⟩, hW, hsame.mono (by decide) (by decide)⟩
  show Q_ixsr Z ku0 ku1 ku2 ku3 aDef aCac aEmp aMir kDef cCac a1 l1 a2 K9 a3 e1 k1 w0 mc1 h0 n0 _ T677.heap _
  rw [K677]
  have F678 := (x663_0.other W666 (Or.inl (Ne.symm (Nat.ne_of_lt PO1))))
  have F679 := (x663_1.other W666 (Or.inl (Ne.symm (Nat.ne_of_lt PO1))))
  have F680 := (x663_3.other W666 (Ne.symm (Nat.ne_of_lt lt667)))
  exact ⟨rfl, N677, (((Keep.refl _ [a1, l1, e1]).trans K663 (aS (om 1 rfl) (aS (om 2 rfl) all0))).wr W666 (om 0 rfl)), F673, F666, F678, F679, F676, F680⟩
theorem dp62_4_0 : decode prog_62_method_4_code 0 = .ok (.iconst 4, 1) := by decide +kernel
theorem dp62_4_1 : decode prog_62_method_4_code 1 = .ok (.aload_n 0, 1) := by decide +kernel
theorem dp62_4_2 : decode prog_62_method_4_code 2 = .ok (.getfield 136, 3) := by decide +kernel
theorem dp62_4_5 : decode prog_62_method_4_code 5 = .ok (.iconst 1, 1) := by decide +kernel
theorem dp62_4_6 : decode prog_62_method_4_code 6 = .ok (.isub, 1) := by decide +kernel
theorem dp62_4_7 : decode prog_62_method_4_code 7 = .ok (.imul, 1) := by decide +kernel
theorem dp62_4_8 : decode prog_62_method_4_code 8 = .ok (.istore 5, 2) := by decide +kernel
theorem dp62_4_10 : decode prog_62_method_4_code 10 = .ok (.aload_n 0, 1) := by decide +kernel
theorem dp62_4_11 : decode prog_62_method_4_code 11 = .ok (.getfield 136, 3) := by decide +kernel
theorem dp62_4_14 : decode prog_62_method_4_code 14 = .ok (.ifCond .le 63, 3) := by decide +kernel
theorem dp62_4_77 : decode prog_62_method_4_code 77 = .ok (.iconst 4, 1) := by decide +kernel
theorem dp62_4_78 : decode prog_62_method_4_code 78 = .ok (.aload_n 0, 1) := by decide +kernel
theorem dp62_4_79 : decode prog_62_method_4_code 79 = .ok (.getfield 136, 3) := by decide +kernel
theorem dp62_4_82 : decode prog_62_method_4_code 82 = .ok (.imul, 1) := by decide +kernel
theorem dp62_4_83 : decode prog_62_method_4_code 83 = .ok (.aload_n 0, 1) := by decide +kernel
theorem dp62_4_84 : decode prog_62_method_4_code 84 = .ok (.getfield 19, 3) := by decide +kernel
theorem dp62_4_87 : decode prog_62_method_4_code 87 = .ok (.arraylength, 1) := by decide +kernel
theorem dp62_4_88 : decode prog_62_method_4_code 88 = .ok (.if_icmp .ne 21, 3) := by decide +kernel
theorem dp62_4_109 : decode prog_62_method_4_code 109 = .ok (.iconst 4, 1) := by decide +kernel
theorem dp62_4_110 : decode prog_62_method_4_code 110 = .ok (.aload_n 0, 1) := by decide +kernel
theorem dp62_4_111 : decode prog_62_method_4_code 111 = .ok (.getfield 136, 3) := by decide +kernel
theorem dp62_4_114 : decode prog_62_method_4_code 114 = .ok (.imul, 1) := by decide +kernel
theorem dp62_4_115 : decode prog_62_method_4_code 115 = .ok (.istore 6, 2) := by decide +kernel
theorem dp62_4_117 : decode prog_62_method_4_code 117 = .ok (.aload_n 0, 1) := by decide +kernel
theorem dp62_4_118 : decode prog_62_method_4_code 118 = .ok (.getfield 19, 3) := by decide +kernel
theorem dp62_4_121 : decode prog_62_method_4_code 121 = .ok (.iload 6, 2) := by decide +kernel
theorem dp62_4_123 : decode prog_62_method_4_code 123 = .ok (.iconst 0, 1) := by decide +kernel
theorem dp62_4_124 : decode prog_62_method_4_code 124 = .ok (.iadd, 1) := by decide +kernel
theorem dp62_4_125 : decode prog_62_method_4_code 125 = .ok (.iload_n 1, 1) := by decide +kernel
theorem dp62_4_126 : decode prog_62_method_4_code 126 = .ok (.iastore, 1) := by decide +kernel
theorem dp62_4_127 : decode prog_62_method_4_code 127 = .ok (.aload_n 0, 1) := by decide +kernel
theorem dp62_4_128 : decode prog_62_method_4_code 128 = .ok (.getfield 19, 3) := by decide +kernel
theorem dp62_4_131 : decode prog_62_method_4_code 131 = .ok (.iload 6, 2) := by decide +kernel
theorem dp62_4_133 : decode prog_62_method_4_code 133 = .ok (.iconst 1, 1) := by decide +kernel
theorem dp62_4_134 : decode prog_62_method_4_code 134 = .ok (.iadd, 1) := by decide +kernel
theorem dp62_4_135 : decode prog_62_method_4_code 135 = .ok (.iload_n 2, 1) := by decide +kernel
theorem dp62_4_136 : decode prog_62_method_4_code 136 = .ok (.iastore, 1) := by decide +kernel
theorem dp62_4_137 : decode prog_62_method_4_code 137 = .ok (.aload_n 0, 1) := by decide +kernel
theorem dp62_4_138 : decode prog_62_method_4_code 138 = .ok (.getfield 19, 3) := by decide +kernel
theorem dp62_4_141 : decode prog_62_method_4_code 141 = .ok (.iload 6, 2) := by decide +kernel
theorem dp62_4_143 : decode prog_62_method_4_code 143 = .ok (.iconst 2, 1) := by decide +kernel
theorem dp62_4_144 : decode prog_62_method_4_code 144 = .ok (.iadd, 1) := by decide +kernel
theorem dp62_4_145 : decode prog_62_method_4_code 145 = .ok (.iload_n 3, 1) := by decide +kernel
theorem dp62_4_146 : decode prog_62_method_4_code 146 = .ok (.iastore, 1) := by decide +kernel
theorem dp62_4_147 : decode prog_62_method_4_code 147 = .ok (.aload_n 0, 1) := by decide +kernel
theorem dp62_4_148 : decode prog_62_method_4_code 148 = .ok (.getfield 19, 3) := by decide +kernel
theorem dp62_4_151 : decode prog_62_method_4_code 151 = .ok (.iload 6, 2) := by decide +kernel
theorem dp62_4_153 : decode prog_62_method_4_code 153 = .ok (.iconst 3, 1) := by decide +kernel
theorem dp62_4_154 : decode prog_62_method_4_code 154 = .ok (.iadd, 1) := by decide +kernel
theorem dp62_4_155 : decode prog_62_method_4_code 155 = .ok (.iload 4, 2) := by decide +kernel
theorem dp62_4_157 : decode prog_62_method_4_code 157 = .ok (.iastore, 1) := by decide +kernel
theorem dp62_4_158 : decode prog_62_method_4_code 158 = .ok (.aload_n 0, 1) := by decide +kernel
theorem dp62_4_159 : decode prog_62_method_4_code 159 = .ok (.dup, 1) := by decide +kernel
theorem dp62_4_160 : decode prog_62_method_4_code 160 = .ok (.getfield 136, 3) := by decide +kernel
theorem dp62_4_163 : decode prog_62_method_4_code 163 = .ok (.dup_x1, 1) := by decide +kernel
theorem dp62_4_164 : decode prog_62_method_4_code 164 = .ok (.iconst 1, 1) := by decide +kernel
theorem dp62_4_165 : decode prog_62_method_4_code 165 = .ok (.iadd, 1) := by decide +kernel
theorem dp62_4_166 : decode prog_62_method_4_code 166 = .ok (.putfield 136, 3) := by decide +kernel
theorem dp62_4_169 : decode prog_62_method_4_code 169 = .ok (.ireturn, 1) := by decide +kernel
def Q_lr0 (Z : State) (ku0 ku1 ku2 ku3 aDef aCac aEmp aMir : Addr) (kDef : ClassId) (cCac : Cell) (a1 : Addr) (n1 : Addr) (m1 : Addr) (o1 : Addr) (s1 : Addr) (s2 : Addr) (s3 : Addr) (s4 : Addr) (s5 : Addr) (kl1 : ClassId) (h0 : Heap) (n0 : Nat) (v : Option Value) (h : Heap) (L : List Loc) : Prop := v = some (.int 0) ∧ Fr n0 L ∧ Keep h0 h [a1, o1] ∧ Fld Z h a1 "com/example/reweave/reweave/control/SearchPath" "numbers" "[I" (.ref n1) ∧ Fld Z h a1 "com/example/reweave/reweave/control/SearchPath" "more" "[Lcom/example/reweave/reweave/control/SearchPath$More;" (.ref m1) ∧ Fld Z h a1 "com/example/reweave/reweave/control/SearchPath" "lists" "[I" (.ref o1) ∧ Fld Z h a1 "com/example/reweave/reweave/control/SearchPath" "locations" "Lcom/example/reweave/reweave/control/SharedValues;" (.ref s1) ∧ Fld Z h a1 "com/example/reweave/reweave/control/SearchPath" "runnables" "Lcom/example/reweave/reweave/control/SharedValues;" (.ref s2) ∧ Fld Z h a1 "com/example/reweave/reweave/control/SearchPath" "timeOuts" "Lcom/example/reweave/reweave/control/SharedValues;" (.ref s3) ∧ Fld Z h a1 "com/example/reweave/reweave/control/SearchPath" "options" "Lcom/example/reweave/reweave/control/SharedValues;" (.ref s4) ∧ Fld Z h a1 "com/example/reweave/reweave/control/SearchPath" "waiting" "Lcom/example/reweave/reweave/control/SharedValues;" (.ref s5) ∧ Fld Z h a1 "com/example/reweave/reweave/control/SearchPath" "size" "I" (.int 0) ∧ Fld Z h a1 "com/example/reweave/reweave/control/SearchPath" "listRows" "I" (.int 1) ∧ Arv Z h o1 kl1 .int 256 [(.int 0), (.int 0), (.int 0), (.int 0), (.int 0), (.int 0), (.int 0), (.int 0)] (.int 0)
theorem ef_lr0 (m : MethodId) (x0 : Addr) (x1 : Int32) (x2 : Int32) (x3 : Int32) (x4 : Int32) : entryFrame m #[(.ref x0), (.int x1), (.int x2), (.int x3), (.int x4)] 7 = mkF m 0 #[vr x0, vi x1, vi x2, vi x3, vi x4, .unset, .unset] [] := by first | (simp [entryFrame, mkF, argsToLocals, Value.category]; done) | rfl
theorem rm_lr0 (l : Launch) (Z : State) (a0 : Array Value) (hw : HW Z a0) (ws : List Jvm.Cond) (ku0 ku1 ku2 ku3 aDef aCac aEmp aMir : Addr) (kDef : ClassId) (cCac : Cell) (F0 : OwnFacts Z ku0 ku1 ku2 ku3 aDef aCac aEmp aMir kDef cCac) (a1 : Addr) (n1 : Addr) (m1 : Addr) (o1 : Addr) (s1 : Addr) (s2 : Addr) (s3 : Addr) (s4 : Addr) (s5 : Addr) (kl1 : ClassId) (h0 : Heap) (n0 : Nat) (O0 : Old Z n0 h0) (PQ161 : Exa Z h0 a1 "com/example/reweave/reweave/control/SearchPath") (PQ162 : n0 ≤ a1) (PQ163 : Exa Z h0 o1 "[I") (PQ164 : Arv Z h0 o1 kl1 .int 256 [(.int 0), (.int 0), (.int 0), (.int 0), (.int 0), (.int 0), (.int 0), (.int 0)] (.int 0)) (PQ165 : Fld Z h0 a1 "com/example/reweave/reweave/control/SearchPath" "numbers" "[I" (.ref n1)) (PQ166 : Fld Z h0 a1 "com/example/reweave/reweave/control/SearchPath" "more" "[Lcom/example/reweave/reweave/control/SearchPath$More;" (.ref m1)) (PQ167 : Fld Z h0 a1 "com/example/reweave/reweave/control/SearchPath" "lists" "[I" (.ref o1)) (PQ168 : Fld Z h0 a1 "com/example/reweave/reweave/control/SearchPath" "locations" "Lcom/example/reweave/reweave/control/SharedValues;" (.ref s1)) (PQ169 : Fld Z h0 a1 "com/example/reweave/reweave/control/SearchPath" "runnables" "Lcom/example/reweave/reweave/control/SharedValues;" (.ref s2)) (PQ170 : Fld Z h0 a1 "com/example/reweave/reweave/control/SearchPath" "timeOuts" "Lcom/example/reweave/reweave/control/SharedValues;" (.ref s3)) (PQ171 : Fld Z h0 a1 "com/example/reweave/reweave/control/SearchPath" "options" "Lcom/example/reweave/reweave/control/SharedValues;" (.ref s4)) (PQ172 : Fld Z h0 a1 "com/example/reweave/reweave/control/SearchPath" "waiting" "Lcom/example/reweave/reweave/control/SharedValues;" (.ref s5)) (PQ173 : Fld Z h0 a1 "com/example/reweave/reweave/control/SearchPath" "size" "I" (.int 0)) (PQ174 : Fld Z h0 a1 "com/example/reweave/reweave/control/SearchPath" "listRows" "I" (.int 0)) (PO1 : a1 < o1) :
    MetFree l mn11 (head1 (Jvm.Cond.code mn11 prog_62_method_4_code 7 (some .int) :: ws) (rk 0 0 0 0)) (fun a U => a = #[(.ref a1), (.int 0), (.int 0), (.int 0), (.int 0)] ∧ Z.Warmed39 U.vm ∧ U.heap = h0) (fun _ _ _ _ _ => True) (fun _ U o U' => ∃ v L, o = .returned v ∧ Q_lr0 Z ku0 ku1 ku2 ku3 aDef aCac aEmp aMir kDef cCac a1 n1 m1 o1 s1 s2 s3 s4 s5 kl1 h0 n0 v U'.heap L ∧ FrameEnd U o U' L (rk 0 0 0 0).cells (rk 0 0 0 0).slots) := by
  refine MetFree.of_bodySF (plainFor_of_name pn_com_example_reweave_reweave_control_SearchPath) hisR ?_
  intro p e s m args below meth c s₁ Bd hml0 hP hK
  obtain ⟨rfl, hZ, hh⟩ := hP
  have hx := Bd.exec
  have hby := Bd.bytes
  have hml : c.maxLocals = 7 := hml0
  have hown : s.vm.findClass "com/example/reweave/reweave/control/SearchPath" = some m.cls := findClass_of_methodNamed Bd.named
  have hnm := (name_of_methodNamed Bd.named Bd.method).1
  have X0 : Stand p l e (rk 0 0 0 0) s m #[(.ref a1), (.int 0), (.int 0), (.int 0), (.int 0)] below meth c s₁ [] 0 0 := Stand.of_body Bd
  have e0 : s₁.heap = h0 := by rw [← hh, Bd.state]; rfl
  have N0 := Fr.nil n0
  refine og (Q := fun o U' => ∃ v L, o = .returned v ∧ Q_lr0 Z ku0 ku1 ku2 ku3 aDef aCac aEmp aMir kDef cCac a1 n1 m1 o1 s1 s2 s3 s4 s5 kl1 h0 n0 v U'.heap L ∧ FrameEnd s o U' L (rk 0 0 0 0).cells (rk 0 0 0 0).slots) (fun t k => castTop (ef_lr0 m a1 (0 : Int32) (0 : Int32) (0 : Int32) (0 : Int32)) k) ?_
  show OG p e below _ s₁ m 0 #[vr a1, vi 0, vi 0, vi 0, vi 0, .unset, .unset] []
  refine qc X0.here hx hby dp62_4_0 ?_
  refine qa X0.here hx hby dp62_4_1 rfl rfl ?_
  obtain ⟨T681, X681, e681, st681⟩ := getF X0 hx hZ hown (host := "") (Or.inl (ow hw 336 rfl)) Via.refl e0 PQ174 (g := (mkF m 2 #[vr a1, vi 0, vi 0, vi 0, vi 0, .unset, .unset] [(.ref a1), (.int 4)])) rfl rfl (hb hby dp62_4_2)
  refine og st681 ?_
  show OG p e below _ T681 m 5 #[vr a1, vi 0, vi 0, vi 0, vi 0, .unset, .unset] [(.int 0), (.int 4)]
  refine qc X681.here hx hby dp62_4_5 ?_
  refine qf X681.here hx hby dp62_4_6 rfl ?_
  show OG p e below _ T681 m 7 #[vr a1, vi 0, vi 0, vi 0, vi 0, .unset, .unset] [(.int ((0 : Int32) - (1 : Int32))), (.int 4)]
  rw [show ((0 : Int32) - (1 : Int32)) = (-1 : Int32) from by decide]
  refine qg X681.here hx hby dp62_4_7 rfl ?_
  show OG p e below _ T681 m 8 #[vr a1, vi 0, vi 0, vi 0, vi 0, .unset, .unset] [(.int ((4 : Int32) * (-1 : Int32)))]
  rw [show ((4 : Int32) * (-1 : Int32)) = (-4 : Int32) from by decide]
  refine og (fun _ k => XS.istore X681.here hx rfl (hb hby dp62_4_8) rfl (l' := #[vr a1, vi 0, vi 0, vi 0, vi 0, .val (.int (-4 : Int32)), .unset]) rfl k) ?_
  refine qa X681.here hx hby dp62_4_10 rfl rfl ?_
  obtain ⟨T682, X682, e682, st682⟩ := getF X681 hx hZ hown (host := "") (Or.inl (ow hw 336 rfl)) Via.refl e681 PQ174 (g := (mkF m 11 #[vr a1, vi 0, vi 0, vi 0, vi 0, .val (.int (-4 : Int32)), .unset] [(.ref a1)])) rfl rfl (hb hby dp62_4_11)
  refine og st682 ?_
  show OG p e below _ T682 m 14 #[vr a1, vi 0, vi 0, vi 0, vi 0, .val (.int (-4 : Int32)), .unset] [(.int 0)]
  refine og (fun _ k => XS.ifYes X682.here hx rfl (pc0 := 14) (pc' := 77) rfl (hb hby dp62_4_14) rfl (by decide) (by decide) (by decide) k) ?_
  show OG p e below _ T682 m 77 #[vr a1, vi 0, vi 0, vi 0, vi 0, .val (.int (-4 : Int32)), .unset] []
  refine qc X682.here hx hby dp62_4_77 ?_
  refine qa X682.here hx hby dp62_4_78 rfl rfl ?_
  obtain ⟨T683, X683, e683, st683⟩ := getF X682 hx hZ hown (host := "") (Or.inl (ow hw 336 rfl)) Via.refl e682 PQ174 (g := (mkF m 79 #[vr a1, vi 0, vi 0, vi 0, vi 0, .val (.int (-4 : Int32)), .unset] [(.ref a1), (.int 4)])) rfl rfl (hb hby dp62_4_79)
  refine og st683 ?_
  show OG p e below _ T683 m 82 #[vr a1, vi 0, vi 0, vi 0, vi 0, .val (.int (-4 : Int32)), .unset] [(.int 0), (.int 4)]
  refine qg X683.here hx hby dp62_4_82 rfl ?_
  show OG p e below _ T683 m 83 #[vr a1, vi 0, vi 0, vi 0, vi 0, .val (.int (-4 : Int32)), .unset] [(.int ((4 : Int32) * (0 : Int32)))]
  rw [show ((4 : Int32) * (0 : Int32)) = (0 : Int32) from by decide]
  refine qa X683.here hx hby dp62_4_83 rfl rfl ?_
  obtain ⟨T684, X684, e684, st684⟩ := getF X683 hx hZ hown (host := "") (Or.inl (ow hw 209 rfl)) Via.refl e683 PQ167 (g := (mkF m 84 #[vr a1, vi 0, vi 0, vi 0, vi 0, .val (.int (-4 : Int32)), .unset] [(.ref a1), (.int 0)])) rfl rfl (hb hby dp62_4_84)
  refine og st684 ?_
  show OG p e below _ T684 m 87 #[vr a1, vi 0, vi 0, vi 0, vi 0, .val (.int (-4 : Int32)), .unset] [(.ref o1), (.int 0)]
  obtain ⟨c685, Ar685, q685, S685, M685, H685, G685⟩ := (id PQ164)
  refine og (fun _ k => X684.arraylength hx (cell := c685) (by rw [e684]; exact Ar685.1) (State.isArrayOf_alike hZ.alike Ar685.2.1) (g := (mkF m 87 #[vr a1, vi 0, vi 0, vi 0, vi 0, .val (.int (-4 : Int32)), .unset] [(.ref o1), (.int 0)])) rfl (rest := [(.int 0)]) rfl (hb hby dp62_4_87) _ k) ?_
  rw [len_of S685 M685]
  show OG p e below _ T684 m 88 #[vr a1, vi 0, vi 0, vi 0, vi 0, .val (.int (-4 : Int32)), .unset] [(.int 256), (.int 0)]
  refine og (fun _ k => XS.icmpYes X684.here hx rfl (pc0 := 88) (pc' := 109) rfl (hb hby dp62_4_88) rfl (by decide) (by decide) (by decide) k) ?_
  show OG p e below _ T684 m 109 #[vr a1, vi 0, vi 0, vi 0, vi 0, .val (.int (-4 : Int32)), .unset] []
  refine qc X684.here hx hby dp62_4_109 ?_
  refine qa X684.here hx hby dp62_4_110 rfl rfl ?_
  obtain ⟨T686, X686, e686, st686⟩ := getF X684 hx hZ hown (host := "") (Or.inl (ow hw 336 rfl)) Via.refl e684 PQ174 (g := (mkF m 111 #[vr a1, vi 0, vi 0, vi 0, vi 0, .val (.int (-4 : Int32)), .unset] [(.ref a1), (.int 4)])) rfl rfl (hb hby dp62_4_111)
  refine og st686 ?_
  show OG p e below _ T686 m 114 #[vr a1, vi 0, vi 0, vi 0, vi 0, .val (.int (-4 : Int32)), .unset] [(.int 0), (.int 4)]
  refine qg X686.here hx hby dp62_4_114 rfl ?_
  show OG p e below _ T686 m 115 #[vr a1, vi 0, vi 0, vi 0, vi 0, .val (.int (-4 : Int32)), .unset] [(.int ((4 : Int32) * (0 : Int32)))]
  rw [show ((4 : Int32) * (0 : Int32)) = (0 : Int32) from by decide]
  refine og (fun _ k => XS.istore X686.here hx rfl (hb hby dp62_4_115) rfl (l' := #[vr a1, vi 0, vi 0, vi 0, vi 0, .val (.int (-4 : Int32)), vi 0]) rfl k) ?_
  refine qa X686.here hx hby dp62_4_117 rfl rfl ?_
  obtain ⟨T687, X687, e687, st687⟩ := getF X686 hx hZ hown (host := "") (Or.inl (ow hw 209 rfl)) Via.refl e686 PQ167 (g := (mkF m 118 #[vr a1, vi 0, vi 0, vi 0, vi 0, .val (.int (-4 : Int32)), vi 0] [(.ref a1)])) rfl rfl (hb hby dp62_4_118)
  refine og st687 ?_
  show OG p e below _ T687 m 121 #[vr a1, vi 0, vi 0, vi 0, vi 0, .val (.int (-4 : Int32)), vi 0] [(.ref o1)]
  refine qi X687.here hx hby dp62_4_121 rfl ?_
  refine qc X687.here hx hby dp62_4_123 ?_
  refine qe X687.here hx hby dp62_4_124 rfl ?_
  show OG p e below _ T687 m 125 #[vr a1, vi 0, vi 0, vi 0, vi 0, .val (.int (-4 : Int32)), vi 0] [(.int ((0 : Int32) + (0 : Int32))), (.ref o1)]
  rw [show ((0 : Int32) + (0 : Int32)) = (0 : Int32) from by decide]
  refine qj X687.here hx hby dp62_4_125 rfl ?_
  obtain ⟨c688, Ar688, q688, S688, M688, H688, G688⟩ := (id PQ164)
  obtain ⟨T688, h688, X688, e688, W688, st688⟩ := stI X687 hx hZ e687 Ar688 (j := (0 : Int32)) (inb_of S688 ⟨by decide, by decide⟩) (g := (mkF m 126 #[vr a1, vi 0, vi 0, vi 0, vi 0, .val (.int (-4 : Int32)), vi 0] [(.int 0), (.int 0), (.ref o1)])) rfl rfl (hb hby dp62_4_126)
  have le689 : n0 ≤ o1 := Nat.le_trans PQ162 (Nat.le_of_lt PO1)
  obtain ⟨L688, X688, N688⟩ := pk X688 (Fr.snoc X688 N0 le689)
  have O688 := O0.wr W688 le689
  have z690 := Nat.le_trans (Nat.le_refl _) (Nat.le_of_eq W688.size.symm)
  have V688 : Arv Z h688 o1 kl1 .int 256 [(.int 0), (.int 0), (.int 0), (.int 0), (.int 0), (.int 0), (.int 0), (.int 0)] (.int 0) := Arv.set Ar688 q688 S688 M688 H688 G688 rfl W688 0 (by decide) (Nat.le_of_ble_eq_true rfl)
  refine og st688 ?_
  show OG p e below _ T688 m 127 #[vr a1, vi 0, vi 0, vi 0, vi 0, .val (.int (-4 : Int32)), vi 0] []
  refine qa X688.here hx hby dp62_4_127 rfl rfl ?_
  have F692 := (PQ167.other W688 (Or.inl (Nat.ne_of_lt PO1)))
  obtain ⟨T691, X691, e691, st691⟩ := getF X688 hx hZ hown (host := "") (Or.inl (ow hw 209 rfl)) Via.refl e688 F692 (g := (mkF m 128 #[vr a1, vi 0, vi 0, vi 0, vi 0, .val (.int (-4 : Int32)), vi 0] [(.ref a1)])) rfl rfl (hb hby dp62_4_128)
  refine og st691 ?_
  show OG p e below _ T691 m 131 #[vr a1, vi 0, vi 0, vi 0, vi 0, .val (.int (-4 : Int32)), vi 0] [(.ref o1)]
  refine qi X691.here hx hby dp62_4_131 rfl ?_
  refine qc X691.here hx hby dp62_4_133 ?_
  refine qe X691.here hx hby dp62_4_134 rfl ?_
  show OG p e below _ T691 m 135 #[vr a1, vi 0, vi 0, vi 0, vi 0, .val (.int (-4 : Int32)), vi 0] [(.int ((0 : Int32) + (1 : Int32))), (.ref o1)]
  rw [show ((0 : Int32) + (1 : Int32)) = (1 : Int32) from by decide]
  refine qj X691.here hx hby dp62_4_135 rfl ?_
  obtain ⟨c693, Ar693, q693, S693, M693, H693, G693⟩ := (id V688)
  obtain ⟨T693, h693, X693, e693, W693, st693⟩ := stI X691 hx hZ e691 Ar693 (j := (1 : Int32)) (inb_of S693 ⟨by decide, by decide⟩) (g := (mkF m 136 #[vr a1, vi 0, vi 0, vi 0, vi 0, .val (.int (-4 : Int32)), vi 0] [(.int 0), (.int 1), (.ref o1)])) rfl rfl (hb hby dp62_4_136)
  obtain ⟨L693, X693, N693⟩ := pk X693 (Fr.snoc X693 N688 le689)
  have O693 := O688.wr W693 le689
  have z694 := Nat.le_trans z690 (Nat.le_of_eq W693.size.symm)
  have V693 : Arv Z h693 o1 kl1 .int 256 [(.int 0), (.int 0), (.int 0), (.int 0), (.int 0), (.int 0), (.int 0), (.int 0)] (.int 0) := Arv.set Ar693 q693 S693 M693 H693 G693 rfl W693 1 (by decide) (Nat.le_of_ble_eq_true rfl)
  refine og st693 ?_
  show OG p e below _ T693 m 137 #[vr a1, vi 0, vi 0, vi 0, vi 0, .val (.int (-4 : Int32)), vi 0] []
  refine qa X693.here hx hby dp62_4_137 rfl rfl ?_
  have F696 := (F692.other W693 (Or.inl (Nat.ne_of_lt PO1)))
  obtain ⟨T695, X695, e695, st695⟩ := getF X693 hx hZ hown (host := "") (Or.inl (ow hw 209 rfl)) Via.refl e693 F696 (g := (mkF m 138 #[vr a1, vi 0, vi 0, vi 0, vi 0, .val (.int (-4 : Int32)), vi 0] [(.ref a1)])) rfl rfl (hb hby dp62_4_138)
  refine og st695 ?_
  show OG p e below _ T695 m 141 #[vr a1, vi 0, vi 0, vi 0, vi 0, .val (.int (-4 : Int32)), vi 0] [(.ref o1)]
  refine qi X695.here hx hby dp62_4_141 rfl ?_
  refine qc X695.here hx hby dp62_4_143 ?_
  refine qe X695.here hx hby dp62_4_144 rfl ?_
  show OG p e below _ T695 m 145 #[vr a1, vi 0, vi 0, vi 0, vi 0, .val (.int (-4 : Int32)), vi 0] [(.int ((0 : Int32) + (2 : Int32))), (.ref o1)]
  rw [show ((0 : Int32) + (2 : Int32)) = (2 : Int32) from by decide]
  refine qj X695.here hx hby dp62_4_145 rfl ?_
  obtain ⟨c697, Ar697, q697, S697, M697, H697, G697⟩ := (id V693)
  obtain ⟨T697, h697, X697, e697, W697, st697⟩ := stI X695 hx hZ e695 Ar697 (j := (2 : Int32)) (inb_of S697 ⟨by decide, by decide⟩) (g := (mkF m 146 #[vr a1, vi 0, vi 0, vi 0, vi 0, .val (.int (-4 : Int32)), vi 0] [(.int 0), (.int 2), (.ref o1)])) rfl rfl (hb hby dp62_4_146)
  obtain ⟨L697, X697, N697⟩ := pk X697 (Fr.snoc X697 N693 le689)
  have O697 := O693.wr W697 le689
  have z698 := Nat.le_trans z694 (Nat.le_of_eq W697.size.symm)
  have V697 : Arv Z h697 o1 kl1 .int 256 [(.int 0), (.int 0), (.int 0), (.int 0), (.int 0), (.int 0), (.int 0), (.int 0)] (.int 0) := Arv.set Ar697 q697 S697 M697 H697 G697 rfl W697 2 (by decide) (Nat.le_of_ble_eq_true rfl)
  refine og st697 ?_
  show OG p e below _ T697 m 147 #[vr a1, vi 0, vi 0, vi 0, vi 0, .val (.int (-4 : Int32)), vi 0] []
  refine qa X697.here hx hby dp62_4_147 rfl rfl ?_
  have F700 := (F696.other W697 (Or.inl (Nat.ne_of_lt PO1)))
  obtain ⟨T699, X699, e699, st699⟩ := getF X697 hx hZ hown (host := "") (Or.inl (ow hw 209 rfl)) Via.refl e697 F700 (g := (mkF m 148 #[vr a1, vi 0, vi 0, vi 0, vi 0, .val (.int (-4 : Int32)), vi 0] [(.ref a1)])) rfl rfl (hb hby dp62_4_148)
  refine og st699 ?_
  show OG p e below _ T699 m 151 #[vr a1, vi 0, vi 0, vi 0, vi 0, .val (.int (-4 : Int32)), vi 0] [(.ref o1)]
  refine qi X699.here hx hby dp62_4_151 rfl ?_
  refine qc X699.here hx hby dp62_4_153 ?_
  refine qe X699.here hx hby dp62_4_154 rfl ?_
  show OG p e below _ T699 m 155 #[vr a1, vi 0, vi 0, vi 0, vi 0, .val (.int (-4 : Int32)), vi 0] [(.int ((0 : Int32) + (3 : Int32))), (.ref o1)]
  rw [show ((0 : Int32) + (3 : Int32)) = (3 : Int32) from by decide]
  refine qi X699.here hx hby dp62_4_155 rfl ?_
  obtain ⟨c701, Ar701, q701, S701, M701, H701, G701⟩ := (id V697)
  obtain ⟨T701, h701, X701, e701, W701, st701⟩ := stI X699 hx hZ e699 Ar701 (j := (3 : Int32)) (inb_of S701 ⟨by decide, by decide⟩) (g := (mkF m 157 #[vr a1, vi 0, vi 0, vi 0, vi 0, .val (.int (-4 : Int32)), vi 0] [(.int 0), (.int 3), (.ref o1)])) rfl rfl (hb hby dp62_4_157)
  obtain ⟨L701, X701, N701⟩ := pk X701 (Fr.snoc X701 N697 le689)
  have O701 := O697.wr W701 le689
  have z702 := Nat.le_trans z698 (Nat.le_of_eq W701.size.symm)
  have V701 : Arv Z h701 o1 kl1 .int 256 [(.int 0), (.int 0), (.int 0), (.int 0), (.int 0), (.int 0), (.int 0), (.int 0)] (.int 0) := Arv.set Ar701 q701 S701 M701 H701 G701 rfl W701 3 (by decide) (Nat.le_of_ble_eq_true rfl)
  refine og st701 ?_
  show OG p e below _ T701 m 158 #[vr a1, vi 0, vi 0, vi 0, vi 0, .val (.int (-4 : Int32)), vi 0] []
  refine qa X701.here hx hby dp62_4_158 rfl rfl ?_
  refine qd X701.here hx hby dp62_4_159 rfl rfl ?_
  have kg704 := (((((Keep.refl _ [o1]).wr W688 (om 0 rfl)).wr W693 (om 0 rfl)).wr W697 (om 0 rfl)).wr W701 (om 0 rfl))
  have ni705 := (ninS (Nat.ne_of_lt PO1) nin0)
  have F706 := (PQ174.keep kg704 ni705)
  obtain ⟨T703, X703, e703, st703⟩ := getF X701 hx hZ hown (host := "") (Or.inl (ow hw 336 rfl)) Via.refl e701 F706 (g := (mkF m 160 #[vr a1, vi 0, vi 0, vi 0, vi 0, .val (.int (-4 : Int32)), vi 0] [(.ref a1), (.ref a1)])) rfl rfl (hb hby dp62_4_160)
  refine og st703 ?_
  show OG p e below _ T703 m 163 #[vr a1, vi 0, vi 0, vi 0, vi 0, .val (.int (-4 : Int32)), vi 0] [(.int 0), (.ref a1)]
  refine og (fun _ k => XS.dupX1 X703.here hx rfl (hb hby dp62_4_163) rfl rfl rfl k) ?_
  show OG p e below _ T703 m 164 #[vr a1, vi 0, vi 0, vi 0, vi 0, .val (.int (-4 : Int32)), vi 0] [(.int 0), (.ref a1), (.int 0)]
  refine qc X703.here hx hby dp62_4_164 ?_
  refine qe X703.here hx hby dp62_4_165 rfl ?_
  show OG p e below _ T703 m 166 #[vr a1, vi 0, vi 0, vi 0, vi 0, .val (.int (-4 : Int32)), vi 0] [(.int ((0 : Int32) + (1 : Int32))), (.ref a1), (.int 0)]
  rw [show ((0 : Int32) + (1 : Int32)) = (1 : Int32) from by decide]
  have F708 := (PQ161.keep kg704)
  obtain ⟨T707, h707, X707, e707, W707, st707⟩ := putF X703 hx hZ hown (host := "") (Or.inl (ow hw 336 rfl)) Via.refl e703 F706 F708 (Or.inl (ow hw 337 rfl)) (ow hw 196 rfl) (ty := .int) (by decide) rfl rfl (g := (mkF m 166 #[vr a1, vi 0, vi 0, vi 0, vi 0, .val (.int (-4 : Int32)), vi 0] [(.int 1), (.ref a1), (.int 0)])) rfl rfl (hb hby dp62_4_166)
  obtain ⟨L707, X707, N707⟩ := pk X707 (Fr.snoc X707 N701 PQ162)
  have O707 := O701.wr W707 PQ162
  have z709 := Nat.le_trans z702 (Nat.le_of_eq W707.size.symm)
  have F707 : Fld Z h707 a1 "com/example/reweave/reweave/control/SearchPath" "listRows" "I" (.int 1) := F706.same W707
  refine og st707 ?_
  show OG p e below _ T707 m 169 #[vr a1, vi 0, vi 0, vi 0, vi 0, .val (.int (-4 : Int32)), vi 0] [(.int 0)]
  obtain ⟨fs, hr, hrun, hended, hW, hsame⟩ := X707.leave (v := some (.int 0)) (fun h => by rw [Bd.returns] at h; cases h)
  refine ⟨_, _, retOut X707 hx Bd.returns rfl (Or.inl ⟨rfl, Or.inl rfl, _, rfl⟩) (hb hby dp62_4_169) hr, hrun, hended, _, _, rfl, ?_, ⟨_, rfl⟩, hW, hsame.mono (by decide) (by decide)⟩
  show Q_lr0 Z ku0 ku1 ku2 ku3 aDef aCac aEmp aMir kDef cCac a1 n1 m1 o1 s1 s2 s3 s4 s5 kl1 h0 n0 _ T707.heap _
  rw [e707]
  have F710 := (oo W707 (PQ165.keep kg704 ni705) (lp_13 hw) (lp_26 hw) (by decide))
  have F711 := (oo W707 (PQ166.keep kg704 ni705) (lp_12 hw) (lp_26 hw) (by decide))
  have F712 := (oo W707 (F700.other W701 (Or.inl (Nat.ne_of_lt PO1))) (lp_14 hw) (lp_26 hw) (by decide))
  have F713 := (oo W707 (PQ168.keep kg704 ni705) (lp_15 hw) (lp_26 hw) (by decide))
  have F714 := (oo W707 (PQ169.keep kg704 ni705) (lp_17 hw) (lp_26 hw) (by decide))
  have F715 := (oo W707 (PQ170.keep kg704 ni705) (lp_18 hw) (lp_26 hw) (by decide))
  have F716 := (oo W707 (PQ171.keep kg704 ni705) (lp_19 hw) (lp_26 hw) (by decide))
  have F717 := (oo W707 (PQ172.keep kg704 ni705) (lp_20 hw) (lp_26 hw) (by decide))
  have F718 := (oo W707 (PQ173.keep kg704 ni705) (lp_25 hw) (lp_26 hw) (by decide))
  have F719 := (V701.other W707 (Ne.symm (Nat.ne_of_lt PO1)))
  exact ⟨rfl, N707, ((((((Keep.refl _ [a1, o1]).wr W688 (om 1 rfl)).wr W693 (om 1 rfl)).wr W697 (om 1 rfl)).wr W701 (om 1 rfl)).wr W707 (om 0 rfl)), F710, F711, F712, F713, F714, F715, F716, F717, F718, F707, F719⟩
theorem dp62_4_17 : decode prog_62_method_4_code 17 = .ok (.aload_n 0, 1) := by decide +kernel
theorem dp62_4_18 : decode prog_62_method_4_code 18 = .ok (.getfield 19, 3) := by decide +kernel
theorem dp62_4_21 : decode prog_62_method_4_code 21 = .ok (.iload 5, 2) := by decide +kernel
theorem dp62_4_23 : decode prog_62_method_4_code 23 = .ok (.iconst 0, 1) := by decide +kernel
theorem dp62_4_24 : decode prog_62_method_4_code 24 = .ok (.iadd, 1) := by decide +kernel
theorem dp62_4_25 : decode prog_62_method_4_code 25 = .ok (.iaload, 1) := by decide +kernel
theorem dp62_4_26 : decode prog_62_method_4_code 26 = .ok (.iload_n 1, 1) := by decide +kernel
theorem dp62_4_27 : decode prog_62_method_4_code 27 = .ok (.if_icmp .ne 50, 3) := by decide +kernel
def Q_lr1 (Z : State) (ku0 ku1 ku2 ku3 aDef aCac aEmp aMir : Addr) (kDef : ClassId) (cCac : Cell) (a1 : Addr) (n1 : Addr) (m1 : Addr) (o1 : Addr) (s1 : Addr) (s2 : Addr) (s3 : Addr) (s4 : Addr) (s5 : Addr) (kl1 : ClassId) (h0 : Heap) (n0 : Nat) (v : Option Value) (h : Heap) (L : List Loc) : Prop := v = some (.int 1) ∧ Fr n0 L ∧ Keep h0 h [a1, o1] ∧ Fld Z h a1 "com/example/reweave/reweave/control/SearchPath" "numbers" "[I" (.ref n1) ∧ Fld Z h a1 "com/example/reweave/reweave/control/SearchPath" "more" "[Lcom/example/reweave/reweave/control/SearchPath$More;" (.ref m1) ∧ Fld Z h a1 "com/example/reweave/reweave/control/SearchPath" "lists" "[I" (.ref o1) ∧ Fld Z h a1 "com/example/reweave/reweave/control/SearchPath" "locations" "Lcom/example/reweave/reweave/control/SharedValues;" (.ref s1) ∧ Fld Z h a1 "com/example/reweave/reweave/control/SearchPath" "runnables" "Lcom/example/reweave/reweave/control/SharedValues;" (.ref s2) ∧ Fld Z h a1 "com/example/reweave/reweave/control/SearchPath" "timeOuts" "Lcom/example/reweave/reweave/control/SharedValues;" (.ref s3) ∧ Fld Z h a1 "com/example/reweave/reweave/control/SearchPath" "options" "Lcom/example/reweave/reweave/control/SharedValues;" (.ref s4) ∧ Fld Z h a1 "com/example/reweave/reweave/control/SearchPath" "waiting" "Lcom/example/reweave/reweave/control/SharedValues;" (.ref s5) ∧ Fld Z h a1 "com/example/reweave/reweave/control/SearchPath" "size" "I" (.int 1) ∧ Fld Z h a1 "com/example/reweave/reweave/control/SearchPath" "listRows" "I" (.int 2) ∧ Arv Z h o1 kl1 .int 256 [(.int 0), (.int 0), (.int 0), (.int 0), (.int 1), (.int 0), (.int 0), (.int 1)] (.int 0)
theorem ef_lr1 (m : MethodId) (x0 : Addr) (x1 : Int32) (x2 : Int32) (x3 : Int32) (x4 : Int32) : entryFrame m #[(.ref x0), (.int x1), (.int x2), (.int x3), (.int x4)] 7 = mkF m 0 #[vr x0, vi x1, vi x2, vi x3, vi x4, .unset, .unset] [] := by first | (simp [entryFrame, mkF, argsToLocals, Value.category]; done) | rfl
theorem rm_lr1 (l : Launch) (Z : State) (a0 : Array Value) (hw : HW Z a0) (ws : List Jvm.Cond) (ku0 ku1 ku2 ku3 aDef aCac aEmp aMir : Addr) (kDef : ClassId) (cCac : Cell) (F0 : OwnFacts Z ku0 ku1 ku2 ku3 aDef aCac aEmp aMir kDef cCac) (a1 : Addr) (n1 : Addr) (m1 : Addr) (o1 : Addr) (s1 : Addr) (s2 : Addr) (s3 : Addr) (s4 : Addr) (s5 : Addr) (kl1 : ClassId) (h0 : Heap) (n0 : Nat) (O0 : Old Z n0 h0) (PQ175 : Exa Z h0 a1 "com/example/reweave/reweave/control/SearchPath") (PQ176 : n0 ≤ a1) (PQ177 : Exa Z h0 o1 "[I") (PQ178 : Arv Z h0 o1 kl1 .int 256 [(.int 0), (.int 0), (.int 0), (.int 0), (.int 0), (.int 0), (.int 0), (.int 0)] (.int 0)) (PQ179 : Fld Z h0 a1 "com/example/reweave/reweave/control/SearchPath" "numbers" "[I" (.ref n1)) (PQ180 : Fld Z h0 a1 "com/example/reweave/reweave/control/SearchPath" "more" "[Lcom/example/reweave/reweave/control/SearchPath$More;" (.ref m1)) (PQ181 : Fld Z h0 a1 "com/example/reweave/reweave/control/SearchPath" "lists" "[I" (.ref o1)) (PQ182 : Fld Z h0 a1 "com/example/reweave/reweave/control/SearchPath" "locations" "Lcom/example/reweave/reweave/control/SharedValues;" (.ref s1)) (PQ183 : Fld Z h0 a1 "com/example/reweave/reweave/control/SearchPath" "runnables" "Lcom/example/reweave/reweave/control/SharedValues;" (.ref s2)) (PQ184 : Fld Z h0 a1 "com/example/reweave/reweave/control/SearchPath" "timeOuts" "Lcom/example/reweave/reweave/control/SharedValues;" (.ref s3)) (PQ185 : Fld Z h0 a1 "com/example/reweave/reweave/control/SearchPath" "options" "Lcom/example/reweave/reweave/control/SharedValues;" (.ref s4)) (PQ186 : Fld Z h0 a1 "com/example/reweave/reweave/control/SearchPath" "waiting" "Lcom/example/reweave/reweave/control/SharedValues;" (.ref s5)) (PQ187 : Fld Z h0 a1 "com/example/reweave/reweave/control/SearchPath" "size" "I" (.int 1)) (PQ188 : Fld Z h0 a1 "com/example/reweave/reweave/control/SearchPath" "listRows" "I" (.int 1)) (PO1 : a1 < o1) :
    MetFree l mn11 (head1 (Jvm.Cond.code mn11 prog_62_method_4_code 7 (some .int) :: ws) (rk 0 0 0 0)) (fun a U => a = #[(.ref a1), (.int 1), (.int 0), (.int 0), (.int 1)] ∧ Z.Warmed39 U.vm ∧ U.heap = h0) (fun _ _ _ _ _ => True) (fun _ U o U' => ∃ v L, o = .returned v ∧ Q_lr1 Z ku0 ku1 ku2 ku3 aDef aCac aEmp aMir kDef cCac a1 n1 m1 o1 s1 s2 s3 s4 s5 kl1 h0 n0 v U'.heap L ∧ FrameEnd U o U' L (rk 0 0 0 0).cells (rk 0 0 0 0).slots) := by
  refine MetFree.of_bodySF (plainFor_of_name pn_com_example_reweave_reweave_control_SearchPath) hisR ?_
  intro p e s m args below meth c s₁ Bd hml0 hP hK
  obtain ⟨rfl, hZ, hh⟩ := hP
  have hx := Bd.exec
  have hby := Bd.bytes
  have hml : c.maxLocals = 7 := hml0
  have hown : s.vm.findClass "com/example/reweave/reweave/control/SearchPath" = some m.cls := findClass_of_methodNamed Bd.named
  have hnm := (name_of_methodNamed Bd.named Bd.method).1
  have X0 : Stand p l e (rk 0 0 0 0) s m #[(.ref a1), (.int 1), (.int 0), (.int 0), (.int 1)] below meth c s₁ [] 0 0 := Stand.of_body Bd
  have e0 : s₁.heap = h0 := by rw [← hh, Bd.state]; rfl
  have N0 := Fr.nil n0
  refine og (Q := fun o U' => ∃ v L, o = .returned v ∧ Q_lr1 Z ku0 ku1 ku2 ku3 aDef aCac aEmp aMir kDef cCac a1 n1 m1 o1 s1 s2 s3 s4 s5 kl1 h0 n0 v U'.heap L ∧ FrameEnd s o U' L (rk 0 0 0 0).cells (rk 0 0 0 0).slots) (fun t k => castTop (ef_lr1 m a1 (1 : Int32) (0 : Int32) (0 : Int32) (1 : Int32)) k) ?_
  show OG p e below _ s₁ m 0 #[vr a1, vi 1, vi 0, vi 0, vi 1, .unset, .unset] []
  refine qc X0.here hx hby dp62_4_0 ?_
  refine qa X0.here hx hby dp62_4_1 rfl rfl ?_
  obtain ⟨T720, X720, e720, st720⟩ := getF X0 hx hZ hown (host := "") (Or.inl (ow hw 336 rfl)) Via.refl e0 PQ188 (g := (mkF m 2 #[vr a1, vi 1, vi 0, vi 0, vi 1, .unset, .unset] [(.ref a1), (.int 4)])) rfl rfl (hb hby dp62_4_2)
  refine og st720 ?_
  show OG p e below _ T720 m 5 #[vr a1, vi 1, vi 0, vi 0, vi 1, .unset, .unset] [(.int 1), (.int 4)]
  refine qc X720.here hx hby dp62_4_5 ?_
  refine qf X720.here hx hby dp62_4_6 rfl ?_
  show OG p e below _ T720 m 7 #[vr a1, vi 1, vi 0, vi 0, vi 1, .unset, .unset] [(.int ((1 : Int32) - (1 : Int32))), (.int 4)]
  rw [show ((1 : Int32) - (1 : Int32)) = (0 : Int32) from by decide]
  refine qg X720.here hx hby dp62_4_7 rfl ?_
  show OG p e below _ T720 m 8 #[vr a1, vi 1, vi 0, vi 0, vi 1, .unset, .unset] [(.int ((4 : Int32) * (0 : Int32)))]
  rw [show ((4 : Int32) * (0 : Int32)) = (0 : Int32) from by decide]
  refine og (fun _ k => XS.istore X720.here hx rfl (hb hby dp62_4_8) rfl (l' := #[vr a1, vi 1, vi 0, vi 0, vi 1, vi 0, .unset]) rfl k) ?_
  refine qa X720.here hx hby dp62_4_10 rfl rfl ?_
  obtain ⟨T721, X721, e721, st721⟩ := getF X720 hx hZ hown (host := "") (Or.inl (ow hw 336 rfl)) Via.refl e720 PQ188 (g := (mkF m 11 #[vr a1, vi 1, vi 0, vi 0, vi 1, vi 0, .unset] [(.ref a1)])) rfl rfl (hb hby dp62_4_11)
  refine og st721 ?_
  show OG p e below _ T721 m 14 #[vr a1, vi 1, vi 0, vi 0, vi 1, vi 0, .unset] [(.int 1)]
  refine og (fun _ k => XS.ifNo X721.here hx rfl (hb hby dp62_4_14) rfl (by decide) k) ?_
  show OG p e below _ T721 m 17 #[vr a1, vi 1, vi 0, vi 0, vi 1, vi 0, .unset] []
  refine qa X721.here hx hby dp62_4_17 rfl rfl ?_
  obtain ⟨T722, X722, e722, st722⟩ := getF X721 hx hZ hown (host := "") (Or.inl (ow hw 209 rfl)) Via.refl e721 PQ181 (g := (mkF m 18 #[vr a1, vi 1, vi 0, vi 0, vi 1, vi 0, .unset] [(.ref a1)])) rfl rfl (hb hby dp62_4_18)
  refine og st722 ?_
  show OG p e below _ T722 m 21 #[vr a1, vi 1, vi 0, vi 0, vi 1, vi 0, .unset] [(.ref o1)]
  refine qi X722.here hx hby dp62_4_21 rfl ?_
  refine qc X722.here hx hby dp62_4_23 ?_
  refine qe X722.here hx hby dp62_4_24 rfl ?_
  show OG p e below _ T722 m 25 #[vr a1, vi 1, vi 0, vi 0, vi 1, vi 0, .unset] [(.int ((0 : Int32) + (0 : Int32))), (.ref o1)]
  rw [show ((0 : Int32) + (0 : Int32)) = (0 : Int32) from by decide]
  obtain ⟨c723, Ar723, q723, S723, M723, H723, G723⟩ := (id PQ178)
  refine og (fun _ k => X722.iaload hx (j := (0 : Int32)) (v := (.int 0)) (by rw [e722]; exact Ar723.1) (State.isArrayOf_alike hZ.alike Ar723.2.1) Ar723.2.2 (inb_of S723 ⟨by decide, by decide⟩) (Has.at H723 (inb_of S723 ⟨by decide, by decide⟩) rfl) (g := (mkF m 25 #[vr a1, vi 1, vi 0, vi 0, vi 1, vi 0, .unset] [(.int 0), (.ref o1)])) rfl rfl (hb hby dp62_4_25) _ k) ?_
  show OG p e below _ T722 m 26 #[vr a1, vi 1, vi 0, vi 0, vi 1, vi 0, .unset] [(.int 0)]
  refine qj X722.here hx hby dp62_4_26 rfl ?_
  refine og (fun _ k => XS.icmpYes X722.here hx rfl (pc0 := 27) (pc' := 77) rfl (hb hby dp62_4_27) rfl (by decide) (by decide) (by decide) k) ?_
  show OG p e below _ T722 m 77 #[vr a1, vi 1, vi 0, vi 0, vi 1, vi 0, .unset] []
  refine qc X722.here hx hby dp62_4_77 ?_
  refine qa X722.here hx hby dp62_4_78 rfl rfl ?_
  obtain ⟨T724, X724, e724, st724⟩ := getF X722 hx hZ hown (host := "") (Or.inl (ow hw 336 rfl)) Via.refl e722 PQ188 (g := (mkF m 79 #[vr a1, vi 1, vi 0, vi 0, vi 1, vi 0, .unset] [(.ref a1), (.int 4)])) rfl rfl (hb hby dp62_4_79)
  refine og st724 ?_
  show OG p e below _ T724 m 82 #[vr a1, vi 1, vi 0, vi 0, vi 1, vi 0, .unset] [(.int 1), (.int 4)]
  refine qg X724.here hx hby dp62_4_82 rfl ?_
  show OG p e below _ T724 m 83 #[vr a1, vi 1, vi 0, vi 0, vi 1, vi 0, .unset] [(.int ((4 : Int32) * (1 : Int32)))]
  rw [show ((4 : Int32) * (1 : Int32)) = (4 : Int32) from by decide]
  refine qa X724.here hx hby dp62_4_83 rfl rfl ?_
  obtain ⟨T725, X725, e725, st725⟩ := getF X724 hx hZ hown (host := "") (Or.inl (ow hw 209 rfl)) Via.refl e724 PQ181 (g := (mkF m 84 #[vr a1, vi 1, vi 0, vi 0, vi 1, vi 0, .unset] [(.ref a1), (.int 4)])) rfl rfl (hb hby dp62_4_84)
  refine og st725 ?_
  show OG p e below _ T725 m 87 #[vr a1, vi 1, vi 0, vi 0, vi 1, vi 0, .unset] [(.ref o1), (.int 4)]
  obtain ⟨c726, Ar726, q726, S726, M726, H726, G726⟩ := (id PQ178)
  refine og (fun _ k => X725.arraylength hx (cell := c726) (by rw [e725]; exact Ar726.1) (State.isArrayOf_alike hZ.alike Ar726.2.1) (g := (mkF m 87 #[vr a1, vi 1, vi 0, vi 0, vi 1, vi 0, .unset] [(.ref o1), (.int 4)])) rfl (rest := [(.int 4)]) rfl (hb hby dp62_4_87) _ k) ?_
  rw [len_of S726 M726]
  show OG p e below _ T725 m 88 #[vr a1, vi 1, vi 0, vi 0, vi 1, vi 0, .unset] [(.int 256), (.int 4)]
  refine og (fun _ k => XS.icmpYes X725.here hx rfl (pc0 := 88) (pc' := 109) rfl (hb hby dp62_4_88) rfl (by decide) (by decide) (by decide) k) ?_
  show OG p e below _ T725 m 109 #[vr a1, vi 1, vi 0, vi 0, vi 1, vi 0, .unset] []
  refine qc X725.here hx hby dp62_4_109 ?_
  refine qa X725.here hx hby dp62_4_110 rfl rfl ?_
  obtain ⟨T727, X727, e727, st727⟩ := getF X725 hx hZ hown (host := "") (Or.inl (ow hw 336 rfl)) Via.refl e725 PQ188 (g := (mkF m 111 #[vr a1, vi 1, vi 0, vi 0, vi 1, vi 0, .unset] [(.ref a1), (.int 4)])) rfl rfl (hb hby dp62_4_111)
  refine og st727 ?_
  show OG p e below _ T727 m 114 #[vr a1, vi 1, vi 0, vi 0, vi 1, vi 0, .unset] [(.int 1), (.int 4)]
  refine qg X727.here hx hby dp62_4_114 rfl ?_
  show OG p e below _ T727 m 115 #[vr a1, vi 1, vi 0, vi 0, vi 1, vi 0, .unset] [(.int ((4 : Int32) * (1 : Int32)))]
  rw [show ((4 : Int32) * (1 : Int32)) = (4 : Int32) from by decide]
  refine og (fun _ k => XS.istore X727.here hx rfl (hb hby dp62_4_115) rfl (l' := #[vr a1, vi 1, vi 0, vi 0, vi 1, vi 0, vi 4]) rfl k) ?_
  refine qa X727.here hx hby dp62_4_117 rfl rfl ?_
  obtain ⟨T728, X728, e728, st728⟩ := getF X727 hx hZ hown (host := "") (Or.inl (ow hw 209 rfl)) Via.refl e727 PQ181 (g := (mkF m 118 #[vr a1, vi 1, vi 0, vi 0, vi 1, vi 0, vi 4] [(.ref a1)])) rfl rfl (hb hby dp62_4_118)
  refine og st728 ?_
  show OG p e below _ T728 m 121 #[vr a1, vi 1, vi 0, vi 0, vi 1, vi 0, vi 4] [(.ref o1)]
  refine qi X728.here hx hby dp62_4_121 rfl ?_
  refine qc X728.here hx hby dp62_4_123 ?_
  refine qe X728.here hx hby dp62_4_124 rfl ?_
  show OG p e below _ T728 m 125 #[vr a1, vi 1, vi 0, vi 0, vi 1, vi 0, vi 4] [(.int ((4 : Int32) + (0 : Int32))), (.ref o1)]
  rw [show ((4 : Int32) + (0 : Int32)) = (4 : Int32) from by decide]
  refine qj X728.here hx hby dp62_4_125 rfl ?_
  obtain ⟨c729, Ar729, q729, S729, M729, H729, G729⟩ := (id PQ178)
  obtain ⟨T729, h729, X729, e729, W729, st729⟩ := stI X728 hx hZ e728 Ar729 (j := (4 : Int32)) (inb_of S729 ⟨by decide, by decide⟩) (g := (mkF m 126 #[vr a1, vi 1, vi 0, vi 0, vi 1, vi 0, vi 4] [(.int 1), (.int 4), (.ref o1)])) rfl rfl (hb hby dp62_4_126)
  have le730 : n0 ≤ o1 := Nat.le_trans PQ176 (Nat.le_of_lt PO1)
  obtain ⟨L729, X729, N729⟩ := pk X729 (Fr.snoc X729 N0 le730)
  have O729 := O0.wr W729 le730
  have z731 := Nat.le_trans (Nat.le_refl _) (Nat.le_of_eq W729.size.symm)
  have V729 : Arv Z h729 o1 kl1 .int 256 [(.int 0), (.int 0), (.int 0), (.int 0), (.int 1), (.int 0), (.int 0), (.int 0)] (.int 0) := Arv.set Ar729 q729 S729 M729 H729 G729 rfl W729 4 (by decide) (Nat.le_of_ble_eq_true rfl)
  refine og st729 ?_
  show OG p e below _ T729 m 127 #[vr a1, vi 1, vi 0, vi 0, vi 1, vi 0, vi 4] []
  refine qa X729.here hx hby dp62_4_127 rfl rfl ?_
  have F733 := (PQ181.other W729 (Or.inl (Nat.ne_of_lt PO1)))
  obtain ⟨T732, X732, e732, st732⟩ := getF X729 hx hZ hown (host := "") (Or.inl (ow hw 209 rfl)) Via.refl e729 F733 (g := (mkF m 128 #[vr a1, vi 1, vi 0, vi 0, vi 1, vi 0, vi 4] [(.ref a1)])) rfl rfl (hb hby dp62_4_128)
  refine og st732 ?_
  show OG p e below _ T732 m 131 #[vr a1, vi 1, vi 0, vi 0, vi 1, vi 0, vi 4] [(.ref o1)]
  refine qi X732.here hx hby dp62_4_131 rfl ?_
  refine qc X732.here hx hby dp62_4_133 ?_
  refine qe X732.here hx hby dp62_4_134 rfl ?_
  show OG p e below _ T732 m 135 #[vr a1, vi 1, vi 0, vi 0, vi 1, vi 0, vi 4] [(.int ((4 : Int32) + (1 : Int32))), (.ref o1)]
  rw [show ((4 : Int32) + (1 : Int32)) = (5 : Int32) from by decide]
  refine qj X732.here hx hby dp62_4_135 rfl ?_
  obtain ⟨c734, Ar734, q734, S734, M734, H734, G734⟩ := (id V729)
  obtain ⟨T734, h734, X734, e734, W734, st734⟩ := stI X732 hx hZ e732 Ar734 (j := (5 : Int32)) (inb_of S734 ⟨by decide, by decide⟩) (g := (mkF m 136 #[vr a1, vi 1, vi 0, vi 0, vi 1, vi 0, vi 4] [(.int 0), (.int 5), (.ref o1)])) rfl rfl (hb hby dp62_4_136)
  obtain ⟨L734, X734, N734⟩ := pk X734 (Fr.snoc X734 N729 le730)
  have O734 := O729.wr W734 le730
  have z735 := Nat.le_trans z731 (Nat.le_of_eq W734.size.symm)
  have V734 : Arv Z h734 o1 kl1 .int 256 [(.int 0), (.int 0), (.int 0), (.int 0), (.int 1), (.int 0), (.int 0), (.int 0)] (.int 0) := Arv.set Ar734 q734 S734 M734 H734 G734 rfl W734 5 (by decide) (Nat.le_of_ble_eq_true rfl)
  refine og st734 ?_
  show OG p e below _ T734 m 137 #[vr a1, vi 1, vi 0, vi 0, vi 1, vi 0, vi 4] []
  refine qa X734.here hx hby dp62_4_137 rfl rfl ?_
  have F737 := (F733.other W734 (Or.inl (Nat.ne_of_lt PO1)))
  obtain ⟨T736, X736, e736, st736⟩ := getF X734 hx hZ hown (host := "") (Or.inl (ow hw 209 rfl)) Via.refl e734 F737 (g := (mkF m 138 #[vr a1, vi 1, vi 0, vi 0, vi 1, vi 0, vi 4] [(.ref a1)])) rfl rfl (hb hby dp62_4_138)
  refine og st736 ?_
  show OG p e below _ T736 m 141 #[vr a1, vi 1, vi 0, vi 0, vi 1, vi 0, vi 4] [(.ref o1)]
  refine qi X736.here hx hby dp62_4_141 rfl ?_
  refine qc X736.here hx hby dp62_4_143 ?_
  refine qe X736.here hx hby dp62_4_144 rfl ?_
  show OG p e below _ T736 m 145 #[vr a1, vi 1, vi 0, vi 0, vi 1, vi 0, vi 4] [(.int ((4 : Int32) + (2 : Int32))), (.ref o1)]
  rw [show ((4 : Int32) + (2 : Int32)) = (6 : Int32) from by decide]
  refine qj X736.here hx hby dp62_4_145 rfl ?_
  obtain ⟨c738, Ar738, q738, S738, M738, H738, G738⟩ := (id V734)
  obtain ⟨T738, h738, X738, e738, W738, st738⟩ := stI X736 hx hZ e736 Ar738 (j := (6 : Int32)) (inb_of S738 ⟨by decide, by decide⟩) (g := (mkF m 146 #[vr a1, vi 1, vi 0, vi 0, vi 1, vi 0, vi 4] [(.int 0), (.int 6), (.ref o1)])) rfl rfl (hb hby dp62_4_146)
  obtain ⟨L738, X738, N738⟩ := pk X738 (Fr.snoc X738 N734 le730)
  have O738 := O734.wr W738 le730
  have z739 := Nat.le_trans z735 (Nat.le_of_eq W738.size.symm)
  have V738 : Arv Z h738 o1 kl1 .int 256 [(.int 0), (.int 0), (.int 0), (.int 0), (.int 1), (.int 0), (.int 0), (.int 0)] (.int 0) := Arv.set Ar738 q738 S738 M738 H738 G738 rfl W738 6 (by decide) (Nat.le_of_ble_eq_true rfl)
  refine og st738 ?_
  show OG p e below _ T738 m 147 #[vr a1, vi 1, vi 0, vi 0, vi 1, vi 0, vi 4] []
  refine qa X738.here hx hby dp62_4_147 rfl rfl ?_
  have F741 := (F737.other W738 (Or.inl (Nat.ne_of_lt PO1)))
  obtain ⟨T740, X740, e740, st740⟩ := getF X738 hx hZ hown (host := "") (Or.inl (ow hw 209 rfl)) Via.refl e738 F741 (g := (mkF m 148 #[vr a1, vi 1, vi 0, vi 0, vi 1, vi 0, vi 4] [(.ref a1)])) rfl rfl (hb hby dp62_4_148)
  refine og st740 ?_
  show OG p e below _ T740 m 151 #[vr a1, vi 1, vi 0, vi 0, vi 1, vi 0, vi 4] [(.ref o1)]
  refine qi X740.here hx hby dp62_4_151 rfl ?_
  refine qc X740.here hx hby dp62_4_153 ?_
  refine qe X740.here hx hby dp62_4_154 rfl ?_
  show OG p e below _ T740 m 155 #[vr a1, vi 1, vi 0, vi 0, vi 1, vi 0, vi 4] [(.int ((4 : Int32) + (3 : Int32))), (.ref o1)]
  rw [show ((4 : Int32) + (3 : Int32)) = (7 : Int32) from by decide]
  refine qi X740.here hx hby dp62_4_155 rfl ?_
  obtain ⟨c742, Ar742, q742, S742, M742, H742, G742⟩ := (id V738)
  obtain ⟨T742, h742, X742, e742, W742, st742⟩ := stI X740 hx hZ e740 Ar742 (j := (7 : Int32)) (inb_of S742 ⟨by decide, by decide⟩) (g := (mkF m 157 #[vr a1, vi 1, vi 0, vi 0, vi 1, vi 0, vi 4] [(.int 1), (.int 7), (.ref o1)])) rfl rfl (hb hby dp62_4_157)
  obtain ⟨L742, X742, N742⟩ := pk X742 (Fr.snoc X742 N738 le730)
  have O742 := O738.wr W742 le730
  have z743 := Nat.le_trans z739 (Nat.le_of_eq W742.size.symm)
  have V742 : Arv Z h742 o1 kl1 .int 256 [(.int 0), (.int 0), (.int 0), (.int 0), (.int 1), (.int 0), (.int 0), (.int 1)] (.int 0) := Arv.set Ar742 q742 S742 M742 H742 G742 rfl W742 7 (by decide) (Nat.le_of_ble_eq_true rfl)
  refine og st742 ?_
  show OG p e below _ T742 m 158 #[vr a1, vi 1, vi 0, vi 0, vi 1, vi 0, vi 4] []
  refine qa X742.here hx hby dp62_4_158 rfl rfl ?_
  refine qd X742.here hx hby dp62_4_159 rfl rfl ?_
  have kg745 := (((((Keep.refl _ [o1]).wr W729 (om 0 rfl)).wr W734 (om 0 rfl)).wr W738 (om 0 rfl)).wr W742 (om 0 rfl))
  have ni746 := (ninS (Nat.ne_of_lt PO1) nin0)
  have F747 := (PQ188.keep kg745 ni746)
  obtain ⟨T744, X744, e744, st744⟩ := getF X742 hx hZ hown (host := "") (Or.inl (ow hw 336 rfl)) Via.refl e742 F747 (g := (mkF m 160 #[vr a1, vi 1, vi 0, vi 0, vi 1, vi 0, vi 4] [(.ref a1), (.ref a1)])) rfl rfl (hb hby dp62_4_160)
  refine og st744 ?_
  show OG p e below _ T744 m 163 #[vr a1, vi 1, vi 0, vi 0, vi 1, vi 0, vi 4] [(.int 1), (.ref a1)]
  refine og (fun _ k => XS.dupX1 X744.here hx rfl (hb hby dp62_4_163) rfl rfl rfl k) ?_
  show OG p e below _ T744 m 164 #[vr a1, vi 1, vi 0, vi 0, vi 1, vi 0, vi 4] [(.int 1), (.ref a1), (.int 1)]
  refine qc X744.here hx hby dp62_4_164 ?_
  refine qe X744.here hx hby dp62_4_165 rfl ?_
  show OG p e below _ T744 m 166 #[vr a1, vi 1, vi 0, vi 0, vi 1, vi 0, vi 4] [(.int ((1 : Int32) + (1 : Int32))), (.ref a1), (.int 1)]
  rw [show ((1 : Int32) + (1 : Int32)) = (2 : Int32) from by decide]
  have F749 := (PQ175.keep kg745)
  obtain ⟨T748, h748, X748, e748, W748, st748⟩ := putF X744 hx hZ hown (host := "") (Or.inl (ow hw 336 rfl)) Via.refl e744 F747 F749 (Or.inl (ow hw 337 rfl)) (ow hw 196 rfl) (ty := .int) (by decide) rfl rfl (g := (mkF m 166 #[vr a1, vi 1, vi 0, vi 0, vi 1, vi 0, vi 4] [(.int 2), (.ref a1), (.int 1)])) rfl rfl (hb hby dp62_4_166)
  obtain ⟨L748, X748, N748⟩ := pk X748 (Fr.snoc X748 N742 PQ176)
  have O748 := O742.wr W748 PQ176
  have z750 := Nat.le_trans z743 (Nat.le_of_eq W748.size.symm)
  have F748 : Fld Z h748 a1 "com/example/reweave/reweave/control/SearchPath" "listRows" "I" (.int 2) := F747.same W748
  refine og st748 ?_
  show OG p e below _ T748 m 169 #[vr a1, vi 1, vi 0, vi 0, vi 1, vi 0, vi 4] [(.int 1)]
  obtain ⟨fs, hr, hrun, hended, hW, hsame⟩ := X748.leave (v := some (.int 1)) (fun h => by rw [Bd.returns] at h; cases h)
  refine ⟨_, _, retOut X748 hx Bd.returns rfl (Or.inl ⟨rfl, Or.inl rfl, _, rfl⟩) (hb hby dp62_4_169) hr, hrun, hended, _, _, rfl, ?_, ⟨_, rfl⟩, hW, hsame.mono (by decide) (by decide)⟩
  show Q_lr1 Z ku0 ku1 ku2 ku3 aDef aCac aEmp aMir kDef cCac a1 n1 m1 o1 s1 s2 s3 s4 s5 kl1 h0 n0 _ T748.heap _
  rw [e748]
  have F751 := (oo W748 (PQ179.keep kg745 ni746) (lp_13 hw) (lp_26 hw) (by decide))
  have F752 := (oo W748 (PQ180.keep kg745 ni746) (lp_12 hw) (lp_26 hw) (by decide))
  have F753 := (oo W748 (F741.other W742 (Or.inl (Nat.ne_of_lt PO1))) (lp_14 hw) (lp_26 hw) (by decide))
  have F754 := (oo W748 (PQ182.keep kg745 ni746) (lp_15 hw) (lp_26 hw) (by decide))
  have F755 := (oo W748 (PQ183.keep kg745 ni746) (lp_17 hw) (lp_26 hw) (by decide))
  have F756 := (oo W748 (PQ184.keep kg745 ni746) (lp_18 hw) (lp_26 hw) (by decide))
  have F757 := (oo W748 (PQ185.keep kg745 ni746) (lp_19 hw) (lp_26 hw) (by decide))
  have F758 := (oo W748 (PQ186.keep kg745 ni746) (lp_20 hw) (lp_26 hw) (by decide))
  have F759 := (oo W748 (PQ187.keep kg745 ni746) (lp_25 hw) (lp_26 hw) (by decide))
  have F760 := (V742.other W748 (Ne.symm (Nat.ne_of_lt PO1)))
  exact ⟨rfl, N748, ((((((Keep.refl _ [a1, o1]).wr W729 (om 1 rfl)).wr W734 (om 1 rfl)).wr W738 (om 1 rfl)).wr W742 (om 1 rfl)).wr W748 (om 0 rfl)), F751, F752, F753, F754, F755, F756, F757, F758, F759, F748, F760⟩
theorem dp62_3_0 : decode prog_62_method_3_code 0 = .ok (.aload_n 0, 1) := by decide +kernel
theorem dp62_3_1 : decode prog_62_method_3_code 1 = .ok (.getfield 65, 3) := by decide +kernel
theorem dp62_3_4 : decode prog_62_method_3_code 4 = .ok (.aload_n 0, 1) := by decide +kernel
theorem dp62_3_5 : decode prog_62_method_3_code 5 = .ok (.getfield 15, 3) := by decide +kernel
theorem dp62_3_8 : decode prog_62_method_3_code 8 = .ok (.arraylength, 1) := by decide +kernel
theorem dp62_3_9 : decode prog_62_method_3_code 9 = .ok (.if_icmp .ne 43, 3) := by decide +kernel
theorem dp62_3_52 : decode prog_62_method_3_code 52 = .ok (.aload_n 0, 1) := by decide +kernel
theorem dp62_3_53 : decode prog_62_method_3_code 53 = .ok (.getfield 65, 3) := by decide +kernel
theorem dp62_3_56 : decode prog_62_method_3_code 56 = .ok (.istore 4, 2) := by decide +kernel
theorem dp62_3_58 : decode prog_62_method_3_code 58 = .ok (.bipush 9, 2) := by decide +kernel
theorem dp62_3_60 : decode prog_62_method_3_code 60 = .ok (.iload 4, 2) := by decide +kernel
theorem dp62_3_62 : decode prog_62_method_3_code 62 = .ok (.imul, 1) := by decide +kernel
theorem dp62_3_63 : decode prog_62_method_3_code 63 = .ok (.istore 5, 2) := by decide +kernel
theorem dp62_3_65 : decode prog_62_method_3_code 65 = .ok (.aload_n 1, 1) := by decide +kernel
theorem dp62_3_66 : decode prog_62_method_3_code 66 = .ok (.instanceof 78, 3) := by decide +kernel
theorem dp62_3_69 : decode prog_62_method_3_code 69 = .ok (.ifCond .eq 94, 3) := by decide +kernel
theorem dp62_3_72 : decode prog_62_method_3_code 72 = .ok (.aload_n 1, 1) := by decide +kernel
theorem dp62_3_73 : decode prog_62_method_3_code 73 = .ok (.checkcast 78, 3) := by decide +kernel
theorem dp62_3_76 : decode prog_62_method_3_code 76 = .ok (.astore 8, 2) := by decide +kernel
theorem dp62_3_78 : decode prog_62_method_3_code 78 = .ok (.aload_n 0, 1) := by decide +kernel
theorem dp62_3_79 : decode prog_62_method_3_code 79 = .ok (.getfield 9, 3) := by decide +kernel
theorem dp62_3_82 : decode prog_62_method_3_code 82 = .ok (.iload 5, 2) := by decide +kernel
theorem dp62_3_84 : decode prog_62_method_3_code 84 = .ok (.iconst 0, 1) := by decide +kernel
theorem dp62_3_85 : decode prog_62_method_3_code 85 = .ok (.iadd, 1) := by decide +kernel
theorem dp62_3_86 : decode prog_62_method_3_code 86 = .ok (.aload 8, 2) := by decide +kernel
theorem dp62_3_88 : decode prog_62_method_3_code 88 = .ok (.invokevirtual 80, 3) := by decide +kernel
theorem pd___Lcom_example_reweave_reweave_control_Point_Kind_ : parseMethodDescriptor "()Lcom/example/reweave/reweave/control/Point$Kind;" = some ⟨[], some (.object "com/example/reweave/reweave/control/Point$Kind")⟩ := by decide +kernel
theorem dp62_3_91 : decode prog_62_method_3_code 91 = .ok (.invokevirtual 84, 3) := by decide +kernel
theorem dp62_3_94 : decode prog_62_method_3_code 94 = .ok (.iconst 1, 1) := by decide +kernel
theorem dp62_3_95 : decode prog_62_method_3_code 95 = .ok (.iadd, 1) := by decide +kernel
theorem dp62_3_96 : decode prog_62_method_3_code 96 = .ok (.iastore, 1) := by decide +kernel
theorem dp62_3_97 : decode prog_62_method_3_code 97 = .ok (.aload_n 0, 1) := by decide +kernel
theorem dp62_3_98 : decode prog_62_method_3_code 98 = .ok (.getfield 9, 3) := by decide +kernel
theorem dp62_3_101 : decode prog_62_method_3_code 101 = .ok (.iload 5, 2) := by decide +kernel
theorem dp62_3_103 : decode prog_62_method_3_code 103 = .ok (.iconst 1, 1) := by decide +kernel
theorem dp62_3_104 : decode prog_62_method_3_code 104 = .ok (.iadd, 1) := by decide +kernel
theorem dp62_3_105 : decode prog_62_method_3_code 105 = .ok (.aload 8, 2) := by decide +kernel
theorem dp62_3_107 : decode prog_62_method_3_code 107 = .ok (.invokevirtual 90, 3) := by decide +kernel
theorem dp62_3_110 : decode prog_62_method_3_code 110 = .ok (.iastore, 1) := by decide +kernel
theorem dp62_3_111 : decode prog_62_method_3_code 111 = .ok (.aload_n 0, 1) := by decide +kernel
theorem dp62_3_112 : decode prog_62_method_3_code 112 = .ok (.getfield 9, 3) := by decide +kernel
theorem dp62_3_115 : decode prog_62_method_3_code 115 = .ok (.iload 5, 2) := by decide +kernel
theorem dp62_3_117 : decode prog_62_method_3_code 117 = .ok (.iconst 2, 1) := by decide +kernel
theorem dp62_3_118 : decode prog_62_method_3_code 118 = .ok (.iadd, 1) := by decide +kernel
theorem dp62_3_119 : decode prog_62_method_3_code 119 = .ok (.aload_n 0, 1) := by decide +kernel
theorem dp62_3_120 : decode prog_62_method_3_code 120 = .ok (.getfield 25, 3) := by decide +kernel
theorem dp62_3_123 : decode prog_62_method_3_code 123 = .ok (.aload 8, 2) := by decide +kernel
theorem dp62_3_125 : decode prog_62_method_3_code 125 = .ok (.invokevirtual 93, 3) := by decide +kernel
theorem pd___Lcom_example_reweave_reweave_control_Location_ : parseMethodDescriptor "()Lcom/example/reweave/reweave/control/Location;" = some ⟨[], some (.object "com/example/reweave/reweave/control/Location")⟩ := by decide +kernel
theorem dp62_3_128 : decode prog_62_method_3_code 128 = .ok (.invokevirtual 97, 3) := by decide +kernel
theorem pd_Ljava_lang_Object___I : parseMethodDescriptor "(Ljava/lang/Object;)I" = some ⟨[(.object "java/lang/Object")], some .int⟩ := by decide +kernel
theorem dp62_3_131 : decode prog_62_method_3_code 131 = .ok (.iastore, 1) := by decide +kernel
theorem dp62_3_132 : decode prog_62_method_3_code 132 = .ok (.aload_n 0, 1) := by decide +kernel
theorem dp62_3_133 : decode prog_62_method_3_code 133 = .ok (.getfield 36, 3) := by decide +kernel
theorem dp62_3_136 : decode prog_62_method_3_code 136 = .ok (.aload 8, 2) := by decide +kernel
theorem dp62_3_138 : decode prog_62_method_3_code 138 = .ok (.invokevirtual 101, 3) := by decide +kernel
theorem dp62_3_141 : decode prog_62_method_3_code 141 = .ok (.invokevirtual 97, 3) := by decide +kernel
theorem dp62_3_144 : decode prog_62_method_3_code 144 = .ok (.istore 6, 2) := by decide +kernel
theorem dp62_3_146 : decode prog_62_method_3_code 146 = .ok (.aload_n 0, 1) := by decide +kernel
theorem dp62_3_147 : decode prog_62_method_3_code 147 = .ok (.getfield 39, 3) := by decide +kernel
theorem dp62_3_150 : decode prog_62_method_3_code 150 = .ok (.aload 8, 2) := by decide +kernel
theorem dp62_3_152 : decode prog_62_method_3_code 152 = .ok (.invokevirtual 105, 3) := by decide +kernel
theorem dp62_3_155 : decode prog_62_method_3_code 155 = .ok (.invokevirtual 97, 3) := by decide +kernel
theorem dp62_3_158 : decode prog_62_method_3_code 158 = .ok (.istore 7, 2) := by decide +kernel
theorem dp62_3_160 : decode prog_62_method_3_code 160 = .ok (.goto 84, 3) := by decide +kernel
theorem dp62_3_244 : decode prog_62_method_3_code 244 = .ok (.aload_n 0, 1) := by decide +kernel
theorem dp62_3_245 : decode prog_62_method_3_code 245 = .ok (.getfield 9, 3) := by decide +kernel
theorem dp62_3_248 : decode prog_62_method_3_code 248 = .ok (.iload 5, 2) := by decide +kernel
theorem dp62_3_250 : decode prog_62_method_3_code 250 = .ok (.iconst 3, 1) := by decide +kernel
theorem dp62_3_251 : decode prog_62_method_3_code 251 = .ok (.iadd, 1) := by decide +kernel
theorem dp62_3_252 : decode prog_62_method_3_code 252 = .ok (.aload_n 0, 1) := by decide +kernel
theorem dp62_3_253 : decode prog_62_method_3_code 253 = .ok (.iload 6, 2) := by decide +kernel
theorem dp62_3_255 : decode prog_62_method_3_code 255 = .ok (.iload 7, 2) := by decide +kernel
theorem dp62_3_257 : decode prog_62_method_3_code 257 = .ok (.aload_n 0, 1) := by decide +kernel
theorem dp62_3_258 : decode prog_62_method_3_code 258 = .ok (.getfield 42, 3) := by decide +kernel
theorem dp62_3_261 : decode prog_62_method_3_code 261 = .ok (.aload_n 2, 1) := by decide +kernel
theorem dp62_3_262 : decode prog_62_method_3_code 262 = .ok (.invokevirtual 97, 3) := by decide +kernel
theorem dp62_3_265 : decode prog_62_method_3_code 265 = .ok (.aload_n 0, 1) := by decide +kernel
theorem dp62_3_266 : decode prog_62_method_3_code 266 = .ok (.getfield 45, 3) := by decide +kernel
theorem dp62_3_269 : decode prog_62_method_3_code 269 = .ok (.aload_n 3, 1) := by decide +kernel
theorem dp62_3_270 : decode prog_62_method_3_code 270 = .ok (.invokevirtual 97, 3) := by decide +kernel
theorem dp62_3_273 : decode prog_62_method_3_code 273 = .ok (.invokevirtual 125, 3) := by decide +kernel
theorem pd_I_I_I_I__I : parseMethodDescriptor "(IIII)I" = some ⟨[.int, .int, .int, .int], some .int⟩ := by decide +kernel
theorem dp62_3_276 : decode prog_62_method_3_code 276 = .ok (.iastore, 1) := by decide +kernel
theorem dp62_3_277 : decode prog_62_method_3_code 277 = .ok (.aload_n 0, 1) := by decide +kernel
theorem dp62_3_278 : decode prog_62_method_3_code 278 = .ok (.getfield 9, 3) := by decide +kernel
theorem dp62_3_281 : decode prog_62_method_3_code 281 = .ok (.iload 5, 2) := by decide +kernel
theorem dp62_3_283 : decode prog_62_method_3_code 283 = .ok (.iconst 4, 1) := by decide +kernel
theorem dp62_3_284 : decode prog_62_method_3_code 284 = .ok (.iadd, 1) := by decide +kernel
theorem dp62_3_285 : decode prog_62_method_3_code 285 = .ok (.iconst 0, 1) := by decide +kernel
theorem dp62_3_286 : decode prog_62_method_3_code 286 = .ok (.iastore, 1) := by decide +kernel
theorem dp62_3_287 : decode prog_62_method_3_code 287 = .ok (.aload_n 0, 1) := by decide +kernel
theorem dp62_3_288 : decode prog_62_method_3_code 288 = .ok (.getfield 9, 3) := by decide +kernel
theorem dp62_3_291 : decode prog_62_method_3_code 291 = .ok (.iload 5, 2) := by decide +kernel
theorem dp62_3_293 : decode prog_62_method_3_code 293 = .ok (.bipush 6, 2) := by decide +kernel
theorem dp62_3_295 : decode prog_62_method_3_code 295 = .ok (.iadd, 1) := by decide +kernel
theorem dp62_3_296 : decode prog_62_method_3_code 296 = .ok (.iconst 0, 1) := by decide +kernel
theorem dp62_3_297 : decode prog_62_method_3_code 297 = .ok (.iastore, 1) := by decide +kernel
theorem dp62_3_298 : decode prog_62_method_3_code 298 = .ok (.aload_n 0, 1) := by decide +kernel
theorem dp62_3_299 : decode prog_62_method_3_code 299 = .ok (.getfield 9, 3) := by decide +kernel
theorem dp62_3_302 : decode prog_62_method_3_code 302 = .ok (.iload 5, 2) := by decide +kernel
theorem dp62_3_304 : decode prog_62_method_3_code 304 = .ok (.bipush 7, 2) := by decide +kernel
theorem dp62_3_306 : decode prog_62_method_3_code 306 = .ok (.iadd, 1) := by decide +kernel
theorem dp62_3_307 : decode prog_62_method_3_code 307 = .ok (.iconst 1, 1) := by decide +kernel
theorem dp62_3_308 : decode prog_62_method_3_code 308 = .ok (.iastore, 1) := by decide +kernel
theorem dp62_3_309 : decode prog_62_method_3_code 309 = .ok (.aload_n 0, 1) := by decide +kernel
theorem dp62_3_310 : decode prog_62_method_3_code 310 = .ok (.getfield 9, 3) := by decide +kernel
theorem dp62_3_313 : decode prog_62_method_3_code 313 = .ok (.iload 5, 2) := by decide +kernel
theorem dp62_3_315 : decode prog_62_method_3_code 315 = .ok (.bipush 8, 2) := by decide +kernel
theorem dp62_3_317 : decode prog_62_method_3_code 317 = .ok (.iadd, 1) := by decide +kernel
theorem dp62_3_318 : decode prog_62_method_3_code 318 = .ok (.iconst 1, 1) := by decide +kernel
theorem dp62_3_319 : decode prog_62_method_3_code 319 = .ok (.iastore, 1) := by decide +kernel
theorem dp62_3_320 : decode prog_62_method_3_code 320 = .ok (.aload_n 2, 1) := by decide +kernel
theorem dp62_3_321 : decode prog_62_method_3_code 321 = .ok (.invokeinterface 129 1, 5) := by decide +kernel
theorem dp62_3_326 : decode prog_62_method_3_code 326 = .ok (.iconst 1, 1) := by decide +kernel
theorem dp62_3_327 : decode prog_62_method_3_code 327 = .ok (.isub, 1) := by decide +kernel
theorem dp62_3_328 : decode prog_62_method_3_code 328 = .ok (.bipush 32, 2) := by decide +kernel
theorem dp62_3_330 : decode prog_62_method_3_code 330 = .ok (.idiv, 1) := by decide +kernel
theorem dp62_3_331 : decode prog_62_method_3_code 331 = .ok (.istore 8, 2) := by decide +kernel
theorem dp62_3_333 : decode prog_62_method_3_code 333 = .ok (.aload_n 0, 1) := by decide +kernel
theorem dp62_3_334 : decode prog_62_method_3_code 334 = .ok (.getfield 15, 3) := by decide +kernel
theorem dp62_3_337 : decode prog_62_method_3_code 337 = .ok (.iload 4, 2) := by decide +kernel
theorem dp62_3_339 : decode prog_62_method_3_code 339 = .ok (.iload 8, 2) := by decide +kernel
theorem dp62_3_341 : decode prog_62_method_3_code 341 = .ok (.ifCond .ne 7, 3) := by decide +kernel
theorem dp62_3_344 : decode prog_62_method_3_code 344 = .ok (.aconst_null, 1) := by decide +kernel
theorem dp62_3_345 : decode prog_62_method_3_code 345 = .ok (.goto 12, 3) := by decide +kernel
theorem dp62_3_357 : decode prog_62_method_3_code 357 = .ok (.aastore, 1) := by decide +kernel
theorem dp62_3_358 : decode prog_62_method_3_code 358 = .ok (.aload_n 0, 1) := by decide +kernel
theorem dp62_3_359 : decode prog_62_method_3_code 359 = .ok (.dup, 1) := by decide +kernel
theorem dp62_3_360 : decode prog_62_method_3_code 360 = .ok (.getfield 65, 3) := by decide +kernel
theorem dp62_3_363 : decode prog_62_method_3_code 363 = .ok (.iconst 1, 1) := by decide +kernel
theorem dp62_3_364 : decode prog_62_method_3_code 364 = .ok (.iadd, 1) := by decide +kernel
theorem dp62_3_365 : decode prog_62_method_3_code 365 = .ok (.putfield 65, 3) := by decide +kernel
theorem dp62_3_368 : decode prog_62_method_3_code 368 = .ok (.iload 4, 2) := by decide +kernel
theorem dp62_3_370 : decode prog_62_method_3_code 370 = .ok (.ireturn, 1) := by decide +kernel
def Q_ad0 (Z : State) (ku0 ku1 ku2 ku3 aDef aCac aEmp aMir : Addr) (kDef : ClassId) (cCac : Cell) (a1 : Addr) (q1 : Addr) (t1 : Addr) (u1 : Addr) (d1 : Addr) (c9 : Int32) (p2 : Int32) (ru : Addr) (n1 : Addr) (m1 : Addr) (o1 : Addr) (s1 : Addr) (l1 : Addr) (s2 : Addr) (l2 : Addr) (s3 : Addr) (l3 : Addr) (s4 : Addr) (l4 : Addr) (s5 : Addr) (l5 : Addr) (kn1 : ClassId) (kl1 : ClassId) (km1 : ClassId) (h0 : Heap) (n0 : Nat) (v : Option Value) (h : Heap) (L : List Loc) : Prop := ∃ (g2 : Addr) (kg2 : ClassId) (g5 : Addr) (kg5 : ClassId), v = some (.int 0) ∧ Fr n0 L ∧ Keep h0 h [a1, n1, m1, o1, s1, l1, s2, l2, s3, l3, s4, l4, s5, l5] ∧ Fld Z h a1 "com/example/reweave/reweave/control/SearchPath" "numbers" "[I" (.ref n1) ∧ Fld Z h a1 "com/example/reweave/reweave/control/SearchPath" "more" "[Lcom/example/reweave/reweave/control/SearchPath$More;" (.ref m1) ∧ Fld Z h a1 "com/example/reweave/reweave/control/SearchPath" "lists" "[I" (.ref o1) ∧ Fld Z h a1 "com/example/reweave/reweave/control/SearchPath" "size" "I" (.int 1) ∧ Fld Z h a1 "com/example/reweave/reweave/control/SearchPath" "listRows" "I" (.int 1) ∧ Fld Z h a1 "com/example/reweave/reweave/control/SearchPath" "locations" "Lcom/example/reweave/reweave/control/SharedValues;" (.ref s1) ∧ Fld Z h a1 "com/example/reweave/reweave/control/SearchPath" "runnables" "Lcom/example/reweave/reweave/control/SharedValues;" (.ref s2) ∧ Fld Z h a1 "com/example/reweave/reweave/control/SearchPath" "timeOuts" "Lcom/example/reweave/reweave/control/SharedValues;" (.ref s3) ∧ Fld Z h a1 "com/example/reweave/reweave/control/SearchPath" "options" "Lcom/example/reweave/reweave/control/SharedValues;" (.ref s4) ∧ Fld Z h a1 "com/example/reweave/reweave/control/SearchPath" "waiting" "Lcom/example/reweave/reweave/control/SharedValues;" (.ref s5) ∧ Arv Z h n1 kn1 .int 576 [(.int (c9 + (1 : Int32))), (.int p2), (.int 0), (.int 0), (.int 0), (.int 0), (.int 0), (.int 1), (.int 1), (.int 0), (.int 0), (.int 0), (.int 0), (.int 0), (.int 0), (.int 0), (.int 0), (.int 0)] (.int 0) ∧ Arv Z h m1 km1 (.object "com/example/reweave/reweave/control/SearchPath$More") (64 : Int32) [.null, .null] .null ∧ Arv Z h o1 kl1 .int 256 [(.int 0), (.int 0), (.int 0), (.int 0), (.int 0), (.int 0), (.int 0), (.int 0)] (.int 0) ∧ h0.size ≤ g2 ∧ g2 < g5 ∧ Exa Z h g2 "[Ljava/lang/Object;" ∧ Arv Z h g2 kg2 (.object "java/lang/Object") (10 : Int32) [(.ref ru), .null] .null ∧ Ovr Z kg2 "java/lang/Object" ∧ Exa Z h g5 "[Ljava/lang/Object;" ∧ Arv Z h g5 kg5 (.object "java/lang/Object") (10 : Int32) [(.ref u1), .null] .null ∧ Ovr Z kg5 "java/lang/Object" ∧ Fld Z h s1 "com/example/reweave/reweave/control/SharedValues" "values" "Ljava/util/List;" (.ref l1) ∧ Fld Z h s1 "com/example/reweave/reweave/control/SharedValues" "last" "Ljava/lang/Object;" .null ∧ Fld Z h l1 "java/util/ArrayList" "size" "I" (.int 1) ∧ Fld Z h s2 "com/example/reweave/reweave/control/SharedValues" "values" "Ljava/util/List;" (.ref l2) ∧ Fld Z h s2 "com/example/reweave/reweave/control/SharedValues" "last" "Ljava/lang/Object;" (.ref ru) ∧ Fld Z h l2 "java/util/AbstractList" "modCount" "I" (.int ((0 : Int32) + (1 : Int32))) ∧ Fld Z h l2 "java/util/ArrayList" "elementData" "[Ljava/lang/Object;" (.ref g2) ∧ Fld Z h l2 "java/util/ArrayList" "size" "I" (.int 1) ∧ Fld Z h s3 "com/example/reweave/reweave/control/SharedValues" "values" "Ljava/util/List;" (.ref l3) ∧ Fld Z h s3 "com/example/reweave/reweave/control/SharedValues" "last" "Ljava/lang/Object;" (.ref aEmp) ∧ Fld Z h l3 "java/util/ArrayList" "size" "I" (.int 1) ∧ Fld Z h s4 "com/example/reweave/reweave/control/SharedValues" "values" "Ljava/util/List;" (.ref l4) ∧ Fld Z h s4 "com/example/reweave/reweave/control/SharedValues" "last" "Ljava/lang/Object;" (.ref t1) ∧ Fld Z h l4 "java/util/ArrayList" "size" "I" (.int 1) ∧ Fld Z h s5 "com/example/reweave/reweave/control/SharedValues" "values" "Ljava/util/List;" (.ref l5) ∧ Fld Z h s5 "com/example/reweave/reweave/control/SharedValues" "last" "Ljava/lang/Object;" (.ref u1) ∧ Fld Z h l5 "java/util/AbstractList" "modCount" "I" (.int ((0 : Int32) + (1 : Int32))) ∧ Fld Z h l5 "java/util/ArrayList" "elementData" "[Ljava/lang/Object;" (.ref g5) ∧ Fld Z h l5 "java/util/ArrayList" "size" "I" (.int 1)
theorem ef_ad0 (m : MethodId) (x0 : Addr) (x1 : Addr) (x2 : Addr) (x3 : Addr) : entryFrame m #[(.ref x0), (.ref x1), (.ref x2), (.ref x3)] 10 = mkF m 0 #[vr x0, vr x1, vr x2, vr x3, .unset, .unset, .unset, .unset, .unset, .unset] [] := by first | (simp [entryFrame, mkF, argsToLocals, Value.category]; done) | rfl
theorem rm_ad0 (l : Launch) (Z : State) (a0 : Array Value) (hw : HW Z a0) (ws : List Jvm.Cond) (ku0 ku1 ku2 ku3 aDef aCac aEmp aMir : Addr) (kDef : ClassId) (cCac : Cell) (F0 : OwnFacts Z ku0 ku1 ku2 ku3 aDef aCac aEmp aMir kDef cCac) (a1 : Addr) (q1 : Addr) (t1 : Addr) (u1 : Addr) (d1 : Addr) (c9 : Int32) (p2 : Int32) (ru : Addr) (n1 : Addr) (m1 : Addr) (o1 : Addr) (s1 : Addr) (l1 : Addr) (s2 : Addr) (l2 : Addr) (s3 : Addr) (l3 : Addr) (s4 : Addr) (l4 : Addr) (s5 : Addr) (l5 : Addr) (kn1 : ClassId) (kl1 : ClassId) (km1 : ClassId) (h0 : Heap) (n0 : Nat) (O0 : Old Z n0 h0) (PQ189 : Exa Z h0 a1 "com/example/reweave/reweave/control/SearchPath") (PQ190 : Exa Z h0 q1 "com/example/reweave/reweave/control/Point") (PQ191 : Exa Z h0 t1 "java/util/ArrayList") (PQ192 : Exa Z h0 u1 "java/util/ArrayList") (PQ193 : Fld Z h0 q1 "com/example/reweave/reweave/control/Point" "kind" "Lcom/example/reweave/reweave/control/Point$Kind;" (.ref d1)) (PQ194 : Fld Z h0 q1 "com/example/reweave/reweave/control/Point" "thread" "I" (.int p2)) (PQ195 : Fld Z h0 q1 "com/example/reweave/reweave/control/Point" "location" "Lcom/example/reweave/reweave/control/Location;" .null) (PQ196 : Fld Z h0 q1 "com/example/reweave/reweave/control/Point" "runnable" "Ljava/util/List;" (.ref ru)) (PQ197 : Fld Z h0 q1 "com/example/reweave/reweave/control/Point" "timeOuts" "Ljava/util/List;" (.ref aEmp)) (PQ198 : Exa Z h0 ru "java/util/ImmutableCollections$List12") (PQ199 : Exa Z h0 d1 "com/example/reweave/reweave/control/Point$Kind") (PQ200 : Fld Z h0 d1 "java/lang/Enum" "ordinal" "I" (.int c9)) (PQ201 : d1 < Z.heap.size) (PQ202 : Fld Z h0 t1 "java/util/ArrayList" "size" "I" (.int 2)) (PQ203 : n0 ≤ t1) (PQ204 : Fld Z h0 a1 "com/example/reweave/reweave/control/SearchPath" "numbers" "[I" (.ref n1)) (PQ205 : Fld Z h0 a1 "com/example/reweave/reweave/control/SearchPath" "more" "[Lcom/example/reweave/reweave/control/SearchPath$More;" (.ref m1)) (PQ206 : Fld Z h0 a1 "com/example/reweave/reweave/control/SearchPath" "lists" "[I" (.ref o1)) (PQ207 : Fld Z h0 a1 "com/example/reweave/reweave/control/SearchPath" "size" "I" (.int 0)) (PQ208 : Fld Z h0 a1 "com/example/reweave/reweave/control/SearchPath" "listRows" "I" (.int 0)) (PQ209 : Fld Z h0 a1 "com/example/reweave/reweave/control/SearchPath" "locations" "Lcom/example/reweave/reweave/control/SharedValues;" (.ref s1)) (PQ210 : Fld Z h0 a1 "com/example/reweave/reweave/control/SearchPath" "runnables" "Lcom/example/reweave/reweave/control/SharedValues;" (.ref s2)) (PQ211 : Fld Z h0 a1 "com/example/reweave/reweave/control/SearchPath" "timeOuts" "Lcom/example/reweave/reweave/control/SharedValues;" (.ref s3)) (PQ212 : Fld Z h0 a1 "com/example/reweave/reweave/control/SearchPath" "options" "Lcom/example/reweave/reweave/control/SharedValues;" (.ref s4)) (PQ213 : Fld Z h0 a1 "com/example/reweave/reweave/control/SearchPath" "waiting" "Lcom/example/reweave/reweave/control/SharedValues;" (.ref s5)) (PQ214 : Exa Z h0 n1 "[I") (PQ215 : Exa Z h0 m1 "[Lcom/example/reweave/reweave/control/SearchPath$More;") (PQ216 : Exa Z h0 o1 "[I") (PQ217 : Arv Z h0 n1 kn1 .int 576 [(.int 0), (.int 0), (.int 0), (.int 0), (.int 0), (.int 0), (.int 0), (.int 0), (.int 0), (.int 0), (.int 0), (.int 0), (.int 0), (.int 0), (.int 0), (.int 0), (.int 0), (.int 0)] (.int 0)) (PQ218 : Arv Z h0 m1 km1 (.object "com/example/reweave/reweave/control/SearchPath$More") (64 : Int32) [.null, .null] .null) (PQ219 : Arv Z h0 o1 kl1 .int 256 [(.int 0), (.int 0), (.int 0), (.int 0), (.int 0), (.int 0), (.int 0), (.int 0)] (.int 0)) (PQ220 : Ovr Z km1 "com/example/reweave/reweave/control/SearchPath$More") (PQ221 : Exa Z h0 s1 "com/example/reweave/reweave/control/SharedValues") (PQ222 : Exa Z h0 s2 "com/example/reweave/reweave/control/SharedValues") (PQ223 : Exa Z h0 s3 "com/example/reweave/reweave/control/SharedValues") (PQ224 : Exa Z h0 s4 "com/example/reweave/reweave/control/SharedValues") (PQ225 : Exa Z h0 s5 "com/example/reweave/reweave/control/SharedValues") (PQ226 : Exa Z h0 l1 "java/util/ArrayList") (PQ227 : Exa Z h0 l2 "java/util/ArrayList") (PQ228 : Exa Z h0 l3 "java/util/ArrayList") (PQ229 : Exa Z h0 l4 "java/util/ArrayList") (PQ230 : Exa Z h0 l5 "java/util/ArrayList") (PQ231 : Fld Z h0 s1 "com/example/reweave/reweave/control/SharedValues" "values" "Ljava/util/List;" (.ref l1)) (PQ232 : Fld Z h0 s1 "com/example/reweave/reweave/control/SharedValues" "last" "Ljava/lang/Object;" .null) (PQ233 : Fld Z h0 l1 "java/util/AbstractList" "modCount" "I" (.int 0)) (PQ234 : Fld Z h0 l1 "java/util/ArrayList" "elementData" "[Ljava/lang/Object;" (.ref aDef)) (PQ235 : Fld Z h0 l1 "java/util/ArrayList" "size" "I" (.int 0)) (PQ236 : Fld Z h0 s2 "com/example/reweave/reweave/control/SharedValues" "values" "Ljava/util/List;" (.ref l2)) (PQ237 : Fld Z h0 s2 "com/example/reweave/reweave/control/SharedValues" "last" "Ljava/lang/Object;" .null) (PQ238 : Fld Z h0 l2 "java/util/AbstractList" "modCount" "I" (.int 0)) (PQ239 : Fld Z h0 l2 "java/util/ArrayList" "elementData" "[Ljava/lang/Object;" (.ref aDef)) (PQ240 : Fld Z h0 l2 "java/util/ArrayList" "size" "I" (.int 0)) (PQ241 : Fld Z h0 s3 "com/example/reweave/reweave/control/SharedValues" "values" "Ljava/util/List;" (.ref l3)) (PQ242 : Fld Z h0 s3 "com/example/reweave/reweave/control/SharedValues" "last" "Ljava/lang/Object;" .null) (PQ243 : Fld Z h0 l3 "java/util/AbstractList" "modCount" "I" (.int 0)) (PQ244 : Fld Z h0 l3 "java/util/ArrayList" "elementData" "[Ljava/lang/Object;" (.ref aDef)) (PQ245 : Fld Z h0 l3 "java/util/ArrayList" "size" "I" (.int 0)) (PQ246 : Fld Z h0 s4 "com/example/reweave/reweave/control/SharedValues" "values" "Ljava/util/List;" (.ref l4)) (PQ247 : Fld Z h0 s4 "com/example/reweave/reweave/control/SharedValues" "last" "Ljava/lang/Object;" .null) (PQ248 : Fld Z h0 l4 "java/util/AbstractList" "modCount" "I" (.int 0)) (PQ249 : Fld Z h0 l4 "java/util/ArrayList" "elementData" "[Ljava/lang/Object;" (.ref aDef)) (PQ250 : Fld Z h0 l4 "java/util/ArrayList" "size" "I" (.int 0)) (PQ251 : Fld Z h0 s5 "com/example/reweave/reweave/control/SharedValues" "values" "Ljava/util/List;" (.ref l5)) (PQ252 : Fld Z h0 s5 "com/example/reweave/reweave/control/SharedValues" "last" "Ljava/lang/Object;" .null) (PQ253 : Fld Z h0 l5 "java/util/AbstractList" "modCount" "I" (.int 0)) (PQ254 : Fld Z h0 l5 "java/util/ArrayList" "elementData" "[Ljava/lang/Object;" (.ref aDef)) (PQ255 : Fld Z h0 l5 "java/util/ArrayList" "size" "I" (.int 0)) (PO1 : t1 < q1) (PO2 : q1 < a1) (PO3 : a1 < n1) (PO4 : n1 < m1) (PO5 : m1 < o1) (PO6 : o1 < s1) (PO7 : s1 < l1) (PO8 : l1 < s2) (PO9 : s2 < l2) (PO10 : l2 < s3) (PO11 : s3 < l3) (PO12 : l3 < s4) (PO13 : s4 < l4) (PO14 : l4 < s5) (PO15 : s5 < l5) :
    MetFree l mn9 (head1 (Jvm.Cond.code mn9 prog_62_method_3_code 10 (some .int) :: ws) (rk 6 5 50 88)) (fun a U => a = #[(.ref a1), (.ref q1), (.ref t1), (.ref u1)] ∧ Z.Warmed39 U.vm ∧ U.heap = h0) (fun _ _ _ _ _ => True) (fun _ U o U' => ∃ v L, o = .returned v ∧ Q_ad0 Z ku0 ku1 ku2 ku3 aDef aCac aEmp aMir kDef cCac a1 q1 t1 u1 d1 c9 p2 ru n1 m1 o1 s1 l1 s2 l2 s3 l3 s4 l4 s5 l5 kn1 kl1 km1 h0 n0 v U'.heap L ∧ FrameEnd U o U' L (rk 6 5 50 88).cells (rk 6 5 50 88).slots) := by
  refine MetFree.of_bodySF (plainFor_of_name pn_com_example_reweave_reweave_control_SearchPath) hisR ?_
  intro p e s m args below meth c s₁ Bd hml0 hP hK
  obtain ⟨rfl, hZ, hh⟩ := hP
  have hx := Bd.exec
  have hby := Bd.bytes
  have hml : c.maxLocals = 10 := hml0
  have hown : s.vm.findClass "com/example/reweave/reweave/control/SearchPath" = some m.cls := findClass_of_methodNamed Bd.named
  have hnm := (name_of_methodNamed Bd.named Bd.method).1
  have X0 : Stand p l e (rk 6 5 50 88) s m #[(.ref a1), (.ref q1), (.ref t1), (.ref u1)] below meth c s₁ [] 0 0 := Stand.of_body Bd
  have e0 : s₁.heap = h0 := by rw [← hh, Bd.state]; rfl
  have N0 := Fr.nil n0
  refine og (Q := fun o U' => ∃ v L, o = .returned v ∧ Q_ad0 Z ku0 ku1 ku2 ku3 aDef aCac aEmp aMir kDef cCac a1 q1 t1 u1 d1 c9 p2 ru n1 m1 o1 s1 l1 s2 l2 s3 l3 s4 l4 s5 l5 kn1 kl1 km1 h0 n0 v U'.heap L ∧ FrameEnd s o U' L (rk 6 5 50 88).cells (rk 6 5 50 88).slots) (fun t k => castTop (ef_ad0 m a1 q1 t1 u1) k) ?_
  show OG p e below _ s₁ m 0 #[vr a1, vr q1, vr t1, vr u1, .unset, .unset, .unset, .unset, .unset, .unset] []
  refine qa X0.here hx hby dp62_3_0 rfl rfl ?_
  obtain ⟨T761, X761, e761, st761⟩ := getF X0 hx hZ hown (host := "") (Or.inl (ow hw 265 rfl)) Via.refl e0 PQ207 (g := (mkF m 1 #[vr a1, vr q1, vr t1, vr u1, .unset, .unset, .unset, .unset, .unset, .unset] [(.ref a1)])) rfl rfl (hb hby dp62_3_1)
  refine og st761 ?_
  show OG p e below _ T761 m 4 #[vr a1, vr q1, vr t1, vr u1, .unset, .unset, .unset, .unset, .unset, .unset] [(.int 0)]
  refine qa X761.here hx hby dp62_3_4 rfl rfl ?_
  obtain ⟨T762, X762, e762, st762⟩ := getF X761 hx hZ hown (host := "") (Or.inl (ow hw 207 rfl)) Via.refl e761 PQ205 (g := (mkF m 5 #[vr a1, vr q1, vr t1, vr u1, .unset, .unset, .unset, .unset, .unset, .unset] [(.ref a1), (.int 0)])) rfl rfl (hb hby dp62_3_5)
  refine og st762 ?_
  show OG p e below _ T762 m 8 #[vr a1, vr q1, vr t1, vr u1, .unset, .unset, .unset, .unset, .unset, .unset] [(.ref m1), (.int 0)]
  obtain ⟨c763, Ar763, q763, S763, M763, H763, G763⟩ := (id PQ218)
  refine og (fun _ k => X762.arraylength hx (cell := c763) (by rw [e762]; exact Ar763.1) (State.isArrayOf_alike hZ.alike Ar763.2.1) (g := (mkF m 8 #[vr a1, vr q1, vr t1, vr u1, .unset, .unset, .unset, .unset, .unset, .unset] [(.ref m1), (.int 0)])) rfl (rest := [(.int 0)]) rfl (hb hby dp62_3_8) _ k) ?_
  rw [len_of S763 M763]
  show OG p e below _ T762 m 9 #[vr a1, vr q1, vr t1, vr u1, .unset, .unset, .unset, .unset, .unset, .unset] [(.int 64), (.int 0)]
  refine og (fun _ k => XS.icmpYes X762.here hx rfl (pc0 := 9) (pc' := 52) rfl (hb hby dp62_3_9) rfl (by decide) (by decide) (by decide) k) ?_
  show OG p e below _ T762 m 52 #[vr a1, vr q1, vr t1, vr u1, .unset, .unset, .unset, .unset, .unset, .unset] []
  refine qa X762.here hx hby dp62_3_52 rfl rfl ?_
  obtain ⟨T764, X764, e764, st764⟩ := getF X762 hx hZ hown (host := "") (Or.inl (ow hw 265 rfl)) Via.refl e762 PQ207 (g := (mkF m 53 #[vr a1, vr q1, vr t1, vr u1, .unset, .unset, .unset, .unset, .unset, .unset] [(.ref a1)])) rfl rfl (hb hby dp62_3_53)
  refine og st764 ?_
  show OG p e below _ T764 m 56 #[vr a1, vr q1, vr t1, vr u1, .unset, .unset, .unset, .unset, .unset, .unset] [(.int 0)]
  refine og (fun _ k => XS.istore X764.here hx rfl (hb hby dp62_3_56) rfl (l' := #[vr a1, vr q1, vr t1, vr u1, vi 0, .unset, .unset, .unset, .unset, .unset]) rfl k) ?_
  refine qp X764.here hx hby dp62_3_58 ?_
  refine qi X764.here hx hby dp62_3_60 rfl ?_
  refine qg X764.here hx hby dp62_3_62 rfl ?_
  show OG p e below _ T764 m 63 #[vr a1, vr q1, vr t1, vr u1, vi 0, .unset, .unset, .unset, .unset, .unset] [(.int ((9 : Int32) * (0 : Int32)))]
  rw [show ((9 : Int32) * (0 : Int32)) = (0 : Int32) from by decide]
  refine og (fun _ k => XS.istore X764.here hx rfl (hb hby dp62_3_63) rfl (l' := #[vr a1, vr q1, vr t1, vr u1, vi 0, vi 0, .unset, .unset, .unset, .unset]) rfl k) ?_
  refine qa X764.here hx hby dp62_3_65 rfl rfl ?_
  obtain ⟨T765, X765, e765, st765⟩ := instY X764 hx hZ hown (ow hw 267 rfl) e764 (Ins.self PQ190) (g := (mkF m 66 #[vr a1, vr q1, vr t1, vr u1, vi 0, vi 0, .unset, .unset, .unset, .unset] [(.ref q1)])) rfl rfl (hb hby dp62_3_66)
  refine og st765 ?_
  show OG p e below _ T765 m 69 #[vr a1, vr q1, vr t1, vr u1, vi 0, vi 0, .unset, .unset, .unset, .unset] [(.int 1)]
  refine og (fun _ k => XS.ifNo X765.here hx rfl (hb hby dp62_3_69) rfl (by decide) k) ?_
  show OG p e below _ T765 m 72 #[vr a1, vr q1, vr t1, vr u1, vi 0, vi 0, .unset, .unset, .unset, .unset] []
  refine qa X765.here hx hby dp62_3_72 rfl rfl ?_
  obtain ⟨T766, X766, e766, st766⟩ := castY X765 hx hZ hown (ow hw 267 rfl) e765 (Ins.self PQ190) (g := (mkF m 73 #[vr a1, vr q1, vr t1, vr u1, vi 0, vi 0, .unset, .unset, .unset, .unset] [(.ref q1)])) rfl rfl (hb hby dp62_3_73)
  refine og st766 ?_
  show OG p e below _ T766 m 76 #[vr a1, vr q1, vr t1, vr u1, vi 0, vi 0, .unset, .unset, .unset, .unset] [(.ref q1)]
  refine og (fun _ k => XS.astore X766.here hx rfl (hb hby dp62_3_76) rfl rfl (l' := #[vr a1, vr q1, vr t1, vr u1, vi 0, vi 0, .unset, .unset, vr q1, .unset]) rfl k) ?_
  refine qa X766.here hx hby dp62_3_78 rfl rfl ?_
  obtain ⟨T767, X767, e767, st767⟩ := getF X766 hx hZ hown (host := "") (Or.inl (ow hw 203 rfl)) Via.refl e766 PQ204 (g := (mkF m 79 #[vr a1, vr q1, vr t1, vr u1, vi 0, vi 0, .unset, .unset, vr q1, .unset] [(.ref a1)])) rfl rfl (hb hby dp62_3_79)
  refine og st767 ?_
  show OG p e below _ T767 m 82 #[vr a1, vr q1, vr t1, vr u1, vi 0, vi 0, .unset, .unset, vr q1, .unset] [(.ref n1)]
  refine qi X767.here hx hby dp62_3_82 rfl ?_
  refine qc X767.here hx hby dp62_3_84 ?_
  refine qe X767.here hx hby dp62_3_85 rfl ?_
  show OG p e below _ T767 m 86 #[vr a1, vr q1, vr t1, vr u1, vi 0, vi 0, .unset, .unset, vr q1, .unset] [(.int ((0 : Int32) + (0 : Int32))), (.ref n1)]
  rw [show ((0 : Int32) + (0 : Int32)) = (0 : Int32) from by decide]
  refine qb X767.here hx hby dp62_3_86 rfl rfl ?_
  obtain ⟨cq768, kq768, qa768, qb768, qc768⟩ := isOf hZ e767 PQ190
  obtain ⟨_, _, ⟨T768, L768, k768, n768⟩, -, X768, ⟨Lc768, hQ768, l768, y768, z768⟩, st768⟩ := X767.virtualBack hx (y := mn2) (z := mn2) hown (mvT hZ (ow hw 269 rfl)) (mvT hZ (ow hw 270 rfl)) (notFace_of_selects (args := #[]) (mvT hZ (ow hw 272 rfl))) (mvT hZ (ow hw 272 rfl)) (mvT hZ (ow hw 271 rfl)) (by decide) (backOf (W := 2) (rm_pt_gk l Z a0 hw [] ku0 ku1 ku2 ku3 aDef aCac aEmp aMir kDef cCac F0 q1 d1 h0 n0 O0 PQ193) hZ (ow hw 273 rfl) (ow hw 66 rfl) (by decide) (by decide)) qa768 qc768 (g := (mkF m 88 #[vr a1, vr q1, vr t1, vr u1, vi 0, vi 0, .unset, .unset, vr q1, .unset] [(.ref q1), (.int 0), (.ref n1)])) rfl (by rw [hml]; rfl) (Steps.refl _) (argsL := []) (rest := [(.int 0), (.ref n1)]) (lenOf pd___Lcom_example_reweave_reweave_control_Point_Kind_ rfl) rfl (by show 2 * 0 + _ ≤ _; exact Nat.le_of_eq rfl) (hb hby dp62_3_88) (fun _ _ => ⟨rfl, e767, (by decide : 0 + 0 ≤ _), (by decide : 0 + 0 ≤ _)⟩)
  dsimp only [Pt.U, Pt.locs, Pt.cells, Pt.slots] at X768 l768 y768 z768 st768 hQ768
  subst l768 y768 z768
  obtain ⟨rfl, Nq768, K768⟩ := hQ768
  obtain ⟨L768, X768, N768⟩ := pk X768 (Fr.app N0 Nq768)
  refine og (fun _ k => st768.trans k) ?_
  show OG p e below _ T768 m 91 #[vr a1, vr q1, vr t1, vr u1, vi 0, vi 0, .unset, .unset, vr q1, .unset] [(.ref d1), (.int 0), (.ref n1)]
  obtain ⟨cq769, kq769, qa769, qb769, qc769⟩ := isOf hZ K768 PQ199
  obtain ⟨_, _, ⟨T769, L769, k769, n769⟩, -, X769, ⟨Lc769, hQ769, l769, y769, z769⟩, st769⟩ := X768.virtualBackUp hx (x := mn7) (y := mn17) (owner := "java/lang/Enum") hown (mvT hZ (ow hw 274 rfl)) (mvT hZ (ow hw 275 rfl)) (mvT hZ (ow hw 276 rfl)) (by decide) (mvT hZ (ow hw 278 rfl)) (mvT hZ (ow hw 277 rfl)) (backOf (W := 2) (rm_ord l Z a0 hw [] ku0 ku1 ku2 ku3 aDef aCac aEmp aMir kDef cCac F0 d1 c9 h0 n0 O0 PQ200) hZ (ow hw 280 rfl) (ow hw 279 rfl) (by decide) (by decide)) qa769 qc769 (g := (mkF m 91 #[vr a1, vr q1, vr t1, vr u1, vi 0, vi 0, .unset, .unset, vr q1, .unset] [(.ref d1), (.int 0), (.ref n1)])) rfl (by rw [hml]; rfl) (Steps.refl _) (argsL := []) (rest := [(.int 0), (.ref n1)]) (lenOf pd___I rfl) rfl (by show 2 * 0 + _ ≤ _; exact Nat.le_of_eq rfl) (hb hby dp62_3_91) (fun _ _ => ⟨rfl, K768, (by decide : 0 + 0 ≤ _), (by decide : 0 + 0 ≤ _)⟩)
  dsimp only [Pt.U, Pt.locs, Pt.cells, Pt.slots] at X769 l769 y769 z769 st769 hQ769
  subst l769 y769 z769
  obtain ⟨rfl, Nq769, K769⟩ := hQ769
  obtain ⟨L769, X769, N769⟩ := pk X769 (Fr.app N768 Nq769)
  refine og (fun _ k => st769.trans k) ?_
  show OG p e below _ T769 m 94 #[vr a1, vr q1, vr t1, vr u1, vi 0, vi 0, .unset, .unset, vr q1, .unset] [(.int c9), (.int 0), (.ref n1)]
  refine qc X769.here hx hby dp62_3_94 ?_
  refine qe X769.here hx hby dp62_3_95 rfl ?_
  obtain ⟨c770, Ar770, q770, S770, M770, H770, G770⟩ := (id PQ217)
  obtain ⟨T770, h770, X770, e770, W770, st770⟩ := stI X769 hx hZ K769 Ar770 (j := (0 : Int32)) (inb_of S770 ⟨by decide, by decide⟩) (g := (mkF m 96 #[vr a1, vr q1, vr t1, vr u1, vi 0, vi 0, .unset, .unset, vr q1, .unset] [(.int (c9 + (1 : Int32))), (.int 0), (.ref n1)])) rfl rfl (hb hby dp62_3_96)
  have lt772 := Nat.lt_trans PO1 PO2
  have lt773 := Nat.lt_trans lt772 PO3
  have le771 : n0 ≤ n1 := Nat.le_trans PQ203 (Nat.le_of_lt lt773)
  obtain ⟨L770, X770, N770⟩ := pk X770 (Fr.snoc X770 N769 le771)
  have O770 := O0.wr W770 le771
  have z774 := Nat.le_trans (Nat.le_refl _) (Nat.le_of_eq W770.size.symm)
  have V770 : Arv Z h770 n1 kn1 .int 576 [(.int (c9 + (1 : Int32))), (.int 0), (.int 0), (.int 0), (.int 0), (.int 0), (.int 0), (.int 0), (.int 0), (.int 0), (.int 0), (.int 0), (.int 0), (.int 0), (.int 0), (.int 0), (.int 0), (.int 0)] (.int 0) := Arv.set Ar770 q770 S770 M770 H770 G770 rfl W770 0 (by decide) (Nat.le_of_ble_eq_true rfl)
  refine og st770 ?_
  show OG p e below _ T770 m 97 #[vr a1, vr q1, vr t1, vr u1, vi 0, vi 0, .unset, .unset, vr q1, .unset] []
  refine qa X770.here hx hby dp62_3_97 rfl rfl ?_
  have F776 := (PQ204.other W770 (Or.inl (Nat.ne_of_lt PO3)))
  obtain ⟨T775, X775, e775, st775⟩ := getF X770 hx hZ hown (host := "") (Or.inl (ow hw 203 rfl)) Via.refl e770 F776 (g := (mkF m 98 #[vr a1, vr q1, vr t1, vr u1, vi 0, vi 0, .unset, .unset, vr q1, .unset] [(.ref a1)])) rfl rfl (hb hby dp62_3_98)
  refine og st775 ?_
  show OG p e below _ T775 m 101 #[vr a1, vr q1, vr t1, vr u1, vi 0, vi 0, .unset, .unset, vr q1, .unset] [(.ref n1)]
  refine qi X775.here hx hby dp62_3_101 rfl ?_
  refine qc X775.here hx hby dp62_3_103 ?_
  refine qe X775.here hx hby dp62_3_104 rfl ?_
  show OG p e below _ T775 m 105 #[vr a1, vr q1, vr t1, vr u1, vi 0, vi 0, .unset, .unset, vr q1, .unset] [(.int ((0 : Int32) + (1 : Int32))), (.ref n1)]
  rw [show ((0 : Int32) + (1 : Int32)) = (1 : Int32) from by decide]
  refine qb X775.here hx hby dp62_3_105 rfl rfl ?_
  have F777 := (PQ190.wr W770)
  have lt778 := Nat.lt_trans PO2 PO3
  have F779 := (PQ194.other W770 (Or.inl (Nat.ne_of_lt lt778)))
  obtain ⟨cq780, kq780, qa780, qb780, qc780⟩ := isOf hZ e775 F777
  obtain ⟨_, _, ⟨T780, L780, k780, n780⟩, -, X780, ⟨Lc780, hQ780, l780, y780, z780⟩, st780⟩ := X775.virtualBack hx (y := mn5) (z := mn5) hown (mvT hZ (ow hw 283 rfl)) (mvT hZ (ow hw 284 rfl)) (notFace_of_selects (args := #[]) (mvT hZ (ow hw 286 rfl))) (mvT hZ (ow hw 286 rfl)) (mvT hZ (ow hw 285 rfl)) (by decide) (backOf (W := 2) (rm_pt_gt l Z a0 hw [] ku0 ku1 ku2 ku3 aDef aCac aEmp aMir kDef cCac F0 q1 p2 h770 n0 O770 F779) hZ (ow hw 287 rfl) (ow hw 66 rfl) (by decide) (by decide)) qa780 qc780 (g := (mkF m 107 #[vr a1, vr q1, vr t1, vr u1, vi 0, vi 0, .unset, .unset, vr q1, .unset] [(.ref q1), (.int 1), (.ref n1)])) rfl (by rw [hml]; rfl) (Steps.refl _) (argsL := []) (rest := [(.int 1), (.ref n1)]) (lenOf pd___I rfl) rfl (by show 2 * 0 + _ ≤ _; exact Nat.le_of_eq rfl) (hb hby dp62_3_107) (fun _ _ => ⟨rfl, e775, (by decide : 0 + 0 ≤ _), (by decide : 0 + 0 ≤ _)⟩)
  dsimp only [Pt.U, Pt.locs, Pt.cells, Pt.slots] at X780 l780 y780 z780 st780 hQ780
  subst l780 y780 z780
  obtain ⟨rfl, Nq780, K780⟩ := hQ780
  obtain ⟨L780, X780, N780⟩ := pk X780 (Fr.app N770 Nq780)
  refine og (fun _ k => st780.trans k) ?_
  show OG p e below _ T780 m 110 #[vr a1, vr q1, vr t1, vr u1, vi 0, vi 0, .unset, .unset, vr q1, .unset] [(.int p2), (.int 1), (.ref n1)]
  obtain ⟨c781, Ar781, q781, S781, M781, H781, G781⟩ := (id V770)
  obtain ⟨T781, h781, X781, e781, W781, st781⟩ := stI X780 hx hZ K780 Ar781 (j := (1 : Int32)) (inb_of S781 ⟨by decide, by decide⟩) (g := (mkF m 110 #[vr a1, vr q1, vr t1, vr u1, vi 0, vi 0, .unset, .unset, vr q1, .unset] [(.int p2), (.int 1), (.ref n1)])) rfl rfl (hb hby dp62_3_110)
  obtain ⟨L781, X781, N781⟩ := pk X781 (Fr.snoc X781 N780 le771)
  have O781 := O770.wr W781 le771
  have z782 := Nat.le_trans z774 (Nat.le_of_eq W781.size.symm)
  have V781 : Arv Z h781 n1 kn1 .int 576 [(.int (c9 + (1 : Int32))), (.int p2), (.int 0), (.int 0), (.int 0), (.int 0), (.int 0), (.int 0), (.int 0), (.int 0), (.int 0), (.int 0), (.int 0), (.int 0), (.int 0), (.int 0), (.int 0), (.int 0)] (.int 0) := Arv.set Ar781 q781 S781 M781 H781 G781 rfl W781 1 (by decide) (Nat.le_of_ble_eq_true rfl)
  refine og st781 ?_
  show OG p e below _ T781 m 111 #[vr a1, vr q1, vr t1, vr u1, vi 0, vi 0, .unset, .unset, vr q1, .unset] []
  refine qa X781.here hx hby dp62_3_111 rfl rfl ?_
  have F784 := (F776.other W781 (Or.inl (Nat.ne_of_lt PO3)))
  obtain ⟨T783, X783, e783, st783⟩ := getF X781 hx hZ hown (host := "") (Or.inl (ow hw 203 rfl)) Via.refl e781 F784 (g := (mkF m 112 #[vr a1, vr q1, vr t1, vr u1, vi 0, vi 0, .unset, .unset, vr q1, .unset] [(.ref a1)])) rfl rfl (hb hby dp62_3_112)
  refine og st783 ?_
  show OG p e below _ T783 m 115 #[vr a1, vr q1, vr t1, vr u1, vi 0, vi 0, .unset, .unset, vr q1, .unset] [(.ref n1)]
  refine qi X783.here hx hby dp62_3_115 rfl ?_
  refine qc X783.here hx hby dp62_3_117 ?_
  refine qe X783.here hx hby dp62_3_118 rfl ?_
  show OG p e below _ T783 m 119 #[vr a1, vr q1, vr t1, vr u1, vi 0, vi 0, .unset, .unset, vr q1, .unset] [(.int ((0 : Int32) + (2 : Int32))), (.ref n1)]
  rw [show ((0 : Int32) + (2 : Int32)) = (2 : Int32) from by decide]
  refine qa X783.here hx hby dp62_3_119 rfl rfl ?_
  have kg786 := (((Keep.refl _ [n1]).wr W770 (om 0 rfl)).wr W781 (om 0 rfl))
  have ni787 := (ninS (Nat.ne_of_lt PO3) nin0)
  have F788 := (PQ209.keep kg786 ni787)
  obtain ⟨T785, X785, e785, st785⟩ := getF X783 hx hZ hown (host := "") (Or.inl (ow hw 222 rfl)) Via.refl e783 F788 (g := (mkF m 120 #[vr a1, vr q1, vr t1, vr u1, vi 0, vi 0, .unset, .unset, vr q1, .unset] [(.ref a1), (.int 2), (.ref n1)])) rfl rfl (hb hby dp62_3_120)
  refine og st785 ?_
  show OG p e below _ T785 m 123 #[vr a1, vr q1, vr t1, vr u1, vi 0, vi 0, .unset, .unset, vr q1, .unset] [(.ref s1), (.int 2), (.ref n1)]
  refine qb X785.here hx hby dp62_3_123 rfl rfl ?_
  have F789 := (F777.wr W781)
  have ni790 := (ninS (Nat.ne_of_lt lt778) nin0)
  have F791 := (PQ195.keep kg786 ni790)
  obtain ⟨cq792, kq792, qa792, qb792, qc792⟩ := isOf hZ e785 F789
  obtain ⟨_, _, ⟨T792, L792, k792, n792⟩, -, X792, ⟨Lc792, hQ792, l792, y792, z792⟩, st792⟩ := X785.virtualBack hx (y := mn3) (z := mn3) hown (mvT hZ (ow hw 288 rfl)) (mvT hZ (ow hw 289 rfl)) (notFace_of_selects (args := #[]) (mvT hZ (ow hw 291 rfl))) (mvT hZ (ow hw 291 rfl)) (mvT hZ (ow hw 290 rfl)) (by decide) (backOf (W := 3) (rm_pt_gl l Z a0 hw [] ku0 ku1 ku2 ku3 aDef aCac aEmp aMir kDef cCac F0 q1 h781 n0 O781 F791) hZ (ow hw 292 rfl) (ow hw 66 rfl) (by decide) (by decide)) qa792 qc792 (g := (mkF m 125 #[vr a1, vr q1, vr t1, vr u1, vi 0, vi 0, .unset, .unset, vr q1, .unset] [(.ref q1), (.ref s1), (.int 2), (.ref n1)])) rfl (by rw [hml]; rfl) (Steps.refl _) (argsL := []) (rest := [(.ref s1), (.int 2), (.ref n1)]) (lenOf pd___Lcom_example_reweave_reweave_control_Location_ rfl) rfl (by show 2 * 0 + _ ≤ _; exact Nat.le_of_eq rfl) (hb hby dp62_3_125) (fun _ _ => ⟨rfl, e785, (by decide : 0 + 0 ≤ _), (by decide : 0 + 0 ≤ _)⟩)
  dsimp only [Pt.U, Pt.locs, Pt.cells, Pt.slots] at X792 l792 y792 z792 st792 hQ792
  subst l792 y792 z792
  obtain ⟨rfl, Nq792, K792⟩ := hQ792
  obtain ⟨L792, X792, N792⟩ := pk X792 (Fr.app N781 Nq792)
  refine og (fun _ k => st792.trans k) ?_
  show OG p e below _ T792 m 128 #[vr a1, vr q1, vr t1, vr u1, vi 0, vi 0, .unset, .unset, vr q1, .unset] [.null, (.ref s1), (.int 2), (.ref n1)]
  have F793 := (PQ221.keep kg786)
  have lt794 := Nat.lt_trans PO4 PO5
  have lt795 := Nat.lt_trans lt794 PO6
  have ni796 := (ninS (Ne.symm (Nat.ne_of_lt lt795)) nin0)
  have F797 := (PQ231.keep kg786 ni796)
  have F798 := (PQ232.keep kg786 ni796)
  have F799 := (PQ226.keep kg786)
  have le800 : n0 ≤ s1 := Nat.le_trans le771 (Nat.le_of_lt lt795)
  have lt801 := Nat.lt_trans lt795 PO7
  have ni802 := (ninS (Ne.symm (Nat.ne_of_lt lt801)) nin0)
  have F803 := (PQ233.keep kg786 ni802)
  have F804 := (PQ234.keep kg786 ni802)
  have F805 := (PQ235.keep kg786 ni802)
  have F806 := (PQ230.keep kg786)
  obtain ⟨cq807, kq807, qa807, qb807, qc807⟩ := isOf hZ K792 F793
  obtain ⟨_, _, ⟨T807, L807, k807, n807⟩, -, X807, ⟨Lc807, hQ807, l807, y807, z807⟩, st807⟩ := X792.virtualBack hx (y := mn16) (z := mn16) hown (mvT hZ (ow hw 293 rfl)) (mvT hZ (ow hw 294 rfl)) (notFace_of_selects (args := #[]) (mvT hZ (ow hw 296 rfl))) (mvT hZ (ow hw 296 rfl)) (mvT hZ (ow hw 295 rfl)) (by decide) (backOf (W := 2) (rm_ixfn l Z a0 hw [] ku0 ku1 ku2 ku3 aDef aCac aEmp aMir kDef cCac F0 s1 l1 (0 : Int32) h781 n0 O781 F797 F798 F799 F793 le800 F803 F804 F805 PO7) hZ (ow hw 297 rfl) (ow hw 213 rfl) (by decide) (by decide)) qa807 qc807 (g := (mkF m 128 #[vr a1, vr q1, vr t1, vr u1, vi 0, vi 0, .unset, .unset, vr q1, .unset] [.null, (.ref s1), (.int 2), (.ref n1)])) rfl (by rw [hml]; rfl) (Steps.refl _) (argsL := [.null]) (rest := [(.int 2), (.ref n1)]) (lenOf pd_Ljava_lang_Object___I rfl) rfl (by show 2 * 0 + _ ≤ _; exact Nat.le_of_eq rfl) (hb hby dp62_3_128) (fun _ _ => ⟨rfl, K792, (by decide : 0 + 1 ≤ _), (by decide : 0 + 10 ≤ _)⟩)
  dsimp only [Pt.U, Pt.locs, Pt.cells, Pt.slots] at X807 l807 y807 z807 st807 hQ807
  subst l807 y807 z807
  obtain ⟨r1_807, k1_807, rfl, Nq807, K807, x807_0, x807_1, x807_2, x807_3, x807_4, x807_5, x807_6, x807_7, x807_8⟩ := hQ807
  obtain ⟨L807, X807, N807⟩ := pk X807 (Fr.app N792 Nq807)
  have le808 : n0 ≤ l1 := Nat.le_trans le800 (Nat.le_of_lt PO7)
  have O807 := O781.keep K807 (allS le800 (allS le808 all0))
  have e807 : T807.heap = T807.heap := rfl
  have z809 := Nat.le_trans z782 K807.1
  have gex807_5 : n0 ≤ r1_807 := Nat.le_trans (own_sz O781) x807_5
  have ghx807_5 : h0.size ≤ r1_807 := Nat.le_trans z782 x807_5
  have lox807_5 : l5 < r1_807 := Nat.lt_of_lt_of_le F806.lt x807_5
  refine og (fun _ k => st807.trans k) ?_
  show OG p e below _ T807 m 131 #[vr a1, vr q1, vr t1, vr u1, vi 0, vi 0, .unset, .unset, vr q1, .unset] [(.int 0), (.int 2), (.ref n1)]
  have ni810 := (ninS (Nat.ne_of_lt lt795) (ninS (Nat.ne_of_lt lt801) nin0))
  have F811 := (V781.keep K807 ni810)
  obtain ⟨c812, Ar812, q812, S812, M812, H812, G812⟩ := (id F811)
  obtain ⟨T812, h812, X812, e812, W812, st812⟩ := stI X807 hx hZ e807 Ar812 (j := (2 : Int32)) (inb_of S812 ⟨by decide, by decide⟩) (g := (mkF m 131 #[vr a1, vr q1, vr t1, vr u1, vi 0, vi 0, .unset, .unset, vr q1, .unset] [(.int 0), (.int 2), (.ref n1)])) rfl rfl (hb hby dp62_3_131)
  obtain ⟨L812, X812, N812⟩ := pk X812 (Fr.snoc X812 N807 le771)
  have O812 := O807.wr W812 le771
  have z813 := Nat.le_trans z809 (Nat.le_of_eq W812.size.symm)
  have V812 : Arv Z h812 n1 kn1 .int 576 [(.int (c9 + (1 : Int32))), (.int p2), (.int 0), (.int 0), (.int 0), (.int 0), (.int 0), (.int 0), (.int 0), (.int 0), (.int 0), (.int 0), (.int 0), (.int 0), (.int 0), (.int 0), (.int 0), (.int 0)] (.int 0) := Arv.set Ar812 q812 S812 M812 H812 G812 rfl W812 2 (by decide) (Nat.le_of_ble_eq_true rfl)
  refine og st812 ?_
  show OG p e below _ T812 m 132 #[vr a1, vr q1, vr t1, vr u1, vi 0, vi 0, .unset, .unset, vr q1, .unset] []
  refine qa X812.here hx hby dp62_3_132 rfl rfl ?_
  have kg815 := (((((Keep.refl _ [n1, s1, l1]).wr W770 (om 0 rfl)).wr W781 (om 0 rfl)).trans K807 (aS (om 1 rfl) (aS (om 2 rfl) all0))).wr W812 (om 0 rfl))
  have lt816 := Nat.lt_trans PO3 PO4
  have lt817 := Nat.lt_trans lt816 PO5
  have lt818 := Nat.lt_trans lt817 PO6
  have lt819 := Nat.lt_trans lt818 PO7
  have ni820 := (ninS (Nat.ne_of_lt PO3) (ninS (Nat.ne_of_lt lt818) (ninS (Nat.ne_of_lt lt819) nin0)))
  have F821 := (PQ210.keep kg815 ni820)
  obtain ⟨T814, X814, e814, st814⟩ := getF X812 hx hZ hown (host := "") (Or.inl (ow hw 242 rfl)) Via.refl e812 F821 (g := (mkF m 133 #[vr a1, vr q1, vr t1, vr u1, vi 0, vi 0, .unset, .unset, vr q1, .unset] [(.ref a1)])) rfl rfl (hb hby dp62_3_133)
  refine og st814 ?_
  show OG p e below _ T814 m 136 #[vr a1, vr q1, vr t1, vr u1, vi 0, vi 0, .unset, .unset, vr q1, .unset] [(.ref s2)]
  refine qb X814.here hx hby dp62_3_136 rfl rfl ?_
  have kg822 := (((Keep.refl _ [s1, l1, n1]).trans K807 (aS (om 0 rfl) (aS (om 1 rfl) all0))).wr W812 (om 2 rfl))
  have F823 := (F789.keep kg822)
  have lt824 := Nat.lt_trans lt778 PO4
  have lt825 := Nat.lt_trans lt824 PO5
  have lt826 := Nat.lt_trans lt825 PO6
  have lt827 := Nat.lt_trans lt826 PO7
  have ni828 := (ninS (Nat.ne_of_lt lt778) (ninS (Nat.ne_of_lt lt826) (ninS (Nat.ne_of_lt lt827) nin0)))
  have F829 := (PQ196.keep kg815 ni828)
  obtain ⟨cq830, kq830, qa830, qb830, qc830⟩ := isOf hZ e814 F823
  obtain ⟨_, _, ⟨T830, L830, k830, n830⟩, -, X830, ⟨Lc830, hQ830, l830, y830, z830⟩, st830⟩ := X814.virtualBack hx (y := mn4) (z := mn4) hown (mvT hZ (ow hw 319 rfl)) (mvT hZ (ow hw 320 rfl)) (notFace_of_selects (args := #[]) (mvT hZ (ow hw 322 rfl))) (mvT hZ (ow hw 322 rfl)) (mvT hZ (ow hw 321 rfl)) (by decide) (backOf (W := 1) (rm_pt_gr l Z a0 hw [] ku0 ku1 ku2 ku3 aDef aCac aEmp aMir kDef cCac F0 q1 ru h812 n0 O812 F829) hZ (ow hw 323 rfl) (ow hw 66 rfl) (by decide) (by decide)) qa830 qc830 (g := (mkF m 138 #[vr a1, vr q1, vr t1, vr u1, vi 0, vi 0, .unset, .unset, vr q1, .unset] [(.ref q1), (.ref s2)])) rfl (by rw [hml]; rfl) (Steps.refl _) (argsL := []) (rest := [(.ref s2)]) (lenOf pd___Ljava_util_List_ rfl) rfl (by show 2 * 0 + _ ≤ _; exact Nat.le_of_eq rfl) (hb hby dp62_3_138) (fun _ _ => ⟨rfl, e814, (by decide : 1 + 0 ≤ _), (by decide : 10 + 0 ≤ _)⟩)
  dsimp only [Pt.U, Pt.locs, Pt.cells, Pt.slots] at X830 l830 y830 z830 st830 hQ830
  subst l830 y830 z830
  obtain ⟨rfl, Nq830, K830⟩ := hQ830
  obtain ⟨L830, X830, N830⟩ := pk X830 (Fr.app N812 Nq830)
  refine og (fun _ k => st830.trans k) ?_
  show OG p e below _ T830 m 141 #[vr a1, vr q1, vr t1, vr u1, vi 0, vi 0, .unset, .unset, vr q1, .unset] [(.ref ru), (.ref s2)]
  have F831 := (PQ222.keep kg815)
  have lt832 := Nat.lt_trans PO7 PO8
  have lt833 := Nat.lt_trans lt801 PO8
  have ni834 := (ninS (Ne.symm (Nat.ne_of_lt lt833)) (ninS (Ne.symm (Nat.ne_of_lt lt832)) (ninS (Ne.symm (Nat.ne_of_lt PO8)) nin0)))
  have F835 := (PQ236.keep kg815 ni834)
  have F836 := (PQ237.keep kg815 ni834)
  have F837 := (PQ227.keep kg815)
  have le838 : n0 ≤ s2 := Nat.le_trans le808 (Nat.le_of_lt PO8)
  have lt839 := Nat.lt_trans PO8 PO9
  have lt840 := Nat.lt_trans lt832 PO9
  have lt841 := Nat.lt_trans lt833 PO9
  have ni842 := (ninS (Ne.symm (Nat.ne_of_lt lt841)) (ninS (Ne.symm (Nat.ne_of_lt lt840)) (ninS (Ne.symm (Nat.ne_of_lt lt839)) nin0)))
  have F843 := (PQ238.keep kg815 ni842)
  have F844 := (PQ239.keep kg815 ni842)
  have F845 := (PQ240.keep kg815 ni842)
  have F846 := (PQ198.keep kg815)
  have F847 := (x807_6.wr W812)
  obtain ⟨cq848, kq848, qa848, qb848, qc848⟩ := isOf hZ K830 F831
  obtain ⟨_, _, ⟨T848, L848, k848, n848⟩, -, X848, ⟨Lc848, hQ848, l848, y848, z848⟩, st848⟩ := X830.virtualBack hx (y := mn16) (z := mn16) hown (mvT hZ (ow hw 293 rfl)) (mvT hZ (ow hw 294 rfl)) (notFace_of_selects (args := #[]) (mvT hZ (ow hw 296 rfl))) (mvT hZ (ow hw 296 rfl)) (mvT hZ (ow hw 295 rfl)) (by decide) (backOf (W := 0) (rm_ixfr l Z a0 hw [] ku0 ku1 ku2 ku3 aDef aCac aEmp aMir kDef cCac F0 s2 l2 ru "java/util/ImmutableCollections$List12" (0 : Int32) h812 n0 O812 F835 F836 F837 F831 le838 F843 F844 F845 F846 (ow hw 324 rfl) PO9) hZ (ow hw 297 rfl) (ow hw 213 rfl) (by decide) (by decide)) qa848 qc848 (g := (mkF m 141 #[vr a1, vr q1, vr t1, vr u1, vi 0, vi 0, .unset, .unset, vr q1, .unset] [(.ref ru), (.ref s2)])) rfl (by rw [hml]; rfl) (Steps.refl _) (argsL := [(.ref ru)]) (rest := []) (lenOf pd_Ljava_lang_Object___I rfl) rfl (by show 2 * 0 + _ ≤ _; exact Nat.le_of_eq rfl) (hb hby dp62_3_141) (fun _ _ => ⟨rfl, K830, (by decide : 1 + 1 ≤ _), (by decide : 10 + 10 ≤ _)⟩)
  dsimp only [Pt.U, Pt.locs, Pt.cells, Pt.slots] at X848 l848 y848 z848 st848 hQ848
  subst l848 y848 z848
  obtain ⟨r1_848, k1_848, rfl, Nq848, K848, x848_0, x848_1, x848_2, x848_3, x848_4, x848_5, x848_6, x848_7, x848_8⟩ := hQ848
  obtain ⟨L848, X848, N848⟩ := pk X848 (Fr.app N830 Nq848)
  have le849 : n0 ≤ l2 := Nat.le_trans le838 (Nat.le_of_lt PO9)
  have O848 := O812.keep K848 (allS le838 (allS le849 all0))
  have e848 : T848.heap = T848.heap := rfl
  have z850 := Nat.le_trans z813 K848.1
  have gex848_5 : n0 ≤ r1_848 := Nat.le_trans (own_sz O812) x848_5
  have ghx848_5 : h0.size ≤ r1_848 := Nat.le_trans z813 x848_5
  have lox848_5 : r1_807 < r1_848 := Nat.lt_of_lt_of_le F847.lt x848_5
  refine og (fun _ k => st848.trans k) ?_
  show OG p e below _ T848 m 144 #[vr a1, vr q1, vr t1, vr u1, vi 0, vi 0, .unset, .unset, vr q1, .unset] [(.int 0)]
  refine og (fun _ k => XS.istore X848.here hx rfl (hb hby dp62_3_144) rfl (l' := #[vr a1, vr q1, vr t1, vr u1, vi 0, vi 0, vi 0, .unset, vr q1, .unset]) rfl k) ?_
  refine qa X848.here hx hby dp62_3_146 rfl rfl ?_
  have kg852 := ((((((Keep.refl _ [n1, s1, l1, s2, l2]).wr W770 (om 0 rfl)).wr W781 (om 0 rfl)).trans K807 (aS (om 1 rfl) (aS (om 2 rfl) all0))).wr W812 (om 0 rfl)).trans K848 (aS (om 3 rfl) (aS (om 4 rfl) all0)))
  have lt853 := Nat.lt_trans lt819 PO8
  have lt854 := Nat.lt_trans lt853 PO9
  have ni855 := (ninS (Nat.ne_of_lt PO3) (ninS (Nat.ne_of_lt lt818) (ninS (Nat.ne_of_lt lt819) (ninS (Nat.ne_of_lt lt853) (ninS (Nat.ne_of_lt lt854) nin0)))))
  have F856 := (PQ211.keep kg852 ni855)
  obtain ⟨T851, X851, e851, st851⟩ := getF X848 hx hZ hown (host := "") (Or.inl (ow hw 244 rfl)) Via.refl e848 F856 (g := (mkF m 147 #[vr a1, vr q1, vr t1, vr u1, vi 0, vi 0, vi 0, .unset, vr q1, .unset] [(.ref a1)])) rfl rfl (hb hby dp62_3_147)
  refine og st851 ?_
  show OG p e below _ T851 m 150 #[vr a1, vr q1, vr t1, vr u1, vi 0, vi 0, vi 0, .unset, vr q1, .unset] [(.ref s3)]
  refine qb X851.here hx hby dp62_3_150 rfl rfl ?_
  have F857 := (F823.keep K848)
  have lt858 := Nat.lt_trans lt827 PO8
  have lt859 := Nat.lt_trans lt858 PO9
  have ni860 := (ninS (Nat.ne_of_lt lt778) (ninS (Nat.ne_of_lt lt826) (ninS (Nat.ne_of_lt lt827) (ninS (Nat.ne_of_lt lt858) (ninS (Nat.ne_of_lt lt859) nin0)))))
  have F861 := (PQ197.keep kg852 ni860)
  obtain ⟨cq862, kq862, qa862, qb862, qc862⟩ := isOf hZ e851 F857
  obtain ⟨_, _, ⟨T862, L862, k862, n862⟩, -, X862, ⟨Lc862, hQ862, l862, y862, z862⟩, st862⟩ := X851.virtualBack hx (y := mn6) (z := mn6) hown (mvT hZ (ow hw 325 rfl)) (mvT hZ (ow hw 326 rfl)) (notFace_of_selects (args := #[]) (mvT hZ (ow hw 328 rfl))) (mvT hZ (ow hw 328 rfl)) (mvT hZ (ow hw 327 rfl)) (by decide) (backOf (W := 1) (rm_pt_go_ l Z a0 hw [] ku0 ku1 ku2 ku3 aDef aCac aEmp aMir kDef cCac F0 q1 aEmp T848.heap n0 O848 F861) hZ (ow hw 329 rfl) (ow hw 66 rfl) (by decide) (by decide)) qa862 qc862 (g := (mkF m 152 #[vr a1, vr q1, vr t1, vr u1, vi 0, vi 0, vi 0, .unset, vr q1, .unset] [(.ref q1), (.ref s3)])) rfl (by rw [hml]; rfl) (Steps.refl _) (argsL := []) (rest := [(.ref s3)]) (lenOf pd___Ljava_util_List_ rfl) rfl (by show 2 * 0 + _ ≤ _; exact Nat.le_of_eq rfl) (hb hby dp62_3_152) (fun _ _ => ⟨rfl, e851, (by decide : 2 + 0 ≤ _), (by decide : 20 + 0 ≤ _)⟩)
  dsimp only [Pt.U, Pt.locs, Pt.cells, Pt.slots] at X862 l862 y862 z862 st862 hQ862
  subst l862 y862 z862
  obtain ⟨rfl, Nq862, K862⟩ := hQ862
  obtain ⟨L862, X862, N862⟩ := pk X862 (Fr.app N848 Nq862)
  refine og (fun _ k => st862.trans k) ?_
  show OG p e below _ T862 m 155 #[vr a1, vr q1, vr t1, vr u1, vi 0, vi 0, vi 0, .unset, vr q1, .unset] [(.ref aEmp), (.ref s3)]
  have F863 := (PQ223.keep kg852)
  have lt864 := Nat.lt_trans PO9 PO10
  have lt865 := Nat.lt_trans lt839 PO10
  have lt866 := Nat.lt_trans lt840 PO10
  have lt867 := Nat.lt_trans lt841 PO10
  have ni868 := (ninS (Ne.symm (Nat.ne_of_lt lt867)) (ninS (Ne.symm (Nat.ne_of_lt lt866)) (ninS (Ne.symm (Nat.ne_of_lt lt865)) (ninS (Ne.symm (Nat.ne_of_lt lt864)) (ninS (Ne.symm (Nat.ne_of_lt PO10)) nin0)))))
  have F869 := (PQ241.keep kg852 ni868)
  have F870 := (PQ242.keep kg852 ni868)
  have F871 := (PQ228.keep kg852)
  have le872 : n0 ≤ s3 := Nat.le_trans le849 (Nat.le_of_lt PO10)
  have lt873 := Nat.lt_trans PO10 PO11
  have lt874 := Nat.lt_trans lt864 PO11
  have lt875 := Nat.lt_trans lt865 PO11
  have lt876 := Nat.lt_trans lt866 PO11
  have lt877 := Nat.lt_trans lt867 PO11
  have ni878 := (ninS (Ne.symm (Nat.ne_of_lt lt877)) (ninS (Ne.symm (Nat.ne_of_lt lt876)) (ninS (Ne.symm (Nat.ne_of_lt lt875)) (ninS (Ne.symm (Nat.ne_of_lt lt874)) (ninS (Ne.symm (Nat.ne_of_lt lt873)) nin0)))))
  have F879 := (PQ243.keep kg852 ni878)
  have F880 := (PQ244.keep kg852 ni878)
  have F881 := (PQ245.keep kg852 ni878)
  obtain ⟨cq882, kq882, qa882, qb882, qc882⟩ := isOf hZ K862 F863
  obtain ⟨_, _, ⟨T882, L882, k882, n882⟩, -, X882, ⟨Lc882, hQ882, l882, y882, z882⟩, st882⟩ := X862.virtualBack hx (y := mn16) (z := mn16) hown (mvT hZ (ow hw 293 rfl)) (mvT hZ (ow hw 294 rfl)) (notFace_of_selects (args := #[]) (mvT hZ (ow hw 296 rfl))) (mvT hZ (ow hw 296 rfl)) (mvT hZ (ow hw 295 rfl)) (by decide) (backOf (W := 0) (rm_ixfr l Z a0 hw [] ku0 ku1 ku2 ku3 aDef aCac aEmp aMir kDef cCac F0 s3 l3 aEmp "java/util/ImmutableCollections$ListN" (0 : Int32) T848.heap n0 O848 F869 F870 F871 F863 le872 F879 F880 F881 (F0.2.2.2.2.2.2.2.2.2.2.2.2.2.2.2.2.2.2.2.1.ext O848.2) (ow hw 330 rfl) PO11) hZ (ow hw 297 rfl) (ow hw 213 rfl) (by decide) (by decide)) qa882 qc882 (g := (mkF m 155 #[vr a1, vr q1, vr t1, vr u1, vi 0, vi 0, vi 0, .unset, vr q1, .unset] [(.ref aEmp), (.ref s3)])) rfl (by rw [hml]; rfl) (Steps.refl _) (argsL := [(.ref aEmp)]) (rest := []) (lenOf pd_Ljava_lang_Object___I rfl) rfl (by show 2 * 0 + _ ≤ _; exact Nat.le_of_eq rfl) (hb hby dp62_3_155) (fun _ _ => ⟨rfl, K862, (by decide : 2 + 1 ≤ _), (by decide : 20 + 10 ≤ _)⟩)
  dsimp only [Pt.U, Pt.locs, Pt.cells, Pt.slots] at X882 l882 y882 z882 st882 hQ882
  subst l882 y882 z882
  obtain ⟨r1_882, k1_882, rfl, Nq882, K882, x882_0, x882_1, x882_2, x882_3, x882_4, x882_5, x882_6, x882_7, x882_8⟩ := hQ882
  obtain ⟨L882, X882, N882⟩ := pk X882 (Fr.app N862 Nq882)
  have le883 : n0 ≤ l3 := Nat.le_trans le872 (Nat.le_of_lt PO11)
  have O882 := O848.keep K882 (allS le872 (allS le883 all0))
  have e882 : T882.heap = T882.heap := rfl
  have z884 := Nat.le_trans z850 K882.1
  have gex882_5 : n0 ≤ r1_882 := Nat.le_trans (own_sz O848) x882_5
  have ghx882_5 : h0.size ≤ r1_882 := Nat.le_trans z850 x882_5
  have lox882_5 : r1_848 < r1_882 := Nat.lt_of_lt_of_le x848_6.lt x882_5
  refine og (fun _ k => st882.trans k) ?_
  show OG p e below _ T882 m 158 #[vr a1, vr q1, vr t1, vr u1, vi 0, vi 0, vi 0, .unset, vr q1, .unset] [(.int 0)]
  refine og (fun _ k => XS.istore X882.here hx rfl (hb hby dp62_3_158) rfl (l' := #[vr a1, vr q1, vr t1, vr u1, vi 0, vi 0, vi 0, vi 0, vr q1, .unset]) rfl k) ?_
  refine og (fun _ k => XS.goto X882.here hx rfl (pc0 := 160) (pc' := 244) rfl (hb hby dp62_3_160) (by decide) (by decide) k) ?_
  refine qa X882.here hx hby dp62_3_244 rfl rfl ?_
  have kg886 := (((((Keep.refl _ [s1, l1, n1, s2, l2, s3, l3]).trans K807 (aS (om 0 rfl) (aS (om 1 rfl) all0))).wr W812 (om 2 rfl)).trans K848 (aS (om 3 rfl) (aS (om 4 rfl) all0))).trans K882 (aS (om 5 rfl) (aS (om 6 rfl) all0)))
  have lt887 := Nat.lt_trans lt854 PO10
  have lt888 := Nat.lt_trans lt887 PO11
  have ni889 := (ninS (Nat.ne_of_lt lt818) (ninS (Nat.ne_of_lt lt819) (ninS (Nat.ne_of_lt PO3) (ninS (Nat.ne_of_lt lt853) (ninS (Nat.ne_of_lt lt854) (ninS (Nat.ne_of_lt lt887) (ninS (Nat.ne_of_lt lt888) nin0)))))))
  have F890 := (F784.keep kg886 ni889)
  obtain ⟨T885, X885, e885, st885⟩ := getF X882 hx hZ hown (host := "") (Or.inl (ow hw 203 rfl)) Via.refl e882 F890 (g := (mkF m 245 #[vr a1, vr q1, vr t1, vr u1, vi 0, vi 0, vi 0, vi 0, vr q1, .unset] [(.ref a1)])) rfl rfl (hb hby dp62_3_245)
  refine og st885 ?_
  show OG p e below _ T885 m 248 #[vr a1, vr q1, vr t1, vr u1, vi 0, vi 0, vi 0, vi 0, vr q1, .unset] [(.ref n1)]
  refine qi X885.here hx hby dp62_3_248 rfl ?_
  refine qc X885.here hx hby dp62_3_250 ?_
  refine qe X885.here hx hby dp62_3_251 rfl ?_
  show OG p e below _ T885 m 252 #[vr a1, vr q1, vr t1, vr u1, vi 0, vi 0, vi 0, vi 0, vr q1, .unset] [(.int ((0 : Int32) + (3 : Int32))), (.ref n1)]
  rw [show ((0 : Int32) + (3 : Int32)) = (3 : Int32) from by decide]
  refine qa X885.here hx hby dp62_3_252 rfl rfl ?_
  refine qi X885.here hx hby dp62_3_253 rfl ?_
  refine qi X885.here hx hby dp62_3_255 rfl ?_
  refine qa X885.here hx hby dp62_3_257 rfl rfl ?_
  have kg892 := (((((((Keep.refl _ [n1, s1, l1, s2, l2, s3, l3]).wr W770 (om 0 rfl)).wr W781 (om 0 rfl)).trans K807 (aS (om 1 rfl) (aS (om 2 rfl) all0))).wr W812 (om 0 rfl)).trans K848 (aS (om 3 rfl) (aS (om 4 rfl) all0))).trans K882 (aS (om 5 rfl) (aS (om 6 rfl) all0)))
  have ni893 := (ninS (Nat.ne_of_lt PO3) (ninS (Nat.ne_of_lt lt818) (ninS (Nat.ne_of_lt lt819) (ninS (Nat.ne_of_lt lt853) (ninS (Nat.ne_of_lt lt854) (ninS (Nat.ne_of_lt lt887) (ninS (Nat.ne_of_lt lt888) nin0)))))))
  have F894 := (PQ212.keep kg892 ni893)
  obtain ⟨T891, X891, e891, st891⟩ := getF X885 hx hZ hown (host := "") (Or.inl (ow hw 246 rfl)) Via.refl e885 F894 (g := (mkF m 258 #[vr a1, vr q1, vr t1, vr u1, vi 0, vi 0, vi 0, vi 0, vr q1, .unset] [(.ref a1), (.int 0), (.int 0), (.ref a1), (.int 3), (.ref n1)])) rfl rfl (hb hby dp62_3_258)
  refine og st891 ?_
  show OG p e below _ T891 m 261 #[vr a1, vr q1, vr t1, vr u1, vi 0, vi 0, vi 0, vi 0, vr q1, .unset] [(.ref s4), (.int 0), (.int 0), (.ref a1), (.int 3), (.ref n1)]
  refine qa X891.here hx hby dp62_3_261 rfl rfl ?_
  have F895 := (PQ224.keep kg892)
  have lt896 := Nat.lt_trans PO11 PO12
  have lt897 := Nat.lt_trans lt873 PO12
  have lt898 := Nat.lt_trans lt874 PO12
  have lt899 := Nat.lt_trans lt875 PO12
  have lt900 := Nat.lt_trans lt876 PO12
  have lt901 := Nat.lt_trans lt877 PO12
  have ni902 := (ninS (Ne.symm (Nat.ne_of_lt lt901)) (ninS (Ne.symm (Nat.ne_of_lt lt900)) (ninS (Ne.symm (Nat.ne_of_lt lt899)) (ninS (Ne.symm (Nat.ne_of_lt lt898)) (ninS (Ne.symm (Nat.ne_of_lt lt897)) (ninS (Ne.symm (Nat.ne_of_lt lt896)) (ninS (Ne.symm (Nat.ne_of_lt PO12)) nin0)))))))
  have F903 := (PQ246.keep kg892 ni902)
  have F904 := (PQ247.keep kg892 ni902)
  have F905 := (PQ229.keep kg892)
  have le906 : n0 ≤ s4 := Nat.le_trans le883 (Nat.le_of_lt PO12)
  have lt907 := Nat.lt_trans PO12 PO13
  have lt908 := Nat.lt_trans lt896 PO13
  have lt909 := Nat.lt_trans lt897 PO13
  have lt910 := Nat.lt_trans lt898 PO13
  have lt911 := Nat.lt_trans lt899 PO13
  have lt912 := Nat.lt_trans lt900 PO13
  have lt913 := Nat.lt_trans lt901 PO13
  have ni914 := (ninS (Ne.symm (Nat.ne_of_lt lt913)) (ninS (Ne.symm (Nat.ne_of_lt lt912)) (ninS (Ne.symm (Nat.ne_of_lt lt911)) (ninS (Ne.symm (Nat.ne_of_lt lt910)) (ninS (Ne.symm (Nat.ne_of_lt lt909)) (ninS (Ne.symm (Nat.ne_of_lt lt908)) (ninS (Ne.symm (Nat.ne_of_lt lt907)) nin0)))))))
  have F915 := (PQ248.keep kg892 ni914)
  have F916 := (PQ249.keep kg892 ni914)
  have F917 := (PQ250.keep kg892 ni914)
  have F918 := (PQ191.keep kg892)
  obtain ⟨cq919, kq919, qa919, qb919, qc919⟩ := isOf hZ e891 F895
  obtain ⟨_, _, ⟨T919, L919, k919, n919⟩, -, X919, ⟨Lc919, hQ919, l919, y919, z919⟩, st919⟩ := X891.virtualBack hx (y := mn16) (z := mn16) hown (mvT hZ (ow hw 293 rfl)) (mvT hZ (ow hw 294 rfl)) (notFace_of_selects (args := #[]) (mvT hZ (ow hw 296 rfl))) (mvT hZ (ow hw 296 rfl)) (mvT hZ (ow hw 295 rfl)) (by decide) (backOf (W := 5) (rm_ixfr l Z a0 hw [] ku0 ku1 ku2 ku3 aDef aCac aEmp aMir kDef cCac F0 s4 l4 t1 "java/util/ArrayList" (0 : Int32) T882.heap n0 O882 F903 F904 F905 F895 le906 F915 F916 F917 F918 (ow hw 331 rfl) PO13) hZ (ow hw 297 rfl) (ow hw 213 rfl) (by decide) (by decide)) qa919 qc919 (g := (mkF m 262 #[vr a1, vr q1, vr t1, vr u1, vi 0, vi 0, vi 0, vi 0, vr q1, .unset] [(.ref t1), (.ref s4), (.int 0), (.int 0), (.ref a1), (.int 3), (.ref n1)])) rfl (by rw [hml]; rfl) (Steps.refl _) (argsL := [(.ref t1)]) (rest := [(.int 0), (.int 0), (.ref a1), (.int 3), (.ref n1)]) (lenOf pd_Ljava_lang_Object___I rfl) rfl (by show 2 * 0 + _ ≤ _; exact Nat.le_of_eq rfl) (hb hby dp62_3_262) (fun _ _ => ⟨rfl, e891, (by decide : 3 + 1 ≤ _), (by decide : 30 + 10 ≤ _)⟩)
  dsimp only [Pt.U, Pt.locs, Pt.cells, Pt.slots] at X919 l919 y919 z919 st919 hQ919
  subst l919 y919 z919
  obtain ⟨r1_919, k1_919, rfl, Nq919, K919, x919_0, x919_1, x919_2, x919_3, x919_4, x919_5, x919_6, x919_7, x919_8⟩ := hQ919
  obtain ⟨L919, X919, N919⟩ := pk X919 (Fr.app N882 Nq919)
  have le920 : n0 ≤ l4 := Nat.le_trans le906 (Nat.le_of_lt PO13)
  have O919 := O882.keep K919 (allS le906 (allS le920 all0))
  have e919 : T919.heap = T919.heap := rfl
  have z921 := Nat.le_trans z884 K919.1
  have gex919_5 : n0 ≤ r1_919 := Nat.le_trans (own_sz O882) x919_5
  have ghx919_5 : h0.size ≤ r1_919 := Nat.le_trans z884 x919_5
  have lox919_5 : r1_882 < r1_919 := Nat.lt_of_lt_of_le x882_6.lt x919_5
  refine og (fun _ k => st919.trans k) ?_
  show OG p e below _ T919 m 265 #[vr a1, vr q1, vr t1, vr u1, vi 0, vi 0, vi 0, vi 0, vr q1, .unset] [(.int 0), (.int 0), (.int 0), (.ref a1), (.int 3), (.ref n1)]
  refine qa X919.here hx hby dp62_3_265 rfl rfl ?_
  have kg923 := ((((((((Keep.refl _ [n1, s1, l1, s2, l2, s3, l3, s4, l4]).wr W770 (om 0 rfl)).wr W781 (om 0 rfl)).trans K807 (aS (om 1 rfl) (aS (om 2 rfl) all0))).wr W812 (om 0 rfl)).trans K848 (aS (om 3 rfl) (aS (om 4 rfl) all0))).trans K882 (aS (om 5 rfl) (aS (om 6 rfl) all0))).trans K919 (aS (om 7 rfl) (aS (om 8 rfl) all0)))
  have lt924 := Nat.lt_trans lt888 PO12
  have lt925 := Nat.lt_trans lt924 PO13
  have ni926 := (ninS (Nat.ne_of_lt PO3) (ninS (Nat.ne_of_lt lt818) (ninS (Nat.ne_of_lt lt819) (ninS (Nat.ne_of_lt lt853) (ninS (Nat.ne_of_lt lt854) (ninS (Nat.ne_of_lt lt887) (ninS (Nat.ne_of_lt lt888) (ninS (Nat.ne_of_lt lt924) (ninS (Nat.ne_of_lt lt925) nin0)))))))))
  have F927 := (PQ213.keep kg923 ni926)
  obtain ⟨T922, X922, e922, st922⟩ := getF X919 hx hZ hown (host := "") (Or.inl (ow hw 248 rfl)) Via.refl e919 F927 (g := (mkF m 266 #[vr a1, vr q1, vr t1, vr u1, vi 0, vi 0, vi 0, vi 0, vr q1, .unset] [(.ref a1), (.int 0), (.int 0), (.int 0), (.ref a1), (.int 3), (.ref n1)])) rfl rfl (hb hby dp62_3_266)
  refine og st922 ?_
  show OG p e below _ T922 m 269 #[vr a1, vr q1, vr t1, vr u1, vi 0, vi 0, vi 0, vi 0, vr q1, .unset] [(.ref s5), (.int 0), (.int 0), (.int 0), (.ref a1), (.int 3), (.ref n1)]
  refine qa X922.here hx hby dp62_3_269 rfl rfl ?_
  have F928 := (PQ225.keep kg923)
  have lt929 := Nat.lt_trans PO13 PO14
  have lt930 := Nat.lt_trans lt907 PO14
  have lt931 := Nat.lt_trans lt908 PO14
  have lt932 := Nat.lt_trans lt909 PO14
  have lt933 := Nat.lt_trans lt910 PO14
  have lt934 := Nat.lt_trans lt911 PO14
  have lt935 := Nat.lt_trans lt912 PO14
  have lt936 := Nat.lt_trans lt913 PO14
  have ni937 := (ninS (Ne.symm (Nat.ne_of_lt lt936)) (ninS (Ne.symm (Nat.ne_of_lt lt935)) (ninS (Ne.symm (Nat.ne_of_lt lt934)) (ninS (Ne.symm (Nat.ne_of_lt lt933)) (ninS (Ne.symm (Nat.ne_of_lt lt932)) (ninS (Ne.symm (Nat.ne_of_lt lt931)) (ninS (Ne.symm (Nat.ne_of_lt lt930)) (ninS (Ne.symm (Nat.ne_of_lt lt929)) (ninS (Ne.symm (Nat.ne_of_lt PO14)) nin0)))))))))
  have F938 := (PQ251.keep kg923 ni937)
  have F939 := (PQ252.keep kg923 ni937)
  have kg940 := ((((((Keep.refl _ [s1, l1, n1, s2, l2, s3, l3, s4, l4]).trans K807 (aS (om 0 rfl) (aS (om 1 rfl) all0))).wr W812 (om 2 rfl)).trans K848 (aS (om 3 rfl) (aS (om 4 rfl) all0))).trans K882 (aS (om 5 rfl) (aS (om 6 rfl) all0))).trans K919 (aS (om 7 rfl) (aS (om 8 rfl) all0)))
  have F941 := (F806.keep kg940)
  have le942 : n0 ≤ s5 := Nat.le_trans le920 (Nat.le_of_lt PO14)
  have lt943 := Nat.lt_trans PO14 PO15
  have lt944 := Nat.lt_trans lt929 PO15
  have lt945 := Nat.lt_trans lt930 PO15
  have lt946 := Nat.lt_trans lt931 PO15
  have lt947 := Nat.lt_trans lt932 PO15
  have lt948 := Nat.lt_trans lt933 PO15
  have lt949 := Nat.lt_trans lt934 PO15
  have lt950 := Nat.lt_trans lt935 PO15
  have lt951 := Nat.lt_trans lt936 PO15
  have ni952 := (ninS (Ne.symm (Nat.ne_of_lt lt951)) (ninS (Ne.symm (Nat.ne_of_lt lt950)) (ninS (Ne.symm (Nat.ne_of_lt lt949)) (ninS (Ne.symm (Nat.ne_of_lt lt948)) (ninS (Ne.symm (Nat.ne_of_lt lt947)) (ninS (Ne.symm (Nat.ne_of_lt lt946)) (ninS (Ne.symm (Nat.ne_of_lt lt945)) (ninS (Ne.symm (Nat.ne_of_lt lt944)) (ninS (Ne.symm (Nat.ne_of_lt lt943)) nin0)))))))))
  have F953 := (PQ253.keep kg923 ni952)
  have F954 := (PQ254.keep kg923 ni952)
  have F955 := (PQ255.keep kg923 ni952)
  have F956 := (PQ192.keep kg923)
  obtain ⟨cq957, kq957, qa957, qb957, qc957⟩ := isOf hZ e922 F928
  obtain ⟨_, _, ⟨T957, L957, k957, n957⟩, -, X957, ⟨Lc957, hQ957, l957, y957, z957⟩, st957⟩ := X922.virtualBack hx (y := mn16) (z := mn16) hown (mvT hZ (ow hw 293 rfl)) (mvT hZ (ow hw 294 rfl)) (notFace_of_selects (args := #[]) (mvT hZ (ow hw 296 rfl))) (mvT hZ (ow hw 296 rfl)) (mvT hZ (ow hw 295 rfl)) (by decide) (backOf (W := 6) (rm_ixfr l Z a0 hw [] ku0 ku1 ku2 ku3 aDef aCac aEmp aMir kDef cCac F0 s5 l5 u1 "java/util/ArrayList" (0 : Int32) T919.heap n0 O919 F938 F939 F941 F928 le942 F953 F954 F955 F956 (ow hw 331 rfl) PO15) hZ (ow hw 297 rfl) (ow hw 213 rfl) (by decide) (by decide)) qa957 qc957 (g := (mkF m 270 #[vr a1, vr q1, vr t1, vr u1, vi 0, vi 0, vi 0, vi 0, vr q1, .unset] [(.ref u1), (.ref s5), (.int 0), (.int 0), (.int 0), (.ref a1), (.int 3), (.ref n1)])) rfl (by rw [hml]; rfl) (Steps.refl _) (argsL := [(.ref u1)]) (rest := [(.int 0), (.int 0), (.int 0), (.ref a1), (.int 3), (.ref n1)]) (lenOf pd_Ljava_lang_Object___I rfl) rfl (by show 2 * 0 + _ ≤ _; exact Nat.le_of_eq rfl) (hb hby dp62_3_270) (fun _ _ => ⟨rfl, e922, (by decide : 4 + 1 ≤ _), (by decide : 40 + 10 ≤ _)⟩)
  dsimp only [Pt.U, Pt.locs, Pt.cells, Pt.slots] at X957 l957 y957 z957 st957 hQ957
  subst l957 y957 z957
  obtain ⟨r1_957, k1_957, rfl, Nq957, K957, x957_0, x957_1, x957_2, x957_3, x957_4, x957_5, x957_6, x957_7, x957_8⟩ := hQ957
  obtain ⟨L957, X957, N957⟩ := pk X957 (Fr.app N919 Nq957)
  have le958 : n0 ≤ l5 := Nat.le_trans le942 (Nat.le_of_lt PO15)
  have O957 := O919.keep K957 (allS le942 (allS le958 all0))
  have e957 : T957.heap = T957.heap := rfl
  have z959 := Nat.le_trans z921 K957.1
  have gex957_5 : n0 ≤ r1_957 := Nat.le_trans (own_sz O919) x957_5
  have ghx957_5 : h0.size ≤ r1_957 := Nat.le_trans z921 x957_5
  have lox957_5 : r1_919 < r1_957 := Nat.lt_of_lt_of_le x919_6.lt x957_5
  refine og (fun _ k => st957.trans k) ?_
  show OG p e below _ T957 m 273 #[vr a1, vr q1, vr t1, vr u1, vi 0, vi 0, vi 0, vi 0, vr q1, .unset] [(.int 0), (.int 0), (.int 0), (.int 0), (.ref a1), (.int 3), (.ref n1)]
  have kg960 := (((((((((Keep.refl _ [n1, s1, l1, s2, l2, s3, l3, s4, l4, s5, l5]).wr W770 (om 0 rfl)).wr W781 (om 0 rfl)).trans K807 (aS (om 1 rfl) (aS (om 2 rfl) all0))).wr W812 (om 0 rfl)).trans K848 (aS (om 3 rfl) (aS (om 4 rfl) all0))).trans K882 (aS (om 5 rfl) (aS (om 6 rfl) all0))).trans K919 (aS (om 7 rfl) (aS (om 8 rfl) all0))).trans K957 (aS (om 9 rfl) (aS (om 10 rfl) all0)))
  have F961 := (PQ189.keep kg960)
  have le962 : n0 ≤ a1 := Nat.le_trans PQ203 (Nat.le_of_lt lt772)
  have F963 := (PQ216.keep kg960)
  have lt964 := Nat.lt_trans PO6 PO7
  have lt965 := Nat.lt_trans lt964 PO8
  have lt966 := Nat.lt_trans lt965 PO9
  have lt967 := Nat.lt_trans lt966 PO10
  have lt968 := Nat.lt_trans lt967 PO11
  have lt969 := Nat.lt_trans lt968 PO12
  have lt970 := Nat.lt_trans lt969 PO13
  have lt971 := Nat.lt_trans lt970 PO14
  have lt972 := Nat.lt_trans lt971 PO15
  have ni973 := (ninS (Ne.symm (Nat.ne_of_lt lt794)) (ninS (Nat.ne_of_lt PO6) (ninS (Nat.ne_of_lt lt964) (ninS (Nat.ne_of_lt lt965) (ninS (Nat.ne_of_lt lt966) (ninS (Nat.ne_of_lt lt967) (ninS (Nat.ne_of_lt lt968) (ninS (Nat.ne_of_lt lt969) (ninS (Nat.ne_of_lt lt970) (ninS (Nat.ne_of_lt lt971) (ninS (Nat.ne_of_lt lt972) nin0)))))))))))
  have F974 := (PQ219.keep kg960 ni973)
  have kg975 := (((Keep.refl _ [s4, l4, s5, l5]).trans K919 (aS (om 0 rfl) (aS (om 1 rfl) all0))).trans K957 (aS (om 2 rfl) (aS (om 3 rfl) all0)))
  have lt976 := Nat.lt_trans lt925 PO14
  have lt977 := Nat.lt_trans lt976 PO15
  have ni978 := (ninS (Nat.ne_of_lt lt924) (ninS (Nat.ne_of_lt lt925) (ninS (Nat.ne_of_lt lt976) (ninS (Nat.ne_of_lt lt977) nin0))))
  have F979 := (F890.keep kg975 ni978)
  have ni980 := (ninS (Nat.ne_of_lt PO3) (ninS (Nat.ne_of_lt lt818) (ninS (Nat.ne_of_lt lt819) (ninS (Nat.ne_of_lt lt853) (ninS (Nat.ne_of_lt lt854) (ninS (Nat.ne_of_lt lt887) (ninS (Nat.ne_of_lt lt888) (ninS (Nat.ne_of_lt lt924) (ninS (Nat.ne_of_lt lt925) (ninS (Nat.ne_of_lt lt976) (ninS (Nat.ne_of_lt lt977) nin0)))))))))))
  have F981 := (PQ205.keep kg960 ni980)
  have F982 := (PQ206.keep kg960 ni980)
  have kg983 := (((((((Keep.refl _ [s1, l1, n1, s2, l2, s3, l3, s4, l4, s5, l5]).trans K807 (aS (om 0 rfl) (aS (om 1 rfl) all0))).wr W812 (om 2 rfl)).trans K848 (aS (om 3 rfl) (aS (om 4 rfl) all0))).trans K882 (aS (om 5 rfl) (aS (om 6 rfl) all0))).trans K919 (aS (om 7 rfl) (aS (om 8 rfl) all0))).trans K957 (aS (om 9 rfl) (aS (om 10 rfl) all0)))
  have ni984 := (ninS (Nat.ne_of_lt lt818) (ninS (Nat.ne_of_lt lt819) (ninS (Nat.ne_of_lt PO3) (ninS (Nat.ne_of_lt lt853) (ninS (Nat.ne_of_lt lt854) (ninS (Nat.ne_of_lt lt887) (ninS (Nat.ne_of_lt lt888) (ninS (Nat.ne_of_lt lt924) (ninS (Nat.ne_of_lt lt925) (ninS (Nat.ne_of_lt lt976) (ninS (Nat.ne_of_lt lt977) nin0)))))))))))
  have F985 := (F788.keep kg983 ni984)
  have kg986 := (((((Keep.refl _ [s2, l2, s3, l3, s4, l4, s5, l5]).trans K848 (aS (om 0 rfl) (aS (om 1 rfl) all0))).trans K882 (aS (om 2 rfl) (aS (om 3 rfl) all0))).trans K919 (aS (om 4 rfl) (aS (om 5 rfl) all0))).trans K957 (aS (om 6 rfl) (aS (om 7 rfl) all0)))
  have ni987 := (ninS (Nat.ne_of_lt lt853) (ninS (Nat.ne_of_lt lt854) (ninS (Nat.ne_of_lt lt887) (ninS (Nat.ne_of_lt lt888) (ninS (Nat.ne_of_lt lt924) (ninS (Nat.ne_of_lt lt925) (ninS (Nat.ne_of_lt lt976) (ninS (Nat.ne_of_lt lt977) nin0))))))))
  have F988 := (F821.keep kg986 ni987)
  have kg989 := ((((Keep.refl _ [s3, l3, s4, l4, s5, l5]).trans K882 (aS (om 0 rfl) (aS (om 1 rfl) all0))).trans K919 (aS (om 2 rfl) (aS (om 3 rfl) all0))).trans K957 (aS (om 4 rfl) (aS (om 5 rfl) all0)))
  have ni990 := (ninS (Nat.ne_of_lt lt887) (ninS (Nat.ne_of_lt lt888) (ninS (Nat.ne_of_lt lt924) (ninS (Nat.ne_of_lt lt925) (ninS (Nat.ne_of_lt lt976) (ninS (Nat.ne_of_lt lt977) nin0))))))
  have F991 := (F856.keep kg989 ni990)
  have F992 := (F894.keep kg975 ni978)
  have ni993 := (ninS (Nat.ne_of_lt lt976) (ninS (Nat.ne_of_lt lt977) nin0))
  have F994 := (F927.keep K957 ni993)
  have F995 := (PQ207.keep kg960 ni980)
  have F996 := (PQ208.keep kg960 ni980)
  obtain ⟨cl997, hcl997, hob997⟩ := F961.cell
  obtain ⟨_, _, ⟨T997, L997, k997, n997⟩, -, X997, ⟨Lc997, hQ997, l997, y997, z997⟩, st997⟩ := X957.privateBack hx (y := mn11) hown (mvT hZ (ow hw 332 rfl)) (mvT hZ (ow hw 333 rfl)) (own_selp hZ (ow hw 196 rfl) (ow hw 334 rfl) (ow hw 333 rfl) (by decide)) (Cond.privateMethod_at (mvP hZ (ow hw 334 rfl) (args := #[]))) (mvT hZ (ow hw 335 rfl)) (by decide) (backOf (W := 2) (rm_lr0 l Z a0 hw [] ku0 ku1 ku2 ku3 aDef aCac aEmp aMir kDef cCac F0 a1 n1 m1 o1 s1 s2 s3 s4 s5 kl1 T957.heap n0 O957 F961 le962 F963 F974 F979 F981 F982 F985 F988 F991 F992 F994 F995 F996 lt817) hZ (ow hw 335 rfl) (ow hw 197 rfl) (by decide) (by decide)) (g := (mkF m 273 #[vr a1, vr q1, vr t1, vr u1, vi 0, vi 0, vi 0, vi 0, vr q1, .unset] [(.int 0), (.int 0), (.int 0), (.int 0), (.ref a1), (.int 3), (.ref n1)])) rfl (by rw [hml]; rfl) (Steps.refl _) (a := a1) (by rw [e957]; exact hcl997) hob997 (argsL := [(.int 0), (.int 0), (.int 0), (.int 0)]) (rest := [(.int 3), (.ref n1)]) (lenOf pd_I_I_I_I__I rfl) rfl (by show 2 * 0 + _ ≤ _; exact Nat.le_of_eq rfl) (hb hby dp62_3_273) (fun _ _ => ⟨rfl, e957, (by decide : 5 + 0 ≤ _), (by decide : 50 + 0 ≤ _)⟩)
  dsimp only [Pt.U, Pt.locs, Pt.cells, Pt.slots] at X997 l997 y997 z997 st997 hQ997
  subst l997 y997 z997
  obtain ⟨rfl, Nq997, K997, x997_0, x997_1, x997_2, x997_3, x997_4, x997_5, x997_6, x997_7, x997_8, x997_9, x997_10⟩ := hQ997
  obtain ⟨L997, X997, N997⟩ := pk X997 (Fr.app N957 Nq997)
  have le998 : n0 ≤ o1 := Nat.le_trans le771 (Nat.le_of_lt lt794)
  have O997 := O957.keep K997 (allS le962 (allS le998 all0))
  have e997 : T997.heap = T997.heap := rfl
  have z999 := Nat.le_trans z959 K997.1
  refine og (fun _ k => st997.trans k) ?_
  show OG p e below _ T997 m 276 #[vr a1, vr q1, vr t1, vr u1, vi 0, vi 0, vi 0, vi 0, vr q1, .unset] [(.int 0), (.int 3), (.ref n1)]
  have kg1000 := ((((((Keep.refl _ [s2, l2, s3, l3, s4, l4, s5, l5, a1, o1]).trans K848 (aS (om 0 rfl) (aS (om 1 rfl) all0))).trans K882 (aS (om 2 rfl) (aS (om 3 rfl) all0))).trans K919 (aS (om 4 rfl) (aS (om 5 rfl) all0))).trans K957 (aS (om 6 rfl) (aS (om 7 rfl) all0))).trans K997 (aS (om 8 rfl) (aS (om 9 rfl) all0)))
  have ni1001 := (ninS (Nat.ne_of_lt lt833) (ninS (Nat.ne_of_lt lt841) (ninS (Nat.ne_of_lt lt867) (ninS (Nat.ne_of_lt lt877) (ninS (Nat.ne_of_lt lt901) (ninS (Nat.ne_of_lt lt913) (ninS (Nat.ne_of_lt lt936) (ninS (Nat.ne_of_lt lt951) (ninS (Ne.symm (Nat.ne_of_lt PO3)) (ninS (Nat.ne_of_lt lt794) nin0))))))))))
  have F1002 := (V812.keep kg1000 ni1001)
  obtain ⟨c1003, Ar1003, q1003, S1003, M1003, H1003, G1003⟩ := (id F1002)
  obtain ⟨T1003, h1003, X1003, e1003, W1003, st1003⟩ := stI X997 hx hZ e997 Ar1003 (j := (3 : Int32)) (inb_of S1003 ⟨by decide, by decide⟩) (g := (mkF m 276 #[vr a1, vr q1, vr t1, vr u1, vi 0, vi 0, vi 0, vi 0, vr q1, .unset] [(.int 0), (.int 3), (.ref n1)])) rfl rfl (hb hby dp62_3_276)
  obtain ⟨L1003, X1003, N1003⟩ := pk X1003 (Fr.snoc X1003 N997 le771)
  have O1003 := O997.wr W1003 le771
  have z1004 := Nat.le_trans z999 (Nat.le_of_eq W1003.size.symm)
  have V1003 : Arv Z h1003 n1 kn1 .int 576 [(.int (c9 + (1 : Int32))), (.int p2), (.int 0), (.int 0), (.int 0), (.int 0), (.int 0), (.int 0), (.int 0), (.int 0), (.int 0), (.int 0), (.int 0), (.int 0), (.int 0), (.int 0), (.int 0), (.int 0)] (.int 0) := Arv.set Ar1003 q1003 S1003 M1003 H1003 G1003 rfl W1003 3 (by decide) (Nat.le_of_ble_eq_true rfl)
  refine og st1003 ?_
  show OG p e below _ T1003 m 277 #[vr a1, vr q1, vr t1, vr u1, vi 0, vi 0, vi 0, vi 0, vr q1, .unset] []
  refine qa X1003.here hx hby dp62_3_277 rfl rfl ?_
  have F1006 := (x997_0.other W1003 (Or.inl (Nat.ne_of_lt PO3)))
  obtain ⟨T1005, X1005, e1005, st1005⟩ := getF X1003 hx hZ hown (host := "") (Or.inl (ow hw 203 rfl)) Via.refl e1003 F1006 (g := (mkF m 278 #[vr a1, vr q1, vr t1, vr u1, vi 0, vi 0, vi 0, vi 0, vr q1, .unset] [(.ref a1)])) rfl rfl (hb hby dp62_3_278)
  refine og st1005 ?_
  show OG p e below _ T1005 m 281 #[vr a1, vr q1, vr t1, vr u1, vi 0, vi 0, vi 0, vi 0, vr q1, .unset] [(.ref n1)]
  refine qi X1005.here hx hby dp62_3_281 rfl ?_
  refine qc X1005.here hx hby dp62_3_283 ?_
  refine qe X1005.here hx hby dp62_3_284 rfl ?_
  show OG p e below _ T1005 m 285 #[vr a1, vr q1, vr t1, vr u1, vi 0, vi 0, vi 0, vi 0, vr q1, .unset] [(.int ((0 : Int32) + (4 : Int32))), (.ref n1)]
  rw [show ((0 : Int32) + (4 : Int32)) = (4 : Int32) from by decide]
  refine qc X1005.here hx hby dp62_3_285 ?_
  obtain ⟨c1007, Ar1007, q1007, S1007, M1007, H1007, G1007⟩ := (id V1003)
  obtain ⟨T1007, h1007, X1007, e1007, W1007, st1007⟩ := stI X1005 hx hZ e1005 Ar1007 (j := (4 : Int32)) (inb_of S1007 ⟨by decide, by decide⟩) (g := (mkF m 286 #[vr a1, vr q1, vr t1, vr u1, vi 0, vi 0, vi 0, vi 0, vr q1, .unset] [(.int 0), (.int 4), (.ref n1)])) rfl rfl (hb hby dp62_3_286)
  obtain ⟨L1007, X1007, N1007⟩ := pk X1007 (Fr.snoc X1007 N1003 le771)
  have O1007 := O1003.wr W1007 le771
  have z1008 := Nat.le_trans z1004 (Nat.le_of_eq W1007.size.symm)
  have V1007 : Arv Z h1007 n1 kn1 .int 576 [(.int (c9 + (1 : Int32))), (.int p2), (.int 0), (.int 0), (.int 0), (.int 0), (.int 0), (.int 0), (.int 0), (.int 0), (.int 0), (.int 0), (.int 0), (.int 0), (.int 0), (.int 0), (.int 0), (.int 0)] (.int 0) := Arv.set Ar1007 q1007 S1007 M1007 H1007 G1007 rfl W1007 4 (by decide) (Nat.le_of_ble_eq_true rfl)
  refine og st1007 ?_
  show OG p e below _ T1007 m 287 #[vr a1, vr q1, vr t1, vr u1, vi 0, vi 0, vi 0, vi 0, vr q1, .unset] []
  refine qa X1007.here hx hby dp62_3_287 rfl rfl ?_
  have F1010 := (F1006.other W1007 (Or.inl (Nat.ne_of_lt PO3)))
  obtain ⟨T1009, X1009, e1009, st1009⟩ := getF X1007 hx hZ hown (host := "") (Or.inl (ow hw 203 rfl)) Via.refl e1007 F1010 (g := (mkF m 288 #[vr a1, vr q1, vr t1, vr u1, vi 0, vi 0, vi 0, vi 0, vr q1, .unset] [(.ref a1)])) rfl rfl (hb hby dp62_3_288)
  refine og st1009 ?_
  show OG p e below _ T1009 m 291 #[vr a1, vr q1, vr t1, vr u1, vi 0, vi 0, vi 0, vi 0, vr q1, .unset] [(.ref n1)]
  refine qi X1009.here hx hby dp62_3_291 rfl ?_
  refine qp X1009.here hx hby dp62_3_293 ?_
  refine qe X1009.here hx hby dp62_3_295 rfl ?_
  show OG p e below _ T1009 m 296 #[vr a1, vr q1, vr t1, vr u1, vi 0, vi 0, vi 0, vi 0, vr q1, .unset] [(.int ((0 : Int32) + (6 : Int32))), (.ref n1)]
  rw [show ((0 : Int32) + (6 : Int32)) = (6 : Int32) from by decide]
  refine qc X1009.here hx hby dp62_3_296 ?_
  obtain ⟨c1011, Ar1011, q1011, S1011, M1011, H1011, G1011⟩ := (id V1007)
  obtain ⟨T1011, h1011, X1011, e1011, W1011, st1011⟩ := stI X1009 hx hZ e1009 Ar1011 (j := (6 : Int32)) (inb_of S1011 ⟨by decide, by decide⟩) (g := (mkF m 297 #[vr a1, vr q1, vr t1, vr u1, vi 0, vi 0, vi 0, vi 0, vr q1, .unset] [(.int 0), (.int 6), (.ref n1)])) rfl rfl (hb hby dp62_3_297)
  obtain ⟨L1011, X1011, N1011⟩ := pk X1011 (Fr.snoc X1011 N1007 le771)
  have O1011 := O1007.wr W1011 le771
  have z1012 := Nat.le_trans z1008 (Nat.le_of_eq W1011.size.symm)
  have V1011 : Arv Z h1011 n1 kn1 .int 576 [(.int (c9 + (1 : Int32))), (.int p2), (.int 0), (.int 0), (.int 0), (.int 0), (.int 0), (.int 0), (.int 0), (.int 0), (.int 0), (.int 0), (.int 0), (.int 0), (.int 0), (.int 0), (.int 0), (.int 0)] (.int 0) := Arv.set Ar1011 q1011 S1011 M1011 H1011 G1011 rfl W1011 6 (by decide) (Nat.le_of_ble_eq_true rfl)
  refine og st1011 ?_
  show OG p e below _ T1011 m 298 #[vr a1, vr q1, vr t1, vr u1, vi 0, vi 0, vi 0, vi 0, vr q1, .unset] []
  refine qa X1011.here hx hby dp62_3_298 rfl rfl ?_
  have F1014 := (F1010.other W1011 (Or.inl (Nat.ne_of_lt PO3)))
  obtain ⟨T1013, X1013, e1013, st1013⟩ := getF X1011 hx hZ hown (host := "") (Or.inl (ow hw 203 rfl)) Via.refl e1011 F1014 (g := (mkF m 299 #[vr a1, vr q1, vr t1, vr u1, vi 0, vi 0, vi 0, vi 0, vr q1, .unset] [(.ref a1)])) rfl rfl (hb hby dp62_3_299)
  refine og st1013 ?_
  show OG p e below _ T1013 m 302 #[vr a1, vr q1, vr t1, vr u1, vi 0, vi 0, vi 0, vi 0, vr q1, .unset] [(.ref n1)]
  refine qi X1013.here hx hby dp62_3_302 rfl ?_
  refine qp X1013.here hx hby dp62_3_304 ?_
  refine qe X1013.here hx hby dp62_3_306 rfl ?_
  show OG p e below _ T1013 m 307 #[vr a1, vr q1, vr t1, vr u1, vi 0, vi 0, vi 0, vi 0, vr q1, .unset] [(.int ((0 : Int32) + (7 : Int32))), (.ref n1)]
  rw [show ((0 : Int32) + (7 : Int32)) = (7 : Int32) from by decide]
  refine qc X1013.here hx hby dp62_3_307 ?_
  obtain ⟨c1015, Ar1015, q1015, S1015, M1015, H1015, G1015⟩ := (id V1011)
  obtain ⟨T1015, h1015, X1015, e1015, W1015, st1015⟩ := stI X1013 hx hZ e1013 Ar1015 (j := (7 : Int32)) (inb_of S1015 ⟨by decide, by decide⟩) (g := (mkF m 308 #[vr a1, vr q1, vr t1, vr u1, vi 0, vi 0, vi 0, vi 0, vr q1, .unset] [(.int 1), (.int 7), (.ref n1)])) rfl rfl (hb hby dp62_3_308)
  obtain ⟨L1015, X1015, N1015⟩ := pk X1015 (Fr.snoc X1015 N1011 le771)
  have O1015 := O1011.wr W1015 le771
  have z1016 := Nat.le_trans z1012 (Nat.le_of_eq W1015.size.symm)
  have V1015 : Arv Z h1015 n1 kn1 .int 576 [(.int (c9 + (1 : Int32))), (.int p2), (.int 0), (.int 0), (.int 0), (.int 0), (.int 0), (.int 1), (.int 0), (.int 0), (.int 0), (.int 0), (.int 0), (.int 0), (.int 0), (.int 0), (.int 0), (.int 0)] (.int 0) := Arv.set Ar1015 q1015 S1015 M1015 H1015 G1015 rfl W1015 7 (by decide) (Nat.le_of_ble_eq_true rfl)
  refine og st1015 ?_
  show OG p e below _ T1015 m 309 #[vr a1, vr q1, vr t1, vr u1, vi 0, vi 0, vi 0, vi 0, vr q1, .unset] []
  refine qa X1015.here hx hby dp62_3_309 rfl rfl ?_
  have F1018 := (F1014.other W1015 (Or.inl (Nat.ne_of_lt PO3)))
  obtain ⟨T1017, X1017, e1017, st1017⟩ := getF X1015 hx hZ hown (host := "") (Or.inl (ow hw 203 rfl)) Via.refl e1015 F1018 (g := (mkF m 310 #[vr a1, vr q1, vr t1, vr u1, vi 0, vi 0, vi 0, vi 0, vr q1, .unset] [(.ref a1)])) rfl rfl (hb hby dp62_3_310)
  refine og st1017 ?_
  show OG p e below _ T1017 m 313 #[vr a1, vr q1, vr t1, vr u1, vi 0, vi 0, vi 0, vi 0, vr q1, .unset] [(.ref n1)]
  refine qi X1017.here hx hby dp62_3_313 rfl ?_
  refine qp X1017.here hx hby dp62_3_315 ?_
  refine qe X1017.here hx hby dp62_3_317 rfl ?_
  show OG p e below _ T1017 m 318 #[vr a1, vr q1, vr t1, vr u1, vi 0, vi 0, vi 0, vi 0, vr q1, .unset] [(.int ((0 : Int32) + (8 : Int32))), (.ref n1)]
  rw [show ((0 : Int32) + (8 : Int32)) = (8 : Int32) from by decide]
  refine qc X1017.here hx hby dp62_3_318 ?_
  obtain ⟨c1019, Ar1019, q1019, S1019, M1019, H1019, G1019⟩ := (id V1015)
  obtain ⟨T1019, h1019, X1019, e1019, W1019, st1019⟩ := stI X1017 hx hZ e1017 Ar1019 (j := (8 : Int32)) (inb_of S1019 ⟨by decide, by decide⟩) (g := (mkF m 319 #[vr a1, vr q1, vr t1, vr u1, vi 0, vi 0, vi 0, vi 0, vr q1, .unset] [(.int 1), (.int 8), (.ref n1)])) rfl rfl (hb hby dp62_3_319)
  obtain ⟨L1019, X1019, N1019⟩ := pk X1019 (Fr.snoc X1019 N1015 le771)
  have O1019 := O1015.wr W1019 le771
  have z1020 := Nat.le_trans z1016 (Nat.le_of_eq W1019.size.symm)
  have V1019 : Arv Z h1019 n1 kn1 .int 576 [(.int (c9 + (1 : Int32))), (.int p2), (.int 0), (.int 0), (.int 0), (.int 0), (.int 0), (.int 1), (.int 1), (.int 0), (.int 0), (.int 0), (.int 0), (.int 0), (.int 0), (.int 0), (.int 0), (.int 0)] (.int 0) := Arv.set Ar1019 q1019 S1019 M1019 H1019 G1019 rfl W1019 8 (by decide) (Nat.le_of_ble_eq_true rfl)
  refine og st1019 ?_
  show OG p e below _ T1019 m 320 #[vr a1, vr q1, vr t1, vr u1, vi 0, vi 0, vi 0, vi 0, vr q1, .unset] []
  refine qa X1019.here hx hby dp62_3_320 rfl rfl ?_
  have kg1021 := (((((((((Keep.refl _ [s4, l4, s5, l5, a1, o1, n1]).trans K919 (aS (om 0 rfl) (aS (om 1 rfl) all0))).trans K957 (aS (om 2 rfl) (aS (om 3 rfl) all0))).trans K997 (aS (om 4 rfl) (aS (om 5 rfl) all0))).wr W1003 (om 6 rfl)).wr W1007 (om 6 rfl)).wr W1011 (om 6 rfl)).wr W1015 (om 6 rfl)).wr W1019 (om 6 rfl))
  have F1022 := (F918.keep kg1021)
  have kg1023 := (((((((((((((((Keep.refl _ [n1, s1, l1, s2, l2, s3, l3, s4, l4, s5, l5, a1, o1]).wr W770 (om 0 rfl)).wr W781 (om 0 rfl)).trans K807 (aS (om 1 rfl) (aS (om 2 rfl) all0))).wr W812 (om 0 rfl)).trans K848 (aS (om 3 rfl) (aS (om 4 rfl) all0))).trans K882 (aS (om 5 rfl) (aS (om 6 rfl) all0))).trans K919 (aS (om 7 rfl) (aS (om 8 rfl) all0))).trans K957 (aS (om 9 rfl) (aS (om 10 rfl) all0))).trans K997 (aS (om 11 rfl) (aS (om 12 rfl) all0))).wr W1003 (om 0 rfl)).wr W1007 (om 0 rfl)).wr W1011 (om 0 rfl)).wr W1015 (om 0 rfl)).wr W1019 (om 0 rfl))
  have lt1024 := Nat.lt_trans lt773 PO4
  have lt1025 := Nat.lt_trans lt1024 PO5
  have lt1026 := Nat.lt_trans lt1025 PO6
  have lt1027 := Nat.lt_trans lt1026 PO7
  have lt1028 := Nat.lt_trans lt1027 PO8
  have lt1029 := Nat.lt_trans lt1028 PO9
  have lt1030 := Nat.lt_trans lt1029 PO10
  have lt1031 := Nat.lt_trans lt1030 PO11
  have lt1032 := Nat.lt_trans lt1031 PO12
  have lt1033 := Nat.lt_trans lt1032 PO13
  have lt1034 := Nat.lt_trans lt1033 PO14
  have lt1035 := Nat.lt_trans lt1034 PO15
  have ni1036 := (ninS (Nat.ne_of_lt lt773) (ninS (Nat.ne_of_lt lt1026) (ninS (Nat.ne_of_lt lt1027) (ninS (Nat.ne_of_lt lt1028) (ninS (Nat.ne_of_lt lt1029) (ninS (Nat.ne_of_lt lt1030) (ninS (Nat.ne_of_lt lt1031) (ninS (Nat.ne_of_lt lt1032) (ninS (Nat.ne_of_lt lt1033) (ninS (Nat.ne_of_lt lt1034) (ninS (Nat.ne_of_lt lt1035) (ninS (Nat.ne_of_lt lt772) (ninS (Nat.ne_of_lt lt1025) nin0)))))))))))))
  have F1037 := (PQ202.keep kg1023 ni1036)
  obtain ⟨cq1038, kq1038, qa1038, qb1038, qc1038⟩ := isOf hZ e1019 F1022
  obtain ⟨_, _, ⟨T1038, L1038, k1038, n1038⟩, -, X1038, ⟨Lc1038, hQ1038, l1038, y1038, z1038⟩, st1038⟩ := X1019.interfaceBack hx (xi := mn47) (y := mn31) hown (mvT hZ (ow hw 338 rfl)) (mvT hZ (ow hw 312 rfl)) (mvT hZ (ow hw 313 rfl)) (mvT hZ (ow hw 314 rfl)) (mvT hZ (ow hw 315 rfl)) (mvT hZ (ow hw 316 rfl)) (mvT hZ (ow hw 317 rfl)) (mvT hZ (ow hw 304 rfl)) (by decide) (backOf (W := 0) (rm_size l Z a0 hw [] ku0 ku1 ku2 ku3 aDef aCac aEmp aMir kDef cCac F0 t1 (2 : Int32) h1019 n0 O1019 F1037) hZ (ow hw 318 rfl) (ow hw 2 rfl) (by decide) (by decide)) qa1038 qb1038 qc1038 (g := (mkF m 321 #[vr a1, vr q1, vr t1, vr u1, vi 0, vi 0, vi 0, vi 0, vr q1, .unset] [(.ref t1)])) rfl (by rw [hml]; rfl) (Steps.refl _) (argsL := []) (rest := []) (lenOf pd___I rfl) rfl (by show 2 * 0 + _ ≤ _; exact Nat.le_of_eq rfl) (hb hby dp62_3_321) (fun _ _ => ⟨rfl, e1019, (by decide : 5 + 0 ≤ _), (by decide : 50 + 0 ≤ _)⟩)
  dsimp only [Pt.U, Pt.locs, Pt.cells, Pt.slots] at X1038 l1038 y1038 z1038 st1038 hQ1038
  subst l1038 y1038 z1038
  obtain ⟨rfl, Nq1038, K1038⟩ := hQ1038
  obtain ⟨L1038, X1038, N1038⟩ := pk X1038 (Fr.app N1019 Nq1038)
  refine og (fun _ k => st1038.trans k) ?_
  show OG p e below _ T1038 m 326 #[vr a1, vr q1, vr t1, vr u1, vi 0, vi 0, vi 0, vi 0, vr q1, .unset] [(.int 2)]
  refine qc X1038.here hx hby dp62_3_326 ?_
  refine qf X1038.here hx hby dp62_3_327 rfl ?_
  show OG p e below _ T1038 m 328 #[vr a1, vr q1, vr t1, vr u1, vi 0, vi 0, vi 0, vi 0, vr q1, .unset] [(.int ((2 : Int32) - (1 : Int32)))]
  rw [show ((2 : Int32) - (1 : Int32)) = (1 : Int32) from by decide]
  refine qp X1038.here hx hby dp62_3_328 ?_
  refine og (fun _ k => XS.idiv X1038.here hx rfl (hb hby dp62_3_330) rfl (by decide) k) ?_
  show OG p e below _ T1038 m 331 #[vr a1, vr q1, vr t1, vr u1, vi 0, vi 0, vi 0, vi 0, vr q1, .unset] [(.int ((1 : Int32) / (32 : Int32)))]
  rw [show ((1 : Int32) / (32 : Int32)) = (0 : Int32) from by decide]
  refine og (fun _ k => XS.istore X1038.here hx rfl (hb hby dp62_3_331) rfl (l' := #[vr a1, vr q1, vr t1, vr u1, vi 0, vi 0, vi 0, vi 0, vi 0, .unset]) rfl k) ?_
  refine qa X1038.here hx hby dp62_3_333 rfl rfl ?_
  have kg1040 := ((((((Keep.refl _ [n1]).wr W1003 (om 0 rfl)).wr W1007 (om 0 rfl)).wr W1011 (om 0 rfl)).wr W1015 (om 0 rfl)).wr W1019 (om 0 rfl))
  have F1041 := (x997_1.keep kg1040 ni787)
  obtain ⟨T1039, X1039, e1039, st1039⟩ := getF X1038 hx hZ hown (host := "") (Or.inl (ow hw 207 rfl)) Via.refl K1038 F1041 (g := (mkF m 334 #[vr a1, vr q1, vr t1, vr u1, vi 0, vi 0, vi 0, vi 0, vi 0, .unset] [(.ref a1)])) rfl rfl (hb hby dp62_3_334)
  refine og st1039 ?_
  show OG p e below _ T1039 m 337 #[vr a1, vr q1, vr t1, vr u1, vi 0, vi 0, vi 0, vi 0, vi 0, .unset] [(.ref m1)]
  refine qi X1039.here hx hby dp62_3_337 rfl ?_
  refine qi X1039.here hx hby dp62_3_339 rfl ?_
  refine og (fun _ k => XS.ifNo X1039.here hx rfl (hb hby dp62_3_341) rfl (by decide) k) ?_
  show OG p e below _ T1039 m 344 #[vr a1, vr q1, vr t1, vr u1, vi 0, vi 0, vi 0, vi 0, vi 0, .unset] [(.int 0), (.ref m1)]
  refine og (fun _ k => XS.aconstNull X1039.here hx rfl (hb hby dp62_3_344) k) ?_
  refine og (fun _ k => XS.goto X1039.here hx rfl (pc0 := 345) (pc' := 357) rfl (hb hby dp62_3_345) (by decide) (by decide) k) ?_
  have lt1042 := Nat.lt_trans PO5 PO6
  have lt1043 := Nat.lt_trans lt1042 PO7
  have lt1044 := Nat.lt_trans lt1043 PO8
  have lt1045 := Nat.lt_trans lt1044 PO9
  have lt1046 := Nat.lt_trans lt1045 PO10
  have lt1047 := Nat.lt_trans lt1046 PO11
  have lt1048 := Nat.lt_trans lt1047 PO12
  have lt1049 := Nat.lt_trans lt1048 PO13
  have lt1050 := Nat.lt_trans lt1049 PO14
  have lt1051 := Nat.lt_trans lt1050 PO15
  have ni1052 := (ninS (Ne.symm (Nat.ne_of_lt PO4)) (ninS (Nat.ne_of_lt lt1042) (ninS (Nat.ne_of_lt lt1043) (ninS (Nat.ne_of_lt lt1044) (ninS (Nat.ne_of_lt lt1045) (ninS (Nat.ne_of_lt lt1046) (ninS (Nat.ne_of_lt lt1047) (ninS (Nat.ne_of_lt lt1048) (ninS (Nat.ne_of_lt lt1049) (ninS (Nat.ne_of_lt lt1050) (ninS (Nat.ne_of_lt lt1051) (ninS (Ne.symm (Nat.ne_of_lt lt816)) (ninS (Nat.ne_of_lt PO5) nin0)))))))))))))
  have F1053 := (PQ218.keep kg1023 ni1052)
  obtain ⟨c1054, Ar1054, q1054, S1054, M1054, H1054, G1054⟩ := (id F1053)
  obtain ⟨T1054, h1054, X1054, e1054, W1054, st1054⟩ := stR X1039 hx hZ e1039 Ar1054 (j := (0 : Int32)) (v := .null) (inb_of S1054 ⟨by decide, by decide⟩) rfl (Or.inl rfl) (g := (mkF m 357 #[vr a1, vr q1, vr t1, vr u1, vi 0, vi 0, vi 0, vi 0, vi 0, .unset] [.null, (.int 0), (.ref m1)])) rfl rfl (hb hby dp62_3_357)
  have le1055 : n0 ≤ m1 := Nat.le_trans le771 (Nat.le_of_lt PO4)
  obtain ⟨L1054, X1054, N1054⟩ := pk X1054 (Fr.snoc X1054 N1038 le1055)
  have O1054 := O1019.wr W1054 le1055
  have z1056 := Nat.le_trans z1020 (Nat.le_of_eq W1054.size.symm)
  have V1054 : Arv Z h1054 m1 km1 (.object "com/example/reweave/reweave/control/SearchPath$More") (64 : Int32) [.null, .null] .null := Arv.set Ar1054 q1054 S1054 M1054 H1054 G1054 rfl W1054 0 (by decide) (Nat.le_of_ble_eq_true rfl)
  refine og st1054 ?_
  show OG p e below _ T1054 m 358 #[vr a1, vr q1, vr t1, vr u1, vi 0, vi 0, vi 0, vi 0, vi 0, .unset] []
  refine qa X1054.here hx hby dp62_3_358 rfl rfl ?_
  refine qd X1054.here hx hby dp62_3_359 rfl rfl ?_
  have kg1058 := (((((((Keep.refl _ [n1, m1]).wr W1003 (om 0 rfl)).wr W1007 (om 0 rfl)).wr W1011 (om 0 rfl)).wr W1015 (om 0 rfl)).wr W1019 (om 0 rfl)).wr W1054 (om 1 rfl))
  have ni1059 := (ninS (Nat.ne_of_lt PO3) (ninS (Nat.ne_of_lt lt816) nin0))
  have F1060 := (x997_8.keep kg1058 ni1059)
  obtain ⟨T1057, X1057, e1057, st1057⟩ := getF X1054 hx hZ hown (host := "") (Or.inl (ow hw 265 rfl)) Via.refl e1054 F1060 (g := (mkF m 360 #[vr a1, vr q1, vr t1, vr u1, vi 0, vi 0, vi 0, vi 0, vi 0, .unset] [(.ref a1), (.ref a1)])) rfl rfl (hb hby dp62_3_360)
  refine og st1057 ?_
  show OG p e below _ T1057 m 363 #[vr a1, vr q1, vr t1, vr u1, vi 0, vi 0, vi 0, vi 0, vi 0, .unset] [(.int 0), (.ref a1)]
  refine qc X1057.here hx hby dp62_3_363 ?_
  refine qe X1057.here hx hby dp62_3_364 rfl ?_
  show OG p e below _ T1057 m 365 #[vr a1, vr q1, vr t1, vr u1, vi 0, vi 0, vi 0, vi 0, vi 0, .unset] [(.int ((0 : Int32) + (1 : Int32))), (.ref a1)]
  rw [show ((0 : Int32) + (1 : Int32)) = (1 : Int32) from by decide]
  have kg1062 := ((((((((Keep.refl _ [a1, o1, n1, m1]).trans K997 (aS (om 0 rfl) (aS (om 1 rfl) all0))).wr W1003 (om 2 rfl)).wr W1007 (om 2 rfl)).wr W1011 (om 2 rfl)).wr W1015 (om 2 rfl)).wr W1019 (om 2 rfl)).wr W1054 (om 3 rfl))
  have F1063 := (F961.keep kg1062)
  obtain ⟨T1061, h1061, X1061, e1061, W1061, st1061⟩ := putF X1057 hx hZ hown (host := "") (Or.inl (ow hw 265 rfl)) Via.refl e1057 F1060 F1063 (Or.inl (ow hw 266 rfl)) (ow hw 196 rfl) (ty := .int) (by decide) rfl rfl (g := (mkF m 365 #[vr a1, vr q1, vr t1, vr u1, vi 0, vi 0, vi 0, vi 0, vi 0, .unset] [(.int 1), (.ref a1)])) rfl rfl (hb hby dp62_3_365)
  obtain ⟨L1061, X1061, N1061⟩ := pk X1061 (Fr.snoc X1061 N1054 le962)
  have O1061 := O1054.wr W1061 le962
  have z1064 := Nat.le_trans z1056 (Nat.le_of_eq W1061.size.symm)
  have F1061 : Fld Z h1061 a1 "com/example/reweave/reweave/control/SearchPath" "size" "I" (.int 1) := F1060.same W1061
  refine og st1061 ?_
  show OG p e below _ T1061 m 368 #[vr a1, vr q1, vr t1, vr u1, vi 0, vi 0, vi 0, vi 0, vi 0, .unset] []
  refine qi X1061.here hx hby dp62_3_368 rfl ?_
  obtain ⟨fs, hr, hrun, hended, hW, hsame⟩ := X1061.leave (v := some (.int 0)) (fun h => by rw [Bd.returns] at h; cases h)
  refine ⟨_, _, retOut X1061 hx Bd.returns rfl (Or.inl ⟨rfl, Or.inl rfl, _, rfl⟩) (hb hby dp62_3_370) hr, hrun, hended, _, _, rfl, ?_, ⟨_, rfl⟩, hW, hsame.mono (by decide) (by decide)⟩
  show Q_ad0 Z ku0 ku1 ku2 ku3 aDef aCac aEmp aMir kDef cCac a1 q1 t1 u1 d1 c9 p2 ru n1 m1 o1 s1 l1 s2 l2 s3 l3 s4 l4 s5 l5 kn1 kl1 km1 h0 n0 _ T1061.heap _
  rw [e1061]
  have kg1065 := (((Keep.refl _ [n1, m1]).wr W1019 (om 0 rfl)).wr W1054 (om 1 rfl))
  have F1066 := (oo W1061 (F1018.keep kg1065 ni1059) (lp_13 hw) (lp_25 hw) (by decide))
  have F1067 := (oo W1061 (F1041.other W1054 (Or.inl (Nat.ne_of_lt lt816))) (lp_12 hw) (lp_25 hw) (by decide))
  have F1068 := (oo W1061 (x997_2.keep kg1058 ni1059) (lp_14 hw) (lp_25 hw) (by decide))
  have F1069 := (oo W1061 (x997_9.keep kg1058 ni1059) (lp_26 hw) (lp_25 hw) (by decide))
  have F1070 := (oo W1061 (x997_3.keep kg1058 ni1059) (lp_15 hw) (lp_25 hw) (by decide))
  have F1071 := (oo W1061 (x997_4.keep kg1058 ni1059) (lp_17 hw) (lp_25 hw) (by decide))
  have F1072 := (oo W1061 (x997_5.keep kg1058 ni1059) (lp_18 hw) (lp_25 hw) (by decide))
  have F1073 := (oo W1061 (x997_6.keep kg1058 ni1059) (lp_19 hw) (lp_25 hw) (by decide))
  have F1074 := (oo W1061 (x997_7.keep kg1058 ni1059) (lp_20 hw) (lp_25 hw) (by decide))
  have kg1075 := (((Keep.refl _ [m1, a1]).wr W1054 (om 0 rfl)).wr W1061 (om 1 rfl))
  have ni1076 := (ninS (Nat.ne_of_lt PO4) (ninS (Ne.symm (Nat.ne_of_lt PO3)) nin0))
  have F1077 := (V1019.keep kg1075 ni1076)
  have F1078 := (V1054.other W1061 (Ne.symm (Nat.ne_of_lt lt816)))
  have kg1079 := ((((((((Keep.refl _ [n1, m1, a1]).wr W1003 (om 0 rfl)).wr W1007 (om 0 rfl)).wr W1011 (om 0 rfl)).wr W1015 (om 0 rfl)).wr W1019 (om 0 rfl)).wr W1054 (om 1 rfl)).wr W1061 (om 2 rfl))
  have ni1080 := (ninS (Ne.symm (Nat.ne_of_lt lt794)) (ninS (Ne.symm (Nat.ne_of_lt PO5)) (ninS (Ne.symm (Nat.ne_of_lt lt817)) nin0)))
  have F1081 := (x997_10.keep kg1079 ni1080)
  have lt1082 := Nat.lt_trans lox882_5 lox919_5
  have lt1083 := Nat.lt_trans lt1082 lox957_5
  have kg1084 := ((((((((((((Keep.refl _ [s3, l3, s4, l4, s5, l5, a1, o1, n1, m1]).trans K882 (aS (om 0 rfl) (aS (om 1 rfl) all0))).trans K919 (aS (om 2 rfl) (aS (om 3 rfl) all0))).trans K957 (aS (om 4 rfl) (aS (om 5 rfl) all0))).trans K997 (aS (om 6 rfl) (aS (om 7 rfl) all0))).wr W1003 (om 8 rfl)).wr W1007 (om 8 rfl)).wr W1011 (om 8 rfl)).wr W1015 (om 8 rfl)).wr W1019 (om 8 rfl)).wr W1054 (om 9 rfl)).wr W1061 (om 6 rfl))
  have F1085 := (x848_6.keep kg1084)
  have lt1086 := Nat.lt_trans lt1051 lox807_5
  have lt1087 := Nat.lt_trans lt1086 lox848_5
  have lt1088 := Nat.lt_trans lt951 lox807_5
  have lt1089 := Nat.lt_trans lt1088 lox848_5
  have lt1090 := Nat.lt_trans lt972 lox807_5
  have lt1091 := Nat.lt_trans lt1090 lox848_5
  have lt1092 := Nat.lt_trans lt977 lox807_5
  have lt1093 := Nat.lt_trans lt1092 lox848_5
  have lt1094 := Nat.lt_trans lox807_5 lox848_5
  have lt1095 := Nat.lt_trans PO15 lox807_5
  have lt1096 := Nat.lt_trans lt1095 lox848_5
  have lt1097 := Nat.lt_trans lt943 lox807_5
  have lt1098 := Nat.lt_trans lt1097 lox848_5
  have lt1099 := Nat.lt_trans lt944 lox807_5
  have lt1100 := Nat.lt_trans lt1099 lox848_5
  have lt1101 := Nat.lt_trans lt945 lox807_5
  have lt1102 := Nat.lt_trans lt1101 lox848_5
  have lt1103 := Nat.lt_trans lt946 lox807_5
  have lt1104 := Nat.lt_trans lt1103 lox848_5
  have ni1105 := (ninS (Ne.symm (Nat.ne_of_lt lt1104)) (ninS (Ne.symm (Nat.ne_of_lt lt1102)) (ninS (Ne.symm (Nat.ne_of_lt lt1100)) (ninS (Ne.symm (Nat.ne_of_lt lt1098)) (ninS (Ne.symm (Nat.ne_of_lt lt1096)) (ninS (Ne.symm (Nat.ne_of_lt lt1094)) (ninS (Ne.symm (Nat.ne_of_lt lt1093)) (ninS (Ne.symm (Nat.ne_of_lt lt1091)) (ninS (Ne.symm (Nat.ne_of_lt lt1089)) (ninS (Ne.symm (Nat.ne_of_lt lt1087)) nin0))))))))))
  have F1106 := (x848_7.keep kg1084 ni1105)
  have kg1107 := (kg1062.wr W1061 (om 0 rfl))
  have F1108 := (x957_6.keep kg1107)
  have lt1109 := Nat.lt_trans lt1087 lox882_5
  have lt1110 := Nat.lt_trans lt1109 lox919_5
  have lt1111 := Nat.lt_trans lt1110 lox957_5
  have lt1112 := Nat.lt_trans lt1089 lox882_5
  have lt1113 := Nat.lt_trans lt1112 lox919_5
  have lt1114 := Nat.lt_trans lt1113 lox957_5
  have lt1115 := Nat.lt_trans lt1091 lox882_5
  have lt1116 := Nat.lt_trans lt1115 lox919_5
  have lt1117 := Nat.lt_trans lt1116 lox957_5
  have lt1118 := Nat.lt_trans lt1093 lox882_5
  have lt1119 := Nat.lt_trans lt1118 lox919_5
  have lt1120 := Nat.lt_trans lt1119 lox957_5
  have ni1121 := (ninS (Ne.symm (Nat.ne_of_lt lt1120)) (ninS (Ne.symm (Nat.ne_of_lt lt1117)) (ninS (Ne.symm (Nat.ne_of_lt lt1114)) (ninS (Ne.symm (Nat.ne_of_lt lt1111)) nin0))))
  have F1122 := (x957_7.keep kg1107 ni1121)
  have kg1123 := ((((((((((((((Keep.refl _ [n1, s2, l2, s3, l3, s4, l4, s5, l5, a1, o1, m1]).wr W812 (om 0 rfl)).trans K848 (aS (om 1 rfl) (aS (om 2 rfl) all0))).trans K882 (aS (om 3 rfl) (aS (om 4 rfl) all0))).trans K919 (aS (om 5 rfl) (aS (om 6 rfl) all0))).trans K957 (aS (om 7 rfl) (aS (om 8 rfl) all0))).trans K997 (aS (om 9 rfl) (aS (om 10 rfl) all0))).wr W1003 (om 0 rfl)).wr W1007 (om 0 rfl)).wr W1011 (om 0 rfl)).wr W1015 (om 0 rfl)).wr W1019 (om 0 rfl)).wr W1054 (om 11 rfl)).wr W1061 (om 9 rfl))
  have ni1124 := (ninS (Ne.symm (Nat.ne_of_lt lt795)) (ninS (Nat.ne_of_lt lt832) (ninS (Nat.ne_of_lt lt840) (ninS (Nat.ne_of_lt lt866) (ninS (Nat.ne_of_lt lt876) (ninS (Nat.ne_of_lt lt900) (ninS (Nat.ne_of_lt lt912) (ninS (Nat.ne_of_lt lt935) (ninS (Nat.ne_of_lt lt950) (ninS (Ne.symm (Nat.ne_of_lt lt818)) (ninS (Ne.symm (Nat.ne_of_lt PO6)) (ninS (Ne.symm (Nat.ne_of_lt lt1042)) nin0))))))))))))
  have F1125 := (x807_0.keep kg1123 ni1124)
  have F1126 := (x807_1.keep kg1123 ni1124)
  have ni1127 := (ninS (Ne.symm (Nat.ne_of_lt lt801)) (ninS (Nat.ne_of_lt PO8) (ninS (Nat.ne_of_lt lt839) (ninS (Nat.ne_of_lt lt865) (ninS (Nat.ne_of_lt lt875) (ninS (Nat.ne_of_lt lt899) (ninS (Nat.ne_of_lt lt911) (ninS (Nat.ne_of_lt lt934) (ninS (Nat.ne_of_lt lt949) (ninS (Ne.symm (Nat.ne_of_lt lt819)) (ninS (Ne.symm (Nat.ne_of_lt lt964)) (ninS (Ne.symm (Nat.ne_of_lt lt1043)) nin0))))))))))))
  have F1128 := (x807_4.keep kg1123 ni1127)
  have ni1129 := (ninS (Nat.ne_of_lt lt864) (ninS (Nat.ne_of_lt lt874) (ninS (Nat.ne_of_lt lt898) (ninS (Nat.ne_of_lt lt910) (ninS (Nat.ne_of_lt lt933) (ninS (Nat.ne_of_lt lt948) (ninS (Ne.symm (Nat.ne_of_lt lt853)) (ninS (Ne.symm (Nat.ne_of_lt lt965)) (ninS (Ne.symm (Nat.ne_of_lt lt833)) (ninS (Ne.symm (Nat.ne_of_lt lt1044)) nin0))))))))))
  have F1130 := (x848_0.keep kg1084 ni1129)
  have F1131 := (x848_1.keep kg1084 ni1129)
  have ni1132 := (ninS (Nat.ne_of_lt PO10) (ninS (Nat.ne_of_lt lt873) (ninS (Nat.ne_of_lt lt897) (ninS (Nat.ne_of_lt lt909) (ninS (Nat.ne_of_lt lt932) (ninS (Nat.ne_of_lt lt947) (ninS (Ne.symm (Nat.ne_of_lt lt854)) (ninS (Ne.symm (Nat.ne_of_lt lt966)) (ninS (Ne.symm (Nat.ne_of_lt lt841)) (ninS (Ne.symm (Nat.ne_of_lt lt1045)) nin0))))))))))
  have F1133 := (x848_2.keep kg1084 ni1132)
  have F1134 := (x848_3.keep kg1084 ni1132)
  have F1135 := (x848_4.keep kg1084 ni1132)
  have kg1136 := (((((((((((Keep.refl _ [s4, l4, s5, l5, a1, o1, n1, m1]).trans K919 (aS (om 0 rfl) (aS (om 1 rfl) all0))).trans K957 (aS (om 2 rfl) (aS (om 3 rfl) all0))).trans K997 (aS (om 4 rfl) (aS (om 5 rfl) all0))).wr W1003 (om 6 rfl)).wr W1007 (om 6 rfl)).wr W1011 (om 6 rfl)).wr W1015 (om 6 rfl)).wr W1019 (om 6 rfl)).wr W1054 (om 7 rfl)).wr W1061 (om 4 rfl))
  have ni1137 := (ninS (Nat.ne_of_lt lt896) (ninS (Nat.ne_of_lt lt908) (ninS (Nat.ne_of_lt lt931) (ninS (Nat.ne_of_lt lt946) (ninS (Ne.symm (Nat.ne_of_lt lt887)) (ninS (Ne.symm (Nat.ne_of_lt lt967)) (ninS (Ne.symm (Nat.ne_of_lt lt867)) (ninS (Ne.symm (Nat.ne_of_lt lt1046)) nin0))))))))
  have F1138 := (x882_0.keep kg1136 ni1137)
  have F1139 := (x882_1.keep kg1136 ni1137)
  have ni1140 := (ninS (Nat.ne_of_lt PO12) (ninS (Nat.ne_of_lt lt907) (ninS (Nat.ne_of_lt lt930) (ninS (Nat.ne_of_lt lt945) (ninS (Ne.symm (Nat.ne_of_lt lt888)) (ninS (Ne.symm (Nat.ne_of_lt lt968)) (ninS (Ne.symm (Nat.ne_of_lt lt877)) (ninS (Ne.symm (Nat.ne_of_lt lt1047)) nin0))))))))
  have F1141 := (x882_4.keep kg1136 ni1140)
  have kg1142 := ((((((((((Keep.refl _ [s5, l5, a1, o1, n1, m1]).trans K957 (aS (om 0 rfl) (aS (om 1 rfl) all0))).trans K997 (aS (om 2 rfl) (aS (om 3 rfl) all0))).wr W1003 (om 4 rfl)).wr W1007 (om 4 rfl)).wr W1011 (om 4 rfl)).wr W1015 (om 4 rfl)).wr W1019 (om 4 rfl)).wr W1054 (om 5 rfl)).wr W1061 (om 2 rfl))
  have ni1143 := (ninS (Nat.ne_of_lt lt929) (ninS (Nat.ne_of_lt lt944) (ninS (Ne.symm (Nat.ne_of_lt lt924)) (ninS (Ne.symm (Nat.ne_of_lt lt969)) (ninS (Ne.symm (Nat.ne_of_lt lt901)) (ninS (Ne.symm (Nat.ne_of_lt lt1048)) nin0))))))
  have F1144 := (x919_0.keep kg1142 ni1143)
  have F1145 := (x919_1.keep kg1142 ni1143)
  have ni1146 := (ninS (Nat.ne_of_lt PO14) (ninS (Nat.ne_of_lt lt943) (ninS (Ne.symm (Nat.ne_of_lt lt925)) (ninS (Ne.symm (Nat.ne_of_lt lt970)) (ninS (Ne.symm (Nat.ne_of_lt lt913)) (ninS (Ne.symm (Nat.ne_of_lt lt1049)) nin0))))))
  have F1147 := (x919_4.keep kg1142 ni1146)
  have ni1148 := (ninS (Ne.symm (Nat.ne_of_lt lt976)) (ninS (Ne.symm (Nat.ne_of_lt lt971)) (ninS (Ne.symm (Nat.ne_of_lt lt936)) (ninS (Ne.symm (Nat.ne_of_lt lt1050)) nin0))))
  have F1149 := (x957_0.keep kg1107 ni1148)
  have F1150 := (x957_1.keep kg1107 ni1148)
  have ni1151 := (ninS (Ne.symm (Nat.ne_of_lt lt977)) (ninS (Ne.symm (Nat.ne_of_lt lt972)) (ninS (Ne.symm (Nat.ne_of_lt lt951)) (ninS (Ne.symm (Nat.ne_of_lt lt1051)) nin0))))
  have F1152 := (x957_2.keep kg1107 ni1151)
  have F1153 := (x957_3.keep kg1107 ni1151)
  have F1154 := (x957_4.keep kg1107 ni1151)
  exact ⟨r1_848, k1_848, r1_957, k1_957, rfl, N1061, (((((((((((((((((Keep.refl _ [a1, n1, m1, o1, s1, l1, s2, l2, s3, l3, s4, l4, s5, l5]).wr W770 (om 1 rfl)).wr W781 (om 1 rfl)).trans K807 (aS (om 4 rfl) (aS (om 5 rfl) all0))).wr W812 (om 1 rfl)).trans K848 (aS (om 6 rfl) (aS (om 7 rfl) all0))).trans K882 (aS (om 8 rfl) (aS (om 9 rfl) all0))).trans K919 (aS (om 10 rfl) (aS (om 11 rfl) all0))).trans K957 (aS (om 12 rfl) (aS (om 13 rfl) all0))).trans K997 (aS (om 0 rfl) (aS (om 3 rfl) all0))).wr W1003 (om 1 rfl)).wr W1007 (om 1 rfl)).wr W1011 (om 1 rfl)).wr W1015 (om 1 rfl)).wr W1019 (om 1 rfl)).wr W1054 (om 2 rfl)).wr W1061 (om 0 rfl)), F1066, F1067, F1068, F1061, F1069, F1070, F1071, F1072, F1073, F1074, F1077, F1078, F1081, ghx848_5, lt1083, F1085, F1106, x848_8, F1108, F1122, x957_8, F1125, F1126, F1128, F1130, F1131, F1133, F1134, F1135, F1138, F1139, F1141, F1144, F1145, F1147, F1149, F1150, F1152, F1153, F1154⟩
def Q_ad1 (Z : State) (ku0 ku1 ku2 ku3 aDef aCac aEmp aMir : Addr) (kDef : ClassId) (cCac : Cell) (a1 : Addr) (q1 : Addr) (t1 : Addr) (u1 : Addr) (d1 : Addr) (c9 : Int32) (p2 : Int32) (ru : Addr) (n1 : Addr) (m1 : Addr) (o1 : Addr) (s1 : Addr) (l1 : Addr) (s2 : Addr) (l2 : Addr) (s3 : Addr) (l3 : Addr) (s4 : Addr) (l4 : Addr) (s5 : Addr) (l5 : Addr) (kn1 : ClassId) (kl1 : ClassId) (km1 : ClassId) (hv : Int32) (x1 : Value) (x2 : Value) (x3 : Value) (x4 : Value) (x5 : Value) (x6 : Value) (x7 : Value) (x8 : Value) (rv : Addr) (u0 : Addr) (g2 : Addr) (g5 : Addr) (kg2 : ClassId) (kg5 : ClassId) (mc2 : Int32) (mc5 : Int32) (h0 : Heap) (n0 : Nat) (v : Option Value) (h : Heap) (L : List Loc) : Prop := v = some (.int 1) ∧ Fr n0 L ∧ Keep h0 h [a1, n1, m1, o1, s1, l1, s2, l2, s3, l3, s4, l4, s5, l5, g2, g5] ∧ Fld Z h a1 "com/example/reweave/reweave/control/SearchPath" "numbers" "[I" (.ref n1) ∧ Arv Z h n1 kn1 .int 576 [(.int hv), x1, x2, x3, x4, x5, x6, x7, x8, (.int (c9 + (1 : Int32))), (.int p2), (.int 0), (.int 1), (.int 0), (.int 0), (.int 0), (.int 1), (.int 1)] (.int 0)
theorem ef_ad1 (m : MethodId) (x0 : Addr) (x1 : Addr) (x2 : Addr) (x3 : Addr) : entryFrame m #[(.ref x0), (.ref x1), (.ref x2), (.ref x3)] 10 = mkF m 0 #[vr x0, vr x1, vr x2, vr x3, .unset, .unset, .unset, .unset, .unset, .unset] [] := by first | (simp [entryFrame, mkF, argsToLocals, Value.category]; done) | rfl
theorem rm_ad1 (l : Launch) (Z : State) (a0 : Array Value) (hw : HW Z a0) (ws : List Jvm.Cond) (ku0 ku1 ku2 ku3 aDef aCac aEmp aMir : Addr) (kDef : ClassId) (cCac : Cell) (F0 : OwnFacts Z ku0 ku1 ku2 ku3 aDef aCac aEmp aMir kDef cCac) (a1 : Addr) (q1 : Addr) (t1 : Addr) (u1 : Addr) (d1 : Addr) (c9 : Int32) (p2 : Int32) (ru : Addr) (n1 : Addr) (m1 : Addr) (o1 : Addr) (s1 : Addr) (l1 : Addr) (s2 : Addr) (l2 : Addr) (s3 : Addr) (l3 : Addr) (s4 : Addr) (l4 : Addr) (s5 : Addr) (l5 : Addr) (kn1 : ClassId) (kl1 : ClassId) (km1 : ClassId) (hv : Int32) (x1 : Value) (x2 : Value) (x3 : Value) (x4 : Value) (x5 : Value) (x6 : Value) (x7 : Value) (x8 : Value) (rv : Addr) (u0 : Addr) (g2 : Addr) (g5 : Addr) (kg2 : ClassId) (kg5 : ClassId) (mc2 : Int32) (mc5 : Int32) (h0 : Heap) (n0 : Nat) (O0 : Old Z n0 h0) (PQ256 : Exa Z h0 a1 "com/example/reweave/reweave/control/SearchPath") (PQ257 : Exa Z h0 q1 "com/example/reweave/reweave/control/Point") (PQ258 : Exa Z h0 t1 "java/util/ArrayList") (PQ259 : Exa Z h0 u1 "java/util/ArrayList") (PQ260 : Fld Z h0 q1 "com/example/reweave/reweave/control/Point" "kind" "Lcom/example/reweave/reweave/control/Point$Kind;" (.ref d1)) (PQ261 : Fld Z h0 q1 "com/example/reweave/reweave/control/Point" "thread" "I" (.int p2)) (PQ262 : Fld Z h0 q1 "com/example/reweave/reweave/control/Point" "location" "Lcom/example/reweave/reweave/control/Location;" .null) (PQ263 : Fld Z h0 q1 "com/example/reweave/reweave/control/Point" "runnable" "Ljava/util/List;" (.ref ru)) (PQ264 : Fld Z h0 q1 "com/example/reweave/reweave/control/Point" "timeOuts" "Ljava/util/List;" (.ref aEmp)) (PQ265 : Exa Z h0 ru "java/util/ImmutableCollections$List12") (PQ266 : Exa Z h0 d1 "com/example/reweave/reweave/control/Point$Kind") (PQ267 : Fld Z h0 d1 "java/lang/Enum" "ordinal" "I" (.int c9)) (PQ268 : d1 < Z.heap.size) (PQ269 : Fld Z h0 t1 "java/util/ArrayList" "size" "I" (.int 2)) (PQ270 : n0 ≤ t1) (PQ271 : Fld Z h0 a1 "com/example/reweave/reweave/control/SearchPath" "numbers" "[I" (.ref n1)) (PQ272 : Fld Z h0 a1 "com/example/reweave/reweave/control/SearchPath" "more" "[Lcom/example/reweave/reweave/control/SearchPath$More;" (.ref m1)) (PQ273 : Fld Z h0 a1 "com/example/reweave/reweave/control/SearchPath" "lists" "[I" (.ref o1)) (PQ274 : Fld Z h0 a1 "com/example/reweave/reweave/control/SearchPath" "size" "I" (.int 1)) (PQ275 : Fld Z h0 a1 "com/example/reweave/reweave/control/SearchPath" "listRows" "I" (.int 1)) (PQ276 : Fld Z h0 a1 "com/example/reweave/reweave/control/SearchPath" "locations" "Lcom/example/reweave/reweave/control/SharedValues;" (.ref s1)) (PQ277 : Fld Z h0 a1 "com/example/reweave/reweave/control/SearchPath" "runnables" "Lcom/example/reweave/reweave/control/SharedValues;" (.ref s2)) (PQ278 : Fld Z h0 a1 "com/example/reweave/reweave/control/SearchPath" "timeOuts" "Lcom/example/reweave/reweave/control/SharedValues;" (.ref s3)) (PQ279 : Fld Z h0 a1 "com/example/reweave/reweave/control/SearchPath" "options" "Lcom/example/reweave/reweave/control/SharedValues;" (.ref s4)) (PQ280 : Fld Z h0 a1 "com/example/reweave/reweave/control/SearchPath" "waiting" "Lcom/example/reweave/reweave/control/SharedValues;" (.ref s5)) (PQ281 : Exa Z h0 n1 "[I") (PQ282 : Exa Z h0 m1 "[Lcom/example/reweave/reweave/control/SearchPath$More;") (PQ283 : Exa Z h0 o1 "[I") (PQ284 : Arv Z h0 n1 kn1 .int 576 [(.int hv), x1, x2, x3, x4, x5, x6, x7, x8, (.int 0), (.int 0), (.int 0), (.int 0), (.int 0), (.int 0), (.int 0), (.int 0), (.int 0)] (.int 0)) (PQ285 : Arv Z h0 m1 km1 (.object "com/example/reweave/reweave/control/SearchPath$More") (64 : Int32) [.null, .null] .null) (PQ286 : Arv Z h0 o1 kl1 .int 256 [(.int 0), (.int 0), (.int 0), (.int 0), (.int 0), (.int 0), (.int 0), (.int 0)] (.int 0)) (PQ287 : Ovr Z km1 "com/example/reweave/reweave/control/SearchPath$More") (PQ288 : Exa Z h0 s1 "com/example/reweave/reweave/control/SharedValues") (PQ289 : Exa Z h0 s2 "com/example/reweave/reweave/control/SharedValues") (PQ290 : Exa Z h0 s3 "com/example/reweave/reweave/control/SharedValues") (PQ291 : Exa Z h0 s4 "com/example/reweave/reweave/control/SharedValues") (PQ292 : Exa Z h0 s5 "com/example/reweave/reweave/control/SharedValues") (PQ293 : Exa Z h0 l1 "java/util/ArrayList") (PQ294 : Exa Z h0 l2 "java/util/ArrayList") (PQ295 : Exa Z h0 l3 "java/util/ArrayList") (PQ296 : Exa Z h0 l4 "java/util/ArrayList") (PQ297 : Exa Z h0 l5 "java/util/ArrayList") (PQ298 : Fld Z h0 s1 "com/example/reweave/reweave/control/SharedValues" "values" "Ljava/util/List;" (.ref l1)) (PQ299 : Fld Z h0 s1 "com/example/reweave/reweave/control/SharedValues" "last" "Ljava/lang/Object;" .null) (PQ300 : Fld Z h0 l1 "java/util/ArrayList" "size" "I" (.int 1)) (PQ301 : Fld Z h0 s2 "com/example/reweave/reweave/control/SharedValues" "values" "Ljava/util/List;" (.ref l2)) (PQ302 : Fld Z h0 s2 "com/example/reweave/reweave/control/SharedValues" "last" "Ljava/lang/Object;" (.ref rv)) (PQ303 : Fld Z h0 l2 "java/util/AbstractList" "modCount" "I" (.int mc2)) (PQ304 : Fld Z h0 l2 "java/util/ArrayList" "elementData" "[Ljava/lang/Object;" (.ref g2)) (PQ305 : Fld Z h0 l2 "java/util/ArrayList" "size" "I" (.int 1)) (PQ306 : Fld Z h0 s3 "com/example/reweave/reweave/control/SharedValues" "values" "Ljava/util/List;" (.ref l3)) (PQ307 : Fld Z h0 s3 "com/example/reweave/reweave/control/SharedValues" "last" "Ljava/lang/Object;" (.ref aEmp)) (PQ308 : Fld Z h0 l3 "java/util/ArrayList" "size" "I" (.int 1)) (PQ309 : Fld Z h0 s4 "com/example/reweave/reweave/control/SharedValues" "values" "Ljava/util/List;" (.ref l4)) (PQ310 : Fld Z h0 s4 "com/example/reweave/reweave/control/SharedValues" "last" "Ljava/lang/Object;" (.ref t1)) (PQ311 : Fld Z h0 l4 "java/util/ArrayList" "size" "I" (.int 1)) (PQ312 : Fld Z h0 s5 "com/example/reweave/reweave/control/SharedValues" "values" "Ljava/util/List;" (.ref l5)) (PQ313 : Fld Z h0 s5 "com/example/reweave/reweave/control/SharedValues" "last" "Ljava/lang/Object;" (.ref u0)) (PQ314 : Fld Z h0 l5 "java/util/AbstractList" "modCount" "I" (.int mc5)) (PQ315 : Fld Z h0 l5 "java/util/ArrayList" "elementData" "[Ljava/lang/Object;" (.ref g5)) (PQ316 : Fld Z h0 l5 "java/util/ArrayList" "size" "I" (.int 1)) (PQ317 : Exa Z h0 g2 "[Ljava/lang/Object;") (PQ318 : Arv Z h0 g2 kg2 (.object "java/lang/Object") (10 : Int32) [(.ref rv), .null] .null) (PQ319 : Ovr Z kg2 "java/lang/Object") (PQ320 : Exa Z h0 g5 "[Ljava/lang/Object;") (PQ321 : Arv Z h0 g5 kg5 (.object "java/lang/Object") (10 : Int32) [(.ref u0), .null] .null) (PQ322 : Ovr Z kg5 "java/lang/Object") (hn2 : ru ≠ rv) (hn5 : u1 ≠ u0) (PO1 : t1 < q1) (PO2 : q1 < a1) (PO3 : a1 < n1) (PO4 : n1 < m1) (PO5 : m1 < o1) (PO6 : o1 < s1) (PO7 : s1 < l1) (PO8 : l1 < s2) (PO9 : s2 < l2) (PO10 : l2 < s3) (PO11 : s3 < l3) (PO12 : l3 < s4) (PO13 : s4 < l4) (PO14 : l4 < s5) (PO15 : s5 < l5) (PO16 : l5 < g2) (PO17 : g2 < g5) :
    MetFree l mn9 (head1 (Jvm.Cond.code mn9 prog_62_method_3_code 10 (some .int) :: ws) (rk 3 0 0 47)) (fun a U => a = #[(.ref a1), (.ref q1), (.ref t1), (.ref u1)] ∧ Z.Warmed39 U.vm ∧ U.heap = h0) (fun _ _ _ _ _ => True) (fun _ U o U' => ∃ v L, o = .returned v ∧ Q_ad1 Z ku0 ku1 ku2 ku3 aDef aCac aEmp aMir kDef cCac a1 q1 t1 u1 d1 c9 p2 ru n1 m1 o1 s1 l1 s2 l2 s3 l3 s4 l4 s5 l5 kn1 kl1 km1 hv x1 x2 x3 x4 x5 x6 x7 x8 rv u0 g2 g5 kg2 kg5 mc2 mc5 h0 n0 v U'.heap L ∧ FrameEnd U o U' L (rk 3 0 0 47).cells (rk 3 0 0 47).slots) := by
  refine MetFree.of_bodySF (plainFor_of_name pn_com_example_reweave_reweave_control_SearchPath) hisR ?_
  intro p e s m args below meth c s₁ Bd hml0 hP hK
  obtain ⟨rfl, hZ, hh⟩ := hP
  have hx := Bd.exec
  have hby := Bd.bytes
  have hml : c.maxLocals = 10 := hml0
  have hown : s.vm.findClass "com/example/reweave/reweave/control/SearchPath" = some m.cls := findClass_of_methodNamed Bd.named
  have hnm := (name_of_methodNamed Bd.named Bd.method).1
  have X0 : Stand p l e (rk 3 0 0 47) s m #[(.ref a1), (.ref q1), (.ref t1), (.ref u1)] below meth c s₁ [] 0 0 := Stand.of_body Bd
  have e0 : s₁.heap = h0 := by rw [← hh, Bd.state]; rfl
  have N0 := Fr.nil n0
  refine og (Q := fun o U' => ∃ v L, o = .returned v ∧ Q_ad1 Z ku0 ku1 ku2 ku3 aDef aCac aEmp aMir kDef cCac a1 q1 t1 u1 d1 c9 p2 ru n1 m1 o1 s1 l1 s2 l2 s3 l3 s4 l4 s5 l5 kn1 kl1 km1 hv x1 x2 x3 x4 x5 x6 x7 x8 rv u0 g2 g5 kg2 kg5 mc2 mc5 h0 n0 v U'.heap L ∧ FrameEnd s o U' L (rk 3 0 0 47).cells (rk 3 0 0 47).slots) (fun t k => castTop (ef_ad1 m a1 q1 t1 u1) k) ?_
  show OG p e below _ s₁ m 0 #[vr a1, vr q1, vr t1, vr u1, .unset, .unset, .unset, .unset, .unset, .unset] []
  refine qa X0.here hx hby dp62_3_0 rfl rfl ?_
  obtain ⟨T1155, X1155, e1155, st1155⟩ := getF X0 hx hZ hown (host := "") (Or.inl (ow hw 265 rfl)) Via.refl e0 PQ274 (g := (mkF m 1 #[vr a1, vr q1, vr t1, vr u1, .unset, .unset, .unset, .unset, .unset, .unset] [(.ref a1)])) rfl rfl (hb hby dp62_3_1)
  refine og st1155 ?_
  show OG p e below _ T1155 m 4 #[vr a1, vr q1, vr t1, vr u1, .unset, .unset, .unset, .unset, .unset, .unset] [(.int 1)]
  refine qa X1155.here hx hby dp62_3_4 rfl rfl ?_
  obtain ⟨T1156, X1156, e1156, st1156⟩ := getF X1155 hx hZ hown (host := "") (Or.inl (ow hw 207 rfl)) Via.refl e1155 PQ272 (g := (mkF m 5 #[vr a1, vr q1, vr t1, vr u1, .unset, .unset, .unset, .unset, .unset, .unset] [(.ref a1), (.int 1)])) rfl rfl (hb hby dp62_3_5)
  refine og st1156 ?_
  show OG p e below _ T1156 m 8 #[vr a1, vr q1, vr t1, vr u1, .unset, .unset, .unset, .unset, .unset, .unset] [(.ref m1), (.int 1)]
  obtain ⟨c1157, Ar1157, q1157, S1157, M1157, H1157, G1157⟩ := (id PQ285)
  refine og (fun _ k => X1156.arraylength hx (cell := c1157) (by rw [e1156]; exact Ar1157.1) (State.isArrayOf_alike hZ.alike Ar1157.2.1) (g := (mkF m 8 #[vr a1, vr q1, vr t1, vr u1, .unset, .unset, .unset, .unset, .unset, .unset] [(.ref m1), (.int 1)])) rfl (rest := [(.int 1)]) rfl (hb hby dp62_3_8) _ k) ?_
  rw [len_of S1157 M1157]
  show OG p e below _ T1156 m 9 #[vr a1, vr q1, vr t1, vr u1, .unset, .unset, .unset, .unset, .unset, .unset] [(.int 64), (.int 1)]
  refine og (fun _ k => XS.icmpYes X1156.here hx rfl (pc0 := 9) (pc' := 52) rfl (hb hby dp62_3_9) rfl (by decide) (by decide) (by decide) k) ?_
  show OG p e below _ T1156 m 52 #[vr a1, vr q1, vr t1, vr u1, .unset, .unset, .unset, .unset, .unset, .unset] []
  refine qa X1156.here hx hby dp62_3_52 rfl rfl ?_
  obtain ⟨T1158, X1158, e1158, st1158⟩ := getF X1156 hx hZ hown (host := "") (Or.inl (ow hw 265 rfl)) Via.refl e1156 PQ274 (g := (mkF m 53 #[vr a1, vr q1, vr t1, vr u1, .unset, .unset, .unset, .unset, .unset, .unset] [(.ref a1)])) rfl rfl (hb hby dp62_3_53)
  refine og st1158 ?_
  show OG p e below _ T1158 m 56 #[vr a1, vr q1, vr t1, vr u1, .unset, .unset, .unset, .unset, .unset, .unset] [(.int 1)]
  refine og (fun _ k => XS.istore X1158.here hx rfl (hb hby dp62_3_56) rfl (l' := #[vr a1, vr q1, vr t1, vr u1, vi 1, .unset, .unset, .unset, .unset, .unset]) rfl k) ?_
  refine qp X1158.here hx hby dp62_3_58 ?_
  refine qi X1158.here hx hby dp62_3_60 rfl ?_
  refine qg X1158.here hx hby dp62_3_62 rfl ?_
  show OG p e below _ T1158 m 63 #[vr a1, vr q1, vr t1, vr u1, vi 1, .unset, .unset, .unset, .unset, .unset] [(.int ((9 : Int32) * (1 : Int32)))]
  rw [show ((9 : Int32) * (1 : Int32)) = (9 : Int32) from by decide]
  refine og (fun _ k => XS.istore X1158.here hx rfl (hb hby dp62_3_63) rfl (l' := #[vr a1, vr q1, vr t1, vr u1, vi 1, vi 9, .unset, .unset, .unset, .unset]) rfl k) ?_
  refine qa X1158.here hx hby dp62_3_65 rfl rfl ?_
  obtain ⟨T1159, X1159, e1159, st1159⟩ := instY X1158 hx hZ hown (ow hw 267 rfl) e1158 (Ins.self PQ257) (g := (mkF m 66 #[vr a1, vr q1, vr t1, vr u1, vi 1, vi 9, .unset, .unset, .unset, .unset] [(.ref q1)])) rfl rfl (hb hby dp62_3_66)
  refine og st1159 ?_
  show OG p e below _ T1159 m 69 #[vr a1, vr q1, vr t1, vr u1, vi 1, vi 9, .unset, .unset, .unset, .unset] [(.int 1)]
  refine og (fun _ k => XS.ifNo X1159.here hx rfl (hb hby dp62_3_69) rfl (by decide) k) ?_
  show OG p e below _ T1159 m 72 #[vr a1, vr q1, vr t1, vr u1, vi 1, vi 9, .unset, .unset, .unset, .unset] []
  refine qa X1159.here hx hby dp62_3_72 rfl rfl ?_
  obtain ⟨T1160, X1160, e1160, st1160⟩ := castY X1159 hx hZ hown (ow hw 267 rfl) e1159 (Ins.self PQ257) (g := (mkF m 73 #[vr a1, vr q1, vr t1, vr u1, vi 1, vi 9, .unset, .unset, .unset, .unset] [(.ref q1)])) rfl rfl (hb hby dp62_3_73)
  refine og st1160 ?_
  show OG p e below _ T1160 m 76 #[vr a1, vr q1, vr t1, vr u1, vi 1, vi 9, .unset, .unset, .unset, .unset] [(.ref q1)]
  refine og (fun _ k => XS.astore X1160.here hx rfl (hb hby dp62_3_76) rfl rfl (l' := #[vr a1, vr q1, vr t1, vr u1, vi 1, vi 9, .unset, .unset, vr q1, .unset]) rfl k) ?_
  refine qa X1160.here hx hby dp62_3_78 rfl rfl ?_
  obtain ⟨T1161, X1161, e1161, st1161⟩ := getF X1160 hx hZ hown (host := "") (Or.inl (ow hw 203 rfl)) Via.refl e1160 PQ271 (g := (mkF m 79 #[vr a1, vr q1, vr t1, vr u1, vi 1, vi 9, .unset, .unset, vr q1, .unset] [(.ref a1)])) rfl rfl (hb hby dp62_3_79)
  refine og st1161 ?_
  show OG p e below _ T1161 m 82 #[vr a1, vr q1, vr t1, vr u1, vi 1, vi 9, .unset, .unset, vr q1, .unset] [(.ref n1)]
  refine qi X1161.here hx hby dp62_3_82 rfl ?_
  refine qc X1161.here hx hby dp62_3_84 ?_
  refine qe X1161.here hx hby dp62_3_85 rfl ?_
  show OG p e below _ T1161 m 86 #[vr a1, vr q1, vr t1, vr u1, vi 1, vi 9, .unset, .unset, vr q1, .unset] [(.int ((9 : Int32) + (0 : Int32))), (.ref n1)]
  rw [show ((9 : Int32) + (0 : Int32)) = (9 : Int32) from by decide]
  refine qb X1161.here hx hby dp62_3_86 rfl rfl ?_
  obtain ⟨cq1162, kq1162, qa1162, qb1162, qc1162⟩ := isOf hZ e1161 PQ257
  obtain ⟨_, _, ⟨T1162, L1162, k1162, n1162⟩, -, X1162, ⟨Lc1162, hQ1162, l1162, y1162, z1162⟩, st1162⟩ := X1161.virtualBack hx (y := mn2) (z := mn2) hown (mvT hZ (ow hw 269 rfl)) (mvT hZ (ow hw 270 rfl)) (notFace_of_selects (args := #[]) (mvT hZ (ow hw 272 rfl))) (mvT hZ (ow hw 272 rfl)) (mvT hZ (ow hw 271 rfl)) (by decide) (backOf (W := 2) (rm_pt_gk l Z a0 hw [] ku0 ku1 ku2 ku3 aDef aCac aEmp aMir kDef cCac F0 q1 d1 h0 n0 O0 PQ260) hZ (ow hw 273 rfl) (ow hw 66 rfl) (by decide) (by decide)) qa1162 qc1162 (g := (mkF m 88 #[vr a1, vr q1, vr t1, vr u1, vi 1, vi 9, .unset, .unset, vr q1, .unset] [(.ref q1), (.int 9), (.ref n1)])) rfl (by rw [hml]; rfl) (Steps.refl _) (argsL := []) (rest := [(.int 9), (.ref n1)]) (lenOf pd___Lcom_example_reweave_reweave_control_Point_Kind_ rfl) rfl (by show 2 * 0 + _ ≤ _; exact Nat.le_of_eq rfl) (hb hby dp62_3_88) (fun _ _ => ⟨rfl, e1161, (by decide : 0 + 0 ≤ _), (by decide : 0 + 0 ≤ _)⟩)
  dsimp only [Pt.U, Pt.locs, Pt.cells, Pt.slots] at X1162 l1162 y1162 z1162 st1162 hQ1162
  subst l1162 y1162 z1162
  obtain ⟨rfl, Nq1162, K1162⟩ := hQ1162
  obtain ⟨L1162, X1162, N1162⟩ := pk X1162 (Fr.app N0 Nq1162)
  refine og (fun _ k => st1162.trans k) ?_
  show OG p e below _ T1162 m 91 #[vr a1, vr q1, vr t1, vr u1, vi 1, vi 9, .unset, .unset, vr q1, .unset] [(.ref d1), (.int 9), (.ref n1)]
  obtain ⟨cq1163, kq1163, qa1163, qb1163, qc1163⟩ := isOf hZ K1162 PQ266
  obtain ⟨_, _, ⟨T1163, L1163, k1163, n1163⟩, -, X1163, ⟨Lc1163, hQ1163, l1163, y1163, z1163⟩, st1163⟩ := X1162.virtualBackUp hx (x := mn7) (y := mn17) (owner := "java/lang/Enum") hown (mvT hZ (ow hw 274 rfl)) (mvT hZ (ow hw 275 rfl)) (mvT hZ (ow hw 276 rfl)) (by decide) (mvT hZ (ow hw 278 rfl)) (mvT hZ (ow hw 277 rfl)) (backOf (W := 2) (rm_ord l Z a0 hw [] ku0 ku1 ku2 ku3 aDef aCac aEmp aMir kDef cCac F0 d1 c9 h0 n0 O0 PQ267) hZ (ow hw 280 rfl) (ow hw 279 rfl) (by decide) (by decide)) qa1163 qc1163 (g := (mkF m 91 #[vr a1, vr q1, vr t1, vr u1, vi 1, vi 9, .unset, .unset, vr q1, .unset] [(.ref d1), (.int 9), (.ref n1)])) rfl (by rw [hml]; rfl) (Steps.refl _) (argsL := []) (rest := [(.int 9), (.ref n1)]) (lenOf pd___I rfl) rfl (by show 2 * 0 + _ ≤ _; exact Nat.le_of_eq rfl) (hb hby dp62_3_91) (fun _ _ => ⟨rfl, K1162, (by decide : 0 + 0 ≤ _), (by decide : 0 + 0 ≤ _)⟩)
  dsimp only [Pt.U, Pt.locs, Pt.cells, Pt.slots] at X1163 l1163 y1163 z1163 st1163 hQ1163
  subst l1163 y1163 z1163
  obtain ⟨rfl, Nq1163, K1163⟩ := hQ1163
  obtain ⟨L1163, X1163, N1163⟩ := pk X1163 (Fr.app N1162 Nq1163)
  refine og (fun _ k => st1163.trans k) ?_
  show OG p e below _ T1163 m 94 #[vr a1, vr q1, vr t1, vr u1, vi 1, vi 9, .unset, .unset, vr q1, .unset] [(.int c9), (.int 9), (.ref n1)]
  refine qc X1163.here hx hby dp62_3_94 ?_
  refine qe X1163.here hx hby dp62_3_95 rfl ?_
  obtain ⟨c1164, Ar1164, q1164, S1164, M1164, H1164, G1164⟩ := (id PQ284)
  obtain ⟨T1164, h1164, X1164, e1164, W1164, st1164⟩ := stI X1163 hx hZ K1163 Ar1164 (j := (9 : Int32)) (inb_of S1164 ⟨by decide, by decide⟩) (g := (mkF m 96 #[vr a1, vr q1, vr t1, vr u1, vi 1, vi 9, .unset, .unset, vr q1, .unset] [(.int (c9 + (1 : Int32))), (.int 9), (.ref n1)])) rfl rfl (hb hby dp62_3_96)
  have lt1166 := Nat.lt_trans PO1 PO2
  have lt1167 := Nat.lt_trans lt1166 PO3
  have le1165 : n0 ≤ n1 := Nat.le_trans PQ270 (Nat.le_of_lt lt1167)
  obtain ⟨L1164, X1164, N1164⟩ := pk X1164 (Fr.snoc X1164 N1163 le1165)
  have O1164 := O0.wr W1164 le1165
  have z1168 := Nat.le_trans (Nat.le_refl _) (Nat.le_of_eq W1164.size.symm)
  have V1164 : Arv Z h1164 n1 kn1 .int 576 [(.int hv), x1, x2, x3, x4, x5, x6, x7, x8, (.int (c9 + (1 : Int32))), (.int 0), (.int 0), (.int 0), (.int 0), (.int 0), (.int 0), (.int 0), (.int 0)] (.int 0) := Arv.set Ar1164 q1164 S1164 M1164 H1164 G1164 rfl W1164 9 (by decide) (Nat.le_of_ble_eq_true rfl)
  refine og st1164 ?_
  show OG p e below _ T1164 m 97 #[vr a1, vr q1, vr t1, vr u1, vi 1, vi 9, .unset, .unset, vr q1, .unset] []
  refine qa X1164.here hx hby dp62_3_97 rfl rfl ?_
  have F1170 := (PQ271.other W1164 (Or.inl (Nat.ne_of_lt PO3)))
  obtain ⟨T1169, X1169, e1169, st1169⟩ := getF X1164 hx hZ hown (host := "") (Or.inl (ow hw 203 rfl)) Via.refl e1164 F1170 (g := (mkF m 98 #[vr a1, vr q1, vr t1, vr u1, vi 1, vi 9, .unset, .unset, vr q1, .unset] [(.ref a1)])) rfl rfl (hb hby dp62_3_98)
  refine og st1169 ?_
  show OG p e below _ T1169 m 101 #[vr a1, vr q1, vr t1, vr u1, vi 1, vi 9, .unset, .unset, vr q1, .unset] [(.ref n1)]
  refine qi X1169.here hx hby dp62_3_101 rfl ?_
  refine qc X1169.here hx hby dp62_3_103 ?_
  refine qe X1169.here hx hby dp62_3_104 rfl ?_
  show OG p e below _ T1169 m 105 #[vr a1, vr q1, vr t1, vr u1, vi 1, vi 9, .unset, .unset, vr q1, .unset] [(.int ((9 : Int32) + (1 : Int32))), (.ref n1)]
  rw [show ((9 : Int32) + (1 : Int32)) = (10 : Int32) from by decide]
  refine qb X1169.here hx hby dp62_3_105 rfl rfl ?_
  have F1171 := (PQ257.wr W1164)
  have lt1172 := Nat.lt_trans PO2 PO3
  have F1173 := (PQ261.other W1164 (Or.inl (Nat.ne_of_lt lt1172)))
  obtain ⟨cq1174, kq1174, qa1174, qb1174, qc1174⟩ := isOf hZ e1169 F1171
  obtain ⟨_, _, ⟨T1174, L1174, k1174, n1174⟩, -, X1174, ⟨Lc1174, hQ1174, l1174, y1174, z1174⟩, st1174⟩ := X1169.virtualBack hx (y := mn5) (z := mn5) hown (mvT hZ (ow hw 283 rfl)) (mvT hZ (ow hw 284 rfl)) (notFace_of_selects (args := #[]) (mvT hZ (ow hw 286 rfl))) (mvT hZ (ow hw 286 rfl)) (mvT hZ (ow hw 285 rfl)) (by decide) (backOf (W := 2) (rm_pt_gt l Z a0 hw [] ku0 ku1 ku2 ku3 aDef aCac aEmp aMir kDef cCac F0 q1 p2 h1164 n0 O1164 F1173) hZ (ow hw 287 rfl) (ow hw 66 rfl) (by decide) (by decide)) qa1174 qc1174 (g := (mkF m 107 #[vr a1, vr q1, vr t1, vr u1, vi 1, vi 9, .unset, .unset, vr q1, .unset] [(.ref q1), (.int 10), (.ref n1)])) rfl (by rw [hml]; rfl) (Steps.refl _) (argsL := []) (rest := [(.int 10), (.ref n1)]) (lenOf pd___I rfl) rfl (by show 2 * 0 + _ ≤ _; exact Nat.le_of_eq rfl) (hb hby dp62_3_107) (fun _ _ => ⟨rfl, e1169, (by decide : 0 + 0 ≤ _), (by decide : 0 + 0 ≤ _)⟩)
  dsimp only [Pt.U, Pt.locs, Pt.cells, Pt.slots] at X1174 l1174 y1174 z1174 st1174 hQ1174
  subst l1174 y1174 z1174
  obtain ⟨rfl, Nq1174, K1174⟩ := hQ1174
  obtain ⟨L1174, X1174, N1174⟩ := pk X1174 (Fr.app N1164 Nq1174)
  refine og (fun _ k => st1174.trans k) ?_
  show OG p e below _ T1174 m 110 #[vr a1, vr q1, vr t1, vr u1, vi 1, vi 9, .unset, .unset, vr q1, .unset] [(.int p2), (.int 10), (.ref n1)]
  obtain ⟨c1175, Ar1175, q1175, S1175, M1175, H1175, G1175⟩ := (id V1164)
  obtain ⟨T1175, h1175, X1175, e1175, W1175, st1175⟩ := stI X1174 hx hZ K1174 Ar1175 (j := (10 : Int32)) (inb_of S1175 ⟨by decide, by decide⟩) (g := (mkF m 110 #[vr a1, vr q1, vr t1, vr u1, vi 1, vi 9, .unset, .unset, vr q1, .unset] [(.int p2), (.int 10), (.ref n1)])) rfl rfl (hb hby dp62_3_110)
  obtain ⟨L1175, X1175, N1175⟩ := pk X1175 (Fr.snoc X1175 N1174 le1165)
  have O1175 := O1164.wr W1175 le1165
  have z1176 := Nat.le_trans z1168 (Nat.le_of_eq W1175.size.symm)
  have V1175 : Arv Z h1175 n1 kn1 .int 576 [(.int hv), x1, x2, x3, x4, x5, x6, x7, x8, (.int (c9 + (1 : Int32))), (.int p2), (.int 0), (.int 0), (.int 0), (.int 0), (.int 0), (.int 0), (.int 0)] (.int 0) := Arv.set Ar1175 q1175 S1175 M1175 H1175 G1175 rfl W1175 10 (by decide) (Nat.le_of_ble_eq_true rfl)
  refine og st1175 ?_
  show OG p e below _ T1175 m 111 #[vr a1, vr q1, vr t1, vr u1, vi 1, vi 9, .unset, .unset, vr q1, .unset] []
  refine qa X1175.here hx hby dp62_3_111 rfl rfl ?_
  have F1178 := (F1170.other W1175 (Or.inl (Nat.ne_of_lt PO3)))
  obtain ⟨T1177, X1177, e1177, st1177⟩ := getF X1175 hx hZ hown (host := "") (Or.inl (ow hw 203 rfl)) Via.refl e1175 F1178 (g := (mkF m 112 #[vr a1, vr q1, vr t1, vr u1, vi 1, vi 9, .unset, .unset, vr q1, .unset] [(.ref a1)])) rfl rfl (hb hby dp62_3_112)
  refine og st1177 ?_
  show OG p e below _ T1177 m 115 #[vr a1, vr q1, vr t1, vr u1, vi 1, vi 9, .unset, .unset, vr q1, .unset] [(.ref n1)]
  refine qi X1177.here hx hby dp62_3_115 rfl ?_
  refine qc X1177.here hx hby dp62_3_117 ?_
  refine qe X1177.here hx hby dp62_3_118 rfl ?_
  show OG p e below _ T1177 m 119 #[vr a1, vr q1, vr t1, vr u1, vi 1, vi 9, .unset, .unset, vr q1, .unset] [(.int ((9 : Int32) + (2 : Int32))), (.ref n1)]
  rw [show ((9 : Int32) + (2 : Int32)) = (11 : Int32) from by decide]
  refine qa X1177.here hx hby dp62_3_119 rfl rfl ?_
  have kg1180 := (((Keep.refl _ [n1]).wr W1164 (om 0 rfl)).wr W1175 (om 0 rfl))
  have ni1181 := (ninS (Nat.ne_of_lt PO3) nin0)
  have F1182 := (PQ276.keep kg1180 ni1181)
  obtain ⟨T1179, X1179, e1179, st1179⟩ := getF X1177 hx hZ hown (host := "") (Or.inl (ow hw 222 rfl)) Via.refl e1177 F1182 (g := (mkF m 120 #[vr a1, vr q1, vr t1, vr u1, vi 1, vi 9, .unset, .unset, vr q1, .unset] [(.ref a1), (.int 11), (.ref n1)])) rfl rfl (hb hby dp62_3_120)
  refine og st1179 ?_
  show OG p e below _ T1179 m 123 #[vr a1, vr q1, vr t1, vr u1, vi 1, vi 9, .unset, .unset, vr q1, .unset] [(.ref s1), (.int 11), (.ref n1)]
  refine qb X1179.here hx hby dp62_3_123 rfl rfl ?_
  have F1183 := (F1171.wr W1175)
  have ni1184 := (ninS (Nat.ne_of_lt lt1172) nin0)
  have F1185 := (PQ262.keep kg1180 ni1184)
  obtain ⟨cq1186, kq1186, qa1186, qb1186, qc1186⟩ := isOf hZ e1179 F1183
  obtain ⟨_, _, ⟨T1186, L1186, k1186, n1186⟩, -, X1186, ⟨Lc1186, hQ1186, l1186, y1186, z1186⟩, st1186⟩ := X1179.virtualBack hx (y := mn3) (z := mn3) hown (mvT hZ (ow hw 288 rfl)) (mvT hZ (ow hw 289 rfl)) (notFace_of_selects (args := #[]) (mvT hZ (ow hw 291 rfl))) (mvT hZ (ow hw 291 rfl)) (mvT hZ (ow hw 290 rfl)) (by decide) (backOf (W := 3) (rm_pt_gl l Z a0 hw [] ku0 ku1 ku2 ku3 aDef aCac aEmp aMir kDef cCac F0 q1 h1175 n0 O1175 F1185) hZ (ow hw 292 rfl) (ow hw 66 rfl) (by decide) (by decide)) qa1186 qc1186 (g := (mkF m 125 #[vr a1, vr q1, vr t1, vr u1, vi 1, vi 9, .unset, .unset, vr q1, .unset] [(.ref q1), (.ref s1), (.int 11), (.ref n1)])) rfl (by rw [hml]; rfl) (Steps.refl _) (argsL := []) (rest := [(.ref s1), (.int 11), (.ref n1)]) (lenOf pd___Lcom_example_reweave_reweave_control_Location_ rfl) rfl (by show 2 * 0 + _ ≤ _; exact Nat.le_of_eq rfl) (hb hby dp62_3_125) (fun _ _ => ⟨rfl, e1179, (by decide : 0 + 0 ≤ _), (by decide : 0 + 0 ≤ _)⟩)
  dsimp only [Pt.U, Pt.locs, Pt.cells, Pt.slots] at X1186 l1186 y1186 z1186 st1186 hQ1186
  subst l1186 y1186 z1186
  obtain ⟨rfl, Nq1186, K1186⟩ := hQ1186
  obtain ⟨L1186, X1186, N1186⟩ := pk X1186 (Fr.app N1175 Nq1186)
  refine og (fun _ k => st1186.trans k) ?_
  show OG p e below _ T1186 m 128 #[vr a1, vr q1, vr t1, vr u1, vi 1, vi 9, .unset, .unset, vr q1, .unset] [.null, (.ref s1), (.int 11), (.ref n1)]
  have F1187 := (PQ288.keep kg1180)
  have lt1188 := Nat.lt_trans PO4 PO5
  have lt1189 := Nat.lt_trans lt1188 PO6
  have ni1190 := (ninS (Ne.symm (Nat.ne_of_lt lt1189)) nin0)
  have F1191 := (PQ298.keep kg1180 ni1190)
  have F1192 := (PQ299.keep kg1180 ni1190)
  have F1193 := (PQ293.keep kg1180)
  have lt1194 := Nat.lt_trans lt1189 PO7
  have ni1195 := (ninS (Ne.symm (Nat.ne_of_lt lt1194)) nin0)
  have F1196 := (PQ300.keep kg1180 ni1195)
  obtain ⟨cq1197, kq1197, qa1197, qb1197, qc1197⟩ := isOf hZ K1186 F1187
  obtain ⟨_, _, ⟨T1197, L1197, k1197, n1197⟩, -, X1197, ⟨Lc1197, hQ1197, l1197, y1197, z1197⟩, st1197⟩ := X1186.virtualBack hx (y := mn16) (z := mn16) hown (mvT hZ (ow hw 293 rfl)) (mvT hZ (ow hw 294 rfl)) (notFace_of_selects (args := #[]) (mvT hZ (ow hw 296 rfl))) (mvT hZ (ow hw 296 rfl)) (mvT hZ (ow hw 295 rfl)) (by decide) (backOf (W := 2) (rm_ixzn l Z a0 hw [] ku0 ku1 ku2 ku3 aDef aCac aEmp aMir kDef cCac F0 s1 l1 h1175 n0 O1175 F1191 F1192 F1193 F1196) hZ (ow hw 297 rfl) (ow hw 213 rfl) (by decide) (by decide)) qa1197 qc1197 (g := (mkF m 128 #[vr a1, vr q1, vr t1, vr u1, vi 1, vi 9, .unset, .unset, vr q1, .unset] [.null, (.ref s1), (.int 11), (.ref n1)])) rfl (by rw [hml]; rfl) (Steps.refl _) (argsL := [.null]) (rest := [(.int 11), (.ref n1)]) (lenOf pd_Ljava_lang_Object___I rfl) rfl (by show 2 * 0 + _ ≤ _; exact Nat.le_of_eq rfl) (hb hby dp62_3_128) (fun _ _ => ⟨rfl, K1186, (by decide : 0 + 0 ≤ _), (by decide : 0 + 0 ≤ _)⟩)
  dsimp only [Pt.U, Pt.locs, Pt.cells, Pt.slots] at X1197 l1197 y1197 z1197 st1197 hQ1197
  subst l1197 y1197 z1197
  obtain ⟨rfl, Nq1197, K1197⟩ := hQ1197
  obtain ⟨L1197, X1197, N1197⟩ := pk X1197 (Fr.app N1186 Nq1197)
  refine og (fun _ k => st1197.trans k) ?_
  show OG p e below _ T1197 m 131 #[vr a1, vr q1, vr t1, vr u1, vi 1, vi 9, .unset, .unset, vr q1, .unset] [(.int 0), (.int 11), (.ref n1)]
  obtain ⟨c1198, Ar1198, q1198, S1198, M1198, H1198, G1198⟩ := (id V1175)
  obtain ⟨T1198, h1198, X1198, e1198, W1198, st1198⟩ := stI X1197 hx hZ K1197 Ar1198 (j := (11 : Int32)) (inb_of S1198 ⟨by decide, by decide⟩) (g := (mkF m 131 #[vr a1, vr q1, vr t1, vr u1, vi 1, vi 9, .unset, .unset, vr q1, .unset] [(.int 0), (.int 11), (.ref n1)])) rfl rfl (hb hby dp62_3_131)
  obtain ⟨L1198, X1198, N1198⟩ := pk X1198 (Fr.snoc X1198 N1197 le1165)
  have O1198 := O1175.wr W1198 le1165
  have z1199 := Nat.le_trans z1176 (Nat.le_of_eq W1198.size.symm)
  have V1198 : Arv Z h1198 n1 kn1 .int 576 [(.int hv), x1, x2, x3, x4, x5, x6, x7, x8, (.int (c9 + (1 : Int32))), (.int p2), (.int 0), (.int 0), (.int 0), (.int 0), (.int 0), (.int 0), (.int 0)] (.int 0) := Arv.set Ar1198 q1198 S1198 M1198 H1198 G1198 rfl W1198 11 (by decide) (Nat.le_of_ble_eq_true rfl)
  refine og st1198 ?_
  show OG p e below _ T1198 m 132 #[vr a1, vr q1, vr t1, vr u1, vi 1, vi 9, .unset, .unset, vr q1, .unset] []
  refine qa X1198.here hx hby dp62_3_132 rfl rfl ?_
  have kg1201 := (kg1180.wr W1198 (om 0 rfl))
  have F1202 := (PQ277.keep kg1201 ni1181)
  obtain ⟨T1200, X1200, e1200, st1200⟩ := getF X1198 hx hZ hown (host := "") (Or.inl (ow hw 242 rfl)) Via.refl e1198 F1202 (g := (mkF m 133 #[vr a1, vr q1, vr t1, vr u1, vi 1, vi 9, .unset, .unset, vr q1, .unset] [(.ref a1)])) rfl rfl (hb hby dp62_3_133)
  refine og st1200 ?_
  show OG p e below _ T1200 m 136 #[vr a1, vr q1, vr t1, vr u1, vi 1, vi 9, .unset, .unset, vr q1, .unset] [(.ref s2)]
  refine qb X1200.here hx hby dp62_3_136 rfl rfl ?_
  have F1203 := (F1183.wr W1198)
  have F1204 := (PQ263.keep kg1201 ni1184)
  obtain ⟨cq1205, kq1205, qa1205, qb1205, qc1205⟩ := isOf hZ e1200 F1203
  obtain ⟨_, _, ⟨T1205, L1205, k1205, n1205⟩, -, X1205, ⟨Lc1205, hQ1205, l1205, y1205, z1205⟩, st1205⟩ := X1200.virtualBack hx (y := mn4) (z := mn4) hown (mvT hZ (ow hw 319 rfl)) (mvT hZ (ow hw 320 rfl)) (notFace_of_selects (args := #[]) (mvT hZ (ow hw 322 rfl))) (mvT hZ (ow hw 322 rfl)) (mvT hZ (ow hw 321 rfl)) (by decide) (backOf (W := 1) (rm_pt_gr l Z a0 hw [] ku0 ku1 ku2 ku3 aDef aCac aEmp aMir kDef cCac F0 q1 ru h1198 n0 O1198 F1204) hZ (ow hw 323 rfl) (ow hw 66 rfl) (by decide) (by decide)) qa1205 qc1205 (g := (mkF m 138 #[vr a1, vr q1, vr t1, vr u1, vi 1, vi 9, .unset, .unset, vr q1, .unset] [(.ref q1), (.ref s2)])) rfl (by rw [hml]; rfl) (Steps.refl _) (argsL := []) (rest := [(.ref s2)]) (lenOf pd___Ljava_util_List_ rfl) rfl (by show 2 * 0 + _ ≤ _; exact Nat.le_of_eq rfl) (hb hby dp62_3_138) (fun _ _ => ⟨rfl, e1200, (by decide : 0 + 0 ≤ _), (by decide : 0 + 0 ≤ _)⟩)
  dsimp only [Pt.U, Pt.locs, Pt.cells, Pt.slots] at X1205 l1205 y1205 z1205 st1205 hQ1205
  subst l1205 y1205 z1205
  obtain ⟨rfl, Nq1205, K1205⟩ := hQ1205
  obtain ⟨L1205, X1205, N1205⟩ := pk X1205 (Fr.app N1198 Nq1205)
  refine og (fun _ k => st1205.trans k) ?_
  show OG p e below _ T1205 m 141 #[vr a1, vr q1, vr t1, vr u1, vi 1, vi 9, .unset, .unset, vr q1, .unset] [(.ref ru), (.ref s2)]
  have F1206 := (PQ289.keep kg1201)
  have lt1207 := Nat.lt_trans lt1194 PO8
  have ni1208 := (ninS (Ne.symm (Nat.ne_of_lt lt1207)) nin0)
  have F1209 := (PQ301.keep kg1201 ni1208)
  have F1210 := (PQ302.keep kg1201 ni1208)
  have F1211 := (PQ294.keep kg1201)
  have le1212 : n0 ≤ s2 := Nat.le_trans le1165 (Nat.le_of_lt lt1207)
  have lt1213 := Nat.lt_trans lt1207 PO9
  have ni1214 := (ninS (Ne.symm (Nat.ne_of_lt lt1213)) nin0)
  have F1215 := (PQ303.keep kg1201 ni1214)
  have F1216 := (PQ304.keep kg1201 ni1214)
  have F1217 := (PQ305.keep kg1201 ni1214)
  have lt1218 := Nat.lt_trans lt1213 PO10
  have lt1219 := Nat.lt_trans lt1218 PO11
  have lt1220 := Nat.lt_trans lt1219 PO12
  have lt1221 := Nat.lt_trans lt1220 PO13
  have lt1222 := Nat.lt_trans lt1221 PO14
  have lt1223 := Nat.lt_trans lt1222 PO15
  have lt1224 := Nat.lt_trans lt1223 PO16
  have ni1225 := (ninS (Ne.symm (Nat.ne_of_lt lt1224)) nin0)
  have F1226 := (PQ318.keep kg1201 ni1225)
  have F1227 := (PQ317.keep kg1201)
  have F1228 := (PQ265.keep kg1201)
  have lt1229 := Nat.lt_trans PO10 PO11
  have lt1230 := Nat.lt_trans lt1229 PO12
  have lt1231 := Nat.lt_trans lt1230 PO13
  have lt1232 := Nat.lt_trans lt1231 PO14
  have lt1233 := Nat.lt_trans lt1232 PO15
  have lt1234 := Nat.lt_trans lt1233 PO16
  obtain ⟨cq1235, kq1235, qa1235, qb1235, qc1235⟩ := isOf hZ K1205 F1206
  obtain ⟨_, _, ⟨T1235, L1235, k1235, n1235⟩, -, X1235, ⟨Lc1235, hQ1235, l1235, y1235, z1235⟩, st1235⟩ := X1205.virtualBack hx (y := mn16) (z := mn16) hown (mvT hZ (ow hw 293 rfl)) (mvT hZ (ow hw 294 rfl)) (notFace_of_selects (args := #[]) (mvT hZ (ow hw 296 rfl))) (mvT hZ (ow hw 296 rfl)) (mvT hZ (ow hw 295 rfl)) (by decide) (backOf (W := 0) (rm_ixsr l Z a0 hw [] ku0 ku1 ku2 ku3 aDef aCac aEmp aMir kDef cCac F0 s2 l2 ru "java/util/ImmutableCollections$List12" rv g2 kg2 (.ref rv) mc2 h1198 n0 O1198 F1209 F1210 F1211 F1206 le1212 hn2 F1215 F1216 F1217 F1226 PQ319 F1227 F1228 (ow hw 324 rfl) PO9 lt1234) hZ (ow hw 297 rfl) (ow hw 213 rfl) (by decide) (by decide)) qa1235 qc1235 (g := (mkF m 141 #[vr a1, vr q1, vr t1, vr u1, vi 1, vi 9, .unset, .unset, vr q1, .unset] [(.ref ru), (.ref s2)])) rfl (by rw [hml]; rfl) (Steps.refl _) (argsL := [(.ref ru)]) (rest := []) (lenOf pd_Ljava_lang_Object___I rfl) rfl (by show 2 * 0 + _ ≤ _; exact Nat.le_of_eq rfl) (hb hby dp62_3_141) (fun _ _ => ⟨rfl, K1205, (by decide : 0 + 0 ≤ _), (by decide : 0 + 0 ≤ _)⟩)
  dsimp only [Pt.U, Pt.locs, Pt.cells, Pt.slots] at X1235 l1235 y1235 z1235 st1235 hQ1235
  subst l1235 y1235 z1235
  obtain ⟨rfl, Nq1235, K1235, x1235_0, x1235_1, x1235_2, x1235_3, x1235_4, x1235_5⟩ := hQ1235
  obtain ⟨L1235, X1235, N1235⟩ := pk X1235 (Fr.app N1205 Nq1235)
  have lt1237 := Nat.lt_trans PO9 PO10
  have lt1238 := Nat.lt_trans lt1237 PO11
  have lt1239 := Nat.lt_trans lt1238 PO12
  have lt1240 := Nat.lt_trans lt1239 PO13
  have lt1241 := Nat.lt_trans lt1240 PO14
  have lt1242 := Nat.lt_trans lt1241 PO15
  have lt1243 := Nat.lt_trans lt1242 PO16
  have le1236 : n0 ≤ g2 := Nat.le_trans le1212 (Nat.le_of_lt lt1243)
  have le1244 : n0 ≤ l2 := Nat.le_trans le1212 (Nat.le_of_lt PO9)
  have O1235 := O1198.keep K1235 (allS le1212 (allS le1244 (allS le1236 all0)))
  have e1235 : T1235.heap = T1235.heap := rfl
  have z1245 := Nat.le_trans z1199 K1235.1
  refine og (fun _ k => st1235.trans k) ?_
  show OG p e below _ T1235 m 144 #[vr a1, vr q1, vr t1, vr u1, vi 1, vi 9, .unset, .unset, vr q1, .unset] [(.int 1)]
  refine og (fun _ k => XS.istore X1235.here hx rfl (hb hby dp62_3_144) rfl (l' := #[vr a1, vr q1, vr t1, vr u1, vi 1, vi 9, vi 1, .unset, vr q1, .unset]) rfl k) ?_
  refine qa X1235.here hx hby dp62_3_146 rfl rfl ?_
  have kg1247 := (((((Keep.refl _ [n1, s2, l2, g2]).wr W1164 (om 0 rfl)).wr W1175 (om 0 rfl)).wr W1198 (om 0 rfl)).trans K1235 (aS (om 1 rfl) (aS (om 2 rfl) (aS (om 3 rfl) all0))))
  have lt1248 := Nat.lt_trans PO3 PO4
  have lt1249 := Nat.lt_trans lt1248 PO5
  have lt1250 := Nat.lt_trans lt1249 PO6
  have lt1251 := Nat.lt_trans lt1250 PO7
  have lt1252 := Nat.lt_trans lt1251 PO8
  have lt1253 := Nat.lt_trans lt1252 PO9
  have lt1254 := Nat.lt_trans lt1253 PO10
  have lt1255 := Nat.lt_trans lt1254 PO11
  have lt1256 := Nat.lt_trans lt1255 PO12
  have lt1257 := Nat.lt_trans lt1256 PO13
  have lt1258 := Nat.lt_trans lt1257 PO14
  have lt1259 := Nat.lt_trans lt1258 PO15
  have lt1260 := Nat.lt_trans lt1259 PO16
  have ni1261 := (ninS (Nat.ne_of_lt PO3) (ninS (Nat.ne_of_lt lt1252) (ninS (Nat.ne_of_lt lt1253) (ninS (Nat.ne_of_lt lt1260) nin0))))
  have F1262 := (PQ278.keep kg1247 ni1261)
  obtain ⟨T1246, X1246, e1246, st1246⟩ := getF X1235 hx hZ hown (host := "") (Or.inl (ow hw 244 rfl)) Via.refl e1235 F1262 (g := (mkF m 147 #[vr a1, vr q1, vr t1, vr u1, vi 1, vi 9, vi 1, .unset, vr q1, .unset] [(.ref a1)])) rfl rfl (hb hby dp62_3_147)
  refine og st1246 ?_
  show OG p e below _ T1246 m 150 #[vr a1, vr q1, vr t1, vr u1, vi 1, vi 9, vi 1, .unset, vr q1, .unset] [(.ref s3)]
  refine qb X1246.here hx hby dp62_3_150 rfl rfl ?_
  have F1263 := (F1203.keep K1235)
  have lt1264 := Nat.lt_trans lt1172 PO4
  have lt1265 := Nat.lt_trans lt1264 PO5
  have lt1266 := Nat.lt_trans lt1265 PO6
  have lt1267 := Nat.lt_trans lt1266 PO7
  have lt1268 := Nat.lt_trans lt1267 PO8
  have lt1269 := Nat.lt_trans lt1268 PO9
  have lt1270 := Nat.lt_trans lt1269 PO10
  have lt1271 := Nat.lt_trans lt1270 PO11
  have lt1272 := Nat.lt_trans lt1271 PO12
  have lt1273 := Nat.lt_trans lt1272 PO13
  have lt1274 := Nat.lt_trans lt1273 PO14
  have lt1275 := Nat.lt_trans lt1274 PO15
  have lt1276 := Nat.lt_trans lt1275 PO16
  have ni1277 := (ninS (Nat.ne_of_lt lt1172) (ninS (Nat.ne_of_lt lt1268) (ninS (Nat.ne_of_lt lt1269) (ninS (Nat.ne_of_lt lt1276) nin0))))
  have F1278 := (PQ264.keep kg1247 ni1277)
  obtain ⟨cq1279, kq1279, qa1279, qb1279, qc1279⟩ := isOf hZ e1246 F1263
  obtain ⟨_, _, ⟨T1279, L1279, k1279, n1279⟩, -, X1279, ⟨Lc1279, hQ1279, l1279, y1279, z1279⟩, st1279⟩ := X1246.virtualBack hx (y := mn6) (z := mn6) hown (mvT hZ (ow hw 325 rfl)) (mvT hZ (ow hw 326 rfl)) (notFace_of_selects (args := #[]) (mvT hZ (ow hw 328 rfl))) (mvT hZ (ow hw 328 rfl)) (mvT hZ (ow hw 327 rfl)) (by decide) (backOf (W := 1) (rm_pt_go_ l Z a0 hw [] ku0 ku1 ku2 ku3 aDef aCac aEmp aMir kDef cCac F0 q1 aEmp T1235.heap n0 O1235 F1278) hZ (ow hw 329 rfl) (ow hw 66 rfl) (by decide) (by decide)) qa1279 qc1279 (g := (mkF m 152 #[vr a1, vr q1, vr t1, vr u1, vi 1, vi 9, vi 1, .unset, vr q1, .unset] [(.ref q1), (.ref s3)])) rfl (by rw [hml]; rfl) (Steps.refl _) (argsL := []) (rest := [(.ref s3)]) (lenOf pd___Ljava_util_List_ rfl) rfl (by show 2 * 0 + _ ≤ _; exact Nat.le_of_eq rfl) (hb hby dp62_3_152) (fun _ _ => ⟨rfl, e1246, (by decide : 0 + 0 ≤ _), (by decide : 0 + 0 ≤ _)⟩)
  dsimp only [Pt.U, Pt.locs, Pt.cells, Pt.slots] at X1279 l1279 y1279 z1279 st1279 hQ1279
  subst l1279 y1279 z1279
  obtain ⟨rfl, Nq1279, K1279⟩ := hQ1279
  obtain ⟨L1279, X1279, N1279⟩ := pk X1279 (Fr.app N1235 Nq1279)
  refine og (fun _ k => st1279.trans k) ?_
  show OG p e below _ T1279 m 155 #[vr a1, vr q1, vr t1, vr u1, vi 1, vi 9, vi 1, .unset, vr q1, .unset] [(.ref aEmp), (.ref s3)]
  have F1280 := (PQ290.keep kg1247)
  have lt1281 := Nat.lt_trans PO11 PO12
  have lt1282 := Nat.lt_trans lt1281 PO13
  have lt1283 := Nat.lt_trans lt1282 PO14
  have lt1284 := Nat.lt_trans lt1283 PO15
  have lt1285 := Nat.lt_trans lt1284 PO16
  have ni1286 := (ninS (Ne.symm (Nat.ne_of_lt lt1218)) (ninS (Ne.symm (Nat.ne_of_lt lt1237)) (ninS (Ne.symm (Nat.ne_of_lt PO10)) (ninS (Nat.ne_of_lt lt1285) nin0))))
  have F1287 := (PQ306.keep kg1247 ni1286)
  have F1288 := (PQ307.keep kg1247 ni1286)
  have F1289 := (PQ295.keep kg1247)
  have lt1290 := Nat.lt_trans PO12 PO13
  have lt1291 := Nat.lt_trans lt1290 PO14
  have lt1292 := Nat.lt_trans lt1291 PO15
  have lt1293 := Nat.lt_trans lt1292 PO16
  have ni1294 := (ninS (Ne.symm (Nat.ne_of_lt lt1219)) (ninS (Ne.symm (Nat.ne_of_lt lt1238)) (ninS (Ne.symm (Nat.ne_of_lt lt1229)) (ninS (Nat.ne_of_lt lt1293) nin0))))
  have F1295 := (PQ308.keep kg1247 ni1294)
  obtain ⟨cq1296, kq1296, qa1296, qb1296, qc1296⟩ := isOf hZ K1279 F1280
  obtain ⟨_, _, ⟨T1296, L1296, k1296, n1296⟩, -, X1296, ⟨Lc1296, hQ1296, l1296, y1296, z1296⟩, st1296⟩ := X1279.virtualBack hx (y := mn16) (z := mn16) hown (mvT hZ (ow hw 293 rfl)) (mvT hZ (ow hw 294 rfl)) (notFace_of_selects (args := #[]) (mvT hZ (ow hw 296 rfl))) (mvT hZ (ow hw 296 rfl)) (mvT hZ (ow hw 295 rfl)) (by decide) (backOf (W := 0) (rm_ixzr l Z a0 hw [] ku0 ku1 ku2 ku3 aDef aCac aEmp aMir kDef cCac F0 s3 l3 aEmp T1235.heap n0 O1235 F1287 F1288 F1289 F1295) hZ (ow hw 297 rfl) (ow hw 213 rfl) (by decide) (by decide)) qa1296 qc1296 (g := (mkF m 155 #[vr a1, vr q1, vr t1, vr u1, vi 1, vi 9, vi 1, .unset, vr q1, .unset] [(.ref aEmp), (.ref s3)])) rfl (by rw [hml]; rfl) (Steps.refl _) (argsL := [(.ref aEmp)]) (rest := []) (lenOf pd_Ljava_lang_Object___I rfl) rfl (by show 2 * 0 + _ ≤ _; exact Nat.le_of_eq rfl) (hb hby dp62_3_155) (fun _ _ => ⟨rfl, K1279, (by decide : 0 + 0 ≤ _), (by decide : 0 + 0 ≤ _)⟩)
  dsimp only [Pt.U, Pt.locs, Pt.cells, Pt.slots] at X1296 l1296 y1296 z1296 st1296 hQ1296
  subst l1296 y1296 z1296
  obtain ⟨rfl, Nq1296, K1296⟩ := hQ1296
  obtain ⟨L1296, X1296, N1296⟩ := pk X1296 (Fr.app N1279 Nq1296)
  refine og (fun _ k => st1296.trans k) ?_
  show OG p e below _ T1296 m 158 #[vr a1, vr q1, vr t1, vr u1, vi 1, vi 9, vi 1, .unset, vr q1, .unset] [(.int 0)]
  refine og (fun _ k => XS.istore X1296.here hx rfl (hb hby dp62_3_158) rfl (l' := #[vr a1, vr q1, vr t1, vr u1, vi 1, vi 9, vi 1, vi 0, vr q1, .unset]) rfl k) ?_
  refine og (fun _ k => XS.goto X1296.here hx rfl (pc0 := 160) (pc' := 244) rfl (hb hby dp62_3_160) (by decide) (by decide) k) ?_
  refine qa X1296.here hx hby dp62_3_244 rfl rfl ?_
  have kg1298 := (((Keep.refl _ [n1, s2, l2, g2]).wr W1198 (om 0 rfl)).trans K1235 (aS (om 1 rfl) (aS (om 2 rfl) (aS (om 3 rfl) all0))))
  have F1299 := (F1178.keep kg1298 ni1261)
  obtain ⟨T1297, X1297, e1297, st1297⟩ := getF X1296 hx hZ hown (host := "") (Or.inl (ow hw 203 rfl)) Via.refl K1296 F1299 (g := (mkF m 245 #[vr a1, vr q1, vr t1, vr u1, vi 1, vi 9, vi 1, vi 0, vr q1, .unset] [(.ref a1)])) rfl rfl (hb hby dp62_3_245)
  refine og st1297 ?_
  show OG p e below _ T1297 m 248 #[vr a1, vr q1, vr t1, vr u1, vi 1, vi 9, vi 1, vi 0, vr q1, .unset] [(.ref n1)]
  refine qi X1297.here hx hby dp62_3_248 rfl ?_
  refine qc X1297.here hx hby dp62_3_250 ?_
  refine qe X1297.here hx hby dp62_3_251 rfl ?_
  show OG p e below _ T1297 m 252 #[vr a1, vr q1, vr t1, vr u1, vi 1, vi 9, vi 1, vi 0, vr q1, .unset] [(.int ((9 : Int32) + (3 : Int32))), (.ref n1)]
  rw [show ((9 : Int32) + (3 : Int32)) = (12 : Int32) from by decide]
  refine qa X1297.here hx hby dp62_3_252 rfl rfl ?_
  refine qi X1297.here hx hby dp62_3_253 rfl ?_
  refine qi X1297.here hx hby dp62_3_255 rfl ?_
  refine qa X1297.here hx hby dp62_3_257 rfl rfl ?_
  have F1301 := (PQ279.keep kg1247 ni1261)
  obtain ⟨T1300, X1300, e1300, st1300⟩ := getF X1297 hx hZ hown (host := "") (Or.inl (ow hw 246 rfl)) Via.refl e1297 F1301 (g := (mkF m 258 #[vr a1, vr q1, vr t1, vr u1, vi 1, vi 9, vi 1, vi 0, vr q1, .unset] [(.ref a1), (.int 0), (.int 1), (.ref a1), (.int 12), (.ref n1)])) rfl rfl (hb hby dp62_3_258)
  refine og st1300 ?_
  show OG p e below _ T1300 m 261 #[vr a1, vr q1, vr t1, vr u1, vi 1, vi 9, vi 1, vi 0, vr q1, .unset] [(.ref s4), (.int 0), (.int 1), (.ref a1), (.int 12), (.ref n1)]
  refine qa X1300.here hx hby dp62_3_261 rfl rfl ?_
  have F1302 := (PQ291.keep kg1247)
  have lt1303 := Nat.lt_trans PO13 PO14
  have lt1304 := Nat.lt_trans lt1303 PO15
  have lt1305 := Nat.lt_trans lt1304 PO16
  have ni1306 := (ninS (Ne.symm (Nat.ne_of_lt lt1220)) (ninS (Ne.symm (Nat.ne_of_lt lt1239)) (ninS (Ne.symm (Nat.ne_of_lt lt1230)) (ninS (Nat.ne_of_lt lt1305) nin0))))
  have F1307 := (PQ309.keep kg1247 ni1306)
  have F1308 := (PQ310.keep kg1247 ni1306)
  have F1309 := (PQ296.keep kg1247)
  have lt1310 := Nat.lt_trans PO14 PO15
  have lt1311 := Nat.lt_trans lt1310 PO16
  have ni1312 := (ninS (Ne.symm (Nat.ne_of_lt lt1221)) (ninS (Ne.symm (Nat.ne_of_lt lt1240)) (ninS (Ne.symm (Nat.ne_of_lt lt1231)) (ninS (Nat.ne_of_lt lt1311) nin0))))
  have F1313 := (PQ311.keep kg1247 ni1312)
  obtain ⟨cq1314, kq1314, qa1314, qb1314, qc1314⟩ := isOf hZ e1300 F1302
  obtain ⟨_, _, ⟨T1314, L1314, k1314, n1314⟩, -, X1314, ⟨Lc1314, hQ1314, l1314, y1314, z1314⟩, st1314⟩ := X1300.virtualBack hx (y := mn16) (z := mn16) hown (mvT hZ (ow hw 293 rfl)) (mvT hZ (ow hw 294 rfl)) (notFace_of_selects (args := #[]) (mvT hZ (ow hw 296 rfl))) (mvT hZ (ow hw 296 rfl)) (mvT hZ (ow hw 295 rfl)) (by decide) (backOf (W := 5) (rm_ixzr l Z a0 hw [] ku0 ku1 ku2 ku3 aDef aCac aEmp aMir kDef cCac F0 s4 l4 t1 T1235.heap n0 O1235 F1307 F1308 F1309 F1313) hZ (ow hw 297 rfl) (ow hw 213 rfl) (by decide) (by decide)) qa1314 qc1314 (g := (mkF m 262 #[vr a1, vr q1, vr t1, vr u1, vi 1, vi 9, vi 1, vi 0, vr q1, .unset] [(.ref t1), (.ref s4), (.int 0), (.int 1), (.ref a1), (.int 12), (.ref n1)])) rfl (by rw [hml]; rfl) (Steps.refl _) (argsL := [(.ref t1)]) (rest := [(.int 0), (.int 1), (.ref a1), (.int 12), (.ref n1)]) (lenOf pd_Ljava_lang_Object___I rfl) rfl (by show 2 * 0 + _ ≤ _; exact Nat.le_of_eq rfl) (hb hby dp62_3_262) (fun _ _ => ⟨rfl, e1300, (by decide : 0 + 0 ≤ _), (by decide : 0 + 0 ≤ _)⟩)
  dsimp only [Pt.U, Pt.locs, Pt.cells, Pt.slots] at X1314 l1314 y1314 z1314 st1314 hQ1314
  subst l1314 y1314 z1314
  obtain ⟨rfl, Nq1314, K1314⟩ := hQ1314
  obtain ⟨L1314, X1314, N1314⟩ := pk X1314 (Fr.app N1296 Nq1314)
  refine og (fun _ k => st1314.trans k) ?_
  show OG p e below _ T1314 m 265 #[vr a1, vr q1, vr t1, vr u1, vi 1, vi 9, vi 1, vi 0, vr q1, .unset] [(.int 0), (.int 0), (.int 1), (.ref a1), (.int 12), (.ref n1)]
  refine qa X1314.here hx hby dp62_3_265 rfl rfl ?_
  have F1316 := (PQ280.keep kg1247 ni1261)
  obtain ⟨T1315, X1315, e1315, st1315⟩ := getF X1314 hx hZ hown (host := "") (Or.inl (ow hw 248 rfl)) Via.refl K1314 F1316 (g := (mkF m 266 #[vr a1, vr q1, vr t1, vr u1, vi 1, vi 9, vi 1, vi 0, vr q1, .unset] [(.ref a1), (.int 0), (.int 0), (.int 1), (.ref a1), (.int 12), (.ref n1)])) rfl rfl (hb hby dp62_3_266)
  refine og st1315 ?_
  show OG p e below _ T1315 m 269 #[vr a1, vr q1, vr t1, vr u1, vi 1, vi 9, vi 1, vi 0, vr q1, .unset] [(.ref s5), (.int 0), (.int 0), (.int 1), (.ref a1), (.int 12), (.ref n1)]
  refine qa X1315.here hx hby dp62_3_269 rfl rfl ?_
  have F1317 := (PQ292.keep kg1247)
  have lt1318 := Nat.lt_trans PO15 PO16
  have ni1319 := (ninS (Ne.symm (Nat.ne_of_lt lt1222)) (ninS (Ne.symm (Nat.ne_of_lt lt1241)) (ninS (Ne.symm (Nat.ne_of_lt lt1232)) (ninS (Nat.ne_of_lt lt1318) nin0))))
  have F1320 := (PQ312.keep kg1247 ni1319)
  have F1321 := (PQ313.keep kg1247 ni1319)
  have F1322 := (PQ297.keep kg1247)
  have le1323 : n0 ≤ s5 := Nat.le_trans le1244 (Nat.le_of_lt lt1232)
  have ni1324 := (ninS (Ne.symm (Nat.ne_of_lt lt1223)) (ninS (Ne.symm (Nat.ne_of_lt lt1242)) (ninS (Ne.symm (Nat.ne_of_lt lt1233)) (ninS (Nat.ne_of_lt PO16) nin0))))
  have F1325 := (PQ314.keep kg1247 ni1324)
  have F1326 := (PQ315.keep kg1247 ni1324)
  have F1327 := (PQ316.keep kg1247 ni1324)
  have lt1328 := Nat.lt_trans lt1234 PO17
  have lt1329 := Nat.lt_trans lt1243 PO17
  have lt1330 := Nat.lt_trans lt1224 PO17
  have ni1331 := (ninS (Ne.symm (Nat.ne_of_lt lt1330)) (ninS (Ne.symm (Nat.ne_of_lt lt1329)) (ninS (Ne.symm (Nat.ne_of_lt lt1328)) (ninS (Ne.symm (Nat.ne_of_lt PO17)) nin0))))
  have F1332 := (PQ321.keep kg1247 ni1331)
  have F1333 := (PQ320.keep kg1247)
  have F1334 := (PQ259.keep kg1247)
  have lt1335 := Nat.lt_trans PO16 PO17
  obtain ⟨cq1336, kq1336, qa1336, qb1336, qc1336⟩ := isOf hZ e1315 F1317
  obtain ⟨_, _, ⟨T1336, L1336, k1336, n1336⟩, -, X1336, ⟨Lc1336, hQ1336, l1336, y1336, z1336⟩, st1336⟩ := X1315.virtualBack hx (y := mn16) (z := mn16) hown (mvT hZ (ow hw 293 rfl)) (mvT hZ (ow hw 294 rfl)) (notFace_of_selects (args := #[]) (mvT hZ (ow hw 296 rfl))) (mvT hZ (ow hw 296 rfl)) (mvT hZ (ow hw 295 rfl)) (by decide) (backOf (W := 6) (rm_ixsr l Z a0 hw [] ku0 ku1 ku2 ku3 aDef aCac aEmp aMir kDef cCac F0 s5 l5 u1 "java/util/ArrayList" u0 g5 kg5 (.ref u0) mc5 T1235.heap n0 O1235 F1320 F1321 F1322 F1317 le1323 hn5 F1325 F1326 F1327 F1332 PQ322 F1333 F1334 (ow hw 331 rfl) PO15 lt1335) hZ (ow hw 297 rfl) (ow hw 213 rfl) (by decide) (by decide)) qa1336 qc1336 (g := (mkF m 270 #[vr a1, vr q1, vr t1, vr u1, vi 1, vi 9, vi 1, vi 0, vr q1, .unset] [(.ref u1), (.ref s5), (.int 0), (.int 0), (.int 1), (.ref a1), (.int 12), (.ref n1)])) rfl (by rw [hml]; rfl) (Steps.refl _) (argsL := [(.ref u1)]) (rest := [(.int 0), (.int 0), (.int 1), (.ref a1), (.int 12), (.ref n1)]) (lenOf pd_Ljava_lang_Object___I rfl) rfl (by show 2 * 0 + _ ≤ _; exact Nat.le_of_eq rfl) (hb hby dp62_3_270) (fun _ _ => ⟨rfl, e1315, (by decide : 0 + 0 ≤ _), (by decide : 0 + 0 ≤ _)⟩)
  dsimp only [Pt.U, Pt.locs, Pt.cells, Pt.slots] at X1336 l1336 y1336 z1336 st1336 hQ1336
  subst l1336 y1336 z1336
  obtain ⟨rfl, Nq1336, K1336, x1336_0, x1336_1, x1336_2, x1336_3, x1336_4, x1336_5⟩ := hQ1336
  obtain ⟨L1336, X1336, N1336⟩ := pk X1336 (Fr.app N1314 Nq1336)
  have le1337 : n0 ≤ g5 := Nat.le_trans le1236 (Nat.le_of_lt PO17)
  have le1338 : n0 ≤ l5 := Nat.le_trans le1323 (Nat.le_of_lt PO15)
  have O1336 := O1235.keep K1336 (allS le1323 (allS le1338 (allS le1337 all0)))
  have e1336 : T1336.heap = T1336.heap := rfl
  have z1339 := Nat.le_trans z1245 K1336.1
  refine og (fun _ k => st1336.trans k) ?_
  show OG p e below _ T1336 m 273 #[vr a1, vr q1, vr t1, vr u1, vi 1, vi 9, vi 1, vi 0, vr q1, .unset] [(.int 1), (.int 0), (.int 0), (.int 1), (.ref a1), (.int 12), (.ref n1)]
  have kg1340 := ((((((Keep.refl _ [n1, s2, l2, g2, s5, l5, g5]).wr W1164 (om 0 rfl)).wr W1175 (om 0 rfl)).wr W1198 (om 0 rfl)).trans K1235 (aS (om 1 rfl) (aS (om 2 rfl) (aS (om 3 rfl) all0)))).trans K1336 (aS (om 4 rfl) (aS (om 5 rfl) (aS (om 6 rfl) all0))))
  have F1341 := (PQ256.keep kg1340)
  have le1342 : n0 ≤ a1 := Nat.le_trans PQ270 (Nat.le_of_lt lt1166)
  have F1343 := (PQ283.keep kg1340)
  have lt1344 := Nat.lt_trans PO6 PO7
  have lt1345 := Nat.lt_trans lt1344 PO8
  have lt1346 := Nat.lt_trans lt1345 PO9
  have lt1347 := Nat.lt_trans lt1346 PO10
  have lt1348 := Nat.lt_trans lt1347 PO11
  have lt1349 := Nat.lt_trans lt1348 PO12
  have lt1350 := Nat.lt_trans lt1349 PO13
  have lt1351 := Nat.lt_trans lt1350 PO14
  have lt1352 := Nat.lt_trans lt1351 PO15
  have lt1353 := Nat.lt_trans lt1352 PO16
  have lt1354 := Nat.lt_trans lt1353 PO17
  have ni1355 := (ninS (Ne.symm (Nat.ne_of_lt lt1188)) (ninS (Nat.ne_of_lt lt1345) (ninS (Nat.ne_of_lt lt1346) (ninS (Nat.ne_of_lt lt1353) (ninS (Nat.ne_of_lt lt1351) (ninS (Nat.ne_of_lt lt1352) (ninS (Nat.ne_of_lt lt1354) nin0)))))))
  have F1356 := (PQ286.keep kg1340 ni1355)
  have lt1357 := Nat.lt_trans lt1260 PO17
  have ni1358 := (ninS (Nat.ne_of_lt lt1258) (ninS (Nat.ne_of_lt lt1259) (ninS (Nat.ne_of_lt lt1357) nin0)))
  have F1359 := (F1299.keep K1336 ni1358)
  have ni1360 := (ninS (Nat.ne_of_lt PO3) (ninS (Nat.ne_of_lt lt1252) (ninS (Nat.ne_of_lt lt1253) (ninS (Nat.ne_of_lt lt1260) (ninS (Nat.ne_of_lt lt1258) (ninS (Nat.ne_of_lt lt1259) (ninS (Nat.ne_of_lt lt1357) nin0)))))))
  have F1361 := (PQ272.keep kg1340 ni1360)
  have F1362 := (PQ273.keep kg1340 ni1360)
  have kg1363 := ((((Keep.refl _ [n1, s2, l2, g2, s5, l5, g5]).wr W1198 (om 0 rfl)).trans K1235 (aS (om 1 rfl) (aS (om 2 rfl) (aS (om 3 rfl) all0)))).trans K1336 (aS (om 4 rfl) (aS (om 5 rfl) (aS (om 6 rfl) all0))))
  have F1364 := (F1182.keep kg1363 ni1360)
  have kg1365 := (((Keep.refl _ [s2, l2, g2, s5, l5, g5]).trans K1235 (aS (om 0 rfl) (aS (om 1 rfl) (aS (om 2 rfl) all0)))).trans K1336 (aS (om 3 rfl) (aS (om 4 rfl) (aS (om 5 rfl) all0))))
  have ni1366 := (ninS (Nat.ne_of_lt lt1252) (ninS (Nat.ne_of_lt lt1253) (ninS (Nat.ne_of_lt lt1260) (ninS (Nat.ne_of_lt lt1258) (ninS (Nat.ne_of_lt lt1259) (ninS (Nat.ne_of_lt lt1357) nin0))))))
  have F1367 := (F1202.keep kg1365 ni1366)
  have F1368 := (F1262.keep K1336 ni1358)
  have F1369 := (F1301.keep K1336 ni1358)
  have F1370 := (F1316.keep K1336 ni1358)
  have F1371 := (PQ274.keep kg1340 ni1360)
  have F1372 := (PQ275.keep kg1340 ni1360)
  obtain ⟨cl1373, hcl1373, hob1373⟩ := F1341.cell
  obtain ⟨_, _, ⟨T1373, L1373, k1373, n1373⟩, -, X1373, ⟨Lc1373, hQ1373, l1373, y1373, z1373⟩, st1373⟩ := X1336.privateBack hx (y := mn11) hown (mvT hZ (ow hw 332 rfl)) (mvT hZ (ow hw 333 rfl)) (own_selp hZ (ow hw 196 rfl) (ow hw 334 rfl) (ow hw 333 rfl) (by decide)) (Cond.privateMethod_at (mvP hZ (ow hw 334 rfl) (args := #[]))) (mvT hZ (ow hw 335 rfl)) (by decide) (backOf (W := 2) (rm_lr1 l Z a0 hw [] ku0 ku1 ku2 ku3 aDef aCac aEmp aMir kDef cCac F0 a1 n1 m1 o1 s1 s2 s3 s4 s5 kl1 T1336.heap n0 O1336 F1341 le1342 F1343 F1356 F1359 F1361 F1362 F1364 F1367 F1368 F1369 F1370 F1371 F1372 lt1249) hZ (ow hw 335 rfl) (ow hw 197 rfl) (by decide) (by decide)) (g := (mkF m 273 #[vr a1, vr q1, vr t1, vr u1, vi 1, vi 9, vi 1, vi 0, vr q1, .unset] [(.int 1), (.int 0), (.int 0), (.int 1), (.ref a1), (.int 12), (.ref n1)])) rfl (by rw [hml]; rfl) (Steps.refl _) (a := a1) (by rw [e1336]; exact hcl1373) hob1373 (argsL := [(.int 1), (.int 0), (.int 0), (.int 1)]) (rest := [(.int 12), (.ref n1)]) (lenOf pd_I_I_I_I__I rfl) rfl (by show 2 * 0 + _ ≤ _; exact Nat.le_of_eq rfl) (hb hby dp62_3_273) (fun _ _ => ⟨rfl, e1336, (by decide : 0 + 0 ≤ _), (by decide : 0 + 0 ≤ _)⟩)
  dsimp only [Pt.U, Pt.locs, Pt.cells, Pt.slots] at X1373 l1373 y1373 z1373 st1373 hQ1373
  subst l1373 y1373 z1373
  obtain ⟨rfl, Nq1373, K1373, x1373_0, x1373_1, x1373_2, x1373_3, x1373_4, x1373_5, x1373_6, x1373_7, x1373_8, x1373_9, x1373_10⟩ := hQ1373
  obtain ⟨L1373, X1373, N1373⟩ := pk X1373 (Fr.app N1336 Nq1373)
  have le1374 : n0 ≤ o1 := Nat.le_trans le1165 (Nat.le_of_lt lt1188)
  have O1373 := O1336.keep K1373 (allS le1342 (allS le1374 all0))
  have e1373 : T1373.heap = T1373.heap := rfl
  have z1375 := Nat.le_trans z1339 K1373.1
  refine og (fun _ k => st1373.trans k) ?_
  show OG p e below _ T1373 m 276 #[vr a1, vr q1, vr t1, vr u1, vi 1, vi 9, vi 1, vi 0, vr q1, .unset] [(.int 1), (.int 12), (.ref n1)]
  have kg1376 := ((((Keep.refl _ [s2, l2, g2, s5, l5, g5, a1, o1]).trans K1235 (aS (om 0 rfl) (aS (om 1 rfl) (aS (om 2 rfl) all0)))).trans K1336 (aS (om 3 rfl) (aS (om 4 rfl) (aS (om 5 rfl) all0)))).trans K1373 (aS (om 6 rfl) (aS (om 7 rfl) all0)))
  have ni1377 := (ninS (Nat.ne_of_lt lt1207) (ninS (Nat.ne_of_lt lt1213) (ninS (Nat.ne_of_lt lt1224) (ninS (Nat.ne_of_lt lt1222) (ninS (Nat.ne_of_lt lt1223) (ninS (Nat.ne_of_lt lt1330) (ninS (Ne.symm (Nat.ne_of_lt PO3)) (ninS (Nat.ne_of_lt lt1188) nin0))))))))
  have F1378 := (V1198.keep kg1376 ni1377)
  obtain ⟨c1379, Ar1379, q1379, S1379, M1379, H1379, G1379⟩ := (id F1378)
  obtain ⟨T1379, h1379, X1379, e1379, W1379, st1379⟩ := stI X1373 hx hZ e1373 Ar1379 (j := (12 : Int32)) (inb_of S1379 ⟨by decide, by decide⟩) (g := (mkF m 276 #[vr a1, vr q1, vr t1, vr u1, vi 1, vi 9, vi 1, vi 0, vr q1, .unset] [(.int 1), (.int 12), (.ref n1)])) rfl rfl (hb hby dp62_3_276)
  obtain ⟨L1379, X1379, N1379⟩ := pk X1379 (Fr.snoc X1379 N1373 le1165)
  have O1379 := O1373.wr W1379 le1165
  have z1380 := Nat.le_trans z1375 (Nat.le_of_eq W1379.size.symm)
  have V1379 : Arv Z h1379 n1 kn1 .int 576 [(.int hv), x1, x2, x3, x4, x5, x6, x7, x8, (.int (c9 + (1 : Int32))), (.int p2), (.int 0), (.int 1), (.int 0), (.int 0), (.int 0), (.int 0), (.int 0)] (.int 0) := Arv.set Ar1379 q1379 S1379 M1379 H1379 G1379 rfl W1379 12 (by decide) (Nat.le_of_ble_eq_true rfl)
  refine og st1379 ?_
  show OG p e below _ T1379 m 277 #[vr a1, vr q1, vr t1, vr u1, vi 1, vi 9, vi 1, vi 0, vr q1, .unset] []
  refine qa X1379.here hx hby dp62_3_277 rfl rfl ?_
  have F1382 := (x1373_0.other W1379 (Or.inl (Nat.ne_of_lt PO3)))
  obtain ⟨T1381, X1381, e1381, st1381⟩ := getF X1379 hx hZ hown (host := "") (Or.inl (ow hw 203 rfl)) Via.refl e1379 F1382 (g := (mkF m 278 #[vr a1, vr q1, vr t1, vr u1, vi 1, vi 9, vi 1, vi 0, vr q1, .unset] [(.ref a1)])) rfl rfl (hb hby dp62_3_278)
  refine og st1381 ?_
  show OG p e below _ T1381 m 281 #[vr a1, vr q1, vr t1, vr u1, vi 1, vi 9, vi 1, vi 0, vr q1, .unset] [(.ref n1)]
  refine qi X1381.here hx hby dp62_3_281 rfl ?_
  refine qc X1381.here hx hby dp62_3_283 ?_
  refine qe X1381.here hx hby dp62_3_284 rfl ?_
  show OG p e below _ T1381 m 285 #[vr a1, vr q1, vr t1, vr u1, vi 1, vi 9, vi 1, vi 0, vr q1, .unset] [(.int ((9 : Int32) + (4 : Int32))), (.ref n1)]
  rw [show ((9 : Int32) + (4 : Int32)) = (13 : Int32) from by decide]
  refine qc X1381.here hx hby dp62_3_285 ?_
  obtain ⟨c1383, Ar1383, q1383, S1383, M1383, H1383, G1383⟩ := (id V1379)
  obtain ⟨T1383, h1383, X1383, e1383, W1383, st1383⟩ := stI X1381 hx hZ e1381 Ar1383 (j := (13 : Int32)) (inb_of S1383 ⟨by decide, by decide⟩) (g := (mkF m 286 #[vr a1, vr q1, vr t1, vr u1, vi 1, vi 9, vi 1, vi 0, vr q1, .unset] [(.int 0), (.int 13), (.ref n1)])) rfl rfl (hb hby dp62_3_286)
  obtain ⟨L1383, X1383, N1383⟩ := pk X1383 (Fr.snoc X1383 N1379 le1165)
  have O1383 := O1379.wr W1383 le1165
  have z1384 := Nat.le_trans z1380 (Nat.le_of_eq W1383.size.symm)
  have V1383 : Arv Z h1383 n1 kn1 .int 576 [(.int hv), x1, x2, x3, x4, x5, x6, x7, x8, (.int (c9 + (1 : Int32))), (.int p2), (.int 0), (.int 1), (.int 0), (.int 0), (.int 0), (.int 0), (.int 0)] (.int 0) := Arv.set Ar1383 q1383 S1383 M1383 H1383 G1383 rfl W1383 13 (by decide) (Nat.le_of_ble_eq_true rfl)
  refine og st1383 ?_
  show OG p e below _ T1383 m 287 #[vr a1, vr q1, vr t1, vr u1, vi 1, vi 9, vi 1, vi 0, vr q1, .unset] []
  refine qa X1383.here hx hby dp62_3_287 rfl rfl ?_
  have F1386 := (F1382.other W1383 (Or.inl (Nat.ne_of_lt PO3)))
  obtain ⟨T1385, X1385, e1385, st1385⟩ := getF X1383 hx hZ hown (host := "") (Or.inl (ow hw 203 rfl)) Via.refl e1383 F1386 (g := (mkF m 288 #[vr a1, vr q1, vr t1, vr u1, vi 1, vi 9, vi 1, vi 0, vr q1, .unset] [(.ref a1)])) rfl rfl (hb hby dp62_3_288)
  refine og st1385 ?_
  show OG p e below _ T1385 m 291 #[vr a1, vr q1, vr t1, vr u1, vi 1, vi 9, vi 1, vi 0, vr q1, .unset] [(.ref n1)]
  refine qi X1385.here hx hby dp62_3_291 rfl ?_
  refine qp X1385.here hx hby dp62_3_293 ?_
  refine qe X1385.here hx hby dp62_3_295 rfl ?_
  show OG p e below _ T1385 m 296 #[vr a1, vr q1, vr t1, vr u1, vi 1, vi 9, vi 1, vi 0, vr q1, .unset] [(.int ((9 : Int32) + (6 : Int32))), (.ref n1)]
  rw [show ((9 : Int32) + (6 : Int32)) = (15 : Int32) from by decide]
  refine qc X1385.here hx hby dp62_3_296 ?_
  obtain ⟨c1387, Ar1387, q1387, S1387, M1387, H1387, G1387⟩ := (id V1383)
  obtain ⟨T1387, h1387, X1387, e1387, W1387, st1387⟩ := stI X1385 hx hZ e1385 Ar1387 (j := (15 : Int32)) (inb_of S1387 ⟨by decide, by decide⟩) (g := (mkF m 297 #[vr a1, vr q1, vr t1, vr u1, vi 1, vi 9, vi 1, vi 0, vr q1, .unset] [(.int 0), (.int 15), (.ref n1)])) rfl rfl (hb hby dp62_3_297)
  obtain ⟨L1387, X1387, N1387⟩ := pk X1387 (Fr.snoc X1387 N1383 le1165)
  have O1387 := O1383.wr W1387 le1165
  have z1388 := Nat.le_trans z1384 (Nat.le_of_eq W1387.size.symm)
  have V1387 : Arv Z h1387 n1 kn1 .int 576 [(.int hv), x1, x2, x3, x4, x5, x6, x7, x8, (.int (c9 + (1 : Int32))), (.int p2), (.int 0), (.int 1), (.int 0), (.int 0), (.int 0), (.int 0), (.int 0)] (.int 0) := Arv.set Ar1387 q1387 S1387 M1387 H1387 G1387 rfl W1387 15 (by decide) (Nat.le_of_ble_eq_true rfl)
  refine og st1387 ?_
  show OG p e below _ T1387 m 298 #[vr a1, vr q1, vr t1, vr u1, vi 1, vi 9, vi 1, vi 0, vr q1, .unset] []
  refine qa X1387.here hx hby dp62_3_298 rfl rfl ?_
  have F1390 := (F1386.other W1387 (Or.inl (Nat.ne_of_lt PO3)))
  obtain ⟨T1389, X1389, e1389, st1389⟩ := getF X1387 hx hZ hown (host := "") (Or.inl (ow hw 203 rfl)) Via.refl e1387 F1390 (g := (mkF m 299 #[vr a1, vr q1, vr t1, vr u1, vi 1, vi 9, vi 1, vi 0, vr q1, .unset] [(.ref a1)])) rfl rfl (hb hby dp62_3_299)
  refine og st1389 ?_
  show OG p e below _ T1389 m 302 #[vr a1, vr q1, vr t1, vr u1, vi 1, vi 9, vi 1, vi 0, vr q1, .unset] [(.ref n1)]
  refine qi X1389.here hx hby dp62_3_302 rfl ?_
  refine qp X1389.here hx hby dp62_3_304 ?_
  refine qe X1389.here hx hby dp62_3_306 rfl ?_
  show OG p e below _ T1389 m 307 #[vr a1, vr q1, vr t1, vr u1, vi 1, vi 9, vi 1, vi 0, vr q1, .unset] [(.int ((9 : Int32) + (7 : Int32))), (.ref n1)]
  rw [show ((9 : Int32) + (7 : Int32)) = (16 : Int32) from by decide]
  refine qc X1389.here hx hby dp62_3_307 ?_
  obtain ⟨c1391, Ar1391, q1391, S1391, M1391, H1391, G1391⟩ := (id V1387)
  obtain ⟨T1391, h1391, X1391, e1391, W1391, st1391⟩ := stI X1389 hx hZ e1389 Ar1391 (j := (16 : Int32)) (inb_of S1391 ⟨by decide, by decide⟩) (g := (mkF m 308 #[vr a1, vr q1, vr t1, vr u1, vi 1, vi 9, vi 1, vi 0, vr q1, .unset] [(.int 1), (.int 16), (.ref n1)])) rfl rfl (hb hby dp62_3_308)
  obtain ⟨L1391, X1391, N1391⟩ := pk X1391 (Fr.snoc X1391 N1387 le1165)
  have O1391 := O1387.wr W1391 le1165
  have z1392 := Nat.le_trans z1388 (Nat.le_of_eq W1391.size.symm)
  have V1391 : Arv Z h1391 n1 kn1 .int 576 [(.int hv), x1, x2, x3, x4, x5, x6, x7, x8, (.int (c9 + (1 : Int32))), (.int p2), (.int 0), (.int 1), (.int 0), (.int 0), (.int 0), (.int 1), (.int 0)] (.int 0) := Arv.set Ar1391 q1391 S1391 M1391 H1391 G1391 rfl W1391 16 (by decide) (Nat.le_of_ble_eq_true rfl)
  refine og st1391 ?_
  show OG p e below _ T1391 m 309 #[vr a1, vr q1, vr t1, vr u1, vi 1, vi 9, vi 1, vi 0, vr q1, .unset] []
  refine qa X1391.here hx hby dp62_3_309 rfl rfl ?_
  have F1394 := (F1390.other W1391 (Or.inl (Nat.ne_of_lt PO3)))
  obtain ⟨T1393, X1393, e1393, st1393⟩ := getF X1391 hx hZ hown (host := "") (Or.inl (ow hw 203 rfl)) Via.refl e1391 F1394 (g := (mkF m 310 #[vr a1, vr q1, vr t1, vr u1, vi 1, vi 9, vi 1, vi 0, vr q1, .unset] [(.ref a1)])) rfl rfl (hb hby dp62_3_310)
  refine og st1393 ?_
  show OG p e below _ T1393 m 313 #[vr a1, vr q1, vr t1, vr u1, vi 1, vi 9, vi 1, vi 0, vr q1, .unset] [(.ref n1)]
  refine qi X1393.here hx hby dp62_3_313 rfl ?_
  refine qp X1393.here hx hby dp62_3_315 ?_
  refine qe X1393.here hx hby dp62_3_317 rfl ?_
  show OG p e below _ T1393 m 318 #[vr a1, vr q1, vr t1, vr u1, vi 1, vi 9, vi 1, vi 0, vr q1, .unset] [(.int ((9 : Int32) + (8 : Int32))), (.ref n1)]
  rw [show ((9 : Int32) + (8 : Int32)) = (17 : Int32) from by decide]
  refine qc X1393.here hx hby dp62_3_318 ?_
  obtain ⟨c1395, Ar1395, q1395, S1395, M1395, H1395, G1395⟩ := (id V1391)
  obtain ⟨T1395, h1395, X1395, e1395, W1395, st1395⟩ := stI X1393 hx hZ e1393 Ar1395 (j := (17 : Int32)) (inb_of S1395 ⟨by decide, by decide⟩) (g := (mkF m 319 #[vr a1, vr q1, vr t1, vr u1, vi 1, vi 9, vi 1, vi 0, vr q1, .unset] [(.int 1), (.int 17), (.ref n1)])) rfl rfl (hb hby dp62_3_319)
  obtain ⟨L1395, X1395, N1395⟩ := pk X1395 (Fr.snoc X1395 N1391 le1165)
  have O1395 := O1391.wr W1395 le1165
  have z1396 := Nat.le_trans z1392 (Nat.le_of_eq W1395.size.symm)
  have V1395 : Arv Z h1395 n1 kn1 .int 576 [(.int hv), x1, x2, x3, x4, x5, x6, x7, x8, (.int (c9 + (1 : Int32))), (.int p2), (.int 0), (.int 1), (.int 0), (.int 0), (.int 0), (.int 1), (.int 1)] (.int 0) := Arv.set Ar1395 q1395 S1395 M1395 H1395 G1395 rfl W1395 17 (by decide) (Nat.le_of_ble_eq_true rfl)
  refine og st1395 ?_
  show OG p e below _ T1395 m 320 #[vr a1, vr q1, vr t1, vr u1, vi 1, vi 9, vi 1, vi 0, vr q1, .unset] []
  refine qa X1395.here hx hby dp62_3_320 rfl rfl ?_
  have kg1397 := ((((((((((((Keep.refl _ [n1, s2, l2, g2, s5, l5, g5, a1, o1]).wr W1164 (om 0 rfl)).wr W1175 (om 0 rfl)).wr W1198 (om 0 rfl)).trans K1235 (aS (om 1 rfl) (aS (om 2 rfl) (aS (om 3 rfl) all0)))).trans K1336 (aS (om 4 rfl) (aS (om 5 rfl) (aS (om 6 rfl) all0)))).trans K1373 (aS (om 7 rfl) (aS (om 8 rfl) all0))).wr W1379 (om 0 rfl)).wr W1383 (om 0 rfl)).wr W1387 (om 0 rfl)).wr W1391 (om 0 rfl)).wr W1395 (om 0 rfl))
  have F1398 := (PQ258.keep kg1397)
  have lt1399 := Nat.lt_trans lt1167 PO4
  have lt1400 := Nat.lt_trans lt1399 PO5
  have lt1401 := Nat.lt_trans lt1400 PO6
  have lt1402 := Nat.lt_trans lt1401 PO7
  have lt1403 := Nat.lt_trans lt1402 PO8
  have lt1404 := Nat.lt_trans lt1403 PO9
  have lt1405 := Nat.lt_trans lt1404 PO10
  have lt1406 := Nat.lt_trans lt1405 PO11
  have lt1407 := Nat.lt_trans lt1406 PO12
  have lt1408 := Nat.lt_trans lt1407 PO13
  have lt1409 := Nat.lt_trans lt1408 PO14
  have lt1410 := Nat.lt_trans lt1409 PO15
  have lt1411 := Nat.lt_trans lt1410 PO16
  have lt1412 := Nat.lt_trans lt1411 PO17
  have ni1413 := (ninS (Nat.ne_of_lt lt1167) (ninS (Nat.ne_of_lt lt1403) (ninS (Nat.ne_of_lt lt1404) (ninS (Nat.ne_of_lt lt1411) (ninS (Nat.ne_of_lt lt1409) (ninS (Nat.ne_of_lt lt1410) (ninS (Nat.ne_of_lt lt1412) (ninS (Nat.ne_of_lt lt1166) (ninS (Nat.ne_of_lt lt1400) nin0)))))))))
  have F1414 := (PQ269.keep kg1397 ni1413)
  obtain ⟨cq1415, kq1415, qa1415, qb1415, qc1415⟩ := isOf hZ e1395 F1398
  obtain ⟨_, _, ⟨T1415, L1415, k1415, n1415⟩, -, X1415, ⟨Lc1415, hQ1415, l1415, y1415, z1415⟩, st1415⟩ := X1395.interfaceBack hx (xi := mn47) (y := mn31) hown (mvT hZ (ow hw 338 rfl)) (mvT hZ (ow hw 312 rfl)) (mvT hZ (ow hw 313 rfl)) (mvT hZ (ow hw 314 rfl)) (mvT hZ (ow hw 315 rfl)) (mvT hZ (ow hw 316 rfl)) (mvT hZ (ow hw 317 rfl)) (mvT hZ (ow hw 304 rfl)) (by decide) (backOf (W := 0) (rm_size l Z a0 hw [] ku0 ku1 ku2 ku3 aDef aCac aEmp aMir kDef cCac F0 t1 (2 : Int32) h1395 n0 O1395 F1414) hZ (ow hw 318 rfl) (ow hw 2 rfl) (by decide) (by decide)) qa1415 qb1415 qc1415 (g := (mkF m 321 #[vr a1, vr q1, vr t1, vr u1, vi 1, vi 9, vi 1, vi 0, vr q1, .unset] [(.ref t1)])) rfl (by rw [hml]; rfl) (Steps.refl _) (argsL := []) (rest := []) (lenOf pd___I rfl) rfl (by show 2 * 0 + _ ≤ _; exact Nat.le_of_eq rfl) (hb hby dp62_3_321) (fun _ _ => ⟨rfl, e1395, (by decide : 0 + 0 ≤ _), (by decide : 0 + 0 ≤ _)⟩)
  dsimp only [Pt.U, Pt.locs, Pt.cells, Pt.slots] at X1415 l1415 y1415 z1415 st1415 hQ1415
  subst l1415 y1415 z1415
  obtain ⟨rfl, Nq1415, K1415⟩ := hQ1415
  obtain ⟨L1415, X1415, N1415⟩ := pk X1415 (Fr.app N1395 Nq1415)
  refine og (fun _ k => st1415.trans k) ?_
  show OG p e below _ T1415 m 326 #[vr a1, vr q1, vr t1, vr u1, vi 1, vi 9, vi 1, vi 0, vr q1, .unset] [(.int 2)]
  refine qc X1415.here hx hby dp62_3_326 ?_
  refine qf X1415.here hx hby dp62_3_327 rfl ?_
  show OG p e below _ T1415 m 328 #[vr a1, vr q1, vr t1, vr u1, vi 1, vi 9, vi 1, vi 0, vr q1, .unset] [(.int ((2 : Int32) - (1 : Int32)))]
  rw [show ((2 : Int32) - (1 : Int32)) = (1 : Int32) from by decide]
  refine qp X1415.here hx hby dp62_3_328 ?_
  refine og (fun _ k => XS.idiv X1415.here hx rfl (hb hby dp62_3_330) rfl (by decide) k) ?_
  show OG p e below _ T1415 m 331 #[vr a1, vr q1, vr t1, vr u1, vi 1, vi 9, vi 1, vi 0, vr q1, .unset] [(.int ((1 : Int32) / (32 : Int32)))]
  rw [show ((1 : Int32) / (32 : Int32)) = (0 : Int32) from by decide]
  refine og (fun _ k => XS.istore X1415.here hx rfl (hb hby dp62_3_331) rfl (l' := #[vr a1, vr q1, vr t1, vr u1, vi 1, vi 9, vi 1, vi 0, vi 0, .unset]) rfl k) ?_
  refine qa X1415.here hx hby dp62_3_333 rfl rfl ?_
  have kg1417 := ((((((Keep.refl _ [n1]).wr W1379 (om 0 rfl)).wr W1383 (om 0 rfl)).wr W1387 (om 0 rfl)).wr W1391 (om 0 rfl)).wr W1395 (om 0 rfl))
  have F1418 := (x1373_1.keep kg1417 ni1181)
  obtain ⟨T1416, X1416, e1416, st1416⟩ := getF X1415 hx hZ hown (host := "") (Or.inl (ow hw 207 rfl)) Via.refl K1415 F1418 (g := (mkF m 334 #[vr a1, vr q1, vr t1, vr u1, vi 1, vi 9, vi 1, vi 0, vi 0, .unset] [(.ref a1)])) rfl rfl (hb hby dp62_3_334)
  refine og st1416 ?_
  show OG p e below _ T1416 m 337 #[vr a1, vr q1, vr t1, vr u1, vi 1, vi 9, vi 1, vi 0, vi 0, .unset] [(.ref m1)]
  refine qi X1416.here hx hby dp62_3_337 rfl ?_
  refine qi X1416.here hx hby dp62_3_339 rfl ?_
  refine og (fun _ k => XS.ifNo X1416.here hx rfl (hb hby dp62_3_341) rfl (by decide) k) ?_
  show OG p e below _ T1416 m 344 #[vr a1, vr q1, vr t1, vr u1, vi 1, vi 9, vi 1, vi 0, vi 0, .unset] [(.int 1), (.ref m1)]
  refine og (fun _ k => XS.aconstNull X1416.here hx rfl (hb hby dp62_3_344) k) ?_
  refine og (fun _ k => XS.goto X1416.here hx rfl (pc0 := 345) (pc' := 357) rfl (hb hby dp62_3_345) (by decide) (by decide) k) ?_
  have lt1419 := Nat.lt_trans PO5 PO6
  have lt1420 := Nat.lt_trans lt1419 PO7
  have lt1421 := Nat.lt_trans lt1420 PO8
  have lt1422 := Nat.lt_trans lt1421 PO9
  have lt1423 := Nat.lt_trans lt1422 PO10
  have lt1424 := Nat.lt_trans lt1423 PO11
  have lt1425 := Nat.lt_trans lt1424 PO12
  have lt1426 := Nat.lt_trans lt1425 PO13
  have lt1427 := Nat.lt_trans lt1426 PO14
  have lt1428 := Nat.lt_trans lt1427 PO15
  have lt1429 := Nat.lt_trans lt1428 PO16
  have lt1430 := Nat.lt_trans lt1429 PO17
  have ni1431 := (ninS (Ne.symm (Nat.ne_of_lt PO4)) (ninS (Nat.ne_of_lt lt1421) (ninS (Nat.ne_of_lt lt1422) (ninS (Nat.ne_of_lt lt1429) (ninS (Nat.ne_of_lt lt1427) (ninS (Nat.ne_of_lt lt1428) (ninS (Nat.ne_of_lt lt1430) (ninS (Ne.symm (Nat.ne_of_lt lt1248)) (ninS (Nat.ne_of_lt PO5) nin0)))))))))
  have F1432 := (PQ285.keep kg1397 ni1431)
  obtain ⟨c1433, Ar1433, q1433, S1433, M1433, H1433, G1433⟩ := (id F1432)
  obtain ⟨T1433, h1433, X1433, e1433, W1433, st1433⟩ := stR X1416 hx hZ e1416 Ar1433 (j := (1 : Int32)) (v := .null) (inb_of S1433 ⟨by decide, by decide⟩) rfl (Or.inl rfl) (g := (mkF m 357 #[vr a1, vr q1, vr t1, vr u1, vi 1, vi 9, vi 1, vi 0, vi 0, .unset] [.null, (.int 1), (.ref m1)])) rfl rfl (hb hby dp62_3_357)
  have le1434 : n0 ≤ m1 := Nat.le_trans le1165 (Nat.le_of_lt PO4)
  obtain ⟨L1433, X1433, N1433⟩ := pk X1433 (Fr.snoc X1433 N1415 le1434)
  have O1433 := O1395.wr W1433 le1434
  have z1435 := Nat.le_trans z1396 (Nat.le_of_eq W1433.size.symm)
  have V1433 : Arv Z h1433 m1 km1 (.object "com/example/reweave/reweave/control/SearchPath$More") (64 : Int32) [.null, .null] .null := Arv.set Ar1433 q1433 S1433 M1433 H1433 G1433 rfl W1433 1 (by decide) (Nat.le_of_ble_eq_true rfl)
  refine og st1433 ?_
  show OG p e below _ T1433 m 358 #[vr a1, vr q1, vr t1, vr u1, vi 1, vi 9, vi 1, vi 0, vi 0, .unset] []
  refine qa X1433.here hx hby dp62_3_358 rfl rfl ?_
  refine qd X1433.here hx hby dp62_3_359 rfl rfl ?_
  have kg1437 := (((((((Keep.refl _ [n1, m1]).wr W1379 (om 0 rfl)).wr W1383 (om 0 rfl)).wr W1387 (om 0 rfl)).wr W1391 (om 0 rfl)).wr W1395 (om 0 rfl)).wr W1433 (om 1 rfl))
  have ni1438 := (ninS (Nat.ne_of_lt PO3) (ninS (Nat.ne_of_lt lt1248) nin0))
  have F1439 := (x1373_8.keep kg1437 ni1438)
  obtain ⟨T1436, X1436, e1436, st1436⟩ := getF X1433 hx hZ hown (host := "") (Or.inl (ow hw 265 rfl)) Via.refl e1433 F1439 (g := (mkF m 360 #[vr a1, vr q1, vr t1, vr u1, vi 1, vi 9, vi 1, vi 0, vi 0, .unset] [(.ref a1), (.ref a1)])) rfl rfl (hb hby dp62_3_360)
  refine og st1436 ?_
  show OG p e below _ T1436 m 363 #[vr a1, vr q1, vr t1, vr u1, vi 1, vi 9, vi 1, vi 0, vi 0, .unset] [(.int 1), (.ref a1)]
  refine qc X1436.here hx hby dp62_3_363 ?_
  refine qe X1436.here hx hby dp62_3_364 rfl ?_
  show OG p e below _ T1436 m 365 #[vr a1, vr q1, vr t1, vr u1, vi 1, vi 9, vi 1, vi 0, vi 0, .unset] [(.int ((1 : Int32) + (1 : Int32))), (.ref a1)]
  rw [show ((1 : Int32) + (1 : Int32)) = (2 : Int32) from by decide]
  have kg1441 := ((((((((Keep.refl _ [a1, o1, n1, m1]).trans K1373 (aS (om 0 rfl) (aS (om 1 rfl) all0))).wr W1379 (om 2 rfl)).wr W1383 (om 2 rfl)).wr W1387 (om 2 rfl)).wr W1391 (om 2 rfl)).wr W1395 (om 2 rfl)).wr W1433 (om 3 rfl))
  have F1442 := (F1341.keep kg1441)
  obtain ⟨T1440, h1440, X1440, e1440, W1440, st1440⟩ := putF X1436 hx hZ hown (host := "") (Or.inl (ow hw 265 rfl)) Via.refl e1436 F1439 F1442 (Or.inl (ow hw 266 rfl)) (ow hw 196 rfl) (ty := .int) (by decide) rfl rfl (g := (mkF m 365 #[vr a1, vr q1, vr t1, vr u1, vi 1, vi 9, vi 1, vi 0, vi 0, .unset] [(.int 2), (.ref a1)])) rfl rfl (hb hby dp62_3_365)
  obtain ⟨L1440, X1440, N1440⟩ := pk X1440 (Fr.snoc X1440 N1433 le1342)
  have O1440 := O1433.wr W1440 le1342
  have z1443 := Nat.le_trans z1435 (Nat.le_of_eq W1440.size.symm)
  have F1440 : Fld Z h1440 a1 "com/example/reweave/reweave/control/SearchPath" "size" "I" (.int 2) := F1439.same W1440
  refine og st1440 ?_
  show OG p e below _ T1440 m 368 #[vr a1, vr q1, vr t1, vr u1, vi 1, vi 9, vi 1, vi 0, vi 0, .unset] []
  refine qi X1440.here hx hby dp62_3_368 rfl ?_
  obtain ⟨fs, hr, hrun, hended, hW, hsame⟩ := X1440.leave (v := some (.int 1)) (fun h => by rw [Bd.returns] at h; cases h)
  refine ⟨_, _, retOut X1440 hx Bd.returns rfl (Or.inl ⟨rfl, Or.inl rfl, _, rfl⟩) (hb hby dp62_3_370) hr, hrun, hended, _, _, rfl, ?_, ⟨_, rfl⟩, hW, hsame.mono (by decide) (by decide)⟩
  show Q_ad1 Z ku0 ku1 ku2 ku3 aDef aCac aEmp aMir kDef cCac a1 q1 t1 u1 d1 c9 p2 ru n1 m1 o1 s1 l1 s2 l2 s3 l3 s4 l4 s5 l5 kn1 kl1 km1 hv x1 x2 x3 x4 x5 x6 x7 x8 rv u0 g2 g5 kg2 kg5 mc2 mc5 h0 n0 _ T1440.heap _
  rw [e1440]
  have kg1444 := (((Keep.refl _ [n1, m1]).wr W1395 (om 0 rfl)).wr W1433 (om 1 rfl))
  have F1445 := (oo W1440 (F1394.keep kg1444 ni1438) (lp_13 hw) (lp_25 hw) (by decide))
  have kg1446 := (((Keep.refl _ [m1, a1]).wr W1433 (om 0 rfl)).wr W1440 (om 1 rfl))
  have ni1447 := (ninS (Nat.ne_of_lt PO4) (ninS (Ne.symm (Nat.ne_of_lt PO3)) nin0))
  have F1448 := (V1395.keep kg1446 ni1447)
  exact ⟨rfl, N1440, ((((((((((((((Keep.refl _ [a1, n1, m1, o1, s1, l1, s2, l2, s3, l3, s4, l4, s5, l5, g2, g5]).wr W1164 (om 1 rfl)).wr W1175 (om 1 rfl)).wr W1198 (om 1 rfl)).trans K1235 (aS (om 6 rfl) (aS (om 7 rfl) (aS (om 14 rfl) all0)))).trans K1336 (aS (om 12 rfl) (aS (om 13 rfl) (aS (om 15 rfl) all0)))).trans K1373 (aS (om 0 rfl) (aS (om 3 rfl) all0))).wr W1379 (om 1 rfl)).wr W1383 (om 1 rfl)).wr W1387 (om 1 rfl)).wr W1391 (om 1 rfl)).wr W1395 (om 1 rfl)).wr W1433 (om 2 rfl)).wr W1440 (om 0 rfl)), F1445, F1448⟩
theorem own_b3 (x : Int32) : (x ||| (256 : Int32)) &&& (512 : Int32) = x &&& (512 : Int32) := by
  apply Int32.toBitVec_inj.mp
  rw [Int32.toBitVec_and, Int32.toBitVec_or, Int32.toBitVec_and]
  apply BitVec.eq_of_getLsbD_eq
  intro i hi
  simp only [BitVec.getLsbD_and, BitVec.getLsbD_or]
  have : ((256 : Int32).toBitVec.getLsbD i && (512 : Int32).toBitVec.getLsbD i) = false := by
    revert hi; revert i; decide
  cases h1 : (256 : Int32).toBitVec.getLsbD i <;> cases h2 : (512 : Int32).toBitVec.getLsbD i <;> simp_all
theorem own_b2 (x : Int32) : ¬ (x ||| (512 : Int32)) &&& (512 : Int32) = (0 : Int32) := by
  intro h
  have h' := congrArg (fun y => y.toBitVec.getLsbD 9) h
  simp only [Int32.toBitVec_and, Int32.toBitVec_or, BitVec.getLsbD_and, BitVec.getLsbD_or] at h'
  have e1 : (512 : Int32).toBitVec.getLsbD 9 = true := by decide
  have e2 : (0 : Int32).toBitVec.getLsbD 9 = false := by decide
  rw [e1, e2] at h'
  simp at h'
theorem own_empty {Z : State} {a : Addr} {c : Cell} (A : Arr Z Z.heap a c (.object "java/lang/Object")) (q : c.slots.size < 2 ^ 31 ∧ c.slots.size.toInt32 = (0 : Int32)) : Arv Z Z.heap a c.cls (.object "java/lang/Object") (0 : Int32) [] .null := by
  have z : c.slots.size = 0 := by
    have e1 : c.slots.size.toInt32.toInt = c.slots.size := Int32.toInt_ofNat_of_lt q.1
    have e2 := congrArg Int32.toInt q.2
    have c0 : (0 : Int32).toInt = 0 := by decide
    omega
  exact ⟨c, A, rfl, z.trans (by decide), by decide, fun i hi => absurd hi (by rw [z]; exact Nat.not_lt_zero _), fun i hi => absurd hi (by rw [z]; exact Nat.not_lt_zero _)⟩
theorem own_high {s : State} {args : Array Value} {C n d : String} {k : Int32} (h : (Jvm.Cond.eq (Term.static C n d) (Term.int k)).value args s none s [] = some true) (hi : (Cond.initializedFor C n d).before args s = true ∨ ((Cond.initialized C).before args s = true ∧ (Cond.laysStatic C n d).before args s = true)) : Sta s s.heap C n d (.int k) :=
  Sta.start (eqv_i (Term.int_eval k) h) hi
theorem own_bx {s : State} {args : Array Value} {a : Addr} {c : Cell} (ev : (Term.static "java/lang/Integer$IntegerCache" "cache" "[Ljava/lang/Integer;").eval args s none [] s = some (.ref a)) (A : Arr s s.heap a c (.object "java/lang/Integer"))
    (h : (Jvm.Cond.all (Term.static "java/lang/Integer$IntegerCache" "cache" "[Ljava/lang/Integer;") (.and (.exactly (.elem (Term.static "java/lang/Integer$IntegerCache" "cache" "[Ljava/lang/Integer;") (.index 0)) "java/lang/Integer") (.eq (.field (.elem (Term.static "java/lang/Integer$IntegerCache" "cache" "[Ljava/lang/Integer;") (.index 0)) "java/lang/Integer" "value" "I") (.sub (.index 0) (.int 128))))).value args s none s [] = some true)
    (e1 : c.slots.size < 2 ^ 31 ∧ c.slots.size.toInt32 = (256 : Int32)) :
    Bxs s a c "java/lang/Integer" "I" (256 : Int32) own_val := by
  refine Bxs.start (fun _ => ev) A e1.1 e1.2 (by decide) h (fun X j hj hq => ?_)
  exact eqv_i (Term.sub_int (idx_at hj) (Term.int_eval 128)) hq
theorem own_b1 {x : Int32} (h : x &&& (512 : Int32) = (0 : Int32)) : (x ||| (256 : Int32)) &&& (512 : Int32) = (0 : Int32) := (own_b3 x).trans h
theorem own_b4 (x : Int32) : ¬ ((x ||| (512 : Int32)) ||| (256 : Int32)) &&& (512 : Int32) = (0 : Int32) := by rw [own_b3]; exact own_b2 x
theorem own_b5 (x : Int32) : ¬ ((x ||| (256 : Int32)) ||| (512 : Int32)) &&& (512 : Int32) = (0 : Int32) := own_b2 _
theorem own_iz {P : Prop} {x f : Int32} (h : x &&& (512 : Int32) = (0 : Int32)) (c : P) : (x &&& (512 : Int32) = (0 : Int32) ↔ P) := ⟨fun _ => c, fun _ => h⟩
theorem own_io {P : Prop} {x : Int32} (h : ¬ x &&& (512 : Int32) = (0 : Int32)) (c : ¬ P) : (x &&& (512 : Int32) = (0 : Int32) ↔ P) := ⟨fun q => absurd q h, fun q => absurd q c⟩
theorem own_ie {x f g : Int32} (h : x &&& (512 : Int32) = (0 : Int32) ↔ (f = (0 : Int32) ∨ g = (0 : Int32))) (c : ¬ f = (0 : Int32)) : (x &&& (512 : Int32) = (0 : Int32) ↔ g = (0 : Int32)) := h.trans ⟨fun q => q.resolve_left c, Or.inr⟩
theorem own_r0 {x f : Int32} (h : x &&& (512 : Int32) = (0 : Int32) ↔ f = (0 : Int32)) (q : f = (0 : Int32) ∨ f = (1 : Int32)) : (if x &&& (512 : Int32) = (0 : Int32) then (0 : Int32) else (1 : Int32)) = f := by
  rcases q with q | q
  · rw [if_pos (h.mpr q), q]
  · rw [if_neg (fun z => absurd (q.symm.trans (h.mp z)) (by decide)), q]
theorem dp62_15_0 : decode prog_62_method_15_code 0 = .ok (.aload_n 0, 1) := by decide +kernel
theorem dp62_15_1 : decode prog_62_method_15_code 1 = .ok (.getfield 9, 3) := by decide +kernel
theorem dp62_15_4 : decode prog_62_method_15_code 4 = .ok (.bipush 9, 2) := by decide +kernel
theorem dp62_15_6 : decode prog_62_method_15_code 6 = .ok (.iload_n 1, 1) := by decide +kernel
theorem dp62_15_7 : decode prog_62_method_15_code 7 = .ok (.imul, 1) := by decide +kernel
theorem dp62_15_8 : decode prog_62_method_15_code 8 = .ok (.iconst 0, 1) := by decide +kernel
theorem dp62_15_9 : decode prog_62_method_15_code 9 = .ok (.iadd, 1) := by decide +kernel
theorem dp62_15_10 : decode prog_62_method_15_code 10 = .ok (.dup2, 1) := by decide +kernel
theorem dp62_15_11 : decode prog_62_method_15_code 11 = .ok (.iaload, 1) := by decide +kernel
theorem dp62_15_12 : decode prog_62_method_15_code 12 = .ok (.sipush 256, 3) := by decide +kernel
theorem dp62_15_15 : decode prog_62_method_15_code 15 = .ok (.ior, 1) := by decide +kernel
theorem dp62_15_16 : decode prog_62_method_15_code 16 = .ok (.iastore, 1) := by decide +kernel
theorem dp62_15_17 : decode prog_62_method_15_code 17 = .ok (.return_, 1) := by decide +kernel
def Q_tl0 (Z : State) (ku0 ku1 ku2 ku3 aDef aCac aEmp aMir : Addr) (kDef : ClassId) (cCac : Cell) (a1 : Addr) (n1 : Addr) (kn1 : ClassId) (vs1 : List Value) (hv : Int32) (h0 : Heap) (n0 : Nat) (v : Option Value) (h : Heap) (L : List Loc) : Prop := v = none ∧ Fr n0 L ∧ Keep h0 h [n1] ∧ Arv Z h n1 kn1 .int 576 (vs1.set 0 (.int (hv ||| (256 : Int32)))) (.int 0)
theorem ef_tl0 (m : MethodId) (x0 : Addr) (x1 : Int32) : entryFrame m #[(.ref x0), (.int x1)] 2 = mkF m 0 #[vr x0, vi x1] [] := by first | (simp [entryFrame, mkF, argsToLocals, Value.category]; done) | rfl
theorem rm_tl0 (l : Launch) (Z : State) (a0 : Array Value) (hw : HW Z a0) (ws : List Jvm.Cond) (ku0 ku1 ku2 ku3 aDef aCac aEmp aMir : Addr) (kDef : ClassId) (cCac : Cell) (F0 : OwnFacts Z ku0 ku1 ku2 ku3 aDef aCac aEmp aMir kDef cCac) (a1 : Addr) (n1 : Addr) (kn1 : ClassId) (vs1 : List Value) (hv : Int32) (h0 : Heap) (n0 : Nat) (O0 : Old Z n0 h0) (PQ323 : Fld Z h0 a1 "com/example/reweave/reweave/control/SearchPath" "numbers" "[I" (.ref n1)) (PQ324 : Exa Z h0 n1 "[I") (PQ325 : Arv Z h0 n1 kn1 .int 576 vs1 (.int 0)) (hat : vs1.getD 0 (.int 0) = .int hv) (hln : 0 < vs1.length) (PQ326 : n0 ≤ n1) :
    MetFree l mn13 (head1 (Jvm.Cond.code mn13 prog_62_method_15_code 2 none :: ws) (rk 0 0 0 0)) (fun a U => a = #[(.ref a1), (.int 0)] ∧ Z.Warmed39 U.vm ∧ U.heap = h0) (fun _ _ _ _ _ => True) (fun _ U o U' => ∃ v L, o = .returned v ∧ Q_tl0 Z ku0 ku1 ku2 ku3 aDef aCac aEmp aMir kDef cCac a1 n1 kn1 vs1 hv h0 n0 v U'.heap L ∧ FrameEnd U o U' L (rk 0 0 0 0).cells (rk 0 0 0 0).slots) := by
  refine MetFree.of_bodySF (plainFor_of_name pn_com_example_reweave_reweave_control_SearchPath) hisR ?_
  intro p e s m args below meth c s₁ Bd hml0 hP hK
  obtain ⟨rfl, hZ, hh⟩ := hP
  have hx := Bd.exec
  have hby := Bd.bytes
  have hml : c.maxLocals = 2 := hml0
  have hown : s.vm.findClass "com/example/reweave/reweave/control/SearchPath" = some m.cls := findClass_of_methodNamed Bd.named
  have hnm := (name_of_methodNamed Bd.named Bd.method).1
  have X0 : Stand p l e (rk 0 0 0 0) s m #[(.ref a1), (.int 0)] below meth c s₁ [] 0 0 := Stand.of_body Bd
  have e0 : s₁.heap = h0 := by rw [← hh, Bd.state]; rfl
  have N0 := Fr.nil n0
  refine og (Q := fun o U' => ∃ v L, o = .returned v ∧ Q_tl0 Z ku0 ku1 ku2 ku3 aDef aCac aEmp aMir kDef cCac a1 n1 kn1 vs1 hv h0 n0 v U'.heap L ∧ FrameEnd s o U' L (rk 0 0 0 0).cells (rk 0 0 0 0).slots) (fun t k => castTop (ef_tl0 m a1 (0 : Int32)) k) ?_
  show OG p e below _ s₁ m 0 #[vr a1, vi 0] []
  refine qa X0.here hx hby dp62_15_0 rfl rfl ?_
  obtain ⟨T1449, X1449, e1449, st1449⟩ := getF X0 hx hZ hown (host := "") (Or.inl (ow hw 203 rfl)) Via.refl e0 PQ323 (g := (mkF m 1 #[vr a1, vi 0] [(.ref a1)])) rfl rfl (hb hby dp62_15_1)
  refine og st1449 ?_
  show OG p e below _ T1449 m 4 #[vr a1, vi 0] [(.ref n1)]
  refine qp X1449.here hx hby dp62_15_4 ?_
  refine qj X1449.here hx hby dp62_15_6 rfl ?_
  refine qg X1449.here hx hby dp62_15_7 rfl ?_
  show OG p e below _ T1449 m 8 #[vr a1, vi 0] [(.int ((9 : Int32) * (0 : Int32))), (.ref n1)]
  rw [show ((9 : Int32) * (0 : Int32)) = (0 : Int32) from by decide]
  refine qc X1449.here hx hby dp62_15_8 ?_
  refine qe X1449.here hx hby dp62_15_9 rfl ?_
  show OG p e below _ T1449 m 10 #[vr a1, vi 0] [(.int ((0 : Int32) + (0 : Int32))), (.ref n1)]
  rw [show ((0 : Int32) + (0 : Int32)) = (0 : Int32) from by decide]
  refine og (fun _ k => XT.dup2 X1449.here hx rfl (hb hby dp62_15_10) rfl rfl rfl k) ?_
  show OG p e below _ T1449 m 11 #[vr a1, vi 0] [(.int 0), (.ref n1), (.int 0), (.ref n1)]
  obtain ⟨c1450, Ar1450, q1450, S1450, M1450, H1450, G1450⟩ := (id PQ325)
  refine og (fun _ k => X1449.iaload hx (j := (0 : Int32)) (v := .int hv) (by rw [e1449]; exact Ar1450.1) (State.isArrayOf_alike hZ.alike Ar1450.2.1) Ar1450.2.2 (inb_of S1450 ⟨by decide, by decide⟩) (Has.at H1450 (inb_of S1450 ⟨by decide, by decide⟩) hat) (g := (mkF m 11 #[vr a1, vi 0] [(.int 0), (.ref n1), (.int 0), (.ref n1)])) rfl rfl (hb hby dp62_15_11) _ k) ?_
  show OG p e below _ T1449 m 12 #[vr a1, vi 0] [(.int hv), (.int 0), (.ref n1)]
  refine qs X1449.here hx hby dp62_15_12 ?_
  refine og (fun _ k => XS.ior X1449.here hx rfl (hb hby dp62_15_15) rfl k) ?_
  show OG p e below _ T1449 m 16 #[vr a1, vi 0] [(.int (hv ||| (256 : Int32))), (.int 0), (.ref n1)]
  obtain ⟨c1451, Ar1451, q1451, S1451, M1451, H1451, G1451⟩ := (id PQ325)
  obtain ⟨T1451, h1451, X1451, e1451, W1451, st1451⟩ := stI X1449 hx hZ e1449 Ar1451 (j := (0 : Int32)) (inb_of S1451 ⟨by decide, by decide⟩) (g := (mkF m 16 #[vr a1, vi 0] [(.int (hv ||| (256 : Int32))), (.int 0), (.ref n1)])) rfl rfl (hb hby dp62_15_16)
  obtain ⟨L1451, X1451, N1451⟩ := pk X1451 (Fr.snoc X1451 N0 PQ326)
  have O1451 := O0.wr W1451 PQ326
  have z1452 := Nat.le_trans (Nat.le_refl _) (Nat.le_of_eq W1451.size.symm)
  have V1451 : Arv Z h1451 n1 kn1 .int 576 (vs1.set 0 (.int (hv ||| (256 : Int32)))) (.int 0) := Arv.set Ar1451 q1451 S1451 M1451 H1451 G1451 rfl W1451 0 (by decide) hln
  refine og st1451 ?_
  show OG p e below _ T1451 m 17 #[vr a1, vi 0] []
  obtain ⟨fs, hr, hrun, hended, hW, hsame⟩ := X1451.leave (v := none) (fun h => rfl)
  refine ⟨_, _, X1451.returnOut hx Bd.returns (hb hby dp62_15_17) hr, hrun, hended, _, _, rfl, ?_, ⟨_, rfl⟩, hW, hsame.mono (by decide) (by decide)⟩
  show Q_tl0 Z ku0 ku1 ku2 ku3 aDef aCac aEmp aMir kDef cCac a1 n1 kn1 vs1 hv h0 n0 _ T1451.heap _
  rw [e1451]
  exact ⟨rfl, N1451, ((Keep.refl _ [n1]).wr W1451 (om 0 rfl)), V1451⟩
def Q_tl1 (Z : State) (ku0 ku1 ku2 ku3 aDef aCac aEmp aMir : Addr) (kDef : ClassId) (cCac : Cell) (a1 : Addr) (n1 : Addr) (kn1 : ClassId) (vs1 : List Value) (hv : Int32) (h0 : Heap) (n0 : Nat) (v : Option Value) (h : Heap) (L : List Loc) : Prop := v = none ∧ Fr n0 L ∧ Keep h0 h [n1] ∧ Arv Z h n1 kn1 .int 576 (vs1.set 9 (.int (hv ||| (256 : Int32)))) (.int 0)
theorem ef_tl1 (m : MethodId) (x0 : Addr) (x1 : Int32) : entryFrame m #[(.ref x0), (.int x1)] 2 = mkF m 0 #[vr x0, vi x1] [] := by first | (simp [entryFrame, mkF, argsToLocals, Value.category]; done) | rfl
theorem rm_tl1 (l : Launch) (Z : State) (a0 : Array Value) (hw : HW Z a0) (ws : List Jvm.Cond) (ku0 ku1 ku2 ku3 aDef aCac aEmp aMir : Addr) (kDef : ClassId) (cCac : Cell) (F0 : OwnFacts Z ku0 ku1 ku2 ku3 aDef aCac aEmp aMir kDef cCac) (a1 : Addr) (n1 : Addr) (kn1 : ClassId) (vs1 : List Value) (hv : Int32) (h0 : Heap) (n0 : Nat) (O0 : Old Z n0 h0) (PQ327 : Fld Z h0 a1 "com/example/reweave/reweave/control/SearchPath" "numbers" "[I" (.ref n1)) (PQ328 : Exa Z h0 n1 "[I") (PQ329 : Arv Z h0 n1 kn1 .int 576 vs1 (.int 0)) (hat : vs1.getD 9 (.int 0) = .int hv) (hln : 9 < vs1.length) (PQ330 : n0 ≤ n1) :
    MetFree l mn13 (head1 (Jvm.Cond.code mn13 prog_62_method_15_code 2 none :: ws) (rk 0 0 0 0)) (fun a U => a = #[(.ref a1), (.int 1)] ∧ Z.Warmed39 U.vm ∧ U.heap = h0) (fun _ _ _ _ _ => True) (fun _ U o U' => ∃ v L, o = .returned v ∧ Q_tl1 Z ku0 ku1 ku2 ku3 aDef aCac aEmp aMir kDef cCac a1 n1 kn1 vs1 hv h0 n0 v U'.heap L ∧ FrameEnd U o U' L (rk 0 0 0 0).cells (rk 0 0 0 0).slots) := by
  refine MetFree.of_bodySF (plainFor_of_name pn_com_example_reweave_reweave_control_SearchPath) hisR ?_
  intro p e s m args below meth c s₁ Bd hml0 hP hK
  obtain ⟨rfl, hZ, hh⟩ := hP
  have hx := Bd.exec
  have hby := Bd.bytes
  have hml : c.maxLocals = 2 := hml0
  have hown : s.vm.findClass "com/example/reweave/reweave/control/SearchPath" = some m.cls := findClass_of_methodNamed Bd.named
  have hnm := (name_of_methodNamed Bd.named Bd.method).1
  have X0 : Stand p l e (rk 0 0 0 0) s m #[(.ref a1), (.int 1)] below meth c s₁ [] 0 0 := Stand.of_body Bd
  have e0 : s₁.heap = h0 := by rw [← hh, Bd.state]; rfl
  have N0 := Fr.nil n0
  refine og (Q := fun o U' => ∃ v L, o = .returned v ∧ Q_tl1 Z ku0 ku1 ku2 ku3 aDef aCac aEmp aMir kDef cCac a1 n1 kn1 vs1 hv h0 n0 v U'.heap L ∧ FrameEnd s o U' L (rk 0 0 0 0).cells (rk 0 0 0 0).slots) (fun t k => castTop (ef_tl1 m a1 (1 : Int32)) k) ?_
  show OG p e below _ s₁ m 0 #[vr a1, vi 1] []
  refine qa X0.here hx hby dp62_15_0 rfl rfl ?_
  obtain ⟨T1453, X1453, e1453, st1453⟩ := getF X0 hx hZ hown (host := "") (Or.inl (ow hw 203 rfl)) Via.refl e0 PQ327 (g := (mkF m 1 #[vr a1, vi 1] [(.ref a1)])) rfl rfl (hb hby dp62_15_1)
  refine og st1453 ?_
  show OG p e below _ T1453 m 4 #[vr a1, vi 1] [(.ref n1)]
  refine qp X1453.here hx hby dp62_15_4 ?_
  refine qj X1453.here hx hby dp62_15_6 rfl ?_
  refine qg X1453.here hx hby dp62_15_7 rfl ?_
  show OG p e below _ T1453 m 8 #[vr a1, vi 1] [(.int ((9 : Int32) * (1 : Int32))), (.ref n1)]
  rw [show ((9 : Int32) * (1 : Int32)) = (9 : Int32) from by decide]
  refine qc X1453.here hx hby dp62_15_8 ?_
  refine qe X1453.here hx hby dp62_15_9 rfl ?_
  show OG p e below _ T1453 m 10 #[vr a1, vi 1] [(.int ((9 : Int32) + (0 : Int32))), (.ref n1)]
  rw [show ((9 : Int32) + (0 : Int32)) = (9 : Int32) from by decide]
  refine og (fun _ k => XT.dup2 X1453.here hx rfl (hb hby dp62_15_10) rfl rfl rfl k) ?_
  show OG p e below _ T1453 m 11 #[vr a1, vi 1] [(.int 9), (.ref n1), (.int 9), (.ref n1)]
  obtain ⟨c1454, Ar1454, q1454, S1454, M1454, H1454, G1454⟩ := (id PQ329)
  refine og (fun _ k => X1453.iaload hx (j := (9 : Int32)) (v := .int hv) (by rw [e1453]; exact Ar1454.1) (State.isArrayOf_alike hZ.alike Ar1454.2.1) Ar1454.2.2 (inb_of S1454 ⟨by decide, by decide⟩) (Has.at H1454 (inb_of S1454 ⟨by decide, by decide⟩) hat) (g := (mkF m 11 #[vr a1, vi 1] [(.int 9), (.ref n1), (.int 9), (.ref n1)])) rfl rfl (hb hby dp62_15_11) _ k) ?_
  show OG p e below _ T1453 m 12 #[vr a1, vi 1] [(.int hv), (.int 9), (.ref n1)]
  refine qs X1453.here hx hby dp62_15_12 ?_
  refine og (fun _ k => XS.ior X1453.here hx rfl (hb hby dp62_15_15) rfl k) ?_
  show OG p e below _ T1453 m 16 #[vr a1, vi 1] [(.int (hv ||| (256 : Int32))), (.int 9), (.ref n1)]
  obtain ⟨c1455, Ar1455, q1455, S1455, M1455, H1455, G1455⟩ := (id PQ329)
  obtain ⟨T1455, h1455, X1455, e1455, W1455, st1455⟩ := stI X1453 hx hZ e1453 Ar1455 (j := (9 : Int32)) (inb_of S1455 ⟨by decide, by decide⟩) (g := (mkF m 16 #[vr a1, vi 1] [(.int (hv ||| (256 : Int32))), (.int 9), (.ref n1)])) rfl rfl (hb hby dp62_15_16)
  obtain ⟨L1455, X1455, N1455⟩ := pk X1455 (Fr.snoc X1455 N0 PQ330)
  have O1455 := O0.wr W1455 PQ330
  have z1456 := Nat.le_trans (Nat.le_refl _) (Nat.le_of_eq W1455.size.symm)
  have V1455 : Arv Z h1455 n1 kn1 .int 576 (vs1.set 9 (.int (hv ||| (256 : Int32)))) (.int 0) := Arv.set Ar1455 q1455 S1455 M1455 H1455 G1455 rfl W1455 9 (by decide) hln
  refine og st1455 ?_
  show OG p e below _ T1455 m 17 #[vr a1, vi 1] []
  obtain ⟨fs, hr, hrun, hended, hW, hsame⟩ := X1455.leave (v := none) (fun h => rfl)
  refine ⟨_, _, X1455.returnOut hx Bd.returns (hb hby dp62_15_17) hr, hrun, hended, _, _, rfl, ?_, ⟨_, rfl⟩, hW, hsame.mono (by decide) (by decide)⟩
  show Q_tl1 Z ku0 ku1 ku2 ku3 aDef aCac aEmp aMir kDef cCac a1 n1 kn1 vs1 hv h0 n0 _ T1455.heap _
  rw [e1455]
  exact ⟨rfl, N1455, ((Keep.refl _ [n1]).wr W1455 (om 0 rfl)), V1455⟩
theorem dp62_17_0 : decode prog_62_method_17_code 0 = .ok (.aload_n 0, 1) := by decide +kernel
theorem dp62_17_1 : decode prog_62_method_17_code 1 = .ok (.getfield 9, 3) := by decide +kernel
theorem dp62_17_4 : decode prog_62_method_17_code 4 = .ok (.bipush 9, 2) := by decide +kernel
theorem dp62_17_6 : decode prog_62_method_17_code 6 = .ok (.iload_n 1, 1) := by decide +kernel
theorem dp62_17_7 : decode prog_62_method_17_code 7 = .ok (.imul, 1) := by decide +kernel
theorem dp62_17_8 : decode prog_62_method_17_code 8 = .ok (.iconst 0, 1) := by decide +kernel
theorem dp62_17_9 : decode prog_62_method_17_code 9 = .ok (.iadd, 1) := by decide +kernel
theorem dp62_17_10 : decode prog_62_method_17_code 10 = .ok (.dup2, 1) := by decide +kernel
theorem dp62_17_11 : decode prog_62_method_17_code 11 = .ok (.iaload, 1) := by decide +kernel
theorem dp62_17_12 : decode prog_62_method_17_code 12 = .ok (.sipush 512, 3) := by decide +kernel
theorem dp62_17_15 : decode prog_62_method_17_code 15 = .ok (.ior, 1) := by decide +kernel
theorem dp62_17_16 : decode prog_62_method_17_code 16 = .ok (.iastore, 1) := by decide +kernel
theorem dp62_17_17 : decode prog_62_method_17_code 17 = .ok (.return_, 1) := by decide +kernel
def Q_rc0 (Z : State) (ku0 ku1 ku2 ku3 aDef aCac aEmp aMir : Addr) (kDef : ClassId) (cCac : Cell) (a1 : Addr) (n1 : Addr) (kn1 : ClassId) (vs1 : List Value) (hv : Int32) (h0 : Heap) (n0 : Nat) (v : Option Value) (h : Heap) (L : List Loc) : Prop := v = none ∧ Fr n0 L ∧ Keep h0 h [n1] ∧ Arv Z h n1 kn1 .int 576 (vs1.set 0 (.int (hv ||| (512 : Int32)))) (.int 0)
theorem ef_rc0 (m : MethodId) (x0 : Addr) (x1 : Int32) : entryFrame m #[(.ref x0), (.int x1)] 2 = mkF m 0 #[vr x0, vi x1] [] := by first | (simp [entryFrame, mkF, argsToLocals, Value.category]; done) | rfl
theorem rm_rc0 (l : Launch) (Z : State) (a0 : Array Value) (hw : HW Z a0) (ws : List Jvm.Cond) (ku0 ku1 ku2 ku3 aDef aCac aEmp aMir : Addr) (kDef : ClassId) (cCac : Cell) (F0 : OwnFacts Z ku0 ku1 ku2 ku3 aDef aCac aEmp aMir kDef cCac) (a1 : Addr) (n1 : Addr) (kn1 : ClassId) (vs1 : List Value) (hv : Int32) (h0 : Heap) (n0 : Nat) (O0 : Old Z n0 h0) (PQ331 : Fld Z h0 a1 "com/example/reweave/reweave/control/SearchPath" "numbers" "[I" (.ref n1)) (PQ332 : Exa Z h0 n1 "[I") (PQ333 : Arv Z h0 n1 kn1 .int 576 vs1 (.int 0)) (hat : vs1.getD 0 (.int 0) = .int hv) (hln : 0 < vs1.length) (PQ334 : n0 ≤ n1) :
    MetFree l mn12 (head1 (Jvm.Cond.code mn12 prog_62_method_17_code 2 none :: ws) (rk 0 0 0 0)) (fun a U => a = #[(.ref a1), (.int 0)] ∧ Z.Warmed39 U.vm ∧ U.heap = h0) (fun _ _ _ _ _ => True) (fun _ U o U' => ∃ v L, o = .returned v ∧ Q_rc0 Z ku0 ku1 ku2 ku3 aDef aCac aEmp aMir kDef cCac a1 n1 kn1 vs1 hv h0 n0 v U'.heap L ∧ FrameEnd U o U' L (rk 0 0 0 0).cells (rk 0 0 0 0).slots) := by
  refine MetFree.of_bodySF (plainFor_of_name pn_com_example_reweave_reweave_control_SearchPath) hisR ?_
  intro p e s m args below meth c s₁ Bd hml0 hP hK
  obtain ⟨rfl, hZ, hh⟩ := hP
  have hx := Bd.exec
  have hby := Bd.bytes
  have hml : c.maxLocals = 2 := hml0
  have hown : s.vm.findClass "com/example/reweave/reweave/control/SearchPath" = some m.cls := findClass_of_methodNamed Bd.named
  have hnm := (name_of_methodNamed Bd.named Bd.method).1
  have X0 : Stand p l e (rk 0 0 0 0) s m #[(.ref a1), (.int 0)] below meth c s₁ [] 0 0 := Stand.of_body Bd
  have e0 : s₁.heap = h0 := by rw [← hh, Bd.state]; rfl
  have N0 := Fr.nil n0
  refine og (Q := fun o U' => ∃ v L, o = .returned v ∧ Q_rc0 Z ku0 ku1 ku2 ku3 aDef aCac aEmp aMir kDef cCac a1 n1 kn1 vs1 hv h0 n0 v U'.heap L ∧ FrameEnd s o U' L (rk 0 0 0 0).cells (rk 0 0 0 0).slots) (fun t k => castTop (ef_rc0 m a1 (0 : Int32)) k) ?_
  show OG p e below _ s₁ m 0 #[vr a1, vi 0] []
  refine qa X0.here hx hby dp62_17_0 rfl rfl ?_
  obtain ⟨T1457, X1457, e1457, st1457⟩ := getF X0 hx hZ hown (host := "") (Or.inl (ow hw 203 rfl)) Via.refl e0 PQ331 (g := (mkF m 1 #[vr a1, vi 0] [(.ref a1)])) rfl rfl (hb hby dp62_17_1)
  refine og st1457 ?_
  show OG p e below _ T1457 m 4 #[vr a1, vi 0] [(.ref n1)]
  refine qp X1457.here hx hby dp62_17_4 ?_
  refine qj X1457.here hx hby dp62_17_6 rfl ?_
  refine qg X1457.here hx hby dp62_17_7 rfl ?_
  show OG p e below _ T1457 m 8 #[vr a1, vi 0] [(.int ((9 : Int32) * (0 : Int32))), (.ref n1)]
  rw [show ((9 : Int32) * (0 : Int32)) = (0 : Int32) from by decide]
  refine qc X1457.here hx hby dp62_17_8 ?_
  refine qe X1457.here hx hby dp62_17_9 rfl ?_
  show OG p e below _ T1457 m 10 #[vr a1, vi 0] [(.int ((0 : Int32) + (0 : Int32))), (.ref n1)]
  rw [show ((0 : Int32) + (0 : Int32)) = (0 : Int32) from by decide]
  refine og (fun _ k => XT.dup2 X1457.here hx rfl (hb hby dp62_17_10) rfl rfl rfl k) ?_
  show OG p e below _ T1457 m 11 #[vr a1, vi 0] [(.int 0), (.ref n1), (.int 0), (.ref n1)]
  obtain ⟨c1458, Ar1458, q1458, S1458, M1458, H1458, G1458⟩ := (id PQ333)
  refine og (fun _ k => X1457.iaload hx (j := (0 : Int32)) (v := .int hv) (by rw [e1457]; exact Ar1458.1) (State.isArrayOf_alike hZ.alike Ar1458.2.1) Ar1458.2.2 (inb_of S1458 ⟨by decide, by decide⟩) (Has.at H1458 (inb_of S1458 ⟨by decide, by decide⟩) hat) (g := (mkF m 11 #[vr a1, vi 0] [(.int 0), (.ref n1), (.int 0), (.ref n1)])) rfl rfl (hb hby dp62_17_11) _ k) ?_
  show OG p e below _ T1457 m 12 #[vr a1, vi 0] [(.int hv), (.int 0), (.ref n1)]
  refine qs X1457.here hx hby dp62_17_12 ?_
  refine og (fun _ k => XS.ior X1457.here hx rfl (hb hby dp62_17_15) rfl k) ?_
  show OG p e below _ T1457 m 16 #[vr a1, vi 0] [(.int (hv ||| (512 : Int32))), (.int 0), (.ref n1)]
  obtain ⟨c1459, Ar1459, q1459, S1459, M1459, H1459, G1459⟩ := (id PQ333)
  obtain ⟨T1459, h1459, X1459, e1459, W1459, st1459⟩ := stI X1457 hx hZ e1457 Ar1459 (j := (0 : Int32)) (inb_of S1459 ⟨by decide, by decide⟩) (g := (mkF m 16 #[vr a1, vi 0] [(.int (hv ||| (512 : Int32))), (.int 0), (.ref n1)])) rfl rfl (hb hby dp62_17_16)
  obtain ⟨L1459, X1459, N1459⟩ := pk X1459 (Fr.snoc X1459 N0 PQ334)
  have O1459 := O0.wr W1459 PQ334
  have z1460 := Nat.le_trans (Nat.le_refl _) (Nat.le_of_eq W1459.size.symm)
  have V1459 : Arv Z h1459 n1 kn1 .int 576 (vs1.set 0 (.int (hv ||| (512 : Int32)))) (.int 0) := Arv.set Ar1459 q1459 S1459 M1459 H1459 G1459 rfl W1459 0 (by decide) hln
  refine og st1459 ?_
  show OG p e below _ T1459 m 17 #[vr a1, vi 0] []
  obtain ⟨fs, hr, hrun, hended, hW, hsame⟩ := X1459.leave (v := none) (fun h => rfl)
  refine ⟨_, _, X1459.returnOut hx Bd.returns (hb hby dp62_17_17) hr, hrun, hended, _, _, rfl, ?_, ⟨_, rfl⟩, hW, hsame.mono (by decide) (by decide)⟩
  show Q_rc0 Z ku0 ku1 ku2 ku3 aDef aCac aEmp aMir kDef cCac a1 n1 kn1 vs1 hv h0 n0 _ T1459.heap _
  rw [e1459]
  exact ⟨rfl, N1459, ((Keep.refl _ [n1]).wr W1459 (om 0 rfl)), V1459⟩
def Q_rc1 (Z : State) (ku0 ku1 ku2 ku3 aDef aCac aEmp aMir : Addr) (kDef : ClassId) (cCac : Cell) (a1 : Addr) (n1 : Addr) (kn1 : ClassId) (vs1 : List Value) (hv : Int32) (h0 : Heap) (n0 : Nat) (v : Option Value) (h : Heap) (L : List Loc) : Prop := v = none ∧ Fr n0 L ∧ Keep h0 h [n1] ∧ Arv Z h n1 kn1 .int 576 (vs1.set 9 (.int (hv ||| (512 : Int32)))) (.int 0)
theorem ef_rc1 (m : MethodId) (x0 : Addr) (x1 : Int32) : entryFrame m #[(.ref x0), (.int x1)] 2 = mkF m 0 #[vr x0, vi x1] [] := by first | (simp [entryFrame, mkF, argsToLocals, Value.category]; done) | rfl
theorem rm_rc1 (l : Launch) (Z : State) (a0 : Array Value) (hw : HW Z a0) (ws : List Jvm.Cond) (ku0 ku1 ku2 ku3 aDef aCac aEmp aMir : Addr) (kDef : ClassId) (cCac : Cell) (F0 : OwnFacts Z ku0 ku1 ku2 ku3 aDef aCac aEmp aMir kDef cCac) (a1 : Addr) (n1 : Addr) (kn1 : ClassId) (vs1 : List Value) (hv : Int32) (h0 : Heap) (n0 : Nat) (O0 : Old Z n0 h0) (PQ335 : Fld Z h0 a1 "com/example/reweave/reweave/control/SearchPath" "numbers" "[I" (.ref n1)) (PQ336 : Exa Z h0 n1 "[I") (PQ337 : Arv Z h0 n1 kn1 .int 576 vs1 (.int 0)) (hat : vs1.getD 9 (.int 0) = .int hv) (hln : 9 < vs1.length) (PQ338 : n0 ≤ n1) :
    MetFree l mn12 (head1 (Jvm.Cond.code mn12 prog_62_method_17_code 2 none :: ws) (rk 0 0 0 0)) (fun a U => a = #[(.ref a1), (.int 1)] ∧ Z.Warmed39 U.vm ∧ U.heap = h0) (fun _ _ _ _ _ => True) (fun _ U o U' => ∃ v L, o = .returned v ∧ Q_rc1 Z ku0 ku1 ku2 ku3 aDef aCac aEmp aMir kDef cCac a1 n1 kn1 vs1 hv h0 n0 v U'.heap L ∧ FrameEnd U o U' L (rk 0 0 0 0).cells (rk 0 0 0 0).slots) := by
  refine MetFree.of_bodySF (plainFor_of_name pn_com_example_reweave_reweave_control_SearchPath) hisR ?_
  intro p e s m args below meth c s₁ Bd hml0 hP hK
  obtain ⟨rfl, hZ, hh⟩ := hP
  have hx := Bd.exec
  have hby := Bd.bytes
  have hml : c.maxLocals = 2 := hml0
  have hown : s.vm.findClass "com/example/reweave/reweave/control/SearchPath" = some m.cls := findClass_of_methodNamed Bd.named
  have hnm := (name_of_methodNamed Bd.named Bd.method).1
  have X0 : Stand p l e (rk 0 0 0 0) s m #[(.ref a1), (.int 1)] below meth c s₁ [] 0 0 := Stand.of_body Bd
  have e0 : s₁.heap = h0 := by rw [← hh, Bd.state]; rfl
  have N0 := Fr.nil n0
  refine og (Q := fun o U' => ∃ v L, o = .returned v ∧ Q_rc1 Z ku0 ku1 ku2 ku3 aDef aCac aEmp aMir kDef cCac a1 n1 kn1 vs1 hv h0 n0 v U'.heap L ∧ FrameEnd s o U' L (rk 0 0 0 0).cells (rk 0 0 0 0).slots) (fun t k => castTop (ef_rc1 m a1 (1 : Int32)) k) ?_
  show OG p e below _ s₁ m 0 #[vr a1, vi 1] []
  refine qa X0.here hx hby dp62_17_0 rfl rfl ?_
  obtain ⟨T1461, X1461, e1461, st1461⟩ := getF X0 hx hZ hown (host := "") (Or.inl (ow hw 203 rfl)) Via.refl e0 PQ335 (g := (mkF m 1 #[vr a1, vi 1] [(.ref a1)])) rfl rfl (hb hby dp62_17_1)
  refine og st1461 ?_
  show OG p e below _ T1461 m 4 #[vr a1, vi 1] [(.ref n1)]
  refine qp X1461.here hx hby dp62_17_4 ?_
  refine qj X1461.here hx hby dp62_17_6 rfl ?_
  refine qg X1461.here hx hby dp62_17_7 rfl ?_
  show OG p e below _ T1461 m 8 #[vr a1, vi 1] [(.int ((9 : Int32) * (1 : Int32))), (.ref n1)]
  rw [show ((9 : Int32) * (1 : Int32)) = (9 : Int32) from by decide]
  refine qc X1461.here hx hby dp62_17_8 ?_
  refine qe X1461.here hx hby dp62_17_9 rfl ?_
  show OG p e below _ T1461 m 10 #[vr a1, vi 1] [(.int ((9 : Int32) + (0 : Int32))), (.ref n1)]
  rw [show ((9 : Int32) + (0 : Int32)) = (9 : Int32) from by decide]
  refine og (fun _ k => XT.dup2 X1461.here hx rfl (hb hby dp62_17_10) rfl rfl rfl k) ?_
  show OG p e below _ T1461 m 11 #[vr a1, vi 1] [(.int 9), (.ref n1), (.int 9), (.ref n1)]
  obtain ⟨c1462, Ar1462, q1462, S1462, M1462, H1462, G1462⟩ := (id PQ337)
  refine og (fun _ k => X1461.iaload hx (j := (9 : Int32)) (v := .int hv) (by rw [e1461]; exact Ar1462.1) (State.isArrayOf_alike hZ.alike Ar1462.2.1) Ar1462.2.2 (inb_of S1462 ⟨by decide, by decide⟩) (Has.at H1462 (inb_of S1462 ⟨by decide, by decide⟩) hat) (g := (mkF m 11 #[vr a1, vi 1] [(.int 9), (.ref n1), (.int 9), (.ref n1)])) rfl rfl (hb hby dp62_17_11) _ k) ?_
  show OG p e below _ T1461 m 12 #[vr a1, vi 1] [(.int hv), (.int 9), (.ref n1)]
  refine qs X1461.here hx hby dp62_17_12 ?_
  refine og (fun _ k => XS.ior X1461.here hx rfl (hb hby dp62_17_15) rfl k) ?_
  show OG p e below _ T1461 m 16 #[vr a1, vi 1] [(.int (hv ||| (512 : Int32))), (.int 9), (.ref n1)]
  obtain ⟨c1463, Ar1463, q1463, S1463, M1463, H1463, G1463⟩ := (id PQ337)
  obtain ⟨T1463, h1463, X1463, e1463, W1463, st1463⟩ := stI X1461 hx hZ e1461 Ar1463 (j := (9 : Int32)) (inb_of S1463 ⟨by decide, by decide⟩) (g := (mkF m 16 #[vr a1, vi 1] [(.int (hv ||| (512 : Int32))), (.int 9), (.ref n1)])) rfl rfl (hb hby dp62_17_16)
  obtain ⟨L1463, X1463, N1463⟩ := pk X1463 (Fr.snoc X1463 N0 PQ338)
  have O1463 := O0.wr W1463 PQ338
  have z1464 := Nat.le_trans (Nat.le_refl _) (Nat.le_of_eq W1463.size.symm)
  have V1463 : Arv Z h1463 n1 kn1 .int 576 (vs1.set 9 (.int (hv ||| (512 : Int32)))) (.int 0) := Arv.set Ar1463 q1463 S1463 M1463 H1463 G1463 rfl W1463 9 (by decide) hln
  refine og st1463 ?_
  show OG p e below _ T1463 m 17 #[vr a1, vi 1] []
  obtain ⟨fs, hr, hrun, hended, hW, hsame⟩ := X1463.leave (v := none) (fun h => rfl)
  refine ⟨_, _, X1463.returnOut hx Bd.returns (hb hby dp62_17_17) hr, hrun, hended, _, _, rfl, ?_, ⟨_, rfl⟩, hW, hsame.mono (by decide) (by decide)⟩
  show Q_rc1 Z ku0 ku1 ku2 ku3 aDef aCac aEmp aMir kDef cCac a1 n1 kn1 vs1 hv h0 n0 _ T1463.heap _
  rw [e1463]
  exact ⟨rfl, N1463, ((Keep.refl _ [n1]).wr W1463 (om 0 rfl)), V1463⟩
theorem dp62_16_0 : decode prog_62_method_16_code 0 = .ok (.aload_n 0, 1) := by decide +kernel
theorem dp62_16_1 : decode prog_62_method_16_code 1 = .ok (.getfield 9, 3) := by decide +kernel
theorem dp62_16_4 : decode prog_62_method_16_code 4 = .ok (.bipush 9, 2) := by decide +kernel
theorem dp62_16_6 : decode prog_62_method_16_code 6 = .ok (.iload_n 1, 1) := by decide +kernel
theorem dp62_16_7 : decode prog_62_method_16_code 7 = .ok (.imul, 1) := by decide +kernel
theorem dp62_16_8 : decode prog_62_method_16_code 8 = .ok (.iconst 0, 1) := by decide +kernel
theorem dp62_16_9 : decode prog_62_method_16_code 9 = .ok (.iadd, 1) := by decide +kernel
theorem dp62_16_10 : decode prog_62_method_16_code 10 = .ok (.iaload, 1) := by decide +kernel
theorem dp62_16_11 : decode prog_62_method_16_code 11 = .ok (.sipush 512, 3) := by decide +kernel
theorem dp62_16_14 : decode prog_62_method_16_code 14 = .ok (.iand, 1) := by decide +kernel
theorem dp62_16_15 : decode prog_62_method_16_code 15 = .ok (.ifCond .eq 7, 3) := by decide +kernel
theorem dp62_16_22 : decode prog_62_method_16_code 22 = .ok (.iconst 0, 1) := by decide +kernel
theorem dp62_16_23 : decode prog_62_method_16_code 23 = .ok (.ireturn, 1) := by decide +kernel
theorem dp62_16_18 : decode prog_62_method_16_code 18 = .ok (.iconst 1, 1) := by decide +kernel
theorem dp62_16_19 : decode prog_62_method_16_code 19 = .ok (.goto 4, 3) := by decide +kernel
def Q_hs0 (Z : State) (ku0 ku1 ku2 ku3 aDef aCac aEmp aMir : Addr) (kDef : ClassId) (cCac : Cell) (a1 : Addr) (n1 : Addr) (kn1 : ClassId) (vs1 : List Value) (hv : Int32) (r0 : Int32) (h0 : Heap) (n0 : Nat) (v : Option Value) (h : Heap) (L : List Loc) : Prop := v = some (.int r0) ∧ Fr n0 L ∧ h = h0
theorem ef_hs0 (m : MethodId) (x0 : Addr) (x1 : Int32) : entryFrame m #[(.ref x0), (.int x1)] 2 = mkF m 0 #[vr x0, vi x1] [] := by first | (simp [entryFrame, mkF, argsToLocals, Value.category]; done) | rfl
theorem rm_hs0 (l : Launch) (Z : State) (a0 : Array Value) (hw : HW Z a0) (ws : List Jvm.Cond) (ku0 ku1 ku2 ku3 aDef aCac aEmp aMir : Addr) (kDef : ClassId) (cCac : Cell) (F0 : OwnFacts Z ku0 ku1 ku2 ku3 aDef aCac aEmp aMir kDef cCac) (a1 : Addr) (n1 : Addr) (kn1 : ClassId) (vs1 : List Value) (hv : Int32) (r0 : Int32) (h0 : Heap) (n0 : Nat) (O0 : Old Z n0 h0) (PQ339 : Fld Z h0 a1 "com/example/reweave/reweave/control/SearchPath" "numbers" "[I" (.ref n1)) (PQ340 : Exa Z h0 n1 "[I") (PQ341 : Arv Z h0 n1 kn1 .int 576 vs1 (.int 0)) (hat : vs1.getD 0 (.int 0) = .int hv) (hln : 0 < vs1.length) (hr0 : (if hv &&& (512 : Int32) = (0 : Int32) then (0 : Int32) else (1 : Int32)) = r0) :
    MetFree l mn10 (head1 (Jvm.Cond.code mn10 prog_62_method_16_code 2 (some .boolean) :: ws) (rk 0 0 0 0)) (fun a U => a = #[(.ref a1), (.int 0)] ∧ Z.Warmed39 U.vm ∧ U.heap = h0) (fun _ _ _ _ _ => True) (fun _ U o U' => ∃ v L, o = .returned v ∧ Q_hs0 Z ku0 ku1 ku2 ku3 aDef aCac aEmp aMir kDef cCac a1 n1 kn1 vs1 hv r0 h0 n0 v U'.heap L ∧ FrameEnd U o U' L (rk 0 0 0 0).cells (rk 0 0 0 0).slots) := by
  refine MetFree.of_bodySF (plainFor_of_name pn_com_example_reweave_reweave_control_SearchPath) hisR ?_
  intro p e s m args below meth c s₁ Bd hml0 hP hK
  obtain ⟨rfl, hZ, hh⟩ := hP
  have hx := Bd.exec
  have hby := Bd.bytes
  have hml : c.maxLocals = 2 := hml0
  have hown : s.vm.findClass "com/example/reweave/reweave/control/SearchPath" = some m.cls := findClass_of_methodNamed Bd.named
  have hnm := (name_of_methodNamed Bd.named Bd.method).1
  have X0 : Stand p l e (rk 0 0 0 0) s m #[(.ref a1), (.int 0)] below meth c s₁ [] 0 0 := Stand.of_body Bd
  have e0 : s₁.heap = h0 := by rw [← hh, Bd.state]; rfl
  have N0 := Fr.nil n0
  refine og (Q := fun o U' => ∃ v L, o = .returned v ∧ Q_hs0 Z ku0 ku1 ku2 ku3 aDef aCac aEmp aMir kDef cCac a1 n1 kn1 vs1 hv r0 h0 n0 v U'.heap L ∧ FrameEnd s o U' L (rk 0 0 0 0).cells (rk 0 0 0 0).slots) (fun t k => castTop (ef_hs0 m a1 (0 : Int32)) k) ?_
  show OG p e below _ s₁ m 0 #[vr a1, vi 0] []
  refine qa X0.here hx hby dp62_16_0 rfl rfl ?_
  obtain ⟨T1465, X1465, e1465, st1465⟩ := getF X0 hx hZ hown (host := "") (Or.inl (ow hw 203 rfl)) Via.refl e0 PQ339 (g := (mkF m 1 #[vr a1, vi 0] [(.ref a1)])) rfl rfl (hb hby dp62_16_1)
  refine og st1465 ?_
  show OG p e below _ T1465 m 4 #[vr a1, vi 0] [(.ref n1)]
  refine qp X1465.here hx hby dp62_16_4 ?_
  refine qj X1465.here hx hby dp62_16_6 rfl ?_
  refine qg X1465.here hx hby dp62_16_7 rfl ?_
  show OG p e below _ T1465 m 8 #[vr a1, vi 0] [(.int ((9 : Int32) * (0 : Int32))), (.ref n1)]
  rw [show ((9 : Int32) * (0 : Int32)) = (0 : Int32) from by decide]
  refine qc X1465.here hx hby dp62_16_8 ?_
  refine qe X1465.here hx hby dp62_16_9 rfl ?_
  show OG p e below _ T1465 m 10 #[vr a1, vi 0] [(.int ((0 : Int32) + (0 : Int32))), (.ref n1)]
  rw [show ((0 : Int32) + (0 : Int32)) = (0 : Int32) from by decide]
  obtain ⟨c1466, Ar1466, q1466, S1466, M1466, H1466, G1466⟩ := (id PQ341)
  refine og (fun _ k => X1465.iaload hx (j := (0 : Int32)) (v := .int hv) (by rw [e1465]; exact Ar1466.1) (State.isArrayOf_alike hZ.alike Ar1466.2.1) Ar1466.2.2 (inb_of S1466 ⟨by decide, by decide⟩) (Has.at H1466 (inb_of S1466 ⟨by decide, by decide⟩) hat) (g := (mkF m 10 #[vr a1, vi 0] [(.int 0), (.ref n1)])) rfl rfl (hb hby dp62_16_10) _ k) ?_
  show OG p e below _ T1465 m 11 #[vr a1, vi 0] [(.int hv)]
  refine qs X1465.here hx hby dp62_16_11 ?_
  refine qh X1465.here hx hby dp62_16_14 rfl ?_
  by_cases hc1467 : (hv &&& (512 : Int32)) = (0 : Int32)
  · refine og (fun _ k => XS.ifYes X1465.here hx rfl (pc0 := 15) (pc' := 22) rfl (hb hby dp62_16_15) rfl ((if0 _ _).trans (teq hc1467).1) (by decide) (by decide) k) ?_
    show OG p e below _ T1465 m 22 #[vr a1, vi 0] []
    refine qc X1465.here hx hby dp62_16_22 ?_
    obtain ⟨fs, hr, hrun, hended, hW, hsame⟩ := X1465.leave (v := some (.int 0)) (fun h => by rw [Bd.returns] at h; cases h)
    refine ⟨_, _, retOut X1465 hx Bd.returns rfl (Or.inl ⟨rfl, Or.inr (Or.inl rfl), _, rfl⟩) (hb hby dp62_16_23) hr, hrun, hended, _, _, rfl, ?_, ⟨_, rfl⟩, hW, hsame.mono (by decide) (by decide)⟩
    show Q_hs0 Z ku0 ku1 ku2 ku3 aDef aCac aEmp aMir kDef cCac a1 n1 kn1 vs1 hv r0 h0 n0 _ T1465.heap _
    rw [e1465]
    exact ⟨(by rw [← hr0]; simp [hc1467]), N0, rfl⟩
  · refine og (fun _ k => XS.ifNo X1465.here hx rfl (hb hby dp62_16_15) rfl ((if0 _ _).trans (feq hc1467).1) k) ?_
    show OG p e below _ T1465 m 18 #[vr a1, vi 0] []
    refine qc X1465.here hx hby dp62_16_18 ?_
    refine og (fun _ k => XS.goto X1465.here hx rfl (pc0 := 19) (pc' := 23) rfl (hb hby dp62_16_19) (by decide) (by decide) k) ?_
    obtain ⟨fs, hr, hrun, hended, hW, hsame⟩ := X1465.leave (v := some (.int 1)) (fun h => by rw [Bd.returns] at h; cases h)
    refine ⟨_, _, retOut X1465 hx Bd.returns rfl (Or.inl ⟨rfl, Or.inr (Or.inl rfl), _, rfl⟩) (hb hby dp62_16_23) hr, hrun, hended, _, _, rfl, ?_, ⟨_, rfl⟩, hW, hsame.mono (by decide) (by decide)⟩
    show Q_hs0 Z ku0 ku1 ku2 ku3 aDef aCac aEmp aMir kDef cCac a1 n1 kn1 vs1 hv r0 h0 n0 _ T1465.heap _
    rw [e1465]
    exact ⟨(by rw [← hr0]; simp [hc1467]), N0, rfl⟩
def Q_hs1 (Z : State) (ku0 ku1 ku2 ku3 aDef aCac aEmp aMir : Addr) (kDef : ClassId) (cCac : Cell) (a1 : Addr) (n1 : Addr) (kn1 : ClassId) (vs1 : List Value) (hv : Int32) (r0 : Int32) (h0 : Heap) (n0 : Nat) (v : Option Value) (h : Heap) (L : List Loc) : Prop := v = some (.int r0) ∧ Fr n0 L ∧ h = h0
theorem ef_hs1 (m : MethodId) (x0 : Addr) (x1 : Int32) : entryFrame m #[(.ref x0), (.int x1)] 2 = mkF m 0 #[vr x0, vi x1] [] := by first | (simp [entryFrame, mkF, argsToLocals, Value.category]; done) | rfl
theorem rm_hs1 (l : Launch) (Z : State) (a0 : Array Value) (hw : HW Z a0) (ws : List Jvm.Cond) (ku0 ku1 ku2 ku3 aDef aCac aEmp aMir : Addr) (kDef : ClassId) (cCac : Cell) (F0 : OwnFacts Z ku0 ku1 ku2 ku3 aDef aCac aEmp aMir kDef cCac) (a1 : Addr) (n1 : Addr) (kn1 : ClassId) (vs1 : List Value) (hv : Int32) (r0 : Int32) (h0 : Heap) (n0 : Nat) (O0 : Old Z n0 h0) (PQ342 : Fld Z h0 a1 "com/example/reweave/reweave/control/SearchPath" "numbers" "[I" (.ref n1)) (PQ343 : Exa Z h0 n1 "[I") (PQ344 : Arv Z h0 n1 kn1 .int 576 vs1 (.int 0)) (hat : vs1.getD 9 (.int 0) = .int hv) (hln : 9 < vs1.length) (hr0 : (if hv &&& (512 : Int32) = (0 : Int32) then (0 : Int32) else (1 : Int32)) = r0) :
    MetFree l mn10 (head1 (Jvm.Cond.code mn10 prog_62_method_16_code 2 (some .boolean) :: ws) (rk 0 0 0 0)) (fun a U => a = #[(.ref a1), (.int 1)] ∧ Z.Warmed39 U.vm ∧ U.heap = h0) (fun _ _ _ _ _ => True) (fun _ U o U' => ∃ v L, o = .returned v ∧ Q_hs1 Z ku0 ku1 ku2 ku3 aDef aCac aEmp aMir kDef cCac a1 n1 kn1 vs1 hv r0 h0 n0 v U'.heap L ∧ FrameEnd U o U' L (rk 0 0 0 0).cells (rk 0 0 0 0).slots) := by
  refine MetFree.of_bodySF (plainFor_of_name pn_com_example_reweave_reweave_control_SearchPath) hisR ?_
  intro p e s m args below meth c s₁ Bd hml0 hP hK
  obtain ⟨rfl, hZ, hh⟩ := hP
  have hx := Bd.exec
  have hby := Bd.bytes
  have hml : c.maxLocals = 2 := hml0
  have hown : s.vm.findClass "com/example/reweave/reweave/control/SearchPath" = some m.cls := findClass_of_methodNamed Bd.named
  have hnm := (name_of_methodNamed Bd.named Bd.method).1
  have X0 : Stand p l e (rk 0 0 0 0) s m #[(.ref a1), (.int 1)] below meth c s₁ [] 0 0 := Stand.of_body Bd
  have e0 : s₁.heap = h0 := by rw [← hh, Bd.state]; rfl
  have N0 := Fr.nil n0
  refine og (Q := fun o U' => ∃ v L, o = .returned v ∧ Q_hs1 Z ku0 ku1 ku2 ku3 aDef aCac aEmp aMir kDef cCac a1 n1 kn1 vs1 hv r0 h0 n0 v U'.heap L ∧ FrameEnd s o U' L (rk 0 0 0 0).cells (rk 0 0 0 0).slots) (fun t k => castTop (ef_hs1 m a1 (1 : Int32)) k) ?_
  show OG p e below _ s₁ m 0 #[vr a1, vi 1] []
  refine qa X0.here hx hby dp62_16_0 rfl rfl ?_
  obtain ⟨T1468, X1468, e1468, st1468⟩ := getF X0 hx hZ hown (host := "") (Or.inl (ow hw 203 rfl)) Via.refl e0 PQ342 (g := (mkF m 1 #[vr a1, vi 1] [(.ref a1)])) rfl rfl (hb hby dp62_16_1)
  refine og st1468 ?_
  show OG p e below _ T1468 m 4 #[vr a1, vi 1] [(.ref n1)]
  refine qp X1468.here hx hby dp62_16_4 ?_
  refine qj X1468.here hx hby dp62_16_6 rfl ?_
  refine qg X1468.here hx hby dp62_16_7 rfl ?_
  show OG p e below _ T1468 m 8 #[vr a1, vi 1] [(.int ((9 : Int32) * (1 : Int32))), (.ref n1)]
  rw [show ((9 : Int32) * (1 : Int32)) = (9 : Int32) from by decide]
  refine qc X1468.here hx hby dp62_16_8 ?_
  refine qe X1468.here hx hby dp62_16_9 rfl ?_
  show OG p e below _ T1468 m 10 #[vr a1, vi 1] [(.int ((9 : Int32) + (0 : Int32))), (.ref n1)]
  rw [show ((9 : Int32) + (0 : Int32)) = (9 : Int32) from by decide]
  obtain ⟨c1469, Ar1469, q1469, S1469, M1469, H1469, G1469⟩ := (id PQ344)
  refine og (fun _ k => X1468.iaload hx (j := (9 : Int32)) (v := .int hv) (by rw [e1468]; exact Ar1469.1) (State.isArrayOf_alike hZ.alike Ar1469.2.1) Ar1469.2.2 (inb_of S1469 ⟨by decide, by decide⟩) (Has.at H1469 (inb_of S1469 ⟨by decide, by decide⟩) hat) (g := (mkF m 10 #[vr a1, vi 1] [(.int 9), (.ref n1)])) rfl rfl (hb hby dp62_16_10) _ k) ?_
  show OG p e below _ T1468 m 11 #[vr a1, vi 1] [(.int hv)]
  refine qs X1468.here hx hby dp62_16_11 ?_
  refine qh X1468.here hx hby dp62_16_14 rfl ?_
  by_cases hc1470 : (hv &&& (512 : Int32)) = (0 : Int32)
  · refine og (fun _ k => XS.ifYes X1468.here hx rfl (pc0 := 15) (pc' := 22) rfl (hb hby dp62_16_15) rfl ((if0 _ _).trans (teq hc1470).1) (by decide) (by decide) k) ?_
    show OG p e below _ T1468 m 22 #[vr a1, vi 1] []
    refine qc X1468.here hx hby dp62_16_22 ?_
    obtain ⟨fs, hr, hrun, hended, hW, hsame⟩ := X1468.leave (v := some (.int 0)) (fun h => by rw [Bd.returns] at h; cases h)
    refine ⟨_, _, retOut X1468 hx Bd.returns rfl (Or.inl ⟨rfl, Or.inr (Or.inl rfl), _, rfl⟩) (hb hby dp62_16_23) hr, hrun, hended, _, _, rfl, ?_, ⟨_, rfl⟩, hW, hsame.mono (by decide) (by decide)⟩
    show Q_hs1 Z ku0 ku1 ku2 ku3 aDef aCac aEmp aMir kDef cCac a1 n1 kn1 vs1 hv r0 h0 n0 _ T1468.heap _
    rw [e1468]
    exact ⟨(by rw [← hr0]; simp [hc1470]), N0, rfl⟩
  · refine og (fun _ k => XS.ifNo X1468.here hx rfl (hb hby dp62_16_15) rfl ((if0 _ _).trans (feq hc1470).1) k) ?_
    show OG p e below _ T1468 m 18 #[vr a1, vi 1] []
    refine qc X1468.here hx hby dp62_16_18 ?_
    refine og (fun _ k => XS.goto X1468.here hx rfl (pc0 := 19) (pc' := 23) rfl (hb hby dp62_16_19) (by decide) (by decide) k) ?_
    obtain ⟨fs, hr, hrun, hended, hW, hsame⟩ := X1468.leave (v := some (.int 1)) (fun h => by rw [Bd.returns] at h; cases h)
    refine ⟨_, _, retOut X1468 hx Bd.returns rfl (Or.inl ⟨rfl, Or.inr (Or.inl rfl), _, rfl⟩) (hb hby dp62_16_23) hr, hrun, hended, _, _, rfl, ?_, ⟨_, rfl⟩, hW, hsame.mono (by decide) (by decide)⟩
    show Q_hs1 Z ku0 ku1 ku2 ku3 aDef aCac aEmp aMir kDef cCac a1 n1 kn1 vs1 hv r0 h0 n0 _ T1468.heap _
    rw [e1468]
    exact ⟨(by rw [← hr0]; simp [hc1470]), N0, rfl⟩
theorem pd_I__Ljava_lang_Integer_ : parseMethodDescriptor "(I)Ljava/lang/Integer;" = some ⟨[.int], some (.object "java/lang/Integer")⟩ := by decide +kernel
theorem pd_I__Lcom_example_reweave_reweave_control_Point_Kind_ : parseMethodDescriptor "(I)Lcom/example/reweave/reweave/control/Point$Kind;" = some ⟨[.int], some (.object "com/example/reweave/reweave/control/Point$Kind")⟩ := by decide +kernel
theorem pd_Lcom_example_reweave_reweave_control_Point_Kind__I_Lcom_example_reweave_reweave_control_Location__Ljava_util_List___V : parseMethodDescriptor "(Lcom/example/reweave/reweave/control/Point$Kind;ILcom/example/reweave/reweave/control/Location;Ljava/util/List;)V" = some ⟨[(.object "com/example/reweave/reweave/control/Point$Kind"), .int, (.object "com/example/reweave/reweave/control/Location"), (.object "java/util/List")], none⟩ := by decide +kernel
theorem pd_Ljava_lang_Object__Ljava_util_List__Ljava_util_List___I : parseMethodDescriptor "(Ljava/lang/Object;Ljava/util/List;Ljava/util/List;)I" = some ⟨[(.object "java/lang/Object"), (.object "java/util/List"), (.object "java/util/List")], some .int⟩ := by decide +kernel
theorem pd_I__Z : parseMethodDescriptor "(I)Z" = some ⟨[.int], some .boolean⟩ := by decide +kernel
theorem pd_I__V : parseMethodDescriptor "(I)V" = some ⟨[.int], none⟩ := by decide +kernel
def Q_law (Z : State) (ku0 ku1 ku2 ku3 aDef aCac aEmp aMir : Addr) (kDef : ClassId) (cCac : Cell) (p0 : Int32) (p1 : Int32) (p2 : Int32) (p3 : Int32) (h0 : Heap) (n0 : Nat) (v : Option Value) (h : Heap) (L : List Loc) : Prop := v = some (.int 1) ∧ Fr n0 L
theorem ef_law (m : MethodId) (x0 : Int32) (x1 : Int32) (x2 : Int32) (x3 : Int32) : entryFrame m #[(.int x0), (.int x1), (.int x2), (.int x3)] maxLocals = mkF m 0 #[vi x0, vi x1, vi x2, vi x3, .unset, .unset, .unset, .unset, .unset, .unset, .unset, .unset, .unset, .unset, .unset] [] := by first | (simp [entryFrame, mkF, argsToLocals, Value.category, maxLocals]; done) | rfl
theorem rm_law (l : Launch) (Z : State) (a0 : Array Value) (hw : HW Z a0) (ws : List Jvm.Cond) (ku0 ku1 ku2 ku3 aDef aCac aEmp aMir : Addr) (kDef : ClassId) (cCac : Cell) (F0 : OwnFacts Z ku0 ku1 ku2 ku3 aDef aCac aEmp aMir kDef cCac) (p0 : Int32) (p1 : Int32) (p2 : Int32) (p3 : Int32) (h0 : Heap) (n0 : Nat) (O0 : Old Z n0 h0) :
    MetFree l x (head1 (Jvm.Cond.code x code maxLocals ret :: ws) room_1) (fun a U => a = #[(.int p0), (.int p1), (.int p2), (.int p3)] ∧ Z.Warmed39 U.vm ∧ U.heap = h0) (fun _ _ _ _ _ => True) (fun _ U o U' => ∃ v L, o = .returned v ∧ Q_law Z ku0 ku1 ku2 ku3 aDef aCac aEmp aMir kDef cCac p0 p1 p2 p3 h0 n0 v U'.heap L ∧ FrameEnd U o U' L 33 1107) := by
  refine MetFree.of_bodySF (plainFor_of_name pn_com_example_reweave_reweave_control_SearchPathHasRacedWithoutAMonitorPinLaw) hisR ?_
  intro p e s m args below meth c s₁ Bd hml0 hP hK
  obtain ⟨rfl, hZ, hh⟩ := hP
  have hx := Bd.exec
  have hby := Bd.bytes
  have hml : c.maxLocals = 15 := hml0
  have hown : s.vm.findClass "com/example/reweave/reweave/control/SearchPathHasRacedWithoutAMonitorPinLaw" = some m.cls := findClass_of_methodNamed Bd.named
  have hnm := (name_of_methodNamed Bd.named Bd.method).1
  have X0 : Stand p l e room_1 s m #[(.int p0), (.int p1), (.int p2), (.int p3)] below meth c s₁ [] 0 0 := Stand.of_body Bd
  have e0 : s₁.heap = h0 := by rw [← hh, Bd.state]; rfl
  have N0 := Fr.nil n0
  refine og (Q := fun o U' => ∃ v L, o = .returned v ∧ Q_law Z ku0 ku1 ku2 ku3 aDef aCac aEmp aMir kDef cCac p0 p1 p2 p3 h0 n0 v U'.heap L ∧ FrameEnd s o U' L 33 1107) (fun t k => castTop (ef_law m p0 p1 p2 p3) k) ?_
  show OG p e below _ s₁ m 0 #[vi p0, vi p1, vi p2, vi p3, .unset, .unset, .unset, .unset, .unset, .unset, .unset, .unset, .unset, .unset, .unset] []
  refine qj X0.here hx hby at_0 rfl ?_
  refine qc X0.here hx hby at_1 ?_
  refine qh X0.here hx hby at_2 rfl ?_
  show OG p e below _ s₁ m 3 #[vi p0, vi p1, vi p2, vi p3, .unset, .unset, .unset, .unset, .unset, .unset, .unset, .unset, .unset, .unset, .unset] [(.int (p0 &&& (1 : Int32)))]
  have k11 : ∀ f4 : Int32, (f4 = (0 : Int32) ∨ f4 = (1 : Int32)) → OwnGo p e below (fun o U' => ∃ v L, o = .returned v ∧ Q_law Z ku0 ku1 ku2 ku3 aDef aCac aEmp aMir kDef cCac p0 p1 p2 p3 h0 n0 v U'.heap L ∧ FrameEnd s o U' L 33 1107) (s₁.setTop (mkF m 11 #[vi p0, vi p1, vi p2, vi p3, .unset, .unset, .unset, .unset, .unset, .unset, .unset, .unset, .unset, .unset, .unset] [(.int f4)])) := by
   intro f4 hf4
   show OG p e below _ s₁ m 11 #[vi p0, vi p1, vi p2, vi p3, .unset, .unset, .unset, .unset, .unset, .unset, .unset, .unset, .unset, .unset, .unset] [(.int f4)]
   refine og (fun _ k => XS.istore X0.here hx rfl (hb hby at_11) rfl (l' := #[vi p0, vi p1, vi p2, vi p3, vi f4, .unset, .unset, .unset, .unset, .unset, .unset, .unset, .unset, .unset, .unset]) rfl k) ?_
   show OG p e below _ s₁ m 13 #[vi p0, vi p1, vi p2, vi p3, vi f4, .unset, .unset, .unset, .unset, .unset, .unset, .unset, .unset, .unset, .unset] []
   refine qj X0.here hx hby at_13 rfl ?_
   refine qc X0.here hx hby at_14 ?_
   refine qh X0.here hx hby at_15 rfl ?_
   show OG p e below _ s₁ m 16 #[vi p0, vi p1, vi p2, vi p3, vi f4, .unset, .unset, .unset, .unset, .unset, .unset, .unset, .unset, .unset, .unset] [(.int (p0 &&& (2 : Int32)))]
   have k24 : ∀ f5 : Int32, (f5 = (0 : Int32) ∨ f5 = (1 : Int32)) → OwnGo p e below (fun o U' => ∃ v L, o = .returned v ∧ Q_law Z ku0 ku1 ku2 ku3 aDef aCac aEmp aMir kDef cCac p0 p1 p2 p3 h0 n0 v U'.heap L ∧ FrameEnd s o U' L 33 1107) (s₁.setTop (mkF m 24 #[vi p0, vi p1, vi p2, vi p3, vi f4, .unset, .unset, .unset, .unset, .unset, .unset, .unset, .unset, .unset, .unset] [(.int f5)])) := by
    intro f5 hf5
    show OG p e below _ s₁ m 24 #[vi p0, vi p1, vi p2, vi p3, vi f4, .unset, .unset, .unset, .unset, .unset, .unset, .unset, .unset, .unset, .unset] [(.int f5)]
    refine og (fun _ k => XS.istore X0.here hx rfl (hb hby at_24) rfl (l' := #[vi p0, vi p1, vi p2, vi p3, vi f4, vi f5, .unset, .unset, .unset, .unset, .unset, .unset, .unset, .unset, .unset]) rfl k) ?_
    show OG p e below _ s₁ m 26 #[vi p0, vi p1, vi p2, vi p3, vi f4, vi f5, .unset, .unset, .unset, .unset, .unset, .unset, .unset, .unset, .unset] []
    refine qj X0.here hx hby at_26 rfl ?_
    refine qc X0.here hx hby at_27 ?_
    refine qh X0.here hx hby at_28 rfl ?_
    show OG p e below _ s₁ m 29 #[vi p0, vi p1, vi p2, vi p3, vi f4, vi f5, .unset, .unset, .unset, .unset, .unset, .unset, .unset, .unset, .unset] [(.int (p0 &&& (4 : Int32)))]
    have k37 : ∀ f6 : Int32, (f6 = (0 : Int32) ∨ f6 = (1 : Int32)) → OwnGo p e below (fun o U' => ∃ v L, o = .returned v ∧ Q_law Z ku0 ku1 ku2 ku3 aDef aCac aEmp aMir kDef cCac p0 p1 p2 p3 h0 n0 v U'.heap L ∧ FrameEnd s o U' L 33 1107) (s₁.setTop (mkF m 37 #[vi p0, vi p1, vi p2, vi p3, vi f4, vi f5, .unset, .unset, .unset, .unset, .unset, .unset, .unset, .unset, .unset] [(.int f6)])) := by
     intro f6 hf6
     show OG p e below _ s₁ m 37 #[vi p0, vi p1, vi p2, vi p3, vi f4, vi f5, .unset, .unset, .unset, .unset, .unset, .unset, .unset, .unset, .unset] [(.int f6)]
     refine og (fun _ k => XS.istore X0.here hx rfl (hb hby at_37) rfl (l' := #[vi p0, vi p1, vi p2, vi p3, vi f4, vi f5, vi f6, .unset, .unset, .unset, .unset, .unset, .unset, .unset, .unset]) rfl k) ?_
     show OG p e below _ s₁ m 39 #[vi p0, vi p1, vi p2, vi p3, vi f4, vi f5, vi f6, .unset, .unset, .unset, .unset, .unset, .unset, .unset, .unset] []
     refine qj X0.here hx hby at_39 rfl ?_
     refine qp X0.here hx hby at_40 ?_
     refine qh X0.here hx hby at_42 rfl ?_
     show OG p e below _ s₁ m 43 #[vi p0, vi p1, vi p2, vi p3, vi f4, vi f5, vi f6, .unset, .unset, .unset, .unset, .unset, .unset, .unset, .unset] [(.int (p0 &&& (8 : Int32)))]
     have k51 : ∀ f7 : Int32, (f7 = (0 : Int32) ∨ f7 = (1 : Int32)) → OwnGo p e below (fun o U' => ∃ v L, o = .returned v ∧ Q_law Z ku0 ku1 ku2 ku3 aDef aCac aEmp aMir kDef cCac p0 p1 p2 p3 h0 n0 v U'.heap L ∧ FrameEnd s o U' L 33 1107) (s₁.setTop (mkF m 51 #[vi p0, vi p1, vi p2, vi p3, vi f4, vi f5, vi f6, .unset, .unset, .unset, .unset, .unset, .unset, .unset, .unset] [(.int f7)])) := by
      intro f7 hf7
      show OG p e below _ s₁ m 51 #[vi p0, vi p1, vi p2, vi p3, vi f4, vi f5, vi f6, .unset, .unset, .unset, .unset, .unset, .unset, .unset, .unset] [(.int f7)]
      refine og (fun _ k => XS.istore X0.here hx rfl (hb hby at_51) rfl (l' := #[vi p0, vi p1, vi p2, vi p3, vi f4, vi f5, vi f6, vi f7, .unset, .unset, .unset, .unset, .unset, .unset, .unset]) rfl k) ?_
      show OG p e below _ s₁ m 53 #[vi p0, vi p1, vi p2, vi p3, vi f4, vi f5, vi f6, vi f7, .unset, .unset, .unset, .unset, .unset, .unset, .unset] []
      refine qj X0.here hx hby at_53 rfl ?_
      refine qp X0.here hx hby at_54 ?_
      refine qh X0.here hx hby at_56 rfl ?_
      show OG p e below _ s₁ m 57 #[vi p0, vi p1, vi p2, vi p3, vi f4, vi f5, vi f6, vi f7, .unset, .unset, .unset, .unset, .unset, .unset, .unset] [(.int (p0 &&& (16 : Int32)))]
      have k65 : ∀ f8 : Int32, (f8 = (0 : Int32) ∨ f8 = (1 : Int32)) → OwnGo p e below (fun o U' => ∃ v L, o = .returned v ∧ Q_law Z ku0 ku1 ku2 ku3 aDef aCac aEmp aMir kDef cCac p0 p1 p2 p3 h0 n0 v U'.heap L ∧ FrameEnd s o U' L 33 1107) (s₁.setTop (mkF m 65 #[vi p0, vi p1, vi p2, vi p3, vi f4, vi f5, vi f6, vi f7, .unset, .unset, .unset, .unset, .unset, .unset, .unset] [(.int f8)])) := by
       intro f8 hf8
       show OG p e below _ s₁ m 65 #[vi p0, vi p1, vi p2, vi p3, vi f4, vi f5, vi f6, vi f7, .unset, .unset, .unset, .unset, .unset, .unset, .unset] [(.int f8)]
       refine og (fun _ k => XS.istore X0.here hx rfl (hb hby at_65) rfl (l' := #[vi p0, vi p1, vi p2, vi p3, vi f4, vi f5, vi f6, vi f7, vi f8, .unset, .unset, .unset, .unset, .unset, .unset]) rfl k) ?_
       show OG p e below _ s₁ m 67 #[vi p0, vi p1, vi p2, vi p3, vi f4, vi f5, vi f6, vi f7, vi f8, .unset, .unset, .unset, .unset, .unset, .unset] []
       obtain ⟨T1471, h1471, X1471, e1471, E1471, A1471, D1471, -, st1471⟩ := newO X0 hx hZ hown (ow hw 0 rfl) (ow hw 1 rfl) (ow hw 2 rfl) e0 (g := (mkF m 67 #[vi p0, vi p1, vi p2, vi p3, vi f4, vi f5, vi f6, vi f7, vi f8, .unset, .unset, .unset, .unset, .unset, .unset] [])) rfl (hb hby at_67) (by decide) (by decide)
       obtain ⟨a1471, g1471⟩ : ∃ z, z = h0.size := ⟨_, rfl⟩
       rw [← g1471] at A1471 D1471 st1471
       have ge1471 : n0 ≤ a1471 := Nat.le_trans (own_sz O0) (Nat.le_of_eq g1471.symm)
       have gh1471 : h0.size ≤ a1471 := Nat.le_trans (Nat.le_refl _) (Nat.le_of_eq g1471.symm)
       have O1471 := O0.ext E1471
       have z1472 := Nat.le_trans (Nat.le_refl _) E1471.1
       have F1473 : Fld Z h1471 a1471 "java/util/AbstractList" "modCount" "I" (.int 0) := D1471 (Or.inl (ow hw 22 rfl)) (ty := .int) (by decide)
       have F1474 : Fld Z h1471 a1471 "java/util/ArrayList" "elementData" "[Ljava/lang/Object;" .null := D1471 (Or.inl (ow hw 25 rfl)) (ty := (.array (.object "java/lang/Object"))) (by decide)
       have F1475 : Fld Z h1471 a1471 "java/util/ArrayList" "size" "I" (.int 0) := D1471 (Or.inl (ow hw 41 rfl)) (ty := .int) (by decide)
       refine og st1471 ?_
       show OG p e below _ T1471 m 70 #[vi p0, vi p1, vi p2, vi p3, vi f4, vi f5, vi f6, vi f7, vi f8, .unset, .unset, .unset, .unset, .unset, .unset] [(.ref a1471)]
       refine qd X1471.here hx hby at_70 rfl rfl ?_
       obtain ⟨_, _, ⟨T1476, L1476, k1476, n1476⟩, -, X1476, ⟨Lc1476, hQ1476, l1476, y1476, z1476⟩, st1476⟩ := X1471.specialBack hx (y := mn25) rfl hown (mvT hZ (ow hw 3 rfl)) (mvT hZ (ow hw 4 rfl)) (mvT hZ (ow hw 5 rfl)) (by decide) (backOf (W := 1) (rm_iAL l Z a0 hw [] ku0 ku1 ku2 ku3 aDef aCac aEmp aMir kDef cCac F0 a1471 h1471 n0 O1471 A1471 F1473 F1474 F1475 ge1471) hZ (ow hw 5 rfl) (ow hw 2 rfl) (by decide) (by decide)) (g := (mkF m 71 #[vi p0, vi p1, vi p2, vi p3, vi f4, vi f5, vi f6, vi f7, vi f8, .unset, .unset, .unset, .unset, .unset, .unset] [(.ref a1471), (.ref a1471)])) rfl (by rw [hml]; rfl) (Steps.refl _) (a := a1471) (argsL := []) (rest := [(.ref a1471)]) (lenOf pd___V rfl) rfl (by show 2 * 0 + _ ≤ _; exact Nat.le_of_eq rfl) (hb hby at_71) (fun _ _ => ⟨rfl, e1471, (by decide : 1 + 0 ≤ _), (by decide : 3 + 0 ≤ _)⟩)
       dsimp only [Pt.U, Pt.locs, Pt.cells, Pt.slots] at X1476 l1476 y1476 z1476 st1476 hQ1476
       subst l1476 y1476 z1476
       obtain ⟨rfl, Nq1476, K1476, x1476_0, x1476_1, x1476_2⟩ := hQ1476
       obtain ⟨L1476, X1476, N1476⟩ := pk X1476 (Fr.app N0 Nq1476)
       have O1476 := O1471.keep K1476 (allS ge1471 all0)
       have e1476 : T1476.heap = T1476.heap := rfl
       have z1477 := Nat.le_trans z1472 K1476.1
       refine og (fun _ k => st1476.trans k) ?_
       show OG p e below _ T1476 m 74 #[vi p0, vi p1, vi p2, vi p3, vi f4, vi f5, vi f6, vi f7, vi f8, .unset, .unset, .unset, .unset, .unset, .unset] [(.ref a1471)]
       refine og (fun _ k => XS.astore X1476.here hx rfl (hb hby at_74) rfl rfl (l' := #[vi p0, vi p1, vi p2, vi p3, vi f4, vi f5, vi f6, vi f7, vi f8, vr a1471, .unset, .unset, .unset, .unset, .unset]) rfl k) ?_
       refine qb X1476.here hx hby at_76 rfl rfl ?_
       refine qc X1476.here hx hby at_78 ?_
       obtain ⟨_, _, ⟨T1478, L1478, k1478, n1478⟩, -, X1478, ⟨Lc1478, hQ1478, l1478, y1478, z1478⟩, st1478⟩ := Jvm.LawKit.callS X1476 hx (y := mn18) hown (mvT hZ (ow hw 26 rfl)) (mvT hZ (ow hw 27 rfl)) (mvT hZ (ow hw 28 rfl)) (mvT hZ (ow hw 29 rfl)) (by decide) (backOf (W := 1) (rm_vo0 l Z a0 hw [] ku0 ku1 ku2 ku3 aDef aCac aEmp aMir kDef cCac F0 T1476.heap n0 O1476) hZ (ow hw 29 rfl) (ow hw 28 rfl) (by decide) (by decide)) (g := (mkF m 79 #[vi p0, vi p1, vi p2, vi p3, vi f4, vi f5, vi f6, vi f7, vi f8, vr a1471, .unset, .unset, .unset, .unset, .unset] [(.int 0), (.ref a1471)])) rfl (by rw [hml]; rfl) (argsL := [(.int 0)]) (rest := [(.ref a1471)]) (lenOf pd_I__Ljava_lang_Integer_ rfl) rfl (by show 2 * 0 + _ ≤ _; exact Nat.le_of_eq rfl) (hb hby at_79) (fun _ _ => ⟨rfl, e1476, (by decide : 1 + 0 ≤ _), (by decide : 3 + 0 ≤ _)⟩)
       dsimp only [Pt.U, Pt.locs, Pt.cells, Pt.slots] at X1478 l1478 y1478 z1478 st1478 hQ1478
       subst l1478 y1478 z1478
       obtain ⟨r9_1478, rfl, Nq1478, K1478, x1478_0, x1478_1⟩ := hQ1478
       obtain ⟨L1478, X1478, N1478⟩ := pk X1478 (Fr.app N1476 Nq1478)
       rw [K1478] at x1478_0
       refine og st1478 ?_
       show OG p e below _ T1478 m 82 #[vi p0, vi p1, vi p2, vi p3, vi f4, vi f5, vi f6, vi f7, vi f8, vr a1471, .unset, .unset, .unset, .unset, .unset] [(.ref r9_1478), (.ref a1471)]
       have F1479 := (A1471.keep K1476)
       obtain ⟨cq1480, kq1480, qa1480, qb1480, qc1480⟩ := isOf hZ K1478 F1479
       obtain ⟨_, _, ⟨T1480, L1480, k1480, n1480⟩, -, X1480, ⟨Lc1480, hQ1480, l1480, y1480, z1480⟩, st1480⟩ := X1478.virtualBack hx (y := mn26) (z := mn26) hown (mvT hZ (ow hw 33 rfl)) (mvT hZ (ow hw 34 rfl)) (notFace_of_selects (args := #[]) (mvT hZ (ow hw 36 rfl))) (mvT hZ (ow hw 36 rfl)) (mvT hZ (ow hw 35 rfl)) (by decide) (backOf (W := 0) (rm_addfr l Z a0 hw [] ku0 ku1 ku2 ku3 aDef aCac aEmp aMir kDef cCac F0 a1471 r9_1478 "java/lang/Integer" (0 : Int32) T1476.heap n0 O1476 F1479 x1476_0 x1476_1 x1476_2 ge1471 x1478_0 (ow hw 63 rfl)) hZ (ow hw 37 rfl) (ow hw 2 rfl) (by decide) (by decide)) qa1480 qc1480 (g := (mkF m 82 #[vi p0, vi p1, vi p2, vi p3, vi f4, vi f5, vi f6, vi f7, vi f8, vr a1471, .unset, .unset, .unset, .unset, .unset] [(.ref r9_1478), (.ref a1471)])) rfl (by rw [hml]; rfl) (Steps.refl _) (argsL := [(.ref r9_1478)]) (rest := []) (lenOf pd_Ljava_lang_Object___Z rfl) rfl (by show 2 * 0 + _ ≤ _; exact Nat.le_of_eq rfl) (hb hby at_82) (fun _ _ => ⟨rfl, K1478, (by decide : 1 + 1 ≤ _), (by decide : 3 + 10 ≤ _)⟩)
       dsimp only [Pt.U, Pt.locs, Pt.cells, Pt.slots] at X1480 l1480 y1480 z1480 st1480 hQ1480
       subst l1480 y1480 z1480
       obtain ⟨r1_1480, k1_1480, rfl, Nq1480, K1480, x1480_0, x1480_1, x1480_2, x1480_3, x1480_4, x1480_5, x1480_6⟩ := hQ1480
       obtain ⟨L1480, X1480, N1480⟩ := pk X1480 (Fr.app N1478 Nq1480)
       have O1480 := O1476.keep K1480 (allS ge1471 all0)
       have e1480 : T1480.heap = T1480.heap := rfl
       have z1481 := Nat.le_trans z1477 K1480.1
       have gex1480_3 : n0 ≤ r1_1480 := Nat.le_trans (own_sz O1476) x1480_3
       have ghx1480_3 : h0.size ≤ r1_1480 := Nat.le_trans z1477 x1480_3
       have lox1480_3 : a1471 < r1_1480 := Nat.lt_of_lt_of_le F1479.lt x1480_3
       refine og (fun _ k => st1480.trans k) ?_
       show OG p e below _ T1480 m 85 #[vi p0, vi p1, vi p2, vi p3, vi f4, vi f5, vi f6, vi f7, vi f8, vr a1471, .unset, .unset, .unset, .unset, .unset] [(.int 1)]
       refine og (fun _ k => XS.pop X1480.here hx rfl (hb hby at_85) rfl rfl k) ?_
       refine qb X1480.here hx hby at_86 rfl rfl ?_
       refine qc X1480.here hx hby at_88 ?_
       obtain ⟨_, _, ⟨T1482, L1482, k1482, n1482⟩, -, X1482, ⟨Lc1482, hQ1482, l1482, y1482, z1482⟩, st1482⟩ := Jvm.LawKit.callS X1480 hx (y := mn18) hown (mvT hZ (ow hw 26 rfl)) (mvT hZ (ow hw 27 rfl)) (mvT hZ (ow hw 28 rfl)) (mvT hZ (ow hw 29 rfl)) (by decide) (backOf (W := 1) (rm_vo1 l Z a0 hw [] ku0 ku1 ku2 ku3 aDef aCac aEmp aMir kDef cCac F0 T1480.heap n0 O1480) hZ (ow hw 29 rfl) (ow hw 28 rfl) (by decide) (by decide)) (g := (mkF m 89 #[vi p0, vi p1, vi p2, vi p3, vi f4, vi f5, vi f6, vi f7, vi f8, vr a1471, .unset, .unset, .unset, .unset, .unset] [(.int 1), (.ref a1471)])) rfl (by rw [hml]; rfl) (argsL := [(.int 1)]) (rest := [(.ref a1471)]) (lenOf pd_I__Ljava_lang_Integer_ rfl) rfl (by show 2 * 0 + _ ≤ _; exact Nat.le_of_eq rfl) (hb hby at_89) (fun _ _ => ⟨rfl, e1480, (by decide : 2 + 0 ≤ _), (by decide : 13 + 0 ≤ _)⟩)
       dsimp only [Pt.U, Pt.locs, Pt.cells, Pt.slots] at X1482 l1482 y1482 z1482 st1482 hQ1482
       subst l1482 y1482 z1482
       obtain ⟨r9_1482, rfl, Nq1482, K1482, x1482_0, x1482_1⟩ := hQ1482
       obtain ⟨L1482, X1482, N1482⟩ := pk X1482 (Fr.app N1480 Nq1482)
       rw [K1482] at x1482_0
       refine og st1482 ?_
       show OG p e below _ T1482 m 92 #[vi p0, vi p1, vi p2, vi p3, vi f4, vi f5, vi f6, vi f7, vi f8, vr a1471, .unset, .unset, .unset, .unset, .unset] [(.ref r9_1482), (.ref a1471)]
       have F1483 := (F1479.keep K1480)
       obtain ⟨cq1484, kq1484, qa1484, qb1484, qc1484⟩ := isOf hZ K1482 F1483
       obtain ⟨_, _, ⟨T1484, L1484, k1484, n1484⟩, -, X1484, ⟨Lc1484, hQ1484, l1484, y1484, z1484⟩, st1484⟩ := X1482.virtualBack hx (y := mn26) (z := mn26) hown (mvT hZ (ow hw 33 rfl)) (mvT hZ (ow hw 34 rfl)) (notFace_of_selects (args := #[]) (mvT hZ (ow hw 36 rfl))) (mvT hZ (ow hw 36 rfl)) (mvT hZ (ow hw 35 rfl)) (by decide) (backOf (W := 0) (rm_addsr l Z a0 hw [] ku0 ku1 ku2 ku3 aDef aCac aEmp aMir kDef cCac F0 a1471 r1_1480 k1_1480 (.ref r9_1478) r9_1482 "java/lang/Integer" ((0 : Int32) + (1 : Int32)) T1480.heap n0 O1480 F1483 x1480_0 x1480_1 x1480_2 ge1471 x1480_5 x1480_6 x1480_4 x1482_0 (ow hw 63 rfl) lox1480_3) hZ (ow hw 37 rfl) (ow hw 2 rfl) (by decide) (by decide)) qa1484 qc1484 (g := (mkF m 92 #[vi p0, vi p1, vi p2, vi p3, vi f4, vi f5, vi f6, vi f7, vi f8, vr a1471, .unset, .unset, .unset, .unset, .unset] [(.ref r9_1482), (.ref a1471)])) rfl (by rw [hml]; rfl) (Steps.refl _) (argsL := [(.ref r9_1482)]) (rest := []) (lenOf pd_Ljava_lang_Object___Z rfl) rfl (by show 2 * 0 + _ ≤ _; exact Nat.le_of_eq rfl) (hb hby at_92) (fun _ _ => ⟨rfl, K1482, (by decide : 2 + 0 ≤ _), (by decide : 13 + 0 ≤ _)⟩)
       dsimp only [Pt.U, Pt.locs, Pt.cells, Pt.slots] at X1484 l1484 y1484 z1484 st1484 hQ1484
       subst l1484 y1484 z1484
       obtain ⟨rfl, Nq1484, K1484, x1484_0, x1484_1, x1484_2, x1484_3⟩ := hQ1484
       obtain ⟨L1484, X1484, N1484⟩ := pk X1484 (Fr.app N1482 Nq1484)
       have O1484 := O1480.keep K1484 (allS ge1471 (allS gex1480_3 all0))
       have e1484 : T1484.heap = T1484.heap := rfl
       have z1485 := Nat.le_trans z1481 K1484.1
       refine og (fun _ k => st1484.trans k) ?_
       show OG p e below _ T1484 m 95 #[vi p0, vi p1, vi p2, vi p3, vi f4, vi f5, vi f6, vi f7, vi f8, vr a1471, .unset, .unset, .unset, .unset, .unset] [(.int 1)]
       refine og (fun _ k => XS.pop X1484.here hx rfl (hb hby at_95) rfl rfl k) ?_
       obtain ⟨T1486, h1486, X1486, e1486, E1486, A1486, D1486, -, st1486⟩ := newO X1484 hx hZ hown (ow hw 64 rfl) (ow hw 65 rfl) (ow hw 66 rfl) e1484 (g := (mkF m 96 #[vi p0, vi p1, vi p2, vi p3, vi f4, vi f5, vi f6, vi f7, vi f8, vr a1471, .unset, .unset, .unset, .unset, .unset] [])) rfl (hb hby at_96) (by decide) (by decide)
       have F1487 := (x1480_4.keep K1484)
       obtain ⟨a1486, g1486⟩ : ∃ z, z = T1484.heap.size := ⟨_, rfl⟩
       rw [← g1486] at A1486 D1486 st1486
       have ge1486 : n0 ≤ a1486 := Nat.le_trans (own_sz O1484) (Nat.le_of_eq g1486.symm)
       have gh1486 : h0.size ≤ a1486 := Nat.le_trans z1485 (Nat.le_of_eq g1486.symm)
       have lo1486 : r1_1480 < a1486 := Nat.lt_of_lt_of_eq F1487.lt g1486.symm
       have O1486 := O1484.ext E1486
       have z1488 := Nat.le_trans z1485 E1486.1
       have F1489 : Fld Z h1486 a1486 "com/example/reweave/reweave/control/Point" "kind" "Lcom/example/reweave/reweave/control/Point$Kind;" .null := D1486 (Or.inr (ow hw 184 rfl)) (ty := (.object "com/example/reweave/reweave/control/Point$Kind")) (by decide)
       have F1490 : Fld Z h1486 a1486 "com/example/reweave/reweave/control/Point" "thread" "I" (.int 0) := D1486 (Or.inr (ow hw 186 rfl)) (ty := .int) (by decide)
       have F1491 : Fld Z h1486 a1486 "com/example/reweave/reweave/control/Point" "location" "Lcom/example/reweave/reweave/control/Location;" .null := D1486 (Or.inr (ow hw 188 rfl)) (ty := (.object "com/example/reweave/reweave/control/Location")) (by decide)
       have F1492 : Fld Z h1486 a1486 "com/example/reweave/reweave/control/Point" "runnable" "Ljava/util/List;" .null := D1486 (Or.inr (ow hw 190 rfl)) (ty := (.object "java/util/List")) (by decide)
       have F1493 : Fld Z h1486 a1486 "com/example/reweave/reweave/control/Point" "timeOuts" "Ljava/util/List;" .null := D1486 (Or.inr (ow hw 192 rfl)) (ty := (.object "java/util/List")) (by decide)
       refine og st1486 ?_
       show OG p e below _ T1486 m 99 #[vi p0, vi p1, vi p2, vi p3, vi f4, vi f5, vi f6, vi f7, vi f8, vr a1471, .unset, .unset, .unset, .unset, .unset] [(.ref a1486)]
       refine qd X1486.here hx hby at_99 rfl rfl ?_
       refine qj X1486.here hx hby at_100 rfl ?_
       obtain ⟨_, _, ⟨T1494, L1494, k1494, n1494⟩, -, X1494, ⟨Lc1494, hQ1494, l1494, y1494, z1494⟩, st1494⟩ := Jvm.LawKit.callS X1486 hx (y := mn14) hown (mvT hZ (ow hw 67 rfl)) (mvT hZ (ow hw 68 rfl)) (mvT hZ (ow hw 69 rfl)) (mvT hZ (ow hw 70 rfl)) (by decide) (backOf (W := 2) (rm_kind l Z a0 hw [] ku0 ku1 ku2 ku3 aDef aCac aEmp aMir kDef cCac F0 p1 h1486 n0 O1486) hZ (ow hw 70 rfl) (ow hw 69 rfl) (by decide) (by decide)) (g := (mkF m 101 #[vi p0, vi p1, vi p2, vi p3, vi f4, vi f5, vi f6, vi f7, vi f8, vr a1471, .unset, .unset, .unset, .unset, .unset] [(.int p1), (.ref a1486), (.ref a1486)])) rfl (by rw [hml]; rfl) (argsL := [(.int p1)]) (rest := [(.ref a1486), (.ref a1486)]) (lenOf pd_I__Lcom_example_reweave_reweave_control_Point_Kind_ rfl) rfl (by show 2 * 0 + _ ≤ _; exact Nat.le_of_eq rfl) (hb hby at_101) (fun _ _ => ⟨rfl, e1486, (by decide : 3 + 0 ≤ _), (by decide : 18 + 0 ≤ _)⟩)
       dsimp only [Pt.U, Pt.locs, Pt.cells, Pt.slots] at X1494 l1494 y1494 z1494 st1494 hQ1494
       subst l1494 y1494 z1494
       obtain ⟨d9_1494, c9_1494, rfl, Nq1494, K1494, x1494_0, x1494_1, x1494_2, x1494_3⟩ := hQ1494
       obtain ⟨L1494, X1494, N1494⟩ := pk X1494 (Fr.app N1484 Nq1494)
       rw [K1494] at x1494_0 x1494_1
       refine og st1494 ?_
       show OG p e below _ T1494 m 104 #[vi p0, vi p1, vi p2, vi p3, vi f4, vi f5, vi f6, vi f7, vi f8, vr a1471, .unset, .unset, .unset, .unset, .unset] [(.ref d9_1494), (.ref a1486), (.ref a1486)]
       refine qj X1494.here hx hby at_104 rfl ?_
       refine og (fun _ k => XS.aconstNull X1494.here hx rfl (hb hby at_105) k) ?_
       refine qb X1494.here hx hby at_106 rfl rfl ?_
       have kg1495 := (((Keep.refl _ [a1471, r1_1480]).trans K1484 (aS (om 0 rfl) (aS (om 1 rfl) all0))).ext E1486)
       have F1496 := (F1483.keep kg1495)
       have F1497 := (x1484_1.ext E1486)
       have F1498 := (x1484_2.ext E1486)
       have F1499 := (x1484_3.ext E1486)
       have F1500 := (F1487.ext E1486)
       have kg1501 := ((((Keep.refl _ [a1471, r1_1480]).trans K1480 (aS (om 0 rfl) all0)).trans K1484 (aS (om 0 rfl) (aS (om 1 rfl) all0))).ext E1486)
       have F1502 := (x1478_0.keep kg1501)
       have F1503 := (x1482_0.keep kg1495)
       obtain ⟨_, _, ⟨T1504, L1504, k1504, n1504⟩, -, X1504, ⟨Lc1504, hQ1504, l1504, y1504, z1504⟩, st1504⟩ := X1494.specialBack hx (y := mn0) rfl hown (mvT hZ (ow hw 74 rfl)) (mvT hZ (ow hw 75 rfl)) (mvT hZ (ow hw 76 rfl)) (by decide) (backOf (W := 1) (rm_pt4 l Z a0 hw [] ku0 ku1 ku2 ku3 aDef aCac aEmp aMir kDef cCac F0 a1486 d9_1494 p2 a1471 r1_1480 k1_1480 r9_1478 r9_1482 h1486 n0 O1486 A1486 ge1486 F1489 F1490 F1491 F1492 F1493 F1496 F1497 F1498 F1499 F1500 F1502 F1503) hZ (ow hw 76 rfl) (ow hw 66 rfl) (by decide) (by decide)) (g := (mkF m 108 #[vi p0, vi p1, vi p2, vi p3, vi f4, vi f5, vi f6, vi f7, vi f8, vr a1471, .unset, .unset, .unset, .unset, .unset] [(.ref a1471), .null, (.int p2), (.ref d9_1494), (.ref a1486), (.ref a1486)])) rfl (by rw [hml]; rfl) (Steps.refl _) (a := a1486) (argsL := [(.ref d9_1494), (.int p2), .null, (.ref a1471)]) (rest := [(.ref a1486)]) (lenOf pd_Lcom_example_reweave_reweave_control_Point_Kind__I_Lcom_example_reweave_reweave_control_Location__Ljava_util_List___V rfl) rfl (by show 2 * 0 + _ ≤ _; exact Nat.le_of_eq rfl) (hb hby at_108) (fun _ _ => ⟨rfl, K1494, (by decide : 3 + 2 ≤ _), (by decide : 18 + 4 ≤ _)⟩)
       dsimp only [Pt.U, Pt.locs, Pt.cells, Pt.slots] at X1504 l1504 y1504 z1504 st1504 hQ1504
       subst l1504 y1504 z1504
       obtain ⟨r2_1504, rfl, Nq1504, K1504, x1504_0, x1504_1, x1504_2, x1504_3, x1504_4, x1504_5, x1504_6⟩ := hQ1504
       obtain ⟨L1504, X1504, N1504⟩ := pk X1504 (Fr.app N1494 Nq1504)
       have O1504 := O1486.keep K1504 (allS ge1486 all0)
       have e1504 : T1504.heap = T1504.heap := rfl
       have z1505 := Nat.le_trans z1488 K1504.1
       have gex1504_5 : n0 ≤ r2_1504 := Nat.le_trans (own_sz O1486) x1504_5
       have ghx1504_5 : h0.size ≤ r2_1504 := Nat.le_trans z1488 x1504_5
       have lox1504_5 : a1486 < r2_1504 := Nat.lt_of_lt_of_le A1486.lt x1504_5
       refine og (fun _ k => st1504.trans k) ?_
       show OG p e below _ T1504 m 111 #[vi p0, vi p1, vi p2, vi p3, vi f4, vi f5, vi f6, vi f7, vi f8, vr a1471, .unset, .unset, .unset, .unset, .unset] [(.ref a1486)]
       refine og (fun _ k => XS.astore X1504.here hx rfl (hb hby at_111) rfl rfl (l' := #[vi p0, vi p1, vi p2, vi p3, vi f4, vi f5, vi f6, vi f7, vi f8, vr a1471, vr a1486, .unset, .unset, .unset, .unset]) rfl k) ?_
       obtain ⟨T1506, h1506, X1506, e1506, E1506, A1506, D1506, -, st1506⟩ := newO X1504 hx hZ hown (ow hw 64 rfl) (ow hw 65 rfl) (ow hw 66 rfl) e1504 (g := (mkF m 113 #[vi p0, vi p1, vi p2, vi p3, vi f4, vi f5, vi f6, vi f7, vi f8, vr a1471, vr a1486, .unset, .unset, .unset, .unset] [])) rfl (hb hby at_113) (by decide) (by decide)
       obtain ⟨a1506, g1506⟩ : ∃ z, z = T1504.heap.size := ⟨_, rfl⟩
       rw [← g1506] at A1506 D1506 st1506
       have ge1506 : n0 ≤ a1506 := Nat.le_trans (own_sz O1504) (Nat.le_of_eq g1506.symm)
       have gh1506 : h0.size ≤ a1506 := Nat.le_trans z1505 (Nat.le_of_eq g1506.symm)
       have lo1506 : r2_1504 < a1506 := Nat.lt_of_lt_of_eq x1504_6.lt g1506.symm
       have O1506 := O1504.ext E1506
       have z1507 := Nat.le_trans z1505 E1506.1
       have F1508 : Fld Z h1506 a1506 "com/example/reweave/reweave/control/Point" "kind" "Lcom/example/reweave/reweave/control/Point$Kind;" .null := D1506 (Or.inr (ow hw 184 rfl)) (ty := (.object "com/example/reweave/reweave/control/Point$Kind")) (by decide)
       have F1509 : Fld Z h1506 a1506 "com/example/reweave/reweave/control/Point" "thread" "I" (.int 0) := D1506 (Or.inr (ow hw 186 rfl)) (ty := .int) (by decide)
       have F1510 : Fld Z h1506 a1506 "com/example/reweave/reweave/control/Point" "location" "Lcom/example/reweave/reweave/control/Location;" .null := D1506 (Or.inr (ow hw 188 rfl)) (ty := (.object "com/example/reweave/reweave/control/Location")) (by decide)
       have F1511 : Fld Z h1506 a1506 "com/example/reweave/reweave/control/Point" "runnable" "Ljava/util/List;" .null := D1506 (Or.inr (ow hw 190 rfl)) (ty := (.object "java/util/List")) (by decide)
       have F1512 : Fld Z h1506 a1506 "com/example/reweave/reweave/control/Point" "timeOuts" "Ljava/util/List;" .null := D1506 (Or.inr (ow hw 192 rfl)) (ty := (.object "java/util/List")) (by decide)
       refine og st1506 ?_
       show OG p e below _ T1506 m 116 #[vi p0, vi p1, vi p2, vi p3, vi f4, vi f5, vi f6, vi f7, vi f8, vr a1471, vr a1486, .unset, .unset, .unset, .unset] [(.ref a1506)]
       refine qd X1506.here hx hby at_116 rfl rfl ?_
       refine qj X1506.here hx hby at_117 rfl ?_
       refine qc X1506.here hx hby at_118 ?_
       refine og (fun _ k => XS.iushr X1506.here hx rfl (hb hby at_119) rfl k) ?_
       show OG p e below _ T1506 m 120 #[vi p0, vi p1, vi p2, vi p3, vi f4, vi f5, vi f6, vi f7, vi f8, vr a1471, vr a1486, .unset, .unset, .unset, .unset] [(.int (((p1).toUInt32 >>> ((2 : Int32) &&& 31).toUInt32).toInt32)), (.ref a1506), (.ref a1506)]
       obtain ⟨_, _, ⟨T1513, L1513, k1513, n1513⟩, -, X1513, ⟨Lc1513, hQ1513, l1513, y1513, z1513⟩, st1513⟩ := Jvm.LawKit.callS X1506 hx (y := mn14) hown (mvT hZ (ow hw 67 rfl)) (mvT hZ (ow hw 68 rfl)) (mvT hZ (ow hw 69 rfl)) (mvT hZ (ow hw 70 rfl)) (by decide) (backOf (W := 2) (rm_kind l Z a0 hw [] ku0 ku1 ku2 ku3 aDef aCac aEmp aMir kDef cCac F0 (((p1).toUInt32 >>> ((2 : Int32) &&& 31).toUInt32).toInt32) h1506 n0 O1506) hZ (ow hw 70 rfl) (ow hw 69 rfl) (by decide) (by decide)) (g := (mkF m 120 #[vi p0, vi p1, vi p2, vi p3, vi f4, vi f5, vi f6, vi f7, vi f8, vr a1471, vr a1486, .unset, .unset, .unset, .unset] [(.int (((p1).toUInt32 >>> ((2 : Int32) &&& 31).toUInt32).toInt32)), (.ref a1506), (.ref a1506)])) rfl (by rw [hml]; rfl) (argsL := [(.int (((p1).toUInt32 >>> ((2 : Int32) &&& 31).toUInt32).toInt32))]) (rest := [(.ref a1506), (.ref a1506)]) (lenOf pd_I__Lcom_example_reweave_reweave_control_Point_Kind_ rfl) rfl (by show 2 * 0 + _ ≤ _; exact Nat.le_of_eq rfl) (hb hby at_120) (fun _ _ => ⟨rfl, e1506, (by decide : 6 + 0 ≤ _), (by decide : 27 + 0 ≤ _)⟩)
       dsimp only [Pt.U, Pt.locs, Pt.cells, Pt.slots] at X1513 l1513 y1513 z1513 st1513 hQ1513
       subst l1513 y1513 z1513
       obtain ⟨d9_1513, c9_1513, rfl, Nq1513, K1513, x1513_0, x1513_1, x1513_2, x1513_3⟩ := hQ1513
       obtain ⟨L1513, X1513, N1513⟩ := pk X1513 (Fr.app N1504 Nq1513)
       rw [K1513] at x1513_0 x1513_1
       refine og st1513 ?_
       show OG p e below _ T1513 m 123 #[vi p0, vi p1, vi p2, vi p3, vi f4, vi f5, vi f6, vi f7, vi f8, vr a1471, vr a1486, .unset, .unset, .unset, .unset] [(.ref d9_1513), (.ref a1506), (.ref a1506)]
       refine qj X1513.here hx hby at_123 rfl ?_
       refine og (fun _ k => XS.aconstNull X1513.here hx rfl (hb hby at_124) k) ?_
       refine qb X1513.here hx hby at_125 rfl rfl ?_
       have kg1514 := (((Keep.refl _ [a1486]).trans K1504 (aS (om 0 rfl) all0)).ext E1506)
       have F1515 := (F1496.keep kg1514)
       have lt1516 := Nat.lt_trans lox1480_3 lo1486
       have ni1517 := (ninS (Nat.ne_of_lt lt1516) nin0)
       have F1518 := (F1497.keep kg1514 ni1517)
       have F1519 := (F1498.keep kg1514 ni1517)
       have ni1520 := (ninS (Nat.ne_of_lt lo1486) nin0)
       have F1521 := (F1499.keep kg1514 ni1520)
       have F1522 := (F1500.keep kg1514)
       have F1523 := (F1502.keep kg1514)
       have F1524 := (F1503.keep kg1514)
       obtain ⟨_, _, ⟨T1525, L1525, k1525, n1525⟩, -, X1525, ⟨Lc1525, hQ1525, l1525, y1525, z1525⟩, st1525⟩ := X1513.specialBack hx (y := mn0) rfl hown (mvT hZ (ow hw 74 rfl)) (mvT hZ (ow hw 75 rfl)) (mvT hZ (ow hw 76 rfl)) (by decide) (backOf (W := 1) (rm_pt4 l Z a0 hw [] ku0 ku1 ku2 ku3 aDef aCac aEmp aMir kDef cCac F0 a1506 d9_1513 p3 a1471 r1_1480 k1_1480 r9_1478 r9_1482 h1506 n0 O1506 A1506 ge1506 F1508 F1509 F1510 F1511 F1512 F1515 F1518 F1519 F1521 F1522 F1523 F1524) hZ (ow hw 76 rfl) (ow hw 66 rfl) (by decide) (by decide)) (g := (mkF m 127 #[vi p0, vi p1, vi p2, vi p3, vi f4, vi f5, vi f6, vi f7, vi f8, vr a1471, vr a1486, .unset, .unset, .unset, .unset] [(.ref a1471), .null, (.int p3), (.ref d9_1513), (.ref a1506), (.ref a1506)])) rfl (by rw [hml]; rfl) (Steps.refl _) (a := a1506) (argsL := [(.ref d9_1513), (.int p3), .null, (.ref a1471)]) (rest := [(.ref a1506)]) (lenOf pd_Lcom_example_reweave_reweave_control_Point_Kind__I_Lcom_example_reweave_reweave_control_Location__Ljava_util_List___V rfl) rfl (by show 2 * 0 + _ ≤ _; exact Nat.le_of_eq rfl) (hb hby at_127) (fun _ _ => ⟨rfl, K1513, (by decide : 6 + 2 ≤ _), (by decide : 27 + 4 ≤ _)⟩)
       dsimp only [Pt.U, Pt.locs, Pt.cells, Pt.slots] at X1525 l1525 y1525 z1525 st1525 hQ1525
       subst l1525 y1525 z1525
       obtain ⟨r2_1525, rfl, Nq1525, K1525, x1525_0, x1525_1, x1525_2, x1525_3, x1525_4, x1525_5, x1525_6⟩ := hQ1525
       obtain ⟨L1525, X1525, N1525⟩ := pk X1525 (Fr.app N1513 Nq1525)
       have O1525 := O1506.keep K1525 (allS ge1506 all0)
       have e1525 : T1525.heap = T1525.heap := rfl
       have z1526 := Nat.le_trans z1507 K1525.1
       have gex1525_5 : n0 ≤ r2_1525 := Nat.le_trans (own_sz O1506) x1525_5
       have ghx1525_5 : h0.size ≤ r2_1525 := Nat.le_trans z1507 x1525_5
       have lox1525_5 : a1506 < r2_1525 := Nat.lt_of_lt_of_le A1506.lt x1525_5
       refine og (fun _ k => st1525.trans k) ?_
       show OG p e below _ T1525 m 130 #[vi p0, vi p1, vi p2, vi p3, vi f4, vi f5, vi f6, vi f7, vi f8, vr a1471, vr a1486, .unset, .unset, .unset, .unset] [(.ref a1506)]
       refine og (fun _ k => XS.astore X1525.here hx rfl (hb hby at_130) rfl rfl (l' := #[vi p0, vi p1, vi p2, vi p3, vi f4, vi f5, vi f6, vi f7, vi f8, vr a1471, vr a1486, vr a1506, .unset, .unset, .unset]) rfl k) ?_
       obtain ⟨T1527, h1527, X1527, e1527, E1527, A1527, D1527, -, st1527⟩ := newO X1525 hx hZ hown (ow hw 195 rfl) (ow hw 196 rfl) (ow hw 197 rfl) e1525 (g := (mkF m 132 #[vi p0, vi p1, vi p2, vi p3, vi f4, vi f5, vi f6, vi f7, vi f8, vr a1471, vr a1486, vr a1506, .unset, .unset, .unset] [])) rfl (hb hby at_132) (by decide) (by decide)
       obtain ⟨a1527, g1527⟩ : ∃ z, z = T1525.heap.size := ⟨_, rfl⟩
       rw [← g1527] at A1527 D1527 st1527
       have ge1527 : n0 ≤ a1527 := Nat.le_trans (own_sz O1525) (Nat.le_of_eq g1527.symm)
       have gh1527 : h0.size ≤ a1527 := Nat.le_trans z1526 (Nat.le_of_eq g1527.symm)
       have lo1527 : r2_1525 < a1527 := Nat.lt_of_lt_of_eq x1525_6.lt g1527.symm
       have O1527 := O1525.ext E1527
       have z1528 := Nat.le_trans z1526 E1527.1
       have F1529 : Fld Z h1527 a1527 "com/example/reweave/reweave/control/SearchPath" "numbers" "[I" .null := D1527 (Or.inl (ow hw 204 rfl)) (ty := (.array .int)) (by decide)
       have F1530 : Fld Z h1527 a1527 "com/example/reweave/reweave/control/SearchPath" "more" "[Lcom/example/reweave/reweave/control/SearchPath$More;" .null := D1527 (Or.inl (ow hw 208 rfl)) (ty := (.array (.object "com/example/reweave/reweave/control/SearchPath$More"))) (by decide)
       have F1531 : Fld Z h1527 a1527 "com/example/reweave/reweave/control/SearchPath" "lists" "[I" .null := D1527 (Or.inl (ow hw 210 rfl)) (ty := (.array .int)) (by decide)
       have F1532 : Fld Z h1527 a1527 "com/example/reweave/reweave/control/SearchPath" "locations" "Lcom/example/reweave/reweave/control/SharedValues;" .null := D1527 (Or.inr (ow hw 223 rfl)) (ty := (.object "com/example/reweave/reweave/control/SharedValues")) (by decide)
       have F1533 : Fld Z h1527 a1527 "com/example/reweave/reweave/control/SearchPath" "notifies" "Ljava/util/Map;" .null := D1527 (Or.inr (ow hw 241 rfl)) (ty := (.object "java/util/Map")) (by decide)
       have F1534 : Fld Z h1527 a1527 "com/example/reweave/reweave/control/SearchPath" "runnables" "Lcom/example/reweave/reweave/control/SharedValues;" .null := D1527 (Or.inr (ow hw 243 rfl)) (ty := (.object "com/example/reweave/reweave/control/SharedValues")) (by decide)
       have F1535 : Fld Z h1527 a1527 "com/example/reweave/reweave/control/SearchPath" "timeOuts" "Lcom/example/reweave/reweave/control/SharedValues;" .null := D1527 (Or.inr (ow hw 245 rfl)) (ty := (.object "com/example/reweave/reweave/control/SharedValues")) (by decide)
       have F1536 : Fld Z h1527 a1527 "com/example/reweave/reweave/control/SearchPath" "options" "Lcom/example/reweave/reweave/control/SharedValues;" .null := D1527 (Or.inr (ow hw 247 rfl)) (ty := (.object "com/example/reweave/reweave/control/SharedValues")) (by decide)
       have F1537 : Fld Z h1527 a1527 "com/example/reweave/reweave/control/SearchPath" "waiting" "Lcom/example/reweave/reweave/control/SharedValues;" .null := D1527 (Or.inr (ow hw 249 rfl)) (ty := (.object "com/example/reweave/reweave/control/SharedValues")) (by decide)
       have F1538 : Fld Z h1527 a1527 "com/example/reweave/reweave/control/SearchPath" "schedule" "I" (.int 0) := D1527 (Or.inl (ow hw 251 rfl)) (ty := .int) (by decide)
       have F1539 : Fld Z h1527 a1527 "com/example/reweave/reweave/control/SearchPath" "log" "[I" .null := D1527 (Or.inl (ow hw 253 rfl)) (ty := (.array .int)) (by decide)
       have F1540 : Fld Z h1527 a1527 "com/example/reweave/reweave/control/SearchPath" "wholeBlocks" "Ljava/util/List;" .null := D1527 (Or.inr (ow hw 257 rfl)) (ty := (.object "java/util/List")) (by decide)
       have F1541 : Fld Z h1527 a1527 "com/example/reweave/reweave/control/SearchPath" "tails" "Ljava/util/Map;" .null := D1527 (Or.inr (ow hw 259 rfl)) (ty := (.object "java/util/Map")) (by decide)
       have F1542 : Fld Z h1527 a1527 "com/example/reweave/reweave/control/SearchPath" "size" "I" (.int 0) := D1527 (Or.inl (ow hw 266 rfl)) (ty := .int) (by decide)
       have F1543 : Fld Z h1527 a1527 "com/example/reweave/reweave/control/SearchPath" "listRows" "I" (.int 0) := D1527 (Or.inl (ow hw 337 rfl)) (ty := .int) (by decide)
       refine og st1527 ?_
       show OG p e below _ T1527 m 135 #[vi p0, vi p1, vi p2, vi p3, vi f4, vi f5, vi f6, vi f7, vi f8, vr a1471, vr a1486, vr a1506, .unset, .unset, .unset] [(.ref a1527)]
       refine qd X1527.here hx hby at_135 rfl rfl ?_
       obtain ⟨_, _, ⟨T1544, L1544, k1544, n1544⟩, -, X1544, ⟨Lc1544, hQ1544, l1544, y1544, z1544⟩, st1544⟩ := X1527.specialBack hx (y := mn8) rfl hown (mvT hZ (ow hw 198 rfl)) (mvT hZ (ow hw 199 rfl)) (mvT hZ (ow hw 200 rfl)) (by decide) (backOf (W := 1) (rm_sp l Z a0 hw [] ku0 ku1 ku2 ku3 aDef aCac aEmp aMir kDef cCac F0 a1527 h1527 n0 O1527 A1527 ge1527 F1529 F1530 F1531 F1532 F1533 F1534 F1535 F1536 F1537 F1538 F1539 F1540 F1541 F1542 F1543) hZ (ow hw 200 rfl) (ow hw 197 rfl) (by decide) (by decide)) (g := (mkF m 136 #[vi p0, vi p1, vi p2, vi p3, vi f4, vi f5, vi f6, vi f7, vi f8, vr a1471, vr a1486, vr a1506, .unset, .unset, .unset] [(.ref a1527), (.ref a1527)])) rfl (by rw [hml]; rfl) (Steps.refl _) (a := a1527) (argsL := []) (rest := [(.ref a1527)]) (lenOf pd___V rfl) rfl (by show 2 * 0 + _ ≤ _; exact Nat.le_of_eq rfl) (hb hby at_136) (fun _ _ => ⟨rfl, e1527, (by decide : 9 + 17 ≤ _), (by decide : 47 + 1004 ≤ _)⟩)
       dsimp only [Pt.U, Pt.locs, Pt.cells, Pt.slots] at X1544 l1544 y1544 z1544 st1544 hQ1544
       subst l1544 y1544 z1544
       obtain ⟨n1_1544, m1_1544, o1_1544, s1_1544, l1_1544, s2_1544, l2_1544, s3_1544, l3_1544, s4_1544, l4_1544, s5_1544, l5_1544, kn1_1544, kl1_1544, km1_1544, rfl, Nq1544, K1544, x1544_0, x1544_1, x1544_2, x1544_3, x1544_4, x1544_5, x1544_6, x1544_7, x1544_8, x1544_9, x1544_10, x1544_11, x1544_12, x1544_13, x1544_14, x1544_15, x1544_16, x1544_17, x1544_18, x1544_19, x1544_20, x1544_21, x1544_22, x1544_23, x1544_24, x1544_25, x1544_26, x1544_27, x1544_28, x1544_29, x1544_30, x1544_31, x1544_32, x1544_33, x1544_34, x1544_35, x1544_36, x1544_37, x1544_38, x1544_39, x1544_40, x1544_41, x1544_42, x1544_43, x1544_44, x1544_45, x1544_46, x1544_47, x1544_48, x1544_49, x1544_50, x1544_51, x1544_52, x1544_53, x1544_54, x1544_55, x1544_56, x1544_57, x1544_58, x1544_59, x1544_60, x1544_61, x1544_62, x1544_63, x1544_64⟩ := hQ1544
       obtain ⟨L1544, X1544, N1544⟩ := pk X1544 (Fr.app N1525 Nq1544)
       have O1544 := O1527.keep K1544 (allS ge1527 all0)
       have e1544 : T1544.heap = T1544.heap := rfl
       have z1545 := Nat.le_trans z1528 K1544.1
       have gex1544_10 : n0 ≤ n1_1544 := Nat.le_trans (own_sz O1527) x1544_10
       have ghx1544_10 : h0.size ≤ n1_1544 := Nat.le_trans z1528 x1544_10
       have lox1544_10 : a1527 < n1_1544 := Nat.lt_of_lt_of_le A1527.lt x1544_10
       refine og (fun _ k => st1544.trans k) ?_
       show OG p e below _ T1544 m 139 #[vi p0, vi p1, vi p2, vi p3, vi f4, vi f5, vi f6, vi f7, vi f8, vr a1471, vr a1486, vr a1506, .unset, .unset, .unset] [(.ref a1527)]
       refine og (fun _ k => XS.astore X1544.here hx rfl (hb hby at_139) rfl rfl (l' := #[vi p0, vi p1, vi p2, vi p3, vi f4, vi f5, vi f6, vi f7, vi f8, vr a1471, vr a1486, vr a1506, vr a1527, .unset, .unset]) rfl k) ?_
       refine qb X1544.here hx hby at_141 rfl rfl ?_
       refine qb X1544.here hx hby at_143 rfl rfl ?_
       refine qb X1544.here hx hby at_145 rfl rfl ?_
       obtain ⟨T1546, h1546, X1546, e1546, E1546, A1546, D1546, -, st1546⟩ := newO X1544 hx hZ hown (ow hw 0 rfl) (ow hw 1 rfl) (ow hw 2 rfl) e1544 (g := (mkF m 147 #[vi p0, vi p1, vi p2, vi p3, vi f4, vi f5, vi f6, vi f7, vi f8, vr a1471, vr a1486, vr a1506, vr a1527, .unset, .unset] [(.ref a1471), (.ref a1486), (.ref a1527)])) rfl (hb hby at_147) (by decide) (by decide)
       obtain ⟨a1546, g1546⟩ : ∃ z, z = T1544.heap.size := ⟨_, rfl⟩
       rw [← g1546] at A1546 D1546 st1546
       have ge1546 : n0 ≤ a1546 := Nat.le_trans (own_sz O1544) (Nat.le_of_eq g1546.symm)
       have gh1546 : h0.size ≤ a1546 := Nat.le_trans z1545 (Nat.le_of_eq g1546.symm)
       have lo1546 : l5_1544 < a1546 := Nat.lt_of_lt_of_eq x1544_61.lt g1546.symm
       have O1546 := O1544.ext E1546
       have z1547 := Nat.le_trans z1545 E1546.1
       have F1548 : Fld Z h1546 a1546 "java/util/AbstractList" "modCount" "I" (.int 0) := D1546 (Or.inl (ow hw 22 rfl)) (ty := .int) (by decide)
       have F1549 : Fld Z h1546 a1546 "java/util/ArrayList" "elementData" "[Ljava/lang/Object;" .null := D1546 (Or.inl (ow hw 25 rfl)) (ty := (.array (.object "java/lang/Object"))) (by decide)
       have F1550 : Fld Z h1546 a1546 "java/util/ArrayList" "size" "I" (.int 0) := D1546 (Or.inl (ow hw 41 rfl)) (ty := .int) (by decide)
       refine og st1546 ?_
       show OG p e below _ T1546 m 150 #[vi p0, vi p1, vi p2, vi p3, vi f4, vi f5, vi f6, vi f7, vi f8, vr a1471, vr a1486, vr a1506, vr a1527, .unset, .unset] [(.ref a1546), (.ref a1471), (.ref a1486), (.ref a1527)]
       refine qd X1546.here hx hby at_150 rfl rfl ?_
       obtain ⟨_, _, ⟨T1551, L1551, k1551, n1551⟩, -, X1551, ⟨Lc1551, hQ1551, l1551, y1551, z1551⟩, st1551⟩ := X1546.specialBack hx (y := mn25) rfl hown (mvT hZ (ow hw 3 rfl)) (mvT hZ (ow hw 4 rfl)) (mvT hZ (ow hw 5 rfl)) (by decide) (backOf (W := 4) (rm_iAL l Z a0 hw [] ku0 ku1 ku2 ku3 aDef aCac aEmp aMir kDef cCac F0 a1546 h1546 n0 O1546 A1546 F1548 F1549 F1550 ge1546) hZ (ow hw 5 rfl) (ow hw 2 rfl) (by decide) (by decide)) (g := (mkF m 151 #[vi p0, vi p1, vi p2, vi p3, vi f4, vi f5, vi f6, vi f7, vi f8, vr a1471, vr a1486, vr a1506, vr a1527, .unset, .unset] [(.ref a1546), (.ref a1546), (.ref a1471), (.ref a1486), (.ref a1527)])) rfl (by rw [hml]; rfl) (Steps.refl _) (a := a1546) (argsL := []) (rest := [(.ref a1546), (.ref a1471), (.ref a1486), (.ref a1527)]) (lenOf pd___V rfl) rfl (by show 2 * 0 + _ ≤ _; exact Nat.le_of_eq rfl) (hb hby at_151) (fun _ _ => ⟨rfl, e1546, (by decide : 27 + 0 ≤ _), (by decide : 1054 + 0 ≤ _)⟩)
       dsimp only [Pt.U, Pt.locs, Pt.cells, Pt.slots] at X1551 l1551 y1551 z1551 st1551 hQ1551
       subst l1551 y1551 z1551
       obtain ⟨rfl, Nq1551, K1551, x1551_0, x1551_1, x1551_2⟩ := hQ1551
       obtain ⟨L1551, X1551, N1551⟩ := pk X1551 (Fr.app N1544 Nq1551)
       have O1551 := O1546.keep K1551 (allS ge1546 all0)
       have e1551 : T1551.heap = T1551.heap := rfl
       have z1552 := Nat.le_trans z1547 K1551.1
       refine og (fun _ k => st1551.trans k) ?_
       show OG p e below _ T1551 m 154 #[vi p0, vi p1, vi p2, vi p3, vi f4, vi f5, vi f6, vi f7, vi f8, vr a1471, vr a1486, vr a1506, vr a1527, .unset, .unset] [(.ref a1546), (.ref a1471), (.ref a1486), (.ref a1527)]
       have kg1553 := ((((Keep.refl _ [a1527, a1546]).trans K1544 (aS (om 0 rfl) all0)).ext E1546).trans K1551 (aS (om 1 rfl) all0))
       have F1554 := (A1527.keep kg1553)
       have kg1555 := ((((((((Keep.refl _ [a1486, a1506, a1527, a1546]).trans K1504 (aS (om 0 rfl) all0)).ext E1506).trans K1525 (aS (om 1 rfl) all0)).ext E1527).trans K1544 (aS (om 2 rfl) all0)).ext E1546).trans K1551 (aS (om 3 rfl) all0))
       have F1556 := (A1486.keep kg1555)
       have kg1557 := ((((((Keep.refl _ [a1506, a1527, a1546]).trans K1525 (aS (om 0 rfl) all0)).ext E1527).trans K1544 (aS (om 1 rfl) all0)).ext E1546).trans K1551 (aS (om 2 rfl) all0))
       have F1558 := (F1515.keep kg1557)
       have F1559 := (A1546.keep K1551)
       have kg1560 := (((((((Keep.refl _ [a1506, a1527, a1546]).ext E1506).trans K1525 (aS (om 0 rfl) all0)).ext E1527).trans K1544 (aS (om 1 rfl) all0)).ext E1546).trans K1551 (aS (om 2 rfl) all0))
       have lt1561 := Nat.lt_trans lox1504_5 lo1506
       have lt1562 := Nat.lt_trans lt1561 lox1525_5
       have lt1563 := Nat.lt_trans lt1562 lo1527
       have lt1564 := Nat.lt_trans lt1563 lox1544_10
       have lt1565 := Nat.lt_trans lt1564 x1544_11
       have lt1566 := Nat.lt_trans lt1565 x1544_12
       have lt1567 := Nat.lt_trans lt1566 x1544_13
       have lt1568 := Nat.lt_trans lt1567 x1544_14
       have lt1569 := Nat.lt_trans lt1568 x1544_15
       have lt1570 := Nat.lt_trans lt1569 x1544_16
       have lt1571 := Nat.lt_trans lt1570 x1544_17
       have lt1572 := Nat.lt_trans lt1571 x1544_18
       have lt1573 := Nat.lt_trans lt1572 x1544_19
       have lt1574 := Nat.lt_trans lt1573 x1544_20
       have lt1575 := Nat.lt_trans lt1574 x1544_21
       have lt1576 := Nat.lt_trans lt1575 x1544_22
       have lt1577 := Nat.lt_trans lt1576 lo1546
       have ni1578 := (ninS (Nat.ne_of_lt lt1561) (ninS (Nat.ne_of_lt lt1563) (ninS (Nat.ne_of_lt lt1577) nin0)))
       have F1579 := (x1504_0.keep kg1560 ni1578)
       have F1580 := (x1504_1.keep kg1560 ni1578)
       have F1581 := (x1504_2.keep kg1560 ni1578)
       have F1582 := (x1504_3.keep kg1560 ni1578)
       have F1583 := (x1504_4.keep kg1560 ni1578)
       have F1584 := (x1504_6.keep kg1560)
       have F1585 := (x1494_0.keep kg1555)
       have ni1586 := (ninS (O0.ne x1494_2 ge1486) (ninS (O0.ne x1494_2 ge1506) (ninS (O0.ne x1494_2 ge1527) (ninS (O0.ne x1494_2 ge1546) nin0))))
       have F1587 := (x1494_1.keep kg1555 ni1586)
       have lt1588 := Nat.lt_trans lt1516 lox1504_5
       have lt1589 := Nat.lt_trans lt1588 lo1506
       have lt1590 := Nat.lt_trans lt1589 lox1525_5
       have lt1591 := Nat.lt_trans lt1590 lo1527
       have lt1592 := Nat.lt_trans lt1591 lox1544_10
       have lt1593 := Nat.lt_trans lt1592 x1544_11
       have lt1594 := Nat.lt_trans lt1593 x1544_12
       have lt1595 := Nat.lt_trans lt1594 x1544_13
       have lt1596 := Nat.lt_trans lt1595 x1544_14
       have lt1597 := Nat.lt_trans lt1596 x1544_15
       have lt1598 := Nat.lt_trans lt1597 x1544_16
       have lt1599 := Nat.lt_trans lt1598 x1544_17
       have lt1600 := Nat.lt_trans lt1599 x1544_18
       have lt1601 := Nat.lt_trans lt1600 x1544_19
       have lt1602 := Nat.lt_trans lt1601 x1544_20
       have lt1603 := Nat.lt_trans lt1602 x1544_21
       have lt1604 := Nat.lt_trans lt1603 x1544_22
       have lt1605 := Nat.lt_trans lt1604 lo1546
       have ni1606 := (ninS (Nat.ne_of_lt lt1589) (ninS (Nat.ne_of_lt lt1591) (ninS (Nat.ne_of_lt lt1605) nin0)))
       have F1607 := (F1519.keep kg1557 ni1606)
       have kg1608 := (((Keep.refl _ [a1546]).ext E1546).trans K1551 (aS (om 0 rfl) all0))
       have lt1609 := Nat.lt_trans lox1544_10 x1544_11
       have lt1610 := Nat.lt_trans lt1609 x1544_12
       have lt1611 := Nat.lt_trans lt1610 x1544_13
       have lt1612 := Nat.lt_trans lt1611 x1544_14
       have lt1613 := Nat.lt_trans lt1612 x1544_15
       have lt1614 := Nat.lt_trans lt1613 x1544_16
       have lt1615 := Nat.lt_trans lt1614 x1544_17
       have lt1616 := Nat.lt_trans lt1615 x1544_18
       have lt1617 := Nat.lt_trans lt1616 x1544_19
       have lt1618 := Nat.lt_trans lt1617 x1544_20
       have lt1619 := Nat.lt_trans lt1618 x1544_21
       have lt1620 := Nat.lt_trans lt1619 x1544_22
       have lt1621 := Nat.lt_trans lt1620 lo1546
       have ni1622 := (ninS (Nat.ne_of_lt lt1621) nin0)
       have F1623 := (x1544_0.keep kg1608 ni1622)
       have F1624 := (x1544_1.keep kg1608 ni1622)
       have F1625 := (x1544_2.keep kg1608 ni1622)
       have F1626 := (x1544_3.keep kg1608 ni1622)
       have F1627 := (x1544_4.keep kg1608 ni1622)
       have F1628 := (x1544_5.keep kg1608 ni1622)
       have F1629 := (x1544_6.keep kg1608 ni1622)
       have F1630 := (x1544_7.keep kg1608 ni1622)
       have F1631 := (x1544_8.keep kg1608 ni1622)
       have F1632 := (x1544_9.keep kg1608 ni1622)
       have F1633 := (x1544_23.keep kg1608)
       have F1634 := (x1544_24.keep kg1608)
       have F1635 := (x1544_25.keep kg1608)
       have lt1636 := Nat.lt_trans x1544_11 x1544_12
       have lt1637 := Nat.lt_trans lt1636 x1544_13
       have lt1638 := Nat.lt_trans lt1637 x1544_14
       have lt1639 := Nat.lt_trans lt1638 x1544_15
       have lt1640 := Nat.lt_trans lt1639 x1544_16
       have lt1641 := Nat.lt_trans lt1640 x1544_17
       have lt1642 := Nat.lt_trans lt1641 x1544_18
       have lt1643 := Nat.lt_trans lt1642 x1544_19
       have lt1644 := Nat.lt_trans lt1643 x1544_20
       have lt1645 := Nat.lt_trans lt1644 x1544_21
       have lt1646 := Nat.lt_trans lt1645 x1544_22
       have lt1647 := Nat.lt_trans lt1646 lo1546
       have ni1648 := (ninS (Nat.ne_of_lt lt1647) nin0)
       have F1649 := (x1544_26.keep kg1608 ni1648)
       have lt1650 := Nat.lt_trans x1544_12 x1544_13
       have lt1651 := Nat.lt_trans lt1650 x1544_14
       have lt1652 := Nat.lt_trans lt1651 x1544_15
       have lt1653 := Nat.lt_trans lt1652 x1544_16
       have lt1654 := Nat.lt_trans lt1653 x1544_17
       have lt1655 := Nat.lt_trans lt1654 x1544_18
       have lt1656 := Nat.lt_trans lt1655 x1544_19
       have lt1657 := Nat.lt_trans lt1656 x1544_20
       have lt1658 := Nat.lt_trans lt1657 x1544_21
       have lt1659 := Nat.lt_trans lt1658 x1544_22
       have lt1660 := Nat.lt_trans lt1659 lo1546
       have ni1661 := (ninS (Nat.ne_of_lt lt1660) nin0)
       have F1662 := (x1544_27.keep kg1608 ni1661)
       have lt1663 := Nat.lt_trans x1544_13 x1544_14
       have lt1664 := Nat.lt_trans lt1663 x1544_15
       have lt1665 := Nat.lt_trans lt1664 x1544_16
       have lt1666 := Nat.lt_trans lt1665 x1544_17
       have lt1667 := Nat.lt_trans lt1666 x1544_18
       have lt1668 := Nat.lt_trans lt1667 x1544_19
       have lt1669 := Nat.lt_trans lt1668 x1544_20
       have lt1670 := Nat.lt_trans lt1669 x1544_21
       have lt1671 := Nat.lt_trans lt1670 x1544_22
       have lt1672 := Nat.lt_trans lt1671 lo1546
       have ni1673 := (ninS (Nat.ne_of_lt lt1672) nin0)
       have F1674 := (x1544_28.keep kg1608 ni1673)
       have F1675 := (x1544_30.keep kg1608)
       have F1676 := (x1544_37.keep kg1608)
       have F1677 := (x1544_44.keep kg1608)
       have F1678 := (x1544_51.keep kg1608)
       have F1679 := (x1544_58.keep kg1608)
       have F1680 := (x1544_33.keep kg1608)
       have F1681 := (x1544_40.keep kg1608)
       have F1682 := (x1544_47.keep kg1608)
       have F1683 := (x1544_54.keep kg1608)
       have F1684 := (x1544_61.keep kg1608)
       have lt1685 := Nat.lt_trans x1544_14 x1544_15
       have lt1686 := Nat.lt_trans lt1685 x1544_16
       have lt1687 := Nat.lt_trans lt1686 x1544_17
       have lt1688 := Nat.lt_trans lt1687 x1544_18
       have lt1689 := Nat.lt_trans lt1688 x1544_19
       have lt1690 := Nat.lt_trans lt1689 x1544_20
       have lt1691 := Nat.lt_trans lt1690 x1544_21
       have lt1692 := Nat.lt_trans lt1691 x1544_22
       have lt1693 := Nat.lt_trans lt1692 lo1546
       have ni1694 := (ninS (Nat.ne_of_lt lt1693) nin0)
       have F1695 := (x1544_31.keep kg1608 ni1694)
       have F1696 := (x1544_32.keep kg1608 ni1694)
       have lt1697 := Nat.lt_trans x1544_15 x1544_16
       have lt1698 := Nat.lt_trans lt1697 x1544_17
       have lt1699 := Nat.lt_trans lt1698 x1544_18
       have lt1700 := Nat.lt_trans lt1699 x1544_19
       have lt1701 := Nat.lt_trans lt1700 x1544_20
       have lt1702 := Nat.lt_trans lt1701 x1544_21
       have lt1703 := Nat.lt_trans lt1702 x1544_22
       have lt1704 := Nat.lt_trans lt1703 lo1546
       have ni1705 := (ninS (Nat.ne_of_lt lt1704) nin0)
       have F1706 := (x1544_34.keep kg1608 ni1705)
       have F1707 := (x1544_35.keep kg1608 ni1705)
       have F1708 := (x1544_36.keep kg1608 ni1705)
       have lt1709 := Nat.lt_trans x1544_16 x1544_17
       have lt1710 := Nat.lt_trans lt1709 x1544_18
       have lt1711 := Nat.lt_trans lt1710 x1544_19
       have lt1712 := Nat.lt_trans lt1711 x1544_20
       have lt1713 := Nat.lt_trans lt1712 x1544_21
       have lt1714 := Nat.lt_trans lt1713 x1544_22
       have lt1715 := Nat.lt_trans lt1714 lo1546
       have ni1716 := (ninS (Nat.ne_of_lt lt1715) nin0)
       have F1717 := (x1544_38.keep kg1608 ni1716)
       have F1718 := (x1544_39.keep kg1608 ni1716)
       have lt1719 := Nat.lt_trans x1544_17 x1544_18
       have lt1720 := Nat.lt_trans lt1719 x1544_19
       have lt1721 := Nat.lt_trans lt1720 x1544_20
       have lt1722 := Nat.lt_trans lt1721 x1544_21
       have lt1723 := Nat.lt_trans lt1722 x1544_22
       have lt1724 := Nat.lt_trans lt1723 lo1546
       have ni1725 := (ninS (Nat.ne_of_lt lt1724) nin0)
       have F1726 := (x1544_41.keep kg1608 ni1725)
       have F1727 := (x1544_42.keep kg1608 ni1725)
       have F1728 := (x1544_43.keep kg1608 ni1725)
       have lt1729 := Nat.lt_trans x1544_18 x1544_19
       have lt1730 := Nat.lt_trans lt1729 x1544_20
       have lt1731 := Nat.lt_trans lt1730 x1544_21
       have lt1732 := Nat.lt_trans lt1731 x1544_22
       have lt1733 := Nat.lt_trans lt1732 lo1546
       have ni1734 := (ninS (Nat.ne_of_lt lt1733) nin0)
       have F1735 := (x1544_45.keep kg1608 ni1734)
       have F1736 := (x1544_46.keep kg1608 ni1734)
       have lt1737 := Nat.lt_trans x1544_19 x1544_20
       have lt1738 := Nat.lt_trans lt1737 x1544_21
       have lt1739 := Nat.lt_trans lt1738 x1544_22
       have lt1740 := Nat.lt_trans lt1739 lo1546
       have ni1741 := (ninS (Nat.ne_of_lt lt1740) nin0)
       have F1742 := (x1544_48.keep kg1608 ni1741)
       have F1743 := (x1544_49.keep kg1608 ni1741)
       have F1744 := (x1544_50.keep kg1608 ni1741)
       have lt1745 := Nat.lt_trans x1544_20 x1544_21
       have lt1746 := Nat.lt_trans lt1745 x1544_22
       have lt1747 := Nat.lt_trans lt1746 lo1546
       have ni1748 := (ninS (Nat.ne_of_lt lt1747) nin0)
       have F1749 := (x1544_52.keep kg1608 ni1748)
       have F1750 := (x1544_53.keep kg1608 ni1748)
       have lt1751 := Nat.lt_trans x1544_21 x1544_22
       have lt1752 := Nat.lt_trans lt1751 lo1546
       have ni1753 := (ninS (Nat.ne_of_lt lt1752) nin0)
       have F1754 := (x1544_55.keep kg1608 ni1753)
       have F1755 := (x1544_56.keep kg1608 ni1753)
       have F1756 := (x1544_57.keep kg1608 ni1753)
       have lt1757 := Nat.lt_trans x1544_22 lo1546
       have ni1758 := (ninS (Nat.ne_of_lt lt1757) nin0)
       have F1759 := (x1544_59.keep kg1608 ni1758)
       have F1760 := (x1544_60.keep kg1608 ni1758)
       have ni1761 := (ninS (Nat.ne_of_lt lo1546) nin0)
       have F1762 := (x1544_62.keep kg1608 ni1761)
       have F1763 := (x1544_63.keep kg1608 ni1761)
       have F1764 := (x1544_64.keep kg1608 ni1761)
       obtain ⟨cq1765, kq1765, qa1765, qb1765, qc1765⟩ := isOf hZ e1551 F1554
       obtain ⟨_, _, ⟨T1765, L1765, k1765, n1765⟩, -, X1765, ⟨Lc1765, hQ1765, l1765, y1765, z1765⟩, st1765⟩ := X1551.virtualBack hx (y := mn9) (z := mn9) hown (mvT hZ (ow hw 260 rfl)) (mvT hZ (ow hw 261 rfl)) (notFace_of_selects (args := #[]) (mvT hZ (ow hw 263 rfl))) (mvT hZ (ow hw 263 rfl)) (mvT hZ (ow hw 262 rfl)) (by decide) (backOf (W := 0) (rm_ad0 l Z a0 hw [] ku0 ku1 ku2 ku3 aDef aCac aEmp aMir kDef cCac F0 a1527 a1486 a1471 a1546 d9_1494 c9_1494 p2 r2_1504 n1_1544 m1_1544 o1_1544 s1_1544 l1_1544 s2_1544 l2_1544 s3_1544 l3_1544 s4_1544 l4_1544 s5_1544 l5_1544 kn1_1544 kl1_1544 km1_1544 T1551.heap n0 O1551 F1554 F1556 F1558 F1559 F1579 F1580 F1581 F1582 F1583 F1584 F1585 F1587 x1494_2 F1607 ge1471 F1623 F1624 F1625 F1626 F1627 F1628 F1629 F1630 F1631 F1632 F1633 F1634 F1635 F1649 F1662 F1674 x1544_29 F1675 F1676 F1677 F1678 F1679 F1680 F1681 F1682 F1683 F1684 F1695 F1696 F1706 F1707 F1708 F1717 F1718 F1726 F1727 F1728 F1735 F1736 F1742 F1743 F1744 F1749 F1750 F1754 F1755 F1756 F1759 F1760 F1762 F1763 F1764 lt1516 lt1563 lox1544_10 x1544_11 x1544_12 x1544_13 x1544_14 x1544_15 x1544_16 x1544_17 x1544_18 x1544_19 x1544_20 x1544_21 x1544_22) hZ (ow hw 264 rfl) (ow hw 197 rfl) (by decide) (by decide)) qa1765 qc1765 (g := (mkF m 154 #[vi p0, vi p1, vi p2, vi p3, vi f4, vi f5, vi f6, vi f7, vi f8, vr a1471, vr a1486, vr a1506, vr a1527, .unset, .unset] [(.ref a1546), (.ref a1471), (.ref a1486), (.ref a1527)])) rfl (by rw [hml]; rfl) (Steps.refl _) (argsL := [(.ref a1486), (.ref a1471), (.ref a1546)]) (rest := []) (lenOf pd_Ljava_lang_Object__Ljava_util_List__Ljava_util_List___I rfl) rfl (by show 2 * 0 + _ ≤ _; exact Nat.le_of_eq rfl) (hb hby at_154) (fun _ _ => ⟨rfl, e1551, (by decide : 27 + 5 ≤ _), (by decide : 1054 + 50 ≤ _)⟩)
       dsimp only [Pt.U, Pt.locs, Pt.cells, Pt.slots] at X1765 l1765 y1765 z1765 st1765 hQ1765
       subst l1765 y1765 z1765
       obtain ⟨g2_1765, kg2_1765, g5_1765, kg5_1765, rfl, Nq1765, K1765, x1765_0, x1765_1, x1765_2, x1765_3, x1765_4, x1765_5, x1765_6, x1765_7, x1765_8, x1765_9, x1765_10, x1765_11, x1765_12, x1765_13, x1765_14, x1765_15, x1765_16, x1765_17, x1765_18, x1765_19, x1765_20, x1765_21, x1765_22, x1765_23, x1765_24, x1765_25, x1765_26, x1765_27, x1765_28, x1765_29, x1765_30, x1765_31, x1765_32, x1765_33, x1765_34, x1765_35, x1765_36, x1765_37, x1765_38, x1765_39⟩ := hQ1765
       obtain ⟨L1765, X1765, N1765⟩ := pk X1765 (Fr.app N1551 Nq1765)
       have le1766 : n0 ≤ l5_1544 := Nat.le_trans gex1544_10 (Nat.le_of_lt lt1646)
       have le1767 : n0 ≤ s5_1544 := Nat.le_trans gex1544_10 (Nat.le_of_lt lt1645)
       have le1768 : n0 ≤ l4_1544 := Nat.le_trans gex1544_10 (Nat.le_of_lt lt1644)
       have le1769 : n0 ≤ s4_1544 := Nat.le_trans gex1544_10 (Nat.le_of_lt lt1643)
       have le1770 : n0 ≤ l3_1544 := Nat.le_trans gex1544_10 (Nat.le_of_lt lt1642)
       have le1771 : n0 ≤ s3_1544 := Nat.le_trans gex1544_10 (Nat.le_of_lt lt1641)
       have le1772 : n0 ≤ l2_1544 := Nat.le_trans gex1544_10 (Nat.le_of_lt lt1640)
       have le1773 : n0 ≤ s2_1544 := Nat.le_trans gex1544_10 (Nat.le_of_lt lt1639)
       have le1774 : n0 ≤ l1_1544 := Nat.le_trans gex1544_10 (Nat.le_of_lt lt1638)
       have le1775 : n0 ≤ s1_1544 := Nat.le_trans gex1544_10 (Nat.le_of_lt lt1637)
       have le1776 : n0 ≤ o1_1544 := Nat.le_trans gex1544_10 (Nat.le_of_lt lt1636)
       have le1777 : n0 ≤ m1_1544 := Nat.le_trans gex1544_10 (Nat.le_of_lt x1544_11)
       have O1765 := O1551.keep K1765 (allS ge1527 (allS gex1544_10 (allS le1777 (allS le1776 (allS le1775 (allS le1774 (allS le1773 (allS le1772 (allS le1771 (allS le1770 (allS le1769 (allS le1768 (allS le1767 (allS le1766 all0))))))))))))))
       have e1765 : T1765.heap = T1765.heap := rfl
       have z1778 := Nat.le_trans z1552 K1765.1
       have gex1765_13 : n0 ≤ g2_1765 := Nat.le_trans (own_sz O1551) x1765_13
       have ghx1765_13 : h0.size ≤ g2_1765 := Nat.le_trans z1552 x1765_13
       have lox1765_13 : a1546 < g2_1765 := Nat.lt_of_lt_of_le F1559.lt x1765_13
       refine og (fun _ k => st1765.trans k) ?_
       show OG p e below _ T1765 m 157 #[vi p0, vi p1, vi p2, vi p3, vi f4, vi f5, vi f6, vi f7, vi f8, vr a1471, vr a1486, vr a1506, vr a1527, .unset, .unset] [(.int 0)]
       refine og (fun _ k => XS.istore X1765.here hx rfl (hb hby at_157) rfl (l' := #[vi p0, vi p1, vi p2, vi p3, vi f4, vi f5, vi f6, vi f7, vi f8, vr a1471, vr a1486, vr a1506, vr a1527, vi 0, .unset]) rfl k) ?_
       show OG p e below _ T1765 m 159 #[vi p0, vi p1, vi p2, vi p3, vi f4, vi f5, vi f6, vi f7, vi f8, vr a1471, vr a1486, vr a1506, vr a1527, vi 0, .unset] []
       have k188 : ∀ (T : State) (h' : Heap) (L : List Loc) (hv : Int32), Stand p l e room_1 s m #[(.int p0), (.int p1), (.int p2), (.int p3)] below meth c T L 32 1104 → T.heap = h' → Fr n0 L → Keep T1765.heap h' [n1_1544] → Arv Z h' n1_1544 kn1_1544 .int 576 [(.int hv), (.int p2), (.int 0), (.int 0), (.int 0), (.int 0), (.int 0), (.int 1), (.int 1), (.int 0), (.int 0), (.int 0), (.int 0), (.int 0), (.int 0), (.int 0), (.int 0), (.int 0)] (.int 0) → (hv &&& (512 : Int32) = (0 : Int32) ↔ (f8 = (0 : Int32) ∨ f5 = (0 : Int32))) → OwnGo p e below (fun o U' => ∃ v L, o = .returned v ∧ Q_law Z ku0 ku1 ku2 ku3 aDef aCac aEmp aMir kDef cCac p0 p1 p2 p3 h0 n0 v U'.heap L ∧ FrameEnd s o U' L 33 1107) (T.setTop (mkF m 188 #[vi p0, vi p1, vi p2, vi p3, vi f4, vi f5, vi f6, vi f7, vi f8, vr a1471, vr a1486, vr a1506, vr a1527, vi 0, .unset] [])) := by
        intro Tc188 hc188 Lc188 hv Xc188 ec188 Nc188 Kc188 Vc188 P188
        have Oc188 := O1765.keep Kc188 (allS gex1544_10 all0)
        have z1779 := Nat.le_trans z1778 Kc188.1
        show OG p e below _ Tc188 m 188 #[vi p0, vi p1, vi p2, vi p3, vi f4, vi f5, vi f6, vi f7, vi f8, vr a1471, vr a1486, vr a1506, vr a1527, vi 0, .unset] []
        refine qb Xc188.here hx hby at_188 rfl rfl ?_
        show OG p e below _ Tc188 m 190 #[vi p0, vi p1, vi p2, vi p3, vi f4, vi f5, vi f6, vi f7, vi f8, vr a1471, vr a1486, vr a1506, vr a1527, vi 0, .unset] [(.ref a1527)]
        refine qb Xc188.here hx hby at_190 rfl rfl ?_
        refine qb Xc188.here hx hby at_192 rfl rfl ?_
        obtain ⟨T1780, h1780, X1780, e1780, E1780, A1780, D1780, -, st1780⟩ := newO Xc188 hx hZ hown (ow hw 0 rfl) (ow hw 1 rfl) (ow hw 2 rfl) ec188 (g := (mkF m 194 #[vi p0, vi p1, vi p2, vi p3, vi f4, vi f5, vi f6, vi f7, vi f8, vr a1471, vr a1486, vr a1506, vr a1527, vi 0, .unset] [(.ref a1471), (.ref a1506), (.ref a1527)])) rfl (hb hby at_194) (by decide) (by decide)
        have F1781 := (x1765_18.keep Kc188)
        obtain ⟨a1780, g1780⟩ : ∃ z, z = hc188.size := ⟨_, rfl⟩
        rw [← g1780] at A1780 D1780 st1780
        have ge1780 : n0 ≤ a1780 := Nat.le_trans (own_sz Oc188) (Nat.le_of_eq g1780.symm)
        have gh1780 : h0.size ≤ a1780 := Nat.le_trans z1779 (Nat.le_of_eq g1780.symm)
        have lo1780 : g5_1765 < a1780 := Nat.lt_of_lt_of_eq F1781.lt g1780.symm
        have O1780 := Oc188.ext E1780
        have z1782 := Nat.le_trans z1779 E1780.1
        have F1783 : Fld Z h1780 a1780 "java/util/AbstractList" "modCount" "I" (.int 0) := D1780 (Or.inl (ow hw 22 rfl)) (ty := .int) (by decide)
        have F1784 : Fld Z h1780 a1780 "java/util/ArrayList" "elementData" "[Ljava/lang/Object;" .null := D1780 (Or.inl (ow hw 25 rfl)) (ty := (.array (.object "java/lang/Object"))) (by decide)
        have F1785 : Fld Z h1780 a1780 "java/util/ArrayList" "size" "I" (.int 0) := D1780 (Or.inl (ow hw 41 rfl)) (ty := .int) (by decide)
        refine og st1780 ?_
        show OG p e below _ T1780 m 197 #[vi p0, vi p1, vi p2, vi p3, vi f4, vi f5, vi f6, vi f7, vi f8, vr a1471, vr a1486, vr a1506, vr a1527, vi 0, .unset] [(.ref a1780), (.ref a1471), (.ref a1506), (.ref a1527)]
        refine qd X1780.here hx hby at_197 rfl rfl ?_
        obtain ⟨_, _, ⟨T1786, L1786, k1786, n1786⟩, -, X1786, ⟨Lc1786, hQ1786, l1786, y1786, z1786⟩, st1786⟩ := X1780.specialBack hx (y := mn25) rfl hown (mvT hZ (ow hw 3 rfl)) (mvT hZ (ow hw 4 rfl)) (mvT hZ (ow hw 5 rfl)) (by decide) (backOf (W := 4) (rm_iAL l Z a0 hw [] ku0 ku1 ku2 ku3 aDef aCac aEmp aMir kDef cCac F0 a1780 h1780 n0 O1780 A1780 F1783 F1784 F1785 ge1780) hZ (ow hw 5 rfl) (ow hw 2 rfl) (by decide) (by decide)) (g := (mkF m 198 #[vi p0, vi p1, vi p2, vi p3, vi f4, vi f5, vi f6, vi f7, vi f8, vr a1471, vr a1486, vr a1506, vr a1527, vi 0, .unset] [(.ref a1780), (.ref a1780), (.ref a1471), (.ref a1506), (.ref a1527)])) rfl (by rw [hml]; rfl) (Steps.refl _) (a := a1780) (argsL := []) (rest := [(.ref a1780), (.ref a1471), (.ref a1506), (.ref a1527)]) (lenOf pd___V rfl) rfl (by show 2 * 0 + _ ≤ _; exact Nat.le_of_eq rfl) (hb hby at_198) (fun _ _ => ⟨rfl, e1780, (by decide : 33 + 0 ≤ _), (by decide : 1107 + 0 ≤ _)⟩)
        dsimp only [Pt.U, Pt.locs, Pt.cells, Pt.slots] at X1786 l1786 y1786 z1786 st1786 hQ1786
        subst l1786 y1786 z1786
        obtain ⟨rfl, Nq1786, K1786, x1786_0, x1786_1, x1786_2⟩ := hQ1786
        obtain ⟨L1786, X1786, N1786⟩ := pk X1786 (Fr.app Nc188 Nq1786)
        have O1786 := O1780.keep K1786 (allS ge1780 all0)
        have e1786 : T1786.heap = T1786.heap := rfl
        have z1787 := Nat.le_trans z1782 K1786.1
        refine og (fun _ k => st1786.trans k) ?_
        show OG p e below _ T1786 m 201 #[vi p0, vi p1, vi p2, vi p3, vi f4, vi f5, vi f6, vi f7, vi f8, vr a1471, vr a1486, vr a1506, vr a1527, vi 0, .unset] [(.ref a1780), (.ref a1471), (.ref a1506), (.ref a1527)]
        have kg1788 := (((((Keep.refl _ [a1527, n1_1544, m1_1544, o1_1544, s1_1544, l1_1544, s2_1544, l2_1544, s3_1544, l3_1544, s4_1544, l4_1544, s5_1544, l5_1544, a1780]).trans K1765 (aS (om 0 rfl) (aS (om 1 rfl) (aS (om 2 rfl) (aS (om 3 rfl) (aS (om 4 rfl) (aS (om 5 rfl) (aS (om 6 rfl) (aS (om 7 rfl) (aS (om 8 rfl) (aS (om 9 rfl) (aS (om 10 rfl) (aS (om 11 rfl) (aS (om 12 rfl) (aS (om 13 rfl) all0))))))))))))))).trans Kc188 (aS (om 1 rfl) all0)).ext E1780).trans K1786 (aS (om 14 rfl) all0))
        have F1789 := (F1554.keep kg1788)
        have kg1790 := ((((((((((Keep.refl _ [a1506, a1527, a1546, n1_1544, m1_1544, o1_1544, s1_1544, l1_1544, s2_1544, l2_1544, s3_1544, l3_1544, s4_1544, l4_1544, s5_1544, l5_1544, a1780]).trans K1525 (aS (om 0 rfl) all0)).ext E1527).trans K1544 (aS (om 1 rfl) all0)).ext E1546).trans K1551 (aS (om 2 rfl) all0)).trans K1765 (aS (om 1 rfl) (aS (om 3 rfl) (aS (om 4 rfl) (aS (om 5 rfl) (aS (om 6 rfl) (aS (om 7 rfl) (aS (om 8 rfl) (aS (om 9 rfl) (aS (om 10 rfl) (aS (om 11 rfl) (aS (om 12 rfl) (aS (om 13 rfl) (aS (om 14 rfl) (aS (om 15 rfl) all0))))))))))))))).trans Kc188 (aS (om 3 rfl) all0)).ext E1780).trans K1786 (aS (om 16 rfl) all0))
        have F1791 := (A1506.keep kg1790)
        have F1792 := (F1558.keep kg1788)
        have F1793 := (A1780.keep K1786)
        have kg1794 := (((((((((Keep.refl _ [a1527, a1546, n1_1544, m1_1544, o1_1544, s1_1544, l1_1544, s2_1544, l2_1544, s3_1544, l3_1544, s4_1544, l4_1544, s5_1544, l5_1544, a1780]).ext E1527).trans K1544 (aS (om 0 rfl) all0)).ext E1546).trans K1551 (aS (om 1 rfl) all0)).trans K1765 (aS (om 0 rfl) (aS (om 2 rfl) (aS (om 3 rfl) (aS (om 4 rfl) (aS (om 5 rfl) (aS (om 6 rfl) (aS (om 7 rfl) (aS (om 8 rfl) (aS (om 9 rfl) (aS (om 10 rfl) (aS (om 11 rfl) (aS (om 12 rfl) (aS (om 13 rfl) (aS (om 14 rfl) all0))))))))))))))).trans Kc188 (aS (om 2 rfl) all0)).ext E1780).trans K1786 (aS (om 15 rfl) all0))
        have lt1795 := Nat.lt_trans lox1525_5 lo1527
        have lt1796 := Nat.lt_trans lt1795 lox1544_10
        have lt1797 := Nat.lt_trans lt1796 x1544_11
        have lt1798 := Nat.lt_trans lt1797 x1544_12
        have lt1799 := Nat.lt_trans lt1798 x1544_13
        have lt1800 := Nat.lt_trans lt1799 x1544_14
        have lt1801 := Nat.lt_trans lt1800 x1544_15
        have lt1802 := Nat.lt_trans lt1801 x1544_16
        have lt1803 := Nat.lt_trans lt1802 x1544_17
        have lt1804 := Nat.lt_trans lt1803 x1544_18
        have lt1805 := Nat.lt_trans lt1804 x1544_19
        have lt1806 := Nat.lt_trans lt1805 x1544_20
        have lt1807 := Nat.lt_trans lt1806 x1544_21
        have lt1808 := Nat.lt_trans lt1807 x1544_22
        have lt1809 := Nat.lt_trans lt1808 lo1546
        have lt1810 := Nat.lt_trans lt1809 lox1765_13
        have lt1811 := Nat.lt_trans lt1810 x1765_14
        have lt1812 := Nat.lt_trans lt1811 lo1780
        have ni1813 := (ninS (Nat.ne_of_lt lt1795) (ninS (Nat.ne_of_lt lt1809) (ninS (Nat.ne_of_lt lt1796) (ninS (Nat.ne_of_lt lt1797) (ninS (Nat.ne_of_lt lt1798) (ninS (Nat.ne_of_lt lt1799) (ninS (Nat.ne_of_lt lt1800) (ninS (Nat.ne_of_lt lt1801) (ninS (Nat.ne_of_lt lt1802) (ninS (Nat.ne_of_lt lt1803) (ninS (Nat.ne_of_lt lt1804) (ninS (Nat.ne_of_lt lt1805) (ninS (Nat.ne_of_lt lt1806) (ninS (Nat.ne_of_lt lt1807) (ninS (Nat.ne_of_lt lt1808) (ninS (Nat.ne_of_lt lt1812) nin0))))))))))))))))
        have F1814 := (x1525_0.keep kg1794 ni1813)
        have F1815 := (x1525_1.keep kg1794 ni1813)
        have F1816 := (x1525_2.keep kg1794 ni1813)
        have F1817 := (x1525_3.keep kg1794 ni1813)
        have F1818 := (x1525_4.keep kg1794 ni1813)
        have F1819 := (x1525_6.keep kg1794)
        have F1820 := (x1513_0.keep kg1790)
        have ni1821 := (ninS (O0.ne x1513_2 ge1506) (ninS (O0.ne x1513_2 ge1527) (ninS (O0.ne x1513_2 ge1546) (ninS (O0.ne x1513_2 gex1544_10) (ninS (O0.ne x1513_2 le1777) (ninS (O0.ne x1513_2 le1776) (ninS (O0.ne x1513_2 le1775) (ninS (O0.ne x1513_2 le1774) (ninS (O0.ne x1513_2 le1773) (ninS (O0.ne x1513_2 le1772) (ninS (O0.ne x1513_2 le1771) (ninS (O0.ne x1513_2 le1770) (ninS (O0.ne x1513_2 le1769) (ninS (O0.ne x1513_2 le1768) (ninS (O0.ne x1513_2 le1767) (ninS (O0.ne x1513_2 le1766) (ninS (O0.ne x1513_2 ge1780) nin0)))))))))))))))))
        have F1822 := (x1513_1.keep kg1790 ni1821)
        have lt1823 := Nat.lt_trans lt1605 lox1765_13
        have lt1824 := Nat.lt_trans lt1823 x1765_14
        have lt1825 := Nat.lt_trans lt1824 lo1780
        have ni1826 := (ninS (Nat.ne_of_lt lt1591) (ninS (Nat.ne_of_lt lt1592) (ninS (Nat.ne_of_lt lt1593) (ninS (Nat.ne_of_lt lt1594) (ninS (Nat.ne_of_lt lt1595) (ninS (Nat.ne_of_lt lt1596) (ninS (Nat.ne_of_lt lt1597) (ninS (Nat.ne_of_lt lt1598) (ninS (Nat.ne_of_lt lt1599) (ninS (Nat.ne_of_lt lt1600) (ninS (Nat.ne_of_lt lt1601) (ninS (Nat.ne_of_lt lt1602) (ninS (Nat.ne_of_lt lt1603) (ninS (Nat.ne_of_lt lt1604) (ninS (Nat.ne_of_lt lt1825) nin0)))))))))))))))
        have F1827 := (F1607.keep kg1788 ni1826)
        have kg1828 := ((((Keep.refl _ [n1_1544, a1780]).trans Kc188 (aS (om 0 rfl) all0)).ext E1780).trans K1786 (aS (om 1 rfl) all0))
        have lt1829 := Nat.lt_trans lt1621 lox1765_13
        have lt1830 := Nat.lt_trans lt1829 x1765_14
        have lt1831 := Nat.lt_trans lt1830 lo1780
        have ni1832 := (ninS (Nat.ne_of_lt lox1544_10) (ninS (Nat.ne_of_lt lt1831) nin0))
        have F1833 := (x1765_0.keep kg1828 ni1832)
        have F1834 := (x1765_1.keep kg1828 ni1832)
        have F1835 := (x1765_2.keep kg1828 ni1832)
        have F1836 := (x1765_3.keep kg1828 ni1832)
        have F1837 := (x1765_4.keep kg1828 ni1832)
        have F1838 := (x1765_5.keep kg1828 ni1832)
        have F1839 := (x1765_6.keep kg1828 ni1832)
        have F1840 := (x1765_7.keep kg1828 ni1832)
        have F1841 := (x1765_8.keep kg1828 ni1832)
        have F1842 := (x1765_9.keep kg1828 ni1832)
        have F1843 := (F1633.keep kg1788)
        have F1844 := (F1634.keep kg1788)
        have F1845 := (F1635.keep kg1788)
        have kg1846 := (((Keep.refl _ [a1780]).ext E1780).trans K1786 (aS (om 0 rfl) all0))
        have lt1847 := Nat.lt_trans lt1647 lox1765_13
        have lt1848 := Nat.lt_trans lt1847 x1765_14
        have lt1849 := Nat.lt_trans lt1848 lo1780
        have ni1850 := (ninS (Nat.ne_of_lt lt1849) nin0)
        have F1851 := (Vc188.keep kg1846 ni1850)
        have lt1852 := Nat.lt_trans lt1660 lox1765_13
        have lt1853 := Nat.lt_trans lt1852 x1765_14
        have lt1854 := Nat.lt_trans lt1853 lo1780
        have ni1855 := (ninS (Ne.symm (Nat.ne_of_lt x1544_11)) (ninS (Nat.ne_of_lt lt1854) nin0))
        have F1856 := (x1765_11.keep kg1828 ni1855)
        have lt1857 := Nat.lt_trans lt1672 lox1765_13
        have lt1858 := Nat.lt_trans lt1857 x1765_14
        have lt1859 := Nat.lt_trans lt1858 lo1780
        have ni1860 := (ninS (Ne.symm (Nat.ne_of_lt lt1636)) (ninS (Nat.ne_of_lt lt1859) nin0))
        have F1861 := (x1765_12.keep kg1828 ni1860)
        have F1862 := (F1675.keep kg1788)
        have F1863 := (F1676.keep kg1788)
        have F1864 := (F1677.keep kg1788)
        have F1865 := (F1678.keep kg1788)
        have F1866 := (F1679.keep kg1788)
        have F1867 := (F1680.keep kg1788)
        have F1868 := (F1681.keep kg1788)
        have F1869 := (F1682.keep kg1788)
        have F1870 := (F1683.keep kg1788)
        have F1871 := (F1684.keep kg1788)
        have lt1872 := Nat.lt_trans lt1693 lox1765_13
        have lt1873 := Nat.lt_trans lt1872 x1765_14
        have lt1874 := Nat.lt_trans lt1873 lo1780
        have ni1875 := (ninS (Ne.symm (Nat.ne_of_lt lt1637)) (ninS (Nat.ne_of_lt lt1874) nin0))
        have F1876 := (x1765_21.keep kg1828 ni1875)
        have F1877 := (x1765_22.keep kg1828 ni1875)
        have lt1878 := Nat.lt_trans lt1704 lox1765_13
        have lt1879 := Nat.lt_trans lt1878 x1765_14
        have lt1880 := Nat.lt_trans lt1879 lo1780
        have ni1881 := (ninS (Ne.symm (Nat.ne_of_lt lt1638)) (ninS (Nat.ne_of_lt lt1880) nin0))
        have F1882 := (x1765_23.keep kg1828 ni1881)
        have lt1883 := Nat.lt_trans lt1715 lox1765_13
        have lt1884 := Nat.lt_trans lt1883 x1765_14
        have lt1885 := Nat.lt_trans lt1884 lo1780
        have ni1886 := (ninS (Ne.symm (Nat.ne_of_lt lt1639)) (ninS (Nat.ne_of_lt lt1885) nin0))
        have F1887 := (x1765_24.keep kg1828 ni1886)
        have F1888 := (x1765_25.keep kg1828 ni1886)
        have lt1889 := Nat.lt_trans lt1724 lox1765_13
        have lt1890 := Nat.lt_trans lt1889 x1765_14
        have lt1891 := Nat.lt_trans lt1890 lo1780
        have ni1892 := (ninS (Ne.symm (Nat.ne_of_lt lt1640)) (ninS (Nat.ne_of_lt lt1891) nin0))
        have F1893 := (x1765_26.keep kg1828 ni1892)
        have F1894 := (x1765_27.keep kg1828 ni1892)
        have F1895 := (x1765_28.keep kg1828 ni1892)
        have lt1896 := Nat.lt_trans lt1733 lox1765_13
        have lt1897 := Nat.lt_trans lt1896 x1765_14
        have lt1898 := Nat.lt_trans lt1897 lo1780
        have ni1899 := (ninS (Ne.symm (Nat.ne_of_lt lt1641)) (ninS (Nat.ne_of_lt lt1898) nin0))
        have F1900 := (x1765_29.keep kg1828 ni1899)
        have F1901 := (x1765_30.keep kg1828 ni1899)
        have lt1902 := Nat.lt_trans lt1740 lox1765_13
        have lt1903 := Nat.lt_trans lt1902 x1765_14
        have lt1904 := Nat.lt_trans lt1903 lo1780
        have ni1905 := (ninS (Ne.symm (Nat.ne_of_lt lt1642)) (ninS (Nat.ne_of_lt lt1904) nin0))
        have F1906 := (x1765_31.keep kg1828 ni1905)
        have lt1907 := Nat.lt_trans lt1747 lox1765_13
        have lt1908 := Nat.lt_trans lt1907 x1765_14
        have lt1909 := Nat.lt_trans lt1908 lo1780
        have ni1910 := (ninS (Ne.symm (Nat.ne_of_lt lt1643)) (ninS (Nat.ne_of_lt lt1909) nin0))
        have F1911 := (x1765_32.keep kg1828 ni1910)
        have F1912 := (x1765_33.keep kg1828 ni1910)
        have lt1913 := Nat.lt_trans lt1752 lox1765_13
        have lt1914 := Nat.lt_trans lt1913 x1765_14
        have lt1915 := Nat.lt_trans lt1914 lo1780
        have ni1916 := (ninS (Ne.symm (Nat.ne_of_lt lt1644)) (ninS (Nat.ne_of_lt lt1915) nin0))
        have F1917 := (x1765_34.keep kg1828 ni1916)
        have lt1918 := Nat.lt_trans lt1757 lox1765_13
        have lt1919 := Nat.lt_trans lt1918 x1765_14
        have lt1920 := Nat.lt_trans lt1919 lo1780
        have ni1921 := (ninS (Ne.symm (Nat.ne_of_lt lt1645)) (ninS (Nat.ne_of_lt lt1920) nin0))
        have F1922 := (x1765_35.keep kg1828 ni1921)
        have F1923 := (x1765_36.keep kg1828 ni1921)
        have lt1924 := Nat.lt_trans lo1546 lox1765_13
        have lt1925 := Nat.lt_trans lt1924 x1765_14
        have lt1926 := Nat.lt_trans lt1925 lo1780
        have ni1927 := (ninS (Ne.symm (Nat.ne_of_lt lt1646)) (ninS (Nat.ne_of_lt lt1926) nin0))
        have F1928 := (x1765_37.keep kg1828 ni1927)
        have F1929 := (x1765_38.keep kg1828 ni1927)
        have F1930 := (x1765_39.keep kg1828 ni1927)
        have F1931 := (x1765_15.keep kg1828)
        have lt1932 := Nat.lt_trans x1765_14 lo1780
        have ni1933 := (ninS (Ne.symm (Nat.ne_of_lt lt1847)) (ninS (Nat.ne_of_lt lt1932) nin0))
        have F1934 := (x1765_16.keep kg1828 ni1933)
        have F1935 := (F1781.keep kg1846)
        have ni1936 := (ninS (Ne.symm (Nat.ne_of_lt lt1848)) (ninS (Nat.ne_of_lt lo1780) nin0))
        have F1937 := (x1765_19.keep kg1828 ni1936)
        have lt1938 := Nat.lt_trans lo1506 lox1525_5
        have lt1939 := Nat.lt_trans lox1765_13 x1765_14
        have lt1940 := Nat.lt_trans lt1939 lo1780
        obtain ⟨cq1941, kq1941, qa1941, qb1941, qc1941⟩ := isOf hZ e1786 F1789
        obtain ⟨_, _, ⟨T1941, L1941, k1941, n1941⟩, -, X1941, ⟨Lc1941, hQ1941, l1941, y1941, z1941⟩, st1941⟩ := X1786.virtualBack hx (y := mn9) (z := mn9) hown (mvT hZ (ow hw 260 rfl)) (mvT hZ (ow hw 261 rfl)) (notFace_of_selects (args := #[]) (mvT hZ (ow hw 263 rfl))) (mvT hZ (ow hw 263 rfl)) (mvT hZ (ow hw 262 rfl)) (by decide) (backOf (W := 0) (rm_ad1 l Z a0 hw [] ku0 ku1 ku2 ku3 aDef aCac aEmp aMir kDef cCac F0 a1527 a1506 a1471 a1780 d9_1513 c9_1513 p3 r2_1525 n1_1544 m1_1544 o1_1544 s1_1544 l1_1544 s2_1544 l2_1544 s3_1544 l3_1544 s4_1544 l4_1544 s5_1544 l5_1544 kn1_1544 kl1_1544 km1_1544 hv (.int p2) (.int 0) (.int 0) (.int 0) (.int 0) (.int 0) (.int 1) (.int 1) r2_1504 a1546 g2_1765 g5_1765 kg2_1765 kg5_1765 ((0 : Int32) + (1 : Int32)) ((0 : Int32) + (1 : Int32)) T1786.heap n0 O1786 F1789 F1791 F1792 F1793 F1814 F1815 F1816 F1817 F1818 F1819 F1820 F1822 x1513_2 F1827 ge1471 F1833 F1834 F1835 F1836 F1837 F1838 F1839 F1840 F1841 F1842 F1843 F1844 F1845 F1851 F1856 F1861 x1544_29 F1862 F1863 F1864 F1865 F1866 F1867 F1868 F1869 F1870 F1871 F1876 F1877 F1882 F1887 F1888 F1893 F1894 F1895 F1900 F1901 F1906 F1911 F1912 F1917 F1922 F1923 F1928 F1929 F1930 F1931 F1934 x1765_17 F1935 F1937 x1765_20 (Ne.symm (Nat.ne_of_lt lt1938)) (Ne.symm (Nat.ne_of_lt lt1940)) lt1589 lt1795 lox1544_10 x1544_11 x1544_12 x1544_13 x1544_14 x1544_15 x1544_16 x1544_17 x1544_18 x1544_19 x1544_20 x1544_21 x1544_22 lt1924 x1765_14) hZ (ow hw 264 rfl) (ow hw 197 rfl) (by decide) (by decide)) qa1941 qc1941 (g := (mkF m 201 #[vi p0, vi p1, vi p2, vi p3, vi f4, vi f5, vi f6, vi f7, vi f8, vr a1471, vr a1486, vr a1506, vr a1527, vi 0, .unset] [(.ref a1780), (.ref a1471), (.ref a1506), (.ref a1527)])) rfl (by rw [hml]; rfl) (Steps.refl _) (argsL := [(.ref a1506), (.ref a1471), (.ref a1780)]) (rest := []) (lenOf pd_Ljava_lang_Object__Ljava_util_List__Ljava_util_List___I rfl) rfl (by show 2 * 0 + _ ≤ _; exact Nat.le_of_eq rfl) (hb hby at_201) (fun _ _ => ⟨rfl, e1786, (by decide : 33 + 0 ≤ _), (by decide : 1107 + 0 ≤ _)⟩)
        dsimp only [Pt.U, Pt.locs, Pt.cells, Pt.slots] at X1941 l1941 y1941 z1941 st1941 hQ1941
        subst l1941 y1941 z1941
        obtain ⟨rfl, Nq1941, K1941, x1941_0, x1941_1⟩ := hQ1941
        obtain ⟨L1941, X1941, N1941⟩ := pk X1941 (Fr.app N1786 Nq1941)
        have le1942 : n0 ≤ g5_1765 := Nat.le_trans gex1765_13 (Nat.le_of_lt x1765_14)
        have O1941 := O1786.keep K1941 (allS ge1527 (allS gex1544_10 (allS le1777 (allS le1776 (allS le1775 (allS le1774 (allS le1773 (allS le1772 (allS le1771 (allS le1770 (allS le1769 (allS le1768 (allS le1767 (allS le1766 (allS gex1765_13 (allS le1942 all0))))))))))))))))
        have e1941 : T1941.heap = T1941.heap := rfl
        have z1943 := Nat.le_trans z1787 K1941.1
        refine og (fun _ k => st1941.trans k) ?_
        show OG p e below _ T1941 m 204 #[vi p0, vi p1, vi p2, vi p3, vi f4, vi f5, vi f6, vi f7, vi f8, vr a1471, vr a1486, vr a1506, vr a1527, vi 0, .unset] [(.int 1)]
        refine og (fun _ k => XS.istore X1941.here hx rfl (hb hby at_204) rfl (l' := #[vi p0, vi p1, vi p2, vi p3, vi f4, vi f5, vi f6, vi f7, vi f8, vr a1471, vr a1486, vr a1506, vr a1527, vi 0, vi 1]) rfl k) ?_
        show OG p e below _ T1941 m 206 #[vi p0, vi p1, vi p2, vi p3, vi f4, vi f5, vi f6, vi f7, vi f8, vr a1471, vr a1486, vr a1506, vr a1527, vi 0, vi 1] []
        have k235 : ∀ (T : State) (h' : Heap) (L : List Loc) (hw2 : Int32), Stand p l e room_1 s m #[(.int p0), (.int p1), (.int p2), (.int p3)] below meth c T L 33 1107 → T.heap = h' → Fr n0 L → Keep T1941.heap h' [n1_1544] → Arv Z h' n1_1544 kn1_1544 .int 576 [(.int hw2), (.int p2), (.int 0), (.int 0), (.int 0), (.int 0), (.int 0), (.int 1), (.int 1), (.int (c9_1513 + (1 : Int32))), (.int p3), (.int 0), (.int 1), (.int 0), (.int 0), (.int 0), (.int 1), (.int 1)] (.int 0) → (hw2 &&& (512 : Int32) = (0 : Int32) ↔ (f5 = (0 : Int32))) → OwnGo p e below (fun o U' => ∃ v L, o = .returned v ∧ Q_law Z ku0 ku1 ku2 ku3 aDef aCac aEmp aMir kDef cCac p0 p1 p2 p3 h0 n0 v U'.heap L ∧ FrameEnd s o U' L 33 1107) (T.setTop (mkF m 235 #[vi p0, vi p1, vi p2, vi p3, vi f4, vi f5, vi f6, vi f7, vi f8, vr a1471, vr a1486, vr a1506, vr a1527, vi 0, vi 1] [])) := by
         intro Tc235 hc235 Lc235 hw2 Xc235 ec235 Nc235 Kc235 Vc235 P235
         have Oc235 := O1941.keep Kc235 (allS gex1544_10 all0)
         have z1944 := Nat.le_trans z1943 Kc235.1
         show OG p e below _ Tc235 m 235 #[vi p0, vi p1, vi p2, vi p3, vi f4, vi f5, vi f6, vi f7, vi f8, vr a1471, vr a1486, vr a1506, vr a1527, vi 0, vi 1] []
         have k259 : ∀ (T : State) (h' : Heap) (L : List Loc) (gv : Int32), Stand p l e room_1 s m #[(.int p0), (.int p1), (.int p2), (.int p3)] below meth c T L 33 1107 → T.heap = h' → Fr n0 L → Keep hc235 h' [n1_1544] → Arv Z h' n1_1544 kn1_1544 .int 576 [(.int hw2), (.int p2), (.int 0), (.int 0), (.int 0), (.int 0), (.int 0), (.int 1), (.int 1), (.int gv), (.int p3), (.int 0), (.int 1), (.int 0), (.int 0), (.int 0), (.int 1), (.int 1)] (.int 0) → (gv &&& (512 : Int32) = (0 : Int32) ↔ (f7 = (0 : Int32))) → OwnGo p e below (fun o U' => ∃ v L, o = .returned v ∧ Q_law Z ku0 ku1 ku2 ku3 aDef aCac aEmp aMir kDef cCac p0 p1 p2 p3 h0 n0 v U'.heap L ∧ FrameEnd s o U' L 33 1107) (T.setTop (mkF m 259 #[vi p0, vi p1, vi p2, vi p3, vi f4, vi f5, vi f6, vi f7, vi f8, vr a1471, vr a1486, vr a1506, vr a1527, vi 0, vi 1] [])) := by
          intro Tc259 hc259 Lc259 gv Xc259 ec259 Nc259 Kc259 Vc259 P259
          have Oc259 := Oc235.keep Kc259 (allS gex1544_10 all0)
          have z1945 := Nat.le_trans z1944 Kc259.1
          show OG p e below _ Tc259 m 259 #[vi p0, vi p1, vi p2, vi p3, vi f4, vi f5, vi f6, vi f7, vi f8, vr a1471, vr a1486, vr a1506, vr a1527, vi 0, vi 1] []
          refine qi Xc259.here hx hby at_259 rfl ?_
          show OG p e below _ Tc259 m 261 #[vi p0, vi p1, vi p2, vi p3, vi f4, vi f5, vi f6, vi f7, vi f8, vr a1471, vr a1486, vr a1506, vr a1527, vi 0, vi 1] [(.int 0)]
          refine og (fun _ k => XS.ifNo Xc259.here hx rfl (hb hby at_261) rfl (by decide) k) ?_
          show OG p e below _ Tc259 m 264 #[vi p0, vi p1, vi p2, vi p3, vi f4, vi f5, vi f6, vi f7, vi f8, vr a1471, vr a1486, vr a1506, vr a1527, vi 0, vi 1] []
          refine qi Xc259.here hx hby at_264 rfl ?_
          refine qc Xc259.here hx hby at_266 ?_
          refine og (fun _ k => XS.icmpNo Xc259.here hx rfl (hb hby at_267) rfl (by decide) k) ?_
          show OG p e below _ Tc259 m 270 #[vi p0, vi p1, vi p2, vi p3, vi f4, vi f5, vi f6, vi f7, vi f8, vr a1471, vr a1486, vr a1506, vr a1527, vi 0, vi 1] []
          refine qb Xc259.here hx hby at_270 rfl rfl ?_
          refine qi Xc259.here hx hby at_272 rfl ?_
          have kg1946 := ((((Keep.refl _ [a1527, n1_1544, m1_1544, o1_1544, s1_1544, l1_1544, s2_1544, l2_1544, s3_1544, l3_1544, s4_1544, l4_1544, s5_1544, l5_1544, g2_1765, g5_1765]).trans K1941 (aS (om 0 rfl) (aS (om 1 rfl) (aS (om 2 rfl) (aS (om 3 rfl) (aS (om 4 rfl) (aS (om 5 rfl) (aS (om 6 rfl) (aS (om 7 rfl) (aS (om 8 rfl) (aS (om 9 rfl) (aS (om 10 rfl) (aS (om 11 rfl) (aS (om 12 rfl) (aS (om 13 rfl) (aS (om 14 rfl) (aS (om 15 rfl) all0))))))))))))))))).trans Kc235 (aS (om 1 rfl) all0)).trans Kc259 (aS (om 1 rfl) all0))
          have F1947 := (F1789.keep kg1946)
          have kg1948 := (((Keep.refl _ [n1_1544]).trans Kc235 (aS (om 0 rfl) all0)).trans Kc259 (aS (om 0 rfl) all0))
          have ni1949 := (ninS (Nat.ne_of_lt lox1544_10) nin0)
          have F1950 := (x1941_0.keep kg1948 ni1949)
          have F1951 := (F1843.keep kg1946)
          obtain ⟨cq1952, kq1952, qa1952, qb1952, qc1952⟩ := isOf hZ ec259 F1947
          obtain ⟨_, _, ⟨T1952, L1952, k1952, n1952⟩, -, X1952, ⟨Lc1952, hQ1952, l1952, y1952, z1952⟩, st1952⟩ := Xc259.virtualBack hx (y := mn10) (z := mn10) hown (mvT hZ (ow hw 339 rfl)) (mvT hZ (ow hw 340 rfl)) (notFace_of_selects (args := #[]) (mvT hZ (ow hw 342 rfl))) (mvT hZ (ow hw 342 rfl)) (mvT hZ (ow hw 341 rfl)) (by decide) (backOf (W := 0) (rm_hs0 l Z a0 hw [] ku0 ku1 ku2 ku3 aDef aCac aEmp aMir kDef cCac F0 a1527 n1_1544 kn1_1544 [(.int hw2), (.int p2), (.int 0), (.int 0), (.int 0), (.int 0), (.int 0), (.int 1), (.int 1), (.int gv), (.int p3), (.int 0), (.int 1), (.int 0), (.int 0), (.int 0), (.int 1), (.int 1)] hw2 f5 hc259 n0 Oc259 F1950 F1951 Vc259 rfl (Nat.le_of_ble_eq_true rfl) (own_r0 P235 hf5)) hZ (ow hw 343 rfl) (ow hw 197 rfl) (by decide) (by decide)) qa1952 qc1952 (g := (mkF m 274 #[vi p0, vi p1, vi p2, vi p3, vi f4, vi f5, vi f6, vi f7, vi f8, vr a1471, vr a1486, vr a1506, vr a1527, vi 0, vi 1] [(.int 0), (.ref a1527)])) rfl (by rw [hml]; rfl) (Steps.refl _) (argsL := [(.int 0)]) (rest := []) (lenOf pd_I__Z rfl) rfl (by show 2 * 0 + _ ≤ _; exact Nat.le_of_eq rfl) (hb hby at_274) (fun _ _ => ⟨rfl, ec259, (by decide : 33 + 0 ≤ _), (by decide : 1107 + 0 ≤ _)⟩)
          dsimp only [Pt.U, Pt.locs, Pt.cells, Pt.slots] at X1952 l1952 y1952 z1952 st1952 hQ1952
          subst l1952 y1952 z1952
          obtain ⟨rfl, Nq1952, K1952⟩ := hQ1952
          obtain ⟨L1952, X1952, N1952⟩ := pk X1952 (Fr.app Nc259 Nq1952)
          refine og (fun _ k => st1952.trans k) ?_
          show OG p e below _ T1952 m 277 #[vi p0, vi p1, vi p2, vi p3, vi f4, vi f5, vi f6, vi f7, vi f8, vr a1471, vr a1486, vr a1506, vr a1527, vi 0, vi 1] [(.int f5)]
          refine qi X1952.here hx hby at_277 rfl ?_
          refine og (fun _ k => XS.icmpNo X1952.here hx rfl (hb hby at_279) rfl (teq rfl).2 k) ?_
          show OG p e below _ T1952 m 282 #[vi p0, vi p1, vi p2, vi p3, vi f4, vi f5, vi f6, vi f7, vi f8, vr a1471, vr a1486, vr a1506, vr a1527, vi 0, vi 1] []
          refine qb X1952.here hx hby at_282 rfl rfl ?_
          refine qi X1952.here hx hby at_284 rfl ?_
          obtain ⟨cq1953, kq1953, qa1953, qb1953, qc1953⟩ := isOf hZ K1952 F1947
          obtain ⟨_, _, ⟨T1953, L1953, k1953, n1953⟩, -, X1953, ⟨Lc1953, hQ1953, l1953, y1953, z1953⟩, st1953⟩ := X1952.virtualBack hx (y := mn10) (z := mn10) hown (mvT hZ (ow hw 339 rfl)) (mvT hZ (ow hw 340 rfl)) (notFace_of_selects (args := #[]) (mvT hZ (ow hw 342 rfl))) (mvT hZ (ow hw 342 rfl)) (mvT hZ (ow hw 341 rfl)) (by decide) (backOf (W := 0) (rm_hs1 l Z a0 hw [] ku0 ku1 ku2 ku3 aDef aCac aEmp aMir kDef cCac F0 a1527 n1_1544 kn1_1544 [(.int hw2), (.int p2), (.int 0), (.int 0), (.int 0), (.int 0), (.int 0), (.int 1), (.int 1), (.int gv), (.int p3), (.int 0), (.int 1), (.int 0), (.int 0), (.int 0), (.int 1), (.int 1)] gv f7 hc259 n0 Oc259 F1950 F1951 Vc259 rfl (Nat.le_of_ble_eq_true rfl) (own_r0 P259 hf7)) hZ (ow hw 343 rfl) (ow hw 197 rfl) (by decide) (by decide)) qa1953 qc1953 (g := (mkF m 286 #[vi p0, vi p1, vi p2, vi p3, vi f4, vi f5, vi f6, vi f7, vi f8, vr a1471, vr a1486, vr a1506, vr a1527, vi 0, vi 1] [(.int 1), (.ref a1527)])) rfl (by rw [hml]; rfl) (Steps.refl _) (argsL := [(.int 1)]) (rest := []) (lenOf pd_I__Z rfl) rfl (by show 2 * 0 + _ ≤ _; exact Nat.le_of_eq rfl) (hb hby at_286) (fun _ _ => ⟨rfl, K1952, (by decide : 33 + 0 ≤ _), (by decide : 1107 + 0 ≤ _)⟩)
          dsimp only [Pt.U, Pt.locs, Pt.cells, Pt.slots] at X1953 l1953 y1953 z1953 st1953 hQ1953
          subst l1953 y1953 z1953
          obtain ⟨rfl, Nq1953, K1953⟩ := hQ1953
          obtain ⟨L1953, X1953, N1953⟩ := pk X1953 (Fr.app N1952 Nq1953)
          refine og (fun _ k => st1953.trans k) ?_
          show OG p e below _ T1953 m 289 #[vi p0, vi p1, vi p2, vi p3, vi f4, vi f5, vi f6, vi f7, vi f8, vr a1471, vr a1486, vr a1506, vr a1527, vi 0, vi 1] [(.int f7)]
          refine qi X1953.here hx hby at_289 rfl ?_
          refine og (fun _ k => XS.icmpNo X1953.here hx rfl (hb hby at_291) rfl (teq rfl).2 k) ?_
          show OG p e below _ T1953 m 294 #[vi p0, vi p1, vi p2, vi p3, vi f4, vi f5, vi f6, vi f7, vi f8, vr a1471, vr a1486, vr a1506, vr a1527, vi 0, vi 1] []
          refine qc X1953.here hx hby at_294 ?_
          refine og (fun _ k => XS.goto X1953.here hx rfl (pc0 := 295) (pc' := 299) rfl (hb hby at_295) (by decide) (by decide) k) ?_
          obtain ⟨fs, hr, hrun, hended, hW, hsame⟩ := X1953.leave (v := some (.int 1)) (fun h => by rw [Bd.returns] at h; cases h)
          refine ⟨_, _, retOut X1953 hx Bd.returns rfl (Or.inl ⟨rfl, Or.inr (Or.inl rfl), _, rfl⟩) (hb hby at_299) hr, hrun, hended, _, _, rfl, ?_, ⟨_, rfl⟩, hW, hsame.mono (by decide) (by decide)⟩
          show Q_law Z ku0 ku1 ku2 ku3 aDef aCac aEmp aMir kDef cCac p0 p1 p2 p3 h0 n0 _ T1953.heap _
          rw [K1953]
          exact ⟨rfl, N1953⟩
         refine qi Xc235.here hx hby at_235 rfl ?_
         show OG p e below _ Tc235 m 237 #[vi p0, vi p1, vi p2, vi p3, vi f4, vi f5, vi f6, vi f7, vi f8, vr a1471, vr a1486, vr a1506, vr a1527, vi 0, vi 1] [(.int f6)]
         by_cases hc1954 : f6 = (0 : Int32)
         · refine og (fun _ k => XS.ifYes Xc235.here hx rfl (pc0 := 237) (pc' := 247) rfl (hb hby at_237) rfl ((if0 _ _).trans (teq hc1954).1) (by decide) (by decide) k) ?_
           show OG p e below _ Tc235 m 247 #[vi p0, vi p1, vi p2, vi p3, vi f4, vi f5, vi f6, vi f7, vi f8, vr a1471, vr a1486, vr a1506, vr a1527, vi 0, vi 1] []
           refine qi Xc235.here hx hby at_247 rfl ?_
           by_cases hc1955 : f7 = (0 : Int32)
           · refine og (fun _ k => XS.ifYes Xc235.here hx rfl (pc0 := 249) (pc' := 259) rfl (hb hby at_249) rfl ((if0 _ _).trans (teq hc1955).1) (by decide) (by decide) k) ?_
             show OG p e below _ Tc235 m 259 #[vi p0, vi p1, vi p2, vi p3, vi f4, vi f5, vi f6, vi f7, vi f8, vr a1471, vr a1486, vr a1506, vr a1527, vi 0, vi 1] []
             exact k259 _ _ _ _ Xc235 ec235 Nc235 (Keep.refl _ [n1_1544]) Vc235 (own_iz (f := f7) x1513_3 hc1955)
           · refine og (fun _ k => XS.ifNo Xc235.here hx rfl (hb hby at_249) rfl ((if0 _ _).trans (feq hc1955).1) k) ?_
             show OG p e below _ Tc235 m 252 #[vi p0, vi p1, vi p2, vi p3, vi f4, vi f5, vi f6, vi f7, vi f8, vr a1471, vr a1486, vr a1506, vr a1527, vi 0, vi 1] []
             refine qb Xc235.here hx hby at_252 rfl rfl ?_
             refine qi Xc235.here hx hby at_254 rfl ?_
             have kg1956 := (((Keep.refl _ [a1527, n1_1544, m1_1544, o1_1544, s1_1544, l1_1544, s2_1544, l2_1544, s3_1544, l3_1544, s4_1544, l4_1544, s5_1544, l5_1544, g2_1765, g5_1765]).trans K1941 (aS (om 0 rfl) (aS (om 1 rfl) (aS (om 2 rfl) (aS (om 3 rfl) (aS (om 4 rfl) (aS (om 5 rfl) (aS (om 6 rfl) (aS (om 7 rfl) (aS (om 8 rfl) (aS (om 9 rfl) (aS (om 10 rfl) (aS (om 11 rfl) (aS (om 12 rfl) (aS (om 13 rfl) (aS (om 14 rfl) (aS (om 15 rfl) all0))))))))))))))))).trans Kc235 (aS (om 1 rfl) all0))
             have F1957 := (F1789.keep kg1956)
             have ni1958 := (ninS (Nat.ne_of_lt lox1544_10) nin0)
             have F1959 := (x1941_0.keep Kc235 ni1958)
             have F1960 := (F1843.keep kg1956)
             obtain ⟨cq1961, kq1961, qa1961, qb1961, qc1961⟩ := isOf hZ ec235 F1957
             obtain ⟨_, _, ⟨T1961, L1961, k1961, n1961⟩, -, X1961, ⟨Lc1961, hQ1961, l1961, y1961, z1961⟩, st1961⟩ := Xc235.virtualBack hx (y := mn12) (z := mn12) hown (mvT hZ (ow hw 349 rfl)) (mvT hZ (ow hw 350 rfl)) (notFace_of_selects (args := #[]) (mvT hZ (ow hw 352 rfl))) (mvT hZ (ow hw 352 rfl)) (mvT hZ (ow hw 351 rfl)) (by decide) (backOf (W := 0) (rm_rc1 l Z a0 hw [] ku0 ku1 ku2 ku3 aDef aCac aEmp aMir kDef cCac F0 a1527 n1_1544 kn1_1544 [(.int hw2), (.int p2), (.int 0), (.int 0), (.int 0), (.int 0), (.int 0), (.int 1), (.int 1), (.int (c9_1513 + (1 : Int32))), (.int p3), (.int 0), (.int 1), (.int 0), (.int 0), (.int 0), (.int 1), (.int 1)] (c9_1513 + (1 : Int32)) hc235 n0 Oc235 F1959 F1960 Vc235 rfl (Nat.le_of_ble_eq_true rfl) gex1544_10) hZ (ow hw 353 rfl) (ow hw 197 rfl) (by decide) (by decide)) qa1961 qc1961 (g := (mkF m 256 #[vi p0, vi p1, vi p2, vi p3, vi f4, vi f5, vi f6, vi f7, vi f8, vr a1471, vr a1486, vr a1506, vr a1527, vi 0, vi 1] [(.int 1), (.ref a1527)])) rfl (by rw [hml]; rfl) (Steps.refl _) (argsL := [(.int 1)]) (rest := []) (lenOf pd_I__V rfl) rfl (by show 2 * 0 + _ ≤ _; exact Nat.le_of_eq rfl) (hb hby at_256) (fun _ _ => ⟨rfl, ec235, (by decide : 33 + 0 ≤ _), (by decide : 1107 + 0 ≤ _)⟩)
             dsimp only [Pt.U, Pt.locs, Pt.cells, Pt.slots] at X1961 l1961 y1961 z1961 st1961 hQ1961
             subst l1961 y1961 z1961
             obtain ⟨rfl, Nq1961, K1961, x1961_0⟩ := hQ1961
             obtain ⟨L1961, X1961, N1961⟩ := pk X1961 (Fr.app Nc235 Nq1961)
             have O1961 := Oc235.keep K1961 (allS gex1544_10 all0)
             have e1961 : T1961.heap = T1961.heap := rfl
             have z1962 := Nat.le_trans z1944 K1961.1
             have F1963 : Arv Z T1961.heap n1_1544 kn1_1544 .int 576 [(.int hw2), (.int p2), (.int 0), (.int 0), (.int 0), (.int 0), (.int 0), (.int 1), (.int 1), (.int ((c9_1513 + (1 : Int32)) ||| (512 : Int32))), (.int p3), (.int 0), (.int 1), (.int 0), (.int 0), (.int 0), (.int 1), (.int 1)] (.int 0) := x1961_0
             refine og (fun _ k => st1961.trans k) ?_
             show OG p e below _ T1961 m 259 #[vi p0, vi p1, vi p2, vi p3, vi f4, vi f5, vi f6, vi f7, vi f8, vr a1471, vr a1486, vr a1506, vr a1527, vi 0, vi 1] []
             exact k259 _ _ _ _ X1961 e1961 N1961 ((Keep.refl _ [n1_1544]).trans K1961 (aS (om 0 rfl) all0)) F1963 (own_io (own_b2 _) hc1955)
         · refine og (fun _ k => XS.ifNo Xc235.here hx rfl (hb hby at_237) rfl ((if0 _ _).trans (feq hc1954).1) k) ?_
           show OG p e below _ Tc235 m 240 #[vi p0, vi p1, vi p2, vi p3, vi f4, vi f5, vi f6, vi f7, vi f8, vr a1471, vr a1486, vr a1506, vr a1527, vi 0, vi 1] []
           refine qb Xc235.here hx hby at_240 rfl rfl ?_
           refine qi Xc235.here hx hby at_242 rfl ?_
           have kg1964 := (((Keep.refl _ [a1527, n1_1544, m1_1544, o1_1544, s1_1544, l1_1544, s2_1544, l2_1544, s3_1544, l3_1544, s4_1544, l4_1544, s5_1544, l5_1544, g2_1765, g5_1765]).trans K1941 (aS (om 0 rfl) (aS (om 1 rfl) (aS (om 2 rfl) (aS (om 3 rfl) (aS (om 4 rfl) (aS (om 5 rfl) (aS (om 6 rfl) (aS (om 7 rfl) (aS (om 8 rfl) (aS (om 9 rfl) (aS (om 10 rfl) (aS (om 11 rfl) (aS (om 12 rfl) (aS (om 13 rfl) (aS (om 14 rfl) (aS (om 15 rfl) all0))))))))))))))))).trans Kc235 (aS (om 1 rfl) all0))
           have F1965 := (F1789.keep kg1964)
           have ni1966 := (ninS (Nat.ne_of_lt lox1544_10) nin0)
           have F1967 := (x1941_0.keep Kc235 ni1966)
           have F1968 := (F1843.keep kg1964)
           obtain ⟨cq1969, kq1969, qa1969, qb1969, qc1969⟩ := isOf hZ ec235 F1965
           obtain ⟨_, _, ⟨T1969, L1969, k1969, n1969⟩, -, X1969, ⟨Lc1969, hQ1969, l1969, y1969, z1969⟩, st1969⟩ := Xc235.virtualBack hx (y := mn13) (z := mn13) hown (mvT hZ (ow hw 344 rfl)) (mvT hZ (ow hw 345 rfl)) (notFace_of_selects (args := #[]) (mvT hZ (ow hw 347 rfl))) (mvT hZ (ow hw 347 rfl)) (mvT hZ (ow hw 346 rfl)) (by decide) (backOf (W := 0) (rm_tl1 l Z a0 hw [] ku0 ku1 ku2 ku3 aDef aCac aEmp aMir kDef cCac F0 a1527 n1_1544 kn1_1544 [(.int hw2), (.int p2), (.int 0), (.int 0), (.int 0), (.int 0), (.int 0), (.int 1), (.int 1), (.int (c9_1513 + (1 : Int32))), (.int p3), (.int 0), (.int 1), (.int 0), (.int 0), (.int 0), (.int 1), (.int 1)] (c9_1513 + (1 : Int32)) hc235 n0 Oc235 F1967 F1968 Vc235 rfl (Nat.le_of_ble_eq_true rfl) gex1544_10) hZ (ow hw 348 rfl) (ow hw 197 rfl) (by decide) (by decide)) qa1969 qc1969 (g := (mkF m 244 #[vi p0, vi p1, vi p2, vi p3, vi f4, vi f5, vi f6, vi f7, vi f8, vr a1471, vr a1486, vr a1506, vr a1527, vi 0, vi 1] [(.int 1), (.ref a1527)])) rfl (by rw [hml]; rfl) (Steps.refl _) (argsL := [(.int 1)]) (rest := []) (lenOf pd_I__V rfl) rfl (by show 2 * 0 + _ ≤ _; exact Nat.le_of_eq rfl) (hb hby at_244) (fun _ _ => ⟨rfl, ec235, (by decide : 33 + 0 ≤ _), (by decide : 1107 + 0 ≤ _)⟩)
           dsimp only [Pt.U, Pt.locs, Pt.cells, Pt.slots] at X1969 l1969 y1969 z1969 st1969 hQ1969
           subst l1969 y1969 z1969
           obtain ⟨rfl, Nq1969, K1969, x1969_0⟩ := hQ1969
           obtain ⟨L1969, X1969, N1969⟩ := pk X1969 (Fr.app Nc235 Nq1969)
           have O1969 := Oc235.keep K1969 (allS gex1544_10 all0)
           have e1969 : T1969.heap = T1969.heap := rfl
           have z1970 := Nat.le_trans z1944 K1969.1
           have F1971 : Arv Z T1969.heap n1_1544 kn1_1544 .int 576 [(.int hw2), (.int p2), (.int 0), (.int 0), (.int 0), (.int 0), (.int 0), (.int 1), (.int 1), (.int ((c9_1513 + (1 : Int32)) ||| (256 : Int32))), (.int p3), (.int 0), (.int 1), (.int 0), (.int 0), (.int 0), (.int 1), (.int 1)] (.int 0) := x1969_0
           refine og (fun _ k => st1969.trans k) ?_
           show OG p e below _ T1969 m 247 #[vi p0, vi p1, vi p2, vi p3, vi f4, vi f5, vi f6, vi f7, vi f8, vr a1471, vr a1486, vr a1506, vr a1527, vi 0, vi 1] []
           refine qi X1969.here hx hby at_247 rfl ?_
           by_cases hc1972 : f7 = (0 : Int32)
           · refine og (fun _ k => XS.ifYes X1969.here hx rfl (pc0 := 249) (pc' := 259) rfl (hb hby at_249) rfl ((if0 _ _).trans (teq hc1972).1) (by decide) (by decide) k) ?_
             show OG p e below _ T1969 m 259 #[vi p0, vi p1, vi p2, vi p3, vi f4, vi f5, vi f6, vi f7, vi f8, vr a1471, vr a1486, vr a1506, vr a1527, vi 0, vi 1] []
             exact k259 _ _ _ _ X1969 e1969 N1969 ((Keep.refl _ [n1_1544]).trans K1969 (aS (om 0 rfl) all0)) F1971 (own_iz (f := f7) (own_b1 x1513_3) hc1972)
           · refine og (fun _ k => XS.ifNo X1969.here hx rfl (hb hby at_249) rfl ((if0 _ _).trans (feq hc1972).1) k) ?_
             show OG p e below _ T1969 m 252 #[vi p0, vi p1, vi p2, vi p3, vi f4, vi f5, vi f6, vi f7, vi f8, vr a1471, vr a1486, vr a1506, vr a1527, vi 0, vi 1] []
             refine qb X1969.here hx hby at_252 rfl rfl ?_
             refine qi X1969.here hx hby at_254 rfl ?_
             have F1973 := (F1965.keep K1969)
             have F1974 := (F1967.keep K1969 ni1966)
             have F1975 := (F1968.keep K1969)
             obtain ⟨cq1976, kq1976, qa1976, qb1976, qc1976⟩ := isOf hZ e1969 F1973
             obtain ⟨_, _, ⟨T1976, L1976, k1976, n1976⟩, -, X1976, ⟨Lc1976, hQ1976, l1976, y1976, z1976⟩, st1976⟩ := X1969.virtualBack hx (y := mn12) (z := mn12) hown (mvT hZ (ow hw 349 rfl)) (mvT hZ (ow hw 350 rfl)) (notFace_of_selects (args := #[]) (mvT hZ (ow hw 352 rfl))) (mvT hZ (ow hw 352 rfl)) (mvT hZ (ow hw 351 rfl)) (by decide) (backOf (W := 0) (rm_rc1 l Z a0 hw [] ku0 ku1 ku2 ku3 aDef aCac aEmp aMir kDef cCac F0 a1527 n1_1544 kn1_1544 [(.int hw2), (.int p2), (.int 0), (.int 0), (.int 0), (.int 0), (.int 0), (.int 1), (.int 1), (.int ((c9_1513 + (1 : Int32)) ||| (256 : Int32))), (.int p3), (.int 0), (.int 1), (.int 0), (.int 0), (.int 0), (.int 1), (.int 1)] ((c9_1513 + (1 : Int32)) ||| (256 : Int32)) T1969.heap n0 O1969 F1974 F1975 F1971 rfl (Nat.le_of_ble_eq_true rfl) gex1544_10) hZ (ow hw 353 rfl) (ow hw 197 rfl) (by decide) (by decide)) qa1976 qc1976 (g := (mkF m 256 #[vi p0, vi p1, vi p2, vi p3, vi f4, vi f5, vi f6, vi f7, vi f8, vr a1471, vr a1486, vr a1506, vr a1527, vi 0, vi 1] [(.int 1), (.ref a1527)])) rfl (by rw [hml]; rfl) (Steps.refl _) (argsL := [(.int 1)]) (rest := []) (lenOf pd_I__V rfl) rfl (by show 2 * 0 + _ ≤ _; exact Nat.le_of_eq rfl) (hb hby at_256) (fun _ _ => ⟨rfl, e1969, (by decide : 33 + 0 ≤ _), (by decide : 1107 + 0 ≤ _)⟩)
             dsimp only [Pt.U, Pt.locs, Pt.cells, Pt.slots] at X1976 l1976 y1976 z1976 st1976 hQ1976
             subst l1976 y1976 z1976
             obtain ⟨rfl, Nq1976, K1976, x1976_0⟩ := hQ1976
             obtain ⟨L1976, X1976, N1976⟩ := pk X1976 (Fr.app N1969 Nq1976)
             have O1976 := O1969.keep K1976 (allS gex1544_10 all0)
             have e1976 : T1976.heap = T1976.heap := rfl
             have z1977 := Nat.le_trans z1970 K1976.1
             have F1978 : Arv Z T1976.heap n1_1544 kn1_1544 .int 576 [(.int hw2), (.int p2), (.int 0), (.int 0), (.int 0), (.int 0), (.int 0), (.int 1), (.int 1), (.int (((c9_1513 + (1 : Int32)) ||| (256 : Int32)) ||| (512 : Int32))), (.int p3), (.int 0), (.int 1), (.int 0), (.int 0), (.int 0), (.int 1), (.int 1)] (.int 0) := x1976_0
             refine og (fun _ k => st1976.trans k) ?_
             show OG p e below _ T1976 m 259 #[vi p0, vi p1, vi p2, vi p3, vi f4, vi f5, vi f6, vi f7, vi f8, vr a1471, vr a1486, vr a1506, vr a1527, vi 0, vi 1] []
             exact k259 _ _ _ _ X1976 e1976 N1976 (((Keep.refl _ [n1_1544]).trans K1969 (aS (om 0 rfl) all0)).trans K1976 (aS (om 0 rfl) all0)) F1978 (own_io (own_b2 _) hc1972)
        refine qi X1941.here hx hby at_206 rfl ?_
        show OG p e below _ T1941 m 208 #[vi p0, vi p1, vi p2, vi p3, vi f4, vi f5, vi f6, vi f7, vi f8, vr a1471, vr a1486, vr a1506, vr a1527, vi 0, vi 1] [(.int f8)]
        by_cases hc1979 : f8 = (0 : Int32)
        · refine og (fun _ k => XS.ifNo X1941.here hx rfl (hb hby at_208) rfl ((if0 _ _).trans (teq hc1979).2) k) ?_
          show OG p e below _ T1941 m 211 #[vi p0, vi p1, vi p2, vi p3, vi f4, vi f5, vi f6, vi f7, vi f8, vr a1471, vr a1486, vr a1506, vr a1527, vi 0, vi 1] []
          refine qi X1941.here hx hby at_211 rfl ?_
          by_cases hc1980 : f5 = (0 : Int32)
          · refine og (fun _ k => XS.ifYes X1941.here hx rfl (pc0 := 213) (pc' := 223) rfl (hb hby at_213) rfl ((if0 _ _).trans (teq hc1980).1) (by decide) (by decide) k) ?_
            show OG p e below _ T1941 m 223 #[vi p0, vi p1, vi p2, vi p3, vi f4, vi f5, vi f6, vi f7, vi f8, vr a1471, vr a1486, vr a1506, vr a1527, vi 0, vi 1] []
            refine qi X1941.here hx hby at_223 rfl ?_
            by_cases hc1981 : f4 = (0 : Int32)
            · refine og (fun _ k => XS.ifYes X1941.here hx rfl (pc0 := 225) (pc' := 235) rfl (hb hby at_225) rfl ((if0 _ _).trans (teq hc1981).1) (by decide) (by decide) k) ?_
              show OG p e below _ T1941 m 235 #[vi p0, vi p1, vi p2, vi p3, vi f4, vi f5, vi f6, vi f7, vi f8, vr a1471, vr a1486, vr a1506, vr a1527, vi 0, vi 1] []
              exact k235 _ _ _ _ X1941 e1941 N1941 (Keep.refl _ [n1_1544]) x1941_1 (own_iz (f := f5) (P188.mpr (Or.inl hc1979)) hc1980)
            · refine og (fun _ k => XS.ifNo X1941.here hx rfl (hb hby at_225) rfl ((if0 _ _).trans (feq hc1981).1) k) ?_
              show OG p e below _ T1941 m 228 #[vi p0, vi p1, vi p2, vi p3, vi f4, vi f5, vi f6, vi f7, vi f8, vr a1471, vr a1486, vr a1506, vr a1527, vi 0, vi 1] []
              refine qb X1941.here hx hby at_228 rfl rfl ?_
              refine qi X1941.here hx hby at_230 rfl ?_
              have F1982 := (F1789.keep K1941)
              have F1983 := (F1843.keep K1941)
              obtain ⟨cq1984, kq1984, qa1984, qb1984, qc1984⟩ := isOf hZ e1941 F1982
              obtain ⟨_, _, ⟨T1984, L1984, k1984, n1984⟩, -, X1984, ⟨Lc1984, hQ1984, l1984, y1984, z1984⟩, st1984⟩ := X1941.virtualBack hx (y := mn13) (z := mn13) hown (mvT hZ (ow hw 344 rfl)) (mvT hZ (ow hw 345 rfl)) (notFace_of_selects (args := #[]) (mvT hZ (ow hw 347 rfl))) (mvT hZ (ow hw 347 rfl)) (mvT hZ (ow hw 346 rfl)) (by decide) (backOf (W := 0) (rm_tl0 l Z a0 hw [] ku0 ku1 ku2 ku3 aDef aCac aEmp aMir kDef cCac F0 a1527 n1_1544 kn1_1544 [(.int hv), (.int p2), (.int 0), (.int 0), (.int 0), (.int 0), (.int 0), (.int 1), (.int 1), (.int (c9_1513 + (1 : Int32))), (.int p3), (.int 0), (.int 1), (.int 0), (.int 0), (.int 0), (.int 1), (.int 1)] hv T1941.heap n0 O1941 x1941_0 F1983 x1941_1 rfl (Nat.le_of_ble_eq_true rfl) gex1544_10) hZ (ow hw 348 rfl) (ow hw 197 rfl) (by decide) (by decide)) qa1984 qc1984 (g := (mkF m 232 #[vi p0, vi p1, vi p2, vi p3, vi f4, vi f5, vi f6, vi f7, vi f8, vr a1471, vr a1486, vr a1506, vr a1527, vi 0, vi 1] [(.int 0), (.ref a1527)])) rfl (by rw [hml]; rfl) (Steps.refl _) (argsL := [(.int 0)]) (rest := []) (lenOf pd_I__V rfl) rfl (by show 2 * 0 + _ ≤ _; exact Nat.le_of_eq rfl) (hb hby at_232) (fun _ _ => ⟨rfl, e1941, (by decide : 33 + 0 ≤ _), (by decide : 1107 + 0 ≤ _)⟩)
              dsimp only [Pt.U, Pt.locs, Pt.cells, Pt.slots] at X1984 l1984 y1984 z1984 st1984 hQ1984
              subst l1984 y1984 z1984
              obtain ⟨rfl, Nq1984, K1984, x1984_0⟩ := hQ1984
              obtain ⟨L1984, X1984, N1984⟩ := pk X1984 (Fr.app N1941 Nq1984)
              have O1984 := O1941.keep K1984 (allS gex1544_10 all0)
              have e1984 : T1984.heap = T1984.heap := rfl
              have z1985 := Nat.le_trans z1943 K1984.1
              have F1986 : Arv Z T1984.heap n1_1544 kn1_1544 .int 576 [(.int (hv ||| (256 : Int32))), (.int p2), (.int 0), (.int 0), (.int 0), (.int 0), (.int 0), (.int 1), (.int 1), (.int (c9_1513 + (1 : Int32))), (.int p3), (.int 0), (.int 1), (.int 0), (.int 0), (.int 0), (.int 1), (.int 1)] (.int 0) := x1984_0
              refine og (fun _ k => st1984.trans k) ?_
              show OG p e below _ T1984 m 235 #[vi p0, vi p1, vi p2, vi p3, vi f4, vi f5, vi f6, vi f7, vi f8, vr a1471, vr a1486, vr a1506, vr a1527, vi 0, vi 1] []
              exact k235 _ _ _ _ X1984 e1984 N1984 ((Keep.refl _ [n1_1544]).trans K1984 (aS (om 0 rfl) all0)) F1986 (own_iz (f := f5) (own_b1 (P188.mpr (Or.inl hc1979))) hc1980)
          · refine og (fun _ k => XS.ifNo X1941.here hx rfl (hb hby at_213) rfl ((if0 _ _).trans (feq hc1980).1) k) ?_
            show OG p e below _ T1941 m 216 #[vi p0, vi p1, vi p2, vi p3, vi f4, vi f5, vi f6, vi f7, vi f8, vr a1471, vr a1486, vr a1506, vr a1527, vi 0, vi 1] []
            refine qb X1941.here hx hby at_216 rfl rfl ?_
            refine qi X1941.here hx hby at_218 rfl ?_
            have F1987 := (F1789.keep K1941)
            have F1988 := (F1843.keep K1941)
            obtain ⟨cq1989, kq1989, qa1989, qb1989, qc1989⟩ := isOf hZ e1941 F1987
            obtain ⟨_, _, ⟨T1989, L1989, k1989, n1989⟩, -, X1989, ⟨Lc1989, hQ1989, l1989, y1989, z1989⟩, st1989⟩ := X1941.virtualBack hx (y := mn12) (z := mn12) hown (mvT hZ (ow hw 349 rfl)) (mvT hZ (ow hw 350 rfl)) (notFace_of_selects (args := #[]) (mvT hZ (ow hw 352 rfl))) (mvT hZ (ow hw 352 rfl)) (mvT hZ (ow hw 351 rfl)) (by decide) (backOf (W := 0) (rm_rc0 l Z a0 hw [] ku0 ku1 ku2 ku3 aDef aCac aEmp aMir kDef cCac F0 a1527 n1_1544 kn1_1544 [(.int hv), (.int p2), (.int 0), (.int 0), (.int 0), (.int 0), (.int 0), (.int 1), (.int 1), (.int (c9_1513 + (1 : Int32))), (.int p3), (.int 0), (.int 1), (.int 0), (.int 0), (.int 0), (.int 1), (.int 1)] hv T1941.heap n0 O1941 x1941_0 F1988 x1941_1 rfl (Nat.le_of_ble_eq_true rfl) gex1544_10) hZ (ow hw 353 rfl) (ow hw 197 rfl) (by decide) (by decide)) qa1989 qc1989 (g := (mkF m 220 #[vi p0, vi p1, vi p2, vi p3, vi f4, vi f5, vi f6, vi f7, vi f8, vr a1471, vr a1486, vr a1506, vr a1527, vi 0, vi 1] [(.int 0), (.ref a1527)])) rfl (by rw [hml]; rfl) (Steps.refl _) (argsL := [(.int 0)]) (rest := []) (lenOf pd_I__V rfl) rfl (by show 2 * 0 + _ ≤ _; exact Nat.le_of_eq rfl) (hb hby at_220) (fun _ _ => ⟨rfl, e1941, (by decide : 33 + 0 ≤ _), (by decide : 1107 + 0 ≤ _)⟩)
            dsimp only [Pt.U, Pt.locs, Pt.cells, Pt.slots] at X1989 l1989 y1989 z1989 st1989 hQ1989
            subst l1989 y1989 z1989
            obtain ⟨rfl, Nq1989, K1989, x1989_0⟩ := hQ1989
            obtain ⟨L1989, X1989, N1989⟩ := pk X1989 (Fr.app N1941 Nq1989)
            have O1989 := O1941.keep K1989 (allS gex1544_10 all0)
            have e1989 : T1989.heap = T1989.heap := rfl
            have z1990 := Nat.le_trans z1943 K1989.1
            have F1991 : Arv Z T1989.heap n1_1544 kn1_1544 .int 576 [(.int (hv ||| (512 : Int32))), (.int p2), (.int 0), (.int 0), (.int 0), (.int 0), (.int 0), (.int 1), (.int 1), (.int (c9_1513 + (1 : Int32))), (.int p3), (.int 0), (.int 1), (.int 0), (.int 0), (.int 0), (.int 1), (.int 1)] (.int 0) := x1989_0
            refine og (fun _ k => st1989.trans k) ?_
            show OG p e below _ T1989 m 223 #[vi p0, vi p1, vi p2, vi p3, vi f4, vi f5, vi f6, vi f7, vi f8, vr a1471, vr a1486, vr a1506, vr a1527, vi 0, vi 1] []
            refine qi X1989.here hx hby at_223 rfl ?_
            by_cases hc1992 : f4 = (0 : Int32)
            · refine og (fun _ k => XS.ifYes X1989.here hx rfl (pc0 := 225) (pc' := 235) rfl (hb hby at_225) rfl ((if0 _ _).trans (teq hc1992).1) (by decide) (by decide) k) ?_
              show OG p e below _ T1989 m 235 #[vi p0, vi p1, vi p2, vi p3, vi f4, vi f5, vi f6, vi f7, vi f8, vr a1471, vr a1486, vr a1506, vr a1527, vi 0, vi 1] []
              exact k235 _ _ _ _ X1989 e1989 N1989 ((Keep.refl _ [n1_1544]).trans K1989 (aS (om 0 rfl) all0)) F1991 (own_io (own_b2 _) hc1980)
            · refine og (fun _ k => XS.ifNo X1989.here hx rfl (hb hby at_225) rfl ((if0 _ _).trans (feq hc1992).1) k) ?_
              show OG p e below _ T1989 m 228 #[vi p0, vi p1, vi p2, vi p3, vi f4, vi f5, vi f6, vi f7, vi f8, vr a1471, vr a1486, vr a1506, vr a1527, vi 0, vi 1] []
              refine qb X1989.here hx hby at_228 rfl rfl ?_
              refine qi X1989.here hx hby at_230 rfl ?_
              have F1993 := (F1987.keep K1989)
              have ni1994 := (ninS (Nat.ne_of_lt lox1544_10) nin0)
              have F1995 := (x1941_0.keep K1989 ni1994)
              have F1996 := (F1988.keep K1989)
              obtain ⟨cq1997, kq1997, qa1997, qb1997, qc1997⟩ := isOf hZ e1989 F1993
              obtain ⟨_, _, ⟨T1997, L1997, k1997, n1997⟩, -, X1997, ⟨Lc1997, hQ1997, l1997, y1997, z1997⟩, st1997⟩ := X1989.virtualBack hx (y := mn13) (z := mn13) hown (mvT hZ (ow hw 344 rfl)) (mvT hZ (ow hw 345 rfl)) (notFace_of_selects (args := #[]) (mvT hZ (ow hw 347 rfl))) (mvT hZ (ow hw 347 rfl)) (mvT hZ (ow hw 346 rfl)) (by decide) (backOf (W := 0) (rm_tl0 l Z a0 hw [] ku0 ku1 ku2 ku3 aDef aCac aEmp aMir kDef cCac F0 a1527 n1_1544 kn1_1544 [(.int (hv ||| (512 : Int32))), (.int p2), (.int 0), (.int 0), (.int 0), (.int 0), (.int 0), (.int 1), (.int 1), (.int (c9_1513 + (1 : Int32))), (.int p3), (.int 0), (.int 1), (.int 0), (.int 0), (.int 0), (.int 1), (.int 1)] (hv ||| (512 : Int32)) T1989.heap n0 O1989 F1995 F1996 F1991 rfl (Nat.le_of_ble_eq_true rfl) gex1544_10) hZ (ow hw 348 rfl) (ow hw 197 rfl) (by decide) (by decide)) qa1997 qc1997 (g := (mkF m 232 #[vi p0, vi p1, vi p2, vi p3, vi f4, vi f5, vi f6, vi f7, vi f8, vr a1471, vr a1486, vr a1506, vr a1527, vi 0, vi 1] [(.int 0), (.ref a1527)])) rfl (by rw [hml]; rfl) (Steps.refl _) (argsL := [(.int 0)]) (rest := []) (lenOf pd_I__V rfl) rfl (by show 2 * 0 + _ ≤ _; exact Nat.le_of_eq rfl) (hb hby at_232) (fun _ _ => ⟨rfl, e1989, (by decide : 33 + 0 ≤ _), (by decide : 1107 + 0 ≤ _)⟩)
              dsimp only [Pt.U, Pt.locs, Pt.cells, Pt.slots] at X1997 l1997 y1997 z1997 st1997 hQ1997
              subst l1997 y1997 z1997
              obtain ⟨rfl, Nq1997, K1997, x1997_0⟩ := hQ1997
              obtain ⟨L1997, X1997, N1997⟩ := pk X1997 (Fr.app N1989 Nq1997)
              have O1997 := O1989.keep K1997 (allS gex1544_10 all0)
              have e1997 : T1997.heap = T1997.heap := rfl
              have z1998 := Nat.le_trans z1990 K1997.1
              have F1999 : Arv Z T1997.heap n1_1544 kn1_1544 .int 576 [(.int ((hv ||| (512 : Int32)) ||| (256 : Int32))), (.int p2), (.int 0), (.int 0), (.int 0), (.int 0), (.int 0), (.int 1), (.int 1), (.int (c9_1513 + (1 : Int32))), (.int p3), (.int 0), (.int 1), (.int 0), (.int 0), (.int 0), (.int 1), (.int 1)] (.int 0) := x1997_0
              refine og (fun _ k => st1997.trans k) ?_
              show OG p e below _ T1997 m 235 #[vi p0, vi p1, vi p2, vi p3, vi f4, vi f5, vi f6, vi f7, vi f8, vr a1471, vr a1486, vr a1506, vr a1527, vi 0, vi 1] []
              exact k235 _ _ _ _ X1997 e1997 N1997 (((Keep.refl _ [n1_1544]).trans K1989 (aS (om 0 rfl) all0)).trans K1997 (aS (om 0 rfl) all0)) F1999 (own_io (own_b4 _) hc1980)
        · refine og (fun _ k => XS.ifYes X1941.here hx rfl (pc0 := 208) (pc' := 235) rfl (hb hby at_208) rfl ((if0 _ _).trans (feq hc1979).2) (by decide) (by decide) k) ?_
          show OG p e below _ T1941 m 235 #[vi p0, vi p1, vi p2, vi p3, vi f4, vi f5, vi f6, vi f7, vi f8, vr a1471, vr a1486, vr a1506, vr a1527, vi 0, vi 1] []
          exact k235 _ _ _ _ X1941 e1941 N1941 (Keep.refl _ [n1_1544]) x1941_1 (own_ie P188 hc1979)
       refine qi X1765.here hx hby at_159 rfl ?_
       show OG p e below _ T1765 m 161 #[vi p0, vi p1, vi p2, vi p3, vi f4, vi f5, vi f6, vi f7, vi f8, vr a1471, vr a1486, vr a1506, vr a1527, vi 0, .unset] [(.int f8)]
       by_cases hc2000 : f8 = (0 : Int32)
       · refine og (fun _ k => XS.ifYes X1765.here hx rfl (pc0 := 161) (pc' := 188) rfl (hb hby at_161) rfl ((if0 _ _).trans (teq hc2000).1) (by decide) (by decide) k) ?_
         show OG p e below _ T1765 m 188 #[vi p0, vi p1, vi p2, vi p3, vi f4, vi f5, vi f6, vi f7, vi f8, vr a1471, vr a1486, vr a1506, vr a1527, vi 0, .unset] []
         exact k188 _ _ _ _ X1765 e1765 N1765 (Keep.refl _ [n1_1544]) x1765_10 (own_iz (f := f8) x1494_3 (Or.inl hc2000))
       · refine og (fun _ k => XS.ifNo X1765.here hx rfl (hb hby at_161) rfl ((if0 _ _).trans (feq hc2000).1) k) ?_
         show OG p e below _ T1765 m 164 #[vi p0, vi p1, vi p2, vi p3, vi f4, vi f5, vi f6, vi f7, vi f8, vr a1471, vr a1486, vr a1506, vr a1527, vi 0, .unset] []
         refine qi X1765.here hx hby at_164 rfl ?_
         by_cases hc2001 : f4 = (0 : Int32)
         · refine og (fun _ k => XS.ifYes X1765.here hx rfl (pc0 := 166) (pc' := 176) rfl (hb hby at_166) rfl ((if0 _ _).trans (teq hc2001).1) (by decide) (by decide) k) ?_
           show OG p e below _ T1765 m 176 #[vi p0, vi p1, vi p2, vi p3, vi f4, vi f5, vi f6, vi f7, vi f8, vr a1471, vr a1486, vr a1506, vr a1527, vi 0, .unset] []
           refine qi X1765.here hx hby at_176 rfl ?_
           by_cases hc2002 : f5 = (0 : Int32)
           · refine og (fun _ k => XS.ifYes X1765.here hx rfl (pc0 := 178) (pc' := 188) rfl (hb hby at_178) rfl ((if0 _ _).trans (teq hc2002).1) (by decide) (by decide) k) ?_
             show OG p e below _ T1765 m 188 #[vi p0, vi p1, vi p2, vi p3, vi f4, vi f5, vi f6, vi f7, vi f8, vr a1471, vr a1486, vr a1506, vr a1527, vi 0, .unset] []
             exact k188 _ _ _ _ X1765 e1765 N1765 (Keep.refl _ [n1_1544]) x1765_10 (own_iz (f := f8) x1494_3 (Or.inr hc2002))
           · refine og (fun _ k => XS.ifNo X1765.here hx rfl (hb hby at_178) rfl ((if0 _ _).trans (feq hc2002).1) k) ?_
             show OG p e below _ T1765 m 181 #[vi p0, vi p1, vi p2, vi p3, vi f4, vi f5, vi f6, vi f7, vi f8, vr a1471, vr a1486, vr a1506, vr a1527, vi 0, .unset] []
             refine qb X1765.here hx hby at_181 rfl rfl ?_
             refine qi X1765.here hx hby at_183 rfl ?_
             have F2003 := (F1554.keep K1765)
             have F2004 := (F1633.keep K1765)
             obtain ⟨cq2005, kq2005, qa2005, qb2005, qc2005⟩ := isOf hZ e1765 F2003
             obtain ⟨_, _, ⟨T2005, L2005, k2005, n2005⟩, -, X2005, ⟨Lc2005, hQ2005, l2005, y2005, z2005⟩, st2005⟩ := X1765.virtualBack hx (y := mn12) (z := mn12) hown (mvT hZ (ow hw 349 rfl)) (mvT hZ (ow hw 350 rfl)) (notFace_of_selects (args := #[]) (mvT hZ (ow hw 352 rfl))) (mvT hZ (ow hw 352 rfl)) (mvT hZ (ow hw 351 rfl)) (by decide) (backOf (W := 0) (rm_rc0 l Z a0 hw [] ku0 ku1 ku2 ku3 aDef aCac aEmp aMir kDef cCac F0 a1527 n1_1544 kn1_1544 [(.int (c9_1494 + (1 : Int32))), (.int p2), (.int 0), (.int 0), (.int 0), (.int 0), (.int 0), (.int 1), (.int 1), (.int 0), (.int 0), (.int 0), (.int 0), (.int 0), (.int 0), (.int 0), (.int 0), (.int 0)] (c9_1494 + (1 : Int32)) T1765.heap n0 O1765 x1765_0 F2004 x1765_10 rfl (Nat.le_of_ble_eq_true rfl) gex1544_10) hZ (ow hw 353 rfl) (ow hw 197 rfl) (by decide) (by decide)) qa2005 qc2005 (g := (mkF m 185 #[vi p0, vi p1, vi p2, vi p3, vi f4, vi f5, vi f6, vi f7, vi f8, vr a1471, vr a1486, vr a1506, vr a1527, vi 0, .unset] [(.int 0), (.ref a1527)])) rfl (by rw [hml]; rfl) (Steps.refl _) (argsL := [(.int 0)]) (rest := []) (lenOf pd_I__V rfl) rfl (by show 2 * 0 + _ ≤ _; exact Nat.le_of_eq rfl) (hb hby at_185) (fun _ _ => ⟨rfl, e1765, (by decide : 32 + 0 ≤ _), (by decide : 1104 + 0 ≤ _)⟩)
             dsimp only [Pt.U, Pt.locs, Pt.cells, Pt.slots] at X2005 l2005 y2005 z2005 st2005 hQ2005
             subst l2005 y2005 z2005
             obtain ⟨rfl, Nq2005, K2005, x2005_0⟩ := hQ2005
             obtain ⟨L2005, X2005, N2005⟩ := pk X2005 (Fr.app N1765 Nq2005)
             have O2005 := O1765.keep K2005 (allS gex1544_10 all0)
             have e2005 : T2005.heap = T2005.heap := rfl
             have z2006 := Nat.le_trans z1778 K2005.1
             have F2007 : Arv Z T2005.heap n1_1544 kn1_1544 .int 576 [(.int ((c9_1494 + (1 : Int32)) ||| (512 : Int32))), (.int p2), (.int 0), (.int 0), (.int 0), (.int 0), (.int 0), (.int 1), (.int 1), (.int 0), (.int 0), (.int 0), (.int 0), (.int 0), (.int 0), (.int 0), (.int 0), (.int 0)] (.int 0) := x2005_0
             refine og (fun _ k => st2005.trans k) ?_
             show OG p e below _ T2005 m 188 #[vi p0, vi p1, vi p2, vi p3, vi f4, vi f5, vi f6, vi f7, vi f8, vr a1471, vr a1486, vr a1506, vr a1527, vi 0, .unset] []
             exact k188 _ _ _ _ X2005 e2005 N2005 ((Keep.refl _ [n1_1544]).trans K2005 (aS (om 0 rfl) all0)) F2007 (own_io (own_b2 _) (fun q => q.elim hc2000 hc2002))
         · refine og (fun _ k => XS.ifNo X1765.here hx rfl (hb hby at_166) rfl ((if0 _ _).trans (feq hc2001).1) k) ?_
           show OG p e below _ T1765 m 169 #[vi p0, vi p1, vi p2, vi p3, vi f4, vi f5, vi f6, vi f7, vi f8, vr a1471, vr a1486, vr a1506, vr a1527, vi 0, .unset] []
           refine qb X1765.here hx hby at_169 rfl rfl ?_
           refine qi X1765.here hx hby at_171 rfl ?_
           have F2008 := (F1554.keep K1765)
           have F2009 := (F1633.keep K1765)
           obtain ⟨cq2010, kq2010, qa2010, qb2010, qc2010⟩ := isOf hZ e1765 F2008
           obtain ⟨_, _, ⟨T2010, L2010, k2010, n2010⟩, -, X2010, ⟨Lc2010, hQ2010, l2010, y2010, z2010⟩, st2010⟩ := X1765.virtualBack hx (y := mn13) (z := mn13) hown (mvT hZ (ow hw 344 rfl)) (mvT hZ (ow hw 345 rfl)) (notFace_of_selects (args := #[]) (mvT hZ (ow hw 347 rfl))) (mvT hZ (ow hw 347 rfl)) (mvT hZ (ow hw 346 rfl)) (by decide) (backOf (W := 0) (rm_tl0 l Z a0 hw [] ku0 ku1 ku2 ku3 aDef aCac aEmp aMir kDef cCac F0 a1527 n1_1544 kn1_1544 [(.int (c9_1494 + (1 : Int32))), (.int p2), (.int 0), (.int 0), (.int 0), (.int 0), (.int 0), (.int 1), (.int 1), (.int 0), (.int 0), (.int 0), (.int 0), (.int 0), (.int 0), (.int 0), (.int 0), (.int 0)] (c9_1494 + (1 : Int32)) T1765.heap n0 O1765 x1765_0 F2009 x1765_10 rfl (Nat.le_of_ble_eq_true rfl) gex1544_10) hZ (ow hw 348 rfl) (ow hw 197 rfl) (by decide) (by decide)) qa2010 qc2010 (g := (mkF m 173 #[vi p0, vi p1, vi p2, vi p3, vi f4, vi f5, vi f6, vi f7, vi f8, vr a1471, vr a1486, vr a1506, vr a1527, vi 0, .unset] [(.int 0), (.ref a1527)])) rfl (by rw [hml]; rfl) (Steps.refl _) (argsL := [(.int 0)]) (rest := []) (lenOf pd_I__V rfl) rfl (by show 2 * 0 + _ ≤ _; exact Nat.le_of_eq rfl) (hb hby at_173) (fun _ _ => ⟨rfl, e1765, (by decide : 32 + 0 ≤ _), (by decide : 1104 + 0 ≤ _)⟩)
           dsimp only [Pt.U, Pt.locs, Pt.cells, Pt.slots] at X2010 l2010 y2010 z2010 st2010 hQ2010
           subst l2010 y2010 z2010
           obtain ⟨rfl, Nq2010, K2010, x2010_0⟩ := hQ2010
           obtain ⟨L2010, X2010, N2010⟩ := pk X2010 (Fr.app N1765 Nq2010)
           have O2010 := O1765.keep K2010 (allS gex1544_10 all0)
           have e2010 : T2010.heap = T2010.heap := rfl
           have z2011 := Nat.le_trans z1778 K2010.1
           have F2012 : Arv Z T2010.heap n1_1544 kn1_1544 .int 576 [(.int ((c9_1494 + (1 : Int32)) ||| (256 : Int32))), (.int p2), (.int 0), (.int 0), (.int 0), (.int 0), (.int 0), (.int 1), (.int 1), (.int 0), (.int 0), (.int 0), (.int 0), (.int 0), (.int 0), (.int 0), (.int 0), (.int 0)] (.int 0) := x2010_0
           refine og (fun _ k => st2010.trans k) ?_
           show OG p e below _ T2010 m 176 #[vi p0, vi p1, vi p2, vi p3, vi f4, vi f5, vi f6, vi f7, vi f8, vr a1471, vr a1486, vr a1506, vr a1527, vi 0, .unset] []
           refine qi X2010.here hx hby at_176 rfl ?_
           by_cases hc2013 : f5 = (0 : Int32)
           · refine og (fun _ k => XS.ifYes X2010.here hx rfl (pc0 := 178) (pc' := 188) rfl (hb hby at_178) rfl ((if0 _ _).trans (teq hc2013).1) (by decide) (by decide) k) ?_
             show OG p e below _ T2010 m 188 #[vi p0, vi p1, vi p2, vi p3, vi f4, vi f5, vi f6, vi f7, vi f8, vr a1471, vr a1486, vr a1506, vr a1527, vi 0, .unset] []
             exact k188 _ _ _ _ X2010 e2010 N2010 ((Keep.refl _ [n1_1544]).trans K2010 (aS (om 0 rfl) all0)) F2012 (own_iz (f := f8) (own_b1 x1494_3) (Or.inr hc2013))
           · refine og (fun _ k => XS.ifNo X2010.here hx rfl (hb hby at_178) rfl ((if0 _ _).trans (feq hc2013).1) k) ?_
             show OG p e below _ T2010 m 181 #[vi p0, vi p1, vi p2, vi p3, vi f4, vi f5, vi f6, vi f7, vi f8, vr a1471, vr a1486, vr a1506, vr a1527, vi 0, .unset] []
             refine qb X2010.here hx hby at_181 rfl rfl ?_
             refine qi X2010.here hx hby at_183 rfl ?_
             have F2014 := (F2008.keep K2010)
             have ni2015 := (ninS (Nat.ne_of_lt lox1544_10) nin0)
             have F2016 := (x1765_0.keep K2010 ni2015)
             have F2017 := (F2009.keep K2010)
             obtain ⟨cq2018, kq2018, qa2018, qb2018, qc2018⟩ := isOf hZ e2010 F2014
             obtain ⟨_, _, ⟨T2018, L2018, k2018, n2018⟩, -, X2018, ⟨Lc2018, hQ2018, l2018, y2018, z2018⟩, st2018⟩ := X2010.virtualBack hx (y := mn12) (z := mn12) hown (mvT hZ (ow hw 349 rfl)) (mvT hZ (ow hw 350 rfl)) (notFace_of_selects (args := #[]) (mvT hZ (ow hw 352 rfl))) (mvT hZ (ow hw 352 rfl)) (mvT hZ (ow hw 351 rfl)) (by decide) (backOf (W := 0) (rm_rc0 l Z a0 hw [] ku0 ku1 ku2 ku3 aDef aCac aEmp aMir kDef cCac F0 a1527 n1_1544 kn1_1544 [(.int ((c9_1494 + (1 : Int32)) ||| (256 : Int32))), (.int p2), (.int 0), (.int 0), (.int 0), (.int 0), (.int 0), (.int 1), (.int 1), (.int 0), (.int 0), (.int 0), (.int 0), (.int 0), (.int 0), (.int 0), (.int 0), (.int 0)] ((c9_1494 + (1 : Int32)) ||| (256 : Int32)) T2010.heap n0 O2010 F2016 F2017 F2012 rfl (Nat.le_of_ble_eq_true rfl) gex1544_10) hZ (ow hw 353 rfl) (ow hw 197 rfl) (by decide) (by decide)) qa2018 qc2018 (g := (mkF m 185 #[vi p0, vi p1, vi p2, vi p3, vi f4, vi f5, vi f6, vi f7, vi f8, vr a1471, vr a1486, vr a1506, vr a1527, vi 0, .unset] [(.int 0), (.ref a1527)])) rfl (by rw [hml]; rfl) (Steps.refl _) (argsL := [(.int 0)]) (rest := []) (lenOf pd_I__V rfl) rfl (by show 2 * 0 + _ ≤ _; exact Nat.le_of_eq rfl) (hb hby at_185) (fun _ _ => ⟨rfl, e2010, (by decide : 32 + 0 ≤ _), (by decide : 1104 + 0 ≤ _)⟩)
             dsimp only [Pt.U, Pt.locs, Pt.cells, Pt.slots] at X2018 l2018 y2018 z2018 st2018 hQ2018
             subst l2018 y2018 z2018
             obtain ⟨rfl, Nq2018, K2018, x2018_0⟩ := hQ2018
             obtain ⟨L2018, X2018, N2018⟩ := pk X2018 (Fr.app N2010 Nq2018)
             have O2018 := O2010.keep K2018 (allS gex1544_10 all0)
             have e2018 : T2018.heap = T2018.heap := rfl
             have z2019 := Nat.le_trans z2011 K2018.1
             have F2020 : Arv Z T2018.heap n1_1544 kn1_1544 .int 576 [(.int (((c9_1494 + (1 : Int32)) ||| (256 : Int32)) ||| (512 : Int32))), (.int p2), (.int 0), (.int 0), (.int 0), (.int 0), (.int 0), (.int 1), (.int 1), (.int 0), (.int 0), (.int 0), (.int 0), (.int 0), (.int 0), (.int 0), (.int 0), (.int 0)] (.int 0) := x2018_0
             refine og (fun _ k => st2018.trans k) ?_
             show OG p e below _ T2018 m 188 #[vi p0, vi p1, vi p2, vi p3, vi f4, vi f5, vi f6, vi f7, vi f8, vr a1471, vr a1486, vr a1506, vr a1527, vi 0, .unset] []
             exact k188 _ _ _ _ X2018 e2018 N2018 (((Keep.refl _ [n1_1544]).trans K2010 (aS (om 0 rfl) all0)).trans K2018 (aS (om 0 rfl) all0)) F2020 (own_io (own_b2 _) (fun q => q.elim hc2000 hc2013))
      by_cases hc2021 : (p0 &&& (16 : Int32)) = (0 : Int32)
      · refine og (fun _ k => XS.ifYes X0.here hx rfl (pc0 := 57) (pc' := 64) rfl (hb hby at_57) rfl ((if0 _ _).trans (teq hc2021).1) (by decide) (by decide) k) ?_
        show OG p e below _ s₁ m 64 #[vi p0, vi p1, vi p2, vi p3, vi f4, vi f5, vi f6, vi f7, .unset, .unset, .unset, .unset, .unset, .unset, .unset] []
        refine qc X0.here hx hby at_64 ?_
        show OG p e below _ s₁ m 65 #[vi p0, vi p1, vi p2, vi p3, vi f4, vi f5, vi f6, vi f7, .unset, .unset, .unset, .unset, .unset, .unset, .unset] [(.int 0)]
        exact k65 0 (Or.inl rfl)
      · refine og (fun _ k => XS.ifNo X0.here hx rfl (hb hby at_57) rfl ((if0 _ _).trans (feq hc2021).1) k) ?_
        show OG p e below _ s₁ m 60 #[vi p0, vi p1, vi p2, vi p3, vi f4, vi f5, vi f6, vi f7, .unset, .unset, .unset, .unset, .unset, .unset, .unset] []
        refine qc X0.here hx hby at_60 ?_
        refine og (fun _ k => XS.goto X0.here hx rfl (pc0 := 61) (pc' := 65) rfl (hb hby at_61) (by decide) (by decide) k) ?_
        show OG p e below _ s₁ m 65 #[vi p0, vi p1, vi p2, vi p3, vi f4, vi f5, vi f6, vi f7, .unset, .unset, .unset, .unset, .unset, .unset, .unset] [(.int 1)]
        exact k65 1 (Or.inr rfl)
     by_cases hc2022 : (p0 &&& (8 : Int32)) = (0 : Int32)
     · refine og (fun _ k => XS.ifYes X0.here hx rfl (pc0 := 43) (pc' := 50) rfl (hb hby at_43) rfl ((if0 _ _).trans (teq hc2022).1) (by decide) (by decide) k) ?_
       show OG p e below _ s₁ m 50 #[vi p0, vi p1, vi p2, vi p3, vi f4, vi f5, vi f6, .unset, .unset, .unset, .unset, .unset, .unset, .unset, .unset] []
       refine qc X0.here hx hby at_50 ?_
       show OG p e below _ s₁ m 51 #[vi p0, vi p1, vi p2, vi p3, vi f4, vi f5, vi f6, .unset, .unset, .unset, .unset, .unset, .unset, .unset, .unset] [(.int 0)]
       exact k51 0 (Or.inl rfl)
     · refine og (fun _ k => XS.ifNo X0.here hx rfl (hb hby at_43) rfl ((if0 _ _).trans (feq hc2022).1) k) ?_
       show OG p e below _ s₁ m 46 #[vi p0, vi p1, vi p2, vi p3, vi f4, vi f5, vi f6, .unset, .unset, .unset, .unset, .unset, .unset, .unset, .unset] []
       refine qc X0.here hx hby at_46 ?_
       refine og (fun _ k => XS.goto X0.here hx rfl (pc0 := 47) (pc' := 51) rfl (hb hby at_47) (by decide) (by decide) k) ?_
       show OG p e below _ s₁ m 51 #[vi p0, vi p1, vi p2, vi p3, vi f4, vi f5, vi f6, .unset, .unset, .unset, .unset, .unset, .unset, .unset, .unset] [(.int 1)]
       exact k51 1 (Or.inr rfl)
    by_cases hc2023 : (p0 &&& (4 : Int32)) = (0 : Int32)
    · refine og (fun _ k => XS.ifYes X0.here hx rfl (pc0 := 29) (pc' := 36) rfl (hb hby at_29) rfl ((if0 _ _).trans (teq hc2023).1) (by decide) (by decide) k) ?_
      show OG p e below _ s₁ m 36 #[vi p0, vi p1, vi p2, vi p3, vi f4, vi f5, .unset, .unset, .unset, .unset, .unset, .unset, .unset, .unset, .unset] []
      refine qc X0.here hx hby at_36 ?_
      show OG p e below _ s₁ m 37 #[vi p0, vi p1, vi p2, vi p3, vi f4, vi f5, .unset, .unset, .unset, .unset, .unset, .unset, .unset, .unset, .unset] [(.int 0)]
      exact k37 0 (Or.inl rfl)
    · refine og (fun _ k => XS.ifNo X0.here hx rfl (hb hby at_29) rfl ((if0 _ _).trans (feq hc2023).1) k) ?_
      show OG p e below _ s₁ m 32 #[vi p0, vi p1, vi p2, vi p3, vi f4, vi f5, .unset, .unset, .unset, .unset, .unset, .unset, .unset, .unset, .unset] []
      refine qc X0.here hx hby at_32 ?_
      refine og (fun _ k => XS.goto X0.here hx rfl (pc0 := 33) (pc' := 37) rfl (hb hby at_33) (by decide) (by decide) k) ?_
      show OG p e below _ s₁ m 37 #[vi p0, vi p1, vi p2, vi p3, vi f4, vi f5, .unset, .unset, .unset, .unset, .unset, .unset, .unset, .unset, .unset] [(.int 1)]
      exact k37 1 (Or.inr rfl)
   by_cases hc2024 : (p0 &&& (2 : Int32)) = (0 : Int32)
   · refine og (fun _ k => XS.ifYes X0.here hx rfl (pc0 := 16) (pc' := 23) rfl (hb hby at_16) rfl ((if0 _ _).trans (teq hc2024).1) (by decide) (by decide) k) ?_
     show OG p e below _ s₁ m 23 #[vi p0, vi p1, vi p2, vi p3, vi f4, .unset, .unset, .unset, .unset, .unset, .unset, .unset, .unset, .unset, .unset] []
     refine qc X0.here hx hby at_23 ?_
     show OG p e below _ s₁ m 24 #[vi p0, vi p1, vi p2, vi p3, vi f4, .unset, .unset, .unset, .unset, .unset, .unset, .unset, .unset, .unset, .unset] [(.int 0)]
     exact k24 0 (Or.inl rfl)
   · refine og (fun _ k => XS.ifNo X0.here hx rfl (hb hby at_16) rfl ((if0 _ _).trans (feq hc2024).1) k) ?_
     show OG p e below _ s₁ m 19 #[vi p0, vi p1, vi p2, vi p3, vi f4, .unset, .unset, .unset, .unset, .unset, .unset, .unset, .unset, .unset, .unset] []
     refine qc X0.here hx hby at_19 ?_
     refine og (fun _ k => XS.goto X0.here hx rfl (pc0 := 20) (pc' := 24) rfl (hb hby at_20) (by decide) (by decide) k) ?_
     show OG p e below _ s₁ m 24 #[vi p0, vi p1, vi p2, vi p3, vi f4, .unset, .unset, .unset, .unset, .unset, .unset, .unset, .unset, .unset, .unset] [(.int 1)]
     exact k24 1 (Or.inr rfl)
  by_cases hc2025 : (p0 &&& (1 : Int32)) = (0 : Int32)
  · refine og (fun _ k => XS.ifYes X0.here hx rfl (pc0 := 3) (pc' := 10) rfl (hb hby at_3) rfl ((if0 _ _).trans (teq hc2025).1) (by decide) (by decide) k) ?_
    show OG p e below _ s₁ m 10 #[vi p0, vi p1, vi p2, vi p3, .unset, .unset, .unset, .unset, .unset, .unset, .unset, .unset, .unset, .unset, .unset] []
    refine qc X0.here hx hby at_10 ?_
    show OG p e below _ s₁ m 11 #[vi p0, vi p1, vi p2, vi p3, .unset, .unset, .unset, .unset, .unset, .unset, .unset, .unset, .unset, .unset, .unset] [(.int 0)]
    exact k11 0 (Or.inl rfl)
  · refine og (fun _ k => XS.ifNo X0.here hx rfl (hb hby at_3) rfl ((if0 _ _).trans (feq hc2025).1) k) ?_
    show OG p e below _ s₁ m 6 #[vi p0, vi p1, vi p2, vi p3, .unset, .unset, .unset, .unset, .unset, .unset, .unset, .unset, .unset, .unset, .unset] []
    refine qc X0.here hx hby at_6 ?_
    refine og (fun _ k => XS.goto X0.here hx rfl (pc0 := 7) (pc' := 11) rfl (hb hby at_7) (by decide) (by decide) k) ?_
    show OG p e below _ s₁ m 11 #[vi p0, vi p1, vi p2, vi p3, .unset, .unset, .unset, .unset, .unset, .unset, .unset, .unset, .unset, .unset, .unset] [(.int 1)]
    exact k11 1 (Or.inr rfl)
theorem comes_1 {Post : Tables → Env → Array Value → State → Outcome → State → Prop} (hpost : ∀ tb e args s v u, (limb_1_1.after args s (.returned v) u = true ∧ limb_1_2.after args s (.returned v) u = true ∧ True) → FrameEnd s (.returned v) u (Jvm.fieldLocs frame_1_writes args s ++ Jvm.arrayLocs frame_1_arrays args s ++ Jvm.staticLocs frame_1_statics s) 80 2304 → Post tb e args s (.returned v) u) :
    ArmFor flags0 classFile x code maxLocals ret World_1 tables_1 room_1 Calls_1 rest_1 Pre_1 Post := by
  intro l hfl _ _ p e ha hc hk s m args below hf hA hF happ hP
  obtain ⟨hcalls, hrest, hpre⟩ := hP
  obtain ⟨-, -, -, hnamed, -, -, -, hat⟩ := (Spec.applies_iff hf).mp happ
  obtain ⟨hg, hn0⟩ := and_e (Cond.before_iff.mp (show (Jvm.Cond.and given_1 narrow_1).before args s = true from hpre))
  obtain ⟨h1, g0⟩ := and_e hg
  obtain ⟨t0, g1⟩ := and_e g0
  obtain ⟨t1, g2⟩ := and_e g1
  obtain ⟨t2, g3⟩ := and_e g2
  obtain ⟨w0, w1, w2, w3, rfl⟩ : ∃ w0 w1 w2 w3 : Value, args = #[w0, w1, w2, w3] := by
    have hs : args.size = 4 := by simpa [Cond.value, given_1] using h1
    obtain ⟨L⟩ := args
    match L, hs with
    | [w0, w1, w2, w3], _ => exact ⟨w0, w1, w2, w3, rfl⟩
  have hw := fun d (hd : d ∈ tables_1) => atoms_spec (ws := Jvm.Cond.code x code maxLocals ret :: tables_1) hat d (List.mem_cons_of_mem _ hd)
  obtain ⟨hsets, hown0⟩ := atoms_of _ (rest_1_c_eq ▸ (show rest_1_c.before _ s = true from hrest))
  have hfit : Fit s := fun {y c} hc i hi => by
    obtain ⟨ha, rfl⟩ := Array.getElem?_eq_some_iff.mp hc
    have q := List.all_eq_true.mp ((Array.all_eq_true_iff_forall_mem.mp hF) _ (Array.getElem_mem ha)) i (List.mem_range.mpr hi)
    simpa [Array.getElem?_eq_getElem hi] using q
  obtain ⟨i0, ev0⟩ := is_v t0
  obtain rfl : w0 = (.int i0) := Option.some.inj ev0
  obtain ⟨i1, ev1⟩ := is_v t1
  obtain rfl : w1 = (.int i1) := Option.some.inj ev1
  obtain ⟨i2, ev2⟩ := is_v t2
  obtain rfl : w2 = (.int i2) := Option.some.inj ev2
  obtain ⟨i3, ev3⟩ := is_v g3
  obtain rfl : w3 = (.int i3) := Option.some.inj ev3
  obtain ⟨c0, hn1⟩ := and_e hn0
  obtain ⟨ku0, ev_aUNCONTROLLED⟩ := exa_v c0
  obtain ⟨c1, hn2⟩ := and_e hn1
  obtain ⟨ku1, ev_aRELEASE⟩ := exa_v c1
  obtain ⟨c2, hn3⟩ := and_e hn2
  obtain ⟨c3, hn4⟩ := and_e hn3
  obtain ⟨c4, hn5⟩ := and_e hn4
  obtain ⟨ku2, ev_aBLOCKED⟩ := exa_v c4
  obtain ⟨c5, hn6⟩ := and_e hn5
  obtain ⟨c6, hn7⟩ := and_e hn6
  obtain ⟨ku3, ev_aCALL⟩ := exa_v c6
  obtain ⟨aDef, ev_aDef⟩ := arr_v (Cond.before_iff.mp (hsets _ (List.mem_of_getElem? (i := 6) rfl)))
  obtain ⟨cDef, A_aDef⟩ := Arr.start ev_aDef (Cond.before_iff.mp (hsets _ (List.mem_of_getElem? (i := 6) rfl)))
  have L_aDef := own_len ev_aDef A_aDef (Cond.before_iff.mp (hsets _ (List.mem_of_getElem? (i := 8) rfl)))
  have VD := own_empty A_aDef L_aDef
  obtain ⟨kDef, hkDef⟩ : ∃ k, k = cDef.cls := ⟨_, rfl⟩
  rw [← hkDef] at VD
  obtain ⟨aCac, ev_aCac⟩ := arr_v (Cond.before_iff.mp (hsets _ (List.mem_of_getElem? (i := 13) rfl)))
  obtain ⟨cCac, A_aCac⟩ := Arr.start ev_aCac (Cond.before_iff.mp (hsets _ (List.mem_of_getElem? (i := 13) rfl)))
  have BX := own_bx ev_aCac A_aCac (Cond.before_iff.mp (hsets _ (List.mem_of_getElem? (i := 16) rfl))) (own_len ev_aCac A_aCac (Cond.before_iff.mp (hsets _ (List.mem_of_getElem? (i := 15) rfl))))
  obtain ⟨aEmp, ev_aEmp⟩ := exa_v (Cond.before_iff.mp (hsets _ (List.mem_of_getElem? (i := 19) rfl)))
  obtain ⟨cMi, kMi, aMir, mi1, mi2, mi3, mi4⟩ := hcalls.1
  have MIR : Mir s "[Ljava/lang/Object;" aMir := ⟨cMi, kMi, mi1, mi2, mi3, mi4⟩
  have F0 : OwnFacts s ku0 ku1 ku2 ku3 aDef aCac aEmp aMir kDef cCac := ⟨(Sta.start ev_aUNCONTROLLED (Or.inr ⟨(ow hw 72 rfl), (ow hw 73 rfl)⟩)), (Exa.start ev_aUNCONTROLLED c0), (Sta.start ev_aRELEASE (Or.inr ⟨(ow hw 72 rfl), (ow hw 194 rfl)⟩)), (Exa.start ev_aRELEASE c1), (own_fldI ev_aUNCONTROLLED c2), (own_fldI ev_aRELEASE c3), (Sta.start ev_aBLOCKED (Or.inr ⟨(ow hw 72 rfl), (ow hw 355 rfl)⟩)), (Exa.start ev_aBLOCKED c4), (own_fldI ev_aBLOCKED c5), (Sta.start ev_aCALL (Or.inr ⟨(ow hw 72 rfl), (ow hw 357 rfl)⟩)), (Exa.start ev_aCALL c6), (own_fldI ev_aCALL hn7), (Sta.start ev_aDef (Or.inr ⟨hw _ (List.mem_of_getElem? (i := 2) rfl), (hsets _ (List.mem_of_getElem? (i := 2) rfl))⟩)), (Exa.start ev_aDef (Cond.before_iff.mp (hsets _ (List.mem_of_getElem? (i := 7) rfl)))), VD, (own_high (Cond.before_iff.mp (hsets _ (List.mem_of_getElem? (i := 12) rfl))) (Or.inl (hsets _ (List.mem_of_getElem? (i := 10) rfl)))), (Sta.start ev_aCac (Or.inr ⟨hw _ (List.mem_of_getElem? (i := 31) rfl), (hsets _ (List.mem_of_getElem? (i := 11) rfl))⟩)), BX, (Sta.start ev_aEmp (Or.inl (hsets _ (List.mem_of_getElem? (i := 18) rfl)))), (Exa.start ev_aEmp (Cond.before_iff.mp (hsets _ (List.mem_of_getElem? (i := 19) rfl)))), (own_fldI ev_aEmp (Cond.before_iff.mp (hsets _ (List.mem_of_getElem? (i := 23) rfl)))), MIR⟩
  obtain ⟨n, o, h1, h2, h3, _, L, rfl, ⟨rfl, N⟩, hq⟩ := rm_law l s _ hw tables_1 ku0 ku1 ku2 ku3 aDef aCac aEmp aMir kDef cCac F0 i0 i1 i2 i3 s.heap s.heap.size (Old.start s) p e ha hc hk s m _ below hf ((Spec.applies_iff_loose hf).mp happ).1 ⟨rfl, State.Warmed39.refl s, rfl⟩ trivial
  refine ⟨n, _, h1, h2, h3, hpost _ _ _ _ _ _ ⟨Cond.after_iff.mpr rfl, Cond.after_iff.mpr (eq_i res_at (Term.int_eval (1)) rfl), trivial⟩ ⟨hq.1, hq.2.1, (hq.2.2.sift fun y hy => Or.inr (N y hy)).mono (by decide) (by decide)⟩⟩
theorem main_1_1 : Claimed_1_1 := comes_1 fun _ _ _ _ _ _ h hF => ⟨h.1, hF⟩
theorem main_1_2 : Claimed_1_2 := comes_1 fun _ _ _ _ _ _ h hF => ⟨h.2.1, hF⟩
end Jvm.Pilot.@@N@@
namespace Jvm.Pilot.@@N@@
open Jvm Jvm.ClassFile Sem Op Lib Jvm.Free Jvm.Stand Jvm.Pilot.@@N@@.Jvm.D
/-! MADE BY PROGRAM (witnessworld.py) out of the Statement's table words and the real class files: 45 classes; the members and pool entries that the words name. The judged class is class 1, her method 2. -/
namespace start1
open Jvm.ClassFile
def u (s : String) : CpInfo := .utf8 (stringToUtf16 s)
/-- a pool by its gaps: so many unusable entries, then the entry; so many at the end -/
def gap : Nat → List CpInfo → List CpInfo
  | 0, r => r
  | n + 1, r => .unusable :: gap n r
def poolList (es : List (Nat × CpInfo)) (last : Nat) : List CpInfo := es.foldr (fun e r => gap e.1 (e.2 :: r)) (gap last [])
def pool (es : List (Nat × CpInfo)) (last : Nat) : Array CpInfo := ⟨poolList es last⟩
def fileOf (pool : Array CpInfo) (this : Nat) (attrs : Array Attribute := #[]) (ms : Array MethodInfo := #[]) (fl : Nat := 33) (sup : Nat := 0) (ifs : Array Nat := #[]) (fds : Array FieldInfo := #[]) : ClassFile where
  minorVersion := 0
  majorVersion := 65
  constantPool := pool
  accessFlags := fl
  thisClass := this
  superClass := sup
  interfaces := ifs
  fields := fds
  methods := ms
  attributes := attrs
def plain (name : String) (sup : Option ClassId) : Class where
  name := name
  kind := .ordinary
  loader := none
  accessFlags := 33
  super := sup
  interfaces := #[]
  cf := none
  fields := #[]
  methods := #[]
  instanceTypes := #[]
  staticTypes := #[]
  resolved := #[]
  callSites := []
  init := .initialized
  statics := none
  mirror := none

def pool0 : Array CpInfo := pool [(5, u "<init>"), (0, u "()V"), (1, .class_ 10), (1, u "java/lang/Object"), (0, u "getClass"), (0, u "()Ljava/lang/Class;")] 111

def k0c0 : Code := { maxStack := 0, maxLocals := 1, code := object_method_1_code, exceptionTable := #[], attributes := #[] }
def k0m0 : Method := { name := "<init>", desc := "()V", sig := { parameters := [], returnType := none }, accessFlags := 1, code := some k0c0 }
def k0m1 : Method := { name := "getClass", desc := "()Ljava/lang/Class;", sig := { parameters := [], returnType := some (.object "java/lang/Class") }, accessFlags := 273, code := none }
/-- java/lang/Object -/
def k0 : Class := { plain "java/lang/Object" none with
  accessFlags := 33
  interfaces := #[]
  cf := some (fileOf pool0 8 #[] #[{ accessFlags := 1, nameIndex := 5, descriptorIndex := 6, attributes := #[] }, { accessFlags := 273, nameIndex := 11, descriptorIndex := 12, attributes := #[] }] 33 0 #[] #[])
  fields := #[]
  methods := #[k0m0, k0m1]
  instanceTypes := #[]
  staticTypes := #[]
  resolved := Array.replicate 124 none
  statics := none }

def pool1 : Array CpInfo := pool [(2, .class_ 4), (0, .nameAndType 5 6), (0, u "java/lang/Object"), (0, u "<init>"), (0, u "()V"), (0, .fieldref 8 9), (0, .class_ 10), (0, .nameAndType 11 12), (0, u "com/example/reweave/reweave/control/Point$Kind"), (0, u "RELEASE"), (0, u "Lcom/example/reweave/reweave/control/Point$Kind;"), (0, .fieldref 8 14), (0, .nameAndType 15 12), (0, u "BLOCKED"), (0, .fieldref 8 17), (0, .nameAndType 18 12), (0, u "CALL"), (0, .fieldref 8 20), (0, .nameAndType 21 12), (0, u "UNCONTROLLED"), (0, .class_ 23), (0, u "java/util/ArrayList"), (0, .methodref 22 3), (0, .methodref 26 27), (0, .class_ 28), (0, .nameAndType 29 30), (0, u "java/lang/Integer"), (0, u "valueOf"), (0, u "(I)Ljava/lang/Integer;"), (0, .methodref 22 32), (0, .nameAndType 33 34), (0, u "add"), (0, u "(Ljava/lang/Object;)Z"), (0, .class_ 36), (0, u "com/example/reweave/reweave/control/Point"), (0, .methodref 38 39), (0, .class_ 40), (0, .nameAndType 41 42), (0, u "com/example/reweave/reweave/control/SearchPathHasRacedWithoutAMonitorPinLaw"), (0, u "kind"), (0, u "(I)Lcom/example/reweave/reweave/control/Point$Kind;"), (0, .methodref 35 44), (0, .nameAndType 5 45), (0, u "(Lcom/example/reweave/reweave/control/Point$Kind;ILcom/example/reweave/reweave/control/Location;Ljava/util/List;)V"), (0, .class_ 47), (0, u "com/example/reweave/reweave/control/SearchPath"), (0, .methodref 46 3), (0, .methodref 46 50), (0, .nameAndType 33 51), (0, u "(Ljava/lang/Object;Ljava/util/List;Ljava/util/List;)I"), (0, .methodref 46 53), (0, .nameAndType 54 55), (0, u "tail"), (0, u "(I)V"), (0, .methodref 46 57), (0, .nameAndType 58 55), (0, u "racedWithoutAMonitor"), (0, .methodref 46 60), (0, .nameAndType 61 62), (0, u "hasRacedWithoutAMonitor"), (0, u "(I)Z"), (3, u "law"), (0, u "(IIII)Z")] 4

def k1m0 : Method := { name := "<init>", desc := "()V", sig := { parameters := [], returnType := none }, accessFlags := 1, code := none }
def k1c1 : Code := { maxStack := 2, maxLocals := 2, code := method_2_code, exceptionTable := #[], attributes := #[] }
def k1m1 : Method := { name := "kind", desc := "(I)Lcom/example/reweave/reweave/control/Point$Kind;", sig := { parameters := [.int], returnType := some (.object "com/example/reweave/reweave/control/Point$Kind") }, accessFlags := 10, code := some k1c1 }
def k1c2 : Code := { maxStack := 6, maxLocals := 15, code := code, exceptionTable := #[], attributes := #[] }
def k1m2 : Method := { name := "law", desc := "(IIII)Z", sig := { parameters := [.int, .int, .int, .int], returnType := some .boolean }, accessFlags := 9, code := some k1c2 }
/-- com/example/reweave/reweave/control/SearchPathHasRacedWithoutAMonitorPinLaw -/
def k1 : Class := { plain "com/example/reweave/reweave/control/SearchPathHasRacedWithoutAMonitorPinLaw" (some 0) with
  accessFlags := 49
  interfaces := #[]
  cf := some (fileOf pool1 38 #[] #[{ accessFlags := 1, nameIndex := 5, descriptorIndex := 6, attributes := #[] }, { accessFlags := 10, nameIndex := 41, descriptorIndex := 42, attributes := #[] }, { accessFlags := 9, nameIndex := 66, descriptorIndex := 67, attributes := #[] }] 49 2 #[] #[])
  fields := #[]
  methods := #[k1m0, k1m1, k1m2]
  instanceTypes := #[]
  staticTypes := #[]
  resolved := Array.replicate 72 none
  statics := none }

def pool2 : Array CpInfo := pool [(8, .class_ 10), (1, u "java/lang/Iterable"), (24, .class_ 36), (0, u "java/lang/Object")] 25

/-- java/lang/Iterable -/
def k2 : Class := { plain "java/lang/Iterable" (some 0) with
  accessFlags := 1537
  interfaces := #[]
  cf := some (fileOf pool2 8 #[] #[] 1537 35 #[] #[])
  fields := #[]
  methods := #[]
  instanceTypes := #[]
  staticTypes := #[]
  resolved := Array.replicate 62 none
  statics := none }

def pool3 : Array CpInfo := pool [(10, .class_ 12), (1, u "java/util/Collection"), (0, u "toArray"), (16, u "()Z"), (29, .class_ 61), (0, u "java/lang/Object"), (0, .class_ 63), (0, u "java/lang/Iterable"), (2, u "isEmpty"), (3, u "()[Ljava/lang/Object;")] 44

def k3m0 : Method := { name := "isEmpty", desc := "()Z", sig := { parameters := [], returnType := some .boolean }, accessFlags := 1025, code := none }
def k3m1 : Method := { name := "toArray", desc := "()[Ljava/lang/Object;", sig := { parameters := [], returnType := some (.array (.object "java/lang/Object")) }, accessFlags := 1025, code := none }
/-- java/util/Collection -/
def k3 : Class := { plain "java/util/Collection" (some 0) with
  accessFlags := 1537
  interfaces := #[2]
  cf := some (fileOf pool3 10 #[] #[{ accessFlags := 1025, nameIndex := 66, descriptorIndex := 30, attributes := #[] }, { accessFlags := 1025, nameIndex := 13, descriptorIndex := 70, attributes := #[] }] 1537 60 #[62] #[])
  fields := #[]
  methods := #[k3m0, k3m1]
  instanceTypes := #[]
  staticTypes := #[]
  resolved := Array.replicate 115 none
  statics := none }

def pool4 : Array CpInfo := pool [(1, .methodref 2 3), (0, .class_ 4), (0, .nameAndType 5 6), (0, u "java/lang/Object"), (0, u "<init>"), (0, u "()V"), (1, .class_ 10), (1, u "java/util/AbstractCollection"), (66, .class_ 78), (0, u "java/util/Collection")] 81

def k4c0 : Code := { maxStack := 1, maxLocals := 1, code := jdk_22_method_1_code, exceptionTable := #[], attributes := #[] }
def k4m0 : Method := { name := "<init>", desc := "()V", sig := { parameters := [], returnType := none }, accessFlags := 4, code := some k4c0 }
/-- java/util/AbstractCollection -/
def k4 : Class := { plain "java/util/AbstractCollection" (some 0) with
  accessFlags := 1057
  interfaces := #[3]
  cf := some (fileOf pool4 8 #[] #[{ accessFlags := 4, nameIndex := 5, descriptorIndex := 6, attributes := #[] }] 1057 2 #[77] #[])
  fields := #[]
  methods := #[k4m0]
  instanceTypes := #[]
  staticTypes := #[]
  resolved := Array.replicate 160 none
  statics := none }

def pool5 : Array CpInfo := pool [(8, .class_ 10), (1, u "java/util/SequencedCollection"), (15, .class_ 27), (0, u "java/lang/Object"), (0, .class_ 29), (0, u "java/util/Collection")] 27

/-- java/util/SequencedCollection -/
def k5 : Class := { plain "java/util/SequencedCollection" (some 0) with
  accessFlags := 1537
  interfaces := #[3]
  cf := some (fileOf pool5 8 #[] #[] 1537 26 #[28] #[])
  fields := #[]
  methods := #[]
  instanceTypes := #[]
  staticTypes := #[]
  resolved := Array.replicate 57 none
  statics := none }

def pool6 : Array CpInfo := pool [(8, .class_ 10), (1, u "java/util/List"), (7, u "()Z"), (29, u "<init>"), (11, u "add"), (3, u "(Ljava/lang/Object;)Z"), (2, u "isEmpty"), (11, u "size"), (0, u "()I"), (7, u "of"), (1, .fieldref 91 92), (0, .class_ 93), (0, .nameAndType 94 95), (0, u "java/util/ImmutableCollections"), (0, u "EMPTY_LIST"), (0, u "Ljava/util/ImmutableCollections$ListN;"), (0, .class_ 97), (0, u "java/util/ImmutableCollections$List12"), (2, .methodref 96 101), (0, .nameAndType 48 102), (0, u "(Ljava/lang/Object;Ljava/lang/Object;)V"), (0, .class_ 104), (0, u "java/lang/Object"), (3, u "([Ljava/lang/Object;)Ljava/util/List;"), (3, .methodref 91 113), (0, .nameAndType 114 115), (0, u "listCopy"), (0, u "(Ljava/util/Collection;)Ljava/util/List;"), (3, u "()Ljava/util/List;"), (0, .class_ 121), (0, u "java/util/SequencedCollection"), (112, u "copyOf")] 16

def k6m0 : Method := { name := "size", desc := "()I", sig := { parameters := [], returnType := some .int }, accessFlags := 1025, code := none }
def k6m1 : Method := { name := "isEmpty", desc := "()Z", sig := { parameters := [], returnType := some .boolean }, accessFlags := 1025, code := none }
def k6m2 : Method := { name := "add", desc := "(Ljava/lang/Object;)Z", sig := { parameters := [(.object "java/lang/Object")], returnType := some .boolean }, accessFlags := 1025, code := none }
def k6c3 : Code := { maxStack := 1, maxLocals := 0, code := jdk_40_method_36_code, exceptionTable := #[], attributes := #[] }
def k6m3 : Method := { name := "of", desc := "()Ljava/util/List;", sig := { parameters := [], returnType := some (.object "java/util/List") }, accessFlags := 9, code := some k6c3 }
def k6c4 : Code := { maxStack := 5, maxLocals := 2, code := jdk_40_method_47_code, exceptionTable := #[], attributes := #[] }
def k6m4 : Method := { name := "of", desc := "([Ljava/lang/Object;)Ljava/util/List;", sig := { parameters := [(.array (.object "java/lang/Object"))], returnType := some (.object "java/util/List") }, accessFlags := 137, code := some k6c4 }
def k6c5 : Code := { maxStack := 1, maxLocals := 1, code := jdk_40_method_48_code, exceptionTable := #[], attributes := #[] }
def k6m5 : Method := { name := "copyOf", desc := "(Ljava/util/Collection;)Ljava/util/List;", sig := { parameters := [(.object "java/util/Collection")], returnType := some (.object "java/util/List") }, accessFlags := 9, code := some k6c5 }
/-- java/util/List -/
def k6 : Class := { plain "java/util/List" (some 0) with
  accessFlags := 1537
  interfaces := #[5]
  cf := some (fileOf pool6 8 #[] #[{ accessFlags := 1025, nameIndex := 79, descriptorIndex := 80, attributes := #[] }, { accessFlags := 1025, nameIndex := 67, descriptorIndex := 18, attributes := #[] }, { accessFlags := 1025, nameIndex := 60, descriptorIndex := 64, attributes := #[] }, { accessFlags := 9, nameIndex := 88, descriptorIndex := 119, attributes := #[] }, { accessFlags := 137, nameIndex := 88, descriptorIndex := 108, attributes := #[] }, { accessFlags := 9, nameIndex := 234, descriptorIndex := 115, attributes := #[] }] 1537 103 #[120] #[])
  fields := #[]
  methods := #[k6m0, k6m1, k6m2, k6m3, k6m4, k6m5]
  instanceTypes := #[]
  staticTypes := #[]
  resolved := Array.replicate 251 none
  statics := none }

def pool7 : Array CpInfo := pool [(1, .methodref 2 3), (0, .class_ 4), (0, .nameAndType 5 6), (0, u "java/util/AbstractCollection"), (0, u "<init>"), (0, u "()V"), (0, .fieldref 8 9), (0, .class_ 10), (0, .nameAndType 11 12), (0, u "java/util/AbstractList"), (0, u "modCount"), (0, u "I"), (64, .class_ 78), (0, u "java/util/AbstractList$Itr"), (3, .class_ 83), (0, u "java/util/AbstractList$ListItr"), (9, .class_ 94), (0, u "java/util/AbstractList$RandomAccessSubList"), (3, .class_ 99), (0, u "java/util/AbstractList$SubList"), (33, .class_ 134), (0, u "java/util/List"), (73, .class_ 209), (0, u "java/util/AbstractList$SubList$1"), (0, .class_ 211), (0, u "java/util/AbstractList$RandomAccessSpliterator")] 6

def k7c0 : Code := { maxStack := 2, maxLocals := 1, code := jdk_39_method_1_code, exceptionTable := #[], attributes := #[] }
def k7m0 : Method := { name := "<init>", desc := "()V", sig := { parameters := [], returnType := none }, accessFlags := 4, code := some k7c0 }
/-- java/util/AbstractList -/
def k7 : Class := { plain "java/util/AbstractList" (some 4) with
  accessFlags := 1057
  interfaces := #[6]
  cf := some (fileOf pool7 8 #[.nestMembers #[93, 98, 208, 210, 82, 77]] #[{ accessFlags := 4, nameIndex := 5, descriptorIndex := 6, attributes := #[] }] 1057 2 #[133] #[{ accessFlags := 132, nameIndex := 11, descriptorIndex := 12, attributes := #[] }])
  fields := #[{ name := "modCount", type := .int, accessFlags := 132, slot := 0, constantValue := 0 }]
  methods := #[k7m0]
  instanceTypes := #[.int]
  staticTypes := #[]
  resolved := Array.replicate 218 none
  statics := none }

def pool8 : Array CpInfo := pool [(1, .class_ 2), (0, u "java/util/RandomAccess"), (0, .class_ 4), (0, u "java/lang/Object")] 2

/-- java/util/RandomAccess -/
def k8 : Class := { plain "java/util/RandomAccess" (some 0) with
  accessFlags := 1537
  interfaces := #[]
  cf := some (fileOf pool8 1 #[] #[] 1537 3 #[] #[])
  fields := #[]
  methods := #[]
  instanceTypes := #[]
  staticTypes := #[]
  resolved := Array.replicate 7 none
  statics := none }

def pool9 : Array CpInfo := pool [(1, .class_ 2), (0, u "java/lang/Cloneable"), (0, .class_ 4), (0, u "java/lang/Object")] 2

/-- java/lang/Cloneable -/
def k9 : Class := { plain "java/lang/Cloneable" (some 0) with
  accessFlags := 1537
  interfaces := #[]
  cf := some (fileOf pool9 1 #[] #[] 1537 3 #[] #[])
  fields := #[]
  methods := #[]
  instanceTypes := #[]
  staticTypes := #[]
  resolved := Array.replicate 7 none
  statics := none }

def pool10 : Array CpInfo := pool [(1, .class_ 2), (0, u "java/io/Serializable"), (0, .class_ 4), (0, u "java/lang/Object")] 2

/-- java/io/Serializable -/
def k10 : Class := { plain "java/io/Serializable" (some 0) with
  accessFlags := 1537
  interfaces := #[]
  cf := some (fileOf pool10 1 #[] #[] 1537 3 #[] #[])
  fields := #[]
  methods := #[]
  instanceTypes := #[]
  staticTypes := #[]
  resolved := Array.replicate 7 none
  statics := none }

def pool11 : Array CpInfo := pool [(1, .methodref 2 3), (0, .class_ 4), (0, .nameAndType 5 6), (0, u "java/util/AbstractList"), (0, u "<init>"), (0, u "()V"), (0, .class_ 8), (0, u "java/lang/Object"), (0, .fieldref 10 11), (0, .class_ 12), (0, .nameAndType 13 14), (0, u "java/util/ArrayList"), (0, u "elementData"), (0, u "[Ljava/lang/Object;"), (2, u "EMPTY_ELEMENTDATA"), (21, .fieldref 10 40), (0, .nameAndType 41 14), (0, u "DEFAULTCAPACITY_EMPTY_ELEMENTDATA"), (4, u "toArray"), (0, u "()[Ljava/lang/Object;"), (0, .fieldref 10 49), (0, .nameAndType 50 51), (0, u "size"), (0, u "I"), (6, .class_ 60), (1, u "java/util/Arrays"), (0, u "copyOf"), (1, .fieldref 10 64), (0, .nameAndType 65 51), (0, u "modCount"), (0, .methodref 58 67), (0, .nameAndType 61 68), (0, u "([Ljava/lang/Object;I)[Ljava/lang/Object;"), (0, .methodref 10 70), (0, .nameAndType 71 72), (0, u "grow"), (0, u "(I)[Ljava/lang/Object;"), (6, .methodref 80 81), (0, .class_ 82), (0, .nameAndType 83 84), (0, u "java/lang/Math"), (0, u "max"), (0, u "(II)I"), (11, u "(Ljava/lang/Object;)Z"), (32, .methodref 10 130), (0, .nameAndType 71 47), (0, .methodref 10 132), (0, .nameAndType 133 134), (0, u "add"), (0, u "(Ljava/lang/Object;[Ljava/lang/Object;I)V"), (13, .class_ 149), (0, u "java/util/List"), (23, u "()Z"), (12, u "()I"), (75, .class_ 263), (0, u "java/util/ArrayList$ListItr"), (3, .class_ 268), (0, u "java/util/ArrayList$Itr"), (7, .class_ 277), (0, u "java/util/ArrayList$SubList"), (12, .class_ 291), (0, u "java/util/ArrayList$ArrayListSpliterator"), (37, .class_ 330), (0, u "java/util/RandomAccess"), (0, .class_ 332), (0, u "java/lang/Cloneable"), (0, .class_ 334), (0, u "java/io/Serializable"), (0, u "serialVersionUID"), (0, u "J"), (3, u "DEFAULT_CAPACITY"), (22, u "isEmpty"), (136, .class_ 501), (0, u "java/util/ArrayList$SubList$2"), (0, .class_ 503), (0, u "java/util/ArrayList$SubList$1")] 5

def k11c0 : Code := { maxStack := 2, maxLocals := 1, code := jdk_38_method_2_code, exceptionTable := #[], attributes := #[] }
def k11m0 : Method := { name := "<init>", desc := "()V", sig := { parameters := [], returnType := none }, accessFlags := 1, code := some k11c0 }
def k11c1 : Code := { maxStack := 4, maxLocals := 4, code := jdk_38_method_6_code, exceptionTable := #[], attributes := #[] }
def k11m1 : Method := { name := "grow", desc := "(I)[Ljava/lang/Object;", sig := { parameters := [.int], returnType := some (.array (.object "java/lang/Object")) }, accessFlags := 2, code := some k11c1 }
def k11c2 : Code := { maxStack := 3, maxLocals := 1, code := jdk_38_method_7_code, exceptionTable := #[], attributes := #[] }
def k11m2 : Method := { name := "grow", desc := "()[Ljava/lang/Object;", sig := { parameters := [], returnType := some (.array (.object "java/lang/Object")) }, accessFlags := 2, code := some k11c2 }
def k11c3 : Code := { maxStack := 1, maxLocals := 1, code := jdk_38_method_8_code, exceptionTable := #[], attributes := #[] }
def k11m3 : Method := { name := "size", desc := "()I", sig := { parameters := [], returnType := some .int }, accessFlags := 1, code := some k11c3 }
def k11c4 : Code := { maxStack := 1, maxLocals := 1, code := jdk_38_method_9_code, exceptionTable := #[], attributes := #[] }
def k11m4 : Method := { name := "isEmpty", desc := "()Z", sig := { parameters := [], returnType := some .boolean }, accessFlags := 1, code := some k11c4 }
def k11c5 : Code := { maxStack := 2, maxLocals := 1, code := jdk_38_method_16_code, exceptionTable := #[], attributes := #[] }
def k11m5 : Method := { name := "toArray", desc := "()[Ljava/lang/Object;", sig := { parameters := [], returnType := some (.array (.object "java/lang/Object")) }, accessFlags := 1, code := some k11c5 }
def k11c6 : Code := { maxStack := 3, maxLocals := 4, code := jdk_38_method_24_code, exceptionTable := #[], attributes := #[] }
def k11m6 : Method := { name := "add", desc := "(Ljava/lang/Object;[Ljava/lang/Object;I)V", sig := { parameters := [(.object "java/lang/Object"), (.array (.object "java/lang/Object")), .int], returnType := none }, accessFlags := 2, code := some k11c6 }
def k11c7 : Code := { maxStack := 4, maxLocals := 2, code := jdk_38_method_25_code, exceptionTable := #[], attributes := #[] }
def k11m7 : Method := { name := "add", desc := "(Ljava/lang/Object;)Z", sig := { parameters := [(.object "java/lang/Object")], returnType := some .boolean }, accessFlags := 1, code := some k11c7 }
/-- java/util/ArrayList -/
def k11 : Class := { plain "java/util/ArrayList" (some 7) with
  accessFlags := 33
  interfaces := #[6, 8, 9, 10]
  cf := some (fileOf pool11 10 #[.nestMembers #[290, 276, 500, 502, 262, 267]] #[{ accessFlags := 1, nameIndex := 5, descriptorIndex := 6, attributes := #[] }, { accessFlags := 2, nameIndex := 71, descriptorIndex := 72, attributes := #[] }, { accessFlags := 2, nameIndex := 71, descriptorIndex := 47, attributes := #[] }, { accessFlags := 1, nameIndex := 50, descriptorIndex := 186, attributes := #[] }, { accessFlags := 1, nameIndex := 363, descriptorIndex := 173, attributes := #[] }, { accessFlags := 1, nameIndex := 46, descriptorIndex := 47, attributes := #[] }, { accessFlags := 2, nameIndex := 133, descriptorIndex := 134, attributes := #[] }, { accessFlags := 1, nameIndex := 133, descriptorIndex := 96, attributes := #[] }] 33 2 #[148, 329, 331, 333] #[{ accessFlags := 26, nameIndex := 335, descriptorIndex := 336, attributes := #[] }, { accessFlags := 26, nameIndex := 340, descriptorIndex := 51, attributes := #[] }, { accessFlags := 26, nameIndex := 17, descriptorIndex := 14, attributes := #[] }, { accessFlags := 26, nameIndex := 41, descriptorIndex := 14, attributes := #[] }, { accessFlags := 128, nameIndex := 13, descriptorIndex := 14, attributes := #[] }, { accessFlags := 2, nameIndex := 50, descriptorIndex := 51, attributes := #[] }])
  fields := #[{ name := "serialVersionUID", type := .long, accessFlags := 26, slot := 0, constantValue := 0 }, { name := "DEFAULT_CAPACITY", type := .int, accessFlags := 26, slot := 1, constantValue := 0 }, { name := "EMPTY_ELEMENTDATA", type := (.array (.object "java/lang/Object")), accessFlags := 26, slot := 2, constantValue := 0 }, { name := "DEFAULTCAPACITY_EMPTY_ELEMENTDATA", type := (.array (.object "java/lang/Object")), accessFlags := 26, slot := 3, constantValue := 0 }, { name := "elementData", type := (.array (.object "java/lang/Object")), accessFlags := 128, slot := 1, constantValue := 0 }, { name := "size", type := .int, accessFlags := 2, slot := 2, constantValue := 0 }]
  methods := #[k11m0, k11m1, k11m2, k11m3, k11m4, k11m5, k11m6, k11m7]
  instanceTypes := #[.int, (.array (.object "java/lang/Object")), .int]
  staticTypes := #[.long, .int, (.array (.object "java/lang/Object")), (.array (.object "java/lang/Object"))]
  resolved := Array.replicate 509 none
  statics := some 0 }

def pool12 : Array CpInfo := pool [(2, .class_ 4), (1, u "java/lang/Object"), (0, u "<init>"), (0, u "()V"), (1, .class_ 10), (1, u "java/lang/Number"), (2, .class_ 14), (0, u "java/io/Serializable"), (0, u "serialVersionUID"), (0, u "J")] 20

def k12m0 : Method := { name := "<init>", desc := "()V", sig := { parameters := [], returnType := none }, accessFlags := 1, code := none }
/-- java/lang/Number -/
def k12 : Class := { plain "java/lang/Number" (some 0) with
  accessFlags := 1057
  interfaces := #[10]
  cf := some (fileOf pool12 8 #[] #[{ accessFlags := 1, nameIndex := 5, descriptorIndex := 6, attributes := #[] }] 1057 2 #[13] #[{ accessFlags := 26, nameIndex := 15, descriptorIndex := 16, attributes := #[] }])
  fields := #[{ name := "serialVersionUID", type := .long, accessFlags := 26, slot := 0, constantValue := 0 }]
  methods := #[k12m0]
  instanceTypes := #[]
  staticTypes := #[.long]
  resolved := Array.replicate 37 none
  statics := none }

def pool13 : Array CpInfo := pool [(1, .class_ 2), (0, u "java/lang/Comparable"), (0, .class_ 4), (0, u "java/lang/Object")] 7

/-- java/lang/Comparable -/
def k13 : Class := { plain "java/lang/Comparable" (some 0) with
  accessFlags := 1537
  interfaces := #[]
  cf := some (fileOf pool13 1 #[] #[] 1537 3 #[] #[])
  fields := #[]
  methods := #[]
  instanceTypes := #[]
  staticTypes := #[]
  resolved := Array.replicate 12 none
  statics := none }

def pool14 : Array CpInfo := pool [(1, .class_ 2), (0, u "java/lang/constant/Constable"), (0, .class_ 4), (0, u "java/lang/Object")] 6

/-- java/lang/constant/Constable -/
def k14 : Class := { plain "java/lang/constant/Constable" (some 0) with
  accessFlags := 1537
  interfaces := #[]
  cf := some (fileOf pool14 1 #[] #[] 1537 3 #[] #[])
  fields := #[]
  methods := #[]
  instanceTypes := #[]
  staticTypes := #[]
  resolved := Array.replicate 11 none
  statics := none }

def pool15 : Array CpInfo := pool [(1, .class_ 2), (0, u "java/lang/constant/ConstantDesc"), (0, .class_ 4), (0, u "java/lang/Object")] 32

/-- java/lang/constant/ConstantDesc -/
def k15 : Class := { plain "java/lang/constant/ConstantDesc" (some 0) with
  accessFlags := 1537
  interfaces := #[]
  cf := some (fileOf pool15 1 #[] #[] 1537 3 #[] #[])
  fields := #[]
  methods := #[]
  instanceTypes := #[]
  staticTypes := #[]
  resolved := Array.replicate 37 none
  statics := none }

def pool16 : Array CpInfo := pool [(1, .class_ 2), (0, u "java/lang/Integer"), (16, u "digits"), (0, u "[C"), (64, u "DigitOnes"), (0, u "[B"), (2, u "DigitTens"), (97, u "valueOf"), (0, u "(I)Ljava/lang/Integer;"), (0, .class_ 190), (0, u "java/lang/Integer$IntegerCache"), (0, .fieldref 189 192), (0, .nameAndType 193 194), (0, u "high"), (0, u "I"), (0, .fieldref 189 196), (0, .nameAndType 197 198), (0, u "cache"), (0, u "[Ljava/lang/Integer;"), (4, .class_ 204), (0, u "java/lang/Number"), (2, u "value"), (94, u "TYPE"), (0, u "Ljava/lang/Class;"), (0, .class_ 305), (0, u "java/lang/Comparable"), (0, .class_ 307), (0, u "java/lang/constant/Constable"), (0, .class_ 309), (0, u "java/lang/constant/ConstantDesc"), (0, u "MIN_VALUE"), (1, u "MAX_VALUE"), (3, u "SIZE"), (1, u "BYTES"), (1, u "serialVersionUID"), (0, u "J")] 131

def k16c0 : Code := { maxStack := 3, maxLocals := 1, code := jdk_33_method_22_code, exceptionTable := #[], attributes := #[] }
def k16m0 : Method := { name := "valueOf", desc := "(I)Ljava/lang/Integer;", sig := { parameters := [.int], returnType := some (.object "java/lang/Integer") }, accessFlags := 9, code := some k16c0 }
/-- java/lang/Integer -/
def k16 : Class := { plain "java/lang/Integer" (some 12) with
  accessFlags := 49
  interfaces := #[13, 14, 15]
  cf := some (fileOf pool16 1 #[.nestMembers #[189]] #[{ accessFlags := 9, nameIndex := 187, descriptorIndex := 188, attributes := #[] }] 49 203 #[304, 306, 308] #[{ accessFlags := 25, nameIndex := 310, descriptorIndex := 194, attributes := #[] }, { accessFlags := 25, nameIndex := 312, descriptorIndex := 194, attributes := #[] }, { accessFlags := 25, nameIndex := 302, descriptorIndex := 303, attributes := #[] }, { accessFlags := 24, nameIndex := 19, descriptorIndex := 20, attributes := #[] }, { accessFlags := 24, nameIndex := 89, descriptorIndex := 86, attributes := #[] }, { accessFlags := 24, nameIndex := 85, descriptorIndex := 86, attributes := #[] }, { accessFlags := 18, nameIndex := 207, descriptorIndex := 194, attributes := #[] }, { accessFlags := 25, nameIndex := 316, descriptorIndex := 194, attributes := #[] }, { accessFlags := 25, nameIndex := 318, descriptorIndex := 194, attributes := #[] }, { accessFlags := 26, nameIndex := 320, descriptorIndex := 321, attributes := #[] }])
  fields := #[{ name := "MIN_VALUE", type := .int, accessFlags := 25, slot := 0, constantValue := 0 }, { name := "MAX_VALUE", type := .int, accessFlags := 25, slot := 1, constantValue := 0 }, { name := "TYPE", type := (.object "java/lang/Class"), accessFlags := 25, slot := 2, constantValue := 0 }, { name := "digits", type := (.array .char), accessFlags := 24, slot := 3, constantValue := 0 }, { name := "DigitTens", type := (.array .byte), accessFlags := 24, slot := 4, constantValue := 0 }, { name := "DigitOnes", type := (.array .byte), accessFlags := 24, slot := 5, constantValue := 0 }, { name := "value", type := .int, accessFlags := 18, slot := 0, constantValue := 0 }, { name := "SIZE", type := .int, accessFlags := 25, slot := 6, constantValue := 0 }, { name := "BYTES", type := .int, accessFlags := 25, slot := 7, constantValue := 0 }, { name := "serialVersionUID", type := .long, accessFlags := 26, slot := 8, constantValue := 0 }]
  methods := #[k16m0]
  instanceTypes := #[.int]
  staticTypes := #[.int, .int, (.object "java/lang/Class"), (.array .char), (.array .byte), (.array .byte), .int, .int, .long]
  resolved := Array.replicate 453 none
  statics := none }

def pool17 : Array CpInfo := pool [(2, .class_ 4), (1, u "java/lang/Object"), (0, u "<init>"), (0, u "()V"), (0, .class_ 8), (0, u "java/lang/Integer"), (7, .class_ 18), (1, u "java/lang/Integer$IntegerCache"), (0, u "$assertionsDisabled"), (0, u "Z"), (26, u "high"), (0, u "I"), (8, u "archivedCache"), (0, u "[Ljava/lang/Integer;"), (12, u "cache"), (0, u "low")] 27

def k17m0 : Method := { name := "<init>", desc := "()V", sig := { parameters := [], returnType := none }, accessFlags := 2, code := none }
/-- java/lang/Integer$IntegerCache -/
def k17 : Class := { plain "java/lang/Integer$IntegerCache" (some 0) with
  accessFlags := 48
  interfaces := #[]
  cf := some (fileOf pool17 16 #[.nestHost 7] #[{ accessFlags := 2, nameIndex := 5, descriptorIndex := 6, attributes := #[] }] 48 2 #[] #[{ accessFlags := 24, nameIndex := 72, descriptorIndex := 48, attributes := #[] }, { accessFlags := 24, nameIndex := 47, descriptorIndex := 48, attributes := #[] }, { accessFlags := 24, nameIndex := 71, descriptorIndex := 58, attributes := #[] }, { accessFlags := 8, nameIndex := 57, descriptorIndex := 58, attributes := #[] }, { accessFlags := 4120, nameIndex := 19, descriptorIndex := 20, attributes := #[] }])
  fields := #[{ name := "low", type := .int, accessFlags := 24, slot := 0, constantValue := 0 }, { name := "high", type := .int, accessFlags := 24, slot := 1, constantValue := 0 }, { name := "cache", type := (.array (.object "java/lang/Integer")), accessFlags := 24, slot := 2, constantValue := 0 }, { name := "archivedCache", type := (.array (.object "java/lang/Integer")), accessFlags := 8, slot := 3, constantValue := 0 }, { name := "$assertionsDisabled", type := .boolean, accessFlags := 4120, slot := 4, constantValue := 0 }]
  methods := #[k17m0]
  instanceTypes := #[]
  staticTypes := #[.int, .int, (.array (.object "java/lang/Integer")), (.array (.object "java/lang/Integer")), .boolean]
  resolved := Array.replicate 100 none
  statics := some 1 }

def pool18 : Array CpInfo := pool [(1, .class_ 2), (0, u "java/lang/Math"), (1, .class_ 6), (1, u "java/lang/Object"), (0, u "<init>"), (0, u "()V"), (89, .class_ 100), (1, u "java/lang/Math$RandomNumberGeneratorHolder"), (71, u "negativeZeroFloatBits"), (0, u "J"), (2, u "negativeZeroDoubleBits"), (21, u "max"), (2, u "min"), (43, u "$assertionsDisabled"), (0, u "Z"), (88, u "(II)I"), (2, u "twoToTheDoubleScaleDown"), (0, u "D"), (4, u "twoToTheDoubleScaleUp"), (9, u "E"), (3, u "PI"), (2, u "TAU"), (2, u "DEGREES_TO_RADIANS"), (0, u "RADIANS_TO_DEGREES")] 94

def k18m0 : Method := { name := "<init>", desc := "()V", sig := { parameters := [], returnType := none }, accessFlags := 2, code := none }
def k18c1 : Code := { maxStack := 2, maxLocals := 2, code := jdk_29_method_65_code, exceptionTable := #[], attributes := #[] }
def k18m1 : Method := { name := "max", desc := "(II)I", sig := { parameters := [.int, .int], returnType := some .int }, accessFlags := 9, code := some k18c1 }
def k18c2 : Code := { maxStack := 2, maxLocals := 2, code := jdk_29_method_69_code, exceptionTable := #[], attributes := #[] }
def k18m2 : Method := { name := "min", desc := "(II)I", sig := { parameters := [.int, .int], returnType := some .int }, accessFlags := 9, code := some k18c2 }
/-- java/lang/Math -/
def k18 : Class := { plain "java/lang/Math" (some 0) with
  accessFlags := 49
  interfaces := #[]
  cf := some (fileOf pool18 1 #[.nestMembers #[98]] #[{ accessFlags := 2, nameIndex := 7, descriptorIndex := 8, attributes := #[] }, { accessFlags := 9, nameIndex := 198, descriptorIndex := 335, attributes := #[] }, { accessFlags := 9, nameIndex := 201, descriptorIndex := 335, attributes := #[] }] 49 4 #[] #[{ accessFlags := 25, nameIndex := 354, descriptorIndex := 339, attributes := #[] }, { accessFlags := 25, nameIndex := 358, descriptorIndex := 339, attributes := #[] }, { accessFlags := 25, nameIndex := 361, descriptorIndex := 339, attributes := #[] }, { accessFlags := 26, nameIndex := 364, descriptorIndex := 339, attributes := #[] }, { accessFlags := 26, nameIndex := 365, descriptorIndex := 339, attributes := #[] }, { accessFlags := 26, nameIndex := 172, descriptorIndex := 173, attributes := #[] }, { accessFlags := 26, nameIndex := 176, descriptorIndex := 173, attributes := #[] }, { accessFlags := 8, nameIndex := 344, descriptorIndex := 339, attributes := #[] }, { accessFlags := 8, nameIndex := 338, descriptorIndex := 339, attributes := #[] }, { accessFlags := 4120, nameIndex := 245, descriptorIndex := 246, attributes := #[] }])
  fields := #[{ name := "E", type := .double, accessFlags := 25, slot := 0, constantValue := 0 }, { name := "PI", type := .double, accessFlags := 25, slot := 1, constantValue := 0 }, { name := "TAU", type := .double, accessFlags := 25, slot := 2, constantValue := 0 }, { name := "DEGREES_TO_RADIANS", type := .double, accessFlags := 26, slot := 3, constantValue := 0 }, { name := "RADIANS_TO_DEGREES", type := .double, accessFlags := 26, slot := 4, constantValue := 0 }, { name := "negativeZeroFloatBits", type := .long, accessFlags := 26, slot := 5, constantValue := 0 }, { name := "negativeZeroDoubleBits", type := .long, accessFlags := 26, slot := 6, constantValue := 0 }, { name := "twoToTheDoubleScaleUp", type := .double, accessFlags := 8, slot := 7, constantValue := 0 }, { name := "twoToTheDoubleScaleDown", type := .double, accessFlags := 8, slot := 8, constantValue := 0 }, { name := "$assertionsDisabled", type := .boolean, accessFlags := 4120, slot := 9, constantValue := 0 }]
  methods := #[k18m0, k18m1, k18m2]
  instanceTypes := #[]
  staticTypes := #[.double, .double, .double, .double, .double, .long, .long, .double, .double, .boolean]
  resolved := Array.replicate 460 none
  statics := none }

def pool19 : Array CpInfo := pool [(1, .methodref 2 3), (0, .class_ 4), (0, .nameAndType 5 6), (0, u "java/lang/Object"), (0, u "<init>"), (0, u "()V"), (0, .class_ 8), (0, u "java/lang/Record")] 13

def k19c0 : Code := { maxStack := 1, maxLocals := 1, code := jdk_30_method_1_code, exceptionTable := #[], attributes := #[] }
def k19m0 : Method := { name := "<init>", desc := "()V", sig := { parameters := [], returnType := none }, accessFlags := 4, code := some k19c0 }
/-- java/lang/Record -/
def k19 : Class := { plain "java/lang/Record" (some 0) with
  accessFlags := 1057
  interfaces := #[]
  cf := some (fileOf pool19 7 #[] #[{ accessFlags := 4, nameIndex := 5, descriptorIndex := 6, attributes := #[] }] 1057 2 #[] #[])
  fields := #[]
  methods := #[k19m0]
  instanceTypes := #[]
  staticTypes := #[]
  resolved := Array.replicate 22 none
  statics := none }

def pool20 : Array CpInfo := pool [(1, .methodref 2 3), (0, .class_ 4), (0, .nameAndType 5 6), (0, u "java/lang/Record"), (0, u "<init>"), (0, u "()V"), (0, .interfaceMethodref 8 9), (0, .class_ 10), (0, .nameAndType 11 12), (0, u "java/util/List"), (0, u "copyOf"), (0, u "(Ljava/util/Collection;)Ljava/util/List;"), (0, .fieldref 14 15), (0, .class_ 16), (0, .nameAndType 17 18), (0, u "com/example/reweave/reweave/control/Point"), (0, u "kind"), (0, u "Lcom/example/reweave/reweave/control/Point$Kind;"), (0, .fieldref 14 20), (0, .nameAndType 21 22), (0, u "thread"), (0, u "I"), (0, .fieldref 14 24), (0, .nameAndType 25 26), (0, u "location"), (0, u "Lcom/example/reweave/reweave/control/Location;"), (0, .fieldref 14 28), (0, .nameAndType 29 30), (0, u "runnable"), (0, u "Ljava/util/List;"), (0, .fieldref 14 32), (0, .nameAndType 33 30), (0, u "timeOuts"), (0, .interfaceMethodref 8 35), (0, .nameAndType 36 37), (0, u "of"), (0, u "()Ljava/util/List;"), (0, .methodref 14 39), (0, .nameAndType 5 40), (0, u "(Lcom/example/reweave/reweave/control/Point$Kind;ILcom/example/reweave/reweave/control/Location;Ljava/util/List;Ljava/util/List;)V"), (1, .class_ 44), (1, u "com/example/reweave/reweave/control/Point$Kind"), (26, u "()I"), (70, u "(Lcom/example/reweave/reweave/control/Point$Kind;ILcom/example/reweave/reweave/control/Location;Ljava/util/List;)V"), (9, u "()Lcom/example/reweave/reweave/control/Point$Kind;"), (0, u "()Lcom/example/reweave/reweave/control/Location;")] 53

def k20c0 : Code := { maxStack := 2, maxLocals := 6, code := prog_53_method_1_code, exceptionTable := #[], attributes := #[] }
def k20m0 : Method := { name := "<init>", desc := "(Lcom/example/reweave/reweave/control/Point$Kind;ILcom/example/reweave/reweave/control/Location;Ljava/util/List;Ljava/util/List;)V", sig := { parameters := [(.object "com/example/reweave/reweave/control/Point$Kind"), .int, (.object "com/example/reweave/reweave/control/Location"), (.object "java/util/List"), (.object "java/util/List")], returnType := none }, accessFlags := 1, code := some k20c0 }
def k20c1 : Code := { maxStack := 6, maxLocals := 5, code := prog_53_method_2_code, exceptionTable := #[], attributes := #[] }
def k20m1 : Method := { name := "<init>", desc := "(Lcom/example/reweave/reweave/control/Point$Kind;ILcom/example/reweave/reweave/control/Location;Ljava/util/List;)V", sig := { parameters := [(.object "com/example/reweave/reweave/control/Point$Kind"), .int, (.object "com/example/reweave/reweave/control/Location"), (.object "java/util/List")], returnType := none }, accessFlags := 1, code := some k20c1 }
def k20c2 : Code := { maxStack := 1, maxLocals := 1, code := prog_53_method_11_code, exceptionTable := #[], attributes := #[] }
def k20m2 : Method := { name := "kind", desc := "()Lcom/example/reweave/reweave/control/Point$Kind;", sig := { parameters := [], returnType := some (.object "com/example/reweave/reweave/control/Point$Kind") }, accessFlags := 1, code := some k20c2 }
def k20c3 : Code := { maxStack := 1, maxLocals := 1, code := prog_53_method_12_code, exceptionTable := #[], attributes := #[] }
def k20m3 : Method := { name := "thread", desc := "()I", sig := { parameters := [], returnType := some .int }, accessFlags := 1, code := some k20c3 }
def k20c4 : Code := { maxStack := 1, maxLocals := 1, code := prog_53_method_13_code, exceptionTable := #[], attributes := #[] }
def k20m4 : Method := { name := "location", desc := "()Lcom/example/reweave/reweave/control/Location;", sig := { parameters := [], returnType := some (.object "com/example/reweave/reweave/control/Location") }, accessFlags := 1, code := some k20c4 }
def k20c5 : Code := { maxStack := 1, maxLocals := 1, code := prog_53_method_14_code, exceptionTable := #[], attributes := #[] }
def k20m5 : Method := { name := "runnable", desc := "()Ljava/util/List;", sig := { parameters := [], returnType := some (.object "java/util/List") }, accessFlags := 1, code := some k20c5 }
def k20c6 : Code := { maxStack := 1, maxLocals := 1, code := prog_53_method_15_code, exceptionTable := #[], attributes := #[] }
def k20m6 : Method := { name := "timeOuts", desc := "()Ljava/util/List;", sig := { parameters := [], returnType := some (.object "java/util/List") }, accessFlags := 1, code := some k20c6 }
/-- com/example/reweave/reweave/control/Point -/
def k20 : Class := { plain "com/example/reweave/reweave/control/Point" (some 19) with
  accessFlags := 49
  interfaces := #[]
  cf := some (fileOf pool20 14 #[.nestMembers #[42]] #[{ accessFlags := 1, nameIndex := 5, descriptorIndex := 40, attributes := #[] }, { accessFlags := 1, nameIndex := 5, descriptorIndex := 142, attributes := #[] }, { accessFlags := 1, nameIndex := 17, descriptorIndex := 152, attributes := #[] }, { accessFlags := 1, nameIndex := 21, descriptorIndex := 71, attributes := #[] }, { accessFlags := 1, nameIndex := 25, descriptorIndex := 153, attributes := #[] }, { accessFlags := 1, nameIndex := 29, descriptorIndex := 37, attributes := #[] }, { accessFlags := 1, nameIndex := 33, descriptorIndex := 37, attributes := #[] }] 49 2 #[] #[{ accessFlags := 18, nameIndex := 17, descriptorIndex := 18, attributes := #[] }, { accessFlags := 18, nameIndex := 21, descriptorIndex := 22, attributes := #[] }, { accessFlags := 18, nameIndex := 25, descriptorIndex := 26, attributes := #[] }, { accessFlags := 18, nameIndex := 29, descriptorIndex := 30, attributes := #[] }, { accessFlags := 18, nameIndex := 33, descriptorIndex := 30, attributes := #[] }])
  fields := #[{ name := "kind", type := (.object "com/example/reweave/reweave/control/Point$Kind"), accessFlags := 18, slot := 0, constantValue := 0 }, { name := "thread", type := .int, accessFlags := 18, slot := 1, constantValue := 0 }, { name := "location", type := (.object "com/example/reweave/reweave/control/Location"), accessFlags := 18, slot := 2, constantValue := 0 }, { name := "runnable", type := (.object "java/util/List"), accessFlags := 18, slot := 3, constantValue := 0 }, { name := "timeOuts", type := (.object "java/util/List"), accessFlags := 18, slot := 4, constantValue := 0 }]
  methods := #[k20m0, k20m1, k20m2, k20m3, k20m4, k20m5, k20m6]
  instanceTypes := #[(.object "com/example/reweave/reweave/control/Point$Kind"), .int, (.object "com/example/reweave/reweave/control/Location"), (.object "java/util/List"), (.object "java/util/List")]
  staticTypes := #[]
  resolved := Array.replicate 207 none
  statics := none }

def pool21 : Array CpInfo := pool [(2, .class_ 4), (1, u "java/lang/Enum"), (0, u "name"), (0, u "Ljava/lang/String;"), (0, .fieldref 2 8), (0, .nameAndType 9 10), (0, u "ordinal"), (0, u "I"), (1, .class_ 14), (1, u "java/lang/Object"), (4, u "hash"), (86, .class_ 108), (1, u "java/lang/Enum$EnumDesc"), (2, .class_ 112), (0, u "java/lang/constant/Constable"), (0, .class_ 114), (0, u "java/lang/Comparable"), (0, .class_ 116), (0, u "java/io/Serializable"), (9, u "()I")] 77

def k21c0 : Code := { maxStack := 1, maxLocals := 1, code := jdk_37_method_2_code, exceptionTable := #[], attributes := #[] }
def k21m0 : Method := { name := "ordinal", desc := "()I", sig := { parameters := [], returnType := some .int }, accessFlags := 17, code := some k21c0 }
/-- java/lang/Enum -/
def k21 : Class := { plain "java/lang/Enum" (some 0) with
  accessFlags := 1057
  interfaces := #[14, 13, 10]
  cf := some (fileOf pool21 2 #[.nestMembers #[106]] #[{ accessFlags := 17, nameIndex := 9, descriptorIndex := 126, attributes := #[] }] 1057 12 #[111, 113, 115] #[{ accessFlags := 18, nameIndex := 5, descriptorIndex := 6, attributes := #[] }, { accessFlags := 18, nameIndex := 9, descriptorIndex := 10, attributes := #[] }, { accessFlags := 2, nameIndex := 19, descriptorIndex := 10, attributes := #[] }])
  fields := #[{ name := "name", type := (.object "java/lang/String"), accessFlags := 18, slot := 0, constantValue := 0 }, { name := "ordinal", type := .int, accessFlags := 18, slot := 1, constantValue := 0 }, { name := "hash", type := .int, accessFlags := 2, slot := 2, constantValue := 0 }]
  methods := #[k21m0]
  instanceTypes := #[(.object "java/lang/String"), .int, .int]
  staticTypes := #[]
  resolved := Array.replicate 204 none
  statics := none }

def pool22 : Array CpInfo := pool [(1, .class_ 2), (0, u "com/example/reweave/reweave/control/Point$Kind"), (2, u "RELEASE"), (0, u "Lcom/example/reweave/reweave/control/Point$Kind;"), (2, u "START"), (2, u "END"), (2, u "BLOCKED"), (2, u "WAIT"), (2, u "JOIN"), (2, u "INIT"), (2, u "PREEMPT"), (2, u "CALL"), (2, u "SLEEP"), (2, u "YIELD"), (2, u "EXIT"), (2, u "SPIN"), (2, u "UNCONTROLLED"), (2, u "$VALUES"), (0, u "[Lcom/example/reweave/reweave/control/Point$Kind;"), (6, .class_ 58), (1, u "java/lang/Enum"), (8, u "phrase"), (0, u "Ljava/lang/String;"), (63, .class_ 133), (0, u "com/example/reweave/reweave/control/Point")] 2

/-- com/example/reweave/reweave/control/Point$Kind -/
def k22 : Class := { plain "com/example/reweave/reweave/control/Point$Kind" (some 21) with
  accessFlags := 16433
  interfaces := #[]
  cf := some (fileOf pool22 1 #[.nestHost 132] #[] 16433 56 #[] #[{ accessFlags := 16409, nameIndex := 5, descriptorIndex := 6, attributes := #[] }, { accessFlags := 16409, nameIndex := 9, descriptorIndex := 6, attributes := #[] }, { accessFlags := 16409, nameIndex := 12, descriptorIndex := 6, attributes := #[] }, { accessFlags := 16409, nameIndex := 15, descriptorIndex := 6, attributes := #[] }, { accessFlags := 16409, nameIndex := 18, descriptorIndex := 6, attributes := #[] }, { accessFlags := 16409, nameIndex := 21, descriptorIndex := 6, attributes := #[] }, { accessFlags := 16409, nameIndex := 24, descriptorIndex := 6, attributes := #[] }, { accessFlags := 16409, nameIndex := 27, descriptorIndex := 6, attributes := #[] }, { accessFlags := 16409, nameIndex := 30, descriptorIndex := 6, attributes := #[] }, { accessFlags := 16409, nameIndex := 33, descriptorIndex := 6, attributes := #[] }, { accessFlags := 16409, nameIndex := 36, descriptorIndex := 6, attributes := #[] }, { accessFlags := 16409, nameIndex := 39, descriptorIndex := 6, attributes := #[] }, { accessFlags := 16409, nameIndex := 42, descriptorIndex := 6, attributes := #[] }, { accessFlags := 16409, nameIndex := 45, descriptorIndex := 6, attributes := #[] }, { accessFlags := 18, nameIndex := 67, descriptorIndex := 68, attributes := #[] }, { accessFlags := 4122, nameIndex := 48, descriptorIndex := 49, attributes := #[] }])
  fields := #[{ name := "RELEASE", type := (.object "com/example/reweave/reweave/control/Point$Kind"), accessFlags := 16409, slot := 0, constantValue := 0 }, { name := "START", type := (.object "com/example/reweave/reweave/control/Point$Kind"), accessFlags := 16409, slot := 1, constantValue := 0 }, { name := "END", type := (.object "com/example/reweave/reweave/control/Point$Kind"), accessFlags := 16409, slot := 2, constantValue := 0 }, { name := "BLOCKED", type := (.object "com/example/reweave/reweave/control/Point$Kind"), accessFlags := 16409, slot := 3, constantValue := 0 }, { name := "WAIT", type := (.object "com/example/reweave/reweave/control/Point$Kind"), accessFlags := 16409, slot := 4, constantValue := 0 }, { name := "JOIN", type := (.object "com/example/reweave/reweave/control/Point$Kind"), accessFlags := 16409, slot := 5, constantValue := 0 }, { name := "INIT", type := (.object "com/example/reweave/reweave/control/Point$Kind"), accessFlags := 16409, slot := 6, constantValue := 0 }, { name := "PREEMPT", type := (.object "com/example/reweave/reweave/control/Point$Kind"), accessFlags := 16409, slot := 7, constantValue := 0 }, { name := "CALL", type := (.object "com/example/reweave/reweave/control/Point$Kind"), accessFlags := 16409, slot := 8, constantValue := 0 }, { name := "SLEEP", type := (.object "com/example/reweave/reweave/control/Point$Kind"), accessFlags := 16409, slot := 9, constantValue := 0 }, { name := "YIELD", type := (.object "com/example/reweave/reweave/control/Point$Kind"), accessFlags := 16409, slot := 10, constantValue := 0 }, { name := "EXIT", type := (.object "com/example/reweave/reweave/control/Point$Kind"), accessFlags := 16409, slot := 11, constantValue := 0 }, { name := "SPIN", type := (.object "com/example/reweave/reweave/control/Point$Kind"), accessFlags := 16409, slot := 12, constantValue := 0 }, { name := "UNCONTROLLED", type := (.object "com/example/reweave/reweave/control/Point$Kind"), accessFlags := 16409, slot := 13, constantValue := 0 }, { name := "phrase", type := (.object "java/lang/String"), accessFlags := 18, slot := 3, constantValue := 0 }, { name := "$VALUES", type := (.array (.object "com/example/reweave/reweave/control/Point$Kind")), accessFlags := 4122, slot := 14, constantValue := 0 }]
  methods := #[]
  instanceTypes := #[(.object "java/lang/String"), .int, .int, (.object "java/lang/String")]
  staticTypes := #[(.object "com/example/reweave/reweave/control/Point$Kind"), (.object "com/example/reweave/reweave/control/Point$Kind"), (.object "com/example/reweave/reweave/control/Point$Kind"), (.object "com/example/reweave/reweave/control/Point$Kind"), (.object "com/example/reweave/reweave/control/Point$Kind"), (.object "com/example/reweave/reweave/control/Point$Kind"), (.object "com/example/reweave/reweave/control/Point$Kind"), (.object "com/example/reweave/reweave/control/Point$Kind"), (.object "com/example/reweave/reweave/control/Point$Kind"), (.object "com/example/reweave/reweave/control/Point$Kind"), (.object "com/example/reweave/reweave/control/Point$Kind"), (.object "com/example/reweave/reweave/control/Point$Kind"), (.object "com/example/reweave/reweave/control/Point$Kind"), (.object "com/example/reweave/reweave/control/Point$Kind"), (.array (.object "com/example/reweave/reweave/control/Point$Kind"))]
  resolved := Array.replicate 136 none
  statics := some 2 }

def pool23 : Array CpInfo := pool [(2, .class_ 4), (1, u "java/lang/Object"), (0, u "<init>"), (0, u "()V"), (3, .class_ 11), (0, u "java/util/ImmutableCollections$List12"), (0, .class_ 13), (0, u "java/util/ImmutableCollections$ListN"), (0, .fieldref 12 15), (0, .nameAndType 16 17), (0, u "allowNulls"), (0, u "Z"), (0, .class_ 19), (0, u "java/util/List"), (0, .interfaceMethodref 21 22), (0, .class_ 23), (0, .nameAndType 24 25), (0, u "java/util/Collection"), (0, u "isEmpty"), (0, u "()Z"), (2, u "of"), (1, .interfaceMethodref 21 31), (0, .nameAndType 32 33), (0, u "toArray"), (0, u "()[Ljava/lang/Object;"), (0, .interfaceMethodref 18 35), (0, .nameAndType 28 36), (0, u "([Ljava/lang/Object;)Ljava/util/List;"), (10, .class_ 49), (1, u "java/util/ImmutableCollections"), (0, u "$assertionsDisabled"), (5, u "[Ljava/lang/Object;"), (5, u "EMPTY_LIST"), (0, u "Ljava/util/ImmutableCollections$ListN;"), (8, u "EMPTY_LIST_NULLS"), (22, u "SALT32L"), (0, u "J"), (2, u "REVERSE"), (6, u "archivedObjects"), (2, u "EMPTY"), (0, u "Ljava/lang/Object;"), (0, .class_ 112), (0, u "java/util/ImmutableCollections$SetN"), (5, u "EMPTY_SET"), (0, u "Ljava/util/ImmutableCollections$SetN;"), (0, .class_ 121), (0, u "java/util/ImmutableCollections$MapN"), (3, u "EMPTY_MAP"), (0, u "Ljava/util/ImmutableCollections$MapN;"), (4, u "EXPAND_FACTOR"), (0, u "I"), (9, u "listCopy"), (0, u "(Ljava/util/Collection;)Ljava/util/List;"), (25, .class_ 170), (0, u "java/util/ImmutableCollections$MapN$MapNIterator"), (0, .class_ 172), (0, u "java/util/ImmutableCollections$MapN$1"), (0, .class_ 174), (0, u "java/util/ImmutableCollections$Map1"), (0, .class_ 176), (0, u "java/util/ImmutableCollections$AbstractImmutableMap"), (0, .class_ 178), (0, u "java/util/ImmutableCollections$SetN$SetNIterator"), (0, .class_ 180), (0, u "java/util/ImmutableCollections$Set12"), (0, .class_ 182), (0, u "java/util/ImmutableCollections$Set12$1"), (0, .class_ 184), (0, u "java/util/ImmutableCollections$AbstractImmutableSet"), (0, .class_ 186), (0, u "java/util/ImmutableCollections$SubList"), (0, .class_ 188), (0, u "java/util/ImmutableCollections$ListItr"), (0, .class_ 190), (0, u "java/util/ImmutableCollections$AbstractImmutableList"), (0, .class_ 192), (0, u "java/util/ImmutableCollections$AbstractImmutableCollection"), (0, .class_ 194), (0, u "java/util/ImmutableCollections$Access"), (0, .class_ 196), (0, u "java/util/ImmutableCollections$Access$1")] 16

def k23m0 : Method := { name := "<init>", desc := "()V", sig := { parameters := [], returnType := none }, accessFlags := 2, code := none }
def k23c1 : Code := { maxStack := 1, maxLocals := 2, code := jdk_56_method_3_code, exceptionTable := #[], attributes := #[] }
def k23m1 : Method := { name := "listCopy", desc := "(Ljava/util/Collection;)Ljava/util/List;", sig := { parameters := [(.object "java/util/Collection")], returnType := some (.object "java/util/List") }, accessFlags := 8, code := some k23c1 }
/-- java/util/ImmutableCollections -/
def k23 : Class := { plain "java/util/ImmutableCollections" (some 0) with
  accessFlags := 32
  interfaces := #[]
  cf := some (fileOf pool23 47 #[.nestMembers #[120, 169, 171, 173, 175, 111, 177, 179, 181, 183, 12, 10, 185, 187, 189, 191, 193, 195]] #[{ accessFlags := 2, nameIndex := 5, descriptorIndex := 6, attributes := #[] }, { accessFlags := 8, nameIndex := 142, descriptorIndex := 143, attributes := #[] }] 32 2 #[] #[{ accessFlags := 26, nameIndex := 95, descriptorIndex := 96, attributes := #[] }, { accessFlags := 26, nameIndex := 99, descriptorIndex := 17, attributes := #[] }, { accessFlags := 10, nameIndex := 106, descriptorIndex := 56, attributes := #[] }, { accessFlags := 26, nameIndex := 109, descriptorIndex := 110, attributes := #[] }, { accessFlags := 24, nameIndex := 62, descriptorIndex := 63, attributes := #[] }, { accessFlags := 24, nameIndex := 72, descriptorIndex := 63, attributes := #[] }, { accessFlags := 24, nameIndex := 118, descriptorIndex := 119, attributes := #[] }, { accessFlags := 24, nameIndex := 125, descriptorIndex := 126, attributes := #[] }, { accessFlags := 24, nameIndex := 131, descriptorIndex := 132, attributes := #[] }, { accessFlags := 4120, nameIndex := 50, descriptorIndex := 17, attributes := #[] }])
  fields := #[{ name := "SALT32L", type := .long, accessFlags := 26, slot := 0, constantValue := 0 }, { name := "REVERSE", type := .boolean, accessFlags := 26, slot := 1, constantValue := 0 }, { name := "archivedObjects", type := (.array (.object "java/lang/Object")), accessFlags := 10, slot := 2, constantValue := 0 }, { name := "EMPTY", type := (.object "java/lang/Object"), accessFlags := 26, slot := 3, constantValue := 0 }, { name := "EMPTY_LIST", type := (.object "java/util/ImmutableCollections$ListN"), accessFlags := 24, slot := 4, constantValue := 0 }, { name := "EMPTY_LIST_NULLS", type := (.object "java/util/ImmutableCollections$ListN"), accessFlags := 24, slot := 5, constantValue := 0 }, { name := "EMPTY_SET", type := (.object "java/util/ImmutableCollections$SetN"), accessFlags := 24, slot := 6, constantValue := 0 }, { name := "EMPTY_MAP", type := (.object "java/util/ImmutableCollections$MapN"), accessFlags := 24, slot := 7, constantValue := 0 }, { name := "EXPAND_FACTOR", type := .int, accessFlags := 24, slot := 8, constantValue := 0 }, { name := "$assertionsDisabled", type := .boolean, accessFlags := 4120, slot := 9, constantValue := 0 }]
  methods := #[k23m0, k23m1]
  instanceTypes := #[]
  staticTypes := #[.long, .boolean, (.array (.object "java/lang/Object")), (.object "java/lang/Object"), (.object "java/util/ImmutableCollections$ListN"), (.object "java/util/ImmutableCollections$ListN"), (.object "java/util/ImmutableCollections$SetN"), (.object "java/util/ImmutableCollections$MapN"), .int, .boolean]
  resolved := Array.replicate 213 none
  statics := some 3 }

def pool24 : Array CpInfo := pool [(1, .methodref 2 3), (0, .class_ 4), (0, .nameAndType 5 6), (0, u "java/util/AbstractCollection"), (0, u "<init>"), (0, u "()V"), (1, .class_ 10), (1, u "java/util/ImmutableCollections"), (2, .class_ 14), (0, u "java/util/ImmutableCollections$AbstractImmutableCollection")] 41

def k24c0 : Code := { maxStack := 1, maxLocals := 1, code := jdk_47_method_1_code, exceptionTable := #[], attributes := #[] }
def k24m0 : Method := { name := "<init>", desc := "()V", sig := { parameters := [], returnType := none }, accessFlags := 0, code := some k24c0 }
/-- java/util/ImmutableCollections$AbstractImmutableCollection -/
def k24 : Class := { plain "java/util/ImmutableCollections$AbstractImmutableCollection" (some 4) with
  accessFlags := 1056
  interfaces := #[]
  cf := some (fileOf pool24 13 #[.nestHost 8] #[{ accessFlags := 0, nameIndex := 5, descriptorIndex := 6, attributes := #[] }] 1056 2 #[] #[])
  fields := #[]
  methods := #[k24m0]
  instanceTypes := #[]
  staticTypes := #[]
  resolved := Array.replicate 56 none
  statics := none }

def pool25 : Array CpInfo := pool [(1, .methodref 2 3), (0, .class_ 4), (0, .nameAndType 5 6), (0, u "java/util/ImmutableCollections$AbstractImmutableCollection"), (0, u "<init>"), (0, u "()V"), (1, .class_ 10), (1, u "java/util/ImmutableCollections"), (3, .class_ 16), (1, u "java/util/ImmutableCollections$AbstractImmutableList"), (60, .class_ 78), (0, u "java/util/List"), (45, .class_ 125), (0, u "java/util/RandomAccess")] 70

def k25c0 : Code := { maxStack := 1, maxLocals := 1, code := jdk_46_method_1_code, exceptionTable := #[], attributes := #[] }
def k25m0 : Method := { name := "<init>", desc := "()V", sig := { parameters := [], returnType := none }, accessFlags := 0, code := some k25c0 }
/-- java/util/ImmutableCollections$AbstractImmutableList -/
def k25 : Class := { plain "java/util/ImmutableCollections$AbstractImmutableList" (some 24) with
  accessFlags := 1056
  interfaces := #[6, 8]
  cf := some (fileOf pool25 14 #[.nestHost 8] #[{ accessFlags := 0, nameIndex := 5, descriptorIndex := 6, attributes := #[] }] 1056 2 #[77, 124] #[])
  fields := #[]
  methods := #[k25m0]
  instanceTypes := #[]
  staticTypes := #[]
  resolved := Array.replicate 196 none
  statics := none }

def pool26 : Array CpInfo := pool [(1, .methodref 2 3), (0, .class_ 4), (0, .nameAndType 5 6), (0, u "java/util/ImmutableCollections$AbstractImmutableList"), (0, u "<init>"), (0, u "()V"), (0, .methodref 8 9), (0, .class_ 10), (0, .nameAndType 11 12), (0, u "java/util/Objects"), (0, u "requireNonNull"), (0, u "(Ljava/lang/Object;)Ljava/lang/Object;"), (0, .fieldref 14 15), (0, .class_ 16), (0, .nameAndType 17 18), (0, u "java/util/ImmutableCollections$List12"), (0, u "e0"), (0, u "Ljava/lang/Object;"), (1, .class_ 22), (1, u "java/util/ImmutableCollections"), (1, .fieldref 14 25), (0, .nameAndType 26 18), (0, u "e1"), (43, .class_ 71), (0, u "java/io/Serializable"), (13, u "(Ljava/lang/Object;Ljava/lang/Object;)V")] 39

def k26c0 : Code := { maxStack := 2, maxLocals := 3, code := jdk_44_method_2_code, exceptionTable := #[], attributes := #[] }
def k26m0 : Method := { name := "<init>", desc := "(Ljava/lang/Object;Ljava/lang/Object;)V", sig := { parameters := [(.object "java/lang/Object"), (.object "java/lang/Object")], returnType := none }, accessFlags := 0, code := some k26c0 }
/-- java/util/ImmutableCollections$List12 -/
def k26 : Class := { plain "java/util/ImmutableCollections$List12" (some 25) with
  accessFlags := 48
  interfaces := #[10]
  cf := some (fileOf pool26 14 #[.nestHost 20] #[{ accessFlags := 0, nameIndex := 5, descriptorIndex := 85, attributes := #[] }] 48 2 #[70] #[{ accessFlags := 18, nameIndex := 17, descriptorIndex := 18, attributes := #[] }, { accessFlags := 18, nameIndex := 26, descriptorIndex := 18, attributes := #[] }])
  fields := #[{ name := "e0", type := (.object "java/lang/Object"), accessFlags := 18, slot := 0, constantValue := 0 }, { name := "e1", type := (.object "java/lang/Object"), accessFlags := 18, slot := 1, constantValue := 0 }]
  methods := #[k26m0]
  instanceTypes := #[(.object "java/lang/Object"), (.object "java/lang/Object")]
  staticTypes := #[]
  resolved := Array.replicate 125 none
  statics := none }

def pool27 : Array CpInfo := pool [(2, .class_ 4), (1, u "java/util/ImmutableCollections$AbstractImmutableList"), (3, .class_ 10), (1, u "java/util/ImmutableCollections$ListN"), (0, u "elements"), (0, u "[Ljava/lang/Object;"), (2, u "allowNulls"), (0, u "Z"), (42, .class_ 60), (0, u "java/io/Serializable"), (53, .class_ 115), (0, u "java/util/ImmutableCollections")] 3

/-- java/util/ImmutableCollections$ListN -/
def k27 : Class := { plain "java/util/ImmutableCollections$ListN" (some 25) with
  accessFlags := 48
  interfaces := #[10]
  cf := some (fileOf pool27 8 #[.nestHost 114] #[] 48 2 #[59] #[{ accessFlags := 18, nameIndex := 11, descriptorIndex := 12, attributes := #[] }, { accessFlags := 18, nameIndex := 15, descriptorIndex := 16, attributes := #[] }])
  fields := #[{ name := "elements", type := (.array (.object "java/lang/Object")), accessFlags := 18, slot := 0, constantValue := 0 }, { name := "allowNulls", type := .boolean, accessFlags := 18, slot := 1, constantValue := 0 }]
  methods := #[]
  instanceTypes := #[(.array (.object "java/lang/Object")), .boolean]
  staticTypes := #[]
  resolved := Array.replicate 119 none
  statics := none }

def pool28 : Array CpInfo := pool [(2, .class_ 4), (1, u "java/lang/Object"), (0, u "<init>"), (0, u "()V"), (7, .class_ 16), (1, u "java/util/Arrays"), (57, .class_ 76), (1, u "java/util/Arrays$NaturalOrder"), (9, .methodref 2 87), (0, .nameAndType 88 89), (0, u "getClass"), (0, u "()Ljava/lang/Class;"), (20, .class_ 111), (0, u "[Ljava/lang/Object;"), (1, .class_ 115), (1, u "java/util/Arrays$LegacyMergeSort"), (1, u "Z"), (32, .methodref 151 152), (0, .class_ 153), (0, .nameAndType 154 155), (0, u "java/lang/System"), (0, u "arraycopy"), (0, u "(Ljava/lang/Object;ILjava/lang/Object;II)V"), (144, .methodref 14 301), (0, .nameAndType 302 303), (0, u "copyOf"), (0, u "([Ljava/lang/Object;ILjava/lang/Class;)[Ljava/lang/Object;"), (0, .methodref 305 306), (0, .class_ 307), (0, .nameAndType 308 309), (0, u "java/lang/Math"), (0, u "min"), (0, u "(II)I"), (65, .class_ 376), (0, u "java/util/Arrays$ArrayList"), (68, u "$assertionsDisabled"), (269, u "MIN_ARRAY_SORT_GRAN"), (0, u "I"), (2, u "INSERTIONSORT_THRESHOLD"), (140, u "([Ljava/lang/Object;I)[Ljava/lang/Object;"), (114, .class_ 976), (0, u "java/util/Arrays$ArrayItr")] 52

def k28m0 : Method := { name := "<init>", desc := "()V", sig := { parameters := [], returnType := none }, accessFlags := 2, code := none }
def k28c1 : Code := { maxStack := 3, maxLocals := 2, code := jdk_65_method_119_code, exceptionTable := #[], attributes := #[] }
def k28m1 : Method := { name := "copyOf", desc := "([Ljava/lang/Object;I)[Ljava/lang/Object;", sig := { parameters := [(.array (.object "java/lang/Object")), .int], returnType := some (.array (.object "java/lang/Object")) }, accessFlags := 9, code := some k28c1 }
def k28c2 : Code := { maxStack := 6, maxLocals := 4, code := jdk_65_method_120_code, exceptionTable := #[], attributes := #[] }
def k28m2 : Method := { name := "copyOf", desc := "([Ljava/lang/Object;ILjava/lang/Class;)[Ljava/lang/Object;", sig := { parameters := [(.array (.object "java/lang/Object")), .int, (.object "java/lang/Class")], returnType := some (.array (.object "java/lang/Object")) }, accessFlags := 9, code := some k28c2 }
/-- java/util/Arrays -/
def k28 : Class := { plain "java/util/Arrays" (some 0) with
  accessFlags := 49
  interfaces := #[]
  cf := some (fileOf pool28 14 #[.nestMembers #[975, 375, 113, 74]] #[{ accessFlags := 2, nameIndex := 5, descriptorIndex := 6, attributes := #[] }, { accessFlags := 9, nameIndex := 302, descriptorIndex := 860, attributes := #[] }, { accessFlags := 9, nameIndex := 302, descriptorIndex := 303, attributes := #[] }] 49 2 #[] #[{ accessFlags := 26, nameIndex := 715, descriptorIndex := 716, attributes := #[] }, { accessFlags := 26, nameIndex := 719, descriptorIndex := 716, attributes := #[] }, { accessFlags := 4120, nameIndex := 445, descriptorIndex := 117, attributes := #[] }])
  fields := #[{ name := "MIN_ARRAY_SORT_GRAN", type := .int, accessFlags := 26, slot := 0, constantValue := 0 }, { name := "INSERTIONSORT_THRESHOLD", type := .int, accessFlags := 26, slot := 1, constantValue := 0 }, { name := "$assertionsDisabled", type := .boolean, accessFlags := 4120, slot := 2, constantValue := 0 }]
  methods := #[k28m0, k28m1, k28m2]
  instanceTypes := #[]
  staticTypes := #[.int, .int, .boolean]
  resolved := Array.replicate 1029 none
  statics := none }

def pool29 : Array CpInfo := pool [(2, .class_ 4), (1, u "java/lang/Object"), (0, u "<init>"), (0, u "()V"), (1, .class_ 10), (1, u "java/lang/System"), (0, u "allowSecurityManager"), (0, u "I"), (16, u "cons"), (0, u "Ljava/io/Console;"), (77, .class_ 110), (1, u "java/lang/System$CallersHolder"), (43, u "initialErrStream"), (0, u "Ljava/io/PrintStream;"), (19, u "security"), (0, u "Ljava/lang/SecurityManager;"), (31, .class_ 209), (0, u "java/lang/System$1"), (7, u "props"), (0, u "Ljava/util/Properties;"), (2, u "lineSeparator"), (0, u "Ljava/lang/String;"), (96, .class_ 321), (1, u "java/lang/System$LoggerFinder"), (5, .class_ 328), (0, u "java/lang/System$Logger"), (67, u "err"), (2, u "out"), (91, u "notSupportedJnuEncoding"), (15, u "in"), (17, u "initialIn"), (0, u "Ljava/io/InputStream;"), (35, u "bootLayer"), (0, u "Ljava/lang/ModuleLayer;"), (99, .class_ 664), (0, u "java/lang/System$2"), (9, u "NEVER"), (2, u "MAYBE"), (49, u "arraycopy"), (0, u "(Ljava/lang/Object;ILjava/lang/Object;II)V"), (72, .class_ 802), (0, u "java/lang/System$Logger$Level")] 31

def k29m0 : Method := { name := "<init>", desc := "()V", sig := { parameters := [], returnType := none }, accessFlags := 2, code := none }
def k29m1 : Method := { name := "arraycopy", desc := "(Ljava/lang/Object;ILjava/lang/Object;II)V", sig := { parameters := [(.object "java/lang/Object"), .int, (.object "java/lang/Object"), .int, .int], returnType := none }, accessFlags := 265, code := none }
/-- java/lang/System -/
def k29 : Class := { plain "java/lang/System" (some 0) with
  accessFlags := 49
  interfaces := #[]
  cf := some (fileOf pool29 8 #[.nestMembers #[319, 327, 801, 108, 663, 208]] #[{ accessFlags := 2, nameIndex := 5, descriptorIndex := 6, attributes := #[] }, { accessFlags := 265, nameIndex := 727, descriptorIndex := 728, attributes := #[] }] 49 2 #[] #[{ accessFlags := 25, nameIndex := 507, descriptorIndex := 526, attributes := #[] }, { accessFlags := 25, nameIndex := 399, descriptorIndex := 155, attributes := #[] }, { accessFlags := 25, nameIndex := 396, descriptorIndex := 155, attributes := #[] }, { accessFlags := 10, nameIndex := 525, descriptorIndex := 526, attributes := #[] }, { accessFlags := 26, nameIndex := 674, descriptorIndex := 12, attributes := #[] }, { accessFlags := 26, nameIndex := 677, descriptorIndex := 12, attributes := #[] }, { accessFlags := 10, nameIndex := 11, descriptorIndex := 12, attributes := #[] }, { accessFlags := 74, nameIndex := 175, descriptorIndex := 176, attributes := #[] }, { accessFlags := 10, nameIndex := 491, descriptorIndex := 222, attributes := #[] }, { accessFlags := 74, nameIndex := 29, descriptorIndex := 30, attributes := #[] }, { accessFlags := 74, nameIndex := 154, descriptorIndex := 155, attributes := #[] }, { accessFlags := 10, nameIndex := 217, descriptorIndex := 218, attributes := #[] }, { accessFlags := 10, nameIndex := 221, descriptorIndex := 222, attributes := #[] }, { accessFlags := 8, nameIndex := 562, descriptorIndex := 563, attributes := #[] }])
  fields := #[{ name := "in", type := (.object "java/io/InputStream"), accessFlags := 25, slot := 0, constantValue := 0 }, { name := "out", type := (.object "java/io/PrintStream"), accessFlags := 25, slot := 1, constantValue := 0 }, { name := "err", type := (.object "java/io/PrintStream"), accessFlags := 25, slot := 2, constantValue := 0 }, { name := "initialIn", type := (.object "java/io/InputStream"), accessFlags := 10, slot := 3, constantValue := 0 }, { name := "NEVER", type := .int, accessFlags := 26, slot := 4, constantValue := 0 }, { name := "MAYBE", type := .int, accessFlags := 26, slot := 5, constantValue := 0 }, { name := "allowSecurityManager", type := .int, accessFlags := 10, slot := 6, constantValue := 0 }, { name := "security", type := (.object "java/lang/SecurityManager"), accessFlags := 74, slot := 7, constantValue := 0 }, { name := "notSupportedJnuEncoding", type := (.object "java/lang/String"), accessFlags := 10, slot := 8, constantValue := 0 }, { name := "cons", type := (.object "java/io/Console"), accessFlags := 74, slot := 9, constantValue := 0 }, { name := "initialErrStream", type := (.object "java/io/PrintStream"), accessFlags := 74, slot := 10, constantValue := 0 }, { name := "props", type := (.object "java/util/Properties"), accessFlags := 10, slot := 11, constantValue := 0 }, { name := "lineSeparator", type := (.object "java/lang/String"), accessFlags := 10, slot := 12, constantValue := 0 }, { name := "bootLayer", type := (.object "java/lang/ModuleLayer"), accessFlags := 8, slot := 13, constantValue := 0 }]
  methods := #[k29m0, k29m1]
  instanceTypes := #[]
  staticTypes := #[(.object "java/io/InputStream"), (.object "java/io/PrintStream"), (.object "java/io/PrintStream"), (.object "java/io/InputStream"), .int, .int, .int, (.object "java/lang/SecurityManager"), (.object "java/lang/String"), (.object "java/io/Console"), (.object "java/io/PrintStream"), (.object "java/util/Properties"), (.object "java/lang/String"), (.object "java/lang/ModuleLayer")]
  resolved := Array.replicate 834 none
  statics := none }

def pool30 : Array CpInfo := pool [(2, .class_ 4), (1, u "java/lang/Object"), (0, u "<init>"), (0, u "()V"), (35, .class_ 44), (1, u "java/util/Objects"), (0, u "requireNonNull"), (0, u "(Ljava/lang/Object;)Ljava/lang/Object;")] 137

def k30m0 : Method := { name := "<init>", desc := "()V", sig := { parameters := [], returnType := none }, accessFlags := 2, code := none }
def k30c1 : Code := { maxStack := 2, maxLocals := 1, code := jdk_31_method_10_code, exceptionTable := #[], attributes := #[] }
def k30m1 : Method := { name := "requireNonNull", desc := "(Ljava/lang/Object;)Ljava/lang/Object;", sig := { parameters := [(.object "java/lang/Object")], returnType := some (.object "java/lang/Object") }, accessFlags := 9, code := some k30c1 }
/-- java/util/Objects -/
def k30 : Class := { plain "java/util/Objects" (some 0) with
  accessFlags := 49
  interfaces := #[]
  cf := some (fileOf pool30 42 #[] #[{ accessFlags := 2, nameIndex := 5, descriptorIndex := 6, attributes := #[] }, { accessFlags := 9, nameIndex := 45, descriptorIndex := 46, attributes := #[] }] 49 2 #[] #[])
  fields := #[]
  methods := #[k30m0, k30m1]
  instanceTypes := #[]
  staticTypes := #[]
  resolved := Array.replicate 184 none
  statics := none }

def pool31 : Array CpInfo := pool [(1, .methodref 2 3), (0, .class_ 4), (0, .nameAndType 5 6), (0, u "java/lang/Object"), (0, u "<init>"), (0, u "()V"), (0, .class_ 8), (0, u "com/example/reweave/reweave/control/SearchPath"), (0, .fieldref 7 10), (0, .nameAndType 11 12), (0, u "numbers"), (0, u "[I"), (0, .class_ 14), (0, u "com/example/reweave/reweave/control/SearchPath$More"), (0, .fieldref 7 16), (0, .nameAndType 17 18), (0, u "more"), (0, u "[Lcom/example/reweave/reweave/control/SearchPath$More;"), (0, .fieldref 7 20), (0, .nameAndType 21 12), (0, u "lists"), (0, .class_ 23), (0, u "com/example/reweave/reweave/control/SharedValues"), (0, .methodref 22 3), (0, .fieldref 7 26), (0, .nameAndType 27 28), (0, u "locations"), (0, u "Lcom/example/reweave/reweave/control/SharedValues;"), (0, .class_ 30), (0, u "java/util/HashMap"), (0, .methodref 29 3), (0, .fieldref 7 33), (0, .nameAndType 34 35), (0, u "notifies"), (0, u "Ljava/util/Map;"), (0, .fieldref 7 37), (0, .nameAndType 38 28), (0, u "runnables"), (0, .fieldref 7 40), (0, .nameAndType 41 28), (0, u "timeOuts"), (0, .fieldref 7 43), (0, .nameAndType 44 28), (0, u "options"), (0, .fieldref 7 46), (0, .nameAndType 47 28), (0, u "waiting"), (0, .fieldref 7 49), (0, .nameAndType 50 51), (0, u "schedule"), (0, u "I"), (0, .fieldref 7 53), (0, .nameAndType 54 12), (0, u "log"), (0, .class_ 56), (0, u "java/util/ArrayList"), (0, .methodref 55 3), (0, .fieldref 7 59), (0, .nameAndType 60 61), (0, u "wholeBlocks"), (0, u "Ljava/util/List;"), (0, .fieldref 7 63), (0, .nameAndType 64 35), (0, u "tails"), (0, .fieldref 7 66), (0, .nameAndType 67 51), (0, u "size"), (1, .class_ 71), (1, u "java/util/Arrays"), (0, u "copyOf"), (1, .methodref 69 75), (0, .nameAndType 72 76), (0, u "([Ljava/lang/Object;I)[Ljava/lang/Object;"), (1, .class_ 79), (0, u "com/example/reweave/reweave/control/Point"), (0, .methodref 78 81), (0, .nameAndType 82 83), (0, u "kind"), (0, u "()Lcom/example/reweave/reweave/control/Point$Kind;"), (0, .methodref 85 86), (0, .class_ 87), (0, .nameAndType 88 89), (0, u "com/example/reweave/reweave/control/Point$Kind"), (0, u "ordinal"), (0, u "()I"), (0, .methodref 78 91), (0, .nameAndType 92 89), (0, u "thread"), (0, .methodref 78 94), (0, .nameAndType 95 96), (0, u "location"), (0, u "()Lcom/example/reweave/reweave/control/Location;"), (0, .methodref 22 98), (0, .nameAndType 99 100), (0, u "index"), (0, u "(Ljava/lang/Object;)I"), (0, .methodref 78 102), (0, .nameAndType 103 104), (0, u "runnable"), (0, u "()Ljava/util/List;"), (0, .methodref 78 106), (0, .nameAndType 41 104), (2, .methodref 110 111), (0, .class_ 112), (0, .nameAndType 113 114), (0, u "java/lang/Integer"), (0, u "valueOf"), (0, u "(I)Ljava/lang/Integer;"), (10, .methodref 7 126), (0, .nameAndType 127 128), (0, u "listsRow"), (0, u "(IIII)I"), (0, .interfaceMethodref 130 131), (0, .class_ 132), (0, .nameAndType 67 89), (0, u "java/util/List"), (2, u "(I)V"), (0, .fieldref 7 137), (0, .nameAndType 138 51), (0, u "listRows"), (24, u "KINDS"), (0, u "[Lcom/example/reweave/reweave/control/Point$Kind;"), (40, u "logSize"), (18, u "add"), (42, u "(I)Z"), (2, u "hasRacedWithoutAMonitor"), (60, u "FIRST_CAPACITY"), (2, u "HEAD"), (1, u "THREAD"), (1, u "AT"), (1, u "LISTS"), (1, u "INDEX"), (1, u "BLOCK"), (1, u "LOGGED_IN"), (1, u "EXPLORED"), (1, u "TRIED"), (1, u "STRIDE"), (1, u "KIND"), (1, u "TAIL"), (1, u "RACED"), (1, u "RUNNABLE"), (0, u "TIME_OUTS"), (0, u "OPTIONS"), (0, u "WAITING"), (0, u "LISTS_STRIDE"), (9, u "(Ljava/lang/Object;Ljava/util/List;Ljava/util/List;)I"), (9, u "tail"), (0, u "racedWithoutAMonitor")] 37

def k31c0 : Code := { maxStack := 3, maxLocals := 1, code := prog_62_method_1_code, exceptionTable := #[], attributes := #[] }
def k31m0 : Method := { name := "<init>", desc := "()V", sig := { parameters := [], returnType := none }, accessFlags := 0, code := some k31c0 }
def k31c1 : Code := { maxStack := 8, maxLocals := 10, code := prog_62_method_3_code, exceptionTable := #[], attributes := #[] }
def k31m1 : Method := { name := "add", desc := "(Ljava/lang/Object;Ljava/util/List;Ljava/util/List;)I", sig := { parameters := [(.object "java/lang/Object"), (.object "java/util/List"), (.object "java/util/List")], returnType := some .int }, accessFlags := 0, code := some k31c1 }
def k31c2 : Code := { maxStack := 4, maxLocals := 7, code := prog_62_method_4_code, exceptionTable := #[], attributes := #[] }
def k31m2 : Method := { name := "listsRow", desc := "(IIII)I", sig := { parameters := [.int, .int, .int, .int], returnType := some .int }, accessFlags := 2, code := some k31c2 }
def k31c3 : Code := { maxStack := 4, maxLocals := 2, code := prog_62_method_15_code, exceptionTable := #[], attributes := #[] }
def k31m3 : Method := { name := "tail", desc := "(I)V", sig := { parameters := [.int], returnType := none }, accessFlags := 0, code := some k31c3 }
def k31c4 : Code := { maxStack := 3, maxLocals := 2, code := prog_62_method_16_code, exceptionTable := #[], attributes := #[] }
def k31m4 : Method := { name := "hasRacedWithoutAMonitor", desc := "(I)Z", sig := { parameters := [.int], returnType := some .boolean }, accessFlags := 0, code := some k31c4 }
def k31c5 : Code := { maxStack := 4, maxLocals := 2, code := prog_62_method_17_code, exceptionTable := #[], attributes := #[] }
def k31m5 : Method := { name := "racedWithoutAMonitor", desc := "(I)V", sig := { parameters := [.int], returnType := none }, accessFlags := 0, code := some k31c5 }
/-- com/example/reweave/reweave/control/SearchPath -/
def k31 : Class := { plain "com/example/reweave/reweave/control/SearchPath" (some 0) with
  accessFlags := 48
  interfaces := #[]
  cf := some (fileOf pool31 7 #[.nestMembers #[13]] #[{ accessFlags := 0, nameIndex := 5, descriptorIndex := 6, attributes := #[] }, { accessFlags := 0, nameIndex := 224, descriptorIndex := 374, attributes := #[] }, { accessFlags := 2, nameIndex := 127, descriptorIndex := 128, attributes := #[] }, { accessFlags := 0, nameIndex := 384, descriptorIndex := 135, attributes := #[] }, { accessFlags := 0, nameIndex := 270, descriptorIndex := 267, attributes := #[] }, { accessFlags := 0, nameIndex := 385, descriptorIndex := 135, attributes := #[] }] 48 2 #[] #[{ accessFlags := 26, nameIndex := 331, descriptorIndex := 51, attributes := #[] }, { accessFlags := 26, nameIndex := 334, descriptorIndex := 51, attributes := #[] }, { accessFlags := 26, nameIndex := 336, descriptorIndex := 51, attributes := #[] }, { accessFlags := 26, nameIndex := 338, descriptorIndex := 51, attributes := #[] }, { accessFlags := 26, nameIndex := 340, descriptorIndex := 51, attributes := #[] }, { accessFlags := 26, nameIndex := 342, descriptorIndex := 51, attributes := #[] }, { accessFlags := 26, nameIndex := 344, descriptorIndex := 51, attributes := #[] }, { accessFlags := 26, nameIndex := 346, descriptorIndex := 51, attributes := #[] }, { accessFlags := 26, nameIndex := 348, descriptorIndex := 51, attributes := #[] }, { accessFlags := 26, nameIndex := 350, descriptorIndex := 51, attributes := #[] }, { accessFlags := 26, nameIndex := 352, descriptorIndex := 51, attributes := #[] }, { accessFlags := 26, nameIndex := 354, descriptorIndex := 51, attributes := #[] }, { accessFlags := 26, nameIndex := 356, descriptorIndex := 51, attributes := #[] }, { accessFlags := 26, nameIndex := 358, descriptorIndex := 51, attributes := #[] }, { accessFlags := 26, nameIndex := 360, descriptorIndex := 51, attributes := #[] }, { accessFlags := 26, nameIndex := 361, descriptorIndex := 51, attributes := #[] }, { accessFlags := 26, nameIndex := 362, descriptorIndex := 51, attributes := #[] }, { accessFlags := 26, nameIndex := 363, descriptorIndex := 51, attributes := #[] }, { accessFlags := 26, nameIndex := 364, descriptorIndex := 51, attributes := #[] }, { accessFlags := 26, nameIndex := 163, descriptorIndex := 164, attributes := #[] }, { accessFlags := 2, nameIndex := 67, descriptorIndex := 51, attributes := #[] }, { accessFlags := 2, nameIndex := 11, descriptorIndex := 12, attributes := #[] }, { accessFlags := 2, nameIndex := 17, descriptorIndex := 18, attributes := #[] }, { accessFlags := 2, nameIndex := 21, descriptorIndex := 12, attributes := #[] }, { accessFlags := 2, nameIndex := 138, descriptorIndex := 51, attributes := #[] }, { accessFlags := 18, nameIndex := 27, descriptorIndex := 28, attributes := #[] }, { accessFlags := 18, nameIndex := 34, descriptorIndex := 35, attributes := #[] }, { accessFlags := 18, nameIndex := 38, descriptorIndex := 28, attributes := #[] }, { accessFlags := 18, nameIndex := 41, descriptorIndex := 28, attributes := #[] }, { accessFlags := 18, nameIndex := 44, descriptorIndex := 28, attributes := #[] }, { accessFlags := 18, nameIndex := 47, descriptorIndex := 28, attributes := #[] }, { accessFlags := 2, nameIndex := 50, descriptorIndex := 51, attributes := #[] }, { accessFlags := 2, nameIndex := 54, descriptorIndex := 12, attributes := #[] }, { accessFlags := 2, nameIndex := 205, descriptorIndex := 51, attributes := #[] }, { accessFlags := 18, nameIndex := 60, descriptorIndex := 61, attributes := #[] }, { accessFlags := 18, nameIndex := 64, descriptorIndex := 35, attributes := #[] }])
  fields := #[{ name := "FIRST_CAPACITY", type := .int, accessFlags := 26, slot := 0, constantValue := 0 }, { name := "HEAD", type := .int, accessFlags := 26, slot := 1, constantValue := 0 }, { name := "THREAD", type := .int, accessFlags := 26, slot := 2, constantValue := 0 }, { name := "AT", type := .int, accessFlags := 26, slot := 3, constantValue := 0 }, { name := "LISTS", type := .int, accessFlags := 26, slot := 4, constantValue := 0 }, { name := "INDEX", type := .int, accessFlags := 26, slot := 5, constantValue := 0 }, { name := "BLOCK", type := .int, accessFlags := 26, slot := 6, constantValue := 0 }, { name := "LOGGED_IN", type := .int, accessFlags := 26, slot := 7, constantValue := 0 }, { name := "EXPLORED", type := .int, accessFlags := 26, slot := 8, constantValue := 0 }, { name := "TRIED", type := .int, accessFlags := 26, slot := 9, constantValue := 0 }, { name := "STRIDE", type := .int, accessFlags := 26, slot := 10, constantValue := 0 }, { name := "KIND", type := .int, accessFlags := 26, slot := 11, constantValue := 0 }, { name := "TAIL", type := .int, accessFlags := 26, slot := 12, constantValue := 0 }, { name := "RACED", type := .int, accessFlags := 26, slot := 13, constantValue := 0 }, { name := "RUNNABLE", type := .int, accessFlags := 26, slot := 14, constantValue := 0 }, { name := "TIME_OUTS", type := .int, accessFlags := 26, slot := 15, constantValue := 0 }, { name := "OPTIONS", type := .int, accessFlags := 26, slot := 16, constantValue := 0 }, { name := "WAITING", type := .int, accessFlags := 26, slot := 17, constantValue := 0 }, { name := "LISTS_STRIDE", type := .int, accessFlags := 26, slot := 18, constantValue := 0 }, { name := "KINDS", type := (.array (.object "com/example/reweave/reweave/control/Point$Kind")), accessFlags := 26, slot := 19, constantValue := 0 }, { name := "size", type := .int, accessFlags := 2, slot := 0, constantValue := 0 }, { name := "numbers", type := (.array .int), accessFlags := 2, slot := 1, constantValue := 0 }, { name := "more", type := (.array (.object "com/example/reweave/reweave/control/SearchPath$More")), accessFlags := 2, slot := 2, constantValue := 0 }, { name := "lists", type := (.array .int), accessFlags := 2, slot := 3, constantValue := 0 }, { name := "listRows", type := .int, accessFlags := 2, slot := 4, constantValue := 0 }, { name := "locations", type := (.object "com/example/reweave/reweave/control/SharedValues"), accessFlags := 18, slot := 5, constantValue := 0 }, { name := "notifies", type := (.object "java/util/Map"), accessFlags := 18, slot := 6, constantValue := 0 }, { name := "runnables", type := (.object "com/example/reweave/reweave/control/SharedValues"), accessFlags := 18, slot := 7, constantValue := 0 }, { name := "timeOuts", type := (.object "com/example/reweave/reweave/control/SharedValues"), accessFlags := 18, slot := 8, constantValue := 0 }, { name := "options", type := (.object "com/example/reweave/reweave/control/SharedValues"), accessFlags := 18, slot := 9, constantValue := 0 }, { name := "waiting", type := (.object "com/example/reweave/reweave/control/SharedValues"), accessFlags := 18, slot := 10, constantValue := 0 }, { name := "schedule", type := .int, accessFlags := 2, slot := 11, constantValue := 0 }, { name := "log", type := (.array .int), accessFlags := 2, slot := 12, constantValue := 0 }, { name := "logSize", type := .int, accessFlags := 2, slot := 13, constantValue := 0 }, { name := "wholeBlocks", type := (.object "java/util/List"), accessFlags := 18, slot := 14, constantValue := 0 }, { name := "tails", type := (.object "java/util/Map"), accessFlags := 18, slot := 15, constantValue := 0 }]
  methods := #[k31m0, k31m1, k31m2, k31m3, k31m4, k31m5]
  instanceTypes := #[.int, (.array .int), (.array (.object "com/example/reweave/reweave/control/SearchPath$More")), (.array .int), .int, (.object "com/example/reweave/reweave/control/SharedValues"), (.object "java/util/Map"), (.object "com/example/reweave/reweave/control/SharedValues"), (.object "com/example/reweave/reweave/control/SharedValues"), (.object "com/example/reweave/reweave/control/SharedValues"), (.object "com/example/reweave/reweave/control/SharedValues"), .int, (.array .int), .int, (.object "java/util/List"), (.object "java/util/Map")]
  staticTypes := #[.int, .int, .int, .int, .int, .int, .int, .int, .int, .int, .int, .int, .int, .int, .int, .int, .int, .int, .int, (.array (.object "com/example/reweave/reweave/control/Point$Kind"))]
  resolved := Array.replicate 423 none
  statics := none }

def pool32 : Array CpInfo := pool [(1, .class_ 2), (0, u "com/example/reweave/reweave/control/SearchPath"), (1, .class_ 6), (1, u "java/lang/Object"), (3, .class_ 12), (1, u "com/example/reweave/reweave/control/SearchPath$More"), (0, u "exploredPast32"), (0, u "[I"), (2, u "triedPast32"), (0, u "blocks"), (0, u "[Lcom/example/reweave/reweave/control/Accesses;"), (0, u "tails")] 12

/-- com/example/reweave/reweave/control/SearchPath$More -/
def k32 : Class := { plain "com/example/reweave/reweave/control/SearchPath$More" (some 0) with
  accessFlags := 48
  interfaces := #[]
  cf := some (fileOf pool32 10 #[.nestHost 1] #[] 48 4 #[] #[{ accessFlags := 0, nameIndex := 18, descriptorIndex := 19, attributes := #[] }, { accessFlags := 0, nameIndex := 20, descriptorIndex := 19, attributes := #[] }, { accessFlags := 16, nameIndex := 13, descriptorIndex := 14, attributes := #[] }, { accessFlags := 16, nameIndex := 17, descriptorIndex := 14, attributes := #[] }])
  fields := #[{ name := "blocks", type := (.array (.object "com/example/reweave/reweave/control/Accesses")), accessFlags := 0, slot := 0, constantValue := 0 }, { name := "tails", type := (.array (.object "com/example/reweave/reweave/control/Accesses")), accessFlags := 0, slot := 1, constantValue := 0 }, { name := "exploredPast32", type := (.array .int), accessFlags := 16, slot := 2, constantValue := 0 }, { name := "triedPast32", type := (.array .int), accessFlags := 16, slot := 3, constantValue := 0 }]
  methods := #[]
  instanceTypes := #[(.array (.object "com/example/reweave/reweave/control/Accesses")), (.array (.object "com/example/reweave/reweave/control/Accesses")), (.array .int), (.array .int)]
  staticTypes := #[]
  resolved := Array.replicate 33 none
  statics := none }

def pool33 : Array CpInfo := pool [(1, .methodref 2 3), (0, .class_ 4), (0, .nameAndType 5 6), (0, u "java/lang/Object"), (0, u "<init>"), (0, u "()V"), (0, .class_ 8), (0, u "java/util/ArrayList"), (0, .methodref 7 3), (0, .fieldref 11 12), (0, .class_ 13), (0, .nameAndType 14 15), (0, u "com/example/reweave/reweave/control/SharedValues"), (0, u "values"), (0, u "Ljava/util/List;"), (0, .fieldref 11 17), (0, .nameAndType 18 19), (0, u "last"), (0, u "Ljava/lang/Object;"), (0, .interfaceMethodref 21 22), (0, .class_ 23), (0, .nameAndType 24 25), (0, u "java/util/List"), (0, u "isEmpty"), (0, u "()Z"), (0, .interfaceMethodref 21 27), (0, .nameAndType 28 29), (0, u "add"), (0, u "(Ljava/lang/Object;)Z"), (0, .interfaceMethodref 21 31), (0, .nameAndType 32 33), (0, u "size"), (0, u "()I"), (16, u "index"), (0, u "(Ljava/lang/Object;)I")] 9

def k33c0 : Code := { maxStack := 3, maxLocals := 1, code := prog_65_method_1_code, exceptionTable := #[], attributes := #[] }
def k33m0 : Method := { name := "<init>", desc := "()V", sig := { parameters := [], returnType := none }, accessFlags := 0, code := some k33c0 }
def k33c1 : Code := { maxStack := 2, maxLocals := 2, code := prog_65_method_2_code, exceptionTable := #[], attributes := #[] }
def k33m1 : Method := { name := "index", desc := "(Ljava/lang/Object;)I", sig := { parameters := [(.object "java/lang/Object")], returnType := some .int }, accessFlags := 0, code := some k33c1 }
/-- com/example/reweave/reweave/control/SharedValues -/
def k33 : Class := { plain "com/example/reweave/reweave/control/SharedValues" (some 0) with
  accessFlags := 48
  interfaces := #[]
  cf := some (fileOf pool33 11 #[] #[{ accessFlags := 0, nameIndex := 5, descriptorIndex := 6, attributes := #[] }, { accessFlags := 0, nameIndex := 50, descriptorIndex := 51, attributes := #[] }] 48 2 #[] #[{ accessFlags := 18, nameIndex := 14, descriptorIndex := 15, attributes := #[] }, { accessFlags := 2, nameIndex := 18, descriptorIndex := 19, attributes := #[] }])
  fields := #[{ name := "values", type := (.object "java/util/List"), accessFlags := 18, slot := 0, constantValue := 0 }, { name := "last", type := (.object "java/lang/Object"), accessFlags := 2, slot := 1, constantValue := 0 }]
  methods := #[k33m0, k33m1]
  instanceTypes := #[(.object "java/util/List"), (.object "java/lang/Object")]
  staticTypes := #[]
  resolved := Array.replicate 61 none
  statics := none }

def pool34 : Array CpInfo := pool [(2, .class_ 4), (1, u "java/util/Map"), (31, .class_ 37), (0, u "java/util/Map$Entry"), (55, .class_ 94), (0, u "java/lang/Object")] 168

/-- java/util/Map -/
def k34 : Class := { plain "java/util/Map" (some 0) with
  accessFlags := 1537
  interfaces := #[]
  cf := some (fileOf pool34 2 #[.nestMembers #[36]] #[] 1537 93 #[] #[])
  fields := #[]
  methods := #[]
  instanceTypes := #[]
  staticTypes := #[]
  resolved := Array.replicate 263 none
  statics := none }

def pool35 : Array CpInfo := pool [(1, .methodref 2 3), (0, .class_ 4), (0, .nameAndType 5 6), (0, u "java/lang/Object"), (0, u "<init>"), (0, u "()V"), (1, .class_ 10), (1, u "java/util/AbstractMap"), (42, .class_ 54), (0, u "java/util/Map"), (9, u "keySet"), (0, u "Ljava/util/Set;"), (0, .class_ 67), (0, u "java/util/AbstractMap$1"), (5, u "values"), (0, u "Ljava/util/Collection;"), (0, .class_ 76), (0, u "java/util/AbstractMap$2"), (104, .class_ 182), (0, u "java/util/AbstractMap$ViewCollection"), (0, .class_ 184), (0, u "java/util/AbstractMap$SimpleImmutableEntry"), (0, .class_ 186), (0, u "java/util/AbstractMap$SimpleEntry"), (0, .class_ 188), (0, u "java/util/AbstractMap$2$1"), (0, .class_ 190), (0, u "java/util/AbstractMap$1$1")] 5

def k35c0 : Code := { maxStack := 1, maxLocals := 1, code := jdk_71_method_1_code, exceptionTable := #[], attributes := #[] }
def k35m0 : Method := { name := "<init>", desc := "()V", sig := { parameters := [], returnType := none }, accessFlags := 4, code := some k35c0 }
/-- java/util/AbstractMap -/
def k35 : Class := { plain "java/util/AbstractMap" (some 0) with
  accessFlags := 1057
  interfaces := #[34]
  cf := some (fileOf pool35 8 #[.nestMembers #[181, 183, 185, 75, 187, 66, 189]] #[{ accessFlags := 4, nameIndex := 5, descriptorIndex := 6, attributes := #[] }] 1057 2 #[53] #[{ accessFlags := 128, nameIndex := 64, descriptorIndex := 65, attributes := #[] }, { accessFlags := 128, nameIndex := 73, descriptorIndex := 74, attributes := #[] }])
  fields := #[{ name := "keySet", type := (.object "java/util/Set"), accessFlags := 128, slot := 0, constantValue := 0 }, { name := "values", type := (.object "java/util/Collection"), accessFlags := 128, slot := 1, constantValue := 0 }]
  methods := #[k35m0]
  instanceTypes := #[(.object "java/util/Set"), (.object "java/util/Collection")]
  staticTypes := #[]
  resolved := Array.replicate 196 none
  statics := none }

def pool36 : Array CpInfo := pool [(40, .class_ 41), (0, u "java/util/HashMap"), (1, .methodref 44 45), (0, .class_ 46), (0, .nameAndType 47 48), (0, u "java/util/AbstractMap"), (0, u "<init>"), (0, u "()V"), (32, .fieldref 40 82), (0, .nameAndType 83 84), (0, u "loadFactor"), (0, u "F"), (5, u "threshold"), (0, u "I"), (0, .float 1061158912), (8, .class_ 103), (1, u "java/util/Map"), (0, u "size"), (2, u "table"), (0, u "[Ljava/util/HashMap$Node;"), (14, u "entrySet"), (39, .class_ 165), (1, u "java/util/HashMap$Node"), (14, .class_ 181), (0, u "java/util/HashMap$TreeNode"), (22, u "modCount"), (37, u "Ljava/util/Set;"), (0, .class_ 244), (0, u "java/util/HashMap$KeySet"), (18, .class_ 264), (0, u "java/util/HashMap$Values"), (3, .class_ 269), (0, u "java/util/HashMap$EntrySet"), (76, .class_ 348), (1, u "java/util/HashMap$UnsafeHolder"), (43, .class_ 393), (0, u "java/lang/Cloneable"), (0, .class_ 395), (0, u "java/io/Serializable"), (0, u "serialVersionUID"), (0, u "J"), (3, u "DEFAULT_INITIAL_CAPACITY"), (1, u "MAXIMUM_CAPACITY"), (0, u "DEFAULT_LOAD_FACTOR"), (0, u "TREEIFY_THRESHOLD"), (1, u "UNTREEIFY_THRESHOLD"), (1, u "MIN_TREEIFY_CAPACITY"), (186, .class_ 597), (0, u "java/util/HashMap$EntrySpliterator"), (0, .class_ 599), (0, u "java/util/HashMap$ValueSpliterator"), (0, .class_ 601), (0, u "java/util/HashMap$KeySpliterator"), (0, .class_ 603), (0, u "java/util/HashMap$HashMapSpliterator"), (0, .class_ 605), (0, u "java/util/HashMap$EntryIterator"), (0, .class_ 607), (0, u "java/util/HashMap$ValueIterator"), (0, .class_ 609), (0, u "java/util/HashMap$KeyIterator"), (0, .class_ 611), (0, u "java/util/HashMap$HashIterator")] 17

def k36c0 : Code := { maxStack := 2, maxLocals := 1, code := jdk_69_method_7_code, exceptionTable := #[], attributes := #[] }
def k36m0 : Method := { name := "<init>", desc := "()V", sig := { parameters := [], returnType := none }, accessFlags := 1, code := some k36c0 }
/-- java/util/HashMap -/
def k36 : Class := { plain "java/util/HashMap" (some 35) with
  accessFlags := 33
  interfaces := #[34, 9, 10]
  cf := some (fileOf pool36 40 #[.nestMembers #[180, 596, 598, 600, 602, 604, 606, 608, 610, 346, 268, 263, 243, 163]] #[{ accessFlags := 1, nameIndex := 47, descriptorIndex := 48, attributes := #[] }] 33 44 #[101, 392, 394] #[{ accessFlags := 26, nameIndex := 396, descriptorIndex := 397, attributes := #[] }, { accessFlags := 24, nameIndex := 401, descriptorIndex := 91, attributes := #[] }, { accessFlags := 24, nameIndex := 403, descriptorIndex := 91, attributes := #[] }, { accessFlags := 24, nameIndex := 404, descriptorIndex := 84, attributes := #[] }, { accessFlags := 24, nameIndex := 405, descriptorIndex := 91, attributes := #[] }, { accessFlags := 24, nameIndex := 407, descriptorIndex := 91, attributes := #[] }, { accessFlags := 24, nameIndex := 409, descriptorIndex := 91, attributes := #[] }, { accessFlags := 128, nameIndex := 107, descriptorIndex := 108, attributes := #[] }, { accessFlags := 128, nameIndex := 123, descriptorIndex := 242, attributes := #[] }, { accessFlags := 128, nameIndex := 104, descriptorIndex := 91, attributes := #[] }, { accessFlags := 128, nameIndex := 204, descriptorIndex := 91, attributes := #[] }, { accessFlags := 0, nameIndex := 90, descriptorIndex := 91, attributes := #[] }, { accessFlags := 16, nameIndex := 83, descriptorIndex := 84, attributes := #[] }])
  fields := #[{ name := "serialVersionUID", type := .long, accessFlags := 26, slot := 0, constantValue := 0 }, { name := "DEFAULT_INITIAL_CAPACITY", type := .int, accessFlags := 24, slot := 1, constantValue := 0 }, { name := "MAXIMUM_CAPACITY", type := .int, accessFlags := 24, slot := 2, constantValue := 0 }, { name := "DEFAULT_LOAD_FACTOR", type := .float, accessFlags := 24, slot := 3, constantValue := 0 }, { name := "TREEIFY_THRESHOLD", type := .int, accessFlags := 24, slot := 4, constantValue := 0 }, { name := "UNTREEIFY_THRESHOLD", type := .int, accessFlags := 24, slot := 5, constantValue := 0 }, { name := "MIN_TREEIFY_CAPACITY", type := .int, accessFlags := 24, slot := 6, constantValue := 0 }, { name := "table", type := (.array (.object "java/util/HashMap$Node")), accessFlags := 128, slot := 2, constantValue := 0 }, { name := "entrySet", type := (.object "java/util/Set"), accessFlags := 128, slot := 3, constantValue := 0 }, { name := "size", type := .int, accessFlags := 128, slot := 4, constantValue := 0 }, { name := "modCount", type := .int, accessFlags := 128, slot := 5, constantValue := 0 }, { name := "threshold", type := .int, accessFlags := 0, slot := 6, constantValue := 0 }, { name := "loadFactor", type := .float, accessFlags := 16, slot := 7, constantValue := 0 }]
  methods := #[k36m0]
  instanceTypes := #[(.object "java/util/Set"), (.object "java/util/Collection"), (.array (.object "java/util/HashMap$Node")), (.object "java/util/Set"), .int, .int, .int, .float]
  staticTypes := #[.long, .int, .int, .float, .int, .int, .int]
  resolved := Array.replicate 629 none
  statics := none }

def pool37 : Array CpInfo := pool [(1, u "java/lang/Class"), (0, .class_ 1), (0, u "java/lang/Object"), (0, .class_ 3)] 0

/-- java/lang/Class -/
def k37 : Class := { plain "java/lang/Class" (some 0) with
  accessFlags := 49
  interfaces := #[]
  cf := some (fileOf pool37 2 #[] #[] 49 4 #[] #[])
  fields := #[]
  methods := #[]
  instanceTypes := #[]
  staticTypes := #[]
  resolved := Array.replicate 5 none
  statics := none }

/-- the primitive byte -/
def k38 : Class := { plain "byte" none with kind := .primitive 'B', accessFlags := 0x411 }
/-- [B -/
def k39 : Class := { plain "[B" (some 0) with kind := .array 38 .byte, interfaces := #[9, 10], accessFlags := 1041 }

/-- the primitive int -/
def k40 : Class := { plain "int" none with kind := .primitive 'I', accessFlags := 0x411 }
/-- [I -/
def k41 : Class := { plain "[I" (some 0) with kind := .array 40 .int, interfaces := #[9, 10], accessFlags := 1041 }

/-- [Lcom/example/reweave/reweave/control/SearchPath$More; -/
def k42 : Class := { plain "[Lcom/example/reweave/reweave/control/SearchPath$More;" (some 0) with kind := .array 32 (.object "com/example/reweave/reweave/control/SearchPath$More"), interfaces := #[9, 10], accessFlags := 1041 }

/-- [Ljava/lang/Integer; -/
def k43 : Class := { plain "[Ljava/lang/Integer;" (some 0) with kind := .array 16 (.object "java/lang/Integer"), interfaces := #[9, 10], accessFlags := 1041 }

/-- [Ljava/lang/Object; -/
def k44 : Class := { plain "[Ljava/lang/Object;" (some 0) with kind := .array 0 (.object "java/lang/Object"), interfaces := #[9, 10], accessFlags := 1041, mirror := some 4 }

def heap : Heap := #[{ cls := 11, slots := #[.long 0, .int 0, .ref 268, .ref 269], vm := .statics 11 },
  { cls := 17, slots := #[.int 0, .int 127, .ref 5, .null, .int 0], vm := .statics 17 },
  { cls := 22, slots := #[.ref 264, .null, .null, .ref 265, .null, .null, .null, .null, .ref 266, .null, .null, .null, .null, .ref 263, .null], vm := .statics 22 },
  { cls := 23, slots := #[.long 0, .int 0, .null, .null, .ref 267, .null, .null, .null, .int 0, .int 0], vm := .statics 23 },
  { cls := 37, slots := #[], vm := .mirror 44 },
  { cls := 43, slots := #[.ref 7, .ref 8, .ref 9, .ref 10, .ref 11, .ref 12, .ref 13, .ref 14, .ref 15, .ref 16, .ref 17, .ref 18, .ref 19, .ref 20, .ref 21, .ref 22, .ref 23, .ref 24, .ref 25, .ref 26, .ref 27, .ref 28, .ref 29, .ref 30, .ref 31, .ref 32, .ref 33, .ref 34, .ref 35, .ref 36, .ref 37, .ref 38, .ref 39, .ref 40, .ref 41, .ref 42, .ref 43, .ref 44, .ref 45, .ref 46, .ref 47, .ref 48, .ref 49, .ref 50, .ref 51, .ref 52, .ref 53, .ref 54, .ref 55, .ref 56, .ref 57, .ref 58, .ref 59, .ref 60, .ref 61, .ref 62, .ref 63, .ref 64, .ref 65, .ref 66, .ref 67, .ref 68, .ref 69, .ref 70, .ref 71, .ref 72, .ref 73, .ref 74, .ref 75, .ref 76, .ref 77, .ref 78, .ref 79, .ref 80, .ref 81, .ref 82, .ref 83, .ref 84, .ref 85, .ref 86, .ref 87, .ref 88, .ref 89, .ref 90, .ref 91, .ref 92, .ref 93, .ref 94, .ref 95, .ref 96, .ref 97, .ref 98, .ref 99, .ref 100, .ref 101, .ref 102, .ref 103, .ref 104, .ref 105, .ref 106, .ref 107, .ref 108, .ref 109, .ref 110, .ref 111, .ref 112, .ref 113, .ref 114, .ref 115, .ref 116, .ref 117, .ref 118, .ref 119, .ref 120, .ref 121, .ref 122, .ref 123, .ref 124, .ref 125, .ref 126, .ref 127, .ref 128, .ref 129, .ref 130, .ref 131, .ref 132, .ref 133, .ref 134, .ref 135, .ref 136, .ref 137, .ref 138, .ref 139, .ref 140, .ref 141, .ref 142, .ref 143, .ref 144, .ref 145, .ref 146, .ref 147, .ref 148, .ref 149, .ref 150, .ref 151, .ref 152, .ref 153, .ref 154, .ref 155, .ref 156, .ref 157, .ref 158, .ref 159, .ref 160, .ref 161, .ref 162, .ref 163, .ref 164, .ref 165, .ref 166, .ref 167, .ref 168, .ref 169, .ref 170, .ref 171, .ref 172, .ref 173, .ref 174, .ref 175, .ref 176, .ref 177, .ref 178, .ref 179, .ref 180, .ref 181, .ref 182, .ref 183, .ref 184, .ref 185, .ref 186, .ref 187, .ref 188, .ref 189, .ref 190, .ref 191, .ref 192, .ref 193, .ref 194, .ref 195, .ref 196, .ref 197, .ref 198, .ref 199, .ref 200, .ref 201, .ref 202, .ref 203, .ref 204, .ref 205, .ref 206, .ref 207, .ref 208, .ref 209, .ref 210, .ref 211, .ref 212, .ref 213, .ref 214, .ref 215, .ref 216, .ref 217, .ref 218, .ref 219, .ref 220, .ref 221, .ref 222, .ref 223, .ref 224, .ref 225, .ref 226, .ref 227, .ref 228, .ref 229, .ref 230, .ref 231, .ref 232, .ref 233, .ref 234, .ref 235, .ref 236, .ref 237, .ref 238, .ref 239, .ref 240, .ref 241, .ref 242, .ref 243, .ref 244, .ref 245, .ref 246, .ref 247, .ref 248, .ref 249, .ref 250, .ref 251, .ref 252, .ref 253, .ref 254, .ref 255, .ref 256, .ref 257, .ref 258, .ref 259, .ref 260, .ref 261, .ref 262], vm := .none },
  { cls := 44, slots := #[], vm := .none },
  { cls := 16, slots := #[.int (-128)], vm := .none },
  { cls := 16, slots := #[.int (-127)], vm := .none },
  { cls := 16, slots := #[.int (-126)], vm := .none },
  { cls := 16, slots := #[.int (-125)], vm := .none },
  { cls := 16, slots := #[.int (-124)], vm := .none },
  { cls := 16, slots := #[.int (-123)], vm := .none },
  { cls := 16, slots := #[.int (-122)], vm := .none },
  { cls := 16, slots := #[.int (-121)], vm := .none },
  { cls := 16, slots := #[.int (-120)], vm := .none },
  { cls := 16, slots := #[.int (-119)], vm := .none },
  { cls := 16, slots := #[.int (-118)], vm := .none },
  { cls := 16, slots := #[.int (-117)], vm := .none },
  { cls := 16, slots := #[.int (-116)], vm := .none },
  { cls := 16, slots := #[.int (-115)], vm := .none },
  { cls := 16, slots := #[.int (-114)], vm := .none },
  { cls := 16, slots := #[.int (-113)], vm := .none },
  { cls := 16, slots := #[.int (-112)], vm := .none },
  { cls := 16, slots := #[.int (-111)], vm := .none },
  { cls := 16, slots := #[.int (-110)], vm := .none },
  { cls := 16, slots := #[.int (-109)], vm := .none },
  { cls := 16, slots := #[.int (-108)], vm := .none },
  { cls := 16, slots := #[.int (-107)], vm := .none },
  { cls := 16, slots := #[.int (-106)], vm := .none },
  { cls := 16, slots := #[.int (-105)], vm := .none },
  { cls := 16, slots := #[.int (-104)], vm := .none },
  { cls := 16, slots := #[.int (-103)], vm := .none },
  { cls := 16, slots := #[.int (-102)], vm := .none },
  { cls := 16, slots := #[.int (-101)], vm := .none },
  { cls := 16, slots := #[.int (-100)], vm := .none },
  { cls := 16, slots := #[.int (-99)], vm := .none },
  { cls := 16, slots := #[.int (-98)], vm := .none },
  { cls := 16, slots := #[.int (-97)], vm := .none },
  { cls := 16, slots := #[.int (-96)], vm := .none },
  { cls := 16, slots := #[.int (-95)], vm := .none },
  { cls := 16, slots := #[.int (-94)], vm := .none },
  { cls := 16, slots := #[.int (-93)], vm := .none },
  { cls := 16, slots := #[.int (-92)], vm := .none },
  { cls := 16, slots := #[.int (-91)], vm := .none },
  { cls := 16, slots := #[.int (-90)], vm := .none },
  { cls := 16, slots := #[.int (-89)], vm := .none },
  { cls := 16, slots := #[.int (-88)], vm := .none },
  { cls := 16, slots := #[.int (-87)], vm := .none },
  { cls := 16, slots := #[.int (-86)], vm := .none },
  { cls := 16, slots := #[.int (-85)], vm := .none },
  { cls := 16, slots := #[.int (-84)], vm := .none },
  { cls := 16, slots := #[.int (-83)], vm := .none },
  { cls := 16, slots := #[.int (-82)], vm := .none },
  { cls := 16, slots := #[.int (-81)], vm := .none },
  { cls := 16, slots := #[.int (-80)], vm := .none },
  { cls := 16, slots := #[.int (-79)], vm := .none },
  { cls := 16, slots := #[.int (-78)], vm := .none },
  { cls := 16, slots := #[.int (-77)], vm := .none },
  { cls := 16, slots := #[.int (-76)], vm := .none },
  { cls := 16, slots := #[.int (-75)], vm := .none },
  { cls := 16, slots := #[.int (-74)], vm := .none },
  { cls := 16, slots := #[.int (-73)], vm := .none },
  { cls := 16, slots := #[.int (-72)], vm := .none },
  { cls := 16, slots := #[.int (-71)], vm := .none },
  { cls := 16, slots := #[.int (-70)], vm := .none },
  { cls := 16, slots := #[.int (-69)], vm := .none },
  { cls := 16, slots := #[.int (-68)], vm := .none },
  { cls := 16, slots := #[.int (-67)], vm := .none },
  { cls := 16, slots := #[.int (-66)], vm := .none },
  { cls := 16, slots := #[.int (-65)], vm := .none },
  { cls := 16, slots := #[.int (-64)], vm := .none },
  { cls := 16, slots := #[.int (-63)], vm := .none },
  { cls := 16, slots := #[.int (-62)], vm := .none },
  { cls := 16, slots := #[.int (-61)], vm := .none },
  { cls := 16, slots := #[.int (-60)], vm := .none },
  { cls := 16, slots := #[.int (-59)], vm := .none },
  { cls := 16, slots := #[.int (-58)], vm := .none },
  { cls := 16, slots := #[.int (-57)], vm := .none },
  { cls := 16, slots := #[.int (-56)], vm := .none },
  { cls := 16, slots := #[.int (-55)], vm := .none },
  { cls := 16, slots := #[.int (-54)], vm := .none },
  { cls := 16, slots := #[.int (-53)], vm := .none },
  { cls := 16, slots := #[.int (-52)], vm := .none },
  { cls := 16, slots := #[.int (-51)], vm := .none },
  { cls := 16, slots := #[.int (-50)], vm := .none },
  { cls := 16, slots := #[.int (-49)], vm := .none },
  { cls := 16, slots := #[.int (-48)], vm := .none },
  { cls := 16, slots := #[.int (-47)], vm := .none },
  { cls := 16, slots := #[.int (-46)], vm := .none },
  { cls := 16, slots := #[.int (-45)], vm := .none },
  { cls := 16, slots := #[.int (-44)], vm := .none },
  { cls := 16, slots := #[.int (-43)], vm := .none },
  { cls := 16, slots := #[.int (-42)], vm := .none },
  { cls := 16, slots := #[.int (-41)], vm := .none },
  { cls := 16, slots := #[.int (-40)], vm := .none },
  { cls := 16, slots := #[.int (-39)], vm := .none },
  { cls := 16, slots := #[.int (-38)], vm := .none },
  { cls := 16, slots := #[.int (-37)], vm := .none },
  { cls := 16, slots := #[.int (-36)], vm := .none },
  { cls := 16, slots := #[.int (-35)], vm := .none },
  { cls := 16, slots := #[.int (-34)], vm := .none },
  { cls := 16, slots := #[.int (-33)], vm := .none },
  { cls := 16, slots := #[.int (-32)], vm := .none },
  { cls := 16, slots := #[.int (-31)], vm := .none },
  { cls := 16, slots := #[.int (-30)], vm := .none },
  { cls := 16, slots := #[.int (-29)], vm := .none },
  { cls := 16, slots := #[.int (-28)], vm := .none },
  { cls := 16, slots := #[.int (-27)], vm := .none },
  { cls := 16, slots := #[.int (-26)], vm := .none },
  { cls := 16, slots := #[.int (-25)], vm := .none },
  { cls := 16, slots := #[.int (-24)], vm := .none },
  { cls := 16, slots := #[.int (-23)], vm := .none },
  { cls := 16, slots := #[.int (-22)], vm := .none },
  { cls := 16, slots := #[.int (-21)], vm := .none },
  { cls := 16, slots := #[.int (-20)], vm := .none },
  { cls := 16, slots := #[.int (-19)], vm := .none },
  { cls := 16, slots := #[.int (-18)], vm := .none },
  { cls := 16, slots := #[.int (-17)], vm := .none },
  { cls := 16, slots := #[.int (-16)], vm := .none },
  { cls := 16, slots := #[.int (-15)], vm := .none },
  { cls := 16, slots := #[.int (-14)], vm := .none },
  { cls := 16, slots := #[.int (-13)], vm := .none },
  { cls := 16, slots := #[.int (-12)], vm := .none },
  { cls := 16, slots := #[.int (-11)], vm := .none },
  { cls := 16, slots := #[.int (-10)], vm := .none },
  { cls := 16, slots := #[.int (-9)], vm := .none },
  { cls := 16, slots := #[.int (-8)], vm := .none },
  { cls := 16, slots := #[.int (-7)], vm := .none },
  { cls := 16, slots := #[.int (-6)], vm := .none },
  { cls := 16, slots := #[.int (-5)], vm := .none },
  { cls := 16, slots := #[.int (-4)], vm := .none },
  { cls := 16, slots := #[.int (-3)], vm := .none },
  { cls := 16, slots := #[.int (-2)], vm := .none },
  { cls := 16, slots := #[.int (-1)], vm := .none },
  { cls := 16, slots := #[.int 0], vm := .none },
  { cls := 16, slots := #[.int 1], vm := .none },
  { cls := 16, slots := #[.int 2], vm := .none },
  { cls := 16, slots := #[.int 3], vm := .none },
  { cls := 16, slots := #[.int 4], vm := .none },
  { cls := 16, slots := #[.int 5], vm := .none },
  { cls := 16, slots := #[.int 6], vm := .none },
  { cls := 16, slots := #[.int 7], vm := .none },
  { cls := 16, slots := #[.int 8], vm := .none },
  { cls := 16, slots := #[.int 9], vm := .none },
  { cls := 16, slots := #[.int 10], vm := .none },
  { cls := 16, slots := #[.int 11], vm := .none },
  { cls := 16, slots := #[.int 12], vm := .none },
  { cls := 16, slots := #[.int 13], vm := .none },
  { cls := 16, slots := #[.int 14], vm := .none },
  { cls := 16, slots := #[.int 15], vm := .none },
  { cls := 16, slots := #[.int 16], vm := .none },
  { cls := 16, slots := #[.int 17], vm := .none },
  { cls := 16, slots := #[.int 18], vm := .none },
  { cls := 16, slots := #[.int 19], vm := .none },
  { cls := 16, slots := #[.int 20], vm := .none },
  { cls := 16, slots := #[.int 21], vm := .none },
  { cls := 16, slots := #[.int 22], vm := .none },
  { cls := 16, slots := #[.int 23], vm := .none },
  { cls := 16, slots := #[.int 24], vm := .none },
  { cls := 16, slots := #[.int 25], vm := .none },
  { cls := 16, slots := #[.int 26], vm := .none },
  { cls := 16, slots := #[.int 27], vm := .none },
  { cls := 16, slots := #[.int 28], vm := .none },
  { cls := 16, slots := #[.int 29], vm := .none },
  { cls := 16, slots := #[.int 30], vm := .none },
  { cls := 16, slots := #[.int 31], vm := .none },
  { cls := 16, slots := #[.int 32], vm := .none },
  { cls := 16, slots := #[.int 33], vm := .none },
  { cls := 16, slots := #[.int 34], vm := .none },
  { cls := 16, slots := #[.int 35], vm := .none },
  { cls := 16, slots := #[.int 36], vm := .none },
  { cls := 16, slots := #[.int 37], vm := .none },
  { cls := 16, slots := #[.int 38], vm := .none },
  { cls := 16, slots := #[.int 39], vm := .none },
  { cls := 16, slots := #[.int 40], vm := .none },
  { cls := 16, slots := #[.int 41], vm := .none },
  { cls := 16, slots := #[.int 42], vm := .none },
  { cls := 16, slots := #[.int 43], vm := .none },
  { cls := 16, slots := #[.int 44], vm := .none },
  { cls := 16, slots := #[.int 45], vm := .none },
  { cls := 16, slots := #[.int 46], vm := .none },
  { cls := 16, slots := #[.int 47], vm := .none },
  { cls := 16, slots := #[.int 48], vm := .none },
  { cls := 16, slots := #[.int 49], vm := .none },
  { cls := 16, slots := #[.int 50], vm := .none },
  { cls := 16, slots := #[.int 51], vm := .none },
  { cls := 16, slots := #[.int 52], vm := .none },
  { cls := 16, slots := #[.int 53], vm := .none },
  { cls := 16, slots := #[.int 54], vm := .none },
  { cls := 16, slots := #[.int 55], vm := .none },
  { cls := 16, slots := #[.int 56], vm := .none },
  { cls := 16, slots := #[.int 57], vm := .none },
  { cls := 16, slots := #[.int 58], vm := .none },
  { cls := 16, slots := #[.int 59], vm := .none },
  { cls := 16, slots := #[.int 60], vm := .none },
  { cls := 16, slots := #[.int 61], vm := .none },
  { cls := 16, slots := #[.int 62], vm := .none },
  { cls := 16, slots := #[.int 63], vm := .none },
  { cls := 16, slots := #[.int 64], vm := .none },
  { cls := 16, slots := #[.int 65], vm := .none },
  { cls := 16, slots := #[.int 66], vm := .none },
  { cls := 16, slots := #[.int 67], vm := .none },
  { cls := 16, slots := #[.int 68], vm := .none },
  { cls := 16, slots := #[.int 69], vm := .none },
  { cls := 16, slots := #[.int 70], vm := .none },
  { cls := 16, slots := #[.int 71], vm := .none },
  { cls := 16, slots := #[.int 72], vm := .none },
  { cls := 16, slots := #[.int 73], vm := .none },
  { cls := 16, slots := #[.int 74], vm := .none },
  { cls := 16, slots := #[.int 75], vm := .none },
  { cls := 16, slots := #[.int 76], vm := .none },
  { cls := 16, slots := #[.int 77], vm := .none },
  { cls := 16, slots := #[.int 78], vm := .none },
  { cls := 16, slots := #[.int 79], vm := .none },
  { cls := 16, slots := #[.int 80], vm := .none },
  { cls := 16, slots := #[.int 81], vm := .none },
  { cls := 16, slots := #[.int 82], vm := .none },
  { cls := 16, slots := #[.int 83], vm := .none },
  { cls := 16, slots := #[.int 84], vm := .none },
  { cls := 16, slots := #[.int 85], vm := .none },
  { cls := 16, slots := #[.int 86], vm := .none },
  { cls := 16, slots := #[.int 87], vm := .none },
  { cls := 16, slots := #[.int 88], vm := .none },
  { cls := 16, slots := #[.int 89], vm := .none },
  { cls := 16, slots := #[.int 90], vm := .none },
  { cls := 16, slots := #[.int 91], vm := .none },
  { cls := 16, slots := #[.int 92], vm := .none },
  { cls := 16, slots := #[.int 93], vm := .none },
  { cls := 16, slots := #[.int 94], vm := .none },
  { cls := 16, slots := #[.int 95], vm := .none },
  { cls := 16, slots := #[.int 96], vm := .none },
  { cls := 16, slots := #[.int 97], vm := .none },
  { cls := 16, slots := #[.int 98], vm := .none },
  { cls := 16, slots := #[.int 99], vm := .none },
  { cls := 16, slots := #[.int 100], vm := .none },
  { cls := 16, slots := #[.int 101], vm := .none },
  { cls := 16, slots := #[.int 102], vm := .none },
  { cls := 16, slots := #[.int 103], vm := .none },
  { cls := 16, slots := #[.int 104], vm := .none },
  { cls := 16, slots := #[.int 105], vm := .none },
  { cls := 16, slots := #[.int 106], vm := .none },
  { cls := 16, slots := #[.int 107], vm := .none },
  { cls := 16, slots := #[.int 108], vm := .none },
  { cls := 16, slots := #[.int 109], vm := .none },
  { cls := 16, slots := #[.int 110], vm := .none },
  { cls := 16, slots := #[.int 111], vm := .none },
  { cls := 16, slots := #[.int 112], vm := .none },
  { cls := 16, slots := #[.int 113], vm := .none },
  { cls := 16, slots := #[.int 114], vm := .none },
  { cls := 16, slots := #[.int 115], vm := .none },
  { cls := 16, slots := #[.int 116], vm := .none },
  { cls := 16, slots := #[.int 117], vm := .none },
  { cls := 16, slots := #[.int 118], vm := .none },
  { cls := 16, slots := #[.int 119], vm := .none },
  { cls := 16, slots := #[.int 120], vm := .none },
  { cls := 16, slots := #[.int 121], vm := .none },
  { cls := 16, slots := #[.int 122], vm := .none },
  { cls := 16, slots := #[.int 123], vm := .none },
  { cls := 16, slots := #[.int 124], vm := .none },
  { cls := 16, slots := #[.int 125], vm := .none },
  { cls := 16, slots := #[.int 126], vm := .none },
  { cls := 16, slots := #[.int 127], vm := .none },
  { cls := 22, slots := #[.null, .int 13, .int 0, .null], vm := .none },
  { cls := 22, slots := #[.null, .int 0, .int 0, .null], vm := .none },
  { cls := 22, slots := #[.null, .int 3, .int 0, .null], vm := .none },
  { cls := 22, slots := #[.null, .int 8, .int 0, .null], vm := .none },
  { cls := 27, slots := #[.ref 6, .int 0], vm := .none },
  { cls := 44, slots := #[], vm := .none },
  { cls := 44, slots := #[], vm := .none }]
def classes : Array Class := #[k0, k1, k2, k3, k4, k5, k6, k7, k8, k9, k10, k11, k12, k13, k14, k15, k16, k17, k18, k19, k20, k21, k22, k23, k24, k25, k26, k27, k28, k29, k30, k31, k32, k33, k34, k35, k36, k37, k38, k39, k40, k41, k42, k43, k44]
def interned : List (Array UInt16 × Addr) := []
def slotsUsed : Nat := 564
def theMethod : MethodId := ⟨1, 2⟩
def args0 : Array Value := #[.int 27, .int 6, .int 3, .int 4]
def aboutOver (below : List Frame) : State where
  vm := { classes := classes, interned := interned.toArray }
  heap := heap
  slotsUsed := slotsUsed
  threads := #[{ frames := .invoking theMethod args0 :: below }]
def below0 : List Frame := [.native { method := ⟨0, 0⟩, args := #[] }]
def about1 : State := aboutOver below0
def p0 : Program := .bare "" "" ""
def e0 : Env := launch0.env 0 0 0
theorem w_frames : about1.frames = Frame.invoking theMethod args0 :: below0 := rfl
set_option maxRecDepth 65536 in
theorem w_args : argsFit about1.vm theMethod args0 = true := by decide +kernel
set_option maxRecDepth 65536 in
theorem w_heap : heapFits about1 = true := by decide +kernel
set_option maxRecDepth 65536 in
theorem w_runnable : about1.curStatus? = some .runnable := by decide +kernel
set_option maxRecDepth 65536 in
theorem w_alone : about1.alone = true := by decide +kernel
set_option maxRecDepth 65536 in
theorem w_named : about1.methodNamed? x = some theMethod := by decide +kernel
set_option maxRecDepth 65536 in
theorem w_hears : about1.hears theMethod below0 = true := by decide +kernel
set_option maxRecDepth 65536 in
theorem w_ripe : about1.ripe theMethod args0 below0 = true := by decide +kernel
theorem w_running : about1.status = .running := rfl
set_option maxRecDepth 65536 in
theorem w_room : about1.hasRoom e0.platform room_1 = true :=
  launch0.hasRoom_least _ room_1 (by decide +kernel) (by decide +kernel) (by decide +kernel) (by decide +kernel) (by decide +kernel) (by decide +kernel)
theorem allAtoms_all (ts : List Jvm.Cond) (a : Array Jvm.Value) (st : Jvm.State) : (allAtoms ts).before a st = ts.all (fun c => c.before a st) := by
  induction ts with
  | nil => rfl
  | cons c t ih =>
    show (Jvm.Cond.and c (allAtoms t)).before a st = _
    rw [Jvm.Cond.before_and, ih, List.all_cons]
def words1 : List Jvm.Cond := Jvm.Cond.code x code maxLocals ret :: tables_1
/-- a 'code' word, met by the world's own term for the bytes: nothing is compared byte by byte -/
theorem code_word {y : MethodName} {bytes : ByteArray} {mx : Nat} {rt : Option FieldType} {a : Array Value} {s : State} {m : MethodId} {meth : Method} {c : Code} (h1 : s.methodNamed? y = some m) (h2 : s.vm.method? m = some meth) (h3 : meth.code = some c) (h4 : c.code = bytes)
    (h5 : (c.maxLocals == mx && c.exceptionTable.isEmpty && decide (c.maxStack ≤ mostOperands) && decide (meth.sig.returnType = rt) && !meth.locks && decide (parseMethodDescriptor y.desc = some meth.sig)) = true) : (Jvm.Cond.code y bytes mx rt).before a s = true := by
  simp only [Bool.and_eq_true, beq_iff_eq, Bool.not_eq_true', decide_eq_true_eq] at h5
  obtain ⟨⟨⟨⟨⟨g1, g2⟩, g3⟩, g4⟩, g5⟩, g6⟩ := h5
  simp [Cond.before, Cond.holds, Cond.value, h1, h2, h3, h4, g1, g2, g3, g4, g5, g6]
def isCode : Jvm.Cond → Bool
  | .code _ _ _ _ => true
  | _ => false
theorem all_split {L : List Jvm.Cond} {P : Jvm.Cond → Bool} (h1 : L.all (fun c => isCode c || P c) = true) (h2 : ∀ c ∈ L.filter isCode, P c = true) : L.all P = true := by
  refine List.all_eq_true.mpr fun c hc => ?_
  have h := List.all_eq_true.mp h1 c hc
  rcases Bool.eq_false_or_eq_true (isCode c) with hi | hi
  · exact h2 c (List.mem_filter.mpr ⟨hc, hi⟩)
  · simpa [hi] using h
set_option maxRecDepth 65536 in
theorem w_c0 : (Jvm.Cond.code x code maxLocals ret).before args0 about1 = true := code_word (m := ⟨1, 2⟩) (meth := k1m2) (c := k1c2) (by decide +kernel) rfl rfl rfl (by decide +kernel)
set_option maxRecDepth 65536 in
theorem w_c1 : (Jvm.Cond.code ({ cls := "java/util/ArrayList", name := "<init>", desc := "()V" } : Jvm.MethodName) jdk_38_method_2_code (1 : Nat) (Option.none : Option Jvm.ClassFile.FieldType)).before args0 about1 = true := code_word (m := ⟨11, 0⟩) (meth := k11m0) (c := k11c0) (by decide +kernel) rfl rfl rfl (by decide +kernel)
set_option maxRecDepth 65536 in
theorem w_c2 : (Jvm.Cond.code ({ cls := "java/util/AbstractList", name := "<init>", desc := "()V" } : Jvm.MethodName) jdk_39_method_1_code (1 : Nat) (Option.none : Option Jvm.ClassFile.FieldType)).before args0 about1 = true := code_word (m := ⟨7, 0⟩) (meth := k7m0) (c := k7c0) (by decide +kernel) rfl rfl rfl (by decide +kernel)
set_option maxRecDepth 65536 in
theorem w_c3 : (Jvm.Cond.code ({ cls := "java/util/AbstractCollection", name := "<init>", desc := "()V" } : Jvm.MethodName) jdk_22_method_1_code (1 : Nat) (Option.none : Option Jvm.ClassFile.FieldType)).before args0 about1 = true := code_word (m := ⟨4, 0⟩) (meth := k4m0) (c := k4c0) (by decide +kernel) rfl rfl rfl (by decide +kernel)
set_option maxRecDepth 65536 in
theorem w_c4 : (Jvm.Cond.code ({ cls := "java/lang/Object", name := "<init>", desc := "()V" } : Jvm.MethodName) object_method_1_code (1 : Nat) (Option.none : Option Jvm.ClassFile.FieldType)).before args0 about1 = true := code_word (m := ⟨0, 0⟩) (meth := k0m0) (c := k0c0) (by decide +kernel) rfl rfl rfl (by decide +kernel)
set_option maxRecDepth 65536 in
theorem w_c5 : (Jvm.Cond.code ({ cls := "java/lang/Integer", name := "valueOf", desc := "(I)Ljava/lang/Integer;" } : Jvm.MethodName) jdk_33_method_22_code (1 : Nat) (Option.some (Jvm.ClassFile.FieldType.object "java/lang/Integer"))).before args0 about1 = true := code_word (m := ⟨16, 0⟩) (meth := k16m0) (c := k16c0) (by decide +kernel) rfl rfl rfl (by decide +kernel)
set_option maxRecDepth 65536 in
theorem w_c6 : (Jvm.Cond.code ({ cls := "java/util/ArrayList", name := "add", desc := "(Ljava/lang/Object;)Z" } : Jvm.MethodName) jdk_38_method_25_code (2 : Nat) (Option.some Jvm.ClassFile.FieldType.boolean)).before args0 about1 = true := code_word (m := ⟨11, 7⟩) (meth := k11m7) (c := k11c7) (by decide +kernel) rfl rfl rfl (by decide +kernel)
set_option maxRecDepth 65536 in
theorem w_c7 : (Jvm.Cond.code ({ cls := "java/util/ArrayList", name := "add", desc := "(Ljava/lang/Object;[Ljava/lang/Object;I)V" } : Jvm.MethodName) jdk_38_method_24_code (4 : Nat) (Option.none : Option Jvm.ClassFile.FieldType)).before args0 about1 = true := code_word (m := ⟨11, 6⟩) (meth := k11m6) (c := k11c6) (by decide +kernel) rfl rfl rfl (by decide +kernel)
set_option maxRecDepth 65536 in
theorem w_c8 : (Jvm.Cond.code ({ cls := "java/util/ArrayList", name := "grow", desc := "()[Ljava/lang/Object;" } : Jvm.MethodName) jdk_38_method_7_code (1 : Nat) (Option.some (Jvm.ClassFile.FieldType.array (Jvm.ClassFile.FieldType.object "java/lang/Object")))).before args0 about1 = true := code_word (m := ⟨11, 2⟩) (meth := k11m2) (c := k11c2) (by decide +kernel) rfl rfl rfl (by decide +kernel)
set_option maxRecDepth 65536 in
theorem w_c9 : (Jvm.Cond.code ({ cls := "java/util/ArrayList", name := "grow", desc := "(I)[Ljava/lang/Object;" } : Jvm.MethodName) jdk_38_method_6_code (4 : Nat) (Option.some (Jvm.ClassFile.FieldType.array (Jvm.ClassFile.FieldType.object "java/lang/Object")))).before args0 about1 = true := code_word (m := ⟨11, 1⟩) (meth := k11m1) (c := k11c1) (by decide +kernel) rfl rfl rfl (by decide +kernel)
set_option maxRecDepth 65536 in
theorem w_c10 : (Jvm.Cond.code ({ cls := "java/lang/Math", name := "max", desc := "(II)I" } : Jvm.MethodName) jdk_29_method_65_code (2 : Nat) (Option.some Jvm.ClassFile.FieldType.int)).before args0 about1 = true := code_word (m := ⟨18, 1⟩) (meth := k18m1) (c := k18c1) (by decide +kernel) rfl rfl rfl (by decide +kernel)
set_option maxRecDepth 65536 in
theorem w_c11 : (Jvm.Cond.code ({ cls := "com/example/reweave/reweave/control/SearchPathHasRacedWithoutAMonitorPinLaw", name := "kind", desc := "(I)Lcom/example/reweave/reweave/control/Point$Kind;" } : Jvm.MethodName) method_2_code (2 : Nat) (Option.some (Jvm.ClassFile.FieldType.object "com/example/reweave/reweave/control/Point$Kind"))).before args0 about1 = true := code_word (m := ⟨1, 1⟩) (meth := k1m1) (c := k1c1) (by decide +kernel) rfl rfl rfl (by decide +kernel)
set_option maxRecDepth 65536 in
theorem w_c12 : (Jvm.Cond.code ({ cls := "com/example/reweave/reweave/control/Point", name := "<init>", desc := "(Lcom/example/reweave/reweave/control/Point$Kind;ILcom/example/reweave/reweave/control/Location;Ljava/util/List;)V" } : Jvm.MethodName) prog_53_method_2_code (5 : Nat) (Option.none : Option Jvm.ClassFile.FieldType)).before args0 about1 = true := code_word (m := ⟨20, 1⟩) (meth := k20m1) (c := k20c1) (by decide +kernel) rfl rfl rfl (by decide +kernel)
set_option maxRecDepth 65536 in
theorem w_c13 : (Jvm.Cond.code ({ cls := "java/util/List", name := "of", desc := "()Ljava/util/List;" } : Jvm.MethodName) jdk_40_method_36_code (0 : Nat) (Option.some (Jvm.ClassFile.FieldType.object "java/util/List"))).before args0 about1 = true := code_word (m := ⟨6, 3⟩) (meth := k6m3) (c := k6c3) (by decide +kernel) rfl rfl rfl (by decide +kernel)
set_option maxRecDepth 65536 in
theorem w_c14 : (Jvm.Cond.code ({ cls := "com/example/reweave/reweave/control/Point", name := "<init>", desc := "(Lcom/example/reweave/reweave/control/Point$Kind;ILcom/example/reweave/reweave/control/Location;Ljava/util/List;Ljava/util/List;)V" } : Jvm.MethodName) prog_53_method_1_code (6 : Nat) (Option.none : Option Jvm.ClassFile.FieldType)).before args0 about1 = true := code_word (m := ⟨20, 0⟩) (meth := k20m0) (c := k20c0) (by decide +kernel) rfl rfl rfl (by decide +kernel)
set_option maxRecDepth 65536 in
theorem w_c15 : (Jvm.Cond.code ({ cls := "java/lang/Record", name := "<init>", desc := "()V" } : Jvm.MethodName) jdk_30_method_1_code (1 : Nat) (Option.none : Option Jvm.ClassFile.FieldType)).before args0 about1 = true := code_word (m := ⟨19, 0⟩) (meth := k19m0) (c := k19c0) (by decide +kernel) rfl rfl rfl (by decide +kernel)
set_option maxRecDepth 65536 in
theorem w_c16 : (Jvm.Cond.code ({ cls := "java/util/List", name := "copyOf", desc := "(Ljava/util/Collection;)Ljava/util/List;" } : Jvm.MethodName) jdk_40_method_48_code (1 : Nat) (Option.some (Jvm.ClassFile.FieldType.object "java/util/List"))).before args0 about1 = true := code_word (m := ⟨6, 5⟩) (meth := k6m5) (c := k6c5) (by decide +kernel) rfl rfl rfl (by decide +kernel)
set_option maxRecDepth 65536 in
theorem w_c17 : (Jvm.Cond.code ({ cls := "java/util/ImmutableCollections", name := "listCopy", desc := "(Ljava/util/Collection;)Ljava/util/List;" } : Jvm.MethodName) jdk_56_method_3_code (2 : Nat) (Option.some (Jvm.ClassFile.FieldType.object "java/util/List"))).before args0 about1 = true := code_word (m := ⟨23, 1⟩) (meth := k23m1) (c := k23c1) (by decide +kernel) rfl rfl rfl (by decide +kernel)
set_option maxRecDepth 65536 in
theorem w_c18 : (Jvm.Cond.code ({ cls := "java/util/ArrayList", name := "isEmpty", desc := "()Z" } : Jvm.MethodName) jdk_38_method_9_code (1 : Nat) (Option.some Jvm.ClassFile.FieldType.boolean)).before args0 about1 = true := code_word (m := ⟨11, 4⟩) (meth := k11m4) (c := k11c4) (by decide +kernel) rfl rfl rfl (by decide +kernel)
set_option maxRecDepth 65536 in
theorem w_c19 : (Jvm.Cond.code ({ cls := "java/util/ArrayList", name := "toArray", desc := "()[Ljava/lang/Object;" } : Jvm.MethodName) jdk_38_method_16_code (1 : Nat) (Option.some (Jvm.ClassFile.FieldType.array (Jvm.ClassFile.FieldType.object "java/lang/Object")))).before args0 about1 = true := code_word (m := ⟨11, 5⟩) (meth := k11m5) (c := k11c5) (by decide +kernel) rfl rfl rfl (by decide +kernel)
set_option maxRecDepth 65536 in
theorem w_c20 : (Jvm.Cond.code ({ cls := "java/util/Arrays", name := "copyOf", desc := "([Ljava/lang/Object;I)[Ljava/lang/Object;" } : Jvm.MethodName) jdk_65_method_119_code (2 : Nat) (Option.some (Jvm.ClassFile.FieldType.array (Jvm.ClassFile.FieldType.object "java/lang/Object")))).before args0 about1 = true := code_word (m := ⟨28, 1⟩) (meth := k28m1) (c := k28c1) (by decide +kernel) rfl rfl rfl (by decide +kernel)
set_option maxRecDepth 65536 in
theorem w_c21 : (Jvm.Cond.code ({ cls := "java/util/Arrays", name := "copyOf", desc := "([Ljava/lang/Object;ILjava/lang/Class;)[Ljava/lang/Object;" } : Jvm.MethodName) jdk_65_method_120_code (4 : Nat) (Option.some (Jvm.ClassFile.FieldType.array (Jvm.ClassFile.FieldType.object "java/lang/Object")))).before args0 about1 = true := code_word (m := ⟨28, 2⟩) (meth := k28m2) (c := k28c2) (by decide +kernel) rfl rfl rfl (by decide +kernel)
set_option maxRecDepth 65536 in
theorem w_c22 : (Jvm.Cond.code ({ cls := "java/lang/Math", name := "min", desc := "(II)I" } : Jvm.MethodName) jdk_29_method_69_code (2 : Nat) (Option.some Jvm.ClassFile.FieldType.int)).before args0 about1 = true := code_word (m := ⟨18, 2⟩) (meth := k18m2) (c := k18c2) (by decide +kernel) rfl rfl rfl (by decide +kernel)
set_option maxRecDepth 65536 in
theorem w_c23 : (Jvm.Cond.code ({ cls := "java/util/List", name := "of", desc := "([Ljava/lang/Object;)Ljava/util/List;" } : Jvm.MethodName) jdk_40_method_47_code (2 : Nat) (Option.some (Jvm.ClassFile.FieldType.object "java/util/List"))).before args0 about1 = true := code_word (m := ⟨6, 4⟩) (meth := k6m4) (c := k6c4) (by decide +kernel) rfl rfl rfl (by decide +kernel)
set_option maxRecDepth 65536 in
theorem w_c24 : (Jvm.Cond.code ({ cls := "java/util/ImmutableCollections$List12", name := "<init>", desc := "(Ljava/lang/Object;Ljava/lang/Object;)V" } : Jvm.MethodName) jdk_44_method_2_code (3 : Nat) (Option.none : Option Jvm.ClassFile.FieldType)).before args0 about1 = true := code_word (m := ⟨26, 0⟩) (meth := k26m0) (c := k26c0) (by decide +kernel) rfl rfl rfl (by decide +kernel)
set_option maxRecDepth 65536 in
theorem w_c25 : (Jvm.Cond.code ({ cls := "java/util/ImmutableCollections$AbstractImmutableList", name := "<init>", desc := "()V" } : Jvm.MethodName) jdk_46_method_1_code (1 : Nat) (Option.none : Option Jvm.ClassFile.FieldType)).before args0 about1 = true := code_word (m := ⟨25, 0⟩) (meth := k25m0) (c := k25c0) (by decide +kernel) rfl rfl rfl (by decide +kernel)
set_option maxRecDepth 65536 in
theorem w_c26 : (Jvm.Cond.code ({ cls := "java/util/ImmutableCollections$AbstractImmutableCollection", name := "<init>", desc := "()V" } : Jvm.MethodName) jdk_47_method_1_code (1 : Nat) (Option.none : Option Jvm.ClassFile.FieldType)).before args0 about1 = true := code_word (m := ⟨24, 0⟩) (meth := k24m0) (c := k24c0) (by decide +kernel) rfl rfl rfl (by decide +kernel)
set_option maxRecDepth 65536 in
theorem w_c27 : (Jvm.Cond.code ({ cls := "java/util/Objects", name := "requireNonNull", desc := "(Ljava/lang/Object;)Ljava/lang/Object;" } : Jvm.MethodName) jdk_31_method_10_code (1 : Nat) (Option.some (Jvm.ClassFile.FieldType.object "java/lang/Object"))).before args0 about1 = true := code_word (m := ⟨30, 1⟩) (meth := k30m1) (c := k30c1) (by decide +kernel) rfl rfl rfl (by decide +kernel)
set_option maxRecDepth 65536 in
theorem w_c28 : (Jvm.Cond.code ({ cls := "com/example/reweave/reweave/control/SearchPath", name := "<init>", desc := "()V" } : Jvm.MethodName) prog_62_method_1_code (1 : Nat) (Option.none : Option Jvm.ClassFile.FieldType)).before args0 about1 = true := code_word (m := ⟨31, 0⟩) (meth := k31m0) (c := k31c0) (by decide +kernel) rfl rfl rfl (by decide +kernel)
set_option maxRecDepth 65536 in
theorem w_c29 : (Jvm.Cond.code ({ cls := "com/example/reweave/reweave/control/SharedValues", name := "<init>", desc := "()V" } : Jvm.MethodName) prog_65_method_1_code (1 : Nat) (Option.none : Option Jvm.ClassFile.FieldType)).before args0 about1 = true := code_word (m := ⟨33, 0⟩) (meth := k33m0) (c := k33c0) (by decide +kernel) rfl rfl rfl (by decide +kernel)
set_option maxRecDepth 65536 in
theorem w_c30 : (Jvm.Cond.code ({ cls := "java/util/HashMap", name := "<init>", desc := "()V" } : Jvm.MethodName) jdk_69_method_7_code (1 : Nat) (Option.none : Option Jvm.ClassFile.FieldType)).before args0 about1 = true := code_word (m := ⟨36, 0⟩) (meth := k36m0) (c := k36c0) (by decide +kernel) rfl rfl rfl (by decide +kernel)
set_option maxRecDepth 65536 in
theorem w_c31 : (Jvm.Cond.code ({ cls := "java/util/AbstractMap", name := "<init>", desc := "()V" } : Jvm.MethodName) jdk_71_method_1_code (1 : Nat) (Option.none : Option Jvm.ClassFile.FieldType)).before args0 about1 = true := code_word (m := ⟨35, 0⟩) (meth := k35m0) (c := k35c0) (by decide +kernel) rfl rfl rfl (by decide +kernel)
set_option maxRecDepth 65536 in
theorem w_c32 : (Jvm.Cond.code ({ cls := "com/example/reweave/reweave/control/SearchPath", name := "add", desc := "(Ljava/lang/Object;Ljava/util/List;Ljava/util/List;)I" } : Jvm.MethodName) prog_62_method_3_code (10 : Nat) (Option.some Jvm.ClassFile.FieldType.int)).before args0 about1 = true := code_word (m := ⟨31, 1⟩) (meth := k31m1) (c := k31c1) (by decide +kernel) rfl rfl rfl (by decide +kernel)
set_option maxRecDepth 65536 in
theorem w_c33 : (Jvm.Cond.code ({ cls := "com/example/reweave/reweave/control/Point", name := "kind", desc := "()Lcom/example/reweave/reweave/control/Point$Kind;" } : Jvm.MethodName) prog_53_method_11_code (1 : Nat) (Option.some (Jvm.ClassFile.FieldType.object "com/example/reweave/reweave/control/Point$Kind"))).before args0 about1 = true := code_word (m := ⟨20, 2⟩) (meth := k20m2) (c := k20c2) (by decide +kernel) rfl rfl rfl (by decide +kernel)
set_option maxRecDepth 65536 in
theorem w_c34 : (Jvm.Cond.code ({ cls := "java/lang/Enum", name := "ordinal", desc := "()I" } : Jvm.MethodName) jdk_37_method_2_code (1 : Nat) (Option.some Jvm.ClassFile.FieldType.int)).before args0 about1 = true := code_word (m := ⟨21, 0⟩) (meth := k21m0) (c := k21c0) (by decide +kernel) rfl rfl rfl (by decide +kernel)
set_option maxRecDepth 65536 in
theorem w_c35 : (Jvm.Cond.code ({ cls := "com/example/reweave/reweave/control/Point", name := "thread", desc := "()I" } : Jvm.MethodName) prog_53_method_12_code (1 : Nat) (Option.some Jvm.ClassFile.FieldType.int)).before args0 about1 = true := code_word (m := ⟨20, 3⟩) (meth := k20m3) (c := k20c3) (by decide +kernel) rfl rfl rfl (by decide +kernel)
set_option maxRecDepth 65536 in
theorem w_c36 : (Jvm.Cond.code ({ cls := "com/example/reweave/reweave/control/Point", name := "location", desc := "()Lcom/example/reweave/reweave/control/Location;" } : Jvm.MethodName) prog_53_method_13_code (1 : Nat) (Option.some (Jvm.ClassFile.FieldType.object "com/example/reweave/reweave/control/Location"))).before args0 about1 = true := code_word (m := ⟨20, 4⟩) (meth := k20m4) (c := k20c4) (by decide +kernel) rfl rfl rfl (by decide +kernel)
set_option maxRecDepth 65536 in
theorem w_c37 : (Jvm.Cond.code ({ cls := "com/example/reweave/reweave/control/SharedValues", name := "index", desc := "(Ljava/lang/Object;)I" } : Jvm.MethodName) prog_65_method_2_code (2 : Nat) (Option.some Jvm.ClassFile.FieldType.int)).before args0 about1 = true := code_word (m := ⟨33, 1⟩) (meth := k33m1) (c := k33c1) (by decide +kernel) rfl rfl rfl (by decide +kernel)
set_option maxRecDepth 65536 in
theorem w_c38 : (Jvm.Cond.code ({ cls := "java/util/ArrayList", name := "size", desc := "()I" } : Jvm.MethodName) jdk_38_method_8_code (1 : Nat) (Option.some Jvm.ClassFile.FieldType.int)).before args0 about1 = true := code_word (m := ⟨11, 3⟩) (meth := k11m3) (c := k11c3) (by decide +kernel) rfl rfl rfl (by decide +kernel)
set_option maxRecDepth 65536 in
theorem w_c39 : (Jvm.Cond.code ({ cls := "com/example/reweave/reweave/control/Point", name := "runnable", desc := "()Ljava/util/List;" } : Jvm.MethodName) prog_53_method_14_code (1 : Nat) (Option.some (Jvm.ClassFile.FieldType.object "java/util/List"))).before args0 about1 = true := code_word (m := ⟨20, 5⟩) (meth := k20m5) (c := k20c5) (by decide +kernel) rfl rfl rfl (by decide +kernel)
set_option maxRecDepth 65536 in
theorem w_c40 : (Jvm.Cond.code ({ cls := "com/example/reweave/reweave/control/Point", name := "timeOuts", desc := "()Ljava/util/List;" } : Jvm.MethodName) prog_53_method_15_code (1 : Nat) (Option.some (Jvm.ClassFile.FieldType.object "java/util/List"))).before args0 about1 = true := code_word (m := ⟨20, 6⟩) (meth := k20m6) (c := k20c6) (by decide +kernel) rfl rfl rfl (by decide +kernel)
set_option maxRecDepth 65536 in
theorem w_c41 : (Jvm.Cond.code ({ cls := "com/example/reweave/reweave/control/SearchPath", name := "listsRow", desc := "(IIII)I" } : Jvm.MethodName) prog_62_method_4_code (7 : Nat) (Option.some Jvm.ClassFile.FieldType.int)).before args0 about1 = true := code_word (m := ⟨31, 2⟩) (meth := k31m2) (c := k31c2) (by decide +kernel) rfl rfl rfl (by decide +kernel)
set_option maxRecDepth 65536 in
theorem w_c42 : (Jvm.Cond.code ({ cls := "com/example/reweave/reweave/control/SearchPath", name := "hasRacedWithoutAMonitor", desc := "(I)Z" } : Jvm.MethodName) prog_62_method_16_code (2 : Nat) (Option.some Jvm.ClassFile.FieldType.boolean)).before args0 about1 = true := code_word (m := ⟨31, 4⟩) (meth := k31m4) (c := k31c4) (by decide +kernel) rfl rfl rfl (by decide +kernel)
set_option maxRecDepth 65536 in
theorem w_c43 : (Jvm.Cond.code ({ cls := "com/example/reweave/reweave/control/SearchPath", name := "tail", desc := "(I)V" } : Jvm.MethodName) prog_62_method_15_code (2 : Nat) (Option.none : Option Jvm.ClassFile.FieldType)).before args0 about1 = true := code_word (m := ⟨31, 3⟩) (meth := k31m3) (c := k31c3) (by decide +kernel) rfl rfl rfl (by decide +kernel)
set_option maxRecDepth 65536 in
theorem w_c44 : (Jvm.Cond.code ({ cls := "com/example/reweave/reweave/control/SearchPath", name := "racedWithoutAMonitor", desc := "(I)V" } : Jvm.MethodName) prog_62_method_17_code (2 : Nat) (Option.none : Option Jvm.ClassFile.FieldType)).before args0 about1 = true := code_word (m := ⟨31, 5⟩) (meth := k31m5) (c := k31c5) (by decide +kernel) rfl rfl rfl (by decide +kernel)
def codes1 : List Jvm.Cond := [Jvm.Cond.code x code maxLocals ret, Jvm.Cond.code ({ cls := "java/util/ArrayList", name := "<init>", desc := "()V" } : Jvm.MethodName) jdk_38_method_2_code (1 : Nat) (Option.none : Option Jvm.ClassFile.FieldType), Jvm.Cond.code ({ cls := "java/util/AbstractList", name := "<init>", desc := "()V" } : Jvm.MethodName) jdk_39_method_1_code (1 : Nat) (Option.none : Option Jvm.ClassFile.FieldType), Jvm.Cond.code ({ cls := "java/util/AbstractCollection", name := "<init>", desc := "()V" } : Jvm.MethodName) jdk_22_method_1_code (1 : Nat) (Option.none : Option Jvm.ClassFile.FieldType), Jvm.Cond.code ({ cls := "java/lang/Object", name := "<init>", desc := "()V" } : Jvm.MethodName) object_method_1_code (1 : Nat) (Option.none : Option Jvm.ClassFile.FieldType), Jvm.Cond.code ({ cls := "java/lang/Integer", name := "valueOf", desc := "(I)Ljava/lang/Integer;" } : Jvm.MethodName) jdk_33_method_22_code (1 : Nat) (Option.some (Jvm.ClassFile.FieldType.object "java/lang/Integer")), Jvm.Cond.code ({ cls := "java/util/ArrayList", name := "add", desc := "(Ljava/lang/Object;)Z" } : Jvm.MethodName) jdk_38_method_25_code (2 : Nat) (Option.some Jvm.ClassFile.FieldType.boolean), Jvm.Cond.code ({ cls := "java/util/ArrayList", name := "add", desc := "(Ljava/lang/Object;[Ljava/lang/Object;I)V" } : Jvm.MethodName) jdk_38_method_24_code (4 : Nat) (Option.none : Option Jvm.ClassFile.FieldType), Jvm.Cond.code ({ cls := "java/util/ArrayList", name := "grow", desc := "()[Ljava/lang/Object;" } : Jvm.MethodName) jdk_38_method_7_code (1 : Nat) (Option.some (Jvm.ClassFile.FieldType.array (Jvm.ClassFile.FieldType.object "java/lang/Object"))), Jvm.Cond.code ({ cls := "java/util/ArrayList", name := "grow", desc := "(I)[Ljava/lang/Object;" } : Jvm.MethodName) jdk_38_method_6_code (4 : Nat) (Option.some (Jvm.ClassFile.FieldType.array (Jvm.ClassFile.FieldType.object "java/lang/Object"))), Jvm.Cond.code ({ cls := "java/lang/Math", name := "max", desc := "(II)I" } : Jvm.MethodName) jdk_29_method_65_code (2 : Nat) (Option.some Jvm.ClassFile.FieldType.int), Jvm.Cond.code ({ cls := "com/example/reweave/reweave/control/SearchPathHasRacedWithoutAMonitorPinLaw", name := "kind", desc := "(I)Lcom/example/reweave/reweave/control/Point$Kind;" } : Jvm.MethodName) method_2_code (2 : Nat) (Option.some (Jvm.ClassFile.FieldType.object "com/example/reweave/reweave/control/Point$Kind")), Jvm.Cond.code ({ cls := "com/example/reweave/reweave/control/Point", name := "<init>", desc := "(Lcom/example/reweave/reweave/control/Point$Kind;ILcom/example/reweave/reweave/control/Location;Ljava/util/List;)V" } : Jvm.MethodName) prog_53_method_2_code (5 : Nat) (Option.none : Option Jvm.ClassFile.FieldType), Jvm.Cond.code ({ cls := "java/util/List", name := "of", desc := "()Ljava/util/List;" } : Jvm.MethodName) jdk_40_method_36_code (0 : Nat) (Option.some (Jvm.ClassFile.FieldType.object "java/util/List")), Jvm.Cond.code ({ cls := "com/example/reweave/reweave/control/Point", name := "<init>", desc := "(Lcom/example/reweave/reweave/control/Point$Kind;ILcom/example/reweave/reweave/control/Location;Ljava/util/List;Ljava/util/List;)V" } : Jvm.MethodName) prog_53_method_1_code (6 : Nat) (Option.none : Option Jvm.ClassFile.FieldType), Jvm.Cond.code ({ cls := "java/lang/Record", name := "<init>", desc := "()V" } : Jvm.MethodName) jdk_30_method_1_code (1 : Nat) (Option.none : Option Jvm.ClassFile.FieldType), Jvm.Cond.code ({ cls := "java/util/List", name := "copyOf", desc := "(Ljava/util/Collection;)Ljava/util/List;" } : Jvm.MethodName) jdk_40_method_48_code (1 : Nat) (Option.some (Jvm.ClassFile.FieldType.object "java/util/List")), Jvm.Cond.code ({ cls := "java/util/ImmutableCollections", name := "listCopy", desc := "(Ljava/util/Collection;)Ljava/util/List;" } : Jvm.MethodName) jdk_56_method_3_code (2 : Nat) (Option.some (Jvm.ClassFile.FieldType.object "java/util/List")), Jvm.Cond.code ({ cls := "java/util/ArrayList", name := "isEmpty", desc := "()Z" } : Jvm.MethodName) jdk_38_method_9_code (1 : Nat) (Option.some Jvm.ClassFile.FieldType.boolean), Jvm.Cond.code ({ cls := "java/util/ArrayList", name := "toArray", desc := "()[Ljava/lang/Object;" } : Jvm.MethodName) jdk_38_method_16_code (1 : Nat) (Option.some (Jvm.ClassFile.FieldType.array (Jvm.ClassFile.FieldType.object "java/lang/Object"))), Jvm.Cond.code ({ cls := "java/util/Arrays", name := "copyOf", desc := "([Ljava/lang/Object;I)[Ljava/lang/Object;" } : Jvm.MethodName) jdk_65_method_119_code (2 : Nat) (Option.some (Jvm.ClassFile.FieldType.array (Jvm.ClassFile.FieldType.object "java/lang/Object"))), Jvm.Cond.code ({ cls := "java/util/Arrays", name := "copyOf", desc := "([Ljava/lang/Object;ILjava/lang/Class;)[Ljava/lang/Object;" } : Jvm.MethodName) jdk_65_method_120_code (4 : Nat) (Option.some (Jvm.ClassFile.FieldType.array (Jvm.ClassFile.FieldType.object "java/lang/Object"))), Jvm.Cond.code ({ cls := "java/lang/Math", name := "min", desc := "(II)I" } : Jvm.MethodName) jdk_29_method_69_code (2 : Nat) (Option.some Jvm.ClassFile.FieldType.int), Jvm.Cond.code ({ cls := "java/util/List", name := "of", desc := "([Ljava/lang/Object;)Ljava/util/List;" } : Jvm.MethodName) jdk_40_method_47_code (2 : Nat) (Option.some (Jvm.ClassFile.FieldType.object "java/util/List")), Jvm.Cond.code ({ cls := "java/util/ImmutableCollections$List12", name := "<init>", desc := "(Ljava/lang/Object;Ljava/lang/Object;)V" } : Jvm.MethodName) jdk_44_method_2_code (3 : Nat) (Option.none : Option Jvm.ClassFile.FieldType), Jvm.Cond.code ({ cls := "java/util/ImmutableCollections$AbstractImmutableList", name := "<init>", desc := "()V" } : Jvm.MethodName) jdk_46_method_1_code (1 : Nat) (Option.none : Option Jvm.ClassFile.FieldType), Jvm.Cond.code ({ cls := "java/util/ImmutableCollections$AbstractImmutableCollection", name := "<init>", desc := "()V" } : Jvm.MethodName) jdk_47_method_1_code (1 : Nat) (Option.none : Option Jvm.ClassFile.FieldType), Jvm.Cond.code ({ cls := "java/util/Objects", name := "requireNonNull", desc := "(Ljava/lang/Object;)Ljava/lang/Object;" } : Jvm.MethodName) jdk_31_method_10_code (1 : Nat) (Option.some (Jvm.ClassFile.FieldType.object "java/lang/Object")), Jvm.Cond.code ({ cls := "com/example/reweave/reweave/control/SearchPath", name := "<init>", desc := "()V" } : Jvm.MethodName) prog_62_method_1_code (1 : Nat) (Option.none : Option Jvm.ClassFile.FieldType), Jvm.Cond.code ({ cls := "com/example/reweave/reweave/control/SharedValues", name := "<init>", desc := "()V" } : Jvm.MethodName) prog_65_method_1_code (1 : Nat) (Option.none : Option Jvm.ClassFile.FieldType), Jvm.Cond.code ({ cls := "java/util/HashMap", name := "<init>", desc := "()V" } : Jvm.MethodName) jdk_69_method_7_code (1 : Nat) (Option.none : Option Jvm.ClassFile.FieldType), Jvm.Cond.code ({ cls := "java/util/AbstractMap", name := "<init>", desc := "()V" } : Jvm.MethodName) jdk_71_method_1_code (1 : Nat) (Option.none : Option Jvm.ClassFile.FieldType), Jvm.Cond.code ({ cls := "com/example/reweave/reweave/control/SearchPath", name := "add", desc := "(Ljava/lang/Object;Ljava/util/List;Ljava/util/List;)I" } : Jvm.MethodName) prog_62_method_3_code (10 : Nat) (Option.some Jvm.ClassFile.FieldType.int), Jvm.Cond.code ({ cls := "com/example/reweave/reweave/control/Point", name := "kind", desc := "()Lcom/example/reweave/reweave/control/Point$Kind;" } : Jvm.MethodName) prog_53_method_11_code (1 : Nat) (Option.some (Jvm.ClassFile.FieldType.object "com/example/reweave/reweave/control/Point$Kind")), Jvm.Cond.code ({ cls := "java/lang/Enum", name := "ordinal", desc := "()I" } : Jvm.MethodName) jdk_37_method_2_code (1 : Nat) (Option.some Jvm.ClassFile.FieldType.int), Jvm.Cond.code ({ cls := "com/example/reweave/reweave/control/Point", name := "thread", desc := "()I" } : Jvm.MethodName) prog_53_method_12_code (1 : Nat) (Option.some Jvm.ClassFile.FieldType.int), Jvm.Cond.code ({ cls := "com/example/reweave/reweave/control/Point", name := "location", desc := "()Lcom/example/reweave/reweave/control/Location;" } : Jvm.MethodName) prog_53_method_13_code (1 : Nat) (Option.some (Jvm.ClassFile.FieldType.object "com/example/reweave/reweave/control/Location")), Jvm.Cond.code ({ cls := "com/example/reweave/reweave/control/SharedValues", name := "index", desc := "(Ljava/lang/Object;)I" } : Jvm.MethodName) prog_65_method_2_code (2 : Nat) (Option.some Jvm.ClassFile.FieldType.int), Jvm.Cond.code ({ cls := "java/util/ArrayList", name := "size", desc := "()I" } : Jvm.MethodName) jdk_38_method_8_code (1 : Nat) (Option.some Jvm.ClassFile.FieldType.int), Jvm.Cond.code ({ cls := "com/example/reweave/reweave/control/Point", name := "runnable", desc := "()Ljava/util/List;" } : Jvm.MethodName) prog_53_method_14_code (1 : Nat) (Option.some (Jvm.ClassFile.FieldType.object "java/util/List")), Jvm.Cond.code ({ cls := "com/example/reweave/reweave/control/Point", name := "timeOuts", desc := "()Ljava/util/List;" } : Jvm.MethodName) prog_53_method_15_code (1 : Nat) (Option.some (Jvm.ClassFile.FieldType.object "java/util/List")), Jvm.Cond.code ({ cls := "com/example/reweave/reweave/control/SearchPath", name := "listsRow", desc := "(IIII)I" } : Jvm.MethodName) prog_62_method_4_code (7 : Nat) (Option.some Jvm.ClassFile.FieldType.int), Jvm.Cond.code ({ cls := "com/example/reweave/reweave/control/SearchPath", name := "hasRacedWithoutAMonitor", desc := "(I)Z" } : Jvm.MethodName) prog_62_method_16_code (2 : Nat) (Option.some Jvm.ClassFile.FieldType.boolean), Jvm.Cond.code ({ cls := "com/example/reweave/reweave/control/SearchPath", name := "tail", desc := "(I)V" } : Jvm.MethodName) prog_62_method_15_code (2 : Nat) (Option.none : Option Jvm.ClassFile.FieldType), Jvm.Cond.code ({ cls := "com/example/reweave/reweave/control/SearchPath", name := "racedWithoutAMonitor", desc := "(I)V" } : Jvm.MethodName) prog_62_method_17_code (2 : Nat) (Option.none : Option Jvm.ClassFile.FieldType)]
set_option maxRecDepth 65536 in
theorem codes_eq : words1.filter isCode = codes1 := rfl
theorem w_codes : ∀ c ∈ words1.filter isCode, c.before args0 about1 = true := by
  rw [codes_eq]
  intro c hc
  simp only [codes1, List.mem_cons, List.not_mem_nil, or_false] at hc
  rcases hc with rfl | rfl | rfl | rfl | rfl | rfl | rfl | rfl | rfl | rfl | rfl | rfl | rfl | rfl | rfl | rfl | rfl | rfl | rfl | rfl | rfl | rfl | rfl | rfl | rfl | rfl | rfl | rfl | rfl | rfl | rfl | rfl | rfl | rfl | rfl | rfl | rfl | rfl | rfl | rfl | rfl | rfl | rfl | rfl | rfl
  · exact w_c0
  · exact w_c1
  · exact w_c2
  · exact w_c3
  · exact w_c4
  · exact w_c5
  · exact w_c6
  · exact w_c7
  · exact w_c8
  · exact w_c9
  · exact w_c10
  · exact w_c11
  · exact w_c12
  · exact w_c13
  · exact w_c14
  · exact w_c15
  · exact w_c16
  · exact w_c17
  · exact w_c18
  · exact w_c19
  · exact w_c20
  · exact w_c21
  · exact w_c22
  · exact w_c23
  · exact w_c24
  · exact w_c25
  · exact w_c26
  · exact w_c27
  · exact w_c28
  · exact w_c29
  · exact w_c30
  · exact w_c31
  · exact w_c32
  · exact w_c33
  · exact w_c34
  · exact w_c35
  · exact w_c36
  · exact w_c37
  · exact w_c38
  · exact w_c39
  · exact w_c40
  · exact w_c41
  · exact w_c42
  · exact w_c43
  · exact w_c44
set_option maxRecDepth 65536 in
theorem w_t1 : (words1.take 24).all (fun c => isCode c || c.before args0 about1) = true := by decide +kernel
set_option maxRecDepth 65536 in
theorem w_t2 : ((words1.drop 24).take 24).all (fun c => isCode c || c.before args0 about1) = true := by decide +kernel
set_option maxRecDepth 65536 in
theorem w_t3 : (((words1.drop 24).drop 24).take 24).all (fun c => isCode c || c.before args0 about1) = true := by decide +kernel
set_option maxRecDepth 65536 in
theorem w_t4 : ((((words1.drop 24).drop 24).drop 24).take 24).all (fun c => isCode c || c.before args0 about1) = true := by decide +kernel
set_option maxRecDepth 65536 in
theorem w_t5 : (((((words1.drop 24).drop 24).drop 24).drop 24).take 24).all (fun c => isCode c || c.before args0 about1) = true := by decide +kernel
set_option maxRecDepth 65536 in
theorem w_t6 : ((((((words1.drop 24).drop 24).drop 24).drop 24).drop 24).take 24).all (fun c => isCode c || c.before args0 about1) = true := by decide +kernel
set_option maxRecDepth 65536 in
theorem w_t7 : (((((((words1.drop 24).drop 24).drop 24).drop 24).drop 24).drop 24).take 24).all (fun c => isCode c || c.before args0 about1) = true := by decide +kernel
set_option maxRecDepth 65536 in
theorem w_t8 : ((((((((words1.drop 24).drop 24).drop 24).drop 24).drop 24).drop 24).drop 24).take 24).all (fun c => isCode c || c.before args0 about1) = true := by decide +kernel
set_option maxRecDepth 65536 in
theorem w_t9 : (((((((((words1.drop 24).drop 24).drop 24).drop 24).drop 24).drop 24).drop 24).drop 24).take 24).all (fun c => isCode c || c.before args0 about1) = true := by decide +kernel
set_option maxRecDepth 65536 in
theorem w_t10 : ((((((((((words1.drop 24).drop 24).drop 24).drop 24).drop 24).drop 24).drop 24).drop 24).drop 24).take 24).all (fun c => isCode c || c.before args0 about1) = true := by decide +kernel
set_option maxRecDepth 65536 in
theorem w_t11 : (((((((((((words1.drop 24).drop 24).drop 24).drop 24).drop 24).drop 24).drop 24).drop 24).drop 24).drop 24).take 24).all (fun c => isCode c || c.before args0 about1) = true := by decide +kernel
set_option maxRecDepth 65536 in
theorem w_t12 : ((((((((((((words1.drop 24).drop 24).drop 24).drop 24).drop 24).drop 24).drop 24).drop 24).drop 24).drop 24).drop 24).take 24).all (fun c => isCode c || c.before args0 about1) = true := by decide +kernel
set_option maxRecDepth 65536 in
theorem w_t13 : (((((((((((((words1.drop 24).drop 24).drop 24).drop 24).drop 24).drop 24).drop 24).drop 24).drop 24).drop 24).drop 24).drop 24).take 24).all (fun c => isCode c || c.before args0 about1) = true := by decide +kernel
set_option maxRecDepth 65536 in
theorem w_t14 : ((((((((((((((words1.drop 24).drop 24).drop 24).drop 24).drop 24).drop 24).drop 24).drop 24).drop 24).drop 24).drop 24).drop 24).drop 24).take 24).all (fun c => isCode c || c.before args0 about1) = true := by decide +kernel
set_option maxRecDepth 65536 in
theorem w_t15 : (((((((((((((((words1.drop 24).drop 24).drop 24).drop 24).drop 24).drop 24).drop 24).drop 24).drop 24).drop 24).drop 24).drop 24).drop 24).drop 24).take 24).all (fun c => isCode c || c.before args0 about1) = true := by decide +kernel
set_option maxRecDepth 65536 in
theorem w_t16 : (((((((((((((((words1.drop 24).drop 24).drop 24).drop 24).drop 24).drop 24).drop 24).drop 24).drop 24).drop 24).drop 24).drop 24).drop 24).drop 24).drop 24).all (fun c => isCode c || c.before args0 about1) = true := by decide +kernel
theorem w_tables : (allAtoms (Jvm.Cond.code x code maxLocals ret :: tables_1)).before args0 about1 = true := by
  rw [allAtoms_all]
  show words1.all (fun c => c.before args0 about1) = true
  refine all_split ?_ w_codes
  rw [← List.take_append_drop 24 words1, List.all_append, w_t1, ← List.take_append_drop 24 (words1.drop 24), List.all_append, w_t2, ← List.take_append_drop 24 ((words1.drop 24).drop 24), List.all_append, w_t3, ← List.take_append_drop 24 (((words1.drop 24).drop 24).drop 24), List.all_append, w_t4, ← List.take_append_drop 24 ((((words1.drop 24).drop 24).drop 24).drop 24), List.all_append, w_t5, ← List.take_append_drop 24 (((((words1.drop 24).drop 24).drop 24).drop 24).drop 24), List.all_append, w_t6, ← List.take_append_drop 24 ((((((words1.drop 24).drop 24).drop 24).drop 24).drop 24).drop 24), List.all_append, w_t7, ← List.take_append_drop 24 (((((((words1.drop 24).drop 24).drop 24).drop 24).drop 24).drop 24).drop 24), List.all_append, w_t8, ← List.take_append_drop 24 ((((((((words1.drop 24).drop 24).drop 24).drop 24).drop 24).drop 24).drop 24).drop 24), List.all_append, w_t9, ← List.take_append_drop 24 (((((((((words1.drop 24).drop 24).drop 24).drop 24).drop 24).drop 24).drop 24).drop 24).drop 24), List.all_append, w_t10, ← List.take_append_drop 24 ((((((((((words1.drop 24).drop 24).drop 24).drop 24).drop 24).drop 24).drop 24).drop 24).drop 24).drop 24), List.all_append, w_t11, ← List.take_append_drop 24 (((((((((((words1.drop 24).drop 24).drop 24).drop 24).drop 24).drop 24).drop 24).drop 24).drop 24).drop 24).drop 24), List.all_append, w_t12, ← List.take_append_drop 24 ((((((((((((words1.drop 24).drop 24).drop 24).drop 24).drop 24).drop 24).drop 24).drop 24).drop 24).drop 24).drop 24).drop 24), List.all_append, w_t13, ← List.take_append_drop 24 (((((((((((((words1.drop 24).drop 24).drop 24).drop 24).drop 24).drop 24).drop 24).drop 24).drop 24).drop 24).drop 24).drop 24).drop 24), List.all_append, w_t14, ← List.take_append_drop 24 ((((((((((((((words1.drop 24).drop 24).drop 24).drop 24).drop 24).drop 24).drop 24).drop 24).drop 24).drop 24).drop 24).drop 24).drop 24).drop 24), List.all_append, w_t15, w_t16]
  rfl
set_option maxRecDepth 65536 in
theorem w_rest : rest_1_c.before args0 about1 = true := by decide +kernel
set_option maxRecDepth 65536 in
theorem w_case : (Jvm.Cond.and given_1 narrow_1).before args0 about1 = true := by decide +kernel
theorem w_applies : (headSpec (Jvm.Cond.code x code maxLocals ret :: tables_1) room_1).applies x e0.platform about1 = true :=
  (Spec.applies_iff w_frames).mpr ⟨w_running, w_runnable, w_alone, w_named, w_hears, w_ripe, w_room, w_tables⟩
set_option maxRecDepth 65536 in
theorem atStart : AtStart classFile x code maxLocals ret World_1 tables_1 room_1 Calls_1 rest_1 Pre_1 launch0 p0 e0 about1 theMethod args0 below0 :=
  ⟨lists_1, trivial, launch0.admits_env _ _ _, launch0.least_env, fairChoices_fair.cas, fairChoices_fair.clock, w_frames, w_args, w_heap, w_applies, ⟨⟨44, k44, 4, by decide +kernel, rfl, rfl, _, rfl, rfl⟩, trivial⟩, w_rest, w_case⟩
end start1
theorem witness_1 : WitnessClaimed_1 := ⟨start1.p0, start1.e0, start1.about1, start1.theMethod, start1.args0, start1.below0, start1.atStart⟩
end Jvm.Pilot.@@N@@

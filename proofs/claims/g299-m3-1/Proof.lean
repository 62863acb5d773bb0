import JvmDerived
import JvmDerived.Pilot.@@N@@Statement
import JvmDerived.Pilot.@@N@@Code
set_option linter.unusedVariables false
set_option linter.unusedSimpArgs false
namespace Jvm.Pilot.@@N@@
open Jvm Jvm.ClassFile Sem Op Lib Jvm.Free Jvm.Stand Jvm.LawKit Jvm.RoadKit Bundle Jvm.Pilot.@@N@@.Jvm.D
/-- from the state A the body's walk comes to an end of which Q tells -/
def OwnGo (p : Program) (e : Env) (below : List Frame) (Q : Outcome → State → Prop) (A : State) : Prop :=
  ∃ s₂ o, Steps p.tables e below A s₂ ∧ s₂.status = .running ∧ Ended s₂ below o ∧ Q o s₂
theorem own_go {p : Program} {e : Env} {below : List Frame} {Q : Outcome → State → Prop} {A B : State} (st : ∀ t, Steps p.tables e below B t → Steps p.tables e below A t) (h : OwnGo p e below Q B) : OwnGo p e below Q A := by
  obtain ⟨s₂, o, h1, h2⟩ := h
  exact ⟨s₂, o, st _ h1, h2⟩
theorem own_fldI {args : Array Value} {s : State} {t : Term} {C n d : String} {k : Int32} {a : Addr} (ev : t.eval args s none [] s = some (.ref a)) (h : (Jvm.Cond.eq (Term.field t C n d) (Term.int k)).value args s none s [] = some true) : Fld s s.heap a C n d (.int k) := by
  apply Fld.start
  have q := fld_at (C := C) (n := n) (dd := d) ev
  cases hf : s.fieldOf? a C n d with
  | none => rw [hf] at q; simp [Cond.value, q] at h
  | some v => rw [hf] at q; cases v <;> simp [Cond.value, q, Term.int_eval] at h; rw [h]
theorem own_fldL {args : Array Value} {s : State} {t : Term} {C n d : String} {k : Int64} {a : Addr} (ev : t.eval args s none [] s = some (.ref a)) (h : (Jvm.Cond.eq (Term.field t C n d) (Term.long k)).value args s none s [] = some true) : Fld s s.heap a C n d (.long k) := by
  apply Fld.start
  have q := fld_at (C := C) (n := n) (dd := d) ev
  cases hf : s.fieldOf? a C n d with
  | none => rw [hf] at q; simp [Cond.value, q] at h
  | some v => rw [hf] at q; cases v <;> simp [Cond.value, q, long_at] at h; rw [h]
theorem own_refne {a b : Addr} (h : a ≠ b) : decide (Value.ref a = Value.ref b) = false := decide_eq_false fun q => h (Value.ref.inj q)
theorem own_refeq (a : Addr) : decide (Value.ref a = Value.ref a) = true := decide_eq_true rfl
theorem own_rn (a : Addr) : decide (Value.ref a = Value.null) = false := decide_eq_false fun q => by cases q
theorem own_nr (a : Addr) : decide (Value.null = Value.ref a) = false := decide_eq_false fun q => by cases q
theorem own_narb (x : Int32) : nar .byte (x.toInt8.toInt32) = x.toInt8.toInt32 := by simp [nar]
theorem own_selp {Z s : State} {a0 args : Array Value} {y : MethodName} {n : Nat} (hZ : Z.Warmed39 s.vm) (wi : (Jvm.Cond.instantiable y.cls n).before a0 Z = true) (wp : (Jvm.Cond.privateMethod y).before a0 Z = true) (wm : (Jvm.Cond.instanceMethod y).before a0 Z = true)
    (hy : y.cls ≠ "java/lang/invoke/MethodHandle" ∧ y.cls ≠ "java/lang/invoke/VarHandle") : (Jvm.Cond.selects y.cls y y).before args s = true := by
  obtain ⟨c, k, h1, h2, -, h4, -⟩ := Cond.instantiable_spec (mv hZ wi : (Jvm.Cond.instantiable y.cls n).before args s = true)
  exact selects_self_of_private h1 h2 (by revert h4; cases k.isInterface <;> simp) (Cond.privateMethod_at (mvP hZ wp (args := args))) (mv hZ wm) hy
theorem own_monoW {s : State} {o : Outcome} {t : State} {L : List Loc} {k n k' n' : Nat} (h : ReturnedEndW s o t L k n) (hk : k ≤ k') (hn : n ≤ n') : ReturnedEndW s o t L k' n' := ⟨h.1, h.2.1, h.2.2.1, h.2.2.2.mono hk hn⟩
theorem own_newlt {a b k : Nat} (q : a < k) (g : k ≤ b) : a ≠ b := Nat.ne_of_lt (Nat.lt_of_lt_of_le q g)
theorem own_sz {Z : State} {n0 : Nat} {h : Heap} (O : Old Z n0 h) : n0 ≤ h.size := O.1 ▸ O.2.1
theorem own_newne {a b : Addr} {h : Heap} (g : b = h.size) (q : a < h.size) : a ≠ b := fun z => by rw [z, g] at q; exact Nat.lt_irrefl _ q
def OwnFacts (Z : State) (aFFDHE2048 aCONFIRMATION aFFDHE4096 aFFDHE3072 : Addr) : Prop := (Sta Z Z.heap "com/example/portcullis/portcullis/Group" "FFDHE2048" "Lcom/example/portcullis/portcullis/Group;" (.ref aFFDHE2048)) ∧ (Exa Z Z.heap aFFDHE2048 "com/example/portcullis/portcullis/Group") ∧ (Sta Z Z.heap "com/example/portcullis/portcullis/MessageType" "CONFIRMATION" "Lcom/example/portcullis/portcullis/MessageType;" (.ref aCONFIRMATION)) ∧ (Exa Z Z.heap aCONFIRMATION "com/example/portcullis/portcullis/MessageType") ∧ (Fld Z Z.heap aCONFIRMATION "com/example/portcullis/portcullis/MessageType" "id" "B" (.int (2 : Int32))) ∧ (Fld Z Z.heap aFFDHE2048 "com/example/portcullis/portcullis/Group" "id" "B" (.int (1 : Int32))) ∧ (Sta Z Z.heap "com/example/portcullis/portcullis/Group" "FFDHE4096" "Lcom/example/portcullis/portcullis/Group;" (.ref aFFDHE4096)) ∧ (Exa Z Z.heap aFFDHE4096 "com/example/portcullis/portcullis/Group") ∧ (Fld Z Z.heap aFFDHE4096 "com/example/portcullis/portcullis/Group" "id" "B" (.int (3 : Int32))) ∧ (Sta Z Z.heap "com/example/portcullis/portcullis/Group" "FFDHE3072" "Lcom/example/portcullis/portcullis/Group;" (.ref aFFDHE3072)) ∧ (Exa Z Z.heap aFFDHE3072 "com/example/portcullis/portcullis/Group") ∧ (Fld Z Z.heap aFFDHE3072 "com/example/portcullis/portcullis/Group" "id" "B" (.int (2 : Int32)))
theorem d_prog_3_method_4_0 : decode prog_3_method_4_code 0 = .ok (.aload_n 0, 1) := by decide +kernel
theorem d_prog_3_method_4_1 : decode prog_3_method_4_code 1 = .ok (.getfield 32, 3) := by decide +kernel
theorem d_prog_3_method_4_4 : decode prog_3_method_4_code 4 = .ok (.ireturn, 1) := by decide +kernel
theorem pn_com_example_portcullis_portcullis_Group : plainName "com/example/portcullis/portcullis/Group" = true := by first | (simp [plainName, overriddenIn]; done) | decide +kernel
def Q_idaFFDHE2048 (Z : State) (aFFDHE2048 aCONFIRMATION aFFDHE4096 aFFDHE3072 : Addr) (h0 : Heap) (n0 : Nat) (v : Option Value) (h : Heap) (L : List Loc) : Prop := v = some (.int (1 : Int32)) ∧ Fr n0 L ∧ h = h0
theorem ef_idaFFDHE2048 (m : MethodId) (x0 : Addr) : entryFrame m #[(.ref x0)] 1 = mkF m 0 #[.val (.ref x0)] [] := by first | (simp [entryFrame, mkF, argsToLocals, Value.category]; done) | rfl
set_option maxRecDepth 65536 in
set_option maxHeartbeats 40000000 in
theorem rm_idaFFDHE2048 (l : Launch) (Z : State) (a0 : Array Value) (hw : ∀ d ∈ tables_1, d.before a0 Z = true) (ws : List Jvm.Cond) (aFFDHE2048 aCONFIRMATION aFFDHE4096 aFFDHE3072 : Addr) (F0 : OwnFacts Z aFFDHE2048 aCONFIRMATION aFFDHE4096 aFFDHE3072) (h0 : Heap) (n0 : Nat) (O0 : Old Z n0 h0) :
    MetFree l (⟨"com/example/portcullis/portcullis/Group", "id", "()B"⟩ : MethodName) (head1 (Jvm.Cond.code (⟨"com/example/portcullis/portcullis/Group", "id", "()B"⟩ : MethodName) prog_3_method_4_code 1 (some .byte) :: ws) ({ frames := 0, cells := 0, slots := 0, locals := 0 } : Room)) (fun a U => a = #[(.ref aFFDHE2048)] ∧ Z.Warmed39 U.vm ∧ U.heap = h0) (fun _ _ _ _ _ => True) (fun _ U o U' => ∃ v L, o = .returned v ∧ Q_idaFFDHE2048 Z aFFDHE2048 aCONFIRMATION aFFDHE4096 aFFDHE3072 h0 n0 v U'.heap L ∧ FrameEnd U o U' L ({ frames := 0, cells := 0, slots := 0, locals := 0 } : Room).cells ({ frames := 0, cells := 0, slots := 0, locals := 0 } : Room).slots) := by
  refine MetFree.of_bodySF (plainFor_of_name pn_com_example_portcullis_portcullis_Group) hisR ?_
  intro p e s m args below meth c s₁ Bd hml0 hP hK
  obtain ⟨rfl, hZ, hh⟩ := hP
  have hx := Bd.exec
  have hby := Bd.bytes
  have hml : c.maxLocals = 1 := hml0
  have hown : s.vm.findClass "com/example/portcullis/portcullis/Group" = some m.cls := findClass_of_methodNamed Bd.named
  have hnm := (name_of_methodNamed Bd.named Bd.method).1
  have X0 : Stand p l e ({ frames := 0, cells := 0, slots := 0, locals := 0 } : Room) s m #[(.ref aFFDHE2048)] below meth c s₁ [] 0 0 := Stand.of_body Bd
  have e0 : s₁.heap = h0 := by rw [← hh, Bd.state]; rfl
  have N0 := Fr.nil n0
  refine own_go (Q := fun o U' => ∃ v L, o = .returned v ∧ Q_idaFFDHE2048 Z aFFDHE2048 aCONFIRMATION aFFDHE4096 aFFDHE3072 h0 n0 v U'.heap L ∧ FrameEnd s o U' L ({ frames := 0, cells := 0, slots := 0, locals := 0 } : Room).cells ({ frames := 0, cells := 0, slots := 0, locals := 0 } : Room).slots) (fun t k => castTop (ef_idaFFDHE2048 m aFFDHE2048) k) ?_
  show OwnGo p e below _ (s₁.setTop (mkF m 0 #[.val (.ref aFFDHE2048)] []))
  refine own_go (fun _ k => XS.aloadN X0.here hx rfl (hb hby d_prog_3_method_4_0) rfl rfl k) ?_
  show OwnGo p e below _ (s₁.setTop (mkF m 1 #[.val (.ref aFFDHE2048)] [(.ref aFFDHE2048)]))
  obtain ⟨T1, X1, e1, st1⟩ := getF X0 hx hZ hown (host := "") (Or.inl (hw _ (List.mem_of_getElem? (i := 28) rfl))) Via.refl e0 (F0.2.2.2.2.2.1.ext O0.2) (g := (mkF m 1 #[.val (.ref aFFDHE2048)] [(.ref aFFDHE2048)])) rfl rfl (hb hby d_prog_3_method_4_1)
  refine own_go st1 ?_
  show OwnGo p e below _ (T1.setTop (mkF m 4 #[.val (.ref aFFDHE2048)] [(.int (1 : Int32))]))
  obtain ⟨fs, hr, hrun, hended, hW, hsame⟩ := X1.leave (v := some (.int (1 : Int32))) (fun h => by rw [Bd.returns] at h; cases h)
  refine ⟨_, _, retOut X1 hx Bd.returns rfl (Or.inl ⟨rfl, Or.inr (Or.inr (Or.inl rfl)), _, rfl⟩) (hb hby d_prog_3_method_4_4) hr, hrun, hended, _, _, rfl, ?_, ⟨_, rfl⟩, hW, hsame.mono (by decide) (by decide)⟩
  show Q_idaFFDHE2048 Z aFFDHE2048 aCONFIRMATION aFFDHE4096 aFFDHE3072 h0 n0 _ T1.heap _
  rw [e1]
  exact ⟨rfl, N0, rfl⟩
def Q_idaFFDHE3072 (Z : State) (aFFDHE2048 aCONFIRMATION aFFDHE4096 aFFDHE3072 : Addr) (h0 : Heap) (n0 : Nat) (v : Option Value) (h : Heap) (L : List Loc) : Prop := v = some (.int (2 : Int32)) ∧ Fr n0 L ∧ h = h0
theorem ef_idaFFDHE3072 (m : MethodId) (x0 : Addr) : entryFrame m #[(.ref x0)] 1 = mkF m 0 #[.val (.ref x0)] [] := by first | (simp [entryFrame, mkF, argsToLocals, Value.category]; done) | rfl
set_option maxRecDepth 65536 in
set_option maxHeartbeats 40000000 in
theorem rm_idaFFDHE3072 (l : Launch) (Z : State) (a0 : Array Value) (hw : ∀ d ∈ tables_1, d.before a0 Z = true) (ws : List Jvm.Cond) (aFFDHE2048 aCONFIRMATION aFFDHE4096 aFFDHE3072 : Addr) (F0 : OwnFacts Z aFFDHE2048 aCONFIRMATION aFFDHE4096 aFFDHE3072) (h0 : Heap) (n0 : Nat) (O0 : Old Z n0 h0) :
    MetFree l (⟨"com/example/portcullis/portcullis/Group", "id", "()B"⟩ : MethodName) (head1 (Jvm.Cond.code (⟨"com/example/portcullis/portcullis/Group", "id", "()B"⟩ : MethodName) prog_3_method_4_code 1 (some .byte) :: ws) ({ frames := 0, cells := 0, slots := 0, locals := 0 } : Room)) (fun a U => a = #[(.ref aFFDHE3072)] ∧ Z.Warmed39 U.vm ∧ U.heap = h0) (fun _ _ _ _ _ => True) (fun _ U o U' => ∃ v L, o = .returned v ∧ Q_idaFFDHE3072 Z aFFDHE2048 aCONFIRMATION aFFDHE4096 aFFDHE3072 h0 n0 v U'.heap L ∧ FrameEnd U o U' L ({ frames := 0, cells := 0, slots := 0, locals := 0 } : Room).cells ({ frames := 0, cells := 0, slots := 0, locals := 0 } : Room).slots) := by
  refine MetFree.of_bodySF (plainFor_of_name pn_com_example_portcullis_portcullis_Group) hisR ?_
  intro p e s m args below meth c s₁ Bd hml0 hP hK
  obtain ⟨rfl, hZ, hh⟩ := hP
  have hx := Bd.exec
  have hby := Bd.bytes
  have hml : c.maxLocals = 1 := hml0
  have hown : s.vm.findClass "com/example/portcullis/portcullis/Group" = some m.cls := findClass_of_methodNamed Bd.named
  have hnm := (name_of_methodNamed Bd.named Bd.method).1
  have X0 : Stand p l e ({ frames := 0, cells := 0, slots := 0, locals := 0 } : Room) s m #[(.ref aFFDHE3072)] below meth c s₁ [] 0 0 := Stand.of_body Bd
  have e0 : s₁.heap = h0 := by rw [← hh, Bd.state]; rfl
  have N0 := Fr.nil n0
  refine own_go (Q := fun o U' => ∃ v L, o = .returned v ∧ Q_idaFFDHE3072 Z aFFDHE2048 aCONFIRMATION aFFDHE4096 aFFDHE3072 h0 n0 v U'.heap L ∧ FrameEnd s o U' L ({ frames := 0, cells := 0, slots := 0, locals := 0 } : Room).cells ({ frames := 0, cells := 0, slots := 0, locals := 0 } : Room).slots) (fun t k => castTop (ef_idaFFDHE3072 m aFFDHE3072) k) ?_
  show OwnGo p e below _ (s₁.setTop (mkF m 0 #[.val (.ref aFFDHE3072)] []))
  refine own_go (fun _ k => XS.aloadN X0.here hx rfl (hb hby d_prog_3_method_4_0) rfl rfl k) ?_
  show OwnGo p e below _ (s₁.setTop (mkF m 1 #[.val (.ref aFFDHE3072)] [(.ref aFFDHE3072)]))
  obtain ⟨T2, X2, e2, st2⟩ := getF X0 hx hZ hown (host := "") (Or.inl (hw _ (List.mem_of_getElem? (i := 28) rfl))) Via.refl e0 (F0.2.2.2.2.2.2.2.2.2.2.2.ext O0.2) (g := (mkF m 1 #[.val (.ref aFFDHE3072)] [(.ref aFFDHE3072)])) rfl rfl (hb hby d_prog_3_method_4_1)
  refine own_go st2 ?_
  show OwnGo p e below _ (T2.setTop (mkF m 4 #[.val (.ref aFFDHE3072)] [(.int (2 : Int32))]))
  obtain ⟨fs, hr, hrun, hended, hW, hsame⟩ := X2.leave (v := some (.int (2 : Int32))) (fun h => by rw [Bd.returns] at h; cases h)
  refine ⟨_, _, retOut X2 hx Bd.returns rfl (Or.inl ⟨rfl, Or.inr (Or.inr (Or.inl rfl)), _, rfl⟩) (hb hby d_prog_3_method_4_4) hr, hrun, hended, _, _, rfl, ?_, ⟨_, rfl⟩, hW, hsame.mono (by decide) (by decide)⟩
  show Q_idaFFDHE3072 Z aFFDHE2048 aCONFIRMATION aFFDHE4096 aFFDHE3072 h0 n0 _ T2.heap _
  rw [e2]
  exact ⟨rfl, N0, rfl⟩
def Q_idaFFDHE4096 (Z : State) (aFFDHE2048 aCONFIRMATION aFFDHE4096 aFFDHE3072 : Addr) (h0 : Heap) (n0 : Nat) (v : Option Value) (h : Heap) (L : List Loc) : Prop := v = some (.int (3 : Int32)) ∧ Fr n0 L ∧ h = h0
theorem ef_idaFFDHE4096 (m : MethodId) (x0 : Addr) : entryFrame m #[(.ref x0)] 1 = mkF m 0 #[.val (.ref x0)] [] := by first | (simp [entryFrame, mkF, argsToLocals, Value.category]; done) | rfl
set_option maxRecDepth 65536 in
set_option maxHeartbeats 40000000 in
theorem rm_idaFFDHE4096 (l : Launch) (Z : State) (a0 : Array Value) (hw : ∀ d ∈ tables_1, d.before a0 Z = true) (ws : List Jvm.Cond) (aFFDHE2048 aCONFIRMATION aFFDHE4096 aFFDHE3072 : Addr) (F0 : OwnFacts Z aFFDHE2048 aCONFIRMATION aFFDHE4096 aFFDHE3072) (h0 : Heap) (n0 : Nat) (O0 : Old Z n0 h0) :
    MetFree l (⟨"com/example/portcullis/portcullis/Group", "id", "()B"⟩ : MethodName) (head1 (Jvm.Cond.code (⟨"com/example/portcullis/portcullis/Group", "id", "()B"⟩ : MethodName) prog_3_method_4_code 1 (some .byte) :: ws) ({ frames := 0, cells := 0, slots := 0, locals := 0 } : Room)) (fun a U => a = #[(.ref aFFDHE4096)] ∧ Z.Warmed39 U.vm ∧ U.heap = h0) (fun _ _ _ _ _ => True) (fun _ U o U' => ∃ v L, o = .returned v ∧ Q_idaFFDHE4096 Z aFFDHE2048 aCONFIRMATION aFFDHE4096 aFFDHE3072 h0 n0 v U'.heap L ∧ FrameEnd U o U' L ({ frames := 0, cells := 0, slots := 0, locals := 0 } : Room).cells ({ frames := 0, cells := 0, slots := 0, locals := 0 } : Room).slots) := by
  refine MetFree.of_bodySF (plainFor_of_name pn_com_example_portcullis_portcullis_Group) hisR ?_
  intro p e s m args below meth c s₁ Bd hml0 hP hK
  obtain ⟨rfl, hZ, hh⟩ := hP
  have hx := Bd.exec
  have hby := Bd.bytes
  have hml : c.maxLocals = 1 := hml0
  have hown : s.vm.findClass "com/example/portcullis/portcullis/Group" = some m.cls := findClass_of_methodNamed Bd.named
  have hnm := (name_of_methodNamed Bd.named Bd.method).1
  have X0 : Stand p l e ({ frames := 0, cells := 0, slots := 0, locals := 0 } : Room) s m #[(.ref aFFDHE4096)] below meth c s₁ [] 0 0 := Stand.of_body Bd
  have e0 : s₁.heap = h0 := by rw [← hh, Bd.state]; rfl
  have N0 := Fr.nil n0
  refine own_go (Q := fun o U' => ∃ v L, o = .returned v ∧ Q_idaFFDHE4096 Z aFFDHE2048 aCONFIRMATION aFFDHE4096 aFFDHE3072 h0 n0 v U'.heap L ∧ FrameEnd s o U' L ({ frames := 0, cells := 0, slots := 0, locals := 0 } : Room).cells ({ frames := 0, cells := 0, slots := 0, locals := 0 } : Room).slots) (fun t k => castTop (ef_idaFFDHE4096 m aFFDHE4096) k) ?_
  show OwnGo p e below _ (s₁.setTop (mkF m 0 #[.val (.ref aFFDHE4096)] []))
  refine own_go (fun _ k => XS.aloadN X0.here hx rfl (hb hby d_prog_3_method_4_0) rfl rfl k) ?_
  show OwnGo p e below _ (s₁.setTop (mkF m 1 #[.val (.ref aFFDHE4096)] [(.ref aFFDHE4096)]))
  obtain ⟨T3, X3, e3, st3⟩ := getF X0 hx hZ hown (host := "") (Or.inl (hw _ (List.mem_of_getElem? (i := 28) rfl))) Via.refl e0 (F0.2.2.2.2.2.2.2.2.1.ext O0.2) (g := (mkF m 1 #[.val (.ref aFFDHE4096)] [(.ref aFFDHE4096)])) rfl rfl (hb hby d_prog_3_method_4_1)
  refine own_go st3 ?_
  show OwnGo p e below _ (T3.setTop (mkF m 4 #[.val (.ref aFFDHE4096)] [(.int (3 : Int32))]))
  obtain ⟨fs, hr, hrun, hended, hW, hsame⟩ := X3.leave (v := some (.int (3 : Int32))) (fun h => by rw [Bd.returns] at h; cases h)
  refine ⟨_, _, retOut X3 hx Bd.returns rfl (Or.inl ⟨rfl, Or.inr (Or.inr (Or.inl rfl)), _, rfl⟩) (hb hby d_prog_3_method_4_4) hr, hrun, hended, _, _, rfl, ?_, ⟨_, rfl⟩, hW, hsame.mono (by decide) (by decide)⟩
  show Q_idaFFDHE4096 Z aFFDHE2048 aCONFIRMATION aFFDHE4096 aFFDHE3072 h0 n0 _ T3.heap _
  rw [e3]
  exact ⟨rfl, N0, rfl⟩
theorem d_prog_6_method_4_0 : decode prog_6_method_4_code 0 = .ok (.aload_n 1, 1) := by decide +kernel
theorem d_prog_6_method_4_1 : decode prog_6_method_4_code 1 = .ok (.iconst 0, 1) := by decide +kernel
theorem d_prog_6_method_4_2 : decode prog_6_method_4_code 2 = .ok (.iconst 1, 1) := by decide +kernel
theorem d_prog_6_method_4_3 : decode prog_6_method_4_code 3 = .ok (.bastore, 1) := by decide +kernel
theorem d_prog_6_method_4_4 : decode prog_6_method_4_code 4 = .ok (.aload_n 1, 1) := by decide +kernel
theorem d_prog_6_method_4_5 : decode prog_6_method_4_code 5 = .ok (.iconst 1, 1) := by decide +kernel
theorem d_prog_6_method_4_6 : decode prog_6_method_4_code 6 = .ok (.aload_n 0, 1) := by decide +kernel
theorem d_prog_6_method_4_7 : decode prog_6_method_4_code 7 = .ok (.getfield 29, 3) := by decide +kernel
theorem d_prog_6_method_4_10 : decode prog_6_method_4_code 10 = .ok (.bastore, 1) := by decide +kernel
theorem d_prog_6_method_4_11 : decode prog_6_method_4_code 11 = .ok (.aload_n 1, 1) := by decide +kernel
theorem d_prog_6_method_4_12 : decode prog_6_method_4_code 12 = .ok (.iconst 2, 1) := by decide +kernel
theorem d_prog_6_method_4_13 : decode prog_6_method_4_code 13 = .ok (.aload_n 2, 1) := by decide +kernel
theorem d_prog_6_method_4_14 : decode prog_6_method_4_code 14 = .ok (.invokevirtual 37, 3) := by decide +kernel
theorem pd___B : parseMethodDescriptor "()B" = some ⟨[], some .byte⟩ := by decide +kernel
theorem d_prog_6_method_4_17 : decode prog_6_method_4_code 17 = .ok (.bastore, 1) := by decide +kernel
theorem d_prog_6_method_4_18 : decode prog_6_method_4_code 18 = .ok (.return_, 1) := by decide +kernel
theorem pn_com_example_portcullis_portcullis_MessageType : plainName "com/example/portcullis/portcullis/MessageType" = true := by first | (simp [plainName, overriddenIn]; done) | decide +kernel
def Q_wraFFDHE2048 (Z : State) (aFFDHE2048 aCONFIRMATION aFFDHE4096 aFFDHE3072 : Addr) (b1 : Addr) (k1 : ClassId) (u0 : Int32) (u1 : Int32) (u2 : Int32) (u3 : Int32) (u4 : Int32) (u5 : Int32) (u6 : Int32) (u7 : Int32) (u8 : Int32) (u9 : Int32) (u10 : Int32) (u11 : Int32) (u12 : Int32) (u13 : Int32) (u14 : Int32) (u15 : Int32) (u16 : Int32) (u17 : Int32) (u18 : Int32) (u19 : Int32) (u20 : Int32) (u21 : Int32) (u22 : Int32) (u23 : Int32) (u24 : Int32) (u25 : Int32) (u26 : Int32) (u27 : Int32) (u28 : Int32) (u29 : Int32) (u30 : Int32) (u31 : Int32) (u32 : Int32) (u33 : Int32) (u34 : Int32) (h0 : Heap) (n0 : Nat) (v : Option Value) (h : Heap) (L : List Loc) : Prop := v = none ∧ Fr n0 L ∧ Keep h0 h [b1] ∧ Arv Z h b1 k1 .byte (35 : Int32) [(.int (1 : Int32)), (.int (2 : Int32)), (.int (1 : Int32)), (.int u3), (.int u4), (.int u5), (.int u6), (.int u7), (.int u8), (.int u9), (.int u10), (.int u11), (.int u12), (.int u13), (.int u14), (.int u15), (.int u16), (.int u17), (.int u18), (.int u19), (.int u20), (.int u21), (.int u22), (.int u23), (.int u24), (.int u25), (.int u26), (.int u27), (.int u28), (.int u29), (.int u30), (.int u31), (.int u32), (.int u33), (.int u34)] (.int (0 : Int32))
theorem ef_wraFFDHE2048 (m : MethodId) (x0 : Addr) (x1 : Addr) (x2 : Addr) : entryFrame m #[(.ref x0), (.ref x1), (.ref x2)] 3 = mkF m 0 #[.val (.ref x0), .val (.ref x1), .val (.ref x2)] [] := by first | (simp [entryFrame, mkF, argsToLocals, Value.category]; done) | rfl
set_option maxRecDepth 65536 in
set_option maxHeartbeats 40000000 in
theorem rm_wraFFDHE2048 (l : Launch) (Z : State) (a0 : Array Value) (hw : ∀ d ∈ tables_1, d.before a0 Z = true) (ws : List Jvm.Cond) (aFFDHE2048 aCONFIRMATION aFFDHE4096 aFFDHE3072 : Addr) (F0 : OwnFacts Z aFFDHE2048 aCONFIRMATION aFFDHE4096 aFFDHE3072) (b1 : Addr) (k1 : ClassId) (u0 : Int32) (u1 : Int32) (u2 : Int32) (u3 : Int32) (u4 : Int32) (u5 : Int32) (u6 : Int32) (u7 : Int32) (u8 : Int32) (u9 : Int32) (u10 : Int32) (u11 : Int32) (u12 : Int32) (u13 : Int32) (u14 : Int32) (u15 : Int32) (u16 : Int32) (u17 : Int32) (u18 : Int32) (u19 : Int32) (u20 : Int32) (u21 : Int32) (u22 : Int32) (u23 : Int32) (u24 : Int32) (u25 : Int32) (u26 : Int32) (u27 : Int32) (u28 : Int32) (u29 : Int32) (u30 : Int32) (u31 : Int32) (u32 : Int32) (u33 : Int32) (u34 : Int32) (h0 : Heap) (n0 : Nat) (O0 : Old Z n0 h0) (VA : Arv Z h0 b1 k1 .byte (35 : Int32) [(.int u0), (.int u1), (.int u2), (.int u3), (.int u4), (.int u5), (.int u6), (.int u7), (.int u8), (.int u9), (.int u10), (.int u11), (.int u12), (.int u13), (.int u14), (.int u15), (.int u16), (.int u17), (.int u18), (.int u19), (.int u20), (.int u21), (.int u22), (.int u23), (.int u24), (.int u25), (.int u26), (.int u27), (.int u28), (.int u29), (.int u30), (.int u31), (.int u32), (.int u33), (.int u34)] (.int (0 : Int32))) (geA : n0 ≤ b1) :
    MetFree l (⟨"com/example/portcullis/portcullis/MessageType", "writeHeader", "([BLcom/example/portcullis/portcullis/Group;)V"⟩ : MethodName) (head1 (Jvm.Cond.code (⟨"com/example/portcullis/portcullis/MessageType", "writeHeader", "([BLcom/example/portcullis/portcullis/Group;)V"⟩ : MethodName) prog_6_method_4_code 3 none :: ws) ({ frames := 1, cells := 0, slots := 0, locals := 14 } : Room)) (fun a U => a = #[(.ref aCONFIRMATION), (.ref b1), (.ref aFFDHE2048)] ∧ Z.Warmed39 U.vm ∧ U.heap = h0) (fun _ _ _ _ _ => True) (fun _ U o U' => ∃ v L, o = .returned v ∧ Q_wraFFDHE2048 Z aFFDHE2048 aCONFIRMATION aFFDHE4096 aFFDHE3072 b1 k1 u0 u1 u2 u3 u4 u5 u6 u7 u8 u9 u10 u11 u12 u13 u14 u15 u16 u17 u18 u19 u20 u21 u22 u23 u24 u25 u26 u27 u28 u29 u30 u31 u32 u33 u34 h0 n0 v U'.heap L ∧ FrameEnd U o U' L ({ frames := 1, cells := 0, slots := 0, locals := 14 } : Room).cells ({ frames := 1, cells := 0, slots := 0, locals := 14 } : Room).slots) := by
  refine MetFree.of_bodySF (plainFor_of_name pn_com_example_portcullis_portcullis_MessageType) hisR ?_
  intro p e s m args below meth c s₁ Bd hml0 hP hK
  obtain ⟨rfl, hZ, hh⟩ := hP
  have hx := Bd.exec
  have hby := Bd.bytes
  have hml : c.maxLocals = 3 := hml0
  have hown : s.vm.findClass "com/example/portcullis/portcullis/MessageType" = some m.cls := findClass_of_methodNamed Bd.named
  have hnm := (name_of_methodNamed Bd.named Bd.method).1
  have X0 : Stand p l e ({ frames := 1, cells := 0, slots := 0, locals := 14 } : Room) s m #[(.ref aCONFIRMATION), (.ref b1), (.ref aFFDHE2048)] below meth c s₁ [] 0 0 := Stand.of_body Bd
  have e0 : s₁.heap = h0 := by rw [← hh, Bd.state]; rfl
  have N0 := Fr.nil n0
  refine own_go (Q := fun o U' => ∃ v L, o = .returned v ∧ Q_wraFFDHE2048 Z aFFDHE2048 aCONFIRMATION aFFDHE4096 aFFDHE3072 b1 k1 u0 u1 u2 u3 u4 u5 u6 u7 u8 u9 u10 u11 u12 u13 u14 u15 u16 u17 u18 u19 u20 u21 u22 u23 u24 u25 u26 u27 u28 u29 u30 u31 u32 u33 u34 h0 n0 v U'.heap L ∧ FrameEnd s o U' L ({ frames := 1, cells := 0, slots := 0, locals := 14 } : Room).cells ({ frames := 1, cells := 0, slots := 0, locals := 14 } : Room).slots) (fun t k => castTop (ef_wraFFDHE2048 m aCONFIRMATION b1 aFFDHE2048) k) ?_
  show OwnGo p e below _ (s₁.setTop (mkF m 0 #[.val (.ref aCONFIRMATION), .val (.ref b1), .val (.ref aFFDHE2048)] []))
  refine own_go (fun _ k => XS.aloadN X0.here hx rfl (hb hby d_prog_6_method_4_0) rfl rfl k) ?_
  show OwnGo p e below _ (s₁.setTop (mkF m 1 #[.val (.ref aCONFIRMATION), .val (.ref b1), .val (.ref aFFDHE2048)] [(.ref b1)]))
  refine own_go (fun _ k => XS.iconst X0.here hx rfl (hb hby d_prog_6_method_4_1) k) ?_
  show OwnGo p e below _ (s₁.setTop (mkF m 2 #[.val (.ref aCONFIRMATION), .val (.ref b1), .val (.ref aFFDHE2048)] [(.int (0 : Int32)), (.ref b1)]))
  refine own_go (fun _ k => XS.iconst X0.here hx rfl (hb hby d_prog_6_method_4_2) k) ?_
  show OwnGo p e below _ (s₁.setTop (mkF m 3 #[.val (.ref aCONFIRMATION), .val (.ref b1), .val (.ref aFFDHE2048)] [(.int (1 : Int32)), (.int (0 : Int32)), (.ref b1)]))
  obtain ⟨c4, Ar4, q4, S4, M4, H4, G4⟩ := (id VA)
  obtain ⟨T4, h4, X4, e4, W4, st4⟩ := stB X0 hx hZ e0 Ar4 (j := (0 : Int32)) (inb_of S4 ⟨by decide, by decide⟩) (g := (mkF m 3 #[.val (.ref aCONFIRMATION), .val (.ref b1), .val (.ref aFFDHE2048)] [(.int (1 : Int32)), (.int (0 : Int32)), (.ref b1)])) rfl rfl (hb hby d_prog_6_method_4_3)
  rw [show nar .byte (1 : Int32) = (1 : Int32) from by decide] at W4
  have N4 := Fr.snoc X4 N0 geA
  have O4 := O0.wr W4 geA
  have z5 : h0.size ≤ h4.size := Nat.le_trans (Nat.le_refl _) (Nat.le_of_eq W4.size.symm)
  have V4 : Arv Z h4 b1 k1 .byte (35 : Int32) [(.int (1 : Int32)), (.int u1), (.int u2), (.int u3), (.int u4), (.int u5), (.int u6), (.int u7), (.int u8), (.int u9), (.int u10), (.int u11), (.int u12), (.int u13), (.int u14), (.int u15), (.int u16), (.int u17), (.int u18), (.int u19), (.int u20), (.int u21), (.int u22), (.int u23), (.int u24), (.int u25), (.int u26), (.int u27), (.int u28), (.int u29), (.int u30), (.int u31), (.int u32), (.int u33), (.int u34)] (.int (0 : Int32)) := Arv.set Ar4 q4 S4 M4 H4 G4 (by decide) W4 0 (by decide) (Nat.le_of_ble_eq_true rfl)
  refine own_go st4 ?_
  show OwnGo p e below _ (T4.setTop (mkF m 4 #[.val (.ref aCONFIRMATION), .val (.ref b1), .val (.ref aFFDHE2048)] []))
  refine own_go (fun _ k => XS.aloadN X4.here hx rfl (hb hby d_prog_6_method_4_4) rfl rfl k) ?_
  show OwnGo p e below _ (T4.setTop (mkF m 5 #[.val (.ref aCONFIRMATION), .val (.ref b1), .val (.ref aFFDHE2048)] [(.ref b1)]))
  refine own_go (fun _ k => XS.iconst X4.here hx rfl (hb hby d_prog_6_method_4_5) k) ?_
  show OwnGo p e below _ (T4.setTop (mkF m 6 #[.val (.ref aCONFIRMATION), .val (.ref b1), .val (.ref aFFDHE2048)] [(.int (1 : Int32)), (.ref b1)]))
  refine own_go (fun _ k => XS.aloadN X4.here hx rfl (hb hby d_prog_6_method_4_6) rfl rfl k) ?_
  show OwnGo p e below _ (T4.setTop (mkF m 7 #[.val (.ref aCONFIRMATION), .val (.ref b1), .val (.ref aFFDHE2048)] [(.ref aCONFIRMATION), (.int (1 : Int32)), (.ref b1)]))
  obtain ⟨T6, X6, e6, st6⟩ := getF X4 hx hZ hown (host := "") (Or.inl (hw _ (List.mem_of_getElem? (i := 21) rfl))) Via.refl e4 (F0.2.2.2.2.1.ext O4.2) (g := (mkF m 7 #[.val (.ref aCONFIRMATION), .val (.ref b1), .val (.ref aFFDHE2048)] [(.ref aCONFIRMATION), (.int (1 : Int32)), (.ref b1)])) rfl rfl (hb hby d_prog_6_method_4_7)
  refine own_go st6 ?_
  show OwnGo p e below _ (T6.setTop (mkF m 10 #[.val (.ref aCONFIRMATION), .val (.ref b1), .val (.ref aFFDHE2048)] [(.int (2 : Int32)), (.int (1 : Int32)), (.ref b1)]))
  obtain ⟨c7, Ar7, q7, S7, M7, H7, G7⟩ := (id V4)
  obtain ⟨T7, h7, X7, e7, W7, st7⟩ := stB X6 hx hZ e6 Ar7 (j := (1 : Int32)) (inb_of S7 ⟨by decide, by decide⟩) (g := (mkF m 10 #[.val (.ref aCONFIRMATION), .val (.ref b1), .val (.ref aFFDHE2048)] [(.int (2 : Int32)), (.int (1 : Int32)), (.ref b1)])) rfl rfl (hb hby d_prog_6_method_4_10)
  rw [show nar .byte (2 : Int32) = (2 : Int32) from by decide] at W7
  have N7 := Fr.snoc X7 N4 geA
  have O7 := O4.wr W7 geA
  have z8 : h0.size ≤ h7.size := Nat.le_trans z5 (Nat.le_of_eq W7.size.symm)
  have V7 : Arv Z h7 b1 k1 .byte (35 : Int32) [(.int (1 : Int32)), (.int (2 : Int32)), (.int u2), (.int u3), (.int u4), (.int u5), (.int u6), (.int u7), (.int u8), (.int u9), (.int u10), (.int u11), (.int u12), (.int u13), (.int u14), (.int u15), (.int u16), (.int u17), (.int u18), (.int u19), (.int u20), (.int u21), (.int u22), (.int u23), (.int u24), (.int u25), (.int u26), (.int u27), (.int u28), (.int u29), (.int u30), (.int u31), (.int u32), (.int u33), (.int u34)] (.int (0 : Int32)) := Arv.set Ar7 q7 S7 M7 H7 G7 (by decide) W7 1 (by decide) (Nat.le_of_ble_eq_true rfl)
  refine own_go st7 ?_
  show OwnGo p e below _ (T7.setTop (mkF m 11 #[.val (.ref aCONFIRMATION), .val (.ref b1), .val (.ref aFFDHE2048)] []))
  refine own_go (fun _ k => XS.aloadN X7.here hx rfl (hb hby d_prog_6_method_4_11) rfl rfl k) ?_
  show OwnGo p e below _ (T7.setTop (mkF m 12 #[.val (.ref aCONFIRMATION), .val (.ref b1), .val (.ref aFFDHE2048)] [(.ref b1)]))
  refine own_go (fun _ k => XS.iconst X7.here hx rfl (hb hby d_prog_6_method_4_12) k) ?_
  show OwnGo p e below _ (T7.setTop (mkF m 13 #[.val (.ref aCONFIRMATION), .val (.ref b1), .val (.ref aFFDHE2048)] [(.int (2 : Int32)), (.ref b1)]))
  refine own_go (fun _ k => XS.aloadN X7.here hx rfl (hb hby d_prog_6_method_4_13) rfl rfl k) ?_
  show OwnGo p e below _ (T7.setTop (mkF m 14 #[.val (.ref aCONFIRMATION), .val (.ref b1), .val (.ref aFFDHE2048)] [(.ref aFFDHE2048), (.int (2 : Int32)), (.ref b1)]))
  obtain ⟨cq9, kq9, qa9, qb9, qc9⟩ := isOf hZ e7 (F0.2.1.ext O7.2)
  obtain ⟨_, _, ⟨T9, L9, k9, n9⟩, -, X9, ⟨Lc9, hQ9, l9, y9, z9⟩, st9⟩ := X7.virtualBack hx (y := (⟨"com/example/portcullis/portcullis/Group", "id", "()B"⟩ : MethodName)) (z := (⟨"com/example/portcullis/portcullis/Group", "id", "()B"⟩ : MethodName)) hown (mvT hZ (hw _ (List.mem_of_getElem? (i := 23) rfl))) (mvT hZ (hw _ (List.mem_of_getElem? (i := 24) rfl))) (notFace_of_selects (args := #[]) (mvT hZ (hw _ (List.mem_of_getElem? (i := 26) rfl)))) (mvT hZ (hw _ (List.mem_of_getElem? (i := 26) rfl))) (mvT hZ (hw _ (List.mem_of_getElem? (i := 25) rfl))) (by decide) (backOf (W := 2) (rm_idaFFDHE2048 l Z a0 hw [] aFFDHE2048 aCONFIRMATION aFFDHE4096 aFFDHE3072 F0 h7 n0 O7) hZ (hw _ (List.mem_of_getElem? (i := 27) rfl)) (hw _ (List.mem_of_getElem? (i := 2) rfl)) (by decide) (by decide)) qa9 qc9 (g := (mkF m 14 #[.val (.ref aCONFIRMATION), .val (.ref b1), .val (.ref aFFDHE2048)] [(.ref aFFDHE2048), (.int (2 : Int32)), (.ref b1)])) rfl (by rw [hml]; rfl) (Steps.refl _) (argsL := []) (rest := [(.int (2 : Int32)), (.ref b1)]) (lenOf pd___B rfl) rfl (by show 2 * 0 + _ ≤ _; exact Nat.le_of_eq rfl) (hb hby d_prog_6_method_4_14) (fun _ _ => ⟨rfl, e7, (by decide : 0 + 0 ≤ _), (by decide : 0 + 0 ≤ _)⟩)
  dsimp only [Pt.U, Pt.locs, Pt.cells, Pt.slots] at X9 l9 y9 z9 st9 hQ9
  subst l9 y9 z9
  obtain ⟨rfl, Nq9, K9⟩ := hQ9
  have N9 := Fr.app N7 Nq9
  refine own_go (fun _ k => st9.trans k) ?_
  show OwnGo p e below _ (T9.setTop (mkF m 17 #[.val (.ref aCONFIRMATION), .val (.ref b1), .val (.ref aFFDHE2048)] [(.int (1 : Int32)), (.int (2 : Int32)), (.ref b1)]))
  obtain ⟨c10, Ar10, q10, S10, M10, H10, G10⟩ := (id V7)
  obtain ⟨T10, h10, X10, e10, W10, st10⟩ := stB X9 hx hZ K9 Ar10 (j := (2 : Int32)) (inb_of S10 ⟨by decide, by decide⟩) (g := (mkF m 17 #[.val (.ref aCONFIRMATION), .val (.ref b1), .val (.ref aFFDHE2048)] [(.int (1 : Int32)), (.int (2 : Int32)), (.ref b1)])) rfl rfl (hb hby d_prog_6_method_4_17)
  rw [show nar .byte (1 : Int32) = (1 : Int32) from by decide] at W10
  have N10 := Fr.snoc X10 N9 geA
  have O10 := O7.wr W10 geA
  have z11 : h0.size ≤ h10.size := Nat.le_trans z8 (Nat.le_of_eq W10.size.symm)
  have V10 : Arv Z h10 b1 k1 .byte (35 : Int32) [(.int (1 : Int32)), (.int (2 : Int32)), (.int (1 : Int32)), (.int u3), (.int u4), (.int u5), (.int u6), (.int u7), (.int u8), (.int u9), (.int u10), (.int u11), (.int u12), (.int u13), (.int u14), (.int u15), (.int u16), (.int u17), (.int u18), (.int u19), (.int u20), (.int u21), (.int u22), (.int u23), (.int u24), (.int u25), (.int u26), (.int u27), (.int u28), (.int u29), (.int u30), (.int u31), (.int u32), (.int u33), (.int u34)] (.int (0 : Int32)) := Arv.set Ar10 q10 S10 M10 H10 G10 (by decide) W10 2 (by decide) (Nat.le_of_ble_eq_true rfl)
  refine own_go st10 ?_
  show OwnGo p e below _ (T10.setTop (mkF m 18 #[.val (.ref aCONFIRMATION), .val (.ref b1), .val (.ref aFFDHE2048)] []))
  obtain ⟨fs, hr, hrun, hended, hW, hsame⟩ := X10.leave (v := none) (fun h => rfl)
  refine ⟨_, _, X10.returnOut hx Bd.returns (hb hby d_prog_6_method_4_18) hr, hrun, hended, _, _, rfl, ?_, ⟨_, rfl⟩, hW, hsame.mono (by decide) (by decide)⟩
  show Q_wraFFDHE2048 Z aFFDHE2048 aCONFIRMATION aFFDHE4096 aFFDHE3072 b1 k1 u0 u1 u2 u3 u4 u5 u6 u7 u8 u9 u10 u11 u12 u13 u14 u15 u16 u17 u18 u19 u20 u21 u22 u23 u24 u25 u26 u27 u28 u29 u30 u31 u32 u33 u34 h0 n0 _ T10.heap _
  rw [e10]
  exact ⟨rfl, N10, ((((Keep.refl _ [b1]).wr W4 (Or.inl (List.mem_of_getElem? (i := 0) rfl))).wr W7 (Or.inl (List.mem_of_getElem? (i := 0) rfl))).wr W10 (Or.inl (List.mem_of_getElem? (i := 0) rfl))), V10⟩
def Q_wraFFDHE3072 (Z : State) (aFFDHE2048 aCONFIRMATION aFFDHE4096 aFFDHE3072 : Addr) (b1 : Addr) (k1 : ClassId) (u0 : Int32) (u1 : Int32) (u2 : Int32) (u3 : Int32) (u4 : Int32) (u5 : Int32) (u6 : Int32) (u7 : Int32) (u8 : Int32) (u9 : Int32) (u10 : Int32) (u11 : Int32) (u12 : Int32) (u13 : Int32) (u14 : Int32) (u15 : Int32) (u16 : Int32) (u17 : Int32) (u18 : Int32) (u19 : Int32) (u20 : Int32) (u21 : Int32) (u22 : Int32) (u23 : Int32) (u24 : Int32) (u25 : Int32) (u26 : Int32) (u27 : Int32) (u28 : Int32) (u29 : Int32) (u30 : Int32) (u31 : Int32) (u32 : Int32) (u33 : Int32) (u34 : Int32) (h0 : Heap) (n0 : Nat) (v : Option Value) (h : Heap) (L : List Loc) : Prop := v = none ∧ Fr n0 L ∧ Keep h0 h [b1] ∧ Arv Z h b1 k1 .byte (35 : Int32) [(.int (1 : Int32)), (.int (2 : Int32)), (.int (2 : Int32)), (.int u3), (.int u4), (.int u5), (.int u6), (.int u7), (.int u8), (.int u9), (.int u10), (.int u11), (.int u12), (.int u13), (.int u14), (.int u15), (.int u16), (.int u17), (.int u18), (.int u19), (.int u20), (.int u21), (.int u22), (.int u23), (.int u24), (.int u25), (.int u26), (.int u27), (.int u28), (.int u29), (.int u30), (.int u31), (.int u32), (.int u33), (.int u34)] (.int (0 : Int32))
theorem ef_wraFFDHE3072 (m : MethodId) (x0 : Addr) (x1 : Addr) (x2 : Addr) : entryFrame m #[(.ref x0), (.ref x1), (.ref x2)] 3 = mkF m 0 #[.val (.ref x0), .val (.ref x1), .val (.ref x2)] [] := by first | (simp [entryFrame, mkF, argsToLocals, Value.category]; done) | rfl
set_option maxRecDepth 65536 in
set_option maxHeartbeats 40000000 in
theorem rm_wraFFDHE3072 (l : Launch) (Z : State) (a0 : Array Value) (hw : ∀ d ∈ tables_1, d.before a0 Z = true) (ws : List Jvm.Cond) (aFFDHE2048 aCONFIRMATION aFFDHE4096 aFFDHE3072 : Addr) (F0 : OwnFacts Z aFFDHE2048 aCONFIRMATION aFFDHE4096 aFFDHE3072) (b1 : Addr) (k1 : ClassId) (u0 : Int32) (u1 : Int32) (u2 : Int32) (u3 : Int32) (u4 : Int32) (u5 : Int32) (u6 : Int32) (u7 : Int32) (u8 : Int32) (u9 : Int32) (u10 : Int32) (u11 : Int32) (u12 : Int32) (u13 : Int32) (u14 : Int32) (u15 : Int32) (u16 : Int32) (u17 : Int32) (u18 : Int32) (u19 : Int32) (u20 : Int32) (u21 : Int32) (u22 : Int32) (u23 : Int32) (u24 : Int32) (u25 : Int32) (u26 : Int32) (u27 : Int32) (u28 : Int32) (u29 : Int32) (u30 : Int32) (u31 : Int32) (u32 : Int32) (u33 : Int32) (u34 : Int32) (h0 : Heap) (n0 : Nat) (O0 : Old Z n0 h0) (VA : Arv Z h0 b1 k1 .byte (35 : Int32) [(.int u0), (.int u1), (.int u2), (.int u3), (.int u4), (.int u5), (.int u6), (.int u7), (.int u8), (.int u9), (.int u10), (.int u11), (.int u12), (.int u13), (.int u14), (.int u15), (.int u16), (.int u17), (.int u18), (.int u19), (.int u20), (.int u21), (.int u22), (.int u23), (.int u24), (.int u25), (.int u26), (.int u27), (.int u28), (.int u29), (.int u30), (.int u31), (.int u32), (.int u33), (.int u34)] (.int (0 : Int32))) (geA : n0 ≤ b1) :
    MetFree l (⟨"com/example/portcullis/portcullis/MessageType", "writeHeader", "([BLcom/example/portcullis/portcullis/Group;)V"⟩ : MethodName) (head1 (Jvm.Cond.code (⟨"com/example/portcullis/portcullis/MessageType", "writeHeader", "([BLcom/example/portcullis/portcullis/Group;)V"⟩ : MethodName) prog_6_method_4_code 3 none :: ws) ({ frames := 1, cells := 0, slots := 0, locals := 14 } : Room)) (fun a U => a = #[(.ref aCONFIRMATION), (.ref b1), (.ref aFFDHE3072)] ∧ Z.Warmed39 U.vm ∧ U.heap = h0) (fun _ _ _ _ _ => True) (fun _ U o U' => ∃ v L, o = .returned v ∧ Q_wraFFDHE3072 Z aFFDHE2048 aCONFIRMATION aFFDHE4096 aFFDHE3072 b1 k1 u0 u1 u2 u3 u4 u5 u6 u7 u8 u9 u10 u11 u12 u13 u14 u15 u16 u17 u18 u19 u20 u21 u22 u23 u24 u25 u26 u27 u28 u29 u30 u31 u32 u33 u34 h0 n0 v U'.heap L ∧ FrameEnd U o U' L ({ frames := 1, cells := 0, slots := 0, locals := 14 } : Room).cells ({ frames := 1, cells := 0, slots := 0, locals := 14 } : Room).slots) := by
  refine MetFree.of_bodySF (plainFor_of_name pn_com_example_portcullis_portcullis_MessageType) hisR ?_
  intro p e s m args below meth c s₁ Bd hml0 hP hK
  obtain ⟨rfl, hZ, hh⟩ := hP
  have hx := Bd.exec
  have hby := Bd.bytes
  have hml : c.maxLocals = 3 := hml0
  have hown : s.vm.findClass "com/example/portcullis/portcullis/MessageType" = some m.cls := findClass_of_methodNamed Bd.named
  have hnm := (name_of_methodNamed Bd.named Bd.method).1
  have X0 : Stand p l e ({ frames := 1, cells := 0, slots := 0, locals := 14 } : Room) s m #[(.ref aCONFIRMATION), (.ref b1), (.ref aFFDHE3072)] below meth c s₁ [] 0 0 := Stand.of_body Bd
  have e0 : s₁.heap = h0 := by rw [← hh, Bd.state]; rfl
  have N0 := Fr.nil n0
  refine own_go (Q := fun o U' => ∃ v L, o = .returned v ∧ Q_wraFFDHE3072 Z aFFDHE2048 aCONFIRMATION aFFDHE4096 aFFDHE3072 b1 k1 u0 u1 u2 u3 u4 u5 u6 u7 u8 u9 u10 u11 u12 u13 u14 u15 u16 u17 u18 u19 u20 u21 u22 u23 u24 u25 u26 u27 u28 u29 u30 u31 u32 u33 u34 h0 n0 v U'.heap L ∧ FrameEnd s o U' L ({ frames := 1, cells := 0, slots := 0, locals := 14 } : Room).cells ({ frames := 1, cells := 0, slots := 0, locals := 14 } : Room).slots) (fun t k => castTop (ef_wraFFDHE3072 m aCONFIRMATION b1 aFFDHE3072) k) ?_
  show OwnGo p e below _ (s₁.setTop (mkF m 0 #[.val (.ref aCONFIRMATION), .val (.ref b1), .val (.ref aFFDHE3072)] []))
  refine own_go (fun _ k => XS.aloadN X0.here hx rfl (hb hby d_prog_6_method_4_0) rfl rfl k) ?_
  show OwnGo p e below _ (s₁.setTop (mkF m 1 #[.val (.ref aCONFIRMATION), .val (.ref b1), .val (.ref aFFDHE3072)] [(.ref b1)]))
  refine own_go (fun _ k => XS.iconst X0.here hx rfl (hb hby d_prog_6_method_4_1) k) ?_
  show OwnGo p e below _ (s₁.setTop (mkF m 2 #[.val (.ref aCONFIRMATION), .val (.ref b1), .val (.ref aFFDHE3072)] [(.int (0 : Int32)), (.ref b1)]))
  refine own_go (fun _ k => XS.iconst X0.here hx rfl (hb hby d_prog_6_method_4_2) k) ?_
  show OwnGo p e below _ (s₁.setTop (mkF m 3 #[.val (.ref aCONFIRMATION), .val (.ref b1), .val (.ref aFFDHE3072)] [(.int (1 : Int32)), (.int (0 : Int32)), (.ref b1)]))
  obtain ⟨c12, Ar12, q12, S12, M12, H12, G12⟩ := (id VA)
  obtain ⟨T12, h12, X12, e12, W12, st12⟩ := stB X0 hx hZ e0 Ar12 (j := (0 : Int32)) (inb_of S12 ⟨by decide, by decide⟩) (g := (mkF m 3 #[.val (.ref aCONFIRMATION), .val (.ref b1), .val (.ref aFFDHE3072)] [(.int (1 : Int32)), (.int (0 : Int32)), (.ref b1)])) rfl rfl (hb hby d_prog_6_method_4_3)
  rw [show nar .byte (1 : Int32) = (1 : Int32) from by decide] at W12
  have N12 := Fr.snoc X12 N0 geA
  have O12 := O0.wr W12 geA
  have z13 : h0.size ≤ h12.size := Nat.le_trans (Nat.le_refl _) (Nat.le_of_eq W12.size.symm)
  have V12 : Arv Z h12 b1 k1 .byte (35 : Int32) [(.int (1 : Int32)), (.int u1), (.int u2), (.int u3), (.int u4), (.int u5), (.int u6), (.int u7), (.int u8), (.int u9), (.int u10), (.int u11), (.int u12), (.int u13), (.int u14), (.int u15), (.int u16), (.int u17), (.int u18), (.int u19), (.int u20), (.int u21), (.int u22), (.int u23), (.int u24), (.int u25), (.int u26), (.int u27), (.int u28), (.int u29), (.int u30), (.int u31), (.int u32), (.int u33), (.int u34)] (.int (0 : Int32)) := Arv.set Ar12 q12 S12 M12 H12 G12 (by decide) W12 0 (by decide) (Nat.le_of_ble_eq_true rfl)
  refine own_go st12 ?_
  show OwnGo p e below _ (T12.setTop (mkF m 4 #[.val (.ref aCONFIRMATION), .val (.ref b1), .val (.ref aFFDHE3072)] []))
  refine own_go (fun _ k => XS.aloadN X12.here hx rfl (hb hby d_prog_6_method_4_4) rfl rfl k) ?_
  show OwnGo p e below _ (T12.setTop (mkF m 5 #[.val (.ref aCONFIRMATION), .val (.ref b1), .val (.ref aFFDHE3072)] [(.ref b1)]))
  refine own_go (fun _ k => XS.iconst X12.here hx rfl (hb hby d_prog_6_method_4_5) k) ?_
  show OwnGo p e below _ (T12.setTop (mkF m 6 #[.val (.ref aCONFIRMATION), .val (.ref b1), .val (.ref aFFDHE3072)] [(.int (1 : Int32)), (.ref b1)]))
  refine own_go (fun _ k => XS.aloadN X12.here hx rfl (hb hby d_prog_6_method_4_6) rfl rfl k) ?_
  show OwnGo p e below _ (T12.setTop (mkF m 7 #[.val (.ref aCONFIRMATION), .val (.ref b1), .val (.ref aFFDHE3072)] [(.ref aCONFIRMATION), (.int (1 : Int32)), (.ref b1)]))
  obtain ⟨T14, X14, e14, st14⟩ := getF X12 hx hZ hown (host := "") (Or.inl (hw _ (List.mem_of_getElem? (i := 21) rfl))) Via.refl e12 (F0.2.2.2.2.1.ext O12.2) (g := (mkF m 7 #[.val (.ref aCONFIRMATION), .val (.ref b1), .val (.ref aFFDHE3072)] [(.ref aCONFIRMATION), (.int (1 : Int32)), (.ref b1)])) rfl rfl (hb hby d_prog_6_method_4_7)
  refine own_go st14 ?_
  show OwnGo p e below _ (T14.setTop (mkF m 10 #[.val (.ref aCONFIRMATION), .val (.ref b1), .val (.ref aFFDHE3072)] [(.int (2 : Int32)), (.int (1 : Int32)), (.ref b1)]))
  obtain ⟨c15, Ar15, q15, S15, M15, H15, G15⟩ := (id V12)
  obtain ⟨T15, h15, X15, e15, W15, st15⟩ := stB X14 hx hZ e14 Ar15 (j := (1 : Int32)) (inb_of S15 ⟨by decide, by decide⟩) (g := (mkF m 10 #[.val (.ref aCONFIRMATION), .val (.ref b1), .val (.ref aFFDHE3072)] [(.int (2 : Int32)), (.int (1 : Int32)), (.ref b1)])) rfl rfl (hb hby d_prog_6_method_4_10)
  rw [show nar .byte (2 : Int32) = (2 : Int32) from by decide] at W15
  have N15 := Fr.snoc X15 N12 geA
  have O15 := O12.wr W15 geA
  have z16 : h0.size ≤ h15.size := Nat.le_trans z13 (Nat.le_of_eq W15.size.symm)
  have V15 : Arv Z h15 b1 k1 .byte (35 : Int32) [(.int (1 : Int32)), (.int (2 : Int32)), (.int u2), (.int u3), (.int u4), (.int u5), (.int u6), (.int u7), (.int u8), (.int u9), (.int u10), (.int u11), (.int u12), (.int u13), (.int u14), (.int u15), (.int u16), (.int u17), (.int u18), (.int u19), (.int u20), (.int u21), (.int u22), (.int u23), (.int u24), (.int u25), (.int u26), (.int u27), (.int u28), (.int u29), (.int u30), (.int u31), (.int u32), (.int u33), (.int u34)] (.int (0 : Int32)) := Arv.set Ar15 q15 S15 M15 H15 G15 (by decide) W15 1 (by decide) (Nat.le_of_ble_eq_true rfl)
  refine own_go st15 ?_
  show OwnGo p e below _ (T15.setTop (mkF m 11 #[.val (.ref aCONFIRMATION), .val (.ref b1), .val (.ref aFFDHE3072)] []))
  refine own_go (fun _ k => XS.aloadN X15.here hx rfl (hb hby d_prog_6_method_4_11) rfl rfl k) ?_
  show OwnGo p e below _ (T15.setTop (mkF m 12 #[.val (.ref aCONFIRMATION), .val (.ref b1), .val (.ref aFFDHE3072)] [(.ref b1)]))
  refine own_go (fun _ k => XS.iconst X15.here hx rfl (hb hby d_prog_6_method_4_12) k) ?_
  show OwnGo p e below _ (T15.setTop (mkF m 13 #[.val (.ref aCONFIRMATION), .val (.ref b1), .val (.ref aFFDHE3072)] [(.int (2 : Int32)), (.ref b1)]))
  refine own_go (fun _ k => XS.aloadN X15.here hx rfl (hb hby d_prog_6_method_4_13) rfl rfl k) ?_
  show OwnGo p e below _ (T15.setTop (mkF m 14 #[.val (.ref aCONFIRMATION), .val (.ref b1), .val (.ref aFFDHE3072)] [(.ref aFFDHE3072), (.int (2 : Int32)), (.ref b1)]))
  obtain ⟨cq17, kq17, qa17, qb17, qc17⟩ := isOf hZ e15 (F0.2.2.2.2.2.2.2.2.2.2.1.ext O15.2)
  obtain ⟨_, _, ⟨T17, L17, k17, n17⟩, -, X17, ⟨Lc17, hQ17, l17, y17, z17⟩, st17⟩ := X15.virtualBack hx (y := (⟨"com/example/portcullis/portcullis/Group", "id", "()B"⟩ : MethodName)) (z := (⟨"com/example/portcullis/portcullis/Group", "id", "()B"⟩ : MethodName)) hown (mvT hZ (hw _ (List.mem_of_getElem? (i := 23) rfl))) (mvT hZ (hw _ (List.mem_of_getElem? (i := 24) rfl))) (notFace_of_selects (args := #[]) (mvT hZ (hw _ (List.mem_of_getElem? (i := 26) rfl)))) (mvT hZ (hw _ (List.mem_of_getElem? (i := 26) rfl))) (mvT hZ (hw _ (List.mem_of_getElem? (i := 25) rfl))) (by decide) (backOf (W := 2) (rm_idaFFDHE3072 l Z a0 hw [] aFFDHE2048 aCONFIRMATION aFFDHE4096 aFFDHE3072 F0 h15 n0 O15) hZ (hw _ (List.mem_of_getElem? (i := 27) rfl)) (hw _ (List.mem_of_getElem? (i := 2) rfl)) (by decide) (by decide)) qa17 qc17 (g := (mkF m 14 #[.val (.ref aCONFIRMATION), .val (.ref b1), .val (.ref aFFDHE3072)] [(.ref aFFDHE3072), (.int (2 : Int32)), (.ref b1)])) rfl (by rw [hml]; rfl) (Steps.refl _) (argsL := []) (rest := [(.int (2 : Int32)), (.ref b1)]) (lenOf pd___B rfl) rfl (by show 2 * 0 + _ ≤ _; exact Nat.le_of_eq rfl) (hb hby d_prog_6_method_4_14) (fun _ _ => ⟨rfl, e15, (by decide : 0 + 0 ≤ _), (by decide : 0 + 0 ≤ _)⟩)
  dsimp only [Pt.U, Pt.locs, Pt.cells, Pt.slots] at X17 l17 y17 z17 st17 hQ17
  subst l17 y17 z17
  obtain ⟨rfl, Nq17, K17⟩ := hQ17
  have N17 := Fr.app N15 Nq17
  refine own_go (fun _ k => st17.trans k) ?_
  show OwnGo p e below _ (T17.setTop (mkF m 17 #[.val (.ref aCONFIRMATION), .val (.ref b1), .val (.ref aFFDHE3072)] [(.int (2 : Int32)), (.int (2 : Int32)), (.ref b1)]))
  obtain ⟨c18, Ar18, q18, S18, M18, H18, G18⟩ := (id V15)
  obtain ⟨T18, h18, X18, e18, W18, st18⟩ := stB X17 hx hZ K17 Ar18 (j := (2 : Int32)) (inb_of S18 ⟨by decide, by decide⟩) (g := (mkF m 17 #[.val (.ref aCONFIRMATION), .val (.ref b1), .val (.ref aFFDHE3072)] [(.int (2 : Int32)), (.int (2 : Int32)), (.ref b1)])) rfl rfl (hb hby d_prog_6_method_4_17)
  rw [show nar .byte (2 : Int32) = (2 : Int32) from by decide] at W18
  have N18 := Fr.snoc X18 N17 geA
  have O18 := O15.wr W18 geA
  have z19 : h0.size ≤ h18.size := Nat.le_trans z16 (Nat.le_of_eq W18.size.symm)
  have V18 : Arv Z h18 b1 k1 .byte (35 : Int32) [(.int (1 : Int32)), (.int (2 : Int32)), (.int (2 : Int32)), (.int u3), (.int u4), (.int u5), (.int u6), (.int u7), (.int u8), (.int u9), (.int u10), (.int u11), (.int u12), (.int u13), (.int u14), (.int u15), (.int u16), (.int u17), (.int u18), (.int u19), (.int u20), (.int u21), (.int u22), (.int u23), (.int u24), (.int u25), (.int u26), (.int u27), (.int u28), (.int u29), (.int u30), (.int u31), (.int u32), (.int u33), (.int u34)] (.int (0 : Int32)) := Arv.set Ar18 q18 S18 M18 H18 G18 (by decide) W18 2 (by decide) (Nat.le_of_ble_eq_true rfl)
  refine own_go st18 ?_
  show OwnGo p e below _ (T18.setTop (mkF m 18 #[.val (.ref aCONFIRMATION), .val (.ref b1), .val (.ref aFFDHE3072)] []))
  obtain ⟨fs, hr, hrun, hended, hW, hsame⟩ := X18.leave (v := none) (fun h => rfl)
  refine ⟨_, _, X18.returnOut hx Bd.returns (hb hby d_prog_6_method_4_18) hr, hrun, hended, _, _, rfl, ?_, ⟨_, rfl⟩, hW, hsame.mono (by decide) (by decide)⟩
  show Q_wraFFDHE3072 Z aFFDHE2048 aCONFIRMATION aFFDHE4096 aFFDHE3072 b1 k1 u0 u1 u2 u3 u4 u5 u6 u7 u8 u9 u10 u11 u12 u13 u14 u15 u16 u17 u18 u19 u20 u21 u22 u23 u24 u25 u26 u27 u28 u29 u30 u31 u32 u33 u34 h0 n0 _ T18.heap _
  rw [e18]
  exact ⟨rfl, N18, ((((Keep.refl _ [b1]).wr W12 (Or.inl (List.mem_of_getElem? (i := 0) rfl))).wr W15 (Or.inl (List.mem_of_getElem? (i := 0) rfl))).wr W18 (Or.inl (List.mem_of_getElem? (i := 0) rfl))), V18⟩
def Q_wraFFDHE4096 (Z : State) (aFFDHE2048 aCONFIRMATION aFFDHE4096 aFFDHE3072 : Addr) (b1 : Addr) (k1 : ClassId) (u0 : Int32) (u1 : Int32) (u2 : Int32) (u3 : Int32) (u4 : Int32) (u5 : Int32) (u6 : Int32) (u7 : Int32) (u8 : Int32) (u9 : Int32) (u10 : Int32) (u11 : Int32) (u12 : Int32) (u13 : Int32) (u14 : Int32) (u15 : Int32) (u16 : Int32) (u17 : Int32) (u18 : Int32) (u19 : Int32) (u20 : Int32) (u21 : Int32) (u22 : Int32) (u23 : Int32) (u24 : Int32) (u25 : Int32) (u26 : Int32) (u27 : Int32) (u28 : Int32) (u29 : Int32) (u30 : Int32) (u31 : Int32) (u32 : Int32) (u33 : Int32) (u34 : Int32) (h0 : Heap) (n0 : Nat) (v : Option Value) (h : Heap) (L : List Loc) : Prop := v = none ∧ Fr n0 L ∧ Keep h0 h [b1] ∧ Arv Z h b1 k1 .byte (35 : Int32) [(.int (1 : Int32)), (.int (2 : Int32)), (.int (3 : Int32)), (.int u3), (.int u4), (.int u5), (.int u6), (.int u7), (.int u8), (.int u9), (.int u10), (.int u11), (.int u12), (.int u13), (.int u14), (.int u15), (.int u16), (.int u17), (.int u18), (.int u19), (.int u20), (.int u21), (.int u22), (.int u23), (.int u24), (.int u25), (.int u26), (.int u27), (.int u28), (.int u29), (.int u30), (.int u31), (.int u32), (.int u33), (.int u34)] (.int (0 : Int32))
theorem ef_wraFFDHE4096 (m : MethodId) (x0 : Addr) (x1 : Addr) (x2 : Addr) : entryFrame m #[(.ref x0), (.ref x1), (.ref x2)] 3 = mkF m 0 #[.val (.ref x0), .val (.ref x1), .val (.ref x2)] [] := by first | (simp [entryFrame, mkF, argsToLocals, Value.category]; done) | rfl
set_option maxRecDepth 65536 in
set_option maxHeartbeats 40000000 in
theorem rm_wraFFDHE4096 (l : Launch) (Z : State) (a0 : Array Value) (hw : ∀ d ∈ tables_1, d.before a0 Z = true) (ws : List Jvm.Cond) (aFFDHE2048 aCONFIRMATION aFFDHE4096 aFFDHE3072 : Addr) (F0 : OwnFacts Z aFFDHE2048 aCONFIRMATION aFFDHE4096 aFFDHE3072) (b1 : Addr) (k1 : ClassId) (u0 : Int32) (u1 : Int32) (u2 : Int32) (u3 : Int32) (u4 : Int32) (u5 : Int32) (u6 : Int32) (u7 : Int32) (u8 : Int32) (u9 : Int32) (u10 : Int32) (u11 : Int32) (u12 : Int32) (u13 : Int32) (u14 : Int32) (u15 : Int32) (u16 : Int32) (u17 : Int32) (u18 : Int32) (u19 : Int32) (u20 : Int32) (u21 : Int32) (u22 : Int32) (u23 : Int32) (u24 : Int32) (u25 : Int32) (u26 : Int32) (u27 : Int32) (u28 : Int32) (u29 : Int32) (u30 : Int32) (u31 : Int32) (u32 : Int32) (u33 : Int32) (u34 : Int32) (h0 : Heap) (n0 : Nat) (O0 : Old Z n0 h0) (VA : Arv Z h0 b1 k1 .byte (35 : Int32) [(.int u0), (.int u1), (.int u2), (.int u3), (.int u4), (.int u5), (.int u6), (.int u7), (.int u8), (.int u9), (.int u10), (.int u11), (.int u12), (.int u13), (.int u14), (.int u15), (.int u16), (.int u17), (.int u18), (.int u19), (.int u20), (.int u21), (.int u22), (.int u23), (.int u24), (.int u25), (.int u26), (.int u27), (.int u28), (.int u29), (.int u30), (.int u31), (.int u32), (.int u33), (.int u34)] (.int (0 : Int32))) (geA : n0 ≤ b1) :
    MetFree l (⟨"com/example/portcullis/portcullis/MessageType", "writeHeader", "([BLcom/example/portcullis/portcullis/Group;)V"⟩ : MethodName) (head1 (Jvm.Cond.code (⟨"com/example/portcullis/portcullis/MessageType", "writeHeader", "([BLcom/example/portcullis/portcullis/Group;)V"⟩ : MethodName) prog_6_method_4_code 3 none :: ws) ({ frames := 1, cells := 0, slots := 0, locals := 14 } : Room)) (fun a U => a = #[(.ref aCONFIRMATION), (.ref b1), (.ref aFFDHE4096)] ∧ Z.Warmed39 U.vm ∧ U.heap = h0) (fun _ _ _ _ _ => True) (fun _ U o U' => ∃ v L, o = .returned v ∧ Q_wraFFDHE4096 Z aFFDHE2048 aCONFIRMATION aFFDHE4096 aFFDHE3072 b1 k1 u0 u1 u2 u3 u4 u5 u6 u7 u8 u9 u10 u11 u12 u13 u14 u15 u16 u17 u18 u19 u20 u21 u22 u23 u24 u25 u26 u27 u28 u29 u30 u31 u32 u33 u34 h0 n0 v U'.heap L ∧ FrameEnd U o U' L ({ frames := 1, cells := 0, slots := 0, locals := 14 } : Room).cells ({ frames := 1, cells := 0, slots := 0, locals := 14 } : Room).slots) := by
  refine MetFree.of_bodySF (plainFor_of_name pn_com_example_portcullis_portcullis_MessageType) hisR ?_
  intro p e s m args below meth c s₁ Bd hml0 hP hK
  obtain ⟨rfl, hZ, hh⟩ := hP
  have hx := Bd.exec
  have hby := Bd.bytes
  have hml : c.maxLocals = 3 := hml0
  have hown : s.vm.findClass "com/example/portcullis/portcullis/MessageType" = some m.cls := findClass_of_methodNamed Bd.named
  have hnm := (name_of_methodNamed Bd.named Bd.method).1
  have X0 : Stand p l e ({ frames := 1, cells := 0, slots := 0, locals := 14 } : Room) s m #[(.ref aCONFIRMATION), (.ref b1), (.ref aFFDHE4096)] below meth c s₁ [] 0 0 := Stand.of_body Bd
  have e0 : s₁.heap = h0 := by rw [← hh, Bd.state]; rfl
  have N0 := Fr.nil n0
  refine own_go (Q := fun o U' => ∃ v L, o = .returned v ∧ Q_wraFFDHE4096 Z aFFDHE2048 aCONFIRMATION aFFDHE4096 aFFDHE3072 b1 k1 u0 u1 u2 u3 u4 u5 u6 u7 u8 u9 u10 u11 u12 u13 u14 u15 u16 u17 u18 u19 u20 u21 u22 u23 u24 u25 u26 u27 u28 u29 u30 u31 u32 u33 u34 h0 n0 v U'.heap L ∧ FrameEnd s o U' L ({ frames := 1, cells := 0, slots := 0, locals := 14 } : Room).cells ({ frames := 1, cells := 0, slots := 0, locals := 14 } : Room).slots) (fun t k => castTop (ef_wraFFDHE4096 m aCONFIRMATION b1 aFFDHE4096) k) ?_
  show OwnGo p e below _ (s₁.setTop (mkF m 0 #[.val (.ref aCONFIRMATION), .val (.ref b1), .val (.ref aFFDHE4096)] []))
  refine own_go (fun _ k => XS.aloadN X0.here hx rfl (hb hby d_prog_6_method_4_0) rfl rfl k) ?_
  show OwnGo p e below _ (s₁.setTop (mkF m 1 #[.val (.ref aCONFIRMATION), .val (.ref b1), .val (.ref aFFDHE4096)] [(.ref b1)]))
  refine own_go (fun _ k => XS.iconst X0.here hx rfl (hb hby d_prog_6_method_4_1) k) ?_
  show OwnGo p e below _ (s₁.setTop (mkF m 2 #[.val (.ref aCONFIRMATION), .val (.ref b1), .val (.ref aFFDHE4096)] [(.int (0 : Int32)), (.ref b1)]))
  refine own_go (fun _ k => XS.iconst X0.here hx rfl (hb hby d_prog_6_method_4_2) k) ?_
  show OwnGo p e below _ (s₁.setTop (mkF m 3 #[.val (.ref aCONFIRMATION), .val (.ref b1), .val (.ref aFFDHE4096)] [(.int (1 : Int32)), (.int (0 : Int32)), (.ref b1)]))
  obtain ⟨c20, Ar20, q20, S20, M20, H20, G20⟩ := (id VA)
  obtain ⟨T20, h20, X20, e20, W20, st20⟩ := stB X0 hx hZ e0 Ar20 (j := (0 : Int32)) (inb_of S20 ⟨by decide, by decide⟩) (g := (mkF m 3 #[.val (.ref aCONFIRMATION), .val (.ref b1), .val (.ref aFFDHE4096)] [(.int (1 : Int32)), (.int (0 : Int32)), (.ref b1)])) rfl rfl (hb hby d_prog_6_method_4_3)
  rw [show nar .byte (1 : Int32) = (1 : Int32) from by decide] at W20
  have N20 := Fr.snoc X20 N0 geA
  have O20 := O0.wr W20 geA
  have z21 : h0.size ≤ h20.size := Nat.le_trans (Nat.le_refl _) (Nat.le_of_eq W20.size.symm)
  have V20 : Arv Z h20 b1 k1 .byte (35 : Int32) [(.int (1 : Int32)), (.int u1), (.int u2), (.int u3), (.int u4), (.int u5), (.int u6), (.int u7), (.int u8), (.int u9), (.int u10), (.int u11), (.int u12), (.int u13), (.int u14), (.int u15), (.int u16), (.int u17), (.int u18), (.int u19), (.int u20), (.int u21), (.int u22), (.int u23), (.int u24), (.int u25), (.int u26), (.int u27), (.int u28), (.int u29), (.int u30), (.int u31), (.int u32), (.int u33), (.int u34)] (.int (0 : Int32)) := Arv.set Ar20 q20 S20 M20 H20 G20 (by decide) W20 0 (by decide) (Nat.le_of_ble_eq_true rfl)
  refine own_go st20 ?_
  show OwnGo p e below _ (T20.setTop (mkF m 4 #[.val (.ref aCONFIRMATION), .val (.ref b1), .val (.ref aFFDHE4096)] []))
  refine own_go (fun _ k => XS.aloadN X20.here hx rfl (hb hby d_prog_6_method_4_4) rfl rfl k) ?_
  show OwnGo p e below _ (T20.setTop (mkF m 5 #[.val (.ref aCONFIRMATION), .val (.ref b1), .val (.ref aFFDHE4096)] [(.ref b1)]))
  refine own_go (fun _ k => XS.iconst X20.here hx rfl (hb hby d_prog_6_method_4_5) k) ?_
  show OwnGo p e below _ (T20.setTop (mkF m 6 #[.val (.ref aCONFIRMATION), .val (.ref b1), .val (.ref aFFDHE4096)] [(.int (1 : Int32)), (.ref b1)]))
  refine own_go (fun _ k => XS.aloadN X20.here hx rfl (hb hby d_prog_6_method_4_6) rfl rfl k) ?_
  show OwnGo p e below _ (T20.setTop (mkF m 7 #[.val (.ref aCONFIRMATION), .val (.ref b1), .val (.ref aFFDHE4096)] [(.ref aCONFIRMATION), (.int (1 : Int32)), (.ref b1)]))
  obtain ⟨T22, X22, e22, st22⟩ := getF X20 hx hZ hown (host := "") (Or.inl (hw _ (List.mem_of_getElem? (i := 21) rfl))) Via.refl e20 (F0.2.2.2.2.1.ext O20.2) (g := (mkF m 7 #[.val (.ref aCONFIRMATION), .val (.ref b1), .val (.ref aFFDHE4096)] [(.ref aCONFIRMATION), (.int (1 : Int32)), (.ref b1)])) rfl rfl (hb hby d_prog_6_method_4_7)
  refine own_go st22 ?_
  show OwnGo p e below _ (T22.setTop (mkF m 10 #[.val (.ref aCONFIRMATION), .val (.ref b1), .val (.ref aFFDHE4096)] [(.int (2 : Int32)), (.int (1 : Int32)), (.ref b1)]))
  obtain ⟨c23, Ar23, q23, S23, M23, H23, G23⟩ := (id V20)
  obtain ⟨T23, h23, X23, e23, W23, st23⟩ := stB X22 hx hZ e22 Ar23 (j := (1 : Int32)) (inb_of S23 ⟨by decide, by decide⟩) (g := (mkF m 10 #[.val (.ref aCONFIRMATION), .val (.ref b1), .val (.ref aFFDHE4096)] [(.int (2 : Int32)), (.int (1 : Int32)), (.ref b1)])) rfl rfl (hb hby d_prog_6_method_4_10)
  rw [show nar .byte (2 : Int32) = (2 : Int32) from by decide] at W23
  have N23 := Fr.snoc X23 N20 geA
  have O23 := O20.wr W23 geA
  have z24 : h0.size ≤ h23.size := Nat.le_trans z21 (Nat.le_of_eq W23.size.symm)
  have V23 : Arv Z h23 b1 k1 .byte (35 : Int32) [(.int (1 : Int32)), (.int (2 : Int32)), (.int u2), (.int u3), (.int u4), (.int u5), (.int u6), (.int u7), (.int u8), (.int u9), (.int u10), (.int u11), (.int u12), (.int u13), (.int u14), (.int u15), (.int u16), (.int u17), (.int u18), (.int u19), (.int u20), (.int u21), (.int u22), (.int u23), (.int u24), (.int u25), (.int u26), (.int u27), (.int u28), (.int u29), (.int u30), (.int u31), (.int u32), (.int u33), (.int u34)] (.int (0 : Int32)) := Arv.set Ar23 q23 S23 M23 H23 G23 (by decide) W23 1 (by decide) (Nat.le_of_ble_eq_true rfl)
  refine own_go st23 ?_
  show OwnGo p e below _ (T23.setTop (mkF m 11 #[.val (.ref aCONFIRMATION), .val (.ref b1), .val (.ref aFFDHE4096)] []))
  refine own_go (fun _ k => XS.aloadN X23.here hx rfl (hb hby d_prog_6_method_4_11) rfl rfl k) ?_
  show OwnGo p e below _ (T23.setTop (mkF m 12 #[.val (.ref aCONFIRMATION), .val (.ref b1), .val (.ref aFFDHE4096)] [(.ref b1)]))
  refine own_go (fun _ k => XS.iconst X23.here hx rfl (hb hby d_prog_6_method_4_12) k) ?_
  show OwnGo p e below _ (T23.setTop (mkF m 13 #[.val (.ref aCONFIRMATION), .val (.ref b1), .val (.ref aFFDHE4096)] [(.int (2 : Int32)), (.ref b1)]))
  refine own_go (fun _ k => XS.aloadN X23.here hx rfl (hb hby d_prog_6_method_4_13) rfl rfl k) ?_
  show OwnGo p e below _ (T23.setTop (mkF m 14 #[.val (.ref aCONFIRMATION), .val (.ref b1), .val (.ref aFFDHE4096)] [(.ref aFFDHE4096), (.int (2 : Int32)), (.ref b1)]))
  obtain ⟨cq25, kq25, qa25, qb25, qc25⟩ := isOf hZ e23 (F0.2.2.2.2.2.2.2.1.ext O23.2)
  obtain ⟨_, _, ⟨T25, L25, k25, n25⟩, -, X25, ⟨Lc25, hQ25, l25, y25, z25⟩, st25⟩ := X23.virtualBack hx (y := (⟨"com/example/portcullis/portcullis/Group", "id", "()B"⟩ : MethodName)) (z := (⟨"com/example/portcullis/portcullis/Group", "id", "()B"⟩ : MethodName)) hown (mvT hZ (hw _ (List.mem_of_getElem? (i := 23) rfl))) (mvT hZ (hw _ (List.mem_of_getElem? (i := 24) rfl))) (notFace_of_selects (args := #[]) (mvT hZ (hw _ (List.mem_of_getElem? (i := 26) rfl)))) (mvT hZ (hw _ (List.mem_of_getElem? (i := 26) rfl))) (mvT hZ (hw _ (List.mem_of_getElem? (i := 25) rfl))) (by decide) (backOf (W := 2) (rm_idaFFDHE4096 l Z a0 hw [] aFFDHE2048 aCONFIRMATION aFFDHE4096 aFFDHE3072 F0 h23 n0 O23) hZ (hw _ (List.mem_of_getElem? (i := 27) rfl)) (hw _ (List.mem_of_getElem? (i := 2) rfl)) (by decide) (by decide)) qa25 qc25 (g := (mkF m 14 #[.val (.ref aCONFIRMATION), .val (.ref b1), .val (.ref aFFDHE4096)] [(.ref aFFDHE4096), (.int (2 : Int32)), (.ref b1)])) rfl (by rw [hml]; rfl) (Steps.refl _) (argsL := []) (rest := [(.int (2 : Int32)), (.ref b1)]) (lenOf pd___B rfl) rfl (by show 2 * 0 + _ ≤ _; exact Nat.le_of_eq rfl) (hb hby d_prog_6_method_4_14) (fun _ _ => ⟨rfl, e23, (by decide : 0 + 0 ≤ _), (by decide : 0 + 0 ≤ _)⟩)
  dsimp only [Pt.U, Pt.locs, Pt.cells, Pt.slots] at X25 l25 y25 z25 st25 hQ25
  subst l25 y25 z25
  obtain ⟨rfl, Nq25, K25⟩ := hQ25
  have N25 := Fr.app N23 Nq25
  refine own_go (fun _ k => st25.trans k) ?_
  show OwnGo p e below _ (T25.setTop (mkF m 17 #[.val (.ref aCONFIRMATION), .val (.ref b1), .val (.ref aFFDHE4096)] [(.int (3 : Int32)), (.int (2 : Int32)), (.ref b1)]))
  obtain ⟨c26, Ar26, q26, S26, M26, H26, G26⟩ := (id V23)
  obtain ⟨T26, h26, X26, e26, W26, st26⟩ := stB X25 hx hZ K25 Ar26 (j := (2 : Int32)) (inb_of S26 ⟨by decide, by decide⟩) (g := (mkF m 17 #[.val (.ref aCONFIRMATION), .val (.ref b1), .val (.ref aFFDHE4096)] [(.int (3 : Int32)), (.int (2 : Int32)), (.ref b1)])) rfl rfl (hb hby d_prog_6_method_4_17)
  rw [show nar .byte (3 : Int32) = (3 : Int32) from by decide] at W26
  have N26 := Fr.snoc X26 N25 geA
  have O26 := O23.wr W26 geA
  have z27 : h0.size ≤ h26.size := Nat.le_trans z24 (Nat.le_of_eq W26.size.symm)
  have V26 : Arv Z h26 b1 k1 .byte (35 : Int32) [(.int (1 : Int32)), (.int (2 : Int32)), (.int (3 : Int32)), (.int u3), (.int u4), (.int u5), (.int u6), (.int u7), (.int u8), (.int u9), (.int u10), (.int u11), (.int u12), (.int u13), (.int u14), (.int u15), (.int u16), (.int u17), (.int u18), (.int u19), (.int u20), (.int u21), (.int u22), (.int u23), (.int u24), (.int u25), (.int u26), (.int u27), (.int u28), (.int u29), (.int u30), (.int u31), (.int u32), (.int u33), (.int u34)] (.int (0 : Int32)) := Arv.set Ar26 q26 S26 M26 H26 G26 (by decide) W26 2 (by decide) (Nat.le_of_ble_eq_true rfl)
  refine own_go st26 ?_
  show OwnGo p e below _ (T26.setTop (mkF m 18 #[.val (.ref aCONFIRMATION), .val (.ref b1), .val (.ref aFFDHE4096)] []))
  obtain ⟨fs, hr, hrun, hended, hW, hsame⟩ := X26.leave (v := none) (fun h => rfl)
  refine ⟨_, _, X26.returnOut hx Bd.returns (hb hby d_prog_6_method_4_18) hr, hrun, hended, _, _, rfl, ?_, ⟨_, rfl⟩, hW, hsame.mono (by decide) (by decide)⟩
  show Q_wraFFDHE4096 Z aFFDHE2048 aCONFIRMATION aFFDHE4096 aFFDHE3072 b1 k1 u0 u1 u2 u3 u4 u5 u6 u7 u8 u9 u10 u11 u12 u13 u14 u15 u16 u17 u18 u19 u20 u21 u22 u23 u24 u25 u26 u27 u28 u29 u30 u31 u32 u33 u34 h0 n0 _ T26.heap _
  rw [e26]
  exact ⟨rfl, N26, ((((Keep.refl _ [b1]).wr W20 (Or.inl (List.mem_of_getElem? (i := 0) rfl))).wr W23 (Or.inl (List.mem_of_getElem? (i := 0) rfl))).wr W26 (Or.inl (List.mem_of_getElem? (i := 0) rfl))), V26⟩
theorem d_method_3_0 : decode method_3_code 0 = .ok (.aload_n 0, 1) := by decide +kernel
theorem d_method_3_1 : decode method_3_code 1 = .ok (.iload_n 1, 1) := by decide +kernel
theorem d_method_3_2 : decode method_3_code 2 = .ok (.lload_n 2, 1) := by decide +kernel
theorem d_method_3_3 : decode method_3_code 3 = .ok (.bipush 56, 2) := by decide +kernel
theorem d_method_3_5 : decode method_3_code 5 = .ok (.lushr, 1) := by decide +kernel
theorem d_method_3_6 : decode method_3_code 6 = .ok (.l2i, 1) := by decide +kernel
theorem d_method_3_7 : decode method_3_code 7 = .ok (.i2b, 1) := by decide +kernel
theorem d_method_3_8 : decode method_3_code 8 = .ok (.bastore, 1) := by decide +kernel
theorem d_method_3_9 : decode method_3_code 9 = .ok (.aload_n 0, 1) := by decide +kernel
theorem d_method_3_10 : decode method_3_code 10 = .ok (.iload_n 1, 1) := by decide +kernel
theorem d_method_3_11 : decode method_3_code 11 = .ok (.iconst 1, 1) := by decide +kernel
theorem d_method_3_12 : decode method_3_code 12 = .ok (.iadd, 1) := by decide +kernel
theorem d_method_3_13 : decode method_3_code 13 = .ok (.lload_n 2, 1) := by decide +kernel
theorem d_method_3_14 : decode method_3_code 14 = .ok (.bipush 48, 2) := by decide +kernel
theorem d_method_3_16 : decode method_3_code 16 = .ok (.lushr, 1) := by decide +kernel
theorem d_method_3_17 : decode method_3_code 17 = .ok (.l2i, 1) := by decide +kernel
theorem d_method_3_18 : decode method_3_code 18 = .ok (.i2b, 1) := by decide +kernel
theorem d_method_3_19 : decode method_3_code 19 = .ok (.bastore, 1) := by decide +kernel
theorem d_method_3_20 : decode method_3_code 20 = .ok (.aload_n 0, 1) := by decide +kernel
theorem d_method_3_21 : decode method_3_code 21 = .ok (.iload_n 1, 1) := by decide +kernel
theorem d_method_3_22 : decode method_3_code 22 = .ok (.iconst 2, 1) := by decide +kernel
theorem d_method_3_23 : decode method_3_code 23 = .ok (.iadd, 1) := by decide +kernel
theorem d_method_3_24 : decode method_3_code 24 = .ok (.lload_n 2, 1) := by decide +kernel
theorem d_method_3_25 : decode method_3_code 25 = .ok (.bipush 40, 2) := by decide +kernel
theorem d_method_3_27 : decode method_3_code 27 = .ok (.lushr, 1) := by decide +kernel
theorem d_method_3_28 : decode method_3_code 28 = .ok (.l2i, 1) := by decide +kernel
theorem d_method_3_29 : decode method_3_code 29 = .ok (.i2b, 1) := by decide +kernel
theorem d_method_3_30 : decode method_3_code 30 = .ok (.bastore, 1) := by decide +kernel
theorem d_method_3_31 : decode method_3_code 31 = .ok (.aload_n 0, 1) := by decide +kernel
theorem d_method_3_32 : decode method_3_code 32 = .ok (.iload_n 1, 1) := by decide +kernel
theorem d_method_3_33 : decode method_3_code 33 = .ok (.iconst 3, 1) := by decide +kernel
theorem d_method_3_34 : decode method_3_code 34 = .ok (.iadd, 1) := by decide +kernel
theorem d_method_3_35 : decode method_3_code 35 = .ok (.lload_n 2, 1) := by decide +kernel
theorem d_method_3_36 : decode method_3_code 36 = .ok (.bipush 32, 2) := by decide +kernel
theorem d_method_3_38 : decode method_3_code 38 = .ok (.lushr, 1) := by decide +kernel
theorem d_method_3_39 : decode method_3_code 39 = .ok (.l2i, 1) := by decide +kernel
theorem d_method_3_40 : decode method_3_code 40 = .ok (.i2b, 1) := by decide +kernel
theorem d_method_3_41 : decode method_3_code 41 = .ok (.bastore, 1) := by decide +kernel
theorem d_method_3_42 : decode method_3_code 42 = .ok (.aload_n 0, 1) := by decide +kernel
theorem d_method_3_43 : decode method_3_code 43 = .ok (.iload_n 1, 1) := by decide +kernel
theorem d_method_3_44 : decode method_3_code 44 = .ok (.iconst 4, 1) := by decide +kernel
theorem d_method_3_45 : decode method_3_code 45 = .ok (.iadd, 1) := by decide +kernel
theorem d_method_3_46 : decode method_3_code 46 = .ok (.lload_n 2, 1) := by decide +kernel
theorem d_method_3_47 : decode method_3_code 47 = .ok (.bipush 24, 2) := by decide +kernel
theorem d_method_3_49 : decode method_3_code 49 = .ok (.lushr, 1) := by decide +kernel
theorem d_method_3_50 : decode method_3_code 50 = .ok (.l2i, 1) := by decide +kernel
theorem d_method_3_51 : decode method_3_code 51 = .ok (.i2b, 1) := by decide +kernel
theorem d_method_3_52 : decode method_3_code 52 = .ok (.bastore, 1) := by decide +kernel
theorem d_method_3_53 : decode method_3_code 53 = .ok (.aload_n 0, 1) := by decide +kernel
theorem d_method_3_54 : decode method_3_code 54 = .ok (.iload_n 1, 1) := by decide +kernel
theorem d_method_3_55 : decode method_3_code 55 = .ok (.iconst 5, 1) := by decide +kernel
theorem d_method_3_56 : decode method_3_code 56 = .ok (.iadd, 1) := by decide +kernel
theorem d_method_3_57 : decode method_3_code 57 = .ok (.lload_n 2, 1) := by decide +kernel
theorem d_method_3_58 : decode method_3_code 58 = .ok (.bipush 16, 2) := by decide +kernel
theorem d_method_3_60 : decode method_3_code 60 = .ok (.lushr, 1) := by decide +kernel
theorem d_method_3_61 : decode method_3_code 61 = .ok (.l2i, 1) := by decide +kernel
theorem d_method_3_62 : decode method_3_code 62 = .ok (.i2b, 1) := by decide +kernel
theorem d_method_3_63 : decode method_3_code 63 = .ok (.bastore, 1) := by decide +kernel
theorem d_method_3_64 : decode method_3_code 64 = .ok (.aload_n 0, 1) := by decide +kernel
theorem d_method_3_65 : decode method_3_code 65 = .ok (.iload_n 1, 1) := by decide +kernel
theorem d_method_3_66 : decode method_3_code 66 = .ok (.bipush 6, 2) := by decide +kernel
theorem d_method_3_68 : decode method_3_code 68 = .ok (.iadd, 1) := by decide +kernel
theorem d_method_3_69 : decode method_3_code 69 = .ok (.lload_n 2, 1) := by decide +kernel
theorem d_method_3_70 : decode method_3_code 70 = .ok (.bipush 8, 2) := by decide +kernel
theorem d_method_3_72 : decode method_3_code 72 = .ok (.lushr, 1) := by decide +kernel
theorem d_method_3_73 : decode method_3_code 73 = .ok (.l2i, 1) := by decide +kernel
theorem d_method_3_74 : decode method_3_code 74 = .ok (.i2b, 1) := by decide +kernel
theorem d_method_3_75 : decode method_3_code 75 = .ok (.bastore, 1) := by decide +kernel
theorem d_method_3_76 : decode method_3_code 76 = .ok (.aload_n 0, 1) := by decide +kernel
theorem d_method_3_77 : decode method_3_code 77 = .ok (.iload_n 1, 1) := by decide +kernel
theorem d_method_3_78 : decode method_3_code 78 = .ok (.bipush 7, 2) := by decide +kernel
theorem d_method_3_80 : decode method_3_code 80 = .ok (.iadd, 1) := by decide +kernel
theorem d_method_3_81 : decode method_3_code 81 = .ok (.lload_n 2, 1) := by decide +kernel
theorem d_method_3_82 : decode method_3_code 82 = .ok (.l2i, 1) := by decide +kernel
theorem d_method_3_83 : decode method_3_code 83 = .ok (.i2b, 1) := by decide +kernel
theorem d_method_3_84 : decode method_3_code 84 = .ok (.bastore, 1) := by decide +kernel
theorem d_method_3_85 : decode method_3_code 85 = .ok (.return_, 1) := by decide +kernel
theorem pn_com_example_portcullis_portcullis_ConfirmationEncodePinLaw : plainName "com/example/portcullis/portcullis/ConfirmationEncodePinLaw" = true := by first | (simp [plainName, overriddenIn]; done) | decide +kernel
def Q_put0 (Z : State) (aFFDHE2048 aCONFIRMATION aFFDHE4096 aFFDHE3072 : Addr) (b1 : Addr) (q3 : Int64) (k1 : ClassId) (u0 : Int32) (u1 : Int32) (u2 : Int32) (u3 : Int32) (u4 : Int32) (u5 : Int32) (u6 : Int32) (u7 : Int32) (u8 : Int32) (u9 : Int32) (u10 : Int32) (u11 : Int32) (u12 : Int32) (u13 : Int32) (u14 : Int32) (u15 : Int32) (u16 : Int32) (u17 : Int32) (u18 : Int32) (u19 : Int32) (u20 : Int32) (u21 : Int32) (u22 : Int32) (u23 : Int32) (u24 : Int32) (u25 : Int32) (u26 : Int32) (u27 : Int32) (u28 : Int32) (u29 : Int32) (u30 : Int32) (u31 : Int32) (h0 : Heap) (n0 : Nat) (v : Option Value) (h : Heap) (L : List Loc) : Prop := v = none ∧ Fr n0 L ∧ Keep h0 h [b1] ∧ Arv Z h b1 k1 .byte (32 : Int32) [(.int (((((((q3).toUInt64 >>> ((56 : Int32) &&& 0x3f).toInt64.toUInt64).toInt64)).toInt32)).toInt8.toInt32)), (.int (((((((q3).toUInt64 >>> ((48 : Int32) &&& 0x3f).toInt64.toUInt64).toInt64)).toInt32)).toInt8.toInt32)), (.int (((((((q3).toUInt64 >>> ((40 : Int32) &&& 0x3f).toInt64.toUInt64).toInt64)).toInt32)).toInt8.toInt32)), (.int (((((((q3).toUInt64 >>> ((32 : Int32) &&& 0x3f).toInt64.toUInt64).toInt64)).toInt32)).toInt8.toInt32)), (.int (((((((q3).toUInt64 >>> ((24 : Int32) &&& 0x3f).toInt64.toUInt64).toInt64)).toInt32)).toInt8.toInt32)), (.int (((((((q3).toUInt64 >>> ((16 : Int32) &&& 0x3f).toInt64.toUInt64).toInt64)).toInt32)).toInt8.toInt32)), (.int (((((((q3).toUInt64 >>> ((8 : Int32) &&& 0x3f).toInt64.toUInt64).toInt64)).toInt32)).toInt8.toInt32)), (.int ((((q3).toInt32)).toInt8.toInt32)), (.int u8), (.int u9), (.int u10), (.int u11), (.int u12), (.int u13), (.int u14), (.int u15), (.int u16), (.int u17), (.int u18), (.int u19), (.int u20), (.int u21), (.int u22), (.int u23), (.int u24), (.int u25), (.int u26), (.int u27), (.int u28), (.int u29), (.int u30), (.int u31)] (.int (0 : Int32))
theorem ef_put0 (m : MethodId) (x0 : Addr) (x1 : Int32) (x2 : Int64) : entryFrame m #[(.ref x0), (.int x1), (.long x2)] 4 = mkF m 0 #[.val (.ref x0), .val (.int x1), .val (.long x2), .second] [] := by first | (simp [entryFrame, mkF, argsToLocals, Value.category]; done) | rfl
set_option maxRecDepth 65536 in
set_option maxHeartbeats 40000000 in
theorem rm_put0 (l : Launch) (Z : State) (a0 : Array Value) (hw : ∀ d ∈ tables_1, d.before a0 Z = true) (ws : List Jvm.Cond) (aFFDHE2048 aCONFIRMATION aFFDHE4096 aFFDHE3072 : Addr) (F0 : OwnFacts Z aFFDHE2048 aCONFIRMATION aFFDHE4096 aFFDHE3072) (b1 : Addr) (q3 : Int64) (k1 : ClassId) (u0 : Int32) (u1 : Int32) (u2 : Int32) (u3 : Int32) (u4 : Int32) (u5 : Int32) (u6 : Int32) (u7 : Int32) (u8 : Int32) (u9 : Int32) (u10 : Int32) (u11 : Int32) (u12 : Int32) (u13 : Int32) (u14 : Int32) (u15 : Int32) (u16 : Int32) (u17 : Int32) (u18 : Int32) (u19 : Int32) (u20 : Int32) (u21 : Int32) (u22 : Int32) (u23 : Int32) (u24 : Int32) (u25 : Int32) (u26 : Int32) (u27 : Int32) (u28 : Int32) (u29 : Int32) (u30 : Int32) (u31 : Int32) (h0 : Heap) (n0 : Nat) (O0 : Old Z n0 h0) (VA : Arv Z h0 b1 k1 .byte (32 : Int32) [(.int u0), (.int u1), (.int u2), (.int u3), (.int u4), (.int u5), (.int u6), (.int u7), (.int u8), (.int u9), (.int u10), (.int u11), (.int u12), (.int u13), (.int u14), (.int u15), (.int u16), (.int u17), (.int u18), (.int u19), (.int u20), (.int u21), (.int u22), (.int u23), (.int u24), (.int u25), (.int u26), (.int u27), (.int u28), (.int u29), (.int u30), (.int u31)] (.int (0 : Int32))) (geA : n0 ≤ b1) :
    MetFree l (⟨"com/example/portcullis/portcullis/ConfirmationEncodePinLaw", "put", "([BIJ)V"⟩ : MethodName) (head1 (Jvm.Cond.code (⟨"com/example/portcullis/portcullis/ConfirmationEncodePinLaw", "put", "([BIJ)V"⟩ : MethodName) method_3_code 4 none :: ws) ({ frames := 0, cells := 0, slots := 0, locals := 0 } : Room)) (fun a U => a = #[(.ref b1), (.int (0 : Int32)), (.long q3)] ∧ Z.Warmed39 U.vm ∧ U.heap = h0) (fun _ _ _ _ _ => True) (fun _ U o U' => ∃ v L, o = .returned v ∧ Q_put0 Z aFFDHE2048 aCONFIRMATION aFFDHE4096 aFFDHE3072 b1 q3 k1 u0 u1 u2 u3 u4 u5 u6 u7 u8 u9 u10 u11 u12 u13 u14 u15 u16 u17 u18 u19 u20 u21 u22 u23 u24 u25 u26 u27 u28 u29 u30 u31 h0 n0 v U'.heap L ∧ FrameEnd U o U' L ({ frames := 0, cells := 0, slots := 0, locals := 0 } : Room).cells ({ frames := 0, cells := 0, slots := 0, locals := 0 } : Room).slots) := by
  refine MetFree.of_bodySF (plainFor_of_name pn_com_example_portcullis_portcullis_ConfirmationEncodePinLaw) hisR ?_
  intro p e s m args below meth c s₁ Bd hml0 hP hK
  obtain ⟨rfl, hZ, hh⟩ := hP
  have hx := Bd.exec
  have hby := Bd.bytes
  have hml : c.maxLocals = 4 := hml0
  have hown : s.vm.findClass "com/example/portcullis/portcullis/ConfirmationEncodePinLaw" = some m.cls := findClass_of_methodNamed Bd.named
  have hnm := (name_of_methodNamed Bd.named Bd.method).1
  have X0 : Stand p l e ({ frames := 0, cells := 0, slots := 0, locals := 0 } : Room) s m #[(.ref b1), (.int (0 : Int32)), (.long q3)] below meth c s₁ [] 0 0 := Stand.of_body Bd
  have e0 : s₁.heap = h0 := by rw [← hh, Bd.state]; rfl
  have N0 := Fr.nil n0
  refine own_go (Q := fun o U' => ∃ v L, o = .returned v ∧ Q_put0 Z aFFDHE2048 aCONFIRMATION aFFDHE4096 aFFDHE3072 b1 q3 k1 u0 u1 u2 u3 u4 u5 u6 u7 u8 u9 u10 u11 u12 u13 u14 u15 u16 u17 u18 u19 u20 u21 u22 u23 u24 u25 u26 u27 u28 u29 u30 u31 h0 n0 v U'.heap L ∧ FrameEnd s o U' L ({ frames := 0, cells := 0, slots := 0, locals := 0 } : Room).cells ({ frames := 0, cells := 0, slots := 0, locals := 0 } : Room).slots) (fun t k => castTop (ef_put0 m b1 (0 : Int32) q3) k) ?_
  show OwnGo p e below _ (s₁.setTop (mkF m 0 #[.val (.ref b1), .val (.int (0 : Int32)), .val (.long q3), .second] []))
  refine own_go (fun _ k => XS.aloadN X0.here hx rfl (hb hby d_method_3_0) rfl rfl k) ?_
  show OwnGo p e below _ (s₁.setTop (mkF m 1 #[.val (.ref b1), .val (.int (0 : Int32)), .val (.long q3), .second] [(.ref b1)]))
  refine own_go (fun _ k => XS.iloadN X0.here hx rfl (hb hby d_method_3_1) rfl k) ?_
  show OwnGo p e below _ (s₁.setTop (mkF m 2 #[.val (.ref b1), .val (.int (0 : Int32)), .val (.long q3), .second] [(.int (0 : Int32)), (.ref b1)]))
  refine own_go (fun _ k => XS.lloadN X0.here hx rfl (hb hby d_method_3_2) rfl k) ?_
  show OwnGo p e below _ (s₁.setTop (mkF m 3 #[.val (.ref b1), .val (.int (0 : Int32)), .val (.long q3), .second] [(.long q3), (.int (0 : Int32)), (.ref b1)]))
  refine own_go (fun _ k => XS.bipush X0.here hx rfl (hb hby d_method_3_3) k) ?_
  show OwnGo p e below _ (s₁.setTop (mkF m 5 #[.val (.ref b1), .val (.int (0 : Int32)), .val (.long q3), .second] [(.int (56 : Int32)), (.long q3), (.int (0 : Int32)), (.ref b1)]))
  refine own_go (fun _ k => XS.lushr X0.here hx rfl (hb hby d_method_3_5) rfl k) ?_
  show OwnGo p e below _ (s₁.setTop (mkF m 6 #[.val (.ref b1), .val (.int (0 : Int32)), .val (.long q3), .second] [(.long (((q3).toUInt64 >>> ((56 : Int32) &&& 0x3f).toInt64.toUInt64).toInt64)), (.int (0 : Int32)), (.ref b1)]))
  refine own_go (fun _ k => XS.l2i X0.here hx rfl (hb hby d_method_3_6) rfl k) ?_
  show OwnGo p e below _ (s₁.setTop (mkF m 7 #[.val (.ref b1), .val (.int (0 : Int32)), .val (.long q3), .second] [(.int (((((q3).toUInt64 >>> ((56 : Int32) &&& 0x3f).toInt64.toUInt64).toInt64)).toInt32)), (.int (0 : Int32)), (.ref b1)]))
  refine own_go (fun _ k => XS.i2b X0.here hx rfl (hb hby d_method_3_7) rfl k) ?_
  show OwnGo p e below _ (s₁.setTop (mkF m 8 #[.val (.ref b1), .val (.int (0 : Int32)), .val (.long q3), .second] [(.int (((((((q3).toUInt64 >>> ((56 : Int32) &&& 0x3f).toInt64.toUInt64).toInt64)).toInt32)).toInt8.toInt32)), (.int (0 : Int32)), (.ref b1)]))
  obtain ⟨c28, Ar28, q28, S28, M28, H28, G28⟩ := (id VA)
  obtain ⟨T28, h28, X28, e28, W28, st28⟩ := stB X0 hx hZ e0 Ar28 (j := (0 : Int32)) (inb_of S28 ⟨by decide, by decide⟩) (g := (mkF m 8 #[.val (.ref b1), .val (.int (0 : Int32)), .val (.long q3), .second] [(.int (((((((q3).toUInt64 >>> ((56 : Int32) &&& 0x3f).toInt64.toUInt64).toInt64)).toInt32)).toInt8.toInt32)), (.int (0 : Int32)), (.ref b1)])) rfl rfl (hb hby d_method_3_8)
  rw [own_narb] at W28
  have N28 := Fr.snoc X28 N0 geA
  have O28 := O0.wr W28 geA
  have z29 : h0.size ≤ h28.size := Nat.le_trans (Nat.le_refl _) (Nat.le_of_eq W28.size.symm)
  have V28 : Arv Z h28 b1 k1 .byte (32 : Int32) [(.int (((((((q3).toUInt64 >>> ((56 : Int32) &&& 0x3f).toInt64.toUInt64).toInt64)).toInt32)).toInt8.toInt32)), (.int u1), (.int u2), (.int u3), (.int u4), (.int u5), (.int u6), (.int u7), (.int u8), (.int u9), (.int u10), (.int u11), (.int u12), (.int u13), (.int u14), (.int u15), (.int u16), (.int u17), (.int u18), (.int u19), (.int u20), (.int u21), (.int u22), (.int u23), (.int u24), (.int u25), (.int u26), (.int u27), (.int u28), (.int u29), (.int u30), (.int u31)] (.int (0 : Int32)) := Arv.set Ar28 q28 S28 M28 H28 G28 (fits_nar_byte _) W28 0 (by decide) (Nat.le_of_ble_eq_true rfl)
  refine own_go st28 ?_
  show OwnGo p e below _ (T28.setTop (mkF m 9 #[.val (.ref b1), .val (.int (0 : Int32)), .val (.long q3), .second] []))
  refine own_go (fun _ k => XS.aloadN X28.here hx rfl (hb hby d_method_3_9) rfl rfl k) ?_
  show OwnGo p e below _ (T28.setTop (mkF m 10 #[.val (.ref b1), .val (.int (0 : Int32)), .val (.long q3), .second] [(.ref b1)]))
  refine own_go (fun _ k => XS.iloadN X28.here hx rfl (hb hby d_method_3_10) rfl k) ?_
  show OwnGo p e below _ (T28.setTop (mkF m 11 #[.val (.ref b1), .val (.int (0 : Int32)), .val (.long q3), .second] [(.int (0 : Int32)), (.ref b1)]))
  refine own_go (fun _ k => XS.iconst X28.here hx rfl (hb hby d_method_3_11) k) ?_
  show OwnGo p e below _ (T28.setTop (mkF m 12 #[.val (.ref b1), .val (.int (0 : Int32)), .val (.long q3), .second] [(.int (1 : Int32)), (.int (0 : Int32)), (.ref b1)]))
  refine own_go (fun _ k => XS.iadd X28.here hx rfl (hb hby d_method_3_12) rfl k) ?_
  show OwnGo p e below _ (T28.setTop (mkF m 13 #[.val (.ref b1), .val (.int (0 : Int32)), .val (.long q3), .second] [(.int ((0 : Int32) + (1 : Int32))), (.ref b1)]))
  rw [show ((0 : Int32) + (1 : Int32)) = (1 : Int32) from by decide]
  show OwnGo p e below _ (T28.setTop (mkF m 13 #[.val (.ref b1), .val (.int (0 : Int32)), .val (.long q3), .second] [(.int (1 : Int32)), (.ref b1)]))
  refine own_go (fun _ k => XS.lloadN X28.here hx rfl (hb hby d_method_3_13) rfl k) ?_
  show OwnGo p e below _ (T28.setTop (mkF m 14 #[.val (.ref b1), .val (.int (0 : Int32)), .val (.long q3), .second] [(.long q3), (.int (1 : Int32)), (.ref b1)]))
  refine own_go (fun _ k => XS.bipush X28.here hx rfl (hb hby d_method_3_14) k) ?_
  show OwnGo p e below _ (T28.setTop (mkF m 16 #[.val (.ref b1), .val (.int (0 : Int32)), .val (.long q3), .second] [(.int (48 : Int32)), (.long q3), (.int (1 : Int32)), (.ref b1)]))
  refine own_go (fun _ k => XS.lushr X28.here hx rfl (hb hby d_method_3_16) rfl k) ?_
  show OwnGo p e below _ (T28.setTop (mkF m 17 #[.val (.ref b1), .val (.int (0 : Int32)), .val (.long q3), .second] [(.long (((q3).toUInt64 >>> ((48 : Int32) &&& 0x3f).toInt64.toUInt64).toInt64)), (.int (1 : Int32)), (.ref b1)]))
  refine own_go (fun _ k => XS.l2i X28.here hx rfl (hb hby d_method_3_17) rfl k) ?_
  show OwnGo p e below _ (T28.setTop (mkF m 18 #[.val (.ref b1), .val (.int (0 : Int32)), .val (.long q3), .second] [(.int (((((q3).toUInt64 >>> ((48 : Int32) &&& 0x3f).toInt64.toUInt64).toInt64)).toInt32)), (.int (1 : Int32)), (.ref b1)]))
  refine own_go (fun _ k => XS.i2b X28.here hx rfl (hb hby d_method_3_18) rfl k) ?_
  show OwnGo p e below _ (T28.setTop (mkF m 19 #[.val (.ref b1), .val (.int (0 : Int32)), .val (.long q3), .second] [(.int (((((((q3).toUInt64 >>> ((48 : Int32) &&& 0x3f).toInt64.toUInt64).toInt64)).toInt32)).toInt8.toInt32)), (.int (1 : Int32)), (.ref b1)]))
  obtain ⟨c30, Ar30, q30, S30, M30, H30, G30⟩ := (id V28)
  obtain ⟨T30, h30, X30, e30, W30, st30⟩ := stB X28 hx hZ e28 Ar30 (j := (1 : Int32)) (inb_of S30 ⟨by decide, by decide⟩) (g := (mkF m 19 #[.val (.ref b1), .val (.int (0 : Int32)), .val (.long q3), .second] [(.int (((((((q3).toUInt64 >>> ((48 : Int32) &&& 0x3f).toInt64.toUInt64).toInt64)).toInt32)).toInt8.toInt32)), (.int (1 : Int32)), (.ref b1)])) rfl rfl (hb hby d_method_3_19)
  rw [own_narb] at W30
  have N30 := Fr.snoc X30 N28 geA
  have O30 := O28.wr W30 geA
  have z31 : h0.size ≤ h30.size := Nat.le_trans z29 (Nat.le_of_eq W30.size.symm)
  have V30 : Arv Z h30 b1 k1 .byte (32 : Int32) [(.int (((((((q3).toUInt64 >>> ((56 : Int32) &&& 0x3f).toInt64.toUInt64).toInt64)).toInt32)).toInt8.toInt32)), (.int (((((((q3).toUInt64 >>> ((48 : Int32) &&& 0x3f).toInt64.toUInt64).toInt64)).toInt32)).toInt8.toInt32)), (.int u2), (.int u3), (.int u4), (.int u5), (.int u6), (.int u7), (.int u8), (.int u9), (.int u10), (.int u11), (.int u12), (.int u13), (.int u14), (.int u15), (.int u16), (.int u17), (.int u18), (.int u19), (.int u20), (.int u21), (.int u22), (.int u23), (.int u24), (.int u25), (.int u26), (.int u27), (.int u28), (.int u29), (.int u30), (.int u31)] (.int (0 : Int32)) := Arv.set Ar30 q30 S30 M30 H30 G30 (fits_nar_byte _) W30 1 (by decide) (Nat.le_of_ble_eq_true rfl)
  refine own_go st30 ?_
  show OwnGo p e below _ (T30.setTop (mkF m 20 #[.val (.ref b1), .val (.int (0 : Int32)), .val (.long q3), .second] []))
  refine own_go (fun _ k => XS.aloadN X30.here hx rfl (hb hby d_method_3_20) rfl rfl k) ?_
  show OwnGo p e below _ (T30.setTop (mkF m 21 #[.val (.ref b1), .val (.int (0 : Int32)), .val (.long q3), .second] [(.ref b1)]))
  refine own_go (fun _ k => XS.iloadN X30.here hx rfl (hb hby d_method_3_21) rfl k) ?_
  show OwnGo p e below _ (T30.setTop (mkF m 22 #[.val (.ref b1), .val (.int (0 : Int32)), .val (.long q3), .second] [(.int (0 : Int32)), (.ref b1)]))
  refine own_go (fun _ k => XS.iconst X30.here hx rfl (hb hby d_method_3_22) k) ?_
  show OwnGo p e below _ (T30.setTop (mkF m 23 #[.val (.ref b1), .val (.int (0 : Int32)), .val (.long q3), .second] [(.int (2 : Int32)), (.int (0 : Int32)), (.ref b1)]))
  refine own_go (fun _ k => XS.iadd X30.here hx rfl (hb hby d_method_3_23) rfl k) ?_
  show OwnGo p e below _ (T30.setTop (mkF m 24 #[.val (.ref b1), .val (.int (0 : Int32)), .val (.long q3), .second] [(.int ((0 : Int32) + (2 : Int32))), (.ref b1)]))
  rw [show ((0 : Int32) + (2 : Int32)) = (2 : Int32) from by decide]
  show OwnGo p e below _ (T30.setTop (mkF m 24 #[.val (.ref b1), .val (.int (0 : Int32)), .val (.long q3), .second] [(.int (2 : Int32)), (.ref b1)]))
  refine own_go (fun _ k => XS.lloadN X30.here hx rfl (hb hby d_method_3_24) rfl k) ?_
  show OwnGo p e below _ (T30.setTop (mkF m 25 #[.val (.ref b1), .val (.int (0 : Int32)), .val (.long q3), .second] [(.long q3), (.int (2 : Int32)), (.ref b1)]))
  refine own_go (fun _ k => XS.bipush X30.here hx rfl (hb hby d_method_3_25) k) ?_
  show OwnGo p e below _ (T30.setTop (mkF m 27 #[.val (.ref b1), .val (.int (0 : Int32)), .val (.long q3), .second] [(.int (40 : Int32)), (.long q3), (.int (2 : Int32)), (.ref b1)]))
  refine own_go (fun _ k => XS.lushr X30.here hx rfl (hb hby d_method_3_27) rfl k) ?_
  show OwnGo p e below _ (T30.setTop (mkF m 28 #[.val (.ref b1), .val (.int (0 : Int32)), .val (.long q3), .second] [(.long (((q3).toUInt64 >>> ((40 : Int32) &&& 0x3f).toInt64.toUInt64).toInt64)), (.int (2 : Int32)), (.ref b1)]))
  refine own_go (fun _ k => XS.l2i X30.here hx rfl (hb hby d_method_3_28) rfl k) ?_
  show OwnGo p e below _ (T30.setTop (mkF m 29 #[.val (.ref b1), .val (.int (0 : Int32)), .val (.long q3), .second] [(.int (((((q3).toUInt64 >>> ((40 : Int32) &&& 0x3f).toInt64.toUInt64).toInt64)).toInt32)), (.int (2 : Int32)), (.ref b1)]))
  refine own_go (fun _ k => XS.i2b X30.here hx rfl (hb hby d_method_3_29) rfl k) ?_
  show OwnGo p e below _ (T30.setTop (mkF m 30 #[.val (.ref b1), .val (.int (0 : Int32)), .val (.long q3), .second] [(.int (((((((q3).toUInt64 >>> ((40 : Int32) &&& 0x3f).toInt64.toUInt64).toInt64)).toInt32)).toInt8.toInt32)), (.int (2 : Int32)), (.ref b1)]))
  obtain ⟨c32, Ar32, q32, S32, M32, H32, G32⟩ := (id V30)
  obtain ⟨T32, h32, X32, e32, W32, st32⟩ := stB X30 hx hZ e30 Ar32 (j := (2 : Int32)) (inb_of S32 ⟨by decide, by decide⟩) (g := (mkF m 30 #[.val (.ref b1), .val (.int (0 : Int32)), .val (.long q3), .second] [(.int (((((((q3).toUInt64 >>> ((40 : Int32) &&& 0x3f).toInt64.toUInt64).toInt64)).toInt32)).toInt8.toInt32)), (.int (2 : Int32)), (.ref b1)])) rfl rfl (hb hby d_method_3_30)
  rw [own_narb] at W32
  have N32 := Fr.snoc X32 N30 geA
  have O32 := O30.wr W32 geA
  have z33 : h0.size ≤ h32.size := Nat.le_trans z31 (Nat.le_of_eq W32.size.symm)
  have V32 : Arv Z h32 b1 k1 .byte (32 : Int32) [(.int (((((((q3).toUInt64 >>> ((56 : Int32) &&& 0x3f).toInt64.toUInt64).toInt64)).toInt32)).toInt8.toInt32)), (.int (((((((q3).toUInt64 >>> ((48 : Int32) &&& 0x3f).toInt64.toUInt64).toInt64)).toInt32)).toInt8.toInt32)), (.int (((((((q3).toUInt64 >>> ((40 : Int32) &&& 0x3f).toInt64.toUInt64).toInt64)).toInt32)).toInt8.toInt32)), (.int u3), (.int u4), (.int u5), (.int u6), (.int u7), (.int u8), (.int u9), (.int u10), (.int u11), (.int u12), (.int u13), (.int u14), (.int u15), (.int u16), (.int u17), (.int u18), (.int u19), (.int u20), (.int u21), (.int u22), (.int u23), (.int u24), (.int u25), (.int u26), (.int u27), (.int u28), (.int u29), (.int u30), (.int u31)] (.int (0 : Int32)) := Arv.set Ar32 q32 S32 M32 H32 G32 (fits_nar_byte _) W32 2 (by decide) (Nat.le_of_ble_eq_true rfl)
  refine own_go st32 ?_
  show OwnGo p e below _ (T32.setTop (mkF m 31 #[.val (.ref b1), .val (.int (0 : Int32)), .val (.long q3), .second] []))
  refine own_go (fun _ k => XS.aloadN X32.here hx rfl (hb hby d_method_3_31) rfl rfl k) ?_
  show OwnGo p e below _ (T32.setTop (mkF m 32 #[.val (.ref b1), .val (.int (0 : Int32)), .val (.long q3), .second] [(.ref b1)]))
  refine own_go (fun _ k => XS.iloadN X32.here hx rfl (hb hby d_method_3_32) rfl k) ?_
  show OwnGo p e below _ (T32.setTop (mkF m 33 #[.val (.ref b1), .val (.int (0 : Int32)), .val (.long q3), .second] [(.int (0 : Int32)), (.ref b1)]))
  refine own_go (fun _ k => XS.iconst X32.here hx rfl (hb hby d_method_3_33) k) ?_
  show OwnGo p e below _ (T32.setTop (mkF m 34 #[.val (.ref b1), .val (.int (0 : Int32)), .val (.long q3), .second] [(.int (3 : Int32)), (.int (0 : Int32)), (.ref b1)]))
  refine own_go (fun _ k => XS.iadd X32.here hx rfl (hb hby d_method_3_34) rfl k) ?_
  show OwnGo p e below _ (T32.setTop (mkF m 35 #[.val (.ref b1), .val (.int (0 : Int32)), .val (.long q3), .second] [(.int ((0 : Int32) + (3 : Int32))), (.ref b1)]))
  rw [show ((0 : Int32) + (3 : Int32)) = (3 : Int32) from by decide]
  show OwnGo p e below _ (T32.setTop (mkF m 35 #[.val (.ref b1), .val (.int (0 : Int32)), .val (.long q3), .second] [(.int (3 : Int32)), (.ref b1)]))
  refine own_go (fun _ k => XS.lloadN X32.here hx rfl (hb hby d_method_3_35) rfl k) ?_
  show OwnGo p e below _ (T32.setTop (mkF m 36 #[.val (.ref b1), .val (.int (0 : Int32)), .val (.long q3), .second] [(.long q3), (.int (3 : Int32)), (.ref b1)]))
  refine own_go (fun _ k => XS.bipush X32.here hx rfl (hb hby d_method_3_36) k) ?_
  show OwnGo p e below _ (T32.setTop (mkF m 38 #[.val (.ref b1), .val (.int (0 : Int32)), .val (.long q3), .second] [(.int (32 : Int32)), (.long q3), (.int (3 : Int32)), (.ref b1)]))
  refine own_go (fun _ k => XS.lushr X32.here hx rfl (hb hby d_method_3_38) rfl k) ?_
  show OwnGo p e below _ (T32.setTop (mkF m 39 #[.val (.ref b1), .val (.int (0 : Int32)), .val (.long q3), .second] [(.long (((q3).toUInt64 >>> ((32 : Int32) &&& 0x3f).toInt64.toUInt64).toInt64)), (.int (3 : Int32)), (.ref b1)]))
  refine own_go (fun _ k => XS.l2i X32.here hx rfl (hb hby d_method_3_39) rfl k) ?_
  show OwnGo p e below _ (T32.setTop (mkF m 40 #[.val (.ref b1), .val (.int (0 : Int32)), .val (.long q3), .second] [(.int (((((q3).toUInt64 >>> ((32 : Int32) &&& 0x3f).toInt64.toUInt64).toInt64)).toInt32)), (.int (3 : Int32)), (.ref b1)]))
  refine own_go (fun _ k => XS.i2b X32.here hx rfl (hb hby d_method_3_40) rfl k) ?_
  show OwnGo p e below _ (T32.setTop (mkF m 41 #[.val (.ref b1), .val (.int (0 : Int32)), .val (.long q3), .second] [(.int (((((((q3).toUInt64 >>> ((32 : Int32) &&& 0x3f).toInt64.toUInt64).toInt64)).toInt32)).toInt8.toInt32)), (.int (3 : Int32)), (.ref b1)]))
  obtain ⟨c34, Ar34, q34, S34, M34, H34, G34⟩ := (id V32)
  obtain ⟨T34, h34, X34, e34, W34, st34⟩ := stB X32 hx hZ e32 Ar34 (j := (3 : Int32)) (inb_of S34 ⟨by decide, by decide⟩) (g := (mkF m 41 #[.val (.ref b1), .val (.int (0 : Int32)), .val (.long q3), .second] [(.int (((((((q3).toUInt64 >>> ((32 : Int32) &&& 0x3f).toInt64.toUInt64).toInt64)).toInt32)).toInt8.toInt32)), (.int (3 : Int32)), (.ref b1)])) rfl rfl (hb hby d_method_3_41)
  rw [own_narb] at W34
  have N34 := Fr.snoc X34 N32 geA
  have O34 := O32.wr W34 geA
  have z35 : h0.size ≤ h34.size := Nat.le_trans z33 (Nat.le_of_eq W34.size.symm)
  have V34 : Arv Z h34 b1 k1 .byte (32 : Int32) [(.int (((((((q3).toUInt64 >>> ((56 : Int32) &&& 0x3f).toInt64.toUInt64).toInt64)).toInt32)).toInt8.toInt32)), (.int (((((((q3).toUInt64 >>> ((48 : Int32) &&& 0x3f).toInt64.toUInt64).toInt64)).toInt32)).toInt8.toInt32)), (.int (((((((q3).toUInt64 >>> ((40 : Int32) &&& 0x3f).toInt64.toUInt64).toInt64)).toInt32)).toInt8.toInt32)), (.int (((((((q3).toUInt64 >>> ((32 : Int32) &&& 0x3f).toInt64.toUInt64).toInt64)).toInt32)).toInt8.toInt32)), (.int u4), (.int u5), (.int u6), (.int u7), (.int u8), (.int u9), (.int u10), (.int u11), (.int u12), (.int u13), (.int u14), (.int u15), (.int u16), (.int u17), (.int u18), (.int u19), (.int u20), (.int u21), (.int u22), (.int u23), (.int u24), (.int u25), (.int u26), (.int u27), (.int u28), (.int u29), (.int u30), (.int u31)] (.int (0 : Int32)) := Arv.set Ar34 q34 S34 M34 H34 G34 (fits_nar_byte _) W34 3 (by decide) (Nat.le_of_ble_eq_true rfl)
  refine own_go st34 ?_
  show OwnGo p e below _ (T34.setTop (mkF m 42 #[.val (.ref b1), .val (.int (0 : Int32)), .val (.long q3), .second] []))
  refine own_go (fun _ k => XS.aloadN X34.here hx rfl (hb hby d_method_3_42) rfl rfl k) ?_
  show OwnGo p e below _ (T34.setTop (mkF m 43 #[.val (.ref b1), .val (.int (0 : Int32)), .val (.long q3), .second] [(.ref b1)]))
  refine own_go (fun _ k => XS.iloadN X34.here hx rfl (hb hby d_method_3_43) rfl k) ?_
  show OwnGo p e below _ (T34.setTop (mkF m 44 #[.val (.ref b1), .val (.int (0 : Int32)), .val (.long q3), .second] [(.int (0 : Int32)), (.ref b1)]))
  refine own_go (fun _ k => XS.iconst X34.here hx rfl (hb hby d_method_3_44) k) ?_
  show OwnGo p e below _ (T34.setTop (mkF m 45 #[.val (.ref b1), .val (.int (0 : Int32)), .val (.long q3), .second] [(.int (4 : Int32)), (.int (0 : Int32)), (.ref b1)]))
  refine own_go (fun _ k => XS.iadd X34.here hx rfl (hb hby d_method_3_45) rfl k) ?_
  show OwnGo p e below _ (T34.setTop (mkF m 46 #[.val (.ref b1), .val (.int (0 : Int32)), .val (.long q3), .second] [(.int ((0 : Int32) + (4 : Int32))), (.ref b1)]))
  rw [show ((0 : Int32) + (4 : Int32)) = (4 : Int32) from by decide]
  show OwnGo p e below _ (T34.setTop (mkF m 46 #[.val (.ref b1), .val (.int (0 : Int32)), .val (.long q3), .second] [(.int (4 : Int32)), (.ref b1)]))
  refine own_go (fun _ k => XS.lloadN X34.here hx rfl (hb hby d_method_3_46) rfl k) ?_
  show OwnGo p e below _ (T34.setTop (mkF m 47 #[.val (.ref b1), .val (.int (0 : Int32)), .val (.long q3), .second] [(.long q3), (.int (4 : Int32)), (.ref b1)]))
  refine own_go (fun _ k => XS.bipush X34.here hx rfl (hb hby d_method_3_47) k) ?_
  show OwnGo p e below _ (T34.setTop (mkF m 49 #[.val (.ref b1), .val (.int (0 : Int32)), .val (.long q3), .second] [(.int (24 : Int32)), (.long q3), (.int (4 : Int32)), (.ref b1)]))
  refine own_go (fun _ k => XS.lushr X34.here hx rfl (hb hby d_method_3_49) rfl k) ?_
  show OwnGo p e below _ (T34.setTop (mkF m 50 #[.val (.ref b1), .val (.int (0 : Int32)), .val (.long q3), .second] [(.long (((q3).toUInt64 >>> ((24 : Int32) &&& 0x3f).toInt64.toUInt64).toInt64)), (.int (4 : Int32)), (.ref b1)]))
  refine own_go (fun _ k => XS.l2i X34.here hx rfl (hb hby d_method_3_50) rfl k) ?_
  show OwnGo p e below _ (T34.setTop (mkF m 51 #[.val (.ref b1), .val (.int (0 : Int32)), .val (.long q3), .second] [(.int (((((q3).toUInt64 >>> ((24 : Int32) &&& 0x3f).toInt64.toUInt64).toInt64)).toInt32)), (.int (4 : Int32)), (.ref b1)]))
  refine own_go (fun _ k => XS.i2b X34.here hx rfl (hb hby d_method_3_51) rfl k) ?_
  show OwnGo p e below _ (T34.setTop (mkF m 52 #[.val (.ref b1), .val (.int (0 : Int32)), .val (.long q3), .second] [(.int (((((((q3).toUInt64 >>> ((24 : Int32) &&& 0x3f).toInt64.toUInt64).toInt64)).toInt32)).toInt8.toInt32)), (.int (4 : Int32)), (.ref b1)]))
  obtain ⟨c36, Ar36, q36, S36, M36, H36, G36⟩ := (id V34)
  obtain ⟨T36, h36, X36, e36, W36, st36⟩ := stB X34 hx hZ e34 Ar36 (j := (4 : Int32)) (inb_of S36 ⟨by decide, by decide⟩) (g := (mkF m 52 #[.val (.ref b1), .val (.int (0 : Int32)), .val (.long q3), .second] [(.int (((((((q3).toUInt64 >>> ((24 : Int32) &&& 0x3f).toInt64.toUInt64).toInt64)).toInt32)).toInt8.toInt32)), (.int (4 : Int32)), (.ref b1)])) rfl rfl (hb hby d_method_3_52)
  rw [own_narb] at W36
  have N36 := Fr.snoc X36 N34 geA
  have O36 := O34.wr W36 geA
  have z37 : h0.size ≤ h36.size := Nat.le_trans z35 (Nat.le_of_eq W36.size.symm)
  have V36 : Arv Z h36 b1 k1 .byte (32 : Int32) [(.int (((((((q3).toUInt64 >>> ((56 : Int32) &&& 0x3f).toInt64.toUInt64).toInt64)).toInt32)).toInt8.toInt32)), (.int (((((((q3).toUInt64 >>> ((48 : Int32) &&& 0x3f).toInt64.toUInt64).toInt64)).toInt32)).toInt8.toInt32)), (.int (((((((q3).toUInt64 >>> ((40 : Int32) &&& 0x3f).toInt64.toUInt64).toInt64)).toInt32)).toInt8.toInt32)), (.int (((((((q3).toUInt64 >>> ((32 : Int32) &&& 0x3f).toInt64.toUInt64).toInt64)).toInt32)).toInt8.toInt32)), (.int (((((((q3).toUInt64 >>> ((24 : Int32) &&& 0x3f).toInt64.toUInt64).toInt64)).toInt32)).toInt8.toInt32)), (.int u5), (.int u6), (.int u7), (.int u8), (.int u9), (.int u10), (.int u11), (.int u12), (.int u13), (.int u14), (.int u15), (.int u16), (.int u17), (.int u18), (.int u19), (.int u20), (.int u21), (.int u22), (.int u23), (.int u24), (.int u25), (.int u26), (.int u27), (.int u28), (.int u29), (.int u30), (.int u31)] (.int (0 : Int32)) := Arv.set Ar36 q36 S36 M36 H36 G36 (fits_nar_byte _) W36 4 (by decide) (Nat.le_of_ble_eq_true rfl)
  refine own_go st36 ?_
  show OwnGo p e below _ (T36.setTop (mkF m 53 #[.val (.ref b1), .val (.int (0 : Int32)), .val (.long q3), .second] []))
  refine own_go (fun _ k => XS.aloadN X36.here hx rfl (hb hby d_method_3_53) rfl rfl k) ?_
  show OwnGo p e below _ (T36.setTop (mkF m 54 #[.val (.ref b1), .val (.int (0 : Int32)), .val (.long q3), .second] [(.ref b1)]))
  refine own_go (fun _ k => XS.iloadN X36.here hx rfl (hb hby d_method_3_54) rfl k) ?_
  show OwnGo p e below _ (T36.setTop (mkF m 55 #[.val (.ref b1), .val (.int (0 : Int32)), .val (.long q3), .second] [(.int (0 : Int32)), (.ref b1)]))
  refine own_go (fun _ k => XS.iconst X36.here hx rfl (hb hby d_method_3_55) k) ?_
  show OwnGo p e below _ (T36.setTop (mkF m 56 #[.val (.ref b1), .val (.int (0 : Int32)), .val (.long q3), .second] [(.int (5 : Int32)), (.int (0 : Int32)), (.ref b1)]))
  refine own_go (fun _ k => XS.iadd X36.here hx rfl (hb hby d_method_3_56) rfl k) ?_
  show OwnGo p e below _ (T36.setTop (mkF m 57 #[.val (.ref b1), .val (.int (0 : Int32)), .val (.long q3), .second] [(.int ((0 : Int32) + (5 : Int32))), (.ref b1)]))
  rw [show ((0 : Int32) + (5 : Int32)) = (5 : Int32) from by decide]
  show OwnGo p e below _ (T36.setTop (mkF m 57 #[.val (.ref b1), .val (.int (0 : Int32)), .val (.long q3), .second] [(.int (5 : Int32)), (.ref b1)]))
  refine own_go (fun _ k => XS.lloadN X36.here hx rfl (hb hby d_method_3_57) rfl k) ?_
  show OwnGo p e below _ (T36.setTop (mkF m 58 #[.val (.ref b1), .val (.int (0 : Int32)), .val (.long q3), .second] [(.long q3), (.int (5 : Int32)), (.ref b1)]))
  refine own_go (fun _ k => XS.bipush X36.here hx rfl (hb hby d_method_3_58) k) ?_
  show OwnGo p e below _ (T36.setTop (mkF m 60 #[.val (.ref b1), .val (.int (0 : Int32)), .val (.long q3), .second] [(.int (16 : Int32)), (.long q3), (.int (5 : Int32)), (.ref b1)]))
  refine own_go (fun _ k => XS.lushr X36.here hx rfl (hb hby d_method_3_60) rfl k) ?_
  show OwnGo p e below _ (T36.setTop (mkF m 61 #[.val (.ref b1), .val (.int (0 : Int32)), .val (.long q3), .second] [(.long (((q3).toUInt64 >>> ((16 : Int32) &&& 0x3f).toInt64.toUInt64).toInt64)), (.int (5 : Int32)), (.ref b1)]))
  refine own_go (fun _ k => XS.l2i X36.here hx rfl (hb hby d_method_3_61) rfl k) ?_
  show OwnGo p e below _ (T36.setTop (mkF m 62 #[.val (.ref b1), .val (.int (0 : Int32)), .val (.long q3), .second] [(.int (((((q3).toUInt64 >>> ((16 : Int32) &&& 0x3f).toInt64.toUInt64).toInt64)).toInt32)), (.int (5 : Int32)), (.ref b1)]))
  refine own_go (fun _ k => XS.i2b X36.here hx rfl (hb hby d_method_3_62) rfl k) ?_
  show OwnGo p e below _ (T36.setTop (mkF m 63 #[.val (.ref b1), .val (.int (0 : Int32)), .val (.long q3), .second] [(.int (((((((q3).toUInt64 >>> ((16 : Int32) &&& 0x3f).toInt64.toUInt64).toInt64)).toInt32)).toInt8.toInt32)), (.int (5 : Int32)), (.ref b1)]))
  obtain ⟨c38, Ar38, q38, S38, M38, H38, G38⟩ := (id V36)
  obtain ⟨T38, h38, X38, e38, W38, st38⟩ := stB X36 hx hZ e36 Ar38 (j := (5 : Int32)) (inb_of S38 ⟨by decide, by decide⟩) (g := (mkF m 63 #[.val (.ref b1), .val (.int (0 : Int32)), .val (.long q3), .second] [(.int (((((((q3).toUInt64 >>> ((16 : Int32) &&& 0x3f).toInt64.toUInt64).toInt64)).toInt32)).toInt8.toInt32)), (.int (5 : Int32)), (.ref b1)])) rfl rfl (hb hby d_method_3_63)
  rw [own_narb] at W38
  have N38 := Fr.snoc X38 N36 geA
  have O38 := O36.wr W38 geA
  have z39 : h0.size ≤ h38.size := Nat.le_trans z37 (Nat.le_of_eq W38.size.symm)
  have V38 : Arv Z h38 b1 k1 .byte (32 : Int32) [(.int (((((((q3).toUInt64 >>> ((56 : Int32) &&& 0x3f).toInt64.toUInt64).toInt64)).toInt32)).toInt8.toInt32)), (.int (((((((q3).toUInt64 >>> ((48 : Int32) &&& 0x3f).toInt64.toUInt64).toInt64)).toInt32)).toInt8.toInt32)), (.int (((((((q3).toUInt64 >>> ((40 : Int32) &&& 0x3f).toInt64.toUInt64).toInt64)).toInt32)).toInt8.toInt32)), (.int (((((((q3).toUInt64 >>> ((32 : Int32) &&& 0x3f).toInt64.toUInt64).toInt64)).toInt32)).toInt8.toInt32)), (.int (((((((q3).toUInt64 >>> ((24 : Int32) &&& 0x3f).toInt64.toUInt64).toInt64)).toInt32)).toInt8.toInt32)), (.int (((((((q3).toUInt64 >>> ((16 : Int32) &&& 0x3f).toInt64.toUInt64).toInt64)).toInt32)).toInt8.toInt32)), (.int u6), (.int u7), (.int u8), (.int u9), (.int u10), (.int u11), (.int u12), (.int u13), (.int u14), (.int u15), (.int u16), (.int u17), (.int u18), (.int u19), (.int u20), (.int u21), (.int u22), (.int u23), (.int u24), (.int u25), (.int u26), (.int u27), (.int u28), (.int u29), (.int u30), (.int u31)] (.int (0 : Int32)) := Arv.set Ar38 q38 S38 M38 H38 G38 (fits_nar_byte _) W38 5 (by decide) (Nat.le_of_ble_eq_true rfl)
  refine own_go st38 ?_
  show OwnGo p e below _ (T38.setTop (mkF m 64 #[.val (.ref b1), .val (.int (0 : Int32)), .val (.long q3), .second] []))
  refine own_go (fun _ k => XS.aloadN X38.here hx rfl (hb hby d_method_3_64) rfl rfl k) ?_
  show OwnGo p e below _ (T38.setTop (mkF m 65 #[.val (.ref b1), .val (.int (0 : Int32)), .val (.long q3), .second] [(.ref b1)]))
  refine own_go (fun _ k => XS.iloadN X38.here hx rfl (hb hby d_method_3_65) rfl k) ?_
  show OwnGo p e below _ (T38.setTop (mkF m 66 #[.val (.ref b1), .val (.int (0 : Int32)), .val (.long q3), .second] [(.int (0 : Int32)), (.ref b1)]))
  refine own_go (fun _ k => XS.bipush X38.here hx rfl (hb hby d_method_3_66) k) ?_
  show OwnGo p e below _ (T38.setTop (mkF m 68 #[.val (.ref b1), .val (.int (0 : Int32)), .val (.long q3), .second] [(.int (6 : Int32)), (.int (0 : Int32)), (.ref b1)]))
  refine own_go (fun _ k => XS.iadd X38.here hx rfl (hb hby d_method_3_68) rfl k) ?_
  show OwnGo p e below _ (T38.setTop (mkF m 69 #[.val (.ref b1), .val (.int (0 : Int32)), .val (.long q3), .second] [(.int ((0 : Int32) + (6 : Int32))), (.ref b1)]))
  rw [show ((0 : Int32) + (6 : Int32)) = (6 : Int32) from by decide]
  show OwnGo p e below _ (T38.setTop (mkF m 69 #[.val (.ref b1), .val (.int (0 : Int32)), .val (.long q3), .second] [(.int (6 : Int32)), (.ref b1)]))
  refine own_go (fun _ k => XS.lloadN X38.here hx rfl (hb hby d_method_3_69) rfl k) ?_
  show OwnGo p e below _ (T38.setTop (mkF m 70 #[.val (.ref b1), .val (.int (0 : Int32)), .val (.long q3), .second] [(.long q3), (.int (6 : Int32)), (.ref b1)]))
  refine own_go (fun _ k => XS.bipush X38.here hx rfl (hb hby d_method_3_70) k) ?_
  show OwnGo p e below _ (T38.setTop (mkF m 72 #[.val (.ref b1), .val (.int (0 : Int32)), .val (.long q3), .second] [(.int (8 : Int32)), (.long q3), (.int (6 : Int32)), (.ref b1)]))
  refine own_go (fun _ k => XS.lushr X38.here hx rfl (hb hby d_method_3_72) rfl k) ?_
  show OwnGo p e below _ (T38.setTop (mkF m 73 #[.val (.ref b1), .val (.int (0 : Int32)), .val (.long q3), .second] [(.long (((q3).toUInt64 >>> ((8 : Int32) &&& 0x3f).toInt64.toUInt64).toInt64)), (.int (6 : Int32)), (.ref b1)]))
  refine own_go (fun _ k => XS.l2i X38.here hx rfl (hb hby d_method_3_73) rfl k) ?_
  show OwnGo p e below _ (T38.setTop (mkF m 74 #[.val (.ref b1), .val (.int (0 : Int32)), .val (.long q3), .second] [(.int (((((q3).toUInt64 >>> ((8 : Int32) &&& 0x3f).toInt64.toUInt64).toInt64)).toInt32)), (.int (6 : Int32)), (.ref b1)]))
  refine own_go (fun _ k => XS.i2b X38.here hx rfl (hb hby d_method_3_74) rfl k) ?_
  show OwnGo p e below _ (T38.setTop (mkF m 75 #[.val (.ref b1), .val (.int (0 : Int32)), .val (.long q3), .second] [(.int (((((((q3).toUInt64 >>> ((8 : Int32) &&& 0x3f).toInt64.toUInt64).toInt64)).toInt32)).toInt8.toInt32)), (.int (6 : Int32)), (.ref b1)]))
  obtain ⟨c40, Ar40, q40, S40, M40, H40, G40⟩ := (id V38)
  obtain ⟨T40, h40, X40, e40, W40, st40⟩ := stB X38 hx hZ e38 Ar40 (j := (6 : Int32)) (inb_of S40 ⟨by decide, by decide⟩) (g := (mkF m 75 #[.val (.ref b1), .val (.int (0 : Int32)), .val (.long q3), .second] [(.int (((((((q3).toUInt64 >>> ((8 : Int32) &&& 0x3f).toInt64.toUInt64).toInt64)).toInt32)).toInt8.toInt32)), (.int (6 : Int32)), (.ref b1)])) rfl rfl (hb hby d_method_3_75)
  rw [own_narb] at W40
  have N40 := Fr.snoc X40 N38 geA
  have O40 := O38.wr W40 geA
  have z41 : h0.size ≤ h40.size := Nat.le_trans z39 (Nat.le_of_eq W40.size.symm)
  have V40 : Arv Z h40 b1 k1 .byte (32 : Int32) [(.int (((((((q3).toUInt64 >>> ((56 : Int32) &&& 0x3f).toInt64.toUInt64).toInt64)).toInt32)).toInt8.toInt32)), (.int (((((((q3).toUInt64 >>> ((48 : Int32) &&& 0x3f).toInt64.toUInt64).toInt64)).toInt32)).toInt8.toInt32)), (.int (((((((q3).toUInt64 >>> ((40 : Int32) &&& 0x3f).toInt64.toUInt64).toInt64)).toInt32)).toInt8.toInt32)), (.int (((((((q3).toUInt64 >>> ((32 : Int32) &&& 0x3f).toInt64.toUInt64).toInt64)).toInt32)).toInt8.toInt32)), (.int (((((((q3).toUInt64 >>> ((24 : Int32) &&& 0x3f).toInt64.toUInt64).toInt64)).toInt32)).toInt8.toInt32)), (.int (((((((q3).toUInt64 >>> ((16 : Int32) &&& 0x3f).toInt64.toUInt64).toInt64)).toInt32)).toInt8.toInt32)), (.int (((((((q3).toUInt64 >>> ((8 : Int32) &&& 0x3f).toInt64.toUInt64).toInt64)).toInt32)).toInt8.toInt32)), (.int u7), (.int u8), (.int u9), (.int u10), (.int u11), (.int u12), (.int u13), (.int u14), (.int u15), (.int u16), (.int u17), (.int u18), (.int u19), (.int u20), (.int u21), (.int u22), (.int u23), (.int u24), (.int u25), (.int u26), (.int u27), (.int u28), (.int u29), (.int u30), (.int u31)] (.int (0 : Int32)) := Arv.set Ar40 q40 S40 M40 H40 G40 (fits_nar_byte _) W40 6 (by decide) (Nat.le_of_ble_eq_true rfl)
  refine own_go st40 ?_
  show OwnGo p e below _ (T40.setTop (mkF m 76 #[.val (.ref b1), .val (.int (0 : Int32)), .val (.long q3), .second] []))
  refine own_go (fun _ k => XS.aloadN X40.here hx rfl (hb hby d_method_3_76) rfl rfl k) ?_
  show OwnGo p e below _ (T40.setTop (mkF m 77 #[.val (.ref b1), .val (.int (0 : Int32)), .val (.long q3), .second] [(.ref b1)]))
  refine own_go (fun _ k => XS.iloadN X40.here hx rfl (hb hby d_method_3_77) rfl k) ?_
  show OwnGo p e below _ (T40.setTop (mkF m 78 #[.val (.ref b1), .val (.int (0 : Int32)), .val (.long q3), .second] [(.int (0 : Int32)), (.ref b1)]))
  refine own_go (fun _ k => XS.bipush X40.here hx rfl (hb hby d_method_3_78) k) ?_
  show OwnGo p e below _ (T40.setTop (mkF m 80 #[.val (.ref b1), .val (.int (0 : Int32)), .val (.long q3), .second] [(.int (7 : Int32)), (.int (0 : Int32)), (.ref b1)]))
  refine own_go (fun _ k => XS.iadd X40.here hx rfl (hb hby d_method_3_80) rfl k) ?_
  show OwnGo p e below _ (T40.setTop (mkF m 81 #[.val (.ref b1), .val (.int (0 : Int32)), .val (.long q3), .second] [(.int ((0 : Int32) + (7 : Int32))), (.ref b1)]))
  rw [show ((0 : Int32) + (7 : Int32)) = (7 : Int32) from by decide]
  show OwnGo p e below _ (T40.setTop (mkF m 81 #[.val (.ref b1), .val (.int (0 : Int32)), .val (.long q3), .second] [(.int (7 : Int32)), (.ref b1)]))
  refine own_go (fun _ k => XS.lloadN X40.here hx rfl (hb hby d_method_3_81) rfl k) ?_
  show OwnGo p e below _ (T40.setTop (mkF m 82 #[.val (.ref b1), .val (.int (0 : Int32)), .val (.long q3), .second] [(.long q3), (.int (7 : Int32)), (.ref b1)]))
  refine own_go (fun _ k => XS.l2i X40.here hx rfl (hb hby d_method_3_82) rfl k) ?_
  show OwnGo p e below _ (T40.setTop (mkF m 83 #[.val (.ref b1), .val (.int (0 : Int32)), .val (.long q3), .second] [(.int ((q3).toInt32)), (.int (7 : Int32)), (.ref b1)]))
  refine own_go (fun _ k => XS.i2b X40.here hx rfl (hb hby d_method_3_83) rfl k) ?_
  show OwnGo p e below _ (T40.setTop (mkF m 84 #[.val (.ref b1), .val (.int (0 : Int32)), .val (.long q3), .second] [(.int ((((q3).toInt32)).toInt8.toInt32)), (.int (7 : Int32)), (.ref b1)]))
  obtain ⟨c42, Ar42, q42, S42, M42, H42, G42⟩ := (id V40)
  obtain ⟨T42, h42, X42, e42, W42, st42⟩ := stB X40 hx hZ e40 Ar42 (j := (7 : Int32)) (inb_of S42 ⟨by decide, by decide⟩) (g := (mkF m 84 #[.val (.ref b1), .val (.int (0 : Int32)), .val (.long q3), .second] [(.int ((((q3).toInt32)).toInt8.toInt32)), (.int (7 : Int32)), (.ref b1)])) rfl rfl (hb hby d_method_3_84)
  rw [own_narb] at W42
  have N42 := Fr.snoc X42 N40 geA
  have O42 := O40.wr W42 geA
  have z43 : h0.size ≤ h42.size := Nat.le_trans z41 (Nat.le_of_eq W42.size.symm)
  have V42 : Arv Z h42 b1 k1 .byte (32 : Int32) [(.int (((((((q3).toUInt64 >>> ((56 : Int32) &&& 0x3f).toInt64.toUInt64).toInt64)).toInt32)).toInt8.toInt32)), (.int (((((((q3).toUInt64 >>> ((48 : Int32) &&& 0x3f).toInt64.toUInt64).toInt64)).toInt32)).toInt8.toInt32)), (.int (((((((q3).toUInt64 >>> ((40 : Int32) &&& 0x3f).toInt64.toUInt64).toInt64)).toInt32)).toInt8.toInt32)), (.int (((((((q3).toUInt64 >>> ((32 : Int32) &&& 0x3f).toInt64.toUInt64).toInt64)).toInt32)).toInt8.toInt32)), (.int (((((((q3).toUInt64 >>> ((24 : Int32) &&& 0x3f).toInt64.toUInt64).toInt64)).toInt32)).toInt8.toInt32)), (.int (((((((q3).toUInt64 >>> ((16 : Int32) &&& 0x3f).toInt64.toUInt64).toInt64)).toInt32)).toInt8.toInt32)), (.int (((((((q3).toUInt64 >>> ((8 : Int32) &&& 0x3f).toInt64.toUInt64).toInt64)).toInt32)).toInt8.toInt32)), (.int ((((q3).toInt32)).toInt8.toInt32)), (.int u8), (.int u9), (.int u10), (.int u11), (.int u12), (.int u13), (.int u14), (.int u15), (.int u16), (.int u17), (.int u18), (.int u19), (.int u20), (.int u21), (.int u22), (.int u23), (.int u24), (.int u25), (.int u26), (.int u27), (.int u28), (.int u29), (.int u30), (.int u31)] (.int (0 : Int32)) := Arv.set Ar42 q42 S42 M42 H42 G42 (fits_nar_byte _) W42 7 (by decide) (Nat.le_of_ble_eq_true rfl)
  refine own_go st42 ?_
  show OwnGo p e below _ (T42.setTop (mkF m 85 #[.val (.ref b1), .val (.int (0 : Int32)), .val (.long q3), .second] []))
  obtain ⟨fs, hr, hrun, hended, hW, hsame⟩ := X42.leave (v := none) (fun h => rfl)
  refine ⟨_, _, X42.returnOut hx Bd.returns (hb hby d_method_3_85) hr, hrun, hended, _, _, rfl, ?_, ⟨_, rfl⟩, hW, hsame.mono (by decide) (by decide)⟩
  show Q_put0 Z aFFDHE2048 aCONFIRMATION aFFDHE4096 aFFDHE3072 b1 q3 k1 u0 u1 u2 u3 u4 u5 u6 u7 u8 u9 u10 u11 u12 u13 u14 u15 u16 u17 u18 u19 u20 u21 u22 u23 u24 u25 u26 u27 u28 u29 u30 u31 h0 n0 _ T42.heap _
  rw [e42]
  exact ⟨rfl, N42, (((((((((Keep.refl _ [b1]).wr W28 (Or.inl (List.mem_of_getElem? (i := 0) rfl))).wr W30 (Or.inl (List.mem_of_getElem? (i := 0) rfl))).wr W32 (Or.inl (List.mem_of_getElem? (i := 0) rfl))).wr W34 (Or.inl (List.mem_of_getElem? (i := 0) rfl))).wr W36 (Or.inl (List.mem_of_getElem? (i := 0) rfl))).wr W38 (Or.inl (List.mem_of_getElem? (i := 0) rfl))).wr W40 (Or.inl (List.mem_of_getElem? (i := 0) rfl))).wr W42 (Or.inl (List.mem_of_getElem? (i := 0) rfl))), V42⟩
def Q_put8 (Z : State) (aFFDHE2048 aCONFIRMATION aFFDHE4096 aFFDHE3072 : Addr) (b1 : Addr) (q3 : Int64) (k1 : ClassId) (u0 : Int32) (u1 : Int32) (u2 : Int32) (u3 : Int32) (u4 : Int32) (u5 : Int32) (u6 : Int32) (u7 : Int32) (u8 : Int32) (u9 : Int32) (u10 : Int32) (u11 : Int32) (u12 : Int32) (u13 : Int32) (u14 : Int32) (u15 : Int32) (u16 : Int32) (u17 : Int32) (u18 : Int32) (u19 : Int32) (u20 : Int32) (u21 : Int32) (u22 : Int32) (u23 : Int32) (u24 : Int32) (u25 : Int32) (u26 : Int32) (u27 : Int32) (u28 : Int32) (u29 : Int32) (u30 : Int32) (u31 : Int32) (h0 : Heap) (n0 : Nat) (v : Option Value) (h : Heap) (L : List Loc) : Prop := v = none ∧ Fr n0 L ∧ Keep h0 h [b1] ∧ Arv Z h b1 k1 .byte (32 : Int32) [(.int u0), (.int u1), (.int u2), (.int u3), (.int u4), (.int u5), (.int u6), (.int u7), (.int (((((((q3).toUInt64 >>> ((56 : Int32) &&& 0x3f).toInt64.toUInt64).toInt64)).toInt32)).toInt8.toInt32)), (.int (((((((q3).toUInt64 >>> ((48 : Int32) &&& 0x3f).toInt64.toUInt64).toInt64)).toInt32)).toInt8.toInt32)), (.int (((((((q3).toUInt64 >>> ((40 : Int32) &&& 0x3f).toInt64.toUInt64).toInt64)).toInt32)).toInt8.toInt32)), (.int (((((((q3).toUInt64 >>> ((32 : Int32) &&& 0x3f).toInt64.toUInt64).toInt64)).toInt32)).toInt8.toInt32)), (.int (((((((q3).toUInt64 >>> ((24 : Int32) &&& 0x3f).toInt64.toUInt64).toInt64)).toInt32)).toInt8.toInt32)), (.int (((((((q3).toUInt64 >>> ((16 : Int32) &&& 0x3f).toInt64.toUInt64).toInt64)).toInt32)).toInt8.toInt32)), (.int (((((((q3).toUInt64 >>> ((8 : Int32) &&& 0x3f).toInt64.toUInt64).toInt64)).toInt32)).toInt8.toInt32)), (.int ((((q3).toInt32)).toInt8.toInt32)), (.int u16), (.int u17), (.int u18), (.int u19), (.int u20), (.int u21), (.int u22), (.int u23), (.int u24), (.int u25), (.int u26), (.int u27), (.int u28), (.int u29), (.int u30), (.int u31)] (.int (0 : Int32))
theorem ef_put8 (m : MethodId) (x0 : Addr) (x1 : Int32) (x2 : Int64) : entryFrame m #[(.ref x0), (.int x1), (.long x2)] 4 = mkF m 0 #[.val (.ref x0), .val (.int x1), .val (.long x2), .second] [] := by first | (simp [entryFrame, mkF, argsToLocals, Value.category]; done) | rfl
set_option maxRecDepth 65536 in
set_option maxHeartbeats 40000000 in
theorem rm_put8 (l : Launch) (Z : State) (a0 : Array Value) (hw : ∀ d ∈ tables_1, d.before a0 Z = true) (ws : List Jvm.Cond) (aFFDHE2048 aCONFIRMATION aFFDHE4096 aFFDHE3072 : Addr) (F0 : OwnFacts Z aFFDHE2048 aCONFIRMATION aFFDHE4096 aFFDHE3072) (b1 : Addr) (q3 : Int64) (k1 : ClassId) (u0 : Int32) (u1 : Int32) (u2 : Int32) (u3 : Int32) (u4 : Int32) (u5 : Int32) (u6 : Int32) (u7 : Int32) (u8 : Int32) (u9 : Int32) (u10 : Int32) (u11 : Int32) (u12 : Int32) (u13 : Int32) (u14 : Int32) (u15 : Int32) (u16 : Int32) (u17 : Int32) (u18 : Int32) (u19 : Int32) (u20 : Int32) (u21 : Int32) (u22 : Int32) (u23 : Int32) (u24 : Int32) (u25 : Int32) (u26 : Int32) (u27 : Int32) (u28 : Int32) (u29 : Int32) (u30 : Int32) (u31 : Int32) (h0 : Heap) (n0 : Nat) (O0 : Old Z n0 h0) (VA : Arv Z h0 b1 k1 .byte (32 : Int32) [(.int u0), (.int u1), (.int u2), (.int u3), (.int u4), (.int u5), (.int u6), (.int u7), (.int u8), (.int u9), (.int u10), (.int u11), (.int u12), (.int u13), (.int u14), (.int u15), (.int u16), (.int u17), (.int u18), (.int u19), (.int u20), (.int u21), (.int u22), (.int u23), (.int u24), (.int u25), (.int u26), (.int u27), (.int u28), (.int u29), (.int u30), (.int u31)] (.int (0 : Int32))) (geA : n0 ≤ b1) :
    MetFree l (⟨"com/example/portcullis/portcullis/ConfirmationEncodePinLaw", "put", "([BIJ)V"⟩ : MethodName) (head1 (Jvm.Cond.code (⟨"com/example/portcullis/portcullis/ConfirmationEncodePinLaw", "put", "([BIJ)V"⟩ : MethodName) method_3_code 4 none :: ws) ({ frames := 0, cells := 0, slots := 0, locals := 0 } : Room)) (fun a U => a = #[(.ref b1), (.int (8 : Int32)), (.long q3)] ∧ Z.Warmed39 U.vm ∧ U.heap = h0) (fun _ _ _ _ _ => True) (fun _ U o U' => ∃ v L, o = .returned v ∧ Q_put8 Z aFFDHE2048 aCONFIRMATION aFFDHE4096 aFFDHE3072 b1 q3 k1 u0 u1 u2 u3 u4 u5 u6 u7 u8 u9 u10 u11 u12 u13 u14 u15 u16 u17 u18 u19 u20 u21 u22 u23 u24 u25 u26 u27 u28 u29 u30 u31 h0 n0 v U'.heap L ∧ FrameEnd U o U' L ({ frames := 0, cells := 0, slots := 0, locals := 0 } : Room).cells ({ frames := 0, cells := 0, slots := 0, locals := 0 } : Room).slots) := by
  refine MetFree.of_bodySF (plainFor_of_name pn_com_example_portcullis_portcullis_ConfirmationEncodePinLaw) hisR ?_
  intro p e s m args below meth c s₁ Bd hml0 hP hK
  obtain ⟨rfl, hZ, hh⟩ := hP
  have hx := Bd.exec
  have hby := Bd.bytes
  have hml : c.maxLocals = 4 := hml0
  have hown : s.vm.findClass "com/example/portcullis/portcullis/ConfirmationEncodePinLaw" = some m.cls := findClass_of_methodNamed Bd.named
  have hnm := (name_of_methodNamed Bd.named Bd.method).1
  have X0 : Stand p l e ({ frames := 0, cells := 0, slots := 0, locals := 0 } : Room) s m #[(.ref b1), (.int (8 : Int32)), (.long q3)] below meth c s₁ [] 0 0 := Stand.of_body Bd
  have e0 : s₁.heap = h0 := by rw [← hh, Bd.state]; rfl
  have N0 := Fr.nil n0
  refine own_go (Q := fun o U' => ∃ v L, o = .returned v ∧ Q_put8 Z aFFDHE2048 aCONFIRMATION aFFDHE4096 aFFDHE3072 b1 q3 k1 u0 u1 u2 u3 u4 u5 u6 u7 u8 u9 u10 u11 u12 u13 u14 u15 u16 u17 u18 u19 u20 u21 u22 u23 u24 u25 u26 u27 u28 u29 u30 u31 h0 n0 v U'.heap L ∧ FrameEnd s o U' L ({ frames := 0, cells := 0, slots := 0, locals := 0 } : Room).cells ({ frames := 0, cells := 0, slots := 0, locals := 0 } : Room).slots) (fun t k => castTop (ef_put8 m b1 (8 : Int32) q3) k) ?_
  show OwnGo p e below _ (s₁.setTop (mkF m 0 #[.val (.ref b1), .val (.int (8 : Int32)), .val (.long q3), .second] []))
  refine own_go (fun _ k => XS.aloadN X0.here hx rfl (hb hby d_method_3_0) rfl rfl k) ?_
  show OwnGo p e below _ (s₁.setTop (mkF m 1 #[.val (.ref b1), .val (.int (8 : Int32)), .val (.long q3), .second] [(.ref b1)]))
  refine own_go (fun _ k => XS.iloadN X0.here hx rfl (hb hby d_method_3_1) rfl k) ?_
  show OwnGo p e below _ (s₁.setTop (mkF m 2 #[.val (.ref b1), .val (.int (8 : Int32)), .val (.long q3), .second] [(.int (8 : Int32)), (.ref b1)]))
  refine own_go (fun _ k => XS.lloadN X0.here hx rfl (hb hby d_method_3_2) rfl k) ?_
  show OwnGo p e below _ (s₁.setTop (mkF m 3 #[.val (.ref b1), .val (.int (8 : Int32)), .val (.long q3), .second] [(.long q3), (.int (8 : Int32)), (.ref b1)]))
  refine own_go (fun _ k => XS.bipush X0.here hx rfl (hb hby d_method_3_3) k) ?_
  show OwnGo p e below _ (s₁.setTop (mkF m 5 #[.val (.ref b1), .val (.int (8 : Int32)), .val (.long q3), .second] [(.int (56 : Int32)), (.long q3), (.int (8 : Int32)), (.ref b1)]))
  refine own_go (fun _ k => XS.lushr X0.here hx rfl (hb hby d_method_3_5) rfl k) ?_
  show OwnGo p e below _ (s₁.setTop (mkF m 6 #[.val (.ref b1), .val (.int (8 : Int32)), .val (.long q3), .second] [(.long (((q3).toUInt64 >>> ((56 : Int32) &&& 0x3f).toInt64.toUInt64).toInt64)), (.int (8 : Int32)), (.ref b1)]))
  refine own_go (fun _ k => XS.l2i X0.here hx rfl (hb hby d_method_3_6) rfl k) ?_
  show OwnGo p e below _ (s₁.setTop (mkF m 7 #[.val (.ref b1), .val (.int (8 : Int32)), .val (.long q3), .second] [(.int (((((q3).toUInt64 >>> ((56 : Int32) &&& 0x3f).toInt64.toUInt64).toInt64)).toInt32)), (.int (8 : Int32)), (.ref b1)]))
  refine own_go (fun _ k => XS.i2b X0.here hx rfl (hb hby d_method_3_7) rfl k) ?_
  show OwnGo p e below _ (s₁.setTop (mkF m 8 #[.val (.ref b1), .val (.int (8 : Int32)), .val (.long q3), .second] [(.int (((((((q3).toUInt64 >>> ((56 : Int32) &&& 0x3f).toInt64.toUInt64).toInt64)).toInt32)).toInt8.toInt32)), (.int (8 : Int32)), (.ref b1)]))
  obtain ⟨c44, Ar44, q44, S44, M44, H44, G44⟩ := (id VA)
  obtain ⟨T44, h44, X44, e44, W44, st44⟩ := stB X0 hx hZ e0 Ar44 (j := (8 : Int32)) (inb_of S44 ⟨by decide, by decide⟩) (g := (mkF m 8 #[.val (.ref b1), .val (.int (8 : Int32)), .val (.long q3), .second] [(.int (((((((q3).toUInt64 >>> ((56 : Int32) &&& 0x3f).toInt64.toUInt64).toInt64)).toInt32)).toInt8.toInt32)), (.int (8 : Int32)), (.ref b1)])) rfl rfl (hb hby d_method_3_8)
  rw [own_narb] at W44
  have N44 := Fr.snoc X44 N0 geA
  have O44 := O0.wr W44 geA
  have z45 : h0.size ≤ h44.size := Nat.le_trans (Nat.le_refl _) (Nat.le_of_eq W44.size.symm)
  have V44 : Arv Z h44 b1 k1 .byte (32 : Int32) [(.int u0), (.int u1), (.int u2), (.int u3), (.int u4), (.int u5), (.int u6), (.int u7), (.int (((((((q3).toUInt64 >>> ((56 : Int32) &&& 0x3f).toInt64.toUInt64).toInt64)).toInt32)).toInt8.toInt32)), (.int u9), (.int u10), (.int u11), (.int u12), (.int u13), (.int u14), (.int u15), (.int u16), (.int u17), (.int u18), (.int u19), (.int u20), (.int u21), (.int u22), (.int u23), (.int u24), (.int u25), (.int u26), (.int u27), (.int u28), (.int u29), (.int u30), (.int u31)] (.int (0 : Int32)) := Arv.set Ar44 q44 S44 M44 H44 G44 (fits_nar_byte _) W44 8 (by decide) (Nat.le_of_ble_eq_true rfl)
  refine own_go st44 ?_
  show OwnGo p e below _ (T44.setTop (mkF m 9 #[.val (.ref b1), .val (.int (8 : Int32)), .val (.long q3), .second] []))
  refine own_go (fun _ k => XS.aloadN X44.here hx rfl (hb hby d_method_3_9) rfl rfl k) ?_
  show OwnGo p e below _ (T44.setTop (mkF m 10 #[.val (.ref b1), .val (.int (8 : Int32)), .val (.long q3), .second] [(.ref b1)]))
  refine own_go (fun _ k => XS.iloadN X44.here hx rfl (hb hby d_method_3_10) rfl k) ?_
  show OwnGo p e below _ (T44.setTop (mkF m 11 #[.val (.ref b1), .val (.int (8 : Int32)), .val (.long q3), .second] [(.int (8 : Int32)), (.ref b1)]))
  refine own_go (fun _ k => XS.iconst X44.here hx rfl (hb hby d_method_3_11) k) ?_
  show OwnGo p e below _ (T44.setTop (mkF m 12 #[.val (.ref b1), .val (.int (8 : Int32)), .val (.long q3), .second] [(.int (1 : Int32)), (.int (8 : Int32)), (.ref b1)]))
  refine own_go (fun _ k => XS.iadd X44.here hx rfl (hb hby d_method_3_12) rfl k) ?_
  show OwnGo p e below _ (T44.setTop (mkF m 13 #[.val (.ref b1), .val (.int (8 : Int32)), .val (.long q3), .second] [(.int ((8 : Int32) + (1 : Int32))), (.ref b1)]))
  rw [show ((8 : Int32) + (1 : Int32)) = (9 : Int32) from by decide]
  show OwnGo p e below _ (T44.setTop (mkF m 13 #[.val (.ref b1), .val (.int (8 : Int32)), .val (.long q3), .second] [(.int (9 : Int32)), (.ref b1)]))
  refine own_go (fun _ k => XS.lloadN X44.here hx rfl (hb hby d_method_3_13) rfl k) ?_
  show OwnGo p e below _ (T44.setTop (mkF m 14 #[.val (.ref b1), .val (.int (8 : Int32)), .val (.long q3), .second] [(.long q3), (.int (9 : Int32)), (.ref b1)]))
  refine own_go (fun _ k => XS.bipush X44.here hx rfl (hb hby d_method_3_14) k) ?_
  show OwnGo p e below _ (T44.setTop (mkF m 16 #[.val (.ref b1), .val (.int (8 : Int32)), .val (.long q3), .second] [(.int (48 : Int32)), (.long q3), (.int (9 : Int32)), (.ref b1)]))
  refine own_go (fun _ k => XS.lushr X44.here hx rfl (hb hby d_method_3_16) rfl k) ?_
  show OwnGo p e below _ (T44.setTop (mkF m 17 #[.val (.ref b1), .val (.int (8 : Int32)), .val (.long q3), .second] [(.long (((q3).toUInt64 >>> ((48 : Int32) &&& 0x3f).toInt64.toUInt64).toInt64)), (.int (9 : Int32)), (.ref b1)]))
  refine own_go (fun _ k => XS.l2i X44.here hx rfl (hb hby d_method_3_17) rfl k) ?_
  show OwnGo p e below _ (T44.setTop (mkF m 18 #[.val (.ref b1), .val (.int (8 : Int32)), .val (.long q3), .second] [(.int (((((q3).toUInt64 >>> ((48 : Int32) &&& 0x3f).toInt64.toUInt64).toInt64)).toInt32)), (.int (9 : Int32)), (.ref b1)]))
  refine own_go (fun _ k => XS.i2b X44.here hx rfl (hb hby d_method_3_18) rfl k) ?_
  show OwnGo p e below _ (T44.setTop (mkF m 19 #[.val (.ref b1), .val (.int (8 : Int32)), .val (.long q3), .second] [(.int (((((((q3).toUInt64 >>> ((48 : Int32) &&& 0x3f).toInt64.toUInt64).toInt64)).toInt32)).toInt8.toInt32)), (.int (9 : Int32)), (.ref b1)]))
  obtain ⟨c46, Ar46, q46, S46, M46, H46, G46⟩ := (id V44)
  obtain ⟨T46, h46, X46, e46, W46, st46⟩ := stB X44 hx hZ e44 Ar46 (j := (9 : Int32)) (inb_of S46 ⟨by decide, by decide⟩) (g := (mkF m 19 #[.val (.ref b1), .val (.int (8 : Int32)), .val (.long q3), .second] [(.int (((((((q3).toUInt64 >>> ((48 : Int32) &&& 0x3f).toInt64.toUInt64).toInt64)).toInt32)).toInt8.toInt32)), (.int (9 : Int32)), (.ref b1)])) rfl rfl (hb hby d_method_3_19)
  rw [own_narb] at W46
  have N46 := Fr.snoc X46 N44 geA
  have O46 := O44.wr W46 geA
  have z47 : h0.size ≤ h46.size := Nat.le_trans z45 (Nat.le_of_eq W46.size.symm)
  have V46 : Arv Z h46 b1 k1 .byte (32 : Int32) [(.int u0), (.int u1), (.int u2), (.int u3), (.int u4), (.int u5), (.int u6), (.int u7), (.int (((((((q3).toUInt64 >>> ((56 : Int32) &&& 0x3f).toInt64.toUInt64).toInt64)).toInt32)).toInt8.toInt32)), (.int (((((((q3).toUInt64 >>> ((48 : Int32) &&& 0x3f).toInt64.toUInt64).toInt64)).toInt32)).toInt8.toInt32)), (.int u10), (.int u11), (.int u12), (.int u13), (.int u14), (.int u15), (.int u16), (.int u17), (.int u18), (.int u19), (.int u20), (.int u21), (.int u22), (.int u23), (.int u24), (.int u25), (.int u26), (.int u27), (.int u28), (.int u29), (.int u30), (.int u31)] (.int (0 : Int32)) := Arv.set Ar46 q46 S46 M46 H46 G46 (fits_nar_byte _) W46 9 (by decide) (Nat.le_of_ble_eq_true rfl)
  refine own_go st46 ?_
  show OwnGo p e below _ (T46.setTop (mkF m 20 #[.val (.ref b1), .val (.int (8 : Int32)), .val (.long q3), .second] []))
  refine own_go (fun _ k => XS.aloadN X46.here hx rfl (hb hby d_method_3_20) rfl rfl k) ?_
  show OwnGo p e below _ (T46.setTop (mkF m 21 #[.val (.ref b1), .val (.int (8 : Int32)), .val (.long q3), .second] [(.ref b1)]))
  refine own_go (fun _ k => XS.iloadN X46.here hx rfl (hb hby d_method_3_21) rfl k) ?_
  show OwnGo p e below _ (T46.setTop (mkF m 22 #[.val (.ref b1), .val (.int (8 : Int32)), .val (.long q3), .second] [(.int (8 : Int32)), (.ref b1)]))
  refine own_go (fun _ k => XS.iconst X46.here hx rfl (hb hby d_method_3_22) k) ?_
  show OwnGo p e below _ (T46.setTop (mkF m 23 #[.val (.ref b1), .val (.int (8 : Int32)), .val (.long q3), .second] [(.int (2 : Int32)), (.int (8 : Int32)), (.ref b1)]))
  refine own_go (fun _ k => XS.iadd X46.here hx rfl (hb hby d_method_3_23) rfl k) ?_
  show OwnGo p e below _ (T46.setTop (mkF m 24 #[.val (.ref b1), .val (.int (8 : Int32)), .val (.long q3), .second] [(.int ((8 : Int32) + (2 : Int32))), (.ref b1)]))
  rw [show ((8 : Int32) + (2 : Int32)) = (10 : Int32) from by decide]
  show OwnGo p e below _ (T46.setTop (mkF m 24 #[.val (.ref b1), .val (.int (8 : Int32)), .val (.long q3), .second] [(.int (10 : Int32)), (.ref b1)]))
  refine own_go (fun _ k => XS.lloadN X46.here hx rfl (hb hby d_method_3_24) rfl k) ?_
  show OwnGo p e below _ (T46.setTop (mkF m 25 #[.val (.ref b1), .val (.int (8 : Int32)), .val (.long q3), .second] [(.long q3), (.int (10 : Int32)), (.ref b1)]))
  refine own_go (fun _ k => XS.bipush X46.here hx rfl (hb hby d_method_3_25) k) ?_
  show OwnGo p e below _ (T46.setTop (mkF m 27 #[.val (.ref b1), .val (.int (8 : Int32)), .val (.long q3), .second] [(.int (40 : Int32)), (.long q3), (.int (10 : Int32)), (.ref b1)]))
  refine own_go (fun _ k => XS.lushr X46.here hx rfl (hb hby d_method_3_27) rfl k) ?_
  show OwnGo p e below _ (T46.setTop (mkF m 28 #[.val (.ref b1), .val (.int (8 : Int32)), .val (.long q3), .second] [(.long (((q3).toUInt64 >>> ((40 : Int32) &&& 0x3f).toInt64.toUInt64).toInt64)), (.int (10 : Int32)), (.ref b1)]))
  refine own_go (fun _ k => XS.l2i X46.here hx rfl (hb hby d_method_3_28) rfl k) ?_
  show OwnGo p e below _ (T46.setTop (mkF m 29 #[.val (.ref b1), .val (.int (8 : Int32)), .val (.long q3), .second] [(.int (((((q3).toUInt64 >>> ((40 : Int32) &&& 0x3f).toInt64.toUInt64).toInt64)).toInt32)), (.int (10 : Int32)), (.ref b1)]))
  refine own_go (fun _ k => XS.i2b X46.here hx rfl (hb hby d_method_3_29) rfl k) ?_
  show OwnGo p e below _ (T46.setTop (mkF m 30 #[.val (.ref b1), .val (.int (8 : Int32)), .val (.long q3), .second] [(.int (((((((q3).toUInt64 >>> ((40 : Int32) &&& 0x3f).toInt64.toUInt64).toInt64)).toInt32)).toInt8.toInt32)), (.int (10 : Int32)), (.ref b1)]))
  obtain ⟨c48, Ar48, q48, S48, M48, H48, G48⟩ := (id V46)
  obtain ⟨T48, h48, X48, e48, W48, st48⟩ := stB X46 hx hZ e46 Ar48 (j := (10 : Int32)) (inb_of S48 ⟨by decide, by decide⟩) (g := (mkF m 30 #[.val (.ref b1), .val (.int (8 : Int32)), .val (.long q3), .second] [(.int (((((((q3).toUInt64 >>> ((40 : Int32) &&& 0x3f).toInt64.toUInt64).toInt64)).toInt32)).toInt8.toInt32)), (.int (10 : Int32)), (.ref b1)])) rfl rfl (hb hby d_method_3_30)
  rw [own_narb] at W48
  have N48 := Fr.snoc X48 N46 geA
  have O48 := O46.wr W48 geA
  have z49 : h0.size ≤ h48.size := Nat.le_trans z47 (Nat.le_of_eq W48.size.symm)
  have V48 : Arv Z h48 b1 k1 .byte (32 : Int32) [(.int u0), (.int u1), (.int u2), (.int u3), (.int u4), (.int u5), (.int u6), (.int u7), (.int (((((((q3).toUInt64 >>> ((56 : Int32) &&& 0x3f).toInt64.toUInt64).toInt64)).toInt32)).toInt8.toInt32)), (.int (((((((q3).toUInt64 >>> ((48 : Int32) &&& 0x3f).toInt64.toUInt64).toInt64)).toInt32)).toInt8.toInt32)), (.int (((((((q3).toUInt64 >>> ((40 : Int32) &&& 0x3f).toInt64.toUInt64).toInt64)).toInt32)).toInt8.toInt32)), (.int u11), (.int u12), (.int u13), (.int u14), (.int u15), (.int u16), (.int u17), (.int u18), (.int u19), (.int u20), (.int u21), (.int u22), (.int u23), (.int u24), (.int u25), (.int u26), (.int u27), (.int u28), (.int u29), (.int u30), (.int u31)] (.int (0 : Int32)) := Arv.set Ar48 q48 S48 M48 H48 G48 (fits_nar_byte _) W48 10 (by decide) (Nat.le_of_ble_eq_true rfl)
  refine own_go st48 ?_
  show OwnGo p e below _ (T48.setTop (mkF m 31 #[.val (.ref b1), .val (.int (8 : Int32)), .val (.long q3), .second] []))
  refine own_go (fun _ k => XS.aloadN X48.here hx rfl (hb hby d_method_3_31) rfl rfl k) ?_
  show OwnGo p e below _ (T48.setTop (mkF m 32 #[.val (.ref b1), .val (.int (8 : Int32)), .val (.long q3), .second] [(.ref b1)]))
  refine own_go (fun _ k => XS.iloadN X48.here hx rfl (hb hby d_method_3_32) rfl k) ?_
  show OwnGo p e below _ (T48.setTop (mkF m 33 #[.val (.ref b1), .val (.int (8 : Int32)), .val (.long q3), .second] [(.int (8 : Int32)), (.ref b1)]))
  refine own_go (fun _ k => XS.iconst X48.here hx rfl (hb hby d_method_3_33) k) ?_
  show OwnGo p e below _ (T48.setTop (mkF m 34 #[.val (.ref b1), .val (.int (8 : Int32)), .val (.long q3), .second] [(.int (3 : Int32)), (.int (8 : Int32)), (.ref b1)]))
  refine own_go (fun _ k => XS.iadd X48.here hx rfl (hb hby d_method_3_34) rfl k) ?_
  show OwnGo p e below _ (T48.setTop (mkF m 35 #[.val (.ref b1), .val (.int (8 : Int32)), .val (.long q3), .second] [(.int ((8 : Int32) + (3 : Int32))), (.ref b1)]))
  rw [show ((8 : Int32) + (3 : Int32)) = (11 : Int32) from by decide]
  show OwnGo p e below _ (T48.setTop (mkF m 35 #[.val (.ref b1), .val (.int (8 : Int32)), .val (.long q3), .second] [(.int (11 : Int32)), (.ref b1)]))
  refine own_go (fun _ k => XS.lloadN X48.here hx rfl (hb hby d_method_3_35) rfl k) ?_
  show OwnGo p e below _ (T48.setTop (mkF m 36 #[.val (.ref b1), .val (.int (8 : Int32)), .val (.long q3), .second] [(.long q3), (.int (11 : Int32)), (.ref b1)]))
  refine own_go (fun _ k => XS.bipush X48.here hx rfl (hb hby d_method_3_36) k) ?_
  show OwnGo p e below _ (T48.setTop (mkF m 38 #[.val (.ref b1), .val (.int (8 : Int32)), .val (.long q3), .second] [(.int (32 : Int32)), (.long q3), (.int (11 : Int32)), (.ref b1)]))
  refine own_go (fun _ k => XS.lushr X48.here hx rfl (hb hby d_method_3_38) rfl k) ?_
  show OwnGo p e below _ (T48.setTop (mkF m 39 #[.val (.ref b1), .val (.int (8 : Int32)), .val (.long q3), .second] [(.long (((q3).toUInt64 >>> ((32 : Int32) &&& 0x3f).toInt64.toUInt64).toInt64)), (.int (11 : Int32)), (.ref b1)]))
  refine own_go (fun _ k => XS.l2i X48.here hx rfl (hb hby d_method_3_39) rfl k) ?_
  show OwnGo p e below _ (T48.setTop (mkF m 40 #[.val (.ref b1), .val (.int (8 : Int32)), .val (.long q3), .second] [(.int (((((q3).toUInt64 >>> ((32 : Int32) &&& 0x3f).toInt64.toUInt64).toInt64)).toInt32)), (.int (11 : Int32)), (.ref b1)]))
  refine own_go (fun _ k => XS.i2b X48.here hx rfl (hb hby d_method_3_40) rfl k) ?_
  show OwnGo p e below _ (T48.setTop (mkF m 41 #[.val (.ref b1), .val (.int (8 : Int32)), .val (.long q3), .second] [(.int (((((((q3).toUInt64 >>> ((32 : Int32) &&& 0x3f).toInt64.toUInt64).toInt64)).toInt32)).toInt8.toInt32)), (.int (11 : Int32)), (.ref b1)]))
  obtain ⟨c50, Ar50, q50, S50, M50, H50, G50⟩ := (id V48)
  obtain ⟨T50, h50, X50, e50, W50, st50⟩ := stB X48 hx hZ e48 Ar50 (j := (11 : Int32)) (inb_of S50 ⟨by decide, by decide⟩) (g := (mkF m 41 #[.val (.ref b1), .val (.int (8 : Int32)), .val (.long q3), .second] [(.int (((((((q3).toUInt64 >>> ((32 : Int32) &&& 0x3f).toInt64.toUInt64).toInt64)).toInt32)).toInt8.toInt32)), (.int (11 : Int32)), (.ref b1)])) rfl rfl (hb hby d_method_3_41)
  rw [own_narb] at W50
  have N50 := Fr.snoc X50 N48 geA
  have O50 := O48.wr W50 geA
  have z51 : h0.size ≤ h50.size := Nat.le_trans z49 (Nat.le_of_eq W50.size.symm)
  have V50 : Arv Z h50 b1 k1 .byte (32 : Int32) [(.int u0), (.int u1), (.int u2), (.int u3), (.int u4), (.int u5), (.int u6), (.int u7), (.int (((((((q3).toUInt64 >>> ((56 : Int32) &&& 0x3f).toInt64.toUInt64).toInt64)).toInt32)).toInt8.toInt32)), (.int (((((((q3).toUInt64 >>> ((48 : Int32) &&& 0x3f).toInt64.toUInt64).toInt64)).toInt32)).toInt8.toInt32)), (.int (((((((q3).toUInt64 >>> ((40 : Int32) &&& 0x3f).toInt64.toUInt64).toInt64)).toInt32)).toInt8.toInt32)), (.int (((((((q3).toUInt64 >>> ((32 : Int32) &&& 0x3f).toInt64.toUInt64).toInt64)).toInt32)).toInt8.toInt32)), (.int u12), (.int u13), (.int u14), (.int u15), (.int u16), (.int u17), (.int u18), (.int u19), (.int u20), (.int u21), (.int u22), (.int u23), (.int u24), (.int u25), (.int u26), (.int u27), (.int u28), (.int u29), (.int u30), (.int u31)] (.int (0 : Int32)) := Arv.set Ar50 q50 S50 M50 H50 G50 (fits_nar_byte _) W50 11 (by decide) (Nat.le_of_ble_eq_true rfl)
  refine own_go st50 ?_
  show OwnGo p e below _ (T50.setTop (mkF m 42 #[.val (.ref b1), .val (.int (8 : Int32)), .val (.long q3), .second] []))
  refine own_go (fun _ k => XS.aloadN X50.here hx rfl (hb hby d_method_3_42) rfl rfl k) ?_
  show OwnGo p e below _ (T50.setTop (mkF m 43 #[.val (.ref b1), .val (.int (8 : Int32)), .val (.long q3), .second] [(.ref b1)]))
  refine own_go (fun _ k => XS.iloadN X50.here hx rfl (hb hby d_method_3_43) rfl k) ?_
  show OwnGo p e below _ (T50.setTop (mkF m 44 #[.val (.ref b1), .val (.int (8 : Int32)), .val (.long q3), .second] [(.int (8 : Int32)), (.ref b1)]))
  refine own_go (fun _ k => XS.iconst X50.here hx rfl (hb hby d_method_3_44) k) ?_
  show OwnGo p e below _ (T50.setTop (mkF m 45 #[.val (.ref b1), .val (.int (8 : Int32)), .val (.long q3), .second] [(.int (4 : Int32)), (.int (8 : Int32)), (.ref b1)]))
  refine own_go (fun _ k => XS.iadd X50.here hx rfl (hb hby d_method_3_45) rfl k) ?_
  show OwnGo p e below _ (T50.setTop (mkF m 46 #[.val (.ref b1), .val (.int (8 : Int32)), .val (.long q3), .second] [(.int ((8 : Int32) + (4 : Int32))), (.ref b1)]))
  rw [show ((8 : Int32) + (4 : Int32)) = (12 : Int32) from by decide]
  show OwnGo p e below _ (T50.setTop (mkF m 46 #[.val (.ref b1), .val (.int (8 : Int32)), .val (.long q3), .second] [(.int (12 : Int32)), (.ref b1)]))
  refine own_go (fun _ k => XS.lloadN X50.here hx rfl (hb hby d_method_3_46) rfl k) ?_
  show OwnGo p e below _ (T50.setTop (mkF m 47 #[.val (.ref b1), .val (.int (8 : Int32)), .val (.long q3), .second] [(.long q3), (.int (12 : Int32)), (.ref b1)]))
  refine own_go (fun _ k => XS.bipush X50.here hx rfl (hb hby d_method_3_47) k) ?_
  show OwnGo p e below _ (T50.setTop (mkF m 49 #[.val (.ref b1), .val (.int (8 : Int32)), .val (.long q3), .second] [(.int (24 : Int32)), (.long q3), (.int (12 : Int32)), (.ref b1)]))
  refine own_go (fun _ k => XS.lushr X50.here hx rfl (hb hby d_method_3_49) rfl k) ?_
  show OwnGo p e below _ (T50.setTop (mkF m 50 #[.val (.ref b1), .val (.int (8 : Int32)), .val (.long q3), .second] [(.long (((q3).toUInt64 >>> ((24 : Int32) &&& 0x3f).toInt64.toUInt64).toInt64)), (.int (12 : Int32)), (.ref b1)]))
  refine own_go (fun _ k => XS.l2i X50.here hx rfl (hb hby d_method_3_50) rfl k) ?_
  show OwnGo p e below _ (T50.setTop (mkF m 51 #[.val (.ref b1), .val (.int (8 : Int32)), .val (.long q3), .second] [(.int (((((q3).toUInt64 >>> ((24 : Int32) &&& 0x3f).toInt64.toUInt64).toInt64)).toInt32)), (.int (12 : Int32)), (.ref b1)]))
  refine own_go (fun _ k => XS.i2b X50.here hx rfl (hb hby d_method_3_51) rfl k) ?_
  show OwnGo p e below _ (T50.setTop (mkF m 52 #[.val (.ref b1), .val (.int (8 : Int32)), .val (.long q3), .second] [(.int (((((((q3).toUInt64 >>> ((24 : Int32) &&& 0x3f).toInt64.toUInt64).toInt64)).toInt32)).toInt8.toInt32)), (.int (12 : Int32)), (.ref b1)]))
  obtain ⟨c52, Ar52, q52, S52, M52, H52, G52⟩ := (id V50)
  obtain ⟨T52, h52, X52, e52, W52, st52⟩ := stB X50 hx hZ e50 Ar52 (j := (12 : Int32)) (inb_of S52 ⟨by decide, by decide⟩) (g := (mkF m 52 #[.val (.ref b1), .val (.int (8 : Int32)), .val (.long q3), .second] [(.int (((((((q3).toUInt64 >>> ((24 : Int32) &&& 0x3f).toInt64.toUInt64).toInt64)).toInt32)).toInt8.toInt32)), (.int (12 : Int32)), (.ref b1)])) rfl rfl (hb hby d_method_3_52)
  rw [own_narb] at W52
  have N52 := Fr.snoc X52 N50 geA
  have O52 := O50.wr W52 geA
  have z53 : h0.size ≤ h52.size := Nat.le_trans z51 (Nat.le_of_eq W52.size.symm)
  have V52 : Arv Z h52 b1 k1 .byte (32 : Int32) [(.int u0), (.int u1), (.int u2), (.int u3), (.int u4), (.int u5), (.int u6), (.int u7), (.int (((((((q3).toUInt64 >>> ((56 : Int32) &&& 0x3f).toInt64.toUInt64).toInt64)).toInt32)).toInt8.toInt32)), (.int (((((((q3).toUInt64 >>> ((48 : Int32) &&& 0x3f).toInt64.toUInt64).toInt64)).toInt32)).toInt8.toInt32)), (.int (((((((q3).toUInt64 >>> ((40 : Int32) &&& 0x3f).toInt64.toUInt64).toInt64)).toInt32)).toInt8.toInt32)), (.int (((((((q3).toUInt64 >>> ((32 : Int32) &&& 0x3f).toInt64.toUInt64).toInt64)).toInt32)).toInt8.toInt32)), (.int (((((((q3).toUInt64 >>> ((24 : Int32) &&& 0x3f).toInt64.toUInt64).toInt64)).toInt32)).toInt8.toInt32)), (.int u13), (.int u14), (.int u15), (.int u16), (.int u17), (.int u18), (.int u19), (.int u20), (.int u21), (.int u22), (.int u23), (.int u24), (.int u25), (.int u26), (.int u27), (.int u28), (.int u29), (.int u30), (.int u31)] (.int (0 : Int32)) := Arv.set Ar52 q52 S52 M52 H52 G52 (fits_nar_byte _) W52 12 (by decide) (Nat.le_of_ble_eq_true rfl)
  refine own_go st52 ?_
  show OwnGo p e below _ (T52.setTop (mkF m 53 #[.val (.ref b1), .val (.int (8 : Int32)), .val (.long q3), .second] []))
  refine own_go (fun _ k => XS.aloadN X52.here hx rfl (hb hby d_method_3_53) rfl rfl k) ?_
  show OwnGo p e below _ (T52.setTop (mkF m 54 #[.val (.ref b1), .val (.int (8 : Int32)), .val (.long q3), .second] [(.ref b1)]))
  refine own_go (fun _ k => XS.iloadN X52.here hx rfl (hb hby d_method_3_54) rfl k) ?_
  show OwnGo p e below _ (T52.setTop (mkF m 55 #[.val (.ref b1), .val (.int (8 : Int32)), .val (.long q3), .second] [(.int (8 : Int32)), (.ref b1)]))
  refine own_go (fun _ k => XS.iconst X52.here hx rfl (hb hby d_method_3_55) k) ?_
  show OwnGo p e below _ (T52.setTop (mkF m 56 #[.val (.ref b1), .val (.int (8 : Int32)), .val (.long q3), .second] [(.int (5 : Int32)), (.int (8 : Int32)), (.ref b1)]))
  refine own_go (fun _ k => XS.iadd X52.here hx rfl (hb hby d_method_3_56) rfl k) ?_
  show OwnGo p e below _ (T52.setTop (mkF m 57 #[.val (.ref b1), .val (.int (8 : Int32)), .val (.long q3), .second] [(.int ((8 : Int32) + (5 : Int32))), (.ref b1)]))
  rw [show ((8 : Int32) + (5 : Int32)) = (13 : Int32) from by decide]
  show OwnGo p e below _ (T52.setTop (mkF m 57 #[.val (.ref b1), .val (.int (8 : Int32)), .val (.long q3), .second] [(.int (13 : Int32)), (.ref b1)]))
  refine own_go (fun _ k => XS.lloadN X52.here hx rfl (hb hby d_method_3_57) rfl k) ?_
  show OwnGo p e below _ (T52.setTop (mkF m 58 #[.val (.ref b1), .val (.int (8 : Int32)), .val (.long q3), .second] [(.long q3), (.int (13 : Int32)), (.ref b1)]))
  refine own_go (fun _ k => XS.bipush X52.here hx rfl (hb hby d_method_3_58) k) ?_
  show OwnGo p e below _ (T52.setTop (mkF m 60 #[.val (.ref b1), .val (.int (8 : Int32)), .val (.long q3), .second] [(.int (16 : Int32)), (.long q3), (.int (13 : Int32)), (.ref b1)]))
  refine own_go (fun _ k => XS.lushr X52.here hx rfl (hb hby d_method_3_60) rfl k) ?_
  show OwnGo p e below _ (T52.setTop (mkF m 61 #[.val (.ref b1), .val (.int (8 : Int32)), .val (.long q3), .second] [(.long (((q3).toUInt64 >>> ((16 : Int32) &&& 0x3f).toInt64.toUInt64).toInt64)), (.int (13 : Int32)), (.ref b1)]))
  refine own_go (fun _ k => XS.l2i X52.here hx rfl (hb hby d_method_3_61) rfl k) ?_
  show OwnGo p e below _ (T52.setTop (mkF m 62 #[.val (.ref b1), .val (.int (8 : Int32)), .val (.long q3), .second] [(.int (((((q3).toUInt64 >>> ((16 : Int32) &&& 0x3f).toInt64.toUInt64).toInt64)).toInt32)), (.int (13 : Int32)), (.ref b1)]))
  refine own_go (fun _ k => XS.i2b X52.here hx rfl (hb hby d_method_3_62) rfl k) ?_
  show OwnGo p e below _ (T52.setTop (mkF m 63 #[.val (.ref b1), .val (.int (8 : Int32)), .val (.long q3), .second] [(.int (((((((q3).toUInt64 >>> ((16 : Int32) &&& 0x3f).toInt64.toUInt64).toInt64)).toInt32)).toInt8.toInt32)), (.int (13 : Int32)), (.ref b1)]))
  obtain ⟨c54, Ar54, q54, S54, M54, H54, G54⟩ := (id V52)
  obtain ⟨T54, h54, X54, e54, W54, st54⟩ := stB X52 hx hZ e52 Ar54 (j := (13 : Int32)) (inb_of S54 ⟨by decide, by decide⟩) (g := (mkF m 63 #[.val (.ref b1), .val (.int (8 : Int32)), .val (.long q3), .second] [(.int (((((((q3).toUInt64 >>> ((16 : Int32) &&& 0x3f).toInt64.toUInt64).toInt64)).toInt32)).toInt8.toInt32)), (.int (13 : Int32)), (.ref b1)])) rfl rfl (hb hby d_method_3_63)
  rw [own_narb] at W54
  have N54 := Fr.snoc X54 N52 geA
  have O54 := O52.wr W54 geA
  have z55 : h0.size ≤ h54.size := Nat.le_trans z53 (Nat.le_of_eq W54.size.symm)
  have V54 : Arv Z h54 b1 k1 .byte (32 : Int32) [(.int u0), (.int u1), (.int u2), (.int u3), (.int u4), (.int u5), (.int u6), (.int u7), (.int (((((((q3).toUInt64 >>> ((56 : Int32) &&& 0x3f).toInt64.toUInt64).toInt64)).toInt32)).toInt8.toInt32)), (.int (((((((q3).toUInt64 >>> ((48 : Int32) &&& 0x3f).toInt64.toUInt64).toInt64)).toInt32)).toInt8.toInt32)), (.int (((((((q3).toUInt64 >>> ((40 : Int32) &&& 0x3f).toInt64.toUInt64).toInt64)).toInt32)).toInt8.toInt32)), (.int (((((((q3).toUInt64 >>> ((32 : Int32) &&& 0x3f).toInt64.toUInt64).toInt64)).toInt32)).toInt8.toInt32)), (.int (((((((q3).toUInt64 >>> ((24 : Int32) &&& 0x3f).toInt64.toUInt64).toInt64)).toInt32)).toInt8.toInt32)), (.int (((((((q3).toUInt64 >>> ((16 : Int32) &&& 0x3f).toInt64.toUInt64).toInt64)).toInt32)).toInt8.toInt32)), (.int u14), (.int u15), (.int u16), (.int u17), (.int u18), (.int u19), (.int u20), (.int u21), (.int u22), (.int u23), (.int u24), (.int u25), (.int u26), (.int u27), (.int u28), (.int u29), (.int u30), (.int u31)] (.int (0 : Int32)) := Arv.set Ar54 q54 S54 M54 H54 G54 (fits_nar_byte _) W54 13 (by decide) (Nat.le_of_ble_eq_true rfl)
  refine own_go st54 ?_
  show OwnGo p e below _ (T54.setTop (mkF m 64 #[.val (.ref b1), .val (.int (8 : Int32)), .val (.long q3), .second] []))
  refine own_go (fun _ k => XS.aloadN X54.here hx rfl (hb hby d_method_3_64) rfl rfl k) ?_
  show OwnGo p e below _ (T54.setTop (mkF m 65 #[.val (.ref b1), .val (.int (8 : Int32)), .val (.long q3), .second] [(.ref b1)]))
  refine own_go (fun _ k => XS.iloadN X54.here hx rfl (hb hby d_method_3_65) rfl k) ?_
  show OwnGo p e below _ (T54.setTop (mkF m 66 #[.val (.ref b1), .val (.int (8 : Int32)), .val (.long q3), .second] [(.int (8 : Int32)), (.ref b1)]))
  refine own_go (fun _ k => XS.bipush X54.here hx rfl (hb hby d_method_3_66) k) ?_
  show OwnGo p e below _ (T54.setTop (mkF m 68 #[.val (.ref b1), .val (.int (8 : Int32)), .val (.long q3), .second] [(.int (6 : Int32)), (.int (8 : Int32)), (.ref b1)]))
  refine own_go (fun _ k => XS.iadd X54.here hx rfl (hb hby d_method_3_68) rfl k) ?_
  show OwnGo p e below _ (T54.setTop (mkF m 69 #[.val (.ref b1), .val (.int (8 : Int32)), .val (.long q3), .second] [(.int ((8 : Int32) + (6 : Int32))), (.ref b1)]))
  rw [show ((8 : Int32) + (6 : Int32)) = (14 : Int32) from by decide]
  show OwnGo p e below _ (T54.setTop (mkF m 69 #[.val (.ref b1), .val (.int (8 : Int32)), .val (.long q3), .second] [(.int (14 : Int32)), (.ref b1)]))
  refine own_go (fun _ k => XS.lloadN X54.here hx rfl (hb hby d_method_3_69) rfl k) ?_
  show OwnGo p e below _ (T54.setTop (mkF m 70 #[.val (.ref b1), .val (.int (8 : Int32)), .val (.long q3), .second] [(.long q3), (.int (14 : Int32)), (.ref b1)]))
  refine own_go (fun _ k => XS.bipush X54.here hx rfl (hb hby d_method_3_70) k) ?_
  show OwnGo p e below _ (T54.setTop (mkF m 72 #[.val (.ref b1), .val (.int (8 : Int32)), .val (.long q3), .second] [(.int (8 : Int32)), (.long q3), (.int (14 : Int32)), (.ref b1)]))
  refine own_go (fun _ k => XS.lushr X54.here hx rfl (hb hby d_method_3_72) rfl k) ?_
  show OwnGo p e below _ (T54.setTop (mkF m 73 #[.val (.ref b1), .val (.int (8 : Int32)), .val (.long q3), .second] [(.long (((q3).toUInt64 >>> ((8 : Int32) &&& 0x3f).toInt64.toUInt64).toInt64)), (.int (14 : Int32)), (.ref b1)]))
  refine own_go (fun _ k => XS.l2i X54.here hx rfl (hb hby d_method_3_73) rfl k) ?_
  show OwnGo p e below _ (T54.setTop (mkF m 74 #[.val (.ref b1), .val (.int (8 : Int32)), .val (.long q3), .second] [(.int (((((q3).toUInt64 >>> ((8 : Int32) &&& 0x3f).toInt64.toUInt64).toInt64)).toInt32)), (.int (14 : Int32)), (.ref b1)]))
  refine own_go (fun _ k => XS.i2b X54.here hx rfl (hb hby d_method_3_74) rfl k) ?_
  show OwnGo p e below _ (T54.setTop (mkF m 75 #[.val (.ref b1), .val (.int (8 : Int32)), .val (.long q3), .second] [(.int (((((((q3).toUInt64 >>> ((8 : Int32) &&& 0x3f).toInt64.toUInt64).toInt64)).toInt32)).toInt8.toInt32)), (.int (14 : Int32)), (.ref b1)]))
  obtain ⟨c56, Ar56, q56, S56, M56, H56, G56⟩ := (id V54)
  obtain ⟨T56, h56, X56, e56, W56, st56⟩ := stB X54 hx hZ e54 Ar56 (j := (14 : Int32)) (inb_of S56 ⟨by decide, by decide⟩) (g := (mkF m 75 #[.val (.ref b1), .val (.int (8 : Int32)), .val (.long q3), .second] [(.int (((((((q3).toUInt64 >>> ((8 : Int32) &&& 0x3f).toInt64.toUInt64).toInt64)).toInt32)).toInt8.toInt32)), (.int (14 : Int32)), (.ref b1)])) rfl rfl (hb hby d_method_3_75)
  rw [own_narb] at W56
  have N56 := Fr.snoc X56 N54 geA
  have O56 := O54.wr W56 geA
  have z57 : h0.size ≤ h56.size := Nat.le_trans z55 (Nat.le_of_eq W56.size.symm)
  have V56 : Arv Z h56 b1 k1 .byte (32 : Int32) [(.int u0), (.int u1), (.int u2), (.int u3), (.int u4), (.int u5), (.int u6), (.int u7), (.int (((((((q3).toUInt64 >>> ((56 : Int32) &&& 0x3f).toInt64.toUInt64).toInt64)).toInt32)).toInt8.toInt32)), (.int (((((((q3).toUInt64 >>> ((48 : Int32) &&& 0x3f).toInt64.toUInt64).toInt64)).toInt32)).toInt8.toInt32)), (.int (((((((q3).toUInt64 >>> ((40 : Int32) &&& 0x3f).toInt64.toUInt64).toInt64)).toInt32)).toInt8.toInt32)), (.int (((((((q3).toUInt64 >>> ((32 : Int32) &&& 0x3f).toInt64.toUInt64).toInt64)).toInt32)).toInt8.toInt32)), (.int (((((((q3).toUInt64 >>> ((24 : Int32) &&& 0x3f).toInt64.toUInt64).toInt64)).toInt32)).toInt8.toInt32)), (.int (((((((q3).toUInt64 >>> ((16 : Int32) &&& 0x3f).toInt64.toUInt64).toInt64)).toInt32)).toInt8.toInt32)), (.int (((((((q3).toUInt64 >>> ((8 : Int32) &&& 0x3f).toInt64.toUInt64).toInt64)).toInt32)).toInt8.toInt32)), (.int u15), (.int u16), (.int u17), (.int u18), (.int u19), (.int u20), (.int u21), (.int u22), (.int u23), (.int u24), (.int u25), (.int u26), (.int u27), (.int u28), (.int u29), (.int u30), (.int u31)] (.int (0 : Int32)) := Arv.set Ar56 q56 S56 M56 H56 G56 (fits_nar_byte _) W56 14 (by decide) (Nat.le_of_ble_eq_true rfl)
  refine own_go st56 ?_
  show OwnGo p e below _ (T56.setTop (mkF m 76 #[.val (.ref b1), .val (.int (8 : Int32)), .val (.long q3), .second] []))
  refine own_go (fun _ k => XS.aloadN X56.here hx rfl (hb hby d_method_3_76) rfl rfl k) ?_
  show OwnGo p e below _ (T56.setTop (mkF m 77 #[.val (.ref b1), .val (.int (8 : Int32)), .val (.long q3), .second] [(.ref b1)]))
  refine own_go (fun _ k => XS.iloadN X56.here hx rfl (hb hby d_method_3_77) rfl k) ?_
  show OwnGo p e below _ (T56.setTop (mkF m 78 #[.val (.ref b1), .val (.int (8 : Int32)), .val (.long q3), .second] [(.int (8 : Int32)), (.ref b1)]))
  refine own_go (fun _ k => XS.bipush X56.here hx rfl (hb hby d_method_3_78) k) ?_
  show OwnGo p e below _ (T56.setTop (mkF m 80 #[.val (.ref b1), .val (.int (8 : Int32)), .val (.long q3), .second] [(.int (7 : Int32)), (.int (8 : Int32)), (.ref b1)]))
  refine own_go (fun _ k => XS.iadd X56.here hx rfl (hb hby d_method_3_80) rfl k) ?_
  show OwnGo p e below _ (T56.setTop (mkF m 81 #[.val (.ref b1), .val (.int (8 : Int32)), .val (.long q3), .second] [(.int ((8 : Int32) + (7 : Int32))), (.ref b1)]))
  rw [show ((8 : Int32) + (7 : Int32)) = (15 : Int32) from by decide]
  show OwnGo p e below _ (T56.setTop (mkF m 81 #[.val (.ref b1), .val (.int (8 : Int32)), .val (.long q3), .second] [(.int (15 : Int32)), (.ref b1)]))
  refine own_go (fun _ k => XS.lloadN X56.here hx rfl (hb hby d_method_3_81) rfl k) ?_
  show OwnGo p e below _ (T56.setTop (mkF m 82 #[.val (.ref b1), .val (.int (8 : Int32)), .val (.long q3), .second] [(.long q3), (.int (15 : Int32)), (.ref b1)]))
  refine own_go (fun _ k => XS.l2i X56.here hx rfl (hb hby d_method_3_82) rfl k) ?_
  show OwnGo p e below _ (T56.setTop (mkF m 83 #[.val (.ref b1), .val (.int (8 : Int32)), .val (.long q3), .second] [(.int ((q3).toInt32)), (.int (15 : Int32)), (.ref b1)]))
  refine own_go (fun _ k => XS.i2b X56.here hx rfl (hb hby d_method_3_83) rfl k) ?_
  show OwnGo p e below _ (T56.setTop (mkF m 84 #[.val (.ref b1), .val (.int (8 : Int32)), .val (.long q3), .second] [(.int ((((q3).toInt32)).toInt8.toInt32)), (.int (15 : Int32)), (.ref b1)]))
  obtain ⟨c58, Ar58, q58, S58, M58, H58, G58⟩ := (id V56)
  obtain ⟨T58, h58, X58, e58, W58, st58⟩ := stB X56 hx hZ e56 Ar58 (j := (15 : Int32)) (inb_of S58 ⟨by decide, by decide⟩) (g := (mkF m 84 #[.val (.ref b1), .val (.int (8 : Int32)), .val (.long q3), .second] [(.int ((((q3).toInt32)).toInt8.toInt32)), (.int (15 : Int32)), (.ref b1)])) rfl rfl (hb hby d_method_3_84)
  rw [own_narb] at W58
  have N58 := Fr.snoc X58 N56 geA
  have O58 := O56.wr W58 geA
  have z59 : h0.size ≤ h58.size := Nat.le_trans z57 (Nat.le_of_eq W58.size.symm)
  have V58 : Arv Z h58 b1 k1 .byte (32 : Int32) [(.int u0), (.int u1), (.int u2), (.int u3), (.int u4), (.int u5), (.int u6), (.int u7), (.int (((((((q3).toUInt64 >>> ((56 : Int32) &&& 0x3f).toInt64.toUInt64).toInt64)).toInt32)).toInt8.toInt32)), (.int (((((((q3).toUInt64 >>> ((48 : Int32) &&& 0x3f).toInt64.toUInt64).toInt64)).toInt32)).toInt8.toInt32)), (.int (((((((q3).toUInt64 >>> ((40 : Int32) &&& 0x3f).toInt64.toUInt64).toInt64)).toInt32)).toInt8.toInt32)), (.int (((((((q3).toUInt64 >>> ((32 : Int32) &&& 0x3f).toInt64.toUInt64).toInt64)).toInt32)).toInt8.toInt32)), (.int (((((((q3).toUInt64 >>> ((24 : Int32) &&& 0x3f).toInt64.toUInt64).toInt64)).toInt32)).toInt8.toInt32)), (.int (((((((q3).toUInt64 >>> ((16 : Int32) &&& 0x3f).toInt64.toUInt64).toInt64)).toInt32)).toInt8.toInt32)), (.int (((((((q3).toUInt64 >>> ((8 : Int32) &&& 0x3f).toInt64.toUInt64).toInt64)).toInt32)).toInt8.toInt32)), (.int ((((q3).toInt32)).toInt8.toInt32)), (.int u16), (.int u17), (.int u18), (.int u19), (.int u20), (.int u21), (.int u22), (.int u23), (.int u24), (.int u25), (.int u26), (.int u27), (.int u28), (.int u29), (.int u30), (.int u31)] (.int (0 : Int32)) := Arv.set Ar58 q58 S58 M58 H58 G58 (fits_nar_byte _) W58 15 (by decide) (Nat.le_of_ble_eq_true rfl)
  refine own_go st58 ?_
  show OwnGo p e below _ (T58.setTop (mkF m 85 #[.val (.ref b1), .val (.int (8 : Int32)), .val (.long q3), .second] []))
  obtain ⟨fs, hr, hrun, hended, hW, hsame⟩ := X58.leave (v := none) (fun h => rfl)
  refine ⟨_, _, X58.returnOut hx Bd.returns (hb hby d_method_3_85) hr, hrun, hended, _, _, rfl, ?_, ⟨_, rfl⟩, hW, hsame.mono (by decide) (by decide)⟩
  show Q_put8 Z aFFDHE2048 aCONFIRMATION aFFDHE4096 aFFDHE3072 b1 q3 k1 u0 u1 u2 u3 u4 u5 u6 u7 u8 u9 u10 u11 u12 u13 u14 u15 u16 u17 u18 u19 u20 u21 u22 u23 u24 u25 u26 u27 u28 u29 u30 u31 h0 n0 _ T58.heap _
  rw [e58]
  exact ⟨rfl, N58, (((((((((Keep.refl _ [b1]).wr W44 (Or.inl (List.mem_of_getElem? (i := 0) rfl))).wr W46 (Or.inl (List.mem_of_getElem? (i := 0) rfl))).wr W48 (Or.inl (List.mem_of_getElem? (i := 0) rfl))).wr W50 (Or.inl (List.mem_of_getElem? (i := 0) rfl))).wr W52 (Or.inl (List.mem_of_getElem? (i := 0) rfl))).wr W54 (Or.inl (List.mem_of_getElem? (i := 0) rfl))).wr W56 (Or.inl (List.mem_of_getElem? (i := 0) rfl))).wr W58 (Or.inl (List.mem_of_getElem? (i := 0) rfl))), V58⟩
def Q_put16 (Z : State) (aFFDHE2048 aCONFIRMATION aFFDHE4096 aFFDHE3072 : Addr) (b1 : Addr) (q3 : Int64) (k1 : ClassId) (u0 : Int32) (u1 : Int32) (u2 : Int32) (u3 : Int32) (u4 : Int32) (u5 : Int32) (u6 : Int32) (u7 : Int32) (u8 : Int32) (u9 : Int32) (u10 : Int32) (u11 : Int32) (u12 : Int32) (u13 : Int32) (u14 : Int32) (u15 : Int32) (u16 : Int32) (u17 : Int32) (u18 : Int32) (u19 : Int32) (u20 : Int32) (u21 : Int32) (u22 : Int32) (u23 : Int32) (u24 : Int32) (u25 : Int32) (u26 : Int32) (u27 : Int32) (u28 : Int32) (u29 : Int32) (u30 : Int32) (u31 : Int32) (h0 : Heap) (n0 : Nat) (v : Option Value) (h : Heap) (L : List Loc) : Prop := v = none ∧ Fr n0 L ∧ Keep h0 h [b1] ∧ Arv Z h b1 k1 .byte (32 : Int32) [(.int u0), (.int u1), (.int u2), (.int u3), (.int u4), (.int u5), (.int u6), (.int u7), (.int u8), (.int u9), (.int u10), (.int u11), (.int u12), (.int u13), (.int u14), (.int u15), (.int (((((((q3).toUInt64 >>> ((56 : Int32) &&& 0x3f).toInt64.toUInt64).toInt64)).toInt32)).toInt8.toInt32)), (.int (((((((q3).toUInt64 >>> ((48 : Int32) &&& 0x3f).toInt64.toUInt64).toInt64)).toInt32)).toInt8.toInt32)), (.int (((((((q3).toUInt64 >>> ((40 : Int32) &&& 0x3f).toInt64.toUInt64).toInt64)).toInt32)).toInt8.toInt32)), (.int (((((((q3).toUInt64 >>> ((32 : Int32) &&& 0x3f).toInt64.toUInt64).toInt64)).toInt32)).toInt8.toInt32)), (.int (((((((q3).toUInt64 >>> ((24 : Int32) &&& 0x3f).toInt64.toUInt64).toInt64)).toInt32)).toInt8.toInt32)), (.int (((((((q3).toUInt64 >>> ((16 : Int32) &&& 0x3f).toInt64.toUInt64).toInt64)).toInt32)).toInt8.toInt32)), (.int (((((((q3).toUInt64 >>> ((8 : Int32) &&& 0x3f).toInt64.toUInt64).toInt64)).toInt32)).toInt8.toInt32)), (.int ((((q3).toInt32)).toInt8.toInt32)), (.int u24), (.int u25), (.int u26), (.int u27), (.int u28), (.int u29), (.int u30), (.int u31)] (.int (0 : Int32))
theorem ef_put16 (m : MethodId) (x0 : Addr) (x1 : Int32) (x2 : Int64) : entryFrame m #[(.ref x0), (.int x1), (.long x2)] 4 = mkF m 0 #[.val (.ref x0), .val (.int x1), .val (.long x2), .second] [] := by first | (simp [entryFrame, mkF, argsToLocals, Value.category]; done) | rfl
set_option maxRecDepth 65536 in
set_option maxHeartbeats 40000000 in
theorem rm_put16 (l : Launch) (Z : State) (a0 : Array Value) (hw : ∀ d ∈ tables_1, d.before a0 Z = true) (ws : List Jvm.Cond) (aFFDHE2048 aCONFIRMATION aFFDHE4096 aFFDHE3072 : Addr) (F0 : OwnFacts Z aFFDHE2048 aCONFIRMATION aFFDHE4096 aFFDHE3072) (b1 : Addr) (q3 : Int64) (k1 : ClassId) (u0 : Int32) (u1 : Int32) (u2 : Int32) (u3 : Int32) (u4 : Int32) (u5 : Int32) (u6 : Int32) (u7 : Int32) (u8 : Int32) (u9 : Int32) (u10 : Int32) (u11 : Int32) (u12 : Int32) (u13 : Int32) (u14 : Int32) (u15 : Int32) (u16 : Int32) (u17 : Int32) (u18 : Int32) (u19 : Int32) (u20 : Int32) (u21 : Int32) (u22 : Int32) (u23 : Int32) (u24 : Int32) (u25 : Int32) (u26 : Int32) (u27 : Int32) (u28 : Int32) (u29 : Int32) (u30 : Int32) (u31 : Int32) (h0 : Heap) (n0 : Nat) (O0 : Old Z n0 h0) (VA : Arv Z h0 b1 k1 .byte (32 : Int32) [(.int u0), (.int u1), (.int u2), (.int u3), (.int u4), (.int u5), (.int u6), (.int u7), (.int u8), (.int u9), (.int u10), (.int u11), (.int u12), (.int u13), (.int u14), (.int u15), (.int u16), (.int u17), (.int u18), (.int u19), (.int u20), (.int u21), (.int u22), (.int u23), (.int u24), (.int u25), (.int u26), (.int u27), (.int u28), (.int u29), (.int u30), (.int u31)] (.int (0 : Int32))) (geA : n0 ≤ b1) :
    MetFree l (⟨"com/example/portcullis/portcullis/ConfirmationEncodePinLaw", "put", "([BIJ)V"⟩ : MethodName) (head1 (Jvm.Cond.code (⟨"com/example/portcullis/portcullis/ConfirmationEncodePinLaw", "put", "([BIJ)V"⟩ : MethodName) method_3_code 4 none :: ws) ({ frames := 0, cells := 0, slots := 0, locals := 0 } : Room)) (fun a U => a = #[(.ref b1), (.int (16 : Int32)), (.long q3)] ∧ Z.Warmed39 U.vm ∧ U.heap = h0) (fun _ _ _ _ _ => True) (fun _ U o U' => ∃ v L, o = .returned v ∧ Q_put16 Z aFFDHE2048 aCONFIRMATION aFFDHE4096 aFFDHE3072 b1 q3 k1 u0 u1 u2 u3 u4 u5 u6 u7 u8 u9 u10 u11 u12 u13 u14 u15 u16 u17 u18 u19 u20 u21 u22 u23 u24 u25 u26 u27 u28 u29 u30 u31 h0 n0 v U'.heap L ∧ FrameEnd U o U' L ({ frames := 0, cells := 0, slots := 0, locals := 0 } : Room).cells ({ frames := 0, cells := 0, slots := 0, locals := 0 } : Room).slots) := by
  refine MetFree.of_bodySF (plainFor_of_name pn_com_example_portcullis_portcullis_ConfirmationEncodePinLaw) hisR ?_
  intro p e s m args below meth c s₁ Bd hml0 hP hK
  obtain ⟨rfl, hZ, hh⟩ := hP
  have hx := Bd.exec
  have hby := Bd.bytes
  have hml : c.maxLocals = 4 := hml0
  have hown : s.vm.findClass "com/example/portcullis/portcullis/ConfirmationEncodePinLaw" = some m.cls := findClass_of_methodNamed Bd.named
  have hnm := (name_of_methodNamed Bd.named Bd.method).1
  have X0 : Stand p l e ({ frames := 0, cells := 0, slots := 0, locals := 0 } : Room) s m #[(.ref b1), (.int (16 : Int32)), (.long q3)] below meth c s₁ [] 0 0 := Stand.of_body Bd
  have e0 : s₁.heap = h0 := by rw [← hh, Bd.state]; rfl
  have N0 := Fr.nil n0
  refine own_go (Q := fun o U' => ∃ v L, o = .returned v ∧ Q_put16 Z aFFDHE2048 aCONFIRMATION aFFDHE4096 aFFDHE3072 b1 q3 k1 u0 u1 u2 u3 u4 u5 u6 u7 u8 u9 u10 u11 u12 u13 u14 u15 u16 u17 u18 u19 u20 u21 u22 u23 u24 u25 u26 u27 u28 u29 u30 u31 h0 n0 v U'.heap L ∧ FrameEnd s o U' L ({ frames := 0, cells := 0, slots := 0, locals := 0 } : Room).cells ({ frames := 0, cells := 0, slots := 0, locals := 0 } : Room).slots) (fun t k => castTop (ef_put16 m b1 (16 : Int32) q3) k) ?_
  show OwnGo p e below _ (s₁.setTop (mkF m 0 #[.val (.ref b1), .val (.int (16 : Int32)), .val (.long q3), .second] []))
  refine own_go (fun _ k => XS.aloadN X0.here hx rfl (hb hby d_method_3_0) rfl rfl k) ?_
  show OwnGo p e below _ (s₁.setTop (mkF m 1 #[.val (.ref b1), .val (.int (16 : Int32)), .val (.long q3), .second] [(.ref b1)]))
  refine own_go (fun _ k => XS.iloadN X0.here hx rfl (hb hby d_method_3_1) rfl k) ?_
  show OwnGo p e below _ (s₁.setTop (mkF m 2 #[.val (.ref b1), .val (.int (16 : Int32)), .val (.long q3), .second] [(.int (16 : Int32)), (.ref b1)]))
  refine own_go (fun _ k => XS.lloadN X0.here hx rfl (hb hby d_method_3_2) rfl k) ?_
  show OwnGo p e below _ (s₁.setTop (mkF m 3 #[.val (.ref b1), .val (.int (16 : Int32)), .val (.long q3), .second] [(.long q3), (.int (16 : Int32)), (.ref b1)]))
  refine own_go (fun _ k => XS.bipush X0.here hx rfl (hb hby d_method_3_3) k) ?_
  show OwnGo p e below _ (s₁.setTop (mkF m 5 #[.val (.ref b1), .val (.int (16 : Int32)), .val (.long q3), .second] [(.int (56 : Int32)), (.long q3), (.int (16 : Int32)), (.ref b1)]))
  refine own_go (fun _ k => XS.lushr X0.here hx rfl (hb hby d_method_3_5) rfl k) ?_
  show OwnGo p e below _ (s₁.setTop (mkF m 6 #[.val (.ref b1), .val (.int (16 : Int32)), .val (.long q3), .second] [(.long (((q3).toUInt64 >>> ((56 : Int32) &&& 0x3f).toInt64.toUInt64).toInt64)), (.int (16 : Int32)), (.ref b1)]))
  refine own_go (fun _ k => XS.l2i X0.here hx rfl (hb hby d_method_3_6) rfl k) ?_
  show OwnGo p e below _ (s₁.setTop (mkF m 7 #[.val (.ref b1), .val (.int (16 : Int32)), .val (.long q3), .second] [(.int (((((q3).toUInt64 >>> ((56 : Int32) &&& 0x3f).toInt64.toUInt64).toInt64)).toInt32)), (.int (16 : Int32)), (.ref b1)]))
  refine own_go (fun _ k => XS.i2b X0.here hx rfl (hb hby d_method_3_7) rfl k) ?_
  show OwnGo p e below _ (s₁.setTop (mkF m 8 #[.val (.ref b1), .val (.int (16 : Int32)), .val (.long q3), .second] [(.int (((((((q3).toUInt64 >>> ((56 : Int32) &&& 0x3f).toInt64.toUInt64).toInt64)).toInt32)).toInt8.toInt32)), (.int (16 : Int32)), (.ref b1)]))
  obtain ⟨c60, Ar60, q60, S60, M60, H60, G60⟩ := (id VA)
  obtain ⟨T60, h60, X60, e60, W60, st60⟩ := stB X0 hx hZ e0 Ar60 (j := (16 : Int32)) (inb_of S60 ⟨by decide, by decide⟩) (g := (mkF m 8 #[.val (.ref b1), .val (.int (16 : Int32)), .val (.long q3), .second] [(.int (((((((q3).toUInt64 >>> ((56 : Int32) &&& 0x3f).toInt64.toUInt64).toInt64)).toInt32)).toInt8.toInt32)), (.int (16 : Int32)), (.ref b1)])) rfl rfl (hb hby d_method_3_8)
  rw [own_narb] at W60
  have N60 := Fr.snoc X60 N0 geA
  have O60 := O0.wr W60 geA
  have z61 : h0.size ≤ h60.size := Nat.le_trans (Nat.le_refl _) (Nat.le_of_eq W60.size.symm)
  have V60 : Arv Z h60 b1 k1 .byte (32 : Int32) [(.int u0), (.int u1), (.int u2), (.int u3), (.int u4), (.int u5), (.int u6), (.int u7), (.int u8), (.int u9), (.int u10), (.int u11), (.int u12), (.int u13), (.int u14), (.int u15), (.int (((((((q3).toUInt64 >>> ((56 : Int32) &&& 0x3f).toInt64.toUInt64).toInt64)).toInt32)).toInt8.toInt32)), (.int u17), (.int u18), (.int u19), (.int u20), (.int u21), (.int u22), (.int u23), (.int u24), (.int u25), (.int u26), (.int u27), (.int u28), (.int u29), (.int u30), (.int u31)] (.int (0 : Int32)) := Arv.set Ar60 q60 S60 M60 H60 G60 (fits_nar_byte _) W60 16 (by decide) (Nat.le_of_ble_eq_true rfl)
  refine own_go st60 ?_
  show OwnGo p e below _ (T60.setTop (mkF m 9 #[.val (.ref b1), .val (.int (16 : Int32)), .val (.long q3), .second] []))
  refine own_go (fun _ k => XS.aloadN X60.here hx rfl (hb hby d_method_3_9) rfl rfl k) ?_
  show OwnGo p e below _ (T60.setTop (mkF m 10 #[.val (.ref b1), .val (.int (16 : Int32)), .val (.long q3), .second] [(.ref b1)]))
  refine own_go (fun _ k => XS.iloadN X60.here hx rfl (hb hby d_method_3_10) rfl k) ?_
  show OwnGo p e below _ (T60.setTop (mkF m 11 #[.val (.ref b1), .val (.int (16 : Int32)), .val (.long q3), .second] [(.int (16 : Int32)), (.ref b1)]))
  refine own_go (fun _ k => XS.iconst X60.here hx rfl (hb hby d_method_3_11) k) ?_
  show OwnGo p e below _ (T60.setTop (mkF m 12 #[.val (.ref b1), .val (.int (16 : Int32)), .val (.long q3), .second] [(.int (1 : Int32)), (.int (16 : Int32)), (.ref b1)]))
  refine own_go (fun _ k => XS.iadd X60.here hx rfl (hb hby d_method_3_12) rfl k) ?_
  show OwnGo p e below _ (T60.setTop (mkF m 13 #[.val (.ref b1), .val (.int (16 : Int32)), .val (.long q3), .second] [(.int ((16 : Int32) + (1 : Int32))), (.ref b1)]))
  rw [show ((16 : Int32) + (1 : Int32)) = (17 : Int32) from by decide]
  show OwnGo p e below _ (T60.setTop (mkF m 13 #[.val (.ref b1), .val (.int (16 : Int32)), .val (.long q3), .second] [(.int (17 : Int32)), (.ref b1)]))
  refine own_go (fun _ k => XS.lloadN X60.here hx rfl (hb hby d_method_3_13) rfl k) ?_
  show OwnGo p e below _ (T60.setTop (mkF m 14 #[.val (.ref b1), .val (.int (16 : Int32)), .val (.long q3), .second] [(.long q3), (.int (17 : Int32)), (.ref b1)]))
  refine own_go (fun _ k => XS.bipush X60.here hx rfl (hb hby d_method_3_14) k) ?_
  show OwnGo p e below _ (T60.setTop (mkF m 16 #[.val (.ref b1), .val (.int (16 : Int32)), .val (.long q3), .second] [(.int (48 : Int32)), (.long q3), (.int (17 : Int32)), (.ref b1)]))
  refine own_go (fun _ k => XS.lushr X60.here hx rfl (hb hby d_method_3_16) rfl k) ?_
  show OwnGo p e below _ (T60.setTop (mkF m 17 #[.val (.ref b1), .val (.int (16 : Int32)), .val (.long q3), .second] [(.long (((q3).toUInt64 >>> ((48 : Int32) &&& 0x3f).toInt64.toUInt64).toInt64)), (.int (17 : Int32)), (.ref b1)]))
  refine own_go (fun _ k => XS.l2i X60.here hx rfl (hb hby d_method_3_17) rfl k) ?_
  show OwnGo p e below _ (T60.setTop (mkF m 18 #[.val (.ref b1), .val (.int (16 : Int32)), .val (.long q3), .second] [(.int (((((q3).toUInt64 >>> ((48 : Int32) &&& 0x3f).toInt64.toUInt64).toInt64)).toInt32)), (.int (17 : Int32)), (.ref b1)]))
  refine own_go (fun _ k => XS.i2b X60.here hx rfl (hb hby d_method_3_18) rfl k) ?_
  show OwnGo p e below _ (T60.setTop (mkF m 19 #[.val (.ref b1), .val (.int (16 : Int32)), .val (.long q3), .second] [(.int (((((((q3).toUInt64 >>> ((48 : Int32) &&& 0x3f).toInt64.toUInt64).toInt64)).toInt32)).toInt8.toInt32)), (.int (17 : Int32)), (.ref b1)]))
  obtain ⟨c62, Ar62, q62, S62, M62, H62, G62⟩ := (id V60)
  obtain ⟨T62, h62, X62, e62, W62, st62⟩ := stB X60 hx hZ e60 Ar62 (j := (17 : Int32)) (inb_of S62 ⟨by decide, by decide⟩) (g := (mkF m 19 #[.val (.ref b1), .val (.int (16 : Int32)), .val (.long q3), .second] [(.int (((((((q3).toUInt64 >>> ((48 : Int32) &&& 0x3f).toInt64.toUInt64).toInt64)).toInt32)).toInt8.toInt32)), (.int (17 : Int32)), (.ref b1)])) rfl rfl (hb hby d_method_3_19)
  rw [own_narb] at W62
  have N62 := Fr.snoc X62 N60 geA
  have O62 := O60.wr W62 geA
  have z63 : h0.size ≤ h62.size := Nat.le_trans z61 (Nat.le_of_eq W62.size.symm)
  have V62 : Arv Z h62 b1 k1 .byte (32 : Int32) [(.int u0), (.int u1), (.int u2), (.int u3), (.int u4), (.int u5), (.int u6), (.int u7), (.int u8), (.int u9), (.int u10), (.int u11), (.int u12), (.int u13), (.int u14), (.int u15), (.int (((((((q3).toUInt64 >>> ((56 : Int32) &&& 0x3f).toInt64.toUInt64).toInt64)).toInt32)).toInt8.toInt32)), (.int (((((((q3).toUInt64 >>> ((48 : Int32) &&& 0x3f).toInt64.toUInt64).toInt64)).toInt32)).toInt8.toInt32)), (.int u18), (.int u19), (.int u20), (.int u21), (.int u22), (.int u23), (.int u24), (.int u25), (.int u26), (.int u27), (.int u28), (.int u29), (.int u30), (.int u31)] (.int (0 : Int32)) := Arv.set Ar62 q62 S62 M62 H62 G62 (fits_nar_byte _) W62 17 (by decide) (Nat.le_of_ble_eq_true rfl)
  refine own_go st62 ?_
  show OwnGo p e below _ (T62.setTop (mkF m 20 #[.val (.ref b1), .val (.int (16 : Int32)), .val (.long q3), .second] []))
  refine own_go (fun _ k => XS.aloadN X62.here hx rfl (hb hby d_method_3_20) rfl rfl k) ?_
  show OwnGo p e below _ (T62.setTop (mkF m 21 #[.val (.ref b1), .val (.int (16 : Int32)), .val (.long q3), .second] [(.ref b1)]))
  refine own_go (fun _ k => XS.iloadN X62.here hx rfl (hb hby d_method_3_21) rfl k) ?_
  show OwnGo p e below _ (T62.setTop (mkF m 22 #[.val (.ref b1), .val (.int (16 : Int32)), .val (.long q3), .second] [(.int (16 : Int32)), (.ref b1)]))
  refine own_go (fun _ k => XS.iconst X62.here hx rfl (hb hby d_method_3_22) k) ?_
  show OwnGo p e below _ (T62.setTop (mkF m 23 #[.val (.ref b1), .val (.int (16 : Int32)), .val (.long q3), .second] [(.int (2 : Int32)), (.int (16 : Int32)), (.ref b1)]))
  refine own_go (fun _ k => XS.iadd X62.here hx rfl (hb hby d_method_3_23) rfl k) ?_
  show OwnGo p e below _ (T62.setTop (mkF m 24 #[.val (.ref b1), .val (.int (16 : Int32)), .val (.long q3), .second] [(.int ((16 : Int32) + (2 : Int32))), (.ref b1)]))
  rw [show ((16 : Int32) + (2 : Int32)) = (18 : Int32) from by decide]
  show OwnGo p e below _ (T62.setTop (mkF m 24 #[.val (.ref b1), .val (.int (16 : Int32)), .val (.long q3), .second] [(.int (18 : Int32)), (.ref b1)]))
  refine own_go (fun _ k => XS.lloadN X62.here hx rfl (hb hby d_method_3_24) rfl k) ?_
  show OwnGo p e below _ (T62.setTop (mkF m 25 #[.val (.ref b1), .val (.int (16 : Int32)), .val (.long q3), .second] [(.long q3), (.int (18 : Int32)), (.ref b1)]))
  refine own_go (fun _ k => XS.bipush X62.here hx rfl (hb hby d_method_3_25) k) ?_
  show OwnGo p e below _ (T62.setTop (mkF m 27 #[.val (.ref b1), .val (.int (16 : Int32)), .val (.long q3), .second] [(.int (40 : Int32)), (.long q3), (.int (18 : Int32)), (.ref b1)]))
  refine own_go (fun _ k => XS.lushr X62.here hx rfl (hb hby d_method_3_27) rfl k) ?_
  show OwnGo p e below _ (T62.setTop (mkF m 28 #[.val (.ref b1), .val (.int (16 : Int32)), .val (.long q3), .second] [(.long (((q3).toUInt64 >>> ((40 : Int32) &&& 0x3f).toInt64.toUInt64).toInt64)), (.int (18 : Int32)), (.ref b1)]))
  refine own_go (fun _ k => XS.l2i X62.here hx rfl (hb hby d_method_3_28) rfl k) ?_
  show OwnGo p e below _ (T62.setTop (mkF m 29 #[.val (.ref b1), .val (.int (16 : Int32)), .val (.long q3), .second] [(.int (((((q3).toUInt64 >>> ((40 : Int32) &&& 0x3f).toInt64.toUInt64).toInt64)).toInt32)), (.int (18 : Int32)), (.ref b1)]))
  refine own_go (fun _ k => XS.i2b X62.here hx rfl (hb hby d_method_3_29) rfl k) ?_
  show OwnGo p e below _ (T62.setTop (mkF m 30 #[.val (.ref b1), .val (.int (16 : Int32)), .val (.long q3), .second] [(.int (((((((q3).toUInt64 >>> ((40 : Int32) &&& 0x3f).toInt64.toUInt64).toInt64)).toInt32)).toInt8.toInt32)), (.int (18 : Int32)), (.ref b1)]))
  obtain ⟨c64, Ar64, q64, S64, M64, H64, G64⟩ := (id V62)
  obtain ⟨T64, h64, X64, e64, W64, st64⟩ := stB X62 hx hZ e62 Ar64 (j := (18 : Int32)) (inb_of S64 ⟨by decide, by decide⟩) (g := (mkF m 30 #[.val (.ref b1), .val (.int (16 : Int32)), .val (.long q3), .second] [(.int (((((((q3).toUInt64 >>> ((40 : Int32) &&& 0x3f).toInt64.toUInt64).toInt64)).toInt32)).toInt8.toInt32)), (.int (18 : Int32)), (.ref b1)])) rfl rfl (hb hby d_method_3_30)
  rw [own_narb] at W64
  have N64 := Fr.snoc X64 N62 geA
  have O64 := O62.wr W64 geA
  have z65 : h0.size ≤ h64.size := Nat.le_trans z63 (Nat.le_of_eq W64.size.symm)
  have V64 : Arv Z h64 b1 k1 .byte (32 : Int32) [(.int u0), (.int u1), (.int u2), (.int u3), (.int u4), (.int u5), (.int u6), (.int u7), (.int u8), (.int u9), (.int u10), (.int u11), (.int u12), (.int u13), (.int u14), (.int u15), (.int (((((((q3).toUInt64 >>> ((56 : Int32) &&& 0x3f).toInt64.toUInt64).toInt64)).toInt32)).toInt8.toInt32)), (.int (((((((q3).toUInt64 >>> ((48 : Int32) &&& 0x3f).toInt64.toUInt64).toInt64)).toInt32)).toInt8.toInt32)), (.int (((((((q3).toUInt64 >>> ((40 : Int32) &&& 0x3f).toInt64.toUInt64).toInt64)).toInt32)).toInt8.toInt32)), (.int u19), (.int u20), (.int u21), (.int u22), (.int u23), (.int u24), (.int u25), (.int u26), (.int u27), (.int u28), (.int u29), (.int u30), (.int u31)] (.int (0 : Int32)) := Arv.set Ar64 q64 S64 M64 H64 G64 (fits_nar_byte _) W64 18 (by decide) (Nat.le_of_ble_eq_true rfl)
  refine own_go st64 ?_
  show OwnGo p e below _ (T64.setTop (mkF m 31 #[.val (.ref b1), .val (.int (16 : Int32)), .val (.long q3), .second] []))
  refine own_go (fun _ k => XS.aloadN X64.here hx rfl (hb hby d_method_3_31) rfl rfl k) ?_
  show OwnGo p e below _ (T64.setTop (mkF m 32 #[.val (.ref b1), .val (.int (16 : Int32)), .val (.long q3), .second] [(.ref b1)]))
  refine own_go (fun _ k => XS.iloadN X64.here hx rfl (hb hby d_method_3_32) rfl k) ?_
  show OwnGo p e below _ (T64.setTop (mkF m 33 #[.val (.ref b1), .val (.int (16 : Int32)), .val (.long q3), .second] [(.int (16 : Int32)), (.ref b1)]))
  refine own_go (fun _ k => XS.iconst X64.here hx rfl (hb hby d_method_3_33) k) ?_
  show OwnGo p e below _ (T64.setTop (mkF m 34 #[.val (.ref b1), .val (.int (16 : Int32)), .val (.long q3), .second] [(.int (3 : Int32)), (.int (16 : Int32)), (.ref b1)]))
  refine own_go (fun _ k => XS.iadd X64.here hx rfl (hb hby d_method_3_34) rfl k) ?_
  show OwnGo p e below _ (T64.setTop (mkF m 35 #[.val (.ref b1), .val (.int (16 : Int32)), .val (.long q3), .second] [(.int ((16 : Int32) + (3 : Int32))), (.ref b1)]))
  rw [show ((16 : Int32) + (3 : Int32)) = (19 : Int32) from by decide]
  show OwnGo p e below _ (T64.setTop (mkF m 35 #[.val (.ref b1), .val (.int (16 : Int32)), .val (.long q3), .second] [(.int (19 : Int32)), (.ref b1)]))
  refine own_go (fun _ k => XS.lloadN X64.here hx rfl (hb hby d_method_3_35) rfl k) ?_
  show OwnGo p e below _ (T64.setTop (mkF m 36 #[.val (.ref b1), .val (.int (16 : Int32)), .val (.long q3), .second] [(.long q3), (.int (19 : Int32)), (.ref b1)]))
  refine own_go (fun _ k => XS.bipush X64.here hx rfl (hb hby d_method_3_36) k) ?_
  show OwnGo p e below _ (T64.setTop (mkF m 38 #[.val (.ref b1), .val (.int (16 : Int32)), .val (.long q3), .second] [(.int (32 : Int32)), (.long q3), (.int (19 : Int32)), (.ref b1)]))
  refine own_go (fun _ k => XS.lushr X64.here hx rfl (hb hby d_method_3_38) rfl k) ?_
  show OwnGo p e below _ (T64.setTop (mkF m 39 #[.val (.ref b1), .val (.int (16 : Int32)), .val (.long q3), .second] [(.long (((q3).toUInt64 >>> ((32 : Int32) &&& 0x3f).toInt64.toUInt64).toInt64)), (.int (19 : Int32)), (.ref b1)]))
  refine own_go (fun _ k => XS.l2i X64.here hx rfl (hb hby d_method_3_39) rfl k) ?_
  show OwnGo p e below _ (T64.setTop (mkF m 40 #[.val (.ref b1), .val (.int (16 : Int32)), .val (.long q3), .second] [(.int (((((q3).toUInt64 >>> ((32 : Int32) &&& 0x3f).toInt64.toUInt64).toInt64)).toInt32)), (.int (19 : Int32)), (.ref b1)]))
  refine own_go (fun _ k => XS.i2b X64.here hx rfl (hb hby d_method_3_40) rfl k) ?_
  show OwnGo p e below _ (T64.setTop (mkF m 41 #[.val (.ref b1), .val (.int (16 : Int32)), .val (.long q3), .second] [(.int (((((((q3).toUInt64 >>> ((32 : Int32) &&& 0x3f).toInt64.toUInt64).toInt64)).toInt32)).toInt8.toInt32)), (.int (19 : Int32)), (.ref b1)]))
  obtain ⟨c66, Ar66, q66, S66, M66, H66, G66⟩ := (id V64)
  obtain ⟨T66, h66, X66, e66, W66, st66⟩ := stB X64 hx hZ e64 Ar66 (j := (19 : Int32)) (inb_of S66 ⟨by decide, by decide⟩) (g := (mkF m 41 #[.val (.ref b1), .val (.int (16 : Int32)), .val (.long q3), .second] [(.int (((((((q3).toUInt64 >>> ((32 : Int32) &&& 0x3f).toInt64.toUInt64).toInt64)).toInt32)).toInt8.toInt32)), (.int (19 : Int32)), (.ref b1)])) rfl rfl (hb hby d_method_3_41)
  rw [own_narb] at W66
  have N66 := Fr.snoc X66 N64 geA
  have O66 := O64.wr W66 geA
  have z67 : h0.size ≤ h66.size := Nat.le_trans z65 (Nat.le_of_eq W66.size.symm)
  have V66 : Arv Z h66 b1 k1 .byte (32 : Int32) [(.int u0), (.int u1), (.int u2), (.int u3), (.int u4), (.int u5), (.int u6), (.int u7), (.int u8), (.int u9), (.int u10), (.int u11), (.int u12), (.int u13), (.int u14), (.int u15), (.int (((((((q3).toUInt64 >>> ((56 : Int32) &&& 0x3f).toInt64.toUInt64).toInt64)).toInt32)).toInt8.toInt32)), (.int (((((((q3).toUInt64 >>> ((48 : Int32) &&& 0x3f).toInt64.toUInt64).toInt64)).toInt32)).toInt8.toInt32)), (.int (((((((q3).toUInt64 >>> ((40 : Int32) &&& 0x3f).toInt64.toUInt64).toInt64)).toInt32)).toInt8.toInt32)), (.int (((((((q3).toUInt64 >>> ((32 : Int32) &&& 0x3f).toInt64.toUInt64).toInt64)).toInt32)).toInt8.toInt32)), (.int u20), (.int u21), (.int u22), (.int u23), (.int u24), (.int u25), (.int u26), (.int u27), (.int u28), (.int u29), (.int u30), (.int u31)] (.int (0 : Int32)) := Arv.set Ar66 q66 S66 M66 H66 G66 (fits_nar_byte _) W66 19 (by decide) (Nat.le_of_ble_eq_true rfl)
  refine own_go st66 ?_
  show OwnGo p e below _ (T66.setTop (mkF m 42 #[.val (.ref b1), .val (.int (16 : Int32)), .val (.long q3), .second] []))
  refine own_go (fun _ k => XS.aloadN X66.here hx rfl (hb hby d_method_3_42) rfl rfl k) ?_
  show OwnGo p e below _ (T66.setTop (mkF m 43 #[.val (.ref b1), .val (.int (16 : Int32)), .val (.long q3), .second] [(.ref b1)]))
  refine own_go (fun _ k => XS.iloadN X66.here hx rfl (hb hby d_method_3_43) rfl k) ?_
  show OwnGo p e below _ (T66.setTop (mkF m 44 #[.val (.ref b1), .val (.int (16 : Int32)), .val (.long q3), .second] [(.int (16 : Int32)), (.ref b1)]))
  refine own_go (fun _ k => XS.iconst X66.here hx rfl (hb hby d_method_3_44) k) ?_
  show OwnGo p e below _ (T66.setTop (mkF m 45 #[.val (.ref b1), .val (.int (16 : Int32)), .val (.long q3), .second] [(.int (4 : Int32)), (.int (16 : Int32)), (.ref b1)]))
  refine own_go (fun _ k => XS.iadd X66.here hx rfl (hb hby d_method_3_45) rfl k) ?_
  show OwnGo p e below _ (T66.setTop (mkF m 46 #[.val (.ref b1), .val (.int (16 : Int32)), .val (.long q3), .second] [(.int ((16 : Int32) + (4 : Int32))), (.ref b1)]))
  rw [show ((16 : Int32) + (4 : Int32)) = (20 : Int32) from by decide]
  show OwnGo p e below _ (T66.setTop (mkF m 46 #[.val (.ref b1), .val (.int (16 : Int32)), .val (.long q3), .second] [(.int (20 : Int32)), (.ref b1)]))
  refine own_go (fun _ k => XS.lloadN X66.here hx rfl (hb hby d_method_3_46) rfl k) ?_
  show OwnGo p e below _ (T66.setTop (mkF m 47 #[.val (.ref b1), .val (.int (16 : Int32)), .val (.long q3), .second] [(.long q3), (.int (20 : Int32)), (.ref b1)]))
  refine own_go (fun _ k => XS.bipush X66.here hx rfl (hb hby d_method_3_47) k) ?_
  show OwnGo p e below _ (T66.setTop (mkF m 49 #[.val (.ref b1), .val (.int (16 : Int32)), .val (.long q3), .second] [(.int (24 : Int32)), (.long q3), (.int (20 : Int32)), (.ref b1)]))
  refine own_go (fun _ k => XS.lushr X66.here hx rfl (hb hby d_method_3_49) rfl k) ?_
  show OwnGo p e below _ (T66.setTop (mkF m 50 #[.val (.ref b1), .val (.int (16 : Int32)), .val (.long q3), .second] [(.long (((q3).toUInt64 >>> ((24 : Int32) &&& 0x3f).toInt64.toUInt64).toInt64)), (.int (20 : Int32)), (.ref b1)]))
  refine own_go (fun _ k => XS.l2i X66.here hx rfl (hb hby d_method_3_50) rfl k) ?_
  show OwnGo p e below _ (T66.setTop (mkF m 51 #[.val (.ref b1), .val (.int (16 : Int32)), .val (.long q3), .second] [(.int (((((q3).toUInt64 >>> ((24 : Int32) &&& 0x3f).toInt64.toUInt64).toInt64)).toInt32)), (.int (20 : Int32)), (.ref b1)]))
  refine own_go (fun _ k => XS.i2b X66.here hx rfl (hb hby d_method_3_51) rfl k) ?_
  show OwnGo p e below _ (T66.setTop (mkF m 52 #[.val (.ref b1), .val (.int (16 : Int32)), .val (.long q3), .second] [(.int (((((((q3).toUInt64 >>> ((24 : Int32) &&& 0x3f).toInt64.toUInt64).toInt64)).toInt32)).toInt8.toInt32)), (.int (20 : Int32)), (.ref b1)]))
  obtain ⟨c68, Ar68, q68, S68, M68, H68, G68⟩ := (id V66)
  obtain ⟨T68, h68, X68, e68, W68, st68⟩ := stB X66 hx hZ e66 Ar68 (j := (20 : Int32)) (inb_of S68 ⟨by decide, by decide⟩) (g := (mkF m 52 #[.val (.ref b1), .val (.int (16 : Int32)), .val (.long q3), .second] [(.int (((((((q3).toUInt64 >>> ((24 : Int32) &&& 0x3f).toInt64.toUInt64).toInt64)).toInt32)).toInt8.toInt32)), (.int (20 : Int32)), (.ref b1)])) rfl rfl (hb hby d_method_3_52)
  rw [own_narb] at W68
  have N68 := Fr.snoc X68 N66 geA
  have O68 := O66.wr W68 geA
  have z69 : h0.size ≤ h68.size := Nat.le_trans z67 (Nat.le_of_eq W68.size.symm)
  have V68 : Arv Z h68 b1 k1 .byte (32 : Int32) [(.int u0), (.int u1), (.int u2), (.int u3), (.int u4), (.int u5), (.int u6), (.int u7), (.int u8), (.int u9), (.int u10), (.int u11), (.int u12), (.int u13), (.int u14), (.int u15), (.int (((((((q3).toUInt64 >>> ((56 : Int32) &&& 0x3f).toInt64.toUInt64).toInt64)).toInt32)).toInt8.toInt32)), (.int (((((((q3).toUInt64 >>> ((48 : Int32) &&& 0x3f).toInt64.toUInt64).toInt64)).toInt32)).toInt8.toInt32)), (.int (((((((q3).toUInt64 >>> ((40 : Int32) &&& 0x3f).toInt64.toUInt64).toInt64)).toInt32)).toInt8.toInt32)), (.int (((((((q3).toUInt64 >>> ((32 : Int32) &&& 0x3f).toInt64.toUInt64).toInt64)).toInt32)).toInt8.toInt32)), (.int (((((((q3).toUInt64 >>> ((24 : Int32) &&& 0x3f).toInt64.toUInt64).toInt64)).toInt32)).toInt8.toInt32)), (.int u21), (.int u22), (.int u23), (.int u24), (.int u25), (.int u26), (.int u27), (.int u28), (.int u29), (.int u30), (.int u31)] (.int (0 : Int32)) := Arv.set Ar68 q68 S68 M68 H68 G68 (fits_nar_byte _) W68 20 (by decide) (Nat.le_of_ble_eq_true rfl)
  refine own_go st68 ?_
  show OwnGo p e below _ (T68.setTop (mkF m 53 #[.val (.ref b1), .val (.int (16 : Int32)), .val (.long q3), .second] []))
  refine own_go (fun _ k => XS.aloadN X68.here hx rfl (hb hby d_method_3_53) rfl rfl k) ?_
  show OwnGo p e below _ (T68.setTop (mkF m 54 #[.val (.ref b1), .val (.int (16 : Int32)), .val (.long q3), .second] [(.ref b1)]))
  refine own_go (fun _ k => XS.iloadN X68.here hx rfl (hb hby d_method_3_54) rfl k) ?_
  show OwnGo p e below _ (T68.setTop (mkF m 55 #[.val (.ref b1), .val (.int (16 : Int32)), .val (.long q3), .second] [(.int (16 : Int32)), (.ref b1)]))
  refine own_go (fun _ k => XS.iconst X68.here hx rfl (hb hby d_method_3_55) k) ?_
  show OwnGo p e below _ (T68.setTop (mkF m 56 #[.val (.ref b1), .val (.int (16 : Int32)), .val (.long q3), .second] [(.int (5 : Int32)), (.int (16 : Int32)), (.ref b1)]))
  refine own_go (fun _ k => XS.iadd X68.here hx rfl (hb hby d_method_3_56) rfl k) ?_
  show OwnGo p e below _ (T68.setTop (mkF m 57 #[.val (.ref b1), .val (.int (16 : Int32)), .val (.long q3), .second] [(.int ((16 : Int32) + (5 : Int32))), (.ref b1)]))
  rw [show ((16 : Int32) + (5 : Int32)) = (21 : Int32) from by decide]
  show OwnGo p e below _ (T68.setTop (mkF m 57 #[.val (.ref b1), .val (.int (16 : Int32)), .val (.long q3), .second] [(.int (21 : Int32)), (.ref b1)]))
  refine own_go (fun _ k => XS.lloadN X68.here hx rfl (hb hby d_method_3_57) rfl k) ?_
  show OwnGo p e below _ (T68.setTop (mkF m 58 #[.val (.ref b1), .val (.int (16 : Int32)), .val (.long q3), .second] [(.long q3), (.int (21 : Int32)), (.ref b1)]))
  refine own_go (fun _ k => XS.bipush X68.here hx rfl (hb hby d_method_3_58) k) ?_
  show OwnGo p e below _ (T68.setTop (mkF m 60 #[.val (.ref b1), .val (.int (16 : Int32)), .val (.long q3), .second] [(.int (16 : Int32)), (.long q3), (.int (21 : Int32)), (.ref b1)]))
  refine own_go (fun _ k => XS.lushr X68.here hx rfl (hb hby d_method_3_60) rfl k) ?_
  show OwnGo p e below _ (T68.setTop (mkF m 61 #[.val (.ref b1), .val (.int (16 : Int32)), .val (.long q3), .second] [(.long (((q3).toUInt64 >>> ((16 : Int32) &&& 0x3f).toInt64.toUInt64).toInt64)), (.int (21 : Int32)), (.ref b1)]))
  refine own_go (fun _ k => XS.l2i X68.here hx rfl (hb hby d_method_3_61) rfl k) ?_
  show OwnGo p e below _ (T68.setTop (mkF m 62 #[.val (.ref b1), .val (.int (16 : Int32)), .val (.long q3), .second] [(.int (((((q3).toUInt64 >>> ((16 : Int32) &&& 0x3f).toInt64.toUInt64).toInt64)).toInt32)), (.int (21 : Int32)), (.ref b1)]))
  refine own_go (fun _ k => XS.i2b X68.here hx rfl (hb hby d_method_3_62) rfl k) ?_
  show OwnGo p e below _ (T68.setTop (mkF m 63 #[.val (.ref b1), .val (.int (16 : Int32)), .val (.long q3), .second] [(.int (((((((q3).toUInt64 >>> ((16 : Int32) &&& 0x3f).toInt64.toUInt64).toInt64)).toInt32)).toInt8.toInt32)), (.int (21 : Int32)), (.ref b1)]))
  obtain ⟨c70, Ar70, q70, S70, M70, H70, G70⟩ := (id V68)
  obtain ⟨T70, h70, X70, e70, W70, st70⟩ := stB X68 hx hZ e68 Ar70 (j := (21 : Int32)) (inb_of S70 ⟨by decide, by decide⟩) (g := (mkF m 63 #[.val (.ref b1), .val (.int (16 : Int32)), .val (.long q3), .second] [(.int (((((((q3).toUInt64 >>> ((16 : Int32) &&& 0x3f).toInt64.toUInt64).toInt64)).toInt32)).toInt8.toInt32)), (.int (21 : Int32)), (.ref b1)])) rfl rfl (hb hby d_method_3_63)
  rw [own_narb] at W70
  have N70 := Fr.snoc X70 N68 geA
  have O70 := O68.wr W70 geA
  have z71 : h0.size ≤ h70.size := Nat.le_trans z69 (Nat.le_of_eq W70.size.symm)
  have V70 : Arv Z h70 b1 k1 .byte (32 : Int32) [(.int u0), (.int u1), (.int u2), (.int u3), (.int u4), (.int u5), (.int u6), (.int u7), (.int u8), (.int u9), (.int u10), (.int u11), (.int u12), (.int u13), (.int u14), (.int u15), (.int (((((((q3).toUInt64 >>> ((56 : Int32) &&& 0x3f).toInt64.toUInt64).toInt64)).toInt32)).toInt8.toInt32)), (.int (((((((q3).toUInt64 >>> ((48 : Int32) &&& 0x3f).toInt64.toUInt64).toInt64)).toInt32)).toInt8.toInt32)), (.int (((((((q3).toUInt64 >>> ((40 : Int32) &&& 0x3f).toInt64.toUInt64).toInt64)).toInt32)).toInt8.toInt32)), (.int (((((((q3).toUInt64 >>> ((32 : Int32) &&& 0x3f).toInt64.toUInt64).toInt64)).toInt32)).toInt8.toInt32)), (.int (((((((q3).toUInt64 >>> ((24 : Int32) &&& 0x3f).toInt64.toUInt64).toInt64)).toInt32)).toInt8.toInt32)), (.int (((((((q3).toUInt64 >>> ((16 : Int32) &&& 0x3f).toInt64.toUInt64).toInt64)).toInt32)).toInt8.toInt32)), (.int u22), (.int u23), (.int u24), (.int u25), (.int u26), (.int u27), (.int u28), (.int u29), (.int u30), (.int u31)] (.int (0 : Int32)) := Arv.set Ar70 q70 S70 M70 H70 G70 (fits_nar_byte _) W70 21 (by decide) (Nat.le_of_ble_eq_true rfl)
  refine own_go st70 ?_
  show OwnGo p e below _ (T70.setTop (mkF m 64 #[.val (.ref b1), .val (.int (16 : Int32)), .val (.long q3), .second] []))
  refine own_go (fun _ k => XS.aloadN X70.here hx rfl (hb hby d_method_3_64) rfl rfl k) ?_
  show OwnGo p e below _ (T70.setTop (mkF m 65 #[.val (.ref b1), .val (.int (16 : Int32)), .val (.long q3), .second] [(.ref b1)]))
  refine own_go (fun _ k => XS.iloadN X70.here hx rfl (hb hby d_method_3_65) rfl k) ?_
  show OwnGo p e below _ (T70.setTop (mkF m 66 #[.val (.ref b1), .val (.int (16 : Int32)), .val (.long q3), .second] [(.int (16 : Int32)), (.ref b1)]))
  refine own_go (fun _ k => XS.bipush X70.here hx rfl (hb hby d_method_3_66) k) ?_
  show OwnGo p e below _ (T70.setTop (mkF m 68 #[.val (.ref b1), .val (.int (16 : Int32)), .val (.long q3), .second] [(.int (6 : Int32)), (.int (16 : Int32)), (.ref b1)]))
  refine own_go (fun _ k => XS.iadd X70.here hx rfl (hb hby d_method_3_68) rfl k) ?_
  show OwnGo p e below _ (T70.setTop (mkF m 69 #[.val (.ref b1), .val (.int (16 : Int32)), .val (.long q3), .second] [(.int ((16 : Int32) + (6 : Int32))), (.ref b1)]))
  rw [show ((16 : Int32) + (6 : Int32)) = (22 : Int32) from by decide]
  show OwnGo p e below _ (T70.setTop (mkF m 69 #[.val (.ref b1), .val (.int (16 : Int32)), .val (.long q3), .second] [(.int (22 : Int32)), (.ref b1)]))
  refine own_go (fun _ k => XS.lloadN X70.here hx rfl (hb hby d_method_3_69) rfl k) ?_
  show OwnGo p e below _ (T70.setTop (mkF m 70 #[.val (.ref b1), .val (.int (16 : Int32)), .val (.long q3), .second] [(.long q3), (.int (22 : Int32)), (.ref b1)]))
  refine own_go (fun _ k => XS.bipush X70.here hx rfl (hb hby d_method_3_70) k) ?_
  show OwnGo p e below _ (T70.setTop (mkF m 72 #[.val (.ref b1), .val (.int (16 : Int32)), .val (.long q3), .second] [(.int (8 : Int32)), (.long q3), (.int (22 : Int32)), (.ref b1)]))
  refine own_go (fun _ k => XS.lushr X70.here hx rfl (hb hby d_method_3_72) rfl k) ?_
  show OwnGo p e below _ (T70.setTop (mkF m 73 #[.val (.ref b1), .val (.int (16 : Int32)), .val (.long q3), .second] [(.long (((q3).toUInt64 >>> ((8 : Int32) &&& 0x3f).toInt64.toUInt64).toInt64)), (.int (22 : Int32)), (.ref b1)]))
  refine own_go (fun _ k => XS.l2i X70.here hx rfl (hb hby d_method_3_73) rfl k) ?_
  show OwnGo p e below _ (T70.setTop (mkF m 74 #[.val (.ref b1), .val (.int (16 : Int32)), .val (.long q3), .second] [(.int (((((q3).toUInt64 >>> ((8 : Int32) &&& 0x3f).toInt64.toUInt64).toInt64)).toInt32)), (.int (22 : Int32)), (.ref b1)]))
  refine own_go (fun _ k => XS.i2b X70.here hx rfl (hb hby d_method_3_74) rfl k) ?_
  show OwnGo p e below _ (T70.setTop (mkF m 75 #[.val (.ref b1), .val (.int (16 : Int32)), .val (.long q3), .second] [(.int (((((((q3).toUInt64 >>> ((8 : Int32) &&& 0x3f).toInt64.toUInt64).toInt64)).toInt32)).toInt8.toInt32)), (.int (22 : Int32)), (.ref b1)]))
  obtain ⟨c72, Ar72, q72, S72, M72, H72, G72⟩ := (id V70)
  obtain ⟨T72, h72, X72, e72, W72, st72⟩ := stB X70 hx hZ e70 Ar72 (j := (22 : Int32)) (inb_of S72 ⟨by decide, by decide⟩) (g := (mkF m 75 #[.val (.ref b1), .val (.int (16 : Int32)), .val (.long q3), .second] [(.int (((((((q3).toUInt64 >>> ((8 : Int32) &&& 0x3f).toInt64.toUInt64).toInt64)).toInt32)).toInt8.toInt32)), (.int (22 : Int32)), (.ref b1)])) rfl rfl (hb hby d_method_3_75)
  rw [own_narb] at W72
  have N72 := Fr.snoc X72 N70 geA
  have O72 := O70.wr W72 geA
  have z73 : h0.size ≤ h72.size := Nat.le_trans z71 (Nat.le_of_eq W72.size.symm)
  have V72 : Arv Z h72 b1 k1 .byte (32 : Int32) [(.int u0), (.int u1), (.int u2), (.int u3), (.int u4), (.int u5), (.int u6), (.int u7), (.int u8), (.int u9), (.int u10), (.int u11), (.int u12), (.int u13), (.int u14), (.int u15), (.int (((((((q3).toUInt64 >>> ((56 : Int32) &&& 0x3f).toInt64.toUInt64).toInt64)).toInt32)).toInt8.toInt32)), (.int (((((((q3).toUInt64 >>> ((48 : Int32) &&& 0x3f).toInt64.toUInt64).toInt64)).toInt32)).toInt8.toInt32)), (.int (((((((q3).toUInt64 >>> ((40 : Int32) &&& 0x3f).toInt64.toUInt64).toInt64)).toInt32)).toInt8.toInt32)), (.int (((((((q3).toUInt64 >>> ((32 : Int32) &&& 0x3f).toInt64.toUInt64).toInt64)).toInt32)).toInt8.toInt32)), (.int (((((((q3).toUInt64 >>> ((24 : Int32) &&& 0x3f).toInt64.toUInt64).toInt64)).toInt32)).toInt8.toInt32)), (.int (((((((q3).toUInt64 >>> ((16 : Int32) &&& 0x3f).toInt64.toUInt64).toInt64)).toInt32)).toInt8.toInt32)), (.int (((((((q3).toUInt64 >>> ((8 : Int32) &&& 0x3f).toInt64.toUInt64).toInt64)).toInt32)).toInt8.toInt32)), (.int u23), (.int u24), (.int u25), (.int u26), (.int u27), (.int u28), (.int u29), (.int u30), (.int u31)] (.int (0 : Int32)) := Arv.set Ar72 q72 S72 M72 H72 G72 (fits_nar_byte _) W72 22 (by decide) (Nat.le_of_ble_eq_true rfl)
  refine own_go st72 ?_
  show OwnGo p e below _ (T72.setTop (mkF m 76 #[.val (.ref b1), .val (.int (16 : Int32)), .val (.long q3), .second] []))
  refine own_go (fun _ k => XS.aloadN X72.here hx rfl (hb hby d_method_3_76) rfl rfl k) ?_
  show OwnGo p e below _ (T72.setTop (mkF m 77 #[.val (.ref b1), .val (.int (16 : Int32)), .val (.long q3), .second] [(.ref b1)]))
  refine own_go (fun _ k => XS.iloadN X72.here hx rfl (hb hby d_method_3_77) rfl k) ?_
  show OwnGo p e below _ (T72.setTop (mkF m 78 #[.val (.ref b1), .val (.int (16 : Int32)), .val (.long q3), .second] [(.int (16 : Int32)), (.ref b1)]))
  refine own_go (fun _ k => XS.bipush X72.here hx rfl (hb hby d_method_3_78) k) ?_
  show OwnGo p e below _ (T72.setTop (mkF m 80 #[.val (.ref b1), .val (.int (16 : Int32)), .val (.long q3), .second] [(.int (7 : Int32)), (.int (16 : Int32)), (.ref b1)]))
  refine own_go (fun _ k => XS.iadd X72.here hx rfl (hb hby d_method_3_80) rfl k) ?_
  show OwnGo p e below _ (T72.setTop (mkF m 81 #[.val (.ref b1), .val (.int (16 : Int32)), .val (.long q3), .second] [(.int ((16 : Int32) + (7 : Int32))), (.ref b1)]))
  rw [show ((16 : Int32) + (7 : Int32)) = (23 : Int32) from by decide]
  show OwnGo p e below _ (T72.setTop (mkF m 81 #[.val (.ref b1), .val (.int (16 : Int32)), .val (.long q3), .second] [(.int (23 : Int32)), (.ref b1)]))
  refine own_go (fun _ k => XS.lloadN X72.here hx rfl (hb hby d_method_3_81) rfl k) ?_
  show OwnGo p e below _ (T72.setTop (mkF m 82 #[.val (.ref b1), .val (.int (16 : Int32)), .val (.long q3), .second] [(.long q3), (.int (23 : Int32)), (.ref b1)]))
  refine own_go (fun _ k => XS.l2i X72.here hx rfl (hb hby d_method_3_82) rfl k) ?_
  show OwnGo p e below _ (T72.setTop (mkF m 83 #[.val (.ref b1), .val (.int (16 : Int32)), .val (.long q3), .second] [(.int ((q3).toInt32)), (.int (23 : Int32)), (.ref b1)]))
  refine own_go (fun _ k => XS.i2b X72.here hx rfl (hb hby d_method_3_83) rfl k) ?_
  show OwnGo p e below _ (T72.setTop (mkF m 84 #[.val (.ref b1), .val (.int (16 : Int32)), .val (.long q3), .second] [(.int ((((q3).toInt32)).toInt8.toInt32)), (.int (23 : Int32)), (.ref b1)]))
  obtain ⟨c74, Ar74, q74, S74, M74, H74, G74⟩ := (id V72)
  obtain ⟨T74, h74, X74, e74, W74, st74⟩ := stB X72 hx hZ e72 Ar74 (j := (23 : Int32)) (inb_of S74 ⟨by decide, by decide⟩) (g := (mkF m 84 #[.val (.ref b1), .val (.int (16 : Int32)), .val (.long q3), .second] [(.int ((((q3).toInt32)).toInt8.toInt32)), (.int (23 : Int32)), (.ref b1)])) rfl rfl (hb hby d_method_3_84)
  rw [own_narb] at W74
  have N74 := Fr.snoc X74 N72 geA
  have O74 := O72.wr W74 geA
  have z75 : h0.size ≤ h74.size := Nat.le_trans z73 (Nat.le_of_eq W74.size.symm)
  have V74 : Arv Z h74 b1 k1 .byte (32 : Int32) [(.int u0), (.int u1), (.int u2), (.int u3), (.int u4), (.int u5), (.int u6), (.int u7), (.int u8), (.int u9), (.int u10), (.int u11), (.int u12), (.int u13), (.int u14), (.int u15), (.int (((((((q3).toUInt64 >>> ((56 : Int32) &&& 0x3f).toInt64.toUInt64).toInt64)).toInt32)).toInt8.toInt32)), (.int (((((((q3).toUInt64 >>> ((48 : Int32) &&& 0x3f).toInt64.toUInt64).toInt64)).toInt32)).toInt8.toInt32)), (.int (((((((q3).toUInt64 >>> ((40 : Int32) &&& 0x3f).toInt64.toUInt64).toInt64)).toInt32)).toInt8.toInt32)), (.int (((((((q3).toUInt64 >>> ((32 : Int32) &&& 0x3f).toInt64.toUInt64).toInt64)).toInt32)).toInt8.toInt32)), (.int (((((((q3).toUInt64 >>> ((24 : Int32) &&& 0x3f).toInt64.toUInt64).toInt64)).toInt32)).toInt8.toInt32)), (.int (((((((q3).toUInt64 >>> ((16 : Int32) &&& 0x3f).toInt64.toUInt64).toInt64)).toInt32)).toInt8.toInt32)), (.int (((((((q3).toUInt64 >>> ((8 : Int32) &&& 0x3f).toInt64.toUInt64).toInt64)).toInt32)).toInt8.toInt32)), (.int ((((q3).toInt32)).toInt8.toInt32)), (.int u24), (.int u25), (.int u26), (.int u27), (.int u28), (.int u29), (.int u30), (.int u31)] (.int (0 : Int32)) := Arv.set Ar74 q74 S74 M74 H74 G74 (fits_nar_byte _) W74 23 (by decide) (Nat.le_of_ble_eq_true rfl)
  refine own_go st74 ?_
  show OwnGo p e below _ (T74.setTop (mkF m 85 #[.val (.ref b1), .val (.int (16 : Int32)), .val (.long q3), .second] []))
  obtain ⟨fs, hr, hrun, hended, hW, hsame⟩ := X74.leave (v := none) (fun h => rfl)
  refine ⟨_, _, X74.returnOut hx Bd.returns (hb hby d_method_3_85) hr, hrun, hended, _, _, rfl, ?_, ⟨_, rfl⟩, hW, hsame.mono (by decide) (by decide)⟩
  show Q_put16 Z aFFDHE2048 aCONFIRMATION aFFDHE4096 aFFDHE3072 b1 q3 k1 u0 u1 u2 u3 u4 u5 u6 u7 u8 u9 u10 u11 u12 u13 u14 u15 u16 u17 u18 u19 u20 u21 u22 u23 u24 u25 u26 u27 u28 u29 u30 u31 h0 n0 _ T74.heap _
  rw [e74]
  exact ⟨rfl, N74, (((((((((Keep.refl _ [b1]).wr W60 (Or.inl (List.mem_of_getElem? (i := 0) rfl))).wr W62 (Or.inl (List.mem_of_getElem? (i := 0) rfl))).wr W64 (Or.inl (List.mem_of_getElem? (i := 0) rfl))).wr W66 (Or.inl (List.mem_of_getElem? (i := 0) rfl))).wr W68 (Or.inl (List.mem_of_getElem? (i := 0) rfl))).wr W70 (Or.inl (List.mem_of_getElem? (i := 0) rfl))).wr W72 (Or.inl (List.mem_of_getElem? (i := 0) rfl))).wr W74 (Or.inl (List.mem_of_getElem? (i := 0) rfl))), V74⟩
def Q_put24 (Z : State) (aFFDHE2048 aCONFIRMATION aFFDHE4096 aFFDHE3072 : Addr) (b1 : Addr) (q3 : Int64) (k1 : ClassId) (u0 : Int32) (u1 : Int32) (u2 : Int32) (u3 : Int32) (u4 : Int32) (u5 : Int32) (u6 : Int32) (u7 : Int32) (u8 : Int32) (u9 : Int32) (u10 : Int32) (u11 : Int32) (u12 : Int32) (u13 : Int32) (u14 : Int32) (u15 : Int32) (u16 : Int32) (u17 : Int32) (u18 : Int32) (u19 : Int32) (u20 : Int32) (u21 : Int32) (u22 : Int32) (u23 : Int32) (u24 : Int32) (u25 : Int32) (u26 : Int32) (u27 : Int32) (u28 : Int32) (u29 : Int32) (u30 : Int32) (u31 : Int32) (h0 : Heap) (n0 : Nat) (v : Option Value) (h : Heap) (L : List Loc) : Prop := v = none ∧ Fr n0 L ∧ Keep h0 h [b1] ∧ Arv Z h b1 k1 .byte (32 : Int32) [(.int u0), (.int u1), (.int u2), (.int u3), (.int u4), (.int u5), (.int u6), (.int u7), (.int u8), (.int u9), (.int u10), (.int u11), (.int u12), (.int u13), (.int u14), (.int u15), (.int u16), (.int u17), (.int u18), (.int u19), (.int u20), (.int u21), (.int u22), (.int u23), (.int (((((((q3).toUInt64 >>> ((56 : Int32) &&& 0x3f).toInt64.toUInt64).toInt64)).toInt32)).toInt8.toInt32)), (.int (((((((q3).toUInt64 >>> ((48 : Int32) &&& 0x3f).toInt64.toUInt64).toInt64)).toInt32)).toInt8.toInt32)), (.int (((((((q3).toUInt64 >>> ((40 : Int32) &&& 0x3f).toInt64.toUInt64).toInt64)).toInt32)).toInt8.toInt32)), (.int (((((((q3).toUInt64 >>> ((32 : Int32) &&& 0x3f).toInt64.toUInt64).toInt64)).toInt32)).toInt8.toInt32)), (.int (((((((q3).toUInt64 >>> ((24 : Int32) &&& 0x3f).toInt64.toUInt64).toInt64)).toInt32)).toInt8.toInt32)), (.int (((((((q3).toUInt64 >>> ((16 : Int32) &&& 0x3f).toInt64.toUInt64).toInt64)).toInt32)).toInt8.toInt32)), (.int (((((((q3).toUInt64 >>> ((8 : Int32) &&& 0x3f).toInt64.toUInt64).toInt64)).toInt32)).toInt8.toInt32)), (.int ((((q3).toInt32)).toInt8.toInt32))] (.int (0 : Int32))
theorem ef_put24 (m : MethodId) (x0 : Addr) (x1 : Int32) (x2 : Int64) : entryFrame m #[(.ref x0), (.int x1), (.long x2)] 4 = mkF m 0 #[.val (.ref x0), .val (.int x1), .val (.long x2), .second] [] := by first | (simp [entryFrame, mkF, argsToLocals, Value.category]; done) | rfl
set_option maxRecDepth 65536 in
set_option maxHeartbeats 40000000 in
theorem rm_put24 (l : Launch) (Z : State) (a0 : Array Value) (hw : ∀ d ∈ tables_1, d.before a0 Z = true) (ws : List Jvm.Cond) (aFFDHE2048 aCONFIRMATION aFFDHE4096 aFFDHE3072 : Addr) (F0 : OwnFacts Z aFFDHE2048 aCONFIRMATION aFFDHE4096 aFFDHE3072) (b1 : Addr) (q3 : Int64) (k1 : ClassId) (u0 : Int32) (u1 : Int32) (u2 : Int32) (u3 : Int32) (u4 : Int32) (u5 : Int32) (u6 : Int32) (u7 : Int32) (u8 : Int32) (u9 : Int32) (u10 : Int32) (u11 : Int32) (u12 : Int32) (u13 : Int32) (u14 : Int32) (u15 : Int32) (u16 : Int32) (u17 : Int32) (u18 : Int32) (u19 : Int32) (u20 : Int32) (u21 : Int32) (u22 : Int32) (u23 : Int32) (u24 : Int32) (u25 : Int32) (u26 : Int32) (u27 : Int32) (u28 : Int32) (u29 : Int32) (u30 : Int32) (u31 : Int32) (h0 : Heap) (n0 : Nat) (O0 : Old Z n0 h0) (VA : Arv Z h0 b1 k1 .byte (32 : Int32) [(.int u0), (.int u1), (.int u2), (.int u3), (.int u4), (.int u5), (.int u6), (.int u7), (.int u8), (.int u9), (.int u10), (.int u11), (.int u12), (.int u13), (.int u14), (.int u15), (.int u16), (.int u17), (.int u18), (.int u19), (.int u20), (.int u21), (.int u22), (.int u23), (.int u24), (.int u25), (.int u26), (.int u27), (.int u28), (.int u29), (.int u30), (.int u31)] (.int (0 : Int32))) (geA : n0 ≤ b1) :
    MetFree l (⟨"com/example/portcullis/portcullis/ConfirmationEncodePinLaw", "put", "([BIJ)V"⟩ : MethodName) (head1 (Jvm.Cond.code (⟨"com/example/portcullis/portcullis/ConfirmationEncodePinLaw", "put", "([BIJ)V"⟩ : MethodName) method_3_code 4 none :: ws) ({ frames := 0, cells := 0, slots := 0, locals := 0 } : Room)) (fun a U => a = #[(.ref b1), (.int (24 : Int32)), (.long q3)] ∧ Z.Warmed39 U.vm ∧ U.heap = h0) (fun _ _ _ _ _ => True) (fun _ U o U' => ∃ v L, o = .returned v ∧ Q_put24 Z aFFDHE2048 aCONFIRMATION aFFDHE4096 aFFDHE3072 b1 q3 k1 u0 u1 u2 u3 u4 u5 u6 u7 u8 u9 u10 u11 u12 u13 u14 u15 u16 u17 u18 u19 u20 u21 u22 u23 u24 u25 u26 u27 u28 u29 u30 u31 h0 n0 v U'.heap L ∧ FrameEnd U o U' L ({ frames := 0, cells := 0, slots := 0, locals := 0 } : Room).cells ({ frames := 0, cells := 0, slots := 0, locals := 0 } : Room).slots) := by
  refine MetFree.of_bodySF (plainFor_of_name pn_com_example_portcullis_portcullis_ConfirmationEncodePinLaw) hisR ?_
  intro p e s m args below meth c s₁ Bd hml0 hP hK
  obtain ⟨rfl, hZ, hh⟩ := hP
  have hx := Bd.exec
  have hby := Bd.bytes
  have hml : c.maxLocals = 4 := hml0
  have hown : s.vm.findClass "com/example/portcullis/portcullis/ConfirmationEncodePinLaw" = some m.cls := findClass_of_methodNamed Bd.named
  have hnm := (name_of_methodNamed Bd.named Bd.method).1
  have X0 : Stand p l e ({ frames := 0, cells := 0, slots := 0, locals := 0 } : Room) s m #[(.ref b1), (.int (24 : Int32)), (.long q3)] below meth c s₁ [] 0 0 := Stand.of_body Bd
  have e0 : s₁.heap = h0 := by rw [← hh, Bd.state]; rfl
  have N0 := Fr.nil n0
  refine own_go (Q := fun o U' => ∃ v L, o = .returned v ∧ Q_put24 Z aFFDHE2048 aCONFIRMATION aFFDHE4096 aFFDHE3072 b1 q3 k1 u0 u1 u2 u3 u4 u5 u6 u7 u8 u9 u10 u11 u12 u13 u14 u15 u16 u17 u18 u19 u20 u21 u22 u23 u24 u25 u26 u27 u28 u29 u30 u31 h0 n0 v U'.heap L ∧ FrameEnd s o U' L ({ frames := 0, cells := 0, slots := 0, locals := 0 } : Room).cells ({ frames := 0, cells := 0, slots := 0, locals := 0 } : Room).slots) (fun t k => castTop (ef_put24 m b1 (24 : Int32) q3) k) ?_
  show OwnGo p e below _ (s₁.setTop (mkF m 0 #[.val (.ref b1), .val (.int (24 : Int32)), .val (.long q3), .second] []))
  refine own_go (fun _ k => XS.aloadN X0.here hx rfl (hb hby d_method_3_0) rfl rfl k) ?_
  show OwnGo p e below _ (s₁.setTop (mkF m 1 #[.val (.ref b1), .val (.int (24 : Int32)), .val (.long q3), .second] [(.ref b1)]))
  refine own_go (fun _ k => XS.iloadN X0.here hx rfl (hb hby d_method_3_1) rfl k) ?_
  show OwnGo p e below _ (s₁.setTop (mkF m 2 #[.val (.ref b1), .val (.int (24 : Int32)), .val (.long q3), .second] [(.int (24 : Int32)), (.ref b1)]))
  refine own_go (fun _ k => XS.lloadN X0.here hx rfl (hb hby d_method_3_2) rfl k) ?_
  show OwnGo p e below _ (s₁.setTop (mkF m 3 #[.val (.ref b1), .val (.int (24 : Int32)), .val (.long q3), .second] [(.long q3), (.int (24 : Int32)), (.ref b1)]))
  refine own_go (fun _ k => XS.bipush X0.here hx rfl (hb hby d_method_3_3) k) ?_
  show OwnGo p e below _ (s₁.setTop (mkF m 5 #[.val (.ref b1), .val (.int (24 : Int32)), .val (.long q3), .second] [(.int (56 : Int32)), (.long q3), (.int (24 : Int32)), (.ref b1)]))
  refine own_go (fun _ k => XS.lushr X0.here hx rfl (hb hby d_method_3_5) rfl k) ?_
  show OwnGo p e below _ (s₁.setTop (mkF m 6 #[.val (.ref b1), .val (.int (24 : Int32)), .val (.long q3), .second] [(.long (((q3).toUInt64 >>> ((56 : Int32) &&& 0x3f).toInt64.toUInt64).toInt64)), (.int (24 : Int32)), (.ref b1)]))
  refine own_go (fun _ k => XS.l2i X0.here hx rfl (hb hby d_method_3_6) rfl k) ?_
  show OwnGo p e below _ (s₁.setTop (mkF m 7 #[.val (.ref b1), .val (.int (24 : Int32)), .val (.long q3), .second] [(.int (((((q3).toUInt64 >>> ((56 : Int32) &&& 0x3f).toInt64.toUInt64).toInt64)).toInt32)), (.int (24 : Int32)), (.ref b1)]))
  refine own_go (fun _ k => XS.i2b X0.here hx rfl (hb hby d_method_3_7) rfl k) ?_
  show OwnGo p e below _ (s₁.setTop (mkF m 8 #[.val (.ref b1), .val (.int (24 : Int32)), .val (.long q3), .second] [(.int (((((((q3).toUInt64 >>> ((56 : Int32) &&& 0x3f).toInt64.toUInt64).toInt64)).toInt32)).toInt8.toInt32)), (.int (24 : Int32)), (.ref b1)]))
  obtain ⟨c76, Ar76, q76, S76, M76, H76, G76⟩ := (id VA)
  obtain ⟨T76, h76, X76, e76, W76, st76⟩ := stB X0 hx hZ e0 Ar76 (j := (24 : Int32)) (inb_of S76 ⟨by decide, by decide⟩) (g := (mkF m 8 #[.val (.ref b1), .val (.int (24 : Int32)), .val (.long q3), .second] [(.int (((((((q3).toUInt64 >>> ((56 : Int32) &&& 0x3f).toInt64.toUInt64).toInt64)).toInt32)).toInt8.toInt32)), (.int (24 : Int32)), (.ref b1)])) rfl rfl (hb hby d_method_3_8)
  rw [own_narb] at W76
  have N76 := Fr.snoc X76 N0 geA
  have O76 := O0.wr W76 geA
  have z77 : h0.size ≤ h76.size := Nat.le_trans (Nat.le_refl _) (Nat.le_of_eq W76.size.symm)
  have V76 : Arv Z h76 b1 k1 .byte (32 : Int32) [(.int u0), (.int u1), (.int u2), (.int u3), (.int u4), (.int u5), (.int u6), (.int u7), (.int u8), (.int u9), (.int u10), (.int u11), (.int u12), (.int u13), (.int u14), (.int u15), (.int u16), (.int u17), (.int u18), (.int u19), (.int u20), (.int u21), (.int u22), (.int u23), (.int (((((((q3).toUInt64 >>> ((56 : Int32) &&& 0x3f).toInt64.toUInt64).toInt64)).toInt32)).toInt8.toInt32)), (.int u25), (.int u26), (.int u27), (.int u28), (.int u29), (.int u30), (.int u31)] (.int (0 : Int32)) := Arv.set Ar76 q76 S76 M76 H76 G76 (fits_nar_byte _) W76 24 (by decide) (Nat.le_of_ble_eq_true rfl)
  refine own_go st76 ?_
  show OwnGo p e below _ (T76.setTop (mkF m 9 #[.val (.ref b1), .val (.int (24 : Int32)), .val (.long q3), .second] []))
  refine own_go (fun _ k => XS.aloadN X76.here hx rfl (hb hby d_method_3_9) rfl rfl k) ?_
  show OwnGo p e below _ (T76.setTop (mkF m 10 #[.val (.ref b1), .val (.int (24 : Int32)), .val (.long q3), .second] [(.ref b1)]))
  refine own_go (fun _ k => XS.iloadN X76.here hx rfl (hb hby d_method_3_10) rfl k) ?_
  show OwnGo p e below _ (T76.setTop (mkF m 11 #[.val (.ref b1), .val (.int (24 : Int32)), .val (.long q3), .second] [(.int (24 : Int32)), (.ref b1)]))
  refine own_go (fun _ k => XS.iconst X76.here hx rfl (hb hby d_method_3_11) k) ?_
  show OwnGo p e below _ (T76.setTop (mkF m 12 #[.val (.ref b1), .val (.int (24 : Int32)), .val (.long q3), .second] [(.int (1 : Int32)), (.int (24 : Int32)), (.ref b1)]))
  refine own_go (fun _ k => XS.iadd X76.here hx rfl (hb hby d_method_3_12) rfl k) ?_
  show OwnGo p e below _ (T76.setTop (mkF m 13 #[.val (.ref b1), .val (.int (24 : Int32)), .val (.long q3), .second] [(.int ((24 : Int32) + (1 : Int32))), (.ref b1)]))
  rw [show ((24 : Int32) + (1 : Int32)) = (25 : Int32) from by decide]
  show OwnGo p e below _ (T76.setTop (mkF m 13 #[.val (.ref b1), .val (.int (24 : Int32)), .val (.long q3), .second] [(.int (25 : Int32)), (.ref b1)]))
  refine own_go (fun _ k => XS.lloadN X76.here hx rfl (hb hby d_method_3_13) rfl k) ?_
  show OwnGo p e below _ (T76.setTop (mkF m 14 #[.val (.ref b1), .val (.int (24 : Int32)), .val (.long q3), .second] [(.long q3), (.int (25 : Int32)), (.ref b1)]))
  refine own_go (fun _ k => XS.bipush X76.here hx rfl (hb hby d_method_3_14) k) ?_
  show OwnGo p e below _ (T76.setTop (mkF m 16 #[.val (.ref b1), .val (.int (24 : Int32)), .val (.long q3), .second] [(.int (48 : Int32)), (.long q3), (.int (25 : Int32)), (.ref b1)]))
  refine own_go (fun _ k => XS.lushr X76.here hx rfl (hb hby d_method_3_16) rfl k) ?_
  show OwnGo p e below _ (T76.setTop (mkF m 17 #[.val (.ref b1), .val (.int (24 : Int32)), .val (.long q3), .second] [(.long (((q3).toUInt64 >>> ((48 : Int32) &&& 0x3f).toInt64.toUInt64).toInt64)), (.int (25 : Int32)), (.ref b1)]))
  refine own_go (fun _ k => XS.l2i X76.here hx rfl (hb hby d_method_3_17) rfl k) ?_
  show OwnGo p e below _ (T76.setTop (mkF m 18 #[.val (.ref b1), .val (.int (24 : Int32)), .val (.long q3), .second] [(.int (((((q3).toUInt64 >>> ((48 : Int32) &&& 0x3f).toInt64.toUInt64).toInt64)).toInt32)), (.int (25 : Int32)), (.ref b1)]))
  refine own_go (fun _ k => XS.i2b X76.here hx rfl (hb hby d_method_3_18) rfl k) ?_
  show OwnGo p e below _ (T76.setTop (mkF m 19 #[.val (.ref b1), .val (.int (24 : Int32)), .val (.long q3), .second] [(.int (((((((q3).toUInt64 >>> ((48 : Int32) &&& 0x3f).toInt64.toUInt64).toInt64)).toInt32)).toInt8.toInt32)), (.int (25 : Int32)), (.ref b1)]))
  obtain ⟨c78, Ar78, q78, S78, M78, H78, G78⟩ := (id V76)
  obtain ⟨T78, h78, X78, e78, W78, st78⟩ := stB X76 hx hZ e76 Ar78 (j := (25 : Int32)) (inb_of S78 ⟨by decide, by decide⟩) (g := (mkF m 19 #[.val (.ref b1), .val (.int (24 : Int32)), .val (.long q3), .second] [(.int (((((((q3).toUInt64 >>> ((48 : Int32) &&& 0x3f).toInt64.toUInt64).toInt64)).toInt32)).toInt8.toInt32)), (.int (25 : Int32)), (.ref b1)])) rfl rfl (hb hby d_method_3_19)
  rw [own_narb] at W78
  have N78 := Fr.snoc X78 N76 geA
  have O78 := O76.wr W78 geA
  have z79 : h0.size ≤ h78.size := Nat.le_trans z77 (Nat.le_of_eq W78.size.symm)
  have V78 : Arv Z h78 b1 k1 .byte (32 : Int32) [(.int u0), (.int u1), (.int u2), (.int u3), (.int u4), (.int u5), (.int u6), (.int u7), (.int u8), (.int u9), (.int u10), (.int u11), (.int u12), (.int u13), (.int u14), (.int u15), (.int u16), (.int u17), (.int u18), (.int u19), (.int u20), (.int u21), (.int u22), (.int u23), (.int (((((((q3).toUInt64 >>> ((56 : Int32) &&& 0x3f).toInt64.toUInt64).toInt64)).toInt32)).toInt8.toInt32)), (.int (((((((q3).toUInt64 >>> ((48 : Int32) &&& 0x3f).toInt64.toUInt64).toInt64)).toInt32)).toInt8.toInt32)), (.int u26), (.int u27), (.int u28), (.int u29), (.int u30), (.int u31)] (.int (0 : Int32)) := Arv.set Ar78 q78 S78 M78 H78 G78 (fits_nar_byte _) W78 25 (by decide) (Nat.le_of_ble_eq_true rfl)
  refine own_go st78 ?_
  show OwnGo p e below _ (T78.setTop (mkF m 20 #[.val (.ref b1), .val (.int (24 : Int32)), .val (.long q3), .second] []))
  refine own_go (fun _ k => XS.aloadN X78.here hx rfl (hb hby d_method_3_20) rfl rfl k) ?_
  show OwnGo p e below _ (T78.setTop (mkF m 21 #[.val (.ref b1), .val (.int (24 : Int32)), .val (.long q3), .second] [(.ref b1)]))
  refine own_go (fun _ k => XS.iloadN X78.here hx rfl (hb hby d_method_3_21) rfl k) ?_
  show OwnGo p e below _ (T78.setTop (mkF m 22 #[.val (.ref b1), .val (.int (24 : Int32)), .val (.long q3), .second] [(.int (24 : Int32)), (.ref b1)]))
  refine own_go (fun _ k => XS.iconst X78.here hx rfl (hb hby d_method_3_22) k) ?_
  show OwnGo p e below _ (T78.setTop (mkF m 23 #[.val (.ref b1), .val (.int (24 : Int32)), .val (.long q3), .second] [(.int (2 : Int32)), (.int (24 : Int32)), (.ref b1)]))
  refine own_go (fun _ k => XS.iadd X78.here hx rfl (hb hby d_method_3_23) rfl k) ?_
  show OwnGo p e below _ (T78.setTop (mkF m 24 #[.val (.ref b1), .val (.int (24 : Int32)), .val (.long q3), .second] [(.int ((24 : Int32) + (2 : Int32))), (.ref b1)]))
  rw [show ((24 : Int32) + (2 : Int32)) = (26 : Int32) from by decide]
  show OwnGo p e below _ (T78.setTop (mkF m 24 #[.val (.ref b1), .val (.int (24 : Int32)), .val (.long q3), .second] [(.int (26 : Int32)), (.ref b1)]))
  refine own_go (fun _ k => XS.lloadN X78.here hx rfl (hb hby d_method_3_24) rfl k) ?_
  show OwnGo p e below _ (T78.setTop (mkF m 25 #[.val (.ref b1), .val (.int (24 : Int32)), .val (.long q3), .second] [(.long q3), (.int (26 : Int32)), (.ref b1)]))
  refine own_go (fun _ k => XS.bipush X78.here hx rfl (hb hby d_method_3_25) k) ?_
  show OwnGo p e below _ (T78.setTop (mkF m 27 #[.val (.ref b1), .val (.int (24 : Int32)), .val (.long q3), .second] [(.int (40 : Int32)), (.long q3), (.int (26 : Int32)), (.ref b1)]))
  refine own_go (fun _ k => XS.lushr X78.here hx rfl (hb hby d_method_3_27) rfl k) ?_
  show OwnGo p e below _ (T78.setTop (mkF m 28 #[.val (.ref b1), .val (.int (24 : Int32)), .val (.long q3), .second] [(.long (((q3).toUInt64 >>> ((40 : Int32) &&& 0x3f).toInt64.toUInt64).toInt64)), (.int (26 : Int32)), (.ref b1)]))
  refine own_go (fun _ k => XS.l2i X78.here hx rfl (hb hby d_method_3_28) rfl k) ?_
  show OwnGo p e below _ (T78.setTop (mkF m 29 #[.val (.ref b1), .val (.int (24 : Int32)), .val (.long q3), .second] [(.int (((((q3).toUInt64 >>> ((40 : Int32) &&& 0x3f).toInt64.toUInt64).toInt64)).toInt32)), (.int (26 : Int32)), (.ref b1)]))
  refine own_go (fun _ k => XS.i2b X78.here hx rfl (hb hby d_method_3_29) rfl k) ?_
  show OwnGo p e below _ (T78.setTop (mkF m 30 #[.val (.ref b1), .val (.int (24 : Int32)), .val (.long q3), .second] [(.int (((((((q3).toUInt64 >>> ((40 : Int32) &&& 0x3f).toInt64.toUInt64).toInt64)).toInt32)).toInt8.toInt32)), (.int (26 : Int32)), (.ref b1)]))
  obtain ⟨c80, Ar80, q80, S80, M80, H80, G80⟩ := (id V78)
  obtain ⟨T80, h80, X80, e80, W80, st80⟩ := stB X78 hx hZ e78 Ar80 (j := (26 : Int32)) (inb_of S80 ⟨by decide, by decide⟩) (g := (mkF m 30 #[.val (.ref b1), .val (.int (24 : Int32)), .val (.long q3), .second] [(.int (((((((q3).toUInt64 >>> ((40 : Int32) &&& 0x3f).toInt64.toUInt64).toInt64)).toInt32)).toInt8.toInt32)), (.int (26 : Int32)), (.ref b1)])) rfl rfl (hb hby d_method_3_30)
  rw [own_narb] at W80
  have N80 := Fr.snoc X80 N78 geA
  have O80 := O78.wr W80 geA
  have z81 : h0.size ≤ h80.size := Nat.le_trans z79 (Nat.le_of_eq W80.size.symm)
  have V80 : Arv Z h80 b1 k1 .byte (32 : Int32) [(.int u0), (.int u1), (.int u2), (.int u3), (.int u4), (.int u5), (.int u6), (.int u7), (.int u8), (.int u9), (.int u10), (.int u11), (.int u12), (.int u13), (.int u14), (.int u15), (.int u16), (.int u17), (.int u18), (.int u19), (.int u20), (.int u21), (.int u22), (.int u23), (.int (((((((q3).toUInt64 >>> ((56 : Int32) &&& 0x3f).toInt64.toUInt64).toInt64)).toInt32)).toInt8.toInt32)), (.int (((((((q3).toUInt64 >>> ((48 : Int32) &&& 0x3f).toInt64.toUInt64).toInt64)).toInt32)).toInt8.toInt32)), (.int (((((((q3).toUInt64 >>> ((40 : Int32) &&& 0x3f).toInt64.toUInt64).toInt64)).toInt32)).toInt8.toInt32)), (.int u27), (.int u28), (.int u29), (.int u30), (.int u31)] (.int (0 : Int32)) := Arv.set Ar80 q80 S80 M80 H80 G80 (fits_nar_byte _) W80 26 (by decide) (Nat.le_of_ble_eq_true rfl)
  refine own_go st80 ?_
  show OwnGo p e below _ (T80.setTop (mkF m 31 #[.val (.ref b1), .val (.int (24 : Int32)), .val (.long q3), .second] []))
  refine own_go (fun _ k => XS.aloadN X80.here hx rfl (hb hby d_method_3_31) rfl rfl k) ?_
  show OwnGo p e below _ (T80.setTop (mkF m 32 #[.val (.ref b1), .val (.int (24 : Int32)), .val (.long q3), .second] [(.ref b1)]))
  refine own_go (fun _ k => XS.iloadN X80.here hx rfl (hb hby d_method_3_32) rfl k) ?_
  show OwnGo p e below _ (T80.setTop (mkF m 33 #[.val (.ref b1), .val (.int (24 : Int32)), .val (.long q3), .second] [(.int (24 : Int32)), (.ref b1)]))
  refine own_go (fun _ k => XS.iconst X80.here hx rfl (hb hby d_method_3_33) k) ?_
  show OwnGo p e below _ (T80.setTop (mkF m 34 #[.val (.ref b1), .val (.int (24 : Int32)), .val (.long q3), .second] [(.int (3 : Int32)), (.int (24 : Int32)), (.ref b1)]))
  refine own_go (fun _ k => XS.iadd X80.here hx rfl (hb hby d_method_3_34) rfl k) ?_
  show OwnGo p e below _ (T80.setTop (mkF m 35 #[.val (.ref b1), .val (.int (24 : Int32)), .val (.long q3), .second] [(.int ((24 : Int32) + (3 : Int32))), (.ref b1)]))
  rw [show ((24 : Int32) + (3 : Int32)) = (27 : Int32) from by decide]
  show OwnGo p e below _ (T80.setTop (mkF m 35 #[.val (.ref b1), .val (.int (24 : Int32)), .val (.long q3), .second] [(.int (27 : Int32)), (.ref b1)]))
  refine own_go (fun _ k => XS.lloadN X80.here hx rfl (hb hby d_method_3_35) rfl k) ?_
  show OwnGo p e below _ (T80.setTop (mkF m 36 #[.val (.ref b1), .val (.int (24 : Int32)), .val (.long q3), .second] [(.long q3), (.int (27 : Int32)), (.ref b1)]))
  refine own_go (fun _ k => XS.bipush X80.here hx rfl (hb hby d_method_3_36) k) ?_
  show OwnGo p e below _ (T80.setTop (mkF m 38 #[.val (.ref b1), .val (.int (24 : Int32)), .val (.long q3), .second] [(.int (32 : Int32)), (.long q3), (.int (27 : Int32)), (.ref b1)]))
  refine own_go (fun _ k => XS.lushr X80.here hx rfl (hb hby d_method_3_38) rfl k) ?_
  show OwnGo p e below _ (T80.setTop (mkF m 39 #[.val (.ref b1), .val (.int (24 : Int32)), .val (.long q3), .second] [(.long (((q3).toUInt64 >>> ((32 : Int32) &&& 0x3f).toInt64.toUInt64).toInt64)), (.int (27 : Int32)), (.ref b1)]))
  refine own_go (fun _ k => XS.l2i X80.here hx rfl (hb hby d_method_3_39) rfl k) ?_
  show OwnGo p e below _ (T80.setTop (mkF m 40 #[.val (.ref b1), .val (.int (24 : Int32)), .val (.long q3), .second] [(.int (((((q3).toUInt64 >>> ((32 : Int32) &&& 0x3f).toInt64.toUInt64).toInt64)).toInt32)), (.int (27 : Int32)), (.ref b1)]))
  refine own_go (fun _ k => XS.i2b X80.here hx rfl (hb hby d_method_3_40) rfl k) ?_
  show OwnGo p e below _ (T80.setTop (mkF m 41 #[.val (.ref b1), .val (.int (24 : Int32)), .val (.long q3), .second] [(.int (((((((q3).toUInt64 >>> ((32 : Int32) &&& 0x3f).toInt64.toUInt64).toInt64)).toInt32)).toInt8.toInt32)), (.int (27 : Int32)), (.ref b1)]))
  obtain ⟨c82, Ar82, q82, S82, M82, H82, G82⟩ := (id V80)
  obtain ⟨T82, h82, X82, e82, W82, st82⟩ := stB X80 hx hZ e80 Ar82 (j := (27 : Int32)) (inb_of S82 ⟨by decide, by decide⟩) (g := (mkF m 41 #[.val (.ref b1), .val (.int (24 : Int32)), .val (.long q3), .second] [(.int (((((((q3).toUInt64 >>> ((32 : Int32) &&& 0x3f).toInt64.toUInt64).toInt64)).toInt32)).toInt8.toInt32)), (.int (27 : Int32)), (.ref b1)])) rfl rfl (hb hby d_method_3_41)
  rw [own_narb] at W82
  have N82 := Fr.snoc X82 N80 geA
  have O82 := O80.wr W82 geA
  have z83 : h0.size ≤ h82.size := Nat.le_trans z81 (Nat.le_of_eq W82.size.symm)
  have V82 : Arv Z h82 b1 k1 .byte (32 : Int32) [(.int u0), (.int u1), (.int u2), (.int u3), (.int u4), (.int u5), (.int u6), (.int u7), (.int u8), (.int u9), (.int u10), (.int u11), (.int u12), (.int u13), (.int u14), (.int u15), (.int u16), (.int u17), (.int u18), (.int u19), (.int u20), (.int u21), (.int u22), (.int u23), (.int (((((((q3).toUInt64 >>> ((56 : Int32) &&& 0x3f).toInt64.toUInt64).toInt64)).toInt32)).toInt8.toInt32)), (.int (((((((q3).toUInt64 >>> ((48 : Int32) &&& 0x3f).toInt64.toUInt64).toInt64)).toInt32)).toInt8.toInt32)), (.int (((((((q3).toUInt64 >>> ((40 : Int32) &&& 0x3f).toInt64.toUInt64).toInt64)).toInt32)).toInt8.toInt32)), (.int (((((((q3).toUInt64 >>> ((32 : Int32) &&& 0x3f).toInt64.toUInt64).toInt64)).toInt32)).toInt8.toInt32)), (.int u28), (.int u29), (.int u30), (.int u31)] (.int (0 : Int32)) := Arv.set Ar82 q82 S82 M82 H82 G82 (fits_nar_byte _) W82 27 (by decide) (Nat.le_of_ble_eq_true rfl)
  refine own_go st82 ?_
  show OwnGo p e below _ (T82.setTop (mkF m 42 #[.val (.ref b1), .val (.int (24 : Int32)), .val (.long q3), .second] []))
  refine own_go (fun _ k => XS.aloadN X82.here hx rfl (hb hby d_method_3_42) rfl rfl k) ?_
  show OwnGo p e below _ (T82.setTop (mkF m 43 #[.val (.ref b1), .val (.int (24 : Int32)), .val (.long q3), .second] [(.ref b1)]))
  refine own_go (fun _ k => XS.iloadN X82.here hx rfl (hb hby d_method_3_43) rfl k) ?_
  show OwnGo p e below _ (T82.setTop (mkF m 44 #[.val (.ref b1), .val (.int (24 : Int32)), .val (.long q3), .second] [(.int (24 : Int32)), (.ref b1)]))
  refine own_go (fun _ k => XS.iconst X82.here hx rfl (hb hby d_method_3_44) k) ?_
  show OwnGo p e below _ (T82.setTop (mkF m 45 #[.val (.ref b1), .val (.int (24 : Int32)), .val (.long q3), .second] [(.int (4 : Int32)), (.int (24 : Int32)), (.ref b1)]))
  refine own_go (fun _ k => XS.iadd X82.here hx rfl (hb hby d_method_3_45) rfl k) ?_
  show OwnGo p e below _ (T82.setTop (mkF m 46 #[.val (.ref b1), .val (.int (24 : Int32)), .val (.long q3), .second] [(.int ((24 : Int32) + (4 : Int32))), (.ref b1)]))
  rw [show ((24 : Int32) + (4 : Int32)) = (28 : Int32) from by decide]
  show OwnGo p e below _ (T82.setTop (mkF m 46 #[.val (.ref b1), .val (.int (24 : Int32)), .val (.long q3), .second] [(.int (28 : Int32)), (.ref b1)]))
  refine own_go (fun _ k => XS.lloadN X82.here hx rfl (hb hby d_method_3_46) rfl k) ?_
  show OwnGo p e below _ (T82.setTop (mkF m 47 #[.val (.ref b1), .val (.int (24 : Int32)), .val (.long q3), .second] [(.long q3), (.int (28 : Int32)), (.ref b1)]))
  refine own_go (fun _ k => XS.bipush X82.here hx rfl (hb hby d_method_3_47) k) ?_
  show OwnGo p e below _ (T82.setTop (mkF m 49 #[.val (.ref b1), .val (.int (24 : Int32)), .val (.long q3), .second] [(.int (24 : Int32)), (.long q3), (.int (28 : Int32)), (.ref b1)]))
  refine own_go (fun _ k => XS.lushr X82.here hx rfl (hb hby d_method_3_49) rfl k) ?_
  show OwnGo p e below _ (T82.setTop (mkF m 50 #[.val (.ref b1), .val (.int (24 : Int32)), .val (.long q3), .second] [(.long (((q3).toUInt64 >>> ((24 : Int32) &&& 0x3f).toInt64.toUInt64).toInt64)), (.int (28 : Int32)), (.ref b1)]))
  refine own_go (fun _ k => XS.l2i X82.here hx rfl (hb hby d_method_3_50) rfl k) ?_
  show OwnGo p e below _ (T82.setTop (mkF m 51 #[.val (.ref b1), .val (.int (24 : Int32)), .val (.long q3), .second] [(.int (((((q3).toUInt64 >>> ((24 : Int32) &&& 0x3f).toInt64.toUInt64).toInt64)).toInt32)), (.int (28 : Int32)), (.ref b1)]))
  refine own_go (fun _ k => XS.i2b X82.here hx rfl (hb hby d_method_3_51) rfl k) ?_
  show OwnGo p e below _ (T82.setTop (mkF m 52 #[.val (.ref b1), .val (.int (24 : Int32)), .val (.long q3), .second] [(.int (((((((q3).toUInt64 >>> ((24 : Int32) &&& 0x3f).toInt64.toUInt64).toInt64)).toInt32)).toInt8.toInt32)), (.int (28 : Int32)), (.ref b1)]))
  obtain ⟨c84, Ar84, q84, S84, M84, H84, G84⟩ := (id V82)
  obtain ⟨T84, h84, X84, e84, W84, st84⟩ := stB X82 hx hZ e82 Ar84 (j := (28 : Int32)) (inb_of S84 ⟨by decide, by decide⟩) (g := (mkF m 52 #[.val (.ref b1), .val (.int (24 : Int32)), .val (.long q3), .second] [(.int (((((((q3).toUInt64 >>> ((24 : Int32) &&& 0x3f).toInt64.toUInt64).toInt64)).toInt32)).toInt8.toInt32)), (.int (28 : Int32)), (.ref b1)])) rfl rfl (hb hby d_method_3_52)
  rw [own_narb] at W84
  have N84 := Fr.snoc X84 N82 geA
  have O84 := O82.wr W84 geA
  have z85 : h0.size ≤ h84.size := Nat.le_trans z83 (Nat.le_of_eq W84.size.symm)
  have V84 : Arv Z h84 b1 k1 .byte (32 : Int32) [(.int u0), (.int u1), (.int u2), (.int u3), (.int u4), (.int u5), (.int u6), (.int u7), (.int u8), (.int u9), (.int u10), (.int u11), (.int u12), (.int u13), (.int u14), (.int u15), (.int u16), (.int u17), (.int u18), (.int u19), (.int u20), (.int u21), (.int u22), (.int u23), (.int (((((((q3).toUInt64 >>> ((56 : Int32) &&& 0x3f).toInt64.toUInt64).toInt64)).toInt32)).toInt8.toInt32)), (.int (((((((q3).toUInt64 >>> ((48 : Int32) &&& 0x3f).toInt64.toUInt64).toInt64)).toInt32)).toInt8.toInt32)), (.int (((((((q3).toUInt64 >>> ((40 : Int32) &&& 0x3f).toInt64.toUInt64).toInt64)).toInt32)).toInt8.toInt32)), (.int (((((((q3).toUInt64 >>> ((32 : Int32) &&& 0x3f).toInt64.toUInt64).toInt64)).toInt32)).toInt8.toInt32)), (.int (((((((q3).toUInt64 >>> ((24 : Int32) &&& 0x3f).toInt64.toUInt64).toInt64)).toInt32)).toInt8.toInt32)), (.int u29), (.int u30), (.int u31)] (.int (0 : Int32)) := Arv.set Ar84 q84 S84 M84 H84 G84 (fits_nar_byte _) W84 28 (by decide) (Nat.le_of_ble_eq_true rfl)
  refine own_go st84 ?_
  show OwnGo p e below _ (T84.setTop (mkF m 53 #[.val (.ref b1), .val (.int (24 : Int32)), .val (.long q3), .second] []))
  refine own_go (fun _ k => XS.aloadN X84.here hx rfl (hb hby d_method_3_53) rfl rfl k) ?_
  show OwnGo p e below _ (T84.setTop (mkF m 54 #[.val (.ref b1), .val (.int (24 : Int32)), .val (.long q3), .second] [(.ref b1)]))
  refine own_go (fun _ k => XS.iloadN X84.here hx rfl (hb hby d_method_3_54) rfl k) ?_
  show OwnGo p e below _ (T84.setTop (mkF m 55 #[.val (.ref b1), .val (.int (24 : Int32)), .val (.long q3), .second] [(.int (24 : Int32)), (.ref b1)]))
  refine own_go (fun _ k => XS.iconst X84.here hx rfl (hb hby d_method_3_55) k) ?_
  show OwnGo p e below _ (T84.setTop (mkF m 56 #[.val (.ref b1), .val (.int (24 : Int32)), .val (.long q3), .second] [(.int (5 : Int32)), (.int (24 : Int32)), (.ref b1)]))
  refine own_go (fun _ k => XS.iadd X84.here hx rfl (hb hby d_method_3_56) rfl k) ?_
  show OwnGo p e below _ (T84.setTop (mkF m 57 #[.val (.ref b1), .val (.int (24 : Int32)), .val (.long q3), .second] [(.int ((24 : Int32) + (5 : Int32))), (.ref b1)]))
  rw [show ((24 : Int32) + (5 : Int32)) = (29 : Int32) from by decide]
  show OwnGo p e below _ (T84.setTop (mkF m 57 #[.val (.ref b1), .val (.int (24 : Int32)), .val (.long q3), .second] [(.int (29 : Int32)), (.ref b1)]))
  refine own_go (fun _ k => XS.lloadN X84.here hx rfl (hb hby d_method_3_57) rfl k) ?_
  show OwnGo p e below _ (T84.setTop (mkF m 58 #[.val (.ref b1), .val (.int (24 : Int32)), .val (.long q3), .second] [(.long q3), (.int (29 : Int32)), (.ref b1)]))
  refine own_go (fun _ k => XS.bipush X84.here hx rfl (hb hby d_method_3_58) k) ?_
  show OwnGo p e below _ (T84.setTop (mkF m 60 #[.val (.ref b1), .val (.int (24 : Int32)), .val (.long q3), .second] [(.int (16 : Int32)), (.long q3), (.int (29 : Int32)), (.ref b1)]))
  refine own_go (fun _ k => XS.lushr X84.here hx rfl (hb hby d_method_3_60) rfl k) ?_
  show OwnGo p e below _ (T84.setTop (mkF m 61 #[.val (.ref b1), .val (.int (24 : Int32)), .val (.long q3), .second] [(.long (((q3).toUInt64 >>> ((16 : Int32) &&& 0x3f).toInt64.toUInt64).toInt64)), (.int (29 : Int32)), (.ref b1)]))
  refine own_go (fun _ k => XS.l2i X84.here hx rfl (hb hby d_method_3_61) rfl k) ?_
  show OwnGo p e below _ (T84.setTop (mkF m 62 #[.val (.ref b1), .val (.int (24 : Int32)), .val (.long q3), .second] [(.int (((((q3).toUInt64 >>> ((16 : Int32) &&& 0x3f).toInt64.toUInt64).toInt64)).toInt32)), (.int (29 : Int32)), (.ref b1)]))
  refine own_go (fun _ k => XS.i2b X84.here hx rfl (hb hby d_method_3_62) rfl k) ?_
  show OwnGo p e below _ (T84.setTop (mkF m 63 #[.val (.ref b1), .val (.int (24 : Int32)), .val (.long q3), .second] [(.int (((((((q3).toUInt64 >>> ((16 : Int32) &&& 0x3f).toInt64.toUInt64).toInt64)).toInt32)).toInt8.toInt32)), (.int (29 : Int32)), (.ref b1)]))
  obtain ⟨c86, Ar86, q86, S86, M86, H86, G86⟩ := (id V84)
  obtain ⟨T86, h86, X86, e86, W86, st86⟩ := stB X84 hx hZ e84 Ar86 (j := (29 : Int32)) (inb_of S86 ⟨by decide, by decide⟩) (g := (mkF m 63 #[.val (.ref b1), .val (.int (24 : Int32)), .val (.long q3), .second] [(.int (((((((q3).toUInt64 >>> ((16 : Int32) &&& 0x3f).toInt64.toUInt64).toInt64)).toInt32)).toInt8.toInt32)), (.int (29 : Int32)), (.ref b1)])) rfl rfl (hb hby d_method_3_63)
  rw [own_narb] at W86
  have N86 := Fr.snoc X86 N84 geA
  have O86 := O84.wr W86 geA
  have z87 : h0.size ≤ h86.size := Nat.le_trans z85 (Nat.le_of_eq W86.size.symm)
  have V86 : Arv Z h86 b1 k1 .byte (32 : Int32) [(.int u0), (.int u1), (.int u2), (.int u3), (.int u4), (.int u5), (.int u6), (.int u7), (.int u8), (.int u9), (.int u10), (.int u11), (.int u12), (.int u13), (.int u14), (.int u15), (.int u16), (.int u17), (.int u18), (.int u19), (.int u20), (.int u21), (.int u22), (.int u23), (.int (((((((q3).toUInt64 >>> ((56 : Int32) &&& 0x3f).toInt64.toUInt64).toInt64)).toInt32)).toInt8.toInt32)), (.int (((((((q3).toUInt64 >>> ((48 : Int32) &&& 0x3f).toInt64.toUInt64).toInt64)).toInt32)).toInt8.toInt32)), (.int (((((((q3).toUInt64 >>> ((40 : Int32) &&& 0x3f).toInt64.toUInt64).toInt64)).toInt32)).toInt8.toInt32)), (.int (((((((q3).toUInt64 >>> ((32 : Int32) &&& 0x3f).toInt64.toUInt64).toInt64)).toInt32)).toInt8.toInt32)), (.int (((((((q3).toUInt64 >>> ((24 : Int32) &&& 0x3f).toInt64.toUInt64).toInt64)).toInt32)).toInt8.toInt32)), (.int (((((((q3).toUInt64 >>> ((16 : Int32) &&& 0x3f).toInt64.toUInt64).toInt64)).toInt32)).toInt8.toInt32)), (.int u30), (.int u31)] (.int (0 : Int32)) := Arv.set Ar86 q86 S86 M86 H86 G86 (fits_nar_byte _) W86 29 (by decide) (Nat.le_of_ble_eq_true rfl)
  refine own_go st86 ?_
  show OwnGo p e below _ (T86.setTop (mkF m 64 #[.val (.ref b1), .val (.int (24 : Int32)), .val (.long q3), .second] []))
  refine own_go (fun _ k => XS.aloadN X86.here hx rfl (hb hby d_method_3_64) rfl rfl k) ?_
  show OwnGo p e below _ (T86.setTop (mkF m 65 #[.val (.ref b1), .val (.int (24 : Int32)), .val (.long q3), .second] [(.ref b1)]))
  refine own_go (fun _ k => XS.iloadN X86.here hx rfl (hb hby d_method_3_65) rfl k) ?_
  show OwnGo p e below _ (T86.setTop (mkF m 66 #[.val (.ref b1), .val (.int (24 : Int32)), .val (.long q3), .second] [(.int (24 : Int32)), (.ref b1)]))
  refine own_go (fun _ k => XS.bipush X86.here hx rfl (hb hby d_method_3_66) k) ?_
  show OwnGo p e below _ (T86.setTop (mkF m 68 #[.val (.ref b1), .val (.int (24 : Int32)), .val (.long q3), .second] [(.int (6 : Int32)), (.int (24 : Int32)), (.ref b1)]))
  refine own_go (fun _ k => XS.iadd X86.here hx rfl (hb hby d_method_3_68) rfl k) ?_
  show OwnGo p e below _ (T86.setTop (mkF m 69 #[.val (.ref b1), .val (.int (24 : Int32)), .val (.long q3), .second] [(.int ((24 : Int32) + (6 : Int32))), (.ref b1)]))
  rw [show ((24 : Int32) + (6 : Int32)) = (30 : Int32) from by decide]
  show OwnGo p e below _ (T86.setTop (mkF m 69 #[.val (.ref b1), .val (.int (24 : Int32)), .val (.long q3), .second] [(.int (30 : Int32)), (.ref b1)]))
  refine own_go (fun _ k => XS.lloadN X86.here hx rfl (hb hby d_method_3_69) rfl k) ?_
  show OwnGo p e below _ (T86.setTop (mkF m 70 #[.val (.ref b1), .val (.int (24 : Int32)), .val (.long q3), .second] [(.long q3), (.int (30 : Int32)), (.ref b1)]))
  refine own_go (fun _ k => XS.bipush X86.here hx rfl (hb hby d_method_3_70) k) ?_
  show OwnGo p e below _ (T86.setTop (mkF m 72 #[.val (.ref b1), .val (.int (24 : Int32)), .val (.long q3), .second] [(.int (8 : Int32)), (.long q3), (.int (30 : Int32)), (.ref b1)]))
  refine own_go (fun _ k => XS.lushr X86.here hx rfl (hb hby d_method_3_72) rfl k) ?_
  show OwnGo p e below _ (T86.setTop (mkF m 73 #[.val (.ref b1), .val (.int (24 : Int32)), .val (.long q3), .second] [(.long (((q3).toUInt64 >>> ((8 : Int32) &&& 0x3f).toInt64.toUInt64).toInt64)), (.int (30 : Int32)), (.ref b1)]))
  refine own_go (fun _ k => XS.l2i X86.here hx rfl (hb hby d_method_3_73) rfl k) ?_
  show OwnGo p e below _ (T86.setTop (mkF m 74 #[.val (.ref b1), .val (.int (24 : Int32)), .val (.long q3), .second] [(.int (((((q3).toUInt64 >>> ((8 : Int32) &&& 0x3f).toInt64.toUInt64).toInt64)).toInt32)), (.int (30 : Int32)), (.ref b1)]))
  refine own_go (fun _ k => XS.i2b X86.here hx rfl (hb hby d_method_3_74) rfl k) ?_
  show OwnGo p e below _ (T86.setTop (mkF m 75 #[.val (.ref b1), .val (.int (24 : Int32)), .val (.long q3), .second] [(.int (((((((q3).toUInt64 >>> ((8 : Int32) &&& 0x3f).toInt64.toUInt64).toInt64)).toInt32)).toInt8.toInt32)), (.int (30 : Int32)), (.ref b1)]))
  obtain ⟨c88, Ar88, q88, S88, M88, H88, G88⟩ := (id V86)
  obtain ⟨T88, h88, X88, e88, W88, st88⟩ := stB X86 hx hZ e86 Ar88 (j := (30 : Int32)) (inb_of S88 ⟨by decide, by decide⟩) (g := (mkF m 75 #[.val (.ref b1), .val (.int (24 : Int32)), .val (.long q3), .second] [(.int (((((((q3).toUInt64 >>> ((8 : Int32) &&& 0x3f).toInt64.toUInt64).toInt64)).toInt32)).toInt8.toInt32)), (.int (30 : Int32)), (.ref b1)])) rfl rfl (hb hby d_method_3_75)
  rw [own_narb] at W88
  have N88 := Fr.snoc X88 N86 geA
  have O88 := O86.wr W88 geA
  have z89 : h0.size ≤ h88.size := Nat.le_trans z87 (Nat.le_of_eq W88.size.symm)
  have V88 : Arv Z h88 b1 k1 .byte (32 : Int32) [(.int u0), (.int u1), (.int u2), (.int u3), (.int u4), (.int u5), (.int u6), (.int u7), (.int u8), (.int u9), (.int u10), (.int u11), (.int u12), (.int u13), (.int u14), (.int u15), (.int u16), (.int u17), (.int u18), (.int u19), (.int u20), (.int u21), (.int u22), (.int u23), (.int (((((((q3).toUInt64 >>> ((56 : Int32) &&& 0x3f).toInt64.toUInt64).toInt64)).toInt32)).toInt8.toInt32)), (.int (((((((q3).toUInt64 >>> ((48 : Int32) &&& 0x3f).toInt64.toUInt64).toInt64)).toInt32)).toInt8.toInt32)), (.int (((((((q3).toUInt64 >>> ((40 : Int32) &&& 0x3f).toInt64.toUInt64).toInt64)).toInt32)).toInt8.toInt32)), (.int (((((((q3).toUInt64 >>> ((32 : Int32) &&& 0x3f).toInt64.toUInt64).toInt64)).toInt32)).toInt8.toInt32)), (.int (((((((q3).toUInt64 >>> ((24 : Int32) &&& 0x3f).toInt64.toUInt64).toInt64)).toInt32)).toInt8.toInt32)), (.int (((((((q3).toUInt64 >>> ((16 : Int32) &&& 0x3f).toInt64.toUInt64).toInt64)).toInt32)).toInt8.toInt32)), (.int (((((((q3).toUInt64 >>> ((8 : Int32) &&& 0x3f).toInt64.toUInt64).toInt64)).toInt32)).toInt8.toInt32)), (.int u31)] (.int (0 : Int32)) := Arv.set Ar88 q88 S88 M88 H88 G88 (fits_nar_byte _) W88 30 (by decide) (Nat.le_of_ble_eq_true rfl)
  refine own_go st88 ?_
  show OwnGo p e below _ (T88.setTop (mkF m 76 #[.val (.ref b1), .val (.int (24 : Int32)), .val (.long q3), .second] []))
  refine own_go (fun _ k => XS.aloadN X88.here hx rfl (hb hby d_method_3_76) rfl rfl k) ?_
  show OwnGo p e below _ (T88.setTop (mkF m 77 #[.val (.ref b1), .val (.int (24 : Int32)), .val (.long q3), .second] [(.ref b1)]))
  refine own_go (fun _ k => XS.iloadN X88.here hx rfl (hb hby d_method_3_77) rfl k) ?_
  show OwnGo p e below _ (T88.setTop (mkF m 78 #[.val (.ref b1), .val (.int (24 : Int32)), .val (.long q3), .second] [(.int (24 : Int32)), (.ref b1)]))
  refine own_go (fun _ k => XS.bipush X88.here hx rfl (hb hby d_method_3_78) k) ?_
  show OwnGo p e below _ (T88.setTop (mkF m 80 #[.val (.ref b1), .val (.int (24 : Int32)), .val (.long q3), .second] [(.int (7 : Int32)), (.int (24 : Int32)), (.ref b1)]))
  refine own_go (fun _ k => XS.iadd X88.here hx rfl (hb hby d_method_3_80) rfl k) ?_
  show OwnGo p e below _ (T88.setTop (mkF m 81 #[.val (.ref b1), .val (.int (24 : Int32)), .val (.long q3), .second] [(.int ((24 : Int32) + (7 : Int32))), (.ref b1)]))
  rw [show ((24 : Int32) + (7 : Int32)) = (31 : Int32) from by decide]
  show OwnGo p e below _ (T88.setTop (mkF m 81 #[.val (.ref b1), .val (.int (24 : Int32)), .val (.long q3), .second] [(.int (31 : Int32)), (.ref b1)]))
  refine own_go (fun _ k => XS.lloadN X88.here hx rfl (hb hby d_method_3_81) rfl k) ?_
  show OwnGo p e below _ (T88.setTop (mkF m 82 #[.val (.ref b1), .val (.int (24 : Int32)), .val (.long q3), .second] [(.long q3), (.int (31 : Int32)), (.ref b1)]))
  refine own_go (fun _ k => XS.l2i X88.here hx rfl (hb hby d_method_3_82) rfl k) ?_
  show OwnGo p e below _ (T88.setTop (mkF m 83 #[.val (.ref b1), .val (.int (24 : Int32)), .val (.long q3), .second] [(.int ((q3).toInt32)), (.int (31 : Int32)), (.ref b1)]))
  refine own_go (fun _ k => XS.i2b X88.here hx rfl (hb hby d_method_3_83) rfl k) ?_
  show OwnGo p e below _ (T88.setTop (mkF m 84 #[.val (.ref b1), .val (.int (24 : Int32)), .val (.long q3), .second] [(.int ((((q3).toInt32)).toInt8.toInt32)), (.int (31 : Int32)), (.ref b1)]))
  obtain ⟨c90, Ar90, q90, S90, M90, H90, G90⟩ := (id V88)
  obtain ⟨T90, h90, X90, e90, W90, st90⟩ := stB X88 hx hZ e88 Ar90 (j := (31 : Int32)) (inb_of S90 ⟨by decide, by decide⟩) (g := (mkF m 84 #[.val (.ref b1), .val (.int (24 : Int32)), .val (.long q3), .second] [(.int ((((q3).toInt32)).toInt8.toInt32)), (.int (31 : Int32)), (.ref b1)])) rfl rfl (hb hby d_method_3_84)
  rw [own_narb] at W90
  have N90 := Fr.snoc X90 N88 geA
  have O90 := O88.wr W90 geA
  have z91 : h0.size ≤ h90.size := Nat.le_trans z89 (Nat.le_of_eq W90.size.symm)
  have V90 : Arv Z h90 b1 k1 .byte (32 : Int32) [(.int u0), (.int u1), (.int u2), (.int u3), (.int u4), (.int u5), (.int u6), (.int u7), (.int u8), (.int u9), (.int u10), (.int u11), (.int u12), (.int u13), (.int u14), (.int u15), (.int u16), (.int u17), (.int u18), (.int u19), (.int u20), (.int u21), (.int u22), (.int u23), (.int (((((((q3).toUInt64 >>> ((56 : Int32) &&& 0x3f).toInt64.toUInt64).toInt64)).toInt32)).toInt8.toInt32)), (.int (((((((q3).toUInt64 >>> ((48 : Int32) &&& 0x3f).toInt64.toUInt64).toInt64)).toInt32)).toInt8.toInt32)), (.int (((((((q3).toUInt64 >>> ((40 : Int32) &&& 0x3f).toInt64.toUInt64).toInt64)).toInt32)).toInt8.toInt32)), (.int (((((((q3).toUInt64 >>> ((32 : Int32) &&& 0x3f).toInt64.toUInt64).toInt64)).toInt32)).toInt8.toInt32)), (.int (((((((q3).toUInt64 >>> ((24 : Int32) &&& 0x3f).toInt64.toUInt64).toInt64)).toInt32)).toInt8.toInt32)), (.int (((((((q3).toUInt64 >>> ((16 : Int32) &&& 0x3f).toInt64.toUInt64).toInt64)).toInt32)).toInt8.toInt32)), (.int (((((((q3).toUInt64 >>> ((8 : Int32) &&& 0x3f).toInt64.toUInt64).toInt64)).toInt32)).toInt8.toInt32)), (.int ((((q3).toInt32)).toInt8.toInt32))] (.int (0 : Int32)) := Arv.set Ar90 q90 S90 M90 H90 G90 (fits_nar_byte _) W90 31 (by decide) (Nat.le_of_ble_eq_true rfl)
  refine own_go st90 ?_
  show OwnGo p e below _ (T90.setTop (mkF m 85 #[.val (.ref b1), .val (.int (24 : Int32)), .val (.long q3), .second] []))
  obtain ⟨fs, hr, hrun, hended, hW, hsame⟩ := X90.leave (v := none) (fun h => rfl)
  refine ⟨_, _, X90.returnOut hx Bd.returns (hb hby d_method_3_85) hr, hrun, hended, _, _, rfl, ?_, ⟨_, rfl⟩, hW, hsame.mono (by decide) (by decide)⟩
  show Q_put24 Z aFFDHE2048 aCONFIRMATION aFFDHE4096 aFFDHE3072 b1 q3 k1 u0 u1 u2 u3 u4 u5 u6 u7 u8 u9 u10 u11 u12 u13 u14 u15 u16 u17 u18 u19 u20 u21 u22 u23 u24 u25 u26 u27 u28 u29 u30 u31 h0 n0 _ T90.heap _
  rw [e90]
  exact ⟨rfl, N90, (((((((((Keep.refl _ [b1]).wr W76 (Or.inl (List.mem_of_getElem? (i := 0) rfl))).wr W78 (Or.inl (List.mem_of_getElem? (i := 0) rfl))).wr W80 (Or.inl (List.mem_of_getElem? (i := 0) rfl))).wr W82 (Or.inl (List.mem_of_getElem? (i := 0) rfl))).wr W84 (Or.inl (List.mem_of_getElem? (i := 0) rfl))).wr W86 (Or.inl (List.mem_of_getElem? (i := 0) rfl))).wr W88 (Or.inl (List.mem_of_getElem? (i := 0) rfl))).wr W90 (Or.inl (List.mem_of_getElem? (i := 0) rfl))), V90⟩
theorem d_prog_1_method_3_0 : decode prog_1_method_3_code 0 = .ok (.bipush 35, 2) := by decide +kernel
theorem d_prog_1_method_3_2 : decode prog_1_method_3_code 2 = .ok (.newarray .byte, 2) := by decide +kernel
theorem d_prog_1_method_3_4 : decode prog_1_method_3_code 4 = .ok (.astore_n 2, 1) := by decide +kernel
theorem d_prog_1_method_3_5 : decode prog_1_method_3_code 5 = .ok (.getstatic 19, 3) := by decide +kernel
theorem d_prog_1_method_3_8 : decode prog_1_method_3_code 8 = .ok (.aload_n 2, 1) := by decide +kernel
theorem d_prog_1_method_3_9 : decode prog_1_method_3_code 9 = .ok (.aload_n 0, 1) := by decide +kernel
theorem d_prog_1_method_3_10 : decode prog_1_method_3_code 10 = .ok (.invokevirtual 23, 3) := by decide +kernel
theorem pd__B_Lcom_example_portcullis_portcullis_Group___V : parseMethodDescriptor "([BLcom/example/portcullis/portcullis/Group;)V" = some ⟨[(.array .byte), (.object "com/example/portcullis/portcullis/Group")], none⟩ := by decide +kernel
theorem d_prog_1_method_3_13 : decode prog_1_method_3_code 13 = .ok (.aload_n 1, 1) := by decide +kernel
theorem d_prog_1_method_3_14 : decode prog_1_method_3_code 14 = .ok (.iconst 0, 1) := by decide +kernel
theorem d_prog_1_method_3_15 : decode prog_1_method_3_code 15 = .ok (.aload_n 2, 1) := by decide +kernel
theorem d_prog_1_method_3_16 : decode prog_1_method_3_code 16 = .ok (.iconst 3, 1) := by decide +kernel
theorem d_prog_1_method_3_17 : decode prog_1_method_3_code 17 = .ok (.aload_n 1, 1) := by decide +kernel
theorem d_prog_1_method_3_18 : decode prog_1_method_3_code 18 = .ok (.arraylength, 1) := by decide +kernel
theorem d_prog_1_method_3_19 : decode prog_1_method_3_code 19 = .ok (.invokestatic 27, 3) := by decide +kernel
theorem d_prog_1_method_3_22 : decode prog_1_method_3_code 22 = .ok (.aload_n 2, 1) := by decide +kernel
theorem d_prog_1_method_3_23 : decode prog_1_method_3_code 23 = .ok (.areturn, 1) := by decide +kernel
theorem pn_com_example_portcullis_portcullis_Confirmation : plainName "com/example/portcullis/portcullis/Confirmation" = true := by first | (simp [plainName, overriddenIn]; done) | decide +kernel
def Q_encaFFDHE2048 (Z : State) (aFFDHE2048 aCONFIRMATION aFFDHE4096 aFFDHE3072 : Addr) (b1 : Addr) (k1 : ClassId) (u0 : Int32) (u1 : Int32) (u2 : Int32) (u3 : Int32) (u4 : Int32) (u5 : Int32) (u6 : Int32) (u7 : Int32) (u8 : Int32) (u9 : Int32) (u10 : Int32) (u11 : Int32) (u12 : Int32) (u13 : Int32) (u14 : Int32) (u15 : Int32) (u16 : Int32) (u17 : Int32) (u18 : Int32) (u19 : Int32) (u20 : Int32) (u21 : Int32) (u22 : Int32) (u23 : Int32) (u24 : Int32) (u25 : Int32) (u26 : Int32) (u27 : Int32) (u28 : Int32) (u29 : Int32) (u30 : Int32) (u31 : Int32) (h0 : Heap) (n0 : Nat) (v : Option Value) (h : Heap) (L : List Loc) : Prop := ∃ (r9 : Addr) (k9 : ClassId), v = some (.ref r9) ∧ Fr n0 L ∧ Keep h0 h [] ∧ Arv Z h r9 k9 .byte (35 : Int32) [(.int (1 : Int32)), (.int (2 : Int32)), (.int (1 : Int32)), (.int u0), (.int u1), (.int u2), (.int u3), (.int u4), (.int u5), (.int u6), (.int u7), (.int u8), (.int u9), (.int u10), (.int u11), (.int u12), (.int u13), (.int u14), (.int u15), (.int u16), (.int u17), (.int u18), (.int u19), (.int u20), (.int u21), (.int u22), (.int u23), (.int u24), (.int u25), (.int u26), (.int u27), (.int u28), (.int u29), (.int u30), (.int u31)] (.int (0 : Int32)) ∧ h0.size ≤ r9
theorem ef_encaFFDHE2048 (m : MethodId) (x0 : Addr) (x1 : Addr) : entryFrame m #[(.ref x0), (.ref x1)] 3 = mkF m 0 #[.val (.ref x0), .val (.ref x1), .unset] [] := by first | (simp [entryFrame, mkF, argsToLocals, Value.category]; done) | rfl
set_option maxRecDepth 65536 in
set_option maxHeartbeats 40000000 in
theorem rm_encaFFDHE2048 (l : Launch) (Z : State) (a0 : Array Value) (hw : ∀ d ∈ tables_1, d.before a0 Z = true) (ws : List Jvm.Cond) (aFFDHE2048 aCONFIRMATION aFFDHE4096 aFFDHE3072 : Addr) (F0 : OwnFacts Z aFFDHE2048 aCONFIRMATION aFFDHE4096 aFFDHE3072) (b1 : Addr) (k1 : ClassId) (u0 : Int32) (u1 : Int32) (u2 : Int32) (u3 : Int32) (u4 : Int32) (u5 : Int32) (u6 : Int32) (u7 : Int32) (u8 : Int32) (u9 : Int32) (u10 : Int32) (u11 : Int32) (u12 : Int32) (u13 : Int32) (u14 : Int32) (u15 : Int32) (u16 : Int32) (u17 : Int32) (u18 : Int32) (u19 : Int32) (u20 : Int32) (u21 : Int32) (u22 : Int32) (u23 : Int32) (u24 : Int32) (u25 : Int32) (u26 : Int32) (u27 : Int32) (u28 : Int32) (u29 : Int32) (u30 : Int32) (u31 : Int32) (h0 : Heap) (n0 : Nat) (O0 : Old Z n0 h0) (VA : Arv Z h0 b1 k1 .byte (32 : Int32) [(.int u0), (.int u1), (.int u2), (.int u3), (.int u4), (.int u5), (.int u6), (.int u7), (.int u8), (.int u9), (.int u10), (.int u11), (.int u12), (.int u13), (.int u14), (.int u15), (.int u16), (.int u17), (.int u18), (.int u19), (.int u20), (.int u21), (.int u22), (.int u23), (.int u24), (.int u25), (.int u26), (.int u27), (.int u28), (.int u29), (.int u30), (.int u31)] (.int (0 : Int32))) :
    MetFree l (⟨"com/example/portcullis/portcullis/Confirmation", "encode", "(Lcom/example/portcullis/portcullis/Group;[B)[B"⟩ : MethodName) (head1 (Jvm.Cond.code (⟨"com/example/portcullis/portcullis/Confirmation", "encode", "(Lcom/example/portcullis/portcullis/Group;[B)[B"⟩ : MethodName) prog_1_method_3_code 3 (some (.array .byte)) :: ws) ({ frames := 2, cells := 1, slots := 35, locals := 28 } : Room)) (fun a U => a = #[(.ref aFFDHE2048), (.ref b1)] ∧ Z.Warmed39 U.vm ∧ U.heap = h0) (fun _ _ _ _ _ => True) (fun _ U o U' => ∃ v L, o = .returned v ∧ Q_encaFFDHE2048 Z aFFDHE2048 aCONFIRMATION aFFDHE4096 aFFDHE3072 b1 k1 u0 u1 u2 u3 u4 u5 u6 u7 u8 u9 u10 u11 u12 u13 u14 u15 u16 u17 u18 u19 u20 u21 u22 u23 u24 u25 u26 u27 u28 u29 u30 u31 h0 n0 v U'.heap L ∧ FrameEnd U o U' L ({ frames := 2, cells := 1, slots := 35, locals := 28 } : Room).cells ({ frames := 2, cells := 1, slots := 35, locals := 28 } : Room).slots) := by
  refine MetFree.of_bodySF (plainFor_of_name pn_com_example_portcullis_portcullis_Confirmation) hisR ?_
  intro p e s m args below meth c s₁ Bd hml0 hP hK
  obtain ⟨rfl, hZ, hh⟩ := hP
  have hx := Bd.exec
  have hby := Bd.bytes
  have hml : c.maxLocals = 3 := hml0
  have hown : s.vm.findClass "com/example/portcullis/portcullis/Confirmation" = some m.cls := findClass_of_methodNamed Bd.named
  have hnm := (name_of_methodNamed Bd.named Bd.method).1
  have X0 : Stand p l e ({ frames := 2, cells := 1, slots := 35, locals := 28 } : Room) s m #[(.ref aFFDHE2048), (.ref b1)] below meth c s₁ [] 0 0 := Stand.of_body Bd
  have e0 : s₁.heap = h0 := by rw [← hh, Bd.state]; rfl
  have N0 := Fr.nil n0
  refine own_go (Q := fun o U' => ∃ v L, o = .returned v ∧ Q_encaFFDHE2048 Z aFFDHE2048 aCONFIRMATION aFFDHE4096 aFFDHE3072 b1 k1 u0 u1 u2 u3 u4 u5 u6 u7 u8 u9 u10 u11 u12 u13 u14 u15 u16 u17 u18 u19 u20 u21 u22 u23 u24 u25 u26 u27 u28 u29 u30 u31 h0 n0 v U'.heap L ∧ FrameEnd s o U' L ({ frames := 2, cells := 1, slots := 35, locals := 28 } : Room).cells ({ frames := 2, cells := 1, slots := 35, locals := 28 } : Room).slots) (fun t k => castTop (ef_encaFFDHE2048 m aFFDHE2048 b1) k) ?_
  show OwnGo p e below _ (s₁.setTop (mkF m 0 #[.val (.ref aFFDHE2048), .val (.ref b1), .unset] []))
  refine own_go (fun _ k => XS.bipush X0.here hx rfl (hb hby d_prog_1_method_3_0) k) ?_
  show OwnGo p e below _ (s₁.setTop (mkF m 2 #[.val (.ref aFFDHE2048), .val (.ref b1), .unset] [(.int (35 : Int32))]))
  obtain ⟨T92, h92, k92, X92, e92, E92, A92, st92⟩ := newP X0 hx hZ (hw _ (List.mem_of_getElem? (i := 4) rfl)) e0 (g := (mkF m 2 #[.val (.ref aFFDHE2048), .val (.ref b1), .unset] [(.int (35 : Int32))])) rfl (hb hby d_prog_1_method_3_2) rfl (by decide) (cap := 35) (by decide) (by decide) (by decide) (by decide)
  obtain ⟨a92, g92⟩ : ∃ z, z = h0.size := ⟨_, rfl⟩
  rw [← g92] at A92 st92
  have ge92 : n0 ≤ a92 := Nat.le_trans (own_sz O0) (Nat.le_of_eq g92.symm)
  have gh92 : h0.size ≤ a92 := Nat.le_trans (Nat.le_refl _) (Nat.le_of_eq g92.symm)
  have ne93 : b1 ≠ a92 := own_newne g92 VA.lt
  have O92 := O0.ext E92
  have z94 : h0.size ≤ h92.size := Nat.le_trans (Nat.le_refl _) E92.1
  have V92 : Arv Z h92 a92 k92 .byte (35 : Int32) [(.int (0 : Int32)), (.int (0 : Int32)), (.int (0 : Int32)), (.int (0 : Int32)), (.int (0 : Int32)), (.int (0 : Int32)), (.int (0 : Int32)), (.int (0 : Int32)), (.int (0 : Int32)), (.int (0 : Int32)), (.int (0 : Int32)), (.int (0 : Int32)), (.int (0 : Int32)), (.int (0 : Int32)), (.int (0 : Int32)), (.int (0 : Int32)), (.int (0 : Int32)), (.int (0 : Int32)), (.int (0 : Int32)), (.int (0 : Int32)), (.int (0 : Int32)), (.int (0 : Int32)), (.int (0 : Int32)), (.int (0 : Int32)), (.int (0 : Int32)), (.int (0 : Int32)), (.int (0 : Int32)), (.int (0 : Int32)), (.int (0 : Int32)), (.int (0 : Int32)), (.int (0 : Int32)), (.int (0 : Int32)), (.int (0 : Int32)), (.int (0 : Int32)), (.int (0 : Int32))] (.int (0 : Int32)) := (Arv.new A92 (by decide)).pad (pad_rep [] _ 35)
  refine own_go st92 ?_
  show OwnGo p e below _ (T92.setTop (mkF m 4 #[.val (.ref aFFDHE2048), .val (.ref b1), .unset] [(.ref a92)]))
  refine own_go (fun _ k => XS.astoreN X92.here hx rfl (hb hby d_prog_1_method_3_4) rfl rfl (l' := #[.val (.ref aFFDHE2048), .val (.ref b1), .val (.ref a92)]) rfl k) ?_
  show OwnGo p e below _ (T92.setTop (mkF m 5 #[.val (.ref aFFDHE2048), .val (.ref b1), .val (.ref a92)] []))
  obtain ⟨T95, X95, e95, st95⟩ := getS X92 hx hZ hown (host := "") (hw _ (List.mem_of_getElem? (i := 13) rfl)) Via.refl e92 (F0.2.2.1.ext O92.2) (g := (mkF m 5 #[.val (.ref aFFDHE2048), .val (.ref b1), .val (.ref a92)] [])) rfl (hb hby d_prog_1_method_3_5)
  refine own_go st95 ?_
  show OwnGo p e below _ (T95.setTop (mkF m 8 #[.val (.ref aFFDHE2048), .val (.ref b1), .val (.ref a92)] [(.ref aCONFIRMATION)]))
  refine own_go (fun _ k => XS.aloadN X95.here hx rfl (hb hby d_prog_1_method_3_8) rfl rfl k) ?_
  show OwnGo p e below _ (T95.setTop (mkF m 9 #[.val (.ref aFFDHE2048), .val (.ref b1), .val (.ref a92)] [(.ref a92), (.ref aCONFIRMATION)]))
  refine own_go (fun _ k => XS.aloadN X95.here hx rfl (hb hby d_prog_1_method_3_9) rfl rfl k) ?_
  show OwnGo p e below _ (T95.setTop (mkF m 10 #[.val (.ref aFFDHE2048), .val (.ref b1), .val (.ref a92)] [(.ref aFFDHE2048), (.ref a92), (.ref aCONFIRMATION)]))
  obtain ⟨cq96, kq96, qa96, qb96, qc96⟩ := isOf hZ e95 (F0.2.2.2.1.ext O92.2)
  obtain ⟨_, _, ⟨T96, L96, k96, n96⟩, -, X96, ⟨Lc96, hQ96, l96, y96, z96⟩, st96⟩ := X95.virtualBack hx (y := (⟨"com/example/portcullis/portcullis/MessageType", "writeHeader", "([BLcom/example/portcullis/portcullis/Group;)V"⟩ : MethodName)) (z := (⟨"com/example/portcullis/portcullis/MessageType", "writeHeader", "([BLcom/example/portcullis/portcullis/Group;)V"⟩ : MethodName)) hown (mvT hZ (hw _ (List.mem_of_getElem? (i := 16) rfl))) (mvT hZ (hw _ (List.mem_of_getElem? (i := 17) rfl))) (notFace_of_selects (args := #[]) (mvT hZ (hw _ (List.mem_of_getElem? (i := 19) rfl)))) (mvT hZ (hw _ (List.mem_of_getElem? (i := 19) rfl))) (mvT hZ (hw _ (List.mem_of_getElem? (i := 18) rfl))) (by decide) (backOf (W := 0) (rm_wraFFDHE2048 l Z a0 hw [] aFFDHE2048 aCONFIRMATION aFFDHE4096 aFFDHE3072 F0 a92 k92 (0 : Int32) (0 : Int32) (0 : Int32) (0 : Int32) (0 : Int32) (0 : Int32) (0 : Int32) (0 : Int32) (0 : Int32) (0 : Int32) (0 : Int32) (0 : Int32) (0 : Int32) (0 : Int32) (0 : Int32) (0 : Int32) (0 : Int32) (0 : Int32) (0 : Int32) (0 : Int32) (0 : Int32) (0 : Int32) (0 : Int32) (0 : Int32) (0 : Int32) (0 : Int32) (0 : Int32) (0 : Int32) (0 : Int32) (0 : Int32) (0 : Int32) (0 : Int32) (0 : Int32) (0 : Int32) (0 : Int32) h92 n0 O92 V92 ge92) hZ (hw _ (List.mem_of_getElem? (i := 20) rfl)) (hw _ (List.mem_of_getElem? (i := 14) rfl)) (by decide) (by decide)) qa96 qc96 (g := (mkF m 10 #[.val (.ref aFFDHE2048), .val (.ref b1), .val (.ref a92)] [(.ref aFFDHE2048), (.ref a92), (.ref aCONFIRMATION)])) rfl (by rw [hml]; rfl) (Steps.refl _) (argsL := [(.ref a92), (.ref aFFDHE2048)]) (rest := []) (lenOf pd__B_Lcom_example_portcullis_portcullis_Group___V rfl) rfl (by show 2 * 0 + _ ≤ _; exact Nat.le_of_eq rfl) (hb hby d_prog_1_method_3_10) (fun _ _ => ⟨rfl, e95, (by decide : 1 + 0 ≤ _), (by decide : 35 + 0 ≤ _)⟩)
  dsimp only [Pt.U, Pt.locs, Pt.cells, Pt.slots] at X96 l96 y96 z96 st96 hQ96
  subst l96 y96 z96
  obtain ⟨rfl, Nq96, K96, x96_0⟩ := hQ96
  have N96 := Fr.app N0 Nq96
  have O96 := O92.keep K96 (allS ge92 all0)
  have e96 : T96.heap = T96.heap := rfl
  have z97 : h0.size ≤ T96.heap.size := Nat.le_trans z94 K96.1
  refine own_go (fun _ k => st96.trans k) ?_
  show OwnGo p e below _ (T96.setTop (mkF m 13 #[.val (.ref aFFDHE2048), .val (.ref b1), .val (.ref a92)] []))
  refine own_go (fun _ k => XS.aloadN X96.here hx rfl (hb hby d_prog_1_method_3_13) rfl rfl k) ?_
  show OwnGo p e below _ (T96.setTop (mkF m 14 #[.val (.ref aFFDHE2048), .val (.ref b1), .val (.ref a92)] [(.ref b1)]))
  refine own_go (fun _ k => XS.iconst X96.here hx rfl (hb hby d_prog_1_method_3_14) k) ?_
  show OwnGo p e below _ (T96.setTop (mkF m 15 #[.val (.ref aFFDHE2048), .val (.ref b1), .val (.ref a92)] [(.int (0 : Int32)), (.ref b1)]))
  refine own_go (fun _ k => XS.aloadN X96.here hx rfl (hb hby d_prog_1_method_3_15) rfl rfl k) ?_
  show OwnGo p e below _ (T96.setTop (mkF m 16 #[.val (.ref aFFDHE2048), .val (.ref b1), .val (.ref a92)] [(.ref a92), (.int (0 : Int32)), (.ref b1)]))
  refine own_go (fun _ k => XS.iconst X96.here hx rfl (hb hby d_prog_1_method_3_16) k) ?_
  show OwnGo p e below _ (T96.setTop (mkF m 17 #[.val (.ref aFFDHE2048), .val (.ref b1), .val (.ref a92)] [(.int (3 : Int32)), (.ref a92), (.int (0 : Int32)), (.ref b1)]))
  refine own_go (fun _ k => XS.aloadN X96.here hx rfl (hb hby d_prog_1_method_3_17) rfl rfl k) ?_
  show OwnGo p e below _ (T96.setTop (mkF m 18 #[.val (.ref aFFDHE2048), .val (.ref b1), .val (.ref a92)] [(.ref b1), (.int (3 : Int32)), (.ref a92), (.int (0 : Int32)), (.ref b1)]))
  have F98 := ((VA.ext E92).keep K96 (ninS ne93 nin0))
  obtain ⟨c99, Ar99, q99, S99, M99, H99, G99⟩ := (id F98)
  refine own_go (fun _ k => X96.arraylength hx (cell := c99) (by rw [e96]; exact Ar99.1) (State.isArrayOf_alike hZ.alike Ar99.2.1) (g := (mkF m 18 #[.val (.ref aFFDHE2048), .val (.ref b1), .val (.ref a92)] [(.ref b1), (.int (3 : Int32)), (.ref a92), (.int (0 : Int32)), (.ref b1)])) rfl (rest := [(.int (3 : Int32)), (.ref a92), (.int (0 : Int32)), (.ref b1)]) rfl (hb hby d_prog_1_method_3_18) _ k) ?_
  rw [len_of S99 M99]
  show OwnGo p e below _ (T96.setTop (mkF m 19 #[.val (.ref aFFDHE2048), .val (.ref b1), .val (.ref a92)] [(.int (32 : Int32)), (.int (3 : Int32)), (.ref a92), (.int (0 : Int32)), (.ref b1)]))
  obtain ⟨T100, h100, L100, X100, e100, N100, K100, V100, st100⟩ := cpA X96 hx hZ hown (hw _ (List.mem_of_getElem? (i := 30) rfl)) (hw _ (List.mem_of_getElem? (i := 33) rfl)) (hw _ (List.mem_of_getElem? (i := 31) rfl)) (hw _ (List.mem_of_getElem? (i := 32) rfl)) e96 F98 x96_0 (us := [(.int u0), (.int u1), (.int u2), (.int u3), (.int u4), (.int u5), (.int u6), (.int u7), (.int u8), (.int u9), (.int u10), (.int u11), (.int u12), (.int u13), (.int u14), (.int u15), (.int u16), (.int u17), (.int u18), (.int u19), (.int u20), (.int u21), (.int u22), (.int u23), (.int u24), (.int u25), (.int u26), (.int u27), (.int u28), (.int u29), (.int u30), (.int u31)]) (Or.inl ⟨rfl, rfl⟩) (by decide) (by decide) (by decide) (by decide) (by decide) rfl (Nat.le_of_ble_eq_true rfl) N96 ge92 (g := (mkF m 19 #[.val (.ref aFFDHE2048), .val (.ref b1), .val (.ref a92)] [(.int (32 : Int32)), (.int (3 : Int32)), (.ref a92), (.int (0 : Int32)), (.ref b1)])) rfl (by rw [hml]; rfl) rfl (hb hby d_prog_1_method_3_19) (by decide) (W := 0) (by show 2 * 0 + _ ≤ _; exact Nat.le_of_eq rfl) (by decide)
  have O100 := O96.keep K100 (allS ge92 all0)
  have z101 : h0.size ≤ h100.size := Nat.le_trans z97 K100.1
  have F102 : Arv Z h100 a92 k92 .byte (35 : Int32) [(.int (1 : Int32)), (.int (2 : Int32)), (.int (1 : Int32)), (.int u0), (.int u1), (.int u2), (.int u3), (.int u4), (.int u5), (.int u6), (.int u7), (.int u8), (.int u9), (.int u10), (.int u11), (.int u12), (.int u13), (.int u14), (.int u15), (.int u16), (.int u17), (.int u18), (.int u19), (.int u20), (.int u21), (.int u22), (.int u23), (.int u24), (.int u25), (.int u26), (.int u27), (.int u28), (.int u29), (.int u30), (.int u31)] (.int (0 : Int32)) := V100
  refine own_go st100 ?_
  show OwnGo p e below _ (T100.setTop (mkF m 22 #[.val (.ref aFFDHE2048), .val (.ref b1), .val (.ref a92)] []))
  refine own_go (fun _ k => XS.aloadN X100.here hx rfl (hb hby d_prog_1_method_3_22) rfl rfl k) ?_
  show OwnGo p e below _ (T100.setTop (mkF m 23 #[.val (.ref aFFDHE2048), .val (.ref b1), .val (.ref a92)] [(.ref a92)]))
  obtain ⟨fs, hr, hrun, hended, hW, hsame⟩ := X100.leave (v := some (.ref a92)) (fun h => by rw [Bd.returns] at h; cases h)
  refine ⟨_, _, retOut X100 hx Bd.returns rfl (Or.inr (Or.inr (Or.inr (Or.inr ⟨rfl, rfl, rfl⟩)))) (hb hby d_prog_1_method_3_23) hr, hrun, hended, _, _, rfl, ?_, ⟨_, rfl⟩, hW, hsame.mono (by decide) (by decide)⟩
  show Q_encaFFDHE2048 Z aFFDHE2048 aCONFIRMATION aFFDHE4096 aFFDHE3072 b1 k1 u0 u1 u2 u3 u4 u5 u6 u7 u8 u9 u10 u11 u12 u13 u14 u15 u16 u17 u18 u19 u20 u21 u22 u23 u24 u25 u26 u27 u28 u29 u30 u31 h0 n0 _ T100.heap _
  rw [e100]
  exact ⟨a92, k92, rfl, N100, ((((Keep.refl _ []).ext E92).trans K96 (allS (P := fun x => x ∈ _ ∨ _ ≤ x) (Or.inr gh92) all0)).trans K100 (allS (P := fun x => x ∈ _ ∨ _ ≤ x) (Or.inr gh92) all0)), F102, gh92⟩
def Q_encaFFDHE3072 (Z : State) (aFFDHE2048 aCONFIRMATION aFFDHE4096 aFFDHE3072 : Addr) (b1 : Addr) (k1 : ClassId) (u0 : Int32) (u1 : Int32) (u2 : Int32) (u3 : Int32) (u4 : Int32) (u5 : Int32) (u6 : Int32) (u7 : Int32) (u8 : Int32) (u9 : Int32) (u10 : Int32) (u11 : Int32) (u12 : Int32) (u13 : Int32) (u14 : Int32) (u15 : Int32) (u16 : Int32) (u17 : Int32) (u18 : Int32) (u19 : Int32) (u20 : Int32) (u21 : Int32) (u22 : Int32) (u23 : Int32) (u24 : Int32) (u25 : Int32) (u26 : Int32) (u27 : Int32) (u28 : Int32) (u29 : Int32) (u30 : Int32) (u31 : Int32) (h0 : Heap) (n0 : Nat) (v : Option Value) (h : Heap) (L : List Loc) : Prop := ∃ (r9 : Addr) (k9 : ClassId), v = some (.ref r9) ∧ Fr n0 L ∧ Keep h0 h [] ∧ Arv Z h r9 k9 .byte (35 : Int32) [(.int (1 : Int32)), (.int (2 : Int32)), (.int (2 : Int32)), (.int u0), (.int u1), (.int u2), (.int u3), (.int u4), (.int u5), (.int u6), (.int u7), (.int u8), (.int u9), (.int u10), (.int u11), (.int u12), (.int u13), (.int u14), (.int u15), (.int u16), (.int u17), (.int u18), (.int u19), (.int u20), (.int u21), (.int u22), (.int u23), (.int u24), (.int u25), (.int u26), (.int u27), (.int u28), (.int u29), (.int u30), (.int u31)] (.int (0 : Int32)) ∧ h0.size ≤ r9
theorem ef_encaFFDHE3072 (m : MethodId) (x0 : Addr) (x1 : Addr) : entryFrame m #[(.ref x0), (.ref x1)] 3 = mkF m 0 #[.val (.ref x0), .val (.ref x1), .unset] [] := by first | (simp [entryFrame, mkF, argsToLocals, Value.category]; done) | rfl
set_option maxRecDepth 65536 in
set_option maxHeartbeats 40000000 in
theorem rm_encaFFDHE3072 (l : Launch) (Z : State) (a0 : Array Value) (hw : ∀ d ∈ tables_1, d.before a0 Z = true) (ws : List Jvm.Cond) (aFFDHE2048 aCONFIRMATION aFFDHE4096 aFFDHE3072 : Addr) (F0 : OwnFacts Z aFFDHE2048 aCONFIRMATION aFFDHE4096 aFFDHE3072) (b1 : Addr) (k1 : ClassId) (u0 : Int32) (u1 : Int32) (u2 : Int32) (u3 : Int32) (u4 : Int32) (u5 : Int32) (u6 : Int32) (u7 : Int32) (u8 : Int32) (u9 : Int32) (u10 : Int32) (u11 : Int32) (u12 : Int32) (u13 : Int32) (u14 : Int32) (u15 : Int32) (u16 : Int32) (u17 : Int32) (u18 : Int32) (u19 : Int32) (u20 : Int32) (u21 : Int32) (u22 : Int32) (u23 : Int32) (u24 : Int32) (u25 : Int32) (u26 : Int32) (u27 : Int32) (u28 : Int32) (u29 : Int32) (u30 : Int32) (u31 : Int32) (h0 : Heap) (n0 : Nat) (O0 : Old Z n0 h0) (VA : Arv Z h0 b1 k1 .byte (32 : Int32) [(.int u0), (.int u1), (.int u2), (.int u3), (.int u4), (.int u5), (.int u6), (.int u7), (.int u8), (.int u9), (.int u10), (.int u11), (.int u12), (.int u13), (.int u14), (.int u15), (.int u16), (.int u17), (.int u18), (.int u19), (.int u20), (.int u21), (.int u22), (.int u23), (.int u24), (.int u25), (.int u26), (.int u27), (.int u28), (.int u29), (.int u30), (.int u31)] (.int (0 : Int32))) :
    MetFree l (⟨"com/example/portcullis/portcullis/Confirmation", "encode", "(Lcom/example/portcullis/portcullis/Group;[B)[B"⟩ : MethodName) (head1 (Jvm.Cond.code (⟨"com/example/portcullis/portcullis/Confirmation", "encode", "(Lcom/example/portcullis/portcullis/Group;[B)[B"⟩ : MethodName) prog_1_method_3_code 3 (some (.array .byte)) :: ws) ({ frames := 2, cells := 1, slots := 35, locals := 28 } : Room)) (fun a U => a = #[(.ref aFFDHE3072), (.ref b1)] ∧ Z.Warmed39 U.vm ∧ U.heap = h0) (fun _ _ _ _ _ => True) (fun _ U o U' => ∃ v L, o = .returned v ∧ Q_encaFFDHE3072 Z aFFDHE2048 aCONFIRMATION aFFDHE4096 aFFDHE3072 b1 k1 u0 u1 u2 u3 u4 u5 u6 u7 u8 u9 u10 u11 u12 u13 u14 u15 u16 u17 u18 u19 u20 u21 u22 u23 u24 u25 u26 u27 u28 u29 u30 u31 h0 n0 v U'.heap L ∧ FrameEnd U o U' L ({ frames := 2, cells := 1, slots := 35, locals := 28 } : Room).cells ({ frames := 2, cells := 1, slots := 35, locals := 28 } : Room).slots) := by
  refine MetFree.of_bodySF (plainFor_of_name pn_com_example_portcullis_portcullis_Confirmation) hisR ?_
  intro p e s m args below meth c s₁ Bd hml0 hP hK
  obtain ⟨rfl, hZ, hh⟩ := hP
  have hx := Bd.exec
  have hby := Bd.bytes
  have hml : c.maxLocals = 3 := hml0
  have hown : s.vm.findClass "com/example/portcullis/portcullis/Confirmation" = some m.cls := findClass_of_methodNamed Bd.named
  have hnm := (name_of_methodNamed Bd.named Bd.method).1
  have X0 : Stand p l e ({ frames := 2, cells := 1, slots := 35, locals := 28 } : Room) s m #[(.ref aFFDHE3072), (.ref b1)] below meth c s₁ [] 0 0 := Stand.of_body Bd
  have e0 : s₁.heap = h0 := by rw [← hh, Bd.state]; rfl
  have N0 := Fr.nil n0
  refine own_go (Q := fun o U' => ∃ v L, o = .returned v ∧ Q_encaFFDHE3072 Z aFFDHE2048 aCONFIRMATION aFFDHE4096 aFFDHE3072 b1 k1 u0 u1 u2 u3 u4 u5 u6 u7 u8 u9 u10 u11 u12 u13 u14 u15 u16 u17 u18 u19 u20 u21 u22 u23 u24 u25 u26 u27 u28 u29 u30 u31 h0 n0 v U'.heap L ∧ FrameEnd s o U' L ({ frames := 2, cells := 1, slots := 35, locals := 28 } : Room).cells ({ frames := 2, cells := 1, slots := 35, locals := 28 } : Room).slots) (fun t k => castTop (ef_encaFFDHE3072 m aFFDHE3072 b1) k) ?_
  show OwnGo p e below _ (s₁.setTop (mkF m 0 #[.val (.ref aFFDHE3072), .val (.ref b1), .unset] []))
  refine own_go (fun _ k => XS.bipush X0.here hx rfl (hb hby d_prog_1_method_3_0) k) ?_
  show OwnGo p e below _ (s₁.setTop (mkF m 2 #[.val (.ref aFFDHE3072), .val (.ref b1), .unset] [(.int (35 : Int32))]))
  obtain ⟨T103, h103, k103, X103, e103, E103, A103, st103⟩ := newP X0 hx hZ (hw _ (List.mem_of_getElem? (i := 4) rfl)) e0 (g := (mkF m 2 #[.val (.ref aFFDHE3072), .val (.ref b1), .unset] [(.int (35 : Int32))])) rfl (hb hby d_prog_1_method_3_2) rfl (by decide) (cap := 35) (by decide) (by decide) (by decide) (by decide)
  obtain ⟨a103, g103⟩ : ∃ z, z = h0.size := ⟨_, rfl⟩
  rw [← g103] at A103 st103
  have ge103 : n0 ≤ a103 := Nat.le_trans (own_sz O0) (Nat.le_of_eq g103.symm)
  have gh103 : h0.size ≤ a103 := Nat.le_trans (Nat.le_refl _) (Nat.le_of_eq g103.symm)
  have ne104 : b1 ≠ a103 := own_newne g103 VA.lt
  have O103 := O0.ext E103
  have z105 : h0.size ≤ h103.size := Nat.le_trans (Nat.le_refl _) E103.1
  have V103 : Arv Z h103 a103 k103 .byte (35 : Int32) [(.int (0 : Int32)), (.int (0 : Int32)), (.int (0 : Int32)), (.int (0 : Int32)), (.int (0 : Int32)), (.int (0 : Int32)), (.int (0 : Int32)), (.int (0 : Int32)), (.int (0 : Int32)), (.int (0 : Int32)), (.int (0 : Int32)), (.int (0 : Int32)), (.int (0 : Int32)), (.int (0 : Int32)), (.int (0 : Int32)), (.int (0 : Int32)), (.int (0 : Int32)), (.int (0 : Int32)), (.int (0 : Int32)), (.int (0 : Int32)), (.int (0 : Int32)), (.int (0 : Int32)), (.int (0 : Int32)), (.int (0 : Int32)), (.int (0 : Int32)), (.int (0 : Int32)), (.int (0 : Int32)), (.int (0 : Int32)), (.int (0 : Int32)), (.int (0 : Int32)), (.int (0 : Int32)), (.int (0 : Int32)), (.int (0 : Int32)), (.int (0 : Int32)), (.int (0 : Int32))] (.int (0 : Int32)) := (Arv.new A103 (by decide)).pad (pad_rep [] _ 35)
  refine own_go st103 ?_
  show OwnGo p e below _ (T103.setTop (mkF m 4 #[.val (.ref aFFDHE3072), .val (.ref b1), .unset] [(.ref a103)]))
  refine own_go (fun _ k => XS.astoreN X103.here hx rfl (hb hby d_prog_1_method_3_4) rfl rfl (l' := #[.val (.ref aFFDHE3072), .val (.ref b1), .val (.ref a103)]) rfl k) ?_
  show OwnGo p e below _ (T103.setTop (mkF m 5 #[.val (.ref aFFDHE3072), .val (.ref b1), .val (.ref a103)] []))
  obtain ⟨T106, X106, e106, st106⟩ := getS X103 hx hZ hown (host := "") (hw _ (List.mem_of_getElem? (i := 13) rfl)) Via.refl e103 (F0.2.2.1.ext O103.2) (g := (mkF m 5 #[.val (.ref aFFDHE3072), .val (.ref b1), .val (.ref a103)] [])) rfl (hb hby d_prog_1_method_3_5)
  refine own_go st106 ?_
  show OwnGo p e below _ (T106.setTop (mkF m 8 #[.val (.ref aFFDHE3072), .val (.ref b1), .val (.ref a103)] [(.ref aCONFIRMATION)]))
  refine own_go (fun _ k => XS.aloadN X106.here hx rfl (hb hby d_prog_1_method_3_8) rfl rfl k) ?_
  show OwnGo p e below _ (T106.setTop (mkF m 9 #[.val (.ref aFFDHE3072), .val (.ref b1), .val (.ref a103)] [(.ref a103), (.ref aCONFIRMATION)]))
  refine own_go (fun _ k => XS.aloadN X106.here hx rfl (hb hby d_prog_1_method_3_9) rfl rfl k) ?_
  show OwnGo p e below _ (T106.setTop (mkF m 10 #[.val (.ref aFFDHE3072), .val (.ref b1), .val (.ref a103)] [(.ref aFFDHE3072), (.ref a103), (.ref aCONFIRMATION)]))
  obtain ⟨cq107, kq107, qa107, qb107, qc107⟩ := isOf hZ e106 (F0.2.2.2.1.ext O103.2)
  obtain ⟨_, _, ⟨T107, L107, k107, n107⟩, -, X107, ⟨Lc107, hQ107, l107, y107, z107⟩, st107⟩ := X106.virtualBack hx (y := (⟨"com/example/portcullis/portcullis/MessageType", "writeHeader", "([BLcom/example/portcullis/portcullis/Group;)V"⟩ : MethodName)) (z := (⟨"com/example/portcullis/portcullis/MessageType", "writeHeader", "([BLcom/example/portcullis/portcullis/Group;)V"⟩ : MethodName)) hown (mvT hZ (hw _ (List.mem_of_getElem? (i := 16) rfl))) (mvT hZ (hw _ (List.mem_of_getElem? (i := 17) rfl))) (notFace_of_selects (args := #[]) (mvT hZ (hw _ (List.mem_of_getElem? (i := 19) rfl)))) (mvT hZ (hw _ (List.mem_of_getElem? (i := 19) rfl))) (mvT hZ (hw _ (List.mem_of_getElem? (i := 18) rfl))) (by decide) (backOf (W := 0) (rm_wraFFDHE3072 l Z a0 hw [] aFFDHE2048 aCONFIRMATION aFFDHE4096 aFFDHE3072 F0 a103 k103 (0 : Int32) (0 : Int32) (0 : Int32) (0 : Int32) (0 : Int32) (0 : Int32) (0 : Int32) (0 : Int32) (0 : Int32) (0 : Int32) (0 : Int32) (0 : Int32) (0 : Int32) (0 : Int32) (0 : Int32) (0 : Int32) (0 : Int32) (0 : Int32) (0 : Int32) (0 : Int32) (0 : Int32) (0 : Int32) (0 : Int32) (0 : Int32) (0 : Int32) (0 : Int32) (0 : Int32) (0 : Int32) (0 : Int32) (0 : Int32) (0 : Int32) (0 : Int32) (0 : Int32) (0 : Int32) (0 : Int32) h103 n0 O103 V103 ge103) hZ (hw _ (List.mem_of_getElem? (i := 20) rfl)) (hw _ (List.mem_of_getElem? (i := 14) rfl)) (by decide) (by decide)) qa107 qc107 (g := (mkF m 10 #[.val (.ref aFFDHE3072), .val (.ref b1), .val (.ref a103)] [(.ref aFFDHE3072), (.ref a103), (.ref aCONFIRMATION)])) rfl (by rw [hml]; rfl) (Steps.refl _) (argsL := [(.ref a103), (.ref aFFDHE3072)]) (rest := []) (lenOf pd__B_Lcom_example_portcullis_portcullis_Group___V rfl) rfl (by show 2 * 0 + _ ≤ _; exact Nat.le_of_eq rfl) (hb hby d_prog_1_method_3_10) (fun _ _ => ⟨rfl, e106, (by decide : 1 + 0 ≤ _), (by decide : 35 + 0 ≤ _)⟩)
  dsimp only [Pt.U, Pt.locs, Pt.cells, Pt.slots] at X107 l107 y107 z107 st107 hQ107
  subst l107 y107 z107
  obtain ⟨rfl, Nq107, K107, x107_0⟩ := hQ107
  have N107 := Fr.app N0 Nq107
  have O107 := O103.keep K107 (allS ge103 all0)
  have e107 : T107.heap = T107.heap := rfl
  have z108 : h0.size ≤ T107.heap.size := Nat.le_trans z105 K107.1
  refine own_go (fun _ k => st107.trans k) ?_
  show OwnGo p e below _ (T107.setTop (mkF m 13 #[.val (.ref aFFDHE3072), .val (.ref b1), .val (.ref a103)] []))
  refine own_go (fun _ k => XS.aloadN X107.here hx rfl (hb hby d_prog_1_method_3_13) rfl rfl k) ?_
  show OwnGo p e below _ (T107.setTop (mkF m 14 #[.val (.ref aFFDHE3072), .val (.ref b1), .val (.ref a103)] [(.ref b1)]))
  refine own_go (fun _ k => XS.iconst X107.here hx rfl (hb hby d_prog_1_method_3_14) k) ?_
  show OwnGo p e below _ (T107.setTop (mkF m 15 #[.val (.ref aFFDHE3072), .val (.ref b1), .val (.ref a103)] [(.int (0 : Int32)), (.ref b1)]))
  refine own_go (fun _ k => XS.aloadN X107.here hx rfl (hb hby d_prog_1_method_3_15) rfl rfl k) ?_
  show OwnGo p e below _ (T107.setTop (mkF m 16 #[.val (.ref aFFDHE3072), .val (.ref b1), .val (.ref a103)] [(.ref a103), (.int (0 : Int32)), (.ref b1)]))
  refine own_go (fun _ k => XS.iconst X107.here hx rfl (hb hby d_prog_1_method_3_16) k) ?_
  show OwnGo p e below _ (T107.setTop (mkF m 17 #[.val (.ref aFFDHE3072), .val (.ref b1), .val (.ref a103)] [(.int (3 : Int32)), (.ref a103), (.int (0 : Int32)), (.ref b1)]))
  refine own_go (fun _ k => XS.aloadN X107.here hx rfl (hb hby d_prog_1_method_3_17) rfl rfl k) ?_
  show OwnGo p e below _ (T107.setTop (mkF m 18 #[.val (.ref aFFDHE3072), .val (.ref b1), .val (.ref a103)] [(.ref b1), (.int (3 : Int32)), (.ref a103), (.int (0 : Int32)), (.ref b1)]))
  have F109 := ((VA.ext E103).keep K107 (ninS ne104 nin0))
  obtain ⟨c110, Ar110, q110, S110, M110, H110, G110⟩ := (id F109)
  refine own_go (fun _ k => X107.arraylength hx (cell := c110) (by rw [e107]; exact Ar110.1) (State.isArrayOf_alike hZ.alike Ar110.2.1) (g := (mkF m 18 #[.val (.ref aFFDHE3072), .val (.ref b1), .val (.ref a103)] [(.ref b1), (.int (3 : Int32)), (.ref a103), (.int (0 : Int32)), (.ref b1)])) rfl (rest := [(.int (3 : Int32)), (.ref a103), (.int (0 : Int32)), (.ref b1)]) rfl (hb hby d_prog_1_method_3_18) _ k) ?_
  rw [len_of S110 M110]
  show OwnGo p e below _ (T107.setTop (mkF m 19 #[.val (.ref aFFDHE3072), .val (.ref b1), .val (.ref a103)] [(.int (32 : Int32)), (.int (3 : Int32)), (.ref a103), (.int (0 : Int32)), (.ref b1)]))
  obtain ⟨T111, h111, L111, X111, e111, N111, K111, V111, st111⟩ := cpA X107 hx hZ hown (hw _ (List.mem_of_getElem? (i := 30) rfl)) (hw _ (List.mem_of_getElem? (i := 33) rfl)) (hw _ (List.mem_of_getElem? (i := 31) rfl)) (hw _ (List.mem_of_getElem? (i := 32) rfl)) e107 F109 x107_0 (us := [(.int u0), (.int u1), (.int u2), (.int u3), (.int u4), (.int u5), (.int u6), (.int u7), (.int u8), (.int u9), (.int u10), (.int u11), (.int u12), (.int u13), (.int u14), (.int u15), (.int u16), (.int u17), (.int u18), (.int u19), (.int u20), (.int u21), (.int u22), (.int u23), (.int u24), (.int u25), (.int u26), (.int u27), (.int u28), (.int u29), (.int u30), (.int u31)]) (Or.inl ⟨rfl, rfl⟩) (by decide) (by decide) (by decide) (by decide) (by decide) rfl (Nat.le_of_ble_eq_true rfl) N107 ge103 (g := (mkF m 19 #[.val (.ref aFFDHE3072), .val (.ref b1), .val (.ref a103)] [(.int (32 : Int32)), (.int (3 : Int32)), (.ref a103), (.int (0 : Int32)), (.ref b1)])) rfl (by rw [hml]; rfl) rfl (hb hby d_prog_1_method_3_19) (by decide) (W := 0) (by show 2 * 0 + _ ≤ _; exact Nat.le_of_eq rfl) (by decide)
  have O111 := O107.keep K111 (allS ge103 all0)
  have z112 : h0.size ≤ h111.size := Nat.le_trans z108 K111.1
  have F113 : Arv Z h111 a103 k103 .byte (35 : Int32) [(.int (1 : Int32)), (.int (2 : Int32)), (.int (2 : Int32)), (.int u0), (.int u1), (.int u2), (.int u3), (.int u4), (.int u5), (.int u6), (.int u7), (.int u8), (.int u9), (.int u10), (.int u11), (.int u12), (.int u13), (.int u14), (.int u15), (.int u16), (.int u17), (.int u18), (.int u19), (.int u20), (.int u21), (.int u22), (.int u23), (.int u24), (.int u25), (.int u26), (.int u27), (.int u28), (.int u29), (.int u30), (.int u31)] (.int (0 : Int32)) := V111
  refine own_go st111 ?_
  show OwnGo p e below _ (T111.setTop (mkF m 22 #[.val (.ref aFFDHE3072), .val (.ref b1), .val (.ref a103)] []))
  refine own_go (fun _ k => XS.aloadN X111.here hx rfl (hb hby d_prog_1_method_3_22) rfl rfl k) ?_
  show OwnGo p e below _ (T111.setTop (mkF m 23 #[.val (.ref aFFDHE3072), .val (.ref b1), .val (.ref a103)] [(.ref a103)]))
  obtain ⟨fs, hr, hrun, hended, hW, hsame⟩ := X111.leave (v := some (.ref a103)) (fun h => by rw [Bd.returns] at h; cases h)
  refine ⟨_, _, retOut X111 hx Bd.returns rfl (Or.inr (Or.inr (Or.inr (Or.inr ⟨rfl, rfl, rfl⟩)))) (hb hby d_prog_1_method_3_23) hr, hrun, hended, _, _, rfl, ?_, ⟨_, rfl⟩, hW, hsame.mono (by decide) (by decide)⟩
  show Q_encaFFDHE3072 Z aFFDHE2048 aCONFIRMATION aFFDHE4096 aFFDHE3072 b1 k1 u0 u1 u2 u3 u4 u5 u6 u7 u8 u9 u10 u11 u12 u13 u14 u15 u16 u17 u18 u19 u20 u21 u22 u23 u24 u25 u26 u27 u28 u29 u30 u31 h0 n0 _ T111.heap _
  rw [e111]
  exact ⟨a103, k103, rfl, N111, ((((Keep.refl _ []).ext E103).trans K107 (allS (P := fun x => x ∈ _ ∨ _ ≤ x) (Or.inr gh103) all0)).trans K111 (allS (P := fun x => x ∈ _ ∨ _ ≤ x) (Or.inr gh103) all0)), F113, gh103⟩
def Q_encaFFDHE4096 (Z : State) (aFFDHE2048 aCONFIRMATION aFFDHE4096 aFFDHE3072 : Addr) (b1 : Addr) (k1 : ClassId) (u0 : Int32) (u1 : Int32) (u2 : Int32) (u3 : Int32) (u4 : Int32) (u5 : Int32) (u6 : Int32) (u7 : Int32) (u8 : Int32) (u9 : Int32) (u10 : Int32) (u11 : Int32) (u12 : Int32) (u13 : Int32) (u14 : Int32) (u15 : Int32) (u16 : Int32) (u17 : Int32) (u18 : Int32) (u19 : Int32) (u20 : Int32) (u21 : Int32) (u22 : Int32) (u23 : Int32) (u24 : Int32) (u25 : Int32) (u26 : Int32) (u27 : Int32) (u28 : Int32) (u29 : Int32) (u30 : Int32) (u31 : Int32) (h0 : Heap) (n0 : Nat) (v : Option Value) (h : Heap) (L : List Loc) : Prop := ∃ (r9 : Addr) (k9 : ClassId), v = some (.ref r9) ∧ Fr n0 L ∧ Keep h0 h [] ∧ Arv Z h r9 k9 .byte (35 : Int32) [(.int (1 : Int32)), (.int (2 : Int32)), (.int (3 : Int32)), (.int u0), (.int u1), (.int u2), (.int u3), (.int u4), (.int u5), (.int u6), (.int u7), (.int u8), (.int u9), (.int u10), (.int u11), (.int u12), (.int u13), (.int u14), (.int u15), (.int u16), (.int u17), (.int u18), (.int u19), (.int u20), (.int u21), (.int u22), (.int u23), (.int u24), (.int u25), (.int u26), (.int u27), (.int u28), (.int u29), (.int u30), (.int u31)] (.int (0 : Int32)) ∧ h0.size ≤ r9
theorem ef_encaFFDHE4096 (m : MethodId) (x0 : Addr) (x1 : Addr) : entryFrame m #[(.ref x0), (.ref x1)] 3 = mkF m 0 #[.val (.ref x0), .val (.ref x1), .unset] [] := by first | (simp [entryFrame, mkF, argsToLocals, Value.category]; done) | rfl
set_option maxRecDepth 65536 in
set_option maxHeartbeats 40000000 in
theorem rm_encaFFDHE4096 (l : Launch) (Z : State) (a0 : Array Value) (hw : ∀ d ∈ tables_1, d.before a0 Z = true) (ws : List Jvm.Cond) (aFFDHE2048 aCONFIRMATION aFFDHE4096 aFFDHE3072 : Addr) (F0 : OwnFacts Z aFFDHE2048 aCONFIRMATION aFFDHE4096 aFFDHE3072) (b1 : Addr) (k1 : ClassId) (u0 : Int32) (u1 : Int32) (u2 : Int32) (u3 : Int32) (u4 : Int32) (u5 : Int32) (u6 : Int32) (u7 : Int32) (u8 : Int32) (u9 : Int32) (u10 : Int32) (u11 : Int32) (u12 : Int32) (u13 : Int32) (u14 : Int32) (u15 : Int32) (u16 : Int32) (u17 : Int32) (u18 : Int32) (u19 : Int32) (u20 : Int32) (u21 : Int32) (u22 : Int32) (u23 : Int32) (u24 : Int32) (u25 : Int32) (u26 : Int32) (u27 : Int32) (u28 : Int32) (u29 : Int32) (u30 : Int32) (u31 : Int32) (h0 : Heap) (n0 : Nat) (O0 : Old Z n0 h0) (VA : Arv Z h0 b1 k1 .byte (32 : Int32) [(.int u0), (.int u1), (.int u2), (.int u3), (.int u4), (.int u5), (.int u6), (.int u7), (.int u8), (.int u9), (.int u10), (.int u11), (.int u12), (.int u13), (.int u14), (.int u15), (.int u16), (.int u17), (.int u18), (.int u19), (.int u20), (.int u21), (.int u22), (.int u23), (.int u24), (.int u25), (.int u26), (.int u27), (.int u28), (.int u29), (.int u30), (.int u31)] (.int (0 : Int32))) :
    MetFree l (⟨"com/example/portcullis/portcullis/Confirmation", "encode", "(Lcom/example/portcullis/portcullis/Group;[B)[B"⟩ : MethodName) (head1 (Jvm.Cond.code (⟨"com/example/portcullis/portcullis/Confirmation", "encode", "(Lcom/example/portcullis/portcullis/Group;[B)[B"⟩ : MethodName) prog_1_method_3_code 3 (some (.array .byte)) :: ws) ({ frames := 2, cells := 1, slots := 35, locals := 28 } : Room)) (fun a U => a = #[(.ref aFFDHE4096), (.ref b1)] ∧ Z.Warmed39 U.vm ∧ U.heap = h0) (fun _ _ _ _ _ => True) (fun _ U o U' => ∃ v L, o = .returned v ∧ Q_encaFFDHE4096 Z aFFDHE2048 aCONFIRMATION aFFDHE4096 aFFDHE3072 b1 k1 u0 u1 u2 u3 u4 u5 u6 u7 u8 u9 u10 u11 u12 u13 u14 u15 u16 u17 u18 u19 u20 u21 u22 u23 u24 u25 u26 u27 u28 u29 u30 u31 h0 n0 v U'.heap L ∧ FrameEnd U o U' L ({ frames := 2, cells := 1, slots := 35, locals := 28 } : Room).cells ({ frames := 2, cells := 1, slots := 35, locals := 28 } : Room).slots) := by
  refine MetFree.of_bodySF (plainFor_of_name pn_com_example_portcullis_portcullis_Confirmation) hisR ?_
  intro p e s m args below meth c s₁ Bd hml0 hP hK
  obtain ⟨rfl, hZ, hh⟩ := hP
  have hx := Bd.exec
  have hby := Bd.bytes
  have hml : c.maxLocals = 3 := hml0
  have hown : s.vm.findClass "com/example/portcullis/portcullis/Confirmation" = some m.cls := findClass_of_methodNamed Bd.named
  have hnm := (name_of_methodNamed Bd.named Bd.method).1
  have X0 : Stand p l e ({ frames := 2, cells := 1, slots := 35, locals := 28 } : Room) s m #[(.ref aFFDHE4096), (.ref b1)] below meth c s₁ [] 0 0 := Stand.of_body Bd
  have e0 : s₁.heap = h0 := by rw [← hh, Bd.state]; rfl
  have N0 := Fr.nil n0
  refine own_go (Q := fun o U' => ∃ v L, o = .returned v ∧ Q_encaFFDHE4096 Z aFFDHE2048 aCONFIRMATION aFFDHE4096 aFFDHE3072 b1 k1 u0 u1 u2 u3 u4 u5 u6 u7 u8 u9 u10 u11 u12 u13 u14 u15 u16 u17 u18 u19 u20 u21 u22 u23 u24 u25 u26 u27 u28 u29 u30 u31 h0 n0 v U'.heap L ∧ FrameEnd s o U' L ({ frames := 2, cells := 1, slots := 35, locals := 28 } : Room).cells ({ frames := 2, cells := 1, slots := 35, locals := 28 } : Room).slots) (fun t k => castTop (ef_encaFFDHE4096 m aFFDHE4096 b1) k) ?_
  show OwnGo p e below _ (s₁.setTop (mkF m 0 #[.val (.ref aFFDHE4096), .val (.ref b1), .unset] []))
  refine own_go (fun _ k => XS.bipush X0.here hx rfl (hb hby d_prog_1_method_3_0) k) ?_
  show OwnGo p e below _ (s₁.setTop (mkF m 2 #[.val (.ref aFFDHE4096), .val (.ref b1), .unset] [(.int (35 : Int32))]))
  obtain ⟨T114, h114, k114, X114, e114, E114, A114, st114⟩ := newP X0 hx hZ (hw _ (List.mem_of_getElem? (i := 4) rfl)) e0 (g := (mkF m 2 #[.val (.ref aFFDHE4096), .val (.ref b1), .unset] [(.int (35 : Int32))])) rfl (hb hby d_prog_1_method_3_2) rfl (by decide) (cap := 35) (by decide) (by decide) (by decide) (by decide)
  obtain ⟨a114, g114⟩ : ∃ z, z = h0.size := ⟨_, rfl⟩
  rw [← g114] at A114 st114
  have ge114 : n0 ≤ a114 := Nat.le_trans (own_sz O0) (Nat.le_of_eq g114.symm)
  have gh114 : h0.size ≤ a114 := Nat.le_trans (Nat.le_refl _) (Nat.le_of_eq g114.symm)
  have ne115 : b1 ≠ a114 := own_newne g114 VA.lt
  have O114 := O0.ext E114
  have z116 : h0.size ≤ h114.size := Nat.le_trans (Nat.le_refl _) E114.1
  have V114 : Arv Z h114 a114 k114 .byte (35 : Int32) [(.int (0 : Int32)), (.int (0 : Int32)), (.int (0 : Int32)), (.int (0 : Int32)), (.int (0 : Int32)), (.int (0 : Int32)), (.int (0 : Int32)), (.int (0 : Int32)), (.int (0 : Int32)), (.int (0 : Int32)), (.int (0 : Int32)), (.int (0 : Int32)), (.int (0 : Int32)), (.int (0 : Int32)), (.int (0 : Int32)), (.int (0 : Int32)), (.int (0 : Int32)), (.int (0 : Int32)), (.int (0 : Int32)), (.int (0 : Int32)), (.int (0 : Int32)), (.int (0 : Int32)), (.int (0 : Int32)), (.int (0 : Int32)), (.int (0 : Int32)), (.int (0 : Int32)), (.int (0 : Int32)), (.int (0 : Int32)), (.int (0 : Int32)), (.int (0 : Int32)), (.int (0 : Int32)), (.int (0 : Int32)), (.int (0 : Int32)), (.int (0 : Int32)), (.int (0 : Int32))] (.int (0 : Int32)) := (Arv.new A114 (by decide)).pad (pad_rep [] _ 35)
  refine own_go st114 ?_
  show OwnGo p e below _ (T114.setTop (mkF m 4 #[.val (.ref aFFDHE4096), .val (.ref b1), .unset] [(.ref a114)]))
  refine own_go (fun _ k => XS.astoreN X114.here hx rfl (hb hby d_prog_1_method_3_4) rfl rfl (l' := #[.val (.ref aFFDHE4096), .val (.ref b1), .val (.ref a114)]) rfl k) ?_
  show OwnGo p e below _ (T114.setTop (mkF m 5 #[.val (.ref aFFDHE4096), .val (.ref b1), .val (.ref a114)] []))
  obtain ⟨T117, X117, e117, st117⟩ := getS X114 hx hZ hown (host := "") (hw _ (List.mem_of_getElem? (i := 13) rfl)) Via.refl e114 (F0.2.2.1.ext O114.2) (g := (mkF m 5 #[.val (.ref aFFDHE4096), .val (.ref b1), .val (.ref a114)] [])) rfl (hb hby d_prog_1_method_3_5)
  refine own_go st117 ?_
  show OwnGo p e below _ (T117.setTop (mkF m 8 #[.val (.ref aFFDHE4096), .val (.ref b1), .val (.ref a114)] [(.ref aCONFIRMATION)]))
  refine own_go (fun _ k => XS.aloadN X117.here hx rfl (hb hby d_prog_1_method_3_8) rfl rfl k) ?_
  show OwnGo p e below _ (T117.setTop (mkF m 9 #[.val (.ref aFFDHE4096), .val (.ref b1), .val (.ref a114)] [(.ref a114), (.ref aCONFIRMATION)]))
  refine own_go (fun _ k => XS.aloadN X117.here hx rfl (hb hby d_prog_1_method_3_9) rfl rfl k) ?_
  show OwnGo p e below _ (T117.setTop (mkF m 10 #[.val (.ref aFFDHE4096), .val (.ref b1), .val (.ref a114)] [(.ref aFFDHE4096), (.ref a114), (.ref aCONFIRMATION)]))
  obtain ⟨cq118, kq118, qa118, qb118, qc118⟩ := isOf hZ e117 (F0.2.2.2.1.ext O114.2)
  obtain ⟨_, _, ⟨T118, L118, k118, n118⟩, -, X118, ⟨Lc118, hQ118, l118, y118, z118⟩, st118⟩ := X117.virtualBack hx (y := (⟨"com/example/portcullis/portcullis/MessageType", "writeHeader", "([BLcom/example/portcullis/portcullis/Group;)V"⟩ : MethodName)) (z := (⟨"com/example/portcullis/portcullis/MessageType", "writeHeader", "([BLcom/example/portcullis/portcullis/Group;)V"⟩ : MethodName)) hown (mvT hZ (hw _ (List.mem_of_getElem? (i := 16) rfl))) (mvT hZ (hw _ (List.mem_of_getElem? (i := 17) rfl))) (notFace_of_selects (args := #[]) (mvT hZ (hw _ (List.mem_of_getElem? (i := 19) rfl)))) (mvT hZ (hw _ (List.mem_of_getElem? (i := 19) rfl))) (mvT hZ (hw _ (List.mem_of_getElem? (i := 18) rfl))) (by decide) (backOf (W := 0) (rm_wraFFDHE4096 l Z a0 hw [] aFFDHE2048 aCONFIRMATION aFFDHE4096 aFFDHE3072 F0 a114 k114 (0 : Int32) (0 : Int32) (0 : Int32) (0 : Int32) (0 : Int32) (0 : Int32) (0 : Int32) (0 : Int32) (0 : Int32) (0 : Int32) (0 : Int32) (0 : Int32) (0 : Int32) (0 : Int32) (0 : Int32) (0 : Int32) (0 : Int32) (0 : Int32) (0 : Int32) (0 : Int32) (0 : Int32) (0 : Int32) (0 : Int32) (0 : Int32) (0 : Int32) (0 : Int32) (0 : Int32) (0 : Int32) (0 : Int32) (0 : Int32) (0 : Int32) (0 : Int32) (0 : Int32) (0 : Int32) (0 : Int32) h114 n0 O114 V114 ge114) hZ (hw _ (List.mem_of_getElem? (i := 20) rfl)) (hw _ (List.mem_of_getElem? (i := 14) rfl)) (by decide) (by decide)) qa118 qc118 (g := (mkF m 10 #[.val (.ref aFFDHE4096), .val (.ref b1), .val (.ref a114)] [(.ref aFFDHE4096), (.ref a114), (.ref aCONFIRMATION)])) rfl (by rw [hml]; rfl) (Steps.refl _) (argsL := [(.ref a114), (.ref aFFDHE4096)]) (rest := []) (lenOf pd__B_Lcom_example_portcullis_portcullis_Group___V rfl) rfl (by show 2 * 0 + _ ≤ _; exact Nat.le_of_eq rfl) (hb hby d_prog_1_method_3_10) (fun _ _ => ⟨rfl, e117, (by decide : 1 + 0 ≤ _), (by decide : 35 + 0 ≤ _)⟩)
  dsimp only [Pt.U, Pt.locs, Pt.cells, Pt.slots] at X118 l118 y118 z118 st118 hQ118
  subst l118 y118 z118
  obtain ⟨rfl, Nq118, K118, x118_0⟩ := hQ118
  have N118 := Fr.app N0 Nq118
  have O118 := O114.keep K118 (allS ge114 all0)
  have e118 : T118.heap = T118.heap := rfl
  have z119 : h0.size ≤ T118.heap.size := Nat.le_trans z116 K118.1
  refine own_go (fun _ k => st118.trans k) ?_
  show OwnGo p e below _ (T118.setTop (mkF m 13 #[.val (.ref aFFDHE4096), .val (.ref b1), .val (.ref a114)] []))
  refine own_go (fun _ k => XS.aloadN X118.here hx rfl (hb hby d_prog_1_method_3_13) rfl rfl k) ?_
  show OwnGo p e below _ (T118.setTop (mkF m 14 #[.val (.ref aFFDHE4096), .val (.ref b1), .val (.ref a114)] [(.ref b1)]))
  refine own_go (fun _ k => XS.iconst X118.here hx rfl (hb hby d_prog_1_method_3_14) k) ?_
  show OwnGo p e below _ (T118.setTop (mkF m 15 #[.val (.ref aFFDHE4096), .val (.ref b1), .val (.ref a114)] [(.int (0 : Int32)), (.ref b1)]))
  refine own_go (fun _ k => XS.aloadN X118.here hx rfl (hb hby d_prog_1_method_3_15) rfl rfl k) ?_
  show OwnGo p e below _ (T118.setTop (mkF m 16 #[.val (.ref aFFDHE4096), .val (.ref b1), .val (.ref a114)] [(.ref a114), (.int (0 : Int32)), (.ref b1)]))
  refine own_go (fun _ k => XS.iconst X118.here hx rfl (hb hby d_prog_1_method_3_16) k) ?_
  show OwnGo p e below _ (T118.setTop (mkF m 17 #[.val (.ref aFFDHE4096), .val (.ref b1), .val (.ref a114)] [(.int (3 : Int32)), (.ref a114), (.int (0 : Int32)), (.ref b1)]))
  refine own_go (fun _ k => XS.aloadN X118.here hx rfl (hb hby d_prog_1_method_3_17) rfl rfl k) ?_
  show OwnGo p e below _ (T118.setTop (mkF m 18 #[.val (.ref aFFDHE4096), .val (.ref b1), .val (.ref a114)] [(.ref b1), (.int (3 : Int32)), (.ref a114), (.int (0 : Int32)), (.ref b1)]))
  have F120 := ((VA.ext E114).keep K118 (ninS ne115 nin0))
  obtain ⟨c121, Ar121, q121, S121, M121, H121, G121⟩ := (id F120)
  refine own_go (fun _ k => X118.arraylength hx (cell := c121) (by rw [e118]; exact Ar121.1) (State.isArrayOf_alike hZ.alike Ar121.2.1) (g := (mkF m 18 #[.val (.ref aFFDHE4096), .val (.ref b1), .val (.ref a114)] [(.ref b1), (.int (3 : Int32)), (.ref a114), (.int (0 : Int32)), (.ref b1)])) rfl (rest := [(.int (3 : Int32)), (.ref a114), (.int (0 : Int32)), (.ref b1)]) rfl (hb hby d_prog_1_method_3_18) _ k) ?_
  rw [len_of S121 M121]
  show OwnGo p e below _ (T118.setTop (mkF m 19 #[.val (.ref aFFDHE4096), .val (.ref b1), .val (.ref a114)] [(.int (32 : Int32)), (.int (3 : Int32)), (.ref a114), (.int (0 : Int32)), (.ref b1)]))
  obtain ⟨T122, h122, L122, X122, e122, N122, K122, V122, st122⟩ := cpA X118 hx hZ hown (hw _ (List.mem_of_getElem? (i := 30) rfl)) (hw _ (List.mem_of_getElem? (i := 33) rfl)) (hw _ (List.mem_of_getElem? (i := 31) rfl)) (hw _ (List.mem_of_getElem? (i := 32) rfl)) e118 F120 x118_0 (us := [(.int u0), (.int u1), (.int u2), (.int u3), (.int u4), (.int u5), (.int u6), (.int u7), (.int u8), (.int u9), (.int u10), (.int u11), (.int u12), (.int u13), (.int u14), (.int u15), (.int u16), (.int u17), (.int u18), (.int u19), (.int u20), (.int u21), (.int u22), (.int u23), (.int u24), (.int u25), (.int u26), (.int u27), (.int u28), (.int u29), (.int u30), (.int u31)]) (Or.inl ⟨rfl, rfl⟩) (by decide) (by decide) (by decide) (by decide) (by decide) rfl (Nat.le_of_ble_eq_true rfl) N118 ge114 (g := (mkF m 19 #[.val (.ref aFFDHE4096), .val (.ref b1), .val (.ref a114)] [(.int (32 : Int32)), (.int (3 : Int32)), (.ref a114), (.int (0 : Int32)), (.ref b1)])) rfl (by rw [hml]; rfl) rfl (hb hby d_prog_1_method_3_19) (by decide) (W := 0) (by show 2 * 0 + _ ≤ _; exact Nat.le_of_eq rfl) (by decide)
  have O122 := O118.keep K122 (allS ge114 all0)
  have z123 : h0.size ≤ h122.size := Nat.le_trans z119 K122.1
  have F124 : Arv Z h122 a114 k114 .byte (35 : Int32) [(.int (1 : Int32)), (.int (2 : Int32)), (.int (3 : Int32)), (.int u0), (.int u1), (.int u2), (.int u3), (.int u4), (.int u5), (.int u6), (.int u7), (.int u8), (.int u9), (.int u10), (.int u11), (.int u12), (.int u13), (.int u14), (.int u15), (.int u16), (.int u17), (.int u18), (.int u19), (.int u20), (.int u21), (.int u22), (.int u23), (.int u24), (.int u25), (.int u26), (.int u27), (.int u28), (.int u29), (.int u30), (.int u31)] (.int (0 : Int32)) := V122
  refine own_go st122 ?_
  show OwnGo p e below _ (T122.setTop (mkF m 22 #[.val (.ref aFFDHE4096), .val (.ref b1), .val (.ref a114)] []))
  refine own_go (fun _ k => XS.aloadN X122.here hx rfl (hb hby d_prog_1_method_3_22) rfl rfl k) ?_
  show OwnGo p e below _ (T122.setTop (mkF m 23 #[.val (.ref aFFDHE4096), .val (.ref b1), .val (.ref a114)] [(.ref a114)]))
  obtain ⟨fs, hr, hrun, hended, hW, hsame⟩ := X122.leave (v := some (.ref a114)) (fun h => by rw [Bd.returns] at h; cases h)
  refine ⟨_, _, retOut X122 hx Bd.returns rfl (Or.inr (Or.inr (Or.inr (Or.inr ⟨rfl, rfl, rfl⟩)))) (hb hby d_prog_1_method_3_23) hr, hrun, hended, _, _, rfl, ?_, ⟨_, rfl⟩, hW, hsame.mono (by decide) (by decide)⟩
  show Q_encaFFDHE4096 Z aFFDHE2048 aCONFIRMATION aFFDHE4096 aFFDHE3072 b1 k1 u0 u1 u2 u3 u4 u5 u6 u7 u8 u9 u10 u11 u12 u13 u14 u15 u16 u17 u18 u19 u20 u21 u22 u23 u24 u25 u26 u27 u28 u29 u30 u31 h0 n0 _ T122.heap _
  rw [e122]
  exact ⟨a114, k114, rfl, N122, ((((Keep.refl _ []).ext E114).trans K118 (allS (P := fun x => x ∈ _ ∨ _ ≤ x) (Or.inr gh114) all0)).trans K122 (allS (P := fun x => x ∈ _ ∨ _ ≤ x) (Or.inr gh114) all0)), F124, gh114⟩
theorem d_method_4_0 : decode method_4_code 0 = .ok (.aload_n 0, 1) := by decide +kernel
theorem d_method_4_1 : decode method_4_code 1 = .ok (.iload_n 1, 1) := by decide +kernel
theorem d_method_4_2 : decode method_4_code 2 = .ok (.baload, 1) := by decide +kernel
theorem d_method_4_3 : decode method_4_code 3 = .ok (.lload_n 2, 1) := by decide +kernel
theorem d_method_4_4 : decode method_4_code 4 = .ok (.bipush 56, 2) := by decide +kernel
theorem d_method_4_6 : decode method_4_code 6 = .ok (.lushr, 1) := by decide +kernel
theorem d_method_4_7 : decode method_4_code 7 = .ok (.l2i, 1) := by decide +kernel
theorem d_method_4_8 : decode method_4_code 8 = .ok (.i2b, 1) := by decide +kernel
theorem d_method_4_9 : decode method_4_code 9 = .ok (.if_icmp .ne 104, 3) := by decide +kernel
theorem d_method_4_12 : decode method_4_code 12 = .ok (.aload_n 0, 1) := by decide +kernel
theorem d_method_4_13 : decode method_4_code 13 = .ok (.iload_n 1, 1) := by decide +kernel
theorem d_method_4_14 : decode method_4_code 14 = .ok (.iconst 1, 1) := by decide +kernel
theorem d_method_4_15 : decode method_4_code 15 = .ok (.iadd, 1) := by decide +kernel
theorem d_method_4_16 : decode method_4_code 16 = .ok (.baload, 1) := by decide +kernel
theorem d_method_4_17 : decode method_4_code 17 = .ok (.lload_n 2, 1) := by decide +kernel
theorem d_method_4_18 : decode method_4_code 18 = .ok (.bipush 48, 2) := by decide +kernel
theorem d_method_4_20 : decode method_4_code 20 = .ok (.lushr, 1) := by decide +kernel
theorem d_method_4_21 : decode method_4_code 21 = .ok (.l2i, 1) := by decide +kernel
theorem d_method_4_22 : decode method_4_code 22 = .ok (.i2b, 1) := by decide +kernel
theorem d_method_4_23 : decode method_4_code 23 = .ok (.if_icmp .ne 90, 3) := by decide +kernel
theorem d_method_4_26 : decode method_4_code 26 = .ok (.aload_n 0, 1) := by decide +kernel
theorem d_method_4_27 : decode method_4_code 27 = .ok (.iload_n 1, 1) := by decide +kernel
theorem d_method_4_28 : decode method_4_code 28 = .ok (.iconst 2, 1) := by decide +kernel
theorem d_method_4_29 : decode method_4_code 29 = .ok (.iadd, 1) := by decide +kernel
theorem d_method_4_30 : decode method_4_code 30 = .ok (.baload, 1) := by decide +kernel
theorem d_method_4_31 : decode method_4_code 31 = .ok (.lload_n 2, 1) := by decide +kernel
theorem d_method_4_32 : decode method_4_code 32 = .ok (.bipush 40, 2) := by decide +kernel
theorem d_method_4_34 : decode method_4_code 34 = .ok (.lushr, 1) := by decide +kernel
theorem d_method_4_35 : decode method_4_code 35 = .ok (.l2i, 1) := by decide +kernel
theorem d_method_4_36 : decode method_4_code 36 = .ok (.i2b, 1) := by decide +kernel
theorem d_method_4_37 : decode method_4_code 37 = .ok (.if_icmp .ne 76, 3) := by decide +kernel
theorem d_method_4_40 : decode method_4_code 40 = .ok (.aload_n 0, 1) := by decide +kernel
theorem d_method_4_41 : decode method_4_code 41 = .ok (.iload_n 1, 1) := by decide +kernel
theorem d_method_4_42 : decode method_4_code 42 = .ok (.iconst 3, 1) := by decide +kernel
theorem d_method_4_43 : decode method_4_code 43 = .ok (.iadd, 1) := by decide +kernel
theorem d_method_4_44 : decode method_4_code 44 = .ok (.baload, 1) := by decide +kernel
theorem d_method_4_45 : decode method_4_code 45 = .ok (.lload_n 2, 1) := by decide +kernel
theorem d_method_4_46 : decode method_4_code 46 = .ok (.bipush 32, 2) := by decide +kernel
theorem d_method_4_48 : decode method_4_code 48 = .ok (.lushr, 1) := by decide +kernel
theorem d_method_4_49 : decode method_4_code 49 = .ok (.l2i, 1) := by decide +kernel
theorem d_method_4_50 : decode method_4_code 50 = .ok (.i2b, 1) := by decide +kernel
theorem d_method_4_51 : decode method_4_code 51 = .ok (.if_icmp .ne 62, 3) := by decide +kernel
theorem d_method_4_54 : decode method_4_code 54 = .ok (.aload_n 0, 1) := by decide +kernel
theorem d_method_4_55 : decode method_4_code 55 = .ok (.iload_n 1, 1) := by decide +kernel
theorem d_method_4_56 : decode method_4_code 56 = .ok (.iconst 4, 1) := by decide +kernel
theorem d_method_4_57 : decode method_4_code 57 = .ok (.iadd, 1) := by decide +kernel
theorem d_method_4_58 : decode method_4_code 58 = .ok (.baload, 1) := by decide +kernel
theorem d_method_4_59 : decode method_4_code 59 = .ok (.lload_n 2, 1) := by decide +kernel
theorem d_method_4_60 : decode method_4_code 60 = .ok (.bipush 24, 2) := by decide +kernel
theorem d_method_4_62 : decode method_4_code 62 = .ok (.lushr, 1) := by decide +kernel
theorem d_method_4_63 : decode method_4_code 63 = .ok (.l2i, 1) := by decide +kernel
theorem d_method_4_64 : decode method_4_code 64 = .ok (.i2b, 1) := by decide +kernel
theorem d_method_4_65 : decode method_4_code 65 = .ok (.if_icmp .ne 48, 3) := by decide +kernel
theorem d_method_4_68 : decode method_4_code 68 = .ok (.aload_n 0, 1) := by decide +kernel
theorem d_method_4_69 : decode method_4_code 69 = .ok (.iload_n 1, 1) := by decide +kernel
theorem d_method_4_70 : decode method_4_code 70 = .ok (.iconst 5, 1) := by decide +kernel
theorem d_method_4_71 : decode method_4_code 71 = .ok (.iadd, 1) := by decide +kernel
theorem d_method_4_72 : decode method_4_code 72 = .ok (.baload, 1) := by decide +kernel
theorem d_method_4_73 : decode method_4_code 73 = .ok (.lload_n 2, 1) := by decide +kernel
theorem d_method_4_74 : decode method_4_code 74 = .ok (.bipush 16, 2) := by decide +kernel
theorem d_method_4_76 : decode method_4_code 76 = .ok (.lushr, 1) := by decide +kernel
theorem d_method_4_77 : decode method_4_code 77 = .ok (.l2i, 1) := by decide +kernel
theorem d_method_4_78 : decode method_4_code 78 = .ok (.i2b, 1) := by decide +kernel
theorem d_method_4_79 : decode method_4_code 79 = .ok (.if_icmp .ne 34, 3) := by decide +kernel
theorem d_method_4_82 : decode method_4_code 82 = .ok (.aload_n 0, 1) := by decide +kernel
theorem d_method_4_83 : decode method_4_code 83 = .ok (.iload_n 1, 1) := by decide +kernel
theorem d_method_4_84 : decode method_4_code 84 = .ok (.bipush 6, 2) := by decide +kernel
theorem d_method_4_86 : decode method_4_code 86 = .ok (.iadd, 1) := by decide +kernel
theorem d_method_4_87 : decode method_4_code 87 = .ok (.baload, 1) := by decide +kernel
theorem d_method_4_88 : decode method_4_code 88 = .ok (.lload_n 2, 1) := by decide +kernel
theorem d_method_4_89 : decode method_4_code 89 = .ok (.bipush 8, 2) := by decide +kernel
theorem d_method_4_91 : decode method_4_code 91 = .ok (.lushr, 1) := by decide +kernel
theorem d_method_4_92 : decode method_4_code 92 = .ok (.l2i, 1) := by decide +kernel
theorem d_method_4_93 : decode method_4_code 93 = .ok (.i2b, 1) := by decide +kernel
theorem d_method_4_94 : decode method_4_code 94 = .ok (.if_icmp .ne 19, 3) := by decide +kernel
theorem d_method_4_97 : decode method_4_code 97 = .ok (.aload_n 0, 1) := by decide +kernel
theorem d_method_4_98 : decode method_4_code 98 = .ok (.iload_n 1, 1) := by decide +kernel
theorem d_method_4_99 : decode method_4_code 99 = .ok (.bipush 7, 2) := by decide +kernel
theorem d_method_4_101 : decode method_4_code 101 = .ok (.iadd, 1) := by decide +kernel
theorem d_method_4_102 : decode method_4_code 102 = .ok (.baload, 1) := by decide +kernel
theorem d_method_4_103 : decode method_4_code 103 = .ok (.lload_n 2, 1) := by decide +kernel
theorem d_method_4_104 : decode method_4_code 104 = .ok (.l2i, 1) := by decide +kernel
theorem d_method_4_105 : decode method_4_code 105 = .ok (.i2b, 1) := by decide +kernel
theorem d_method_4_106 : decode method_4_code 106 = .ok (.if_icmp .ne 7, 3) := by decide +kernel
theorem d_method_4_109 : decode method_4_code 109 = .ok (.iconst 1, 1) := by decide +kernel
theorem d_method_4_110 : decode method_4_code 110 = .ok (.goto 4, 3) := by decide +kernel
theorem d_method_4_114 : decode method_4_code 114 = .ok (.ireturn, 1) := by decide +kernel
def Q_same3 (Z : State) (aFFDHE2048 aCONFIRMATION aFFDHE4096 aFFDHE3072 : Addr) (b1 : Addr) (q3 : Int64) (k1 : ClassId) (u0 : Int32) (u1 : Int32) (u2 : Int32) (u11 : Int32) (u12 : Int32) (u13 : Int32) (u14 : Int32) (u15 : Int32) (u16 : Int32) (u17 : Int32) (u18 : Int32) (u19 : Int32) (u20 : Int32) (u21 : Int32) (u22 : Int32) (u23 : Int32) (u24 : Int32) (u25 : Int32) (u26 : Int32) (u27 : Int32) (u28 : Int32) (u29 : Int32) (u30 : Int32) (u31 : Int32) (u32 : Int32) (u33 : Int32) (u34 : Int32) (h0 : Heap) (n0 : Nat) (v : Option Value) (h : Heap) (L : List Loc) : Prop := v = some (.int (1 : Int32)) ∧ Fr n0 L ∧ h = h0
theorem ef_same3 (m : MethodId) (x0 : Addr) (x1 : Int32) (x2 : Int64) : entryFrame m #[(.ref x0), (.int x1), (.long x2)] 4 = mkF m 0 #[.val (.ref x0), .val (.int x1), .val (.long x2), .second] [] := by first | (simp [entryFrame, mkF, argsToLocals, Value.category]; done) | rfl
set_option maxRecDepth 65536 in
set_option maxHeartbeats 40000000 in
theorem rm_same3 (l : Launch) (Z : State) (a0 : Array Value) (hw : ∀ d ∈ tables_1, d.before a0 Z = true) (ws : List Jvm.Cond) (aFFDHE2048 aCONFIRMATION aFFDHE4096 aFFDHE3072 : Addr) (F0 : OwnFacts Z aFFDHE2048 aCONFIRMATION aFFDHE4096 aFFDHE3072) (b1 : Addr) (q3 : Int64) (k1 : ClassId) (u0 : Int32) (u1 : Int32) (u2 : Int32) (u11 : Int32) (u12 : Int32) (u13 : Int32) (u14 : Int32) (u15 : Int32) (u16 : Int32) (u17 : Int32) (u18 : Int32) (u19 : Int32) (u20 : Int32) (u21 : Int32) (u22 : Int32) (u23 : Int32) (u24 : Int32) (u25 : Int32) (u26 : Int32) (u27 : Int32) (u28 : Int32) (u29 : Int32) (u30 : Int32) (u31 : Int32) (u32 : Int32) (u33 : Int32) (u34 : Int32) (h0 : Heap) (n0 : Nat) (O0 : Old Z n0 h0) (VA : Arv Z h0 b1 k1 .byte (35 : Int32) [(.int u0), (.int u1), (.int u2), (.int (((((((q3).toUInt64 >>> ((56 : Int32) &&& 0x3f).toInt64.toUInt64).toInt64)).toInt32)).toInt8.toInt32)), (.int (((((((q3).toUInt64 >>> ((48 : Int32) &&& 0x3f).toInt64.toUInt64).toInt64)).toInt32)).toInt8.toInt32)), (.int (((((((q3).toUInt64 >>> ((40 : Int32) &&& 0x3f).toInt64.toUInt64).toInt64)).toInt32)).toInt8.toInt32)), (.int (((((((q3).toUInt64 >>> ((32 : Int32) &&& 0x3f).toInt64.toUInt64).toInt64)).toInt32)).toInt8.toInt32)), (.int (((((((q3).toUInt64 >>> ((24 : Int32) &&& 0x3f).toInt64.toUInt64).toInt64)).toInt32)).toInt8.toInt32)), (.int (((((((q3).toUInt64 >>> ((16 : Int32) &&& 0x3f).toInt64.toUInt64).toInt64)).toInt32)).toInt8.toInt32)), (.int (((((((q3).toUInt64 >>> ((8 : Int32) &&& 0x3f).toInt64.toUInt64).toInt64)).toInt32)).toInt8.toInt32)), (.int ((((q3).toInt32)).toInt8.toInt32)), (.int u11), (.int u12), (.int u13), (.int u14), (.int u15), (.int u16), (.int u17), (.int u18), (.int u19), (.int u20), (.int u21), (.int u22), (.int u23), (.int u24), (.int u25), (.int u26), (.int u27), (.int u28), (.int u29), (.int u30), (.int u31), (.int u32), (.int u33), (.int u34)] (.int (0 : Int32))) :
    MetFree l (⟨"com/example/portcullis/portcullis/ConfirmationEncodePinLaw", "same", "([BIJ)Z"⟩ : MethodName) (head1 (Jvm.Cond.code (⟨"com/example/portcullis/portcullis/ConfirmationEncodePinLaw", "same", "([BIJ)Z"⟩ : MethodName) method_4_code 4 (some .boolean) :: ws) ({ frames := 0, cells := 0, slots := 0, locals := 0 } : Room)) (fun a U => a = #[(.ref b1), (.int (3 : Int32)), (.long q3)] ∧ Z.Warmed39 U.vm ∧ U.heap = h0) (fun _ _ _ _ _ => True) (fun _ U o U' => ∃ v L, o = .returned v ∧ Q_same3 Z aFFDHE2048 aCONFIRMATION aFFDHE4096 aFFDHE3072 b1 q3 k1 u0 u1 u2 u11 u12 u13 u14 u15 u16 u17 u18 u19 u20 u21 u22 u23 u24 u25 u26 u27 u28 u29 u30 u31 u32 u33 u34 h0 n0 v U'.heap L ∧ FrameEnd U o U' L ({ frames := 0, cells := 0, slots := 0, locals := 0 } : Room).cells ({ frames := 0, cells := 0, slots := 0, locals := 0 } : Room).slots) := by
  refine MetFree.of_bodySF (plainFor_of_name pn_com_example_portcullis_portcullis_ConfirmationEncodePinLaw) hisR ?_
  intro p e s m args below meth c s₁ Bd hml0 hP hK
  obtain ⟨rfl, hZ, hh⟩ := hP
  have hx := Bd.exec
  have hby := Bd.bytes
  have hml : c.maxLocals = 4 := hml0
  have hown : s.vm.findClass "com/example/portcullis/portcullis/ConfirmationEncodePinLaw" = some m.cls := findClass_of_methodNamed Bd.named
  have hnm := (name_of_methodNamed Bd.named Bd.method).1
  have X0 : Stand p l e ({ frames := 0, cells := 0, slots := 0, locals := 0 } : Room) s m #[(.ref b1), (.int (3 : Int32)), (.long q3)] below meth c s₁ [] 0 0 := Stand.of_body Bd
  have e0 : s₁.heap = h0 := by rw [← hh, Bd.state]; rfl
  have N0 := Fr.nil n0
  refine own_go (Q := fun o U' => ∃ v L, o = .returned v ∧ Q_same3 Z aFFDHE2048 aCONFIRMATION aFFDHE4096 aFFDHE3072 b1 q3 k1 u0 u1 u2 u11 u12 u13 u14 u15 u16 u17 u18 u19 u20 u21 u22 u23 u24 u25 u26 u27 u28 u29 u30 u31 u32 u33 u34 h0 n0 v U'.heap L ∧ FrameEnd s o U' L ({ frames := 0, cells := 0, slots := 0, locals := 0 } : Room).cells ({ frames := 0, cells := 0, slots := 0, locals := 0 } : Room).slots) (fun t k => castTop (ef_same3 m b1 (3 : Int32) q3) k) ?_
  show OwnGo p e below _ (s₁.setTop (mkF m 0 #[.val (.ref b1), .val (.int (3 : Int32)), .val (.long q3), .second] []))
  refine own_go (fun _ k => XS.aloadN X0.here hx rfl (hb hby d_method_4_0) rfl rfl k) ?_
  show OwnGo p e below _ (s₁.setTop (mkF m 1 #[.val (.ref b1), .val (.int (3 : Int32)), .val (.long q3), .second] [(.ref b1)]))
  refine own_go (fun _ k => XS.iloadN X0.here hx rfl (hb hby d_method_4_1) rfl k) ?_
  show OwnGo p e below _ (s₁.setTop (mkF m 2 #[.val (.ref b1), .val (.int (3 : Int32)), .val (.long q3), .second] [(.int (3 : Int32)), (.ref b1)]))
  obtain ⟨c125, Ar125, q125, S125, M125, H125, G125⟩ := (id VA)
  refine own_go (fun _ k => X0.baloadBytes hx (j := (3 : Int32)) (v := (.int (((((((q3).toUInt64 >>> ((56 : Int32) &&& 0x3f).toInt64.toUInt64).toInt64)).toInt32)).toInt8.toInt32))) (by rw [e0]; exact Ar125.1) (State.isArrayOf_alike hZ.alike Ar125.2.1) Ar125.2.2 (inb_of S125 ⟨by decide, by decide⟩) (Has.at H125 (inb_of S125 ⟨by decide, by decide⟩) rfl) (g := (mkF m 2 #[.val (.ref b1), .val (.int (3 : Int32)), .val (.long q3), .second] [(.int (3 : Int32)), (.ref b1)])) rfl rfl (hb hby d_method_4_2) _ k) ?_
  show OwnGo p e below _ (s₁.setTop (mkF m 3 #[.val (.ref b1), .val (.int (3 : Int32)), .val (.long q3), .second] [(.int (((((((q3).toUInt64 >>> ((56 : Int32) &&& 0x3f).toInt64.toUInt64).toInt64)).toInt32)).toInt8.toInt32))]))
  refine own_go (fun _ k => XS.lloadN X0.here hx rfl (hb hby d_method_4_3) rfl k) ?_
  show OwnGo p e below _ (s₁.setTop (mkF m 4 #[.val (.ref b1), .val (.int (3 : Int32)), .val (.long q3), .second] [(.long q3), (.int (((((((q3).toUInt64 >>> ((56 : Int32) &&& 0x3f).toInt64.toUInt64).toInt64)).toInt32)).toInt8.toInt32))]))
  refine own_go (fun _ k => XS.bipush X0.here hx rfl (hb hby d_method_4_4) k) ?_
  show OwnGo p e below _ (s₁.setTop (mkF m 6 #[.val (.ref b1), .val (.int (3 : Int32)), .val (.long q3), .second] [(.int (56 : Int32)), (.long q3), (.int (((((((q3).toUInt64 >>> ((56 : Int32) &&& 0x3f).toInt64.toUInt64).toInt64)).toInt32)).toInt8.toInt32))]))
  refine own_go (fun _ k => XS.lushr X0.here hx rfl (hb hby d_method_4_6) rfl k) ?_
  show OwnGo p e below _ (s₁.setTop (mkF m 7 #[.val (.ref b1), .val (.int (3 : Int32)), .val (.long q3), .second] [(.long (((q3).toUInt64 >>> ((56 : Int32) &&& 0x3f).toInt64.toUInt64).toInt64)), (.int (((((((q3).toUInt64 >>> ((56 : Int32) &&& 0x3f).toInt64.toUInt64).toInt64)).toInt32)).toInt8.toInt32))]))
  refine own_go (fun _ k => XS.l2i X0.here hx rfl (hb hby d_method_4_7) rfl k) ?_
  show OwnGo p e below _ (s₁.setTop (mkF m 8 #[.val (.ref b1), .val (.int (3 : Int32)), .val (.long q3), .second] [(.int (((((q3).toUInt64 >>> ((56 : Int32) &&& 0x3f).toInt64.toUInt64).toInt64)).toInt32)), (.int (((((((q3).toUInt64 >>> ((56 : Int32) &&& 0x3f).toInt64.toUInt64).toInt64)).toInt32)).toInt8.toInt32))]))
  refine own_go (fun _ k => XS.i2b X0.here hx rfl (hb hby d_method_4_8) rfl k) ?_
  show OwnGo p e below _ (s₁.setTop (mkF m 9 #[.val (.ref b1), .val (.int (3 : Int32)), .val (.long q3), .second] [(.int (((((((q3).toUInt64 >>> ((56 : Int32) &&& 0x3f).toInt64.toUInt64).toInt64)).toInt32)).toInt8.toInt32)), (.int (((((((q3).toUInt64 >>> ((56 : Int32) &&& 0x3f).toInt64.toUInt64).toInt64)).toInt32)).toInt8.toInt32))]))
  refine own_go (fun _ k => XS.icmpNo X0.here hx rfl (hb hby d_method_4_9) rfl (teq rfl).2 k) ?_
  show OwnGo p e below _ (s₁.setTop (mkF m 12 #[.val (.ref b1), .val (.int (3 : Int32)), .val (.long q3), .second] []))
  refine own_go (fun _ k => XS.aloadN X0.here hx rfl (hb hby d_method_4_12) rfl rfl k) ?_
  show OwnGo p e below _ (s₁.setTop (mkF m 13 #[.val (.ref b1), .val (.int (3 : Int32)), .val (.long q3), .second] [(.ref b1)]))
  refine own_go (fun _ k => XS.iloadN X0.here hx rfl (hb hby d_method_4_13) rfl k) ?_
  show OwnGo p e below _ (s₁.setTop (mkF m 14 #[.val (.ref b1), .val (.int (3 : Int32)), .val (.long q3), .second] [(.int (3 : Int32)), (.ref b1)]))
  refine own_go (fun _ k => XS.iconst X0.here hx rfl (hb hby d_method_4_14) k) ?_
  show OwnGo p e below _ (s₁.setTop (mkF m 15 #[.val (.ref b1), .val (.int (3 : Int32)), .val (.long q3), .second] [(.int (1 : Int32)), (.int (3 : Int32)), (.ref b1)]))
  refine own_go (fun _ k => XS.iadd X0.here hx rfl (hb hby d_method_4_15) rfl k) ?_
  show OwnGo p e below _ (s₁.setTop (mkF m 16 #[.val (.ref b1), .val (.int (3 : Int32)), .val (.long q3), .second] [(.int ((3 : Int32) + (1 : Int32))), (.ref b1)]))
  rw [show ((3 : Int32) + (1 : Int32)) = (4 : Int32) from by decide]
  show OwnGo p e below _ (s₁.setTop (mkF m 16 #[.val (.ref b1), .val (.int (3 : Int32)), .val (.long q3), .second] [(.int (4 : Int32)), (.ref b1)]))
  obtain ⟨c126, Ar126, q126, S126, M126, H126, G126⟩ := (id VA)
  refine own_go (fun _ k => X0.baloadBytes hx (j := (4 : Int32)) (v := (.int (((((((q3).toUInt64 >>> ((48 : Int32) &&& 0x3f).toInt64.toUInt64).toInt64)).toInt32)).toInt8.toInt32))) (by rw [e0]; exact Ar126.1) (State.isArrayOf_alike hZ.alike Ar126.2.1) Ar126.2.2 (inb_of S126 ⟨by decide, by decide⟩) (Has.at H126 (inb_of S126 ⟨by decide, by decide⟩) rfl) (g := (mkF m 16 #[.val (.ref b1), .val (.int (3 : Int32)), .val (.long q3), .second] [(.int (4 : Int32)), (.ref b1)])) rfl rfl (hb hby d_method_4_16) _ k) ?_
  show OwnGo p e below _ (s₁.setTop (mkF m 17 #[.val (.ref b1), .val (.int (3 : Int32)), .val (.long q3), .second] [(.int (((((((q3).toUInt64 >>> ((48 : Int32) &&& 0x3f).toInt64.toUInt64).toInt64)).toInt32)).toInt8.toInt32))]))
  refine own_go (fun _ k => XS.lloadN X0.here hx rfl (hb hby d_method_4_17) rfl k) ?_
  show OwnGo p e below _ (s₁.setTop (mkF m 18 #[.val (.ref b1), .val (.int (3 : Int32)), .val (.long q3), .second] [(.long q3), (.int (((((((q3).toUInt64 >>> ((48 : Int32) &&& 0x3f).toInt64.toUInt64).toInt64)).toInt32)).toInt8.toInt32))]))
  refine own_go (fun _ k => XS.bipush X0.here hx rfl (hb hby d_method_4_18) k) ?_
  show OwnGo p e below _ (s₁.setTop (mkF m 20 #[.val (.ref b1), .val (.int (3 : Int32)), .val (.long q3), .second] [(.int (48 : Int32)), (.long q3), (.int (((((((q3).toUInt64 >>> ((48 : Int32) &&& 0x3f).toInt64.toUInt64).toInt64)).toInt32)).toInt8.toInt32))]))
  refine own_go (fun _ k => XS.lushr X0.here hx rfl (hb hby d_method_4_20) rfl k) ?_
  show OwnGo p e below _ (s₁.setTop (mkF m 21 #[.val (.ref b1), .val (.int (3 : Int32)), .val (.long q3), .second] [(.long (((q3).toUInt64 >>> ((48 : Int32) &&& 0x3f).toInt64.toUInt64).toInt64)), (.int (((((((q3).toUInt64 >>> ((48 : Int32) &&& 0x3f).toInt64.toUInt64).toInt64)).toInt32)).toInt8.toInt32))]))
  refine own_go (fun _ k => XS.l2i X0.here hx rfl (hb hby d_method_4_21) rfl k) ?_
  show OwnGo p e below _ (s₁.setTop (mkF m 22 #[.val (.ref b1), .val (.int (3 : Int32)), .val (.long q3), .second] [(.int (((((q3).toUInt64 >>> ((48 : Int32) &&& 0x3f).toInt64.toUInt64).toInt64)).toInt32)), (.int (((((((q3).toUInt64 >>> ((48 : Int32) &&& 0x3f).toInt64.toUInt64).toInt64)).toInt32)).toInt8.toInt32))]))
  refine own_go (fun _ k => XS.i2b X0.here hx rfl (hb hby d_method_4_22) rfl k) ?_
  show OwnGo p e below _ (s₁.setTop (mkF m 23 #[.val (.ref b1), .val (.int (3 : Int32)), .val (.long q3), .second] [(.int (((((((q3).toUInt64 >>> ((48 : Int32) &&& 0x3f).toInt64.toUInt64).toInt64)).toInt32)).toInt8.toInt32)), (.int (((((((q3).toUInt64 >>> ((48 : Int32) &&& 0x3f).toInt64.toUInt64).toInt64)).toInt32)).toInt8.toInt32))]))
  refine own_go (fun _ k => XS.icmpNo X0.here hx rfl (hb hby d_method_4_23) rfl (teq rfl).2 k) ?_
  show OwnGo p e below _ (s₁.setTop (mkF m 26 #[.val (.ref b1), .val (.int (3 : Int32)), .val (.long q3), .second] []))
  refine own_go (fun _ k => XS.aloadN X0.here hx rfl (hb hby d_method_4_26) rfl rfl k) ?_
  show OwnGo p e below _ (s₁.setTop (mkF m 27 #[.val (.ref b1), .val (.int (3 : Int32)), .val (.long q3), .second] [(.ref b1)]))
  refine own_go (fun _ k => XS.iloadN X0.here hx rfl (hb hby d_method_4_27) rfl k) ?_
  show OwnGo p e below _ (s₁.setTop (mkF m 28 #[.val (.ref b1), .val (.int (3 : Int32)), .val (.long q3), .second] [(.int (3 : Int32)), (.ref b1)]))
  refine own_go (fun _ k => XS.iconst X0.here hx rfl (hb hby d_method_4_28) k) ?_
  show OwnGo p e below _ (s₁.setTop (mkF m 29 #[.val (.ref b1), .val (.int (3 : Int32)), .val (.long q3), .second] [(.int (2 : Int32)), (.int (3 : Int32)), (.ref b1)]))
  refine own_go (fun _ k => XS.iadd X0.here hx rfl (hb hby d_method_4_29) rfl k) ?_
  show OwnGo p e below _ (s₁.setTop (mkF m 30 #[.val (.ref b1), .val (.int (3 : Int32)), .val (.long q3), .second] [(.int ((3 : Int32) + (2 : Int32))), (.ref b1)]))
  rw [show ((3 : Int32) + (2 : Int32)) = (5 : Int32) from by decide]
  show OwnGo p e below _ (s₁.setTop (mkF m 30 #[.val (.ref b1), .val (.int (3 : Int32)), .val (.long q3), .second] [(.int (5 : Int32)), (.ref b1)]))
  obtain ⟨c127, Ar127, q127, S127, M127, H127, G127⟩ := (id VA)
  refine own_go (fun _ k => X0.baloadBytes hx (j := (5 : Int32)) (v := (.int (((((((q3).toUInt64 >>> ((40 : Int32) &&& 0x3f).toInt64.toUInt64).toInt64)).toInt32)).toInt8.toInt32))) (by rw [e0]; exact Ar127.1) (State.isArrayOf_alike hZ.alike Ar127.2.1) Ar127.2.2 (inb_of S127 ⟨by decide, by decide⟩) (Has.at H127 (inb_of S127 ⟨by decide, by decide⟩) rfl) (g := (mkF m 30 #[.val (.ref b1), .val (.int (3 : Int32)), .val (.long q3), .second] [(.int (5 : Int32)), (.ref b1)])) rfl rfl (hb hby d_method_4_30) _ k) ?_
  show OwnGo p e below _ (s₁.setTop (mkF m 31 #[.val (.ref b1), .val (.int (3 : Int32)), .val (.long q3), .second] [(.int (((((((q3).toUInt64 >>> ((40 : Int32) &&& 0x3f).toInt64.toUInt64).toInt64)).toInt32)).toInt8.toInt32))]))
  refine own_go (fun _ k => XS.lloadN X0.here hx rfl (hb hby d_method_4_31) rfl k) ?_
  show OwnGo p e below _ (s₁.setTop (mkF m 32 #[.val (.ref b1), .val (.int (3 : Int32)), .val (.long q3), .second] [(.long q3), (.int (((((((q3).toUInt64 >>> ((40 : Int32) &&& 0x3f).toInt64.toUInt64).toInt64)).toInt32)).toInt8.toInt32))]))
  refine own_go (fun _ k => XS.bipush X0.here hx rfl (hb hby d_method_4_32) k) ?_
  show OwnGo p e below _ (s₁.setTop (mkF m 34 #[.val (.ref b1), .val (.int (3 : Int32)), .val (.long q3), .second] [(.int (40 : Int32)), (.long q3), (.int (((((((q3).toUInt64 >>> ((40 : Int32) &&& 0x3f).toInt64.toUInt64).toInt64)).toInt32)).toInt8.toInt32))]))
  refine own_go (fun _ k => XS.lushr X0.here hx rfl (hb hby d_method_4_34) rfl k) ?_
  show OwnGo p e below _ (s₁.setTop (mkF m 35 #[.val (.ref b1), .val (.int (3 : Int32)), .val (.long q3), .second] [(.long (((q3).toUInt64 >>> ((40 : Int32) &&& 0x3f).toInt64.toUInt64).toInt64)), (.int (((((((q3).toUInt64 >>> ((40 : Int32) &&& 0x3f).toInt64.toUInt64).toInt64)).toInt32)).toInt8.toInt32))]))
  refine own_go (fun _ k => XS.l2i X0.here hx rfl (hb hby d_method_4_35) rfl k) ?_
  show OwnGo p e below _ (s₁.setTop (mkF m 36 #[.val (.ref b1), .val (.int (3 : Int32)), .val (.long q3), .second] [(.int (((((q3).toUInt64 >>> ((40 : Int32) &&& 0x3f).toInt64.toUInt64).toInt64)).toInt32)), (.int (((((((q3).toUInt64 >>> ((40 : Int32) &&& 0x3f).toInt64.toUInt64).toInt64)).toInt32)).toInt8.toInt32))]))
  refine own_go (fun _ k => XS.i2b X0.here hx rfl (hb hby d_method_4_36) rfl k) ?_
  show OwnGo p e below _ (s₁.setTop (mkF m 37 #[.val (.ref b1), .val (.int (3 : Int32)), .val (.long q3), .second] [(.int (((((((q3).toUInt64 >>> ((40 : Int32) &&& 0x3f).toInt64.toUInt64).toInt64)).toInt32)).toInt8.toInt32)), (.int (((((((q3).toUInt64 >>> ((40 : Int32) &&& 0x3f).toInt64.toUInt64).toInt64)).toInt32)).toInt8.toInt32))]))
  refine own_go (fun _ k => XS.icmpNo X0.here hx rfl (hb hby d_method_4_37) rfl (teq rfl).2 k) ?_
  show OwnGo p e below _ (s₁.setTop (mkF m 40 #[.val (.ref b1), .val (.int (3 : Int32)), .val (.long q3), .second] []))
  refine own_go (fun _ k => XS.aloadN X0.here hx rfl (hb hby d_method_4_40) rfl rfl k) ?_
  show OwnGo p e below _ (s₁.setTop (mkF m 41 #[.val (.ref b1), .val (.int (3 : Int32)), .val (.long q3), .second] [(.ref b1)]))
  refine own_go (fun _ k => XS.iloadN X0.here hx rfl (hb hby d_method_4_41) rfl k) ?_
  show OwnGo p e below _ (s₁.setTop (mkF m 42 #[.val (.ref b1), .val (.int (3 : Int32)), .val (.long q3), .second] [(.int (3 : Int32)), (.ref b1)]))
  refine own_go (fun _ k => XS.iconst X0.here hx rfl (hb hby d_method_4_42) k) ?_
  show OwnGo p e below _ (s₁.setTop (mkF m 43 #[.val (.ref b1), .val (.int (3 : Int32)), .val (.long q3), .second] [(.int (3 : Int32)), (.int (3 : Int32)), (.ref b1)]))
  refine own_go (fun _ k => XS.iadd X0.here hx rfl (hb hby d_method_4_43) rfl k) ?_
  show OwnGo p e below _ (s₁.setTop (mkF m 44 #[.val (.ref b1), .val (.int (3 : Int32)), .val (.long q3), .second] [(.int ((3 : Int32) + (3 : Int32))), (.ref b1)]))
  rw [show ((3 : Int32) + (3 : Int32)) = (6 : Int32) from by decide]
  show OwnGo p e below _ (s₁.setTop (mkF m 44 #[.val (.ref b1), .val (.int (3 : Int32)), .val (.long q3), .second] [(.int (6 : Int32)), (.ref b1)]))
  obtain ⟨c128, Ar128, q128, S128, M128, H128, G128⟩ := (id VA)
  refine own_go (fun _ k => X0.baloadBytes hx (j := (6 : Int32)) (v := (.int (((((((q3).toUInt64 >>> ((32 : Int32) &&& 0x3f).toInt64.toUInt64).toInt64)).toInt32)).toInt8.toInt32))) (by rw [e0]; exact Ar128.1) (State.isArrayOf_alike hZ.alike Ar128.2.1) Ar128.2.2 (inb_of S128 ⟨by decide, by decide⟩) (Has.at H128 (inb_of S128 ⟨by decide, by decide⟩) rfl) (g := (mkF m 44 #[.val (.ref b1), .val (.int (3 : Int32)), .val (.long q3), .second] [(.int (6 : Int32)), (.ref b1)])) rfl rfl (hb hby d_method_4_44) _ k) ?_
  show OwnGo p e below _ (s₁.setTop (mkF m 45 #[.val (.ref b1), .val (.int (3 : Int32)), .val (.long q3), .second] [(.int (((((((q3).toUInt64 >>> ((32 : Int32) &&& 0x3f).toInt64.toUInt64).toInt64)).toInt32)).toInt8.toInt32))]))
  refine own_go (fun _ k => XS.lloadN X0.here hx rfl (hb hby d_method_4_45) rfl k) ?_
  show OwnGo p e below _ (s₁.setTop (mkF m 46 #[.val (.ref b1), .val (.int (3 : Int32)), .val (.long q3), .second] [(.long q3), (.int (((((((q3).toUInt64 >>> ((32 : Int32) &&& 0x3f).toInt64.toUInt64).toInt64)).toInt32)).toInt8.toInt32))]))
  refine own_go (fun _ k => XS.bipush X0.here hx rfl (hb hby d_method_4_46) k) ?_
  show OwnGo p e below _ (s₁.setTop (mkF m 48 #[.val (.ref b1), .val (.int (3 : Int32)), .val (.long q3), .second] [(.int (32 : Int32)), (.long q3), (.int (((((((q3).toUInt64 >>> ((32 : Int32) &&& 0x3f).toInt64.toUInt64).toInt64)).toInt32)).toInt8.toInt32))]))
  refine own_go (fun _ k => XS.lushr X0.here hx rfl (hb hby d_method_4_48) rfl k) ?_
  show OwnGo p e below _ (s₁.setTop (mkF m 49 #[.val (.ref b1), .val (.int (3 : Int32)), .val (.long q3), .second] [(.long (((q3).toUInt64 >>> ((32 : Int32) &&& 0x3f).toInt64.toUInt64).toInt64)), (.int (((((((q3).toUInt64 >>> ((32 : Int32) &&& 0x3f).toInt64.toUInt64).toInt64)).toInt32)).toInt8.toInt32))]))
  refine own_go (fun _ k => XS.l2i X0.here hx rfl (hb hby d_method_4_49) rfl k) ?_
  show OwnGo p e below _ (s₁.setTop (mkF m 50 #[.val (.ref b1), .val (.int (3 : Int32)), .val (.long q3), .second] [(.int (((((q3).toUInt64 >>> ((32 : Int32) &&& 0x3f).toInt64.toUInt64).toInt64)).toInt32)), (.int (((((((q3).toUInt64 >>> ((32 : Int32) &&& 0x3f).toInt64.toUInt64).toInt64)).toInt32)).toInt8.toInt32))]))
  refine own_go (fun _ k => XS.i2b X0.here hx rfl (hb hby d_method_4_50) rfl k) ?_
  show OwnGo p e below _ (s₁.setTop (mkF m 51 #[.val (.ref b1), .val (.int (3 : Int32)), .val (.long q3), .second] [(.int (((((((q3).toUInt64 >>> ((32 : Int32) &&& 0x3f).toInt64.toUInt64).toInt64)).toInt32)).toInt8.toInt32)), (.int (((((((q3).toUInt64 >>> ((32 : Int32) &&& 0x3f).toInt64.toUInt64).toInt64)).toInt32)).toInt8.toInt32))]))
  refine own_go (fun _ k => XS.icmpNo X0.here hx rfl (hb hby d_method_4_51) rfl (teq rfl).2 k) ?_
  show OwnGo p e below _ (s₁.setTop (mkF m 54 #[.val (.ref b1), .val (.int (3 : Int32)), .val (.long q3), .second] []))
  refine own_go (fun _ k => XS.aloadN X0.here hx rfl (hb hby d_method_4_54) rfl rfl k) ?_
  show OwnGo p e below _ (s₁.setTop (mkF m 55 #[.val (.ref b1), .val (.int (3 : Int32)), .val (.long q3), .second] [(.ref b1)]))
  refine own_go (fun _ k => XS.iloadN X0.here hx rfl (hb hby d_method_4_55) rfl k) ?_
  show OwnGo p e below _ (s₁.setTop (mkF m 56 #[.val (.ref b1), .val (.int (3 : Int32)), .val (.long q3), .second] [(.int (3 : Int32)), (.ref b1)]))
  refine own_go (fun _ k => XS.iconst X0.here hx rfl (hb hby d_method_4_56) k) ?_
  show OwnGo p e below _ (s₁.setTop (mkF m 57 #[.val (.ref b1), .val (.int (3 : Int32)), .val (.long q3), .second] [(.int (4 : Int32)), (.int (3 : Int32)), (.ref b1)]))
  refine own_go (fun _ k => XS.iadd X0.here hx rfl (hb hby d_method_4_57) rfl k) ?_
  show OwnGo p e below _ (s₁.setTop (mkF m 58 #[.val (.ref b1), .val (.int (3 : Int32)), .val (.long q3), .second] [(.int ((3 : Int32) + (4 : Int32))), (.ref b1)]))
  rw [show ((3 : Int32) + (4 : Int32)) = (7 : Int32) from by decide]
  show OwnGo p e below _ (s₁.setTop (mkF m 58 #[.val (.ref b1), .val (.int (3 : Int32)), .val (.long q3), .second] [(.int (7 : Int32)), (.ref b1)]))
  obtain ⟨c129, Ar129, q129, S129, M129, H129, G129⟩ := (id VA)
  refine own_go (fun _ k => X0.baloadBytes hx (j := (7 : Int32)) (v := (.int (((((((q3).toUInt64 >>> ((24 : Int32) &&& 0x3f).toInt64.toUInt64).toInt64)).toInt32)).toInt8.toInt32))) (by rw [e0]; exact Ar129.1) (State.isArrayOf_alike hZ.alike Ar129.2.1) Ar129.2.2 (inb_of S129 ⟨by decide, by decide⟩) (Has.at H129 (inb_of S129 ⟨by decide, by decide⟩) rfl) (g := (mkF m 58 #[.val (.ref b1), .val (.int (3 : Int32)), .val (.long q3), .second] [(.int (7 : Int32)), (.ref b1)])) rfl rfl (hb hby d_method_4_58) _ k) ?_
  show OwnGo p e below _ (s₁.setTop (mkF m 59 #[.val (.ref b1), .val (.int (3 : Int32)), .val (.long q3), .second] [(.int (((((((q3).toUInt64 >>> ((24 : Int32) &&& 0x3f).toInt64.toUInt64).toInt64)).toInt32)).toInt8.toInt32))]))
  refine own_go (fun _ k => XS.lloadN X0.here hx rfl (hb hby d_method_4_59) rfl k) ?_
  show OwnGo p e below _ (s₁.setTop (mkF m 60 #[.val (.ref b1), .val (.int (3 : Int32)), .val (.long q3), .second] [(.long q3), (.int (((((((q3).toUInt64 >>> ((24 : Int32) &&& 0x3f).toInt64.toUInt64).toInt64)).toInt32)).toInt8.toInt32))]))
  refine own_go (fun _ k => XS.bipush X0.here hx rfl (hb hby d_method_4_60) k) ?_
  show OwnGo p e below _ (s₁.setTop (mkF m 62 #[.val (.ref b1), .val (.int (3 : Int32)), .val (.long q3), .second] [(.int (24 : Int32)), (.long q3), (.int (((((((q3).toUInt64 >>> ((24 : Int32) &&& 0x3f).toInt64.toUInt64).toInt64)).toInt32)).toInt8.toInt32))]))
  refine own_go (fun _ k => XS.lushr X0.here hx rfl (hb hby d_method_4_62) rfl k) ?_
  show OwnGo p e below _ (s₁.setTop (mkF m 63 #[.val (.ref b1), .val (.int (3 : Int32)), .val (.long q3), .second] [(.long (((q3).toUInt64 >>> ((24 : Int32) &&& 0x3f).toInt64.toUInt64).toInt64)), (.int (((((((q3).toUInt64 >>> ((24 : Int32) &&& 0x3f).toInt64.toUInt64).toInt64)).toInt32)).toInt8.toInt32))]))
  refine own_go (fun _ k => XS.l2i X0.here hx rfl (hb hby d_method_4_63) rfl k) ?_
  show OwnGo p e below _ (s₁.setTop (mkF m 64 #[.val (.ref b1), .val (.int (3 : Int32)), .val (.long q3), .second] [(.int (((((q3).toUInt64 >>> ((24 : Int32) &&& 0x3f).toInt64.toUInt64).toInt64)).toInt32)), (.int (((((((q3).toUInt64 >>> ((24 : Int32) &&& 0x3f).toInt64.toUInt64).toInt64)).toInt32)).toInt8.toInt32))]))
  refine own_go (fun _ k => XS.i2b X0.here hx rfl (hb hby d_method_4_64) rfl k) ?_
  show OwnGo p e below _ (s₁.setTop (mkF m 65 #[.val (.ref b1), .val (.int (3 : Int32)), .val (.long q3), .second] [(.int (((((((q3).toUInt64 >>> ((24 : Int32) &&& 0x3f).toInt64.toUInt64).toInt64)).toInt32)).toInt8.toInt32)), (.int (((((((q3).toUInt64 >>> ((24 : Int32) &&& 0x3f).toInt64.toUInt64).toInt64)).toInt32)).toInt8.toInt32))]))
  refine own_go (fun _ k => XS.icmpNo X0.here hx rfl (hb hby d_method_4_65) rfl (teq rfl).2 k) ?_
  show OwnGo p e below _ (s₁.setTop (mkF m 68 #[.val (.ref b1), .val (.int (3 : Int32)), .val (.long q3), .second] []))
  refine own_go (fun _ k => XS.aloadN X0.here hx rfl (hb hby d_method_4_68) rfl rfl k) ?_
  show OwnGo p e below _ (s₁.setTop (mkF m 69 #[.val (.ref b1), .val (.int (3 : Int32)), .val (.long q3), .second] [(.ref b1)]))
  refine own_go (fun _ k => XS.iloadN X0.here hx rfl (hb hby d_method_4_69) rfl k) ?_
  show OwnGo p e below _ (s₁.setTop (mkF m 70 #[.val (.ref b1), .val (.int (3 : Int32)), .val (.long q3), .second] [(.int (3 : Int32)), (.ref b1)]))
  refine own_go (fun _ k => XS.iconst X0.here hx rfl (hb hby d_method_4_70) k) ?_
  show OwnGo p e below _ (s₁.setTop (mkF m 71 #[.val (.ref b1), .val (.int (3 : Int32)), .val (.long q3), .second] [(.int (5 : Int32)), (.int (3 : Int32)), (.ref b1)]))
  refine own_go (fun _ k => XS.iadd X0.here hx rfl (hb hby d_method_4_71) rfl k) ?_
  show OwnGo p e below _ (s₁.setTop (mkF m 72 #[.val (.ref b1), .val (.int (3 : Int32)), .val (.long q3), .second] [(.int ((3 : Int32) + (5 : Int32))), (.ref b1)]))
  rw [show ((3 : Int32) + (5 : Int32)) = (8 : Int32) from by decide]
  show OwnGo p e below _ (s₁.setTop (mkF m 72 #[.val (.ref b1), .val (.int (3 : Int32)), .val (.long q3), .second] [(.int (8 : Int32)), (.ref b1)]))
  obtain ⟨c130, Ar130, q130, S130, M130, H130, G130⟩ := (id VA)
  refine own_go (fun _ k => X0.baloadBytes hx (j := (8 : Int32)) (v := (.int (((((((q3).toUInt64 >>> ((16 : Int32) &&& 0x3f).toInt64.toUInt64).toInt64)).toInt32)).toInt8.toInt32))) (by rw [e0]; exact Ar130.1) (State.isArrayOf_alike hZ.alike Ar130.2.1) Ar130.2.2 (inb_of S130 ⟨by decide, by decide⟩) (Has.at H130 (inb_of S130 ⟨by decide, by decide⟩) rfl) (g := (mkF m 72 #[.val (.ref b1), .val (.int (3 : Int32)), .val (.long q3), .second] [(.int (8 : Int32)), (.ref b1)])) rfl rfl (hb hby d_method_4_72) _ k) ?_
  show OwnGo p e below _ (s₁.setTop (mkF m 73 #[.val (.ref b1), .val (.int (3 : Int32)), .val (.long q3), .second] [(.int (((((((q3).toUInt64 >>> ((16 : Int32) &&& 0x3f).toInt64.toUInt64).toInt64)).toInt32)).toInt8.toInt32))]))
  refine own_go (fun _ k => XS.lloadN X0.here hx rfl (hb hby d_method_4_73) rfl k) ?_
  show OwnGo p e below _ (s₁.setTop (mkF m 74 #[.val (.ref b1), .val (.int (3 : Int32)), .val (.long q3), .second] [(.long q3), (.int (((((((q3).toUInt64 >>> ((16 : Int32) &&& 0x3f).toInt64.toUInt64).toInt64)).toInt32)).toInt8.toInt32))]))
  refine own_go (fun _ k => XS.bipush X0.here hx rfl (hb hby d_method_4_74) k) ?_
  show OwnGo p e below _ (s₁.setTop (mkF m 76 #[.val (.ref b1), .val (.int (3 : Int32)), .val (.long q3), .second] [(.int (16 : Int32)), (.long q3), (.int (((((((q3).toUInt64 >>> ((16 : Int32) &&& 0x3f).toInt64.toUInt64).toInt64)).toInt32)).toInt8.toInt32))]))
  refine own_go (fun _ k => XS.lushr X0.here hx rfl (hb hby d_method_4_76) rfl k) ?_
  show OwnGo p e below _ (s₁.setTop (mkF m 77 #[.val (.ref b1), .val (.int (3 : Int32)), .val (.long q3), .second] [(.long (((q3).toUInt64 >>> ((16 : Int32) &&& 0x3f).toInt64.toUInt64).toInt64)), (.int (((((((q3).toUInt64 >>> ((16 : Int32) &&& 0x3f).toInt64.toUInt64).toInt64)).toInt32)).toInt8.toInt32))]))
  refine own_go (fun _ k => XS.l2i X0.here hx rfl (hb hby d_method_4_77) rfl k) ?_
  show OwnGo p e below _ (s₁.setTop (mkF m 78 #[.val (.ref b1), .val (.int (3 : Int32)), .val (.long q3), .second] [(.int (((((q3).toUInt64 >>> ((16 : Int32) &&& 0x3f).toInt64.toUInt64).toInt64)).toInt32)), (.int (((((((q3).toUInt64 >>> ((16 : Int32) &&& 0x3f).toInt64.toUInt64).toInt64)).toInt32)).toInt8.toInt32))]))
  refine own_go (fun _ k => XS.i2b X0.here hx rfl (hb hby d_method_4_78) rfl k) ?_
  show OwnGo p e below _ (s₁.setTop (mkF m 79 #[.val (.ref b1), .val (.int (3 : Int32)), .val (.long q3), .second] [(.int (((((((q3).toUInt64 >>> ((16 : Int32) &&& 0x3f).toInt64.toUInt64).toInt64)).toInt32)).toInt8.toInt32)), (.int (((((((q3).toUInt64 >>> ((16 : Int32) &&& 0x3f).toInt64.toUInt64).toInt64)).toInt32)).toInt8.toInt32))]))
  refine own_go (fun _ k => XS.icmpNo X0.here hx rfl (hb hby d_method_4_79) rfl (teq rfl).2 k) ?_
  show OwnGo p e below _ (s₁.setTop (mkF m 82 #[.val (.ref b1), .val (.int (3 : Int32)), .val (.long q3), .second] []))
  refine own_go (fun _ k => XS.aloadN X0.here hx rfl (hb hby d_method_4_82) rfl rfl k) ?_
  show OwnGo p e below _ (s₁.setTop (mkF m 83 #[.val (.ref b1), .val (.int (3 : Int32)), .val (.long q3), .second] [(.ref b1)]))
  refine own_go (fun _ k => XS.iloadN X0.here hx rfl (hb hby d_method_4_83) rfl k) ?_
  show OwnGo p e below _ (s₁.setTop (mkF m 84 #[.val (.ref b1), .val (.int (3 : Int32)), .val (.long q3), .second] [(.int (3 : Int32)), (.ref b1)]))
  refine own_go (fun _ k => XS.bipush X0.here hx rfl (hb hby d_method_4_84) k) ?_
  show OwnGo p e below _ (s₁.setTop (mkF m 86 #[.val (.ref b1), .val (.int (3 : Int32)), .val (.long q3), .second] [(.int (6 : Int32)), (.int (3 : Int32)), (.ref b1)]))
  refine own_go (fun _ k => XS.iadd X0.here hx rfl (hb hby d_method_4_86) rfl k) ?_
  show OwnGo p e below _ (s₁.setTop (mkF m 87 #[.val (.ref b1), .val (.int (3 : Int32)), .val (.long q3), .second] [(.int ((3 : Int32) + (6 : Int32))), (.ref b1)]))
  rw [show ((3 : Int32) + (6 : Int32)) = (9 : Int32) from by decide]
  show OwnGo p e below _ (s₁.setTop (mkF m 87 #[.val (.ref b1), .val (.int (3 : Int32)), .val (.long q3), .second] [(.int (9 : Int32)), (.ref b1)]))
  obtain ⟨c131, Ar131, q131, S131, M131, H131, G131⟩ := (id VA)
  refine own_go (fun _ k => X0.baloadBytes hx (j := (9 : Int32)) (v := (.int (((((((q3).toUInt64 >>> ((8 : Int32) &&& 0x3f).toInt64.toUInt64).toInt64)).toInt32)).toInt8.toInt32))) (by rw [e0]; exact Ar131.1) (State.isArrayOf_alike hZ.alike Ar131.2.1) Ar131.2.2 (inb_of S131 ⟨by decide, by decide⟩) (Has.at H131 (inb_of S131 ⟨by decide, by decide⟩) rfl) (g := (mkF m 87 #[.val (.ref b1), .val (.int (3 : Int32)), .val (.long q3), .second] [(.int (9 : Int32)), (.ref b1)])) rfl rfl (hb hby d_method_4_87) _ k) ?_
  show OwnGo p e below _ (s₁.setTop (mkF m 88 #[.val (.ref b1), .val (.int (3 : Int32)), .val (.long q3), .second] [(.int (((((((q3).toUInt64 >>> ((8 : Int32) &&& 0x3f).toInt64.toUInt64).toInt64)).toInt32)).toInt8.toInt32))]))
  refine own_go (fun _ k => XS.lloadN X0.here hx rfl (hb hby d_method_4_88) rfl k) ?_
  show OwnGo p e below _ (s₁.setTop (mkF m 89 #[.val (.ref b1), .val (.int (3 : Int32)), .val (.long q3), .second] [(.long q3), (.int (((((((q3).toUInt64 >>> ((8 : Int32) &&& 0x3f).toInt64.toUInt64).toInt64)).toInt32)).toInt8.toInt32))]))
  refine own_go (fun _ k => XS.bipush X0.here hx rfl (hb hby d_method_4_89) k) ?_
  show OwnGo p e below _ (s₁.setTop (mkF m 91 #[.val (.ref b1), .val (.int (3 : Int32)), .val (.long q3), .second] [(.int (8 : Int32)), (.long q3), (.int (((((((q3).toUInt64 >>> ((8 : Int32) &&& 0x3f).toInt64.toUInt64).toInt64)).toInt32)).toInt8.toInt32))]))
  refine own_go (fun _ k => XS.lushr X0.here hx rfl (hb hby d_method_4_91) rfl k) ?_
  show OwnGo p e below _ (s₁.setTop (mkF m 92 #[.val (.ref b1), .val (.int (3 : Int32)), .val (.long q3), .second] [(.long (((q3).toUInt64 >>> ((8 : Int32) &&& 0x3f).toInt64.toUInt64).toInt64)), (.int (((((((q3).toUInt64 >>> ((8 : Int32) &&& 0x3f).toInt64.toUInt64).toInt64)).toInt32)).toInt8.toInt32))]))
  refine own_go (fun _ k => XS.l2i X0.here hx rfl (hb hby d_method_4_92) rfl k) ?_
  show OwnGo p e below _ (s₁.setTop (mkF m 93 #[.val (.ref b1), .val (.int (3 : Int32)), .val (.long q3), .second] [(.int (((((q3).toUInt64 >>> ((8 : Int32) &&& 0x3f).toInt64.toUInt64).toInt64)).toInt32)), (.int (((((((q3).toUInt64 >>> ((8 : Int32) &&& 0x3f).toInt64.toUInt64).toInt64)).toInt32)).toInt8.toInt32))]))
  refine own_go (fun _ k => XS.i2b X0.here hx rfl (hb hby d_method_4_93) rfl k) ?_
  show OwnGo p e below _ (s₁.setTop (mkF m 94 #[.val (.ref b1), .val (.int (3 : Int32)), .val (.long q3), .second] [(.int (((((((q3).toUInt64 >>> ((8 : Int32) &&& 0x3f).toInt64.toUInt64).toInt64)).toInt32)).toInt8.toInt32)), (.int (((((((q3).toUInt64 >>> ((8 : Int32) &&& 0x3f).toInt64.toUInt64).toInt64)).toInt32)).toInt8.toInt32))]))
  refine own_go (fun _ k => XS.icmpNo X0.here hx rfl (hb hby d_method_4_94) rfl (teq rfl).2 k) ?_
  show OwnGo p e below _ (s₁.setTop (mkF m 97 #[.val (.ref b1), .val (.int (3 : Int32)), .val (.long q3), .second] []))
  refine own_go (fun _ k => XS.aloadN X0.here hx rfl (hb hby d_method_4_97) rfl rfl k) ?_
  show OwnGo p e below _ (s₁.setTop (mkF m 98 #[.val (.ref b1), .val (.int (3 : Int32)), .val (.long q3), .second] [(.ref b1)]))
  refine own_go (fun _ k => XS.iloadN X0.here hx rfl (hb hby d_method_4_98) rfl k) ?_
  show OwnGo p e below _ (s₁.setTop (mkF m 99 #[.val (.ref b1), .val (.int (3 : Int32)), .val (.long q3), .second] [(.int (3 : Int32)), (.ref b1)]))
  refine own_go (fun _ k => XS.bipush X0.here hx rfl (hb hby d_method_4_99) k) ?_
  show OwnGo p e below _ (s₁.setTop (mkF m 101 #[.val (.ref b1), .val (.int (3 : Int32)), .val (.long q3), .second] [(.int (7 : Int32)), (.int (3 : Int32)), (.ref b1)]))
  refine own_go (fun _ k => XS.iadd X0.here hx rfl (hb hby d_method_4_101) rfl k) ?_
  show OwnGo p e below _ (s₁.setTop (mkF m 102 #[.val (.ref b1), .val (.int (3 : Int32)), .val (.long q3), .second] [(.int ((3 : Int32) + (7 : Int32))), (.ref b1)]))
  rw [show ((3 : Int32) + (7 : Int32)) = (10 : Int32) from by decide]
  show OwnGo p e below _ (s₁.setTop (mkF m 102 #[.val (.ref b1), .val (.int (3 : Int32)), .val (.long q3), .second] [(.int (10 : Int32)), (.ref b1)]))
  obtain ⟨c132, Ar132, q132, S132, M132, H132, G132⟩ := (id VA)
  refine own_go (fun _ k => X0.baloadBytes hx (j := (10 : Int32)) (v := (.int ((((q3).toInt32)).toInt8.toInt32))) (by rw [e0]; exact Ar132.1) (State.isArrayOf_alike hZ.alike Ar132.2.1) Ar132.2.2 (inb_of S132 ⟨by decide, by decide⟩) (Has.at H132 (inb_of S132 ⟨by decide, by decide⟩) rfl) (g := (mkF m 102 #[.val (.ref b1), .val (.int (3 : Int32)), .val (.long q3), .second] [(.int (10 : Int32)), (.ref b1)])) rfl rfl (hb hby d_method_4_102) _ k) ?_
  show OwnGo p e below _ (s₁.setTop (mkF m 103 #[.val (.ref b1), .val (.int (3 : Int32)), .val (.long q3), .second] [(.int ((((q3).toInt32)).toInt8.toInt32))]))
  refine own_go (fun _ k => XS.lloadN X0.here hx rfl (hb hby d_method_4_103) rfl k) ?_
  show OwnGo p e below _ (s₁.setTop (mkF m 104 #[.val (.ref b1), .val (.int (3 : Int32)), .val (.long q3), .second] [(.long q3), (.int ((((q3).toInt32)).toInt8.toInt32))]))
  refine own_go (fun _ k => XS.l2i X0.here hx rfl (hb hby d_method_4_104) rfl k) ?_
  show OwnGo p e below _ (s₁.setTop (mkF m 105 #[.val (.ref b1), .val (.int (3 : Int32)), .val (.long q3), .second] [(.int ((q3).toInt32)), (.int ((((q3).toInt32)).toInt8.toInt32))]))
  refine own_go (fun _ k => XS.i2b X0.here hx rfl (hb hby d_method_4_105) rfl k) ?_
  show OwnGo p e below _ (s₁.setTop (mkF m 106 #[.val (.ref b1), .val (.int (3 : Int32)), .val (.long q3), .second] [(.int ((((q3).toInt32)).toInt8.toInt32)), (.int ((((q3).toInt32)).toInt8.toInt32))]))
  refine own_go (fun _ k => XS.icmpNo X0.here hx rfl (hb hby d_method_4_106) rfl (teq rfl).2 k) ?_
  show OwnGo p e below _ (s₁.setTop (mkF m 109 #[.val (.ref b1), .val (.int (3 : Int32)), .val (.long q3), .second] []))
  refine own_go (fun _ k => XS.iconst X0.here hx rfl (hb hby d_method_4_109) k) ?_
  show OwnGo p e below _ (s₁.setTop (mkF m 110 #[.val (.ref b1), .val (.int (3 : Int32)), .val (.long q3), .second] [(.int (1 : Int32))]))
  refine own_go (fun _ k => XS.goto X0.here hx rfl (pc0 := 110) (pc' := 114) rfl (hb hby d_method_4_110) (by decide) (by decide) k) ?_
  show OwnGo p e below _ (s₁.setTop (mkF m 114 #[.val (.ref b1), .val (.int (3 : Int32)), .val (.long q3), .second] [(.int (1 : Int32))]))
  obtain ⟨fs, hr, hrun, hended, hW, hsame⟩ := X0.leave (v := some (.int (1 : Int32))) (fun h => by rw [Bd.returns] at h; cases h)
  refine ⟨_, _, retOut X0 hx Bd.returns rfl (Or.inl ⟨rfl, Or.inr (Or.inl rfl), _, rfl⟩) (hb hby d_method_4_114) hr, hrun, hended, _, _, rfl, ?_, ⟨_, rfl⟩, hW, hsame.mono (by decide) (by decide)⟩
  show Q_same3 Z aFFDHE2048 aCONFIRMATION aFFDHE4096 aFFDHE3072 b1 q3 k1 u0 u1 u2 u11 u12 u13 u14 u15 u16 u17 u18 u19 u20 u21 u22 u23 u24 u25 u26 u27 u28 u29 u30 u31 u32 u33 u34 h0 n0 _ s₁.heap _
  rw [e0]
  exact ⟨rfl, N0, rfl⟩
def Q_same11 (Z : State) (aFFDHE2048 aCONFIRMATION aFFDHE4096 aFFDHE3072 : Addr) (b1 : Addr) (q3 : Int64) (k1 : ClassId) (u0 : Int32) (u1 : Int32) (u2 : Int32) (u3 : Int32) (u4 : Int32) (u5 : Int32) (u6 : Int32) (u7 : Int32) (u8 : Int32) (u9 : Int32) (u10 : Int32) (u19 : Int32) (u20 : Int32) (u21 : Int32) (u22 : Int32) (u23 : Int32) (u24 : Int32) (u25 : Int32) (u26 : Int32) (u27 : Int32) (u28 : Int32) (u29 : Int32) (u30 : Int32) (u31 : Int32) (u32 : Int32) (u33 : Int32) (u34 : Int32) (h0 : Heap) (n0 : Nat) (v : Option Value) (h : Heap) (L : List Loc) : Prop := v = some (.int (1 : Int32)) ∧ Fr n0 L ∧ h = h0
theorem ef_same11 (m : MethodId) (x0 : Addr) (x1 : Int32) (x2 : Int64) : entryFrame m #[(.ref x0), (.int x1), (.long x2)] 4 = mkF m 0 #[.val (.ref x0), .val (.int x1), .val (.long x2), .second] [] := by first | (simp [entryFrame, mkF, argsToLocals, Value.category]; done) | rfl
set_option maxRecDepth 65536 in
set_option maxHeartbeats 40000000 in
theorem rm_same11 (l : Launch) (Z : State) (a0 : Array Value) (hw : ∀ d ∈ tables_1, d.before a0 Z = true) (ws : List Jvm.Cond) (aFFDHE2048 aCONFIRMATION aFFDHE4096 aFFDHE3072 : Addr) (F0 : OwnFacts Z aFFDHE2048 aCONFIRMATION aFFDHE4096 aFFDHE3072) (b1 : Addr) (q3 : Int64) (k1 : ClassId) (u0 : Int32) (u1 : Int32) (u2 : Int32) (u3 : Int32) (u4 : Int32) (u5 : Int32) (u6 : Int32) (u7 : Int32) (u8 : Int32) (u9 : Int32) (u10 : Int32) (u19 : Int32) (u20 : Int32) (u21 : Int32) (u22 : Int32) (u23 : Int32) (u24 : Int32) (u25 : Int32) (u26 : Int32) (u27 : Int32) (u28 : Int32) (u29 : Int32) (u30 : Int32) (u31 : Int32) (u32 : Int32) (u33 : Int32) (u34 : Int32) (h0 : Heap) (n0 : Nat) (O0 : Old Z n0 h0) (VA : Arv Z h0 b1 k1 .byte (35 : Int32) [(.int u0), (.int u1), (.int u2), (.int u3), (.int u4), (.int u5), (.int u6), (.int u7), (.int u8), (.int u9), (.int u10), (.int (((((((q3).toUInt64 >>> ((56 : Int32) &&& 0x3f).toInt64.toUInt64).toInt64)).toInt32)).toInt8.toInt32)), (.int (((((((q3).toUInt64 >>> ((48 : Int32) &&& 0x3f).toInt64.toUInt64).toInt64)).toInt32)).toInt8.toInt32)), (.int (((((((q3).toUInt64 >>> ((40 : Int32) &&& 0x3f).toInt64.toUInt64).toInt64)).toInt32)).toInt8.toInt32)), (.int (((((((q3).toUInt64 >>> ((32 : Int32) &&& 0x3f).toInt64.toUInt64).toInt64)).toInt32)).toInt8.toInt32)), (.int (((((((q3).toUInt64 >>> ((24 : Int32) &&& 0x3f).toInt64.toUInt64).toInt64)).toInt32)).toInt8.toInt32)), (.int (((((((q3).toUInt64 >>> ((16 : Int32) &&& 0x3f).toInt64.toUInt64).toInt64)).toInt32)).toInt8.toInt32)), (.int (((((((q3).toUInt64 >>> ((8 : Int32) &&& 0x3f).toInt64.toUInt64).toInt64)).toInt32)).toInt8.toInt32)), (.int ((((q3).toInt32)).toInt8.toInt32)), (.int u19), (.int u20), (.int u21), (.int u22), (.int u23), (.int u24), (.int u25), (.int u26), (.int u27), (.int u28), (.int u29), (.int u30), (.int u31), (.int u32), (.int u33), (.int u34)] (.int (0 : Int32))) :
    MetFree l (⟨"com/example/portcullis/portcullis/ConfirmationEncodePinLaw", "same", "([BIJ)Z"⟩ : MethodName) (head1 (Jvm.Cond.code (⟨"com/example/portcullis/portcullis/ConfirmationEncodePinLaw", "same", "([BIJ)Z"⟩ : MethodName) method_4_code 4 (some .boolean) :: ws) ({ frames := 0, cells := 0, slots := 0, locals := 0 } : Room)) (fun a U => a = #[(.ref b1), (.int (11 : Int32)), (.long q3)] ∧ Z.Warmed39 U.vm ∧ U.heap = h0) (fun _ _ _ _ _ => True) (fun _ U o U' => ∃ v L, o = .returned v ∧ Q_same11 Z aFFDHE2048 aCONFIRMATION aFFDHE4096 aFFDHE3072 b1 q3 k1 u0 u1 u2 u3 u4 u5 u6 u7 u8 u9 u10 u19 u20 u21 u22 u23 u24 u25 u26 u27 u28 u29 u30 u31 u32 u33 u34 h0 n0 v U'.heap L ∧ FrameEnd U o U' L ({ frames := 0, cells := 0, slots := 0, locals := 0 } : Room).cells ({ frames := 0, cells := 0, slots := 0, locals := 0 } : Room).slots) := by
  refine MetFree.of_bodySF (plainFor_of_name pn_com_example_portcullis_portcullis_ConfirmationEncodePinLaw) hisR ?_
  intro p e s m args below meth c s₁ Bd hml0 hP hK
  obtain ⟨rfl, hZ, hh⟩ := hP
  have hx := Bd.exec
  have hby := Bd.bytes
  have hml : c.maxLocals = 4 := hml0
  have hown : s.vm.findClass "com/example/portcullis/portcullis/ConfirmationEncodePinLaw" = some m.cls := findClass_of_methodNamed Bd.named
  have hnm := (name_of_methodNamed Bd.named Bd.method).1
  have X0 : Stand p l e ({ frames := 0, cells := 0, slots := 0, locals := 0 } : Room) s m #[(.ref b1), (.int (11 : Int32)), (.long q3)] below meth c s₁ [] 0 0 := Stand.of_body Bd
  have e0 : s₁.heap = h0 := by rw [← hh, Bd.state]; rfl
  have N0 := Fr.nil n0
  refine own_go (Q := fun o U' => ∃ v L, o = .returned v ∧ Q_same11 Z aFFDHE2048 aCONFIRMATION aFFDHE4096 aFFDHE3072 b1 q3 k1 u0 u1 u2 u3 u4 u5 u6 u7 u8 u9 u10 u19 u20 u21 u22 u23 u24 u25 u26 u27 u28 u29 u30 u31 u32 u33 u34 h0 n0 v U'.heap L ∧ FrameEnd s o U' L ({ frames := 0, cells := 0, slots := 0, locals := 0 } : Room).cells ({ frames := 0, cells := 0, slots := 0, locals := 0 } : Room).slots) (fun t k => castTop (ef_same11 m b1 (11 : Int32) q3) k) ?_
  show OwnGo p e below _ (s₁.setTop (mkF m 0 #[.val (.ref b1), .val (.int (11 : Int32)), .val (.long q3), .second] []))
  refine own_go (fun _ k => XS.aloadN X0.here hx rfl (hb hby d_method_4_0) rfl rfl k) ?_
  show OwnGo p e below _ (s₁.setTop (mkF m 1 #[.val (.ref b1), .val (.int (11 : Int32)), .val (.long q3), .second] [(.ref b1)]))
  refine own_go (fun _ k => XS.iloadN X0.here hx rfl (hb hby d_method_4_1) rfl k) ?_
  show OwnGo p e below _ (s₁.setTop (mkF m 2 #[.val (.ref b1), .val (.int (11 : Int32)), .val (.long q3), .second] [(.int (11 : Int32)), (.ref b1)]))
  obtain ⟨c133, Ar133, q133, S133, M133, H133, G133⟩ := (id VA)
  refine own_go (fun _ k => X0.baloadBytes hx (j := (11 : Int32)) (v := (.int (((((((q3).toUInt64 >>> ((56 : Int32) &&& 0x3f).toInt64.toUInt64).toInt64)).toInt32)).toInt8.toInt32))) (by rw [e0]; exact Ar133.1) (State.isArrayOf_alike hZ.alike Ar133.2.1) Ar133.2.2 (inb_of S133 ⟨by decide, by decide⟩) (Has.at H133 (inb_of S133 ⟨by decide, by decide⟩) rfl) (g := (mkF m 2 #[.val (.ref b1), .val (.int (11 : Int32)), .val (.long q3), .second] [(.int (11 : Int32)), (.ref b1)])) rfl rfl (hb hby d_method_4_2) _ k) ?_
  show OwnGo p e below _ (s₁.setTop (mkF m 3 #[.val (.ref b1), .val (.int (11 : Int32)), .val (.long q3), .second] [(.int (((((((q3).toUInt64 >>> ((56 : Int32) &&& 0x3f).toInt64.toUInt64).toInt64)).toInt32)).toInt8.toInt32))]))
  refine own_go (fun _ k => XS.lloadN X0.here hx rfl (hb hby d_method_4_3) rfl k) ?_
  show OwnGo p e below _ (s₁.setTop (mkF m 4 #[.val (.ref b1), .val (.int (11 : Int32)), .val (.long q3), .second] [(.long q3), (.int (((((((q3).toUInt64 >>> ((56 : Int32) &&& 0x3f).toInt64.toUInt64).toInt64)).toInt32)).toInt8.toInt32))]))
  refine own_go (fun _ k => XS.bipush X0.here hx rfl (hb hby d_method_4_4) k) ?_
  show OwnGo p e below _ (s₁.setTop (mkF m 6 #[.val (.ref b1), .val (.int (11 : Int32)), .val (.long q3), .second] [(.int (56 : Int32)), (.long q3), (.int (((((((q3).toUInt64 >>> ((56 : Int32) &&& 0x3f).toInt64.toUInt64).toInt64)).toInt32)).toInt8.toInt32))]))
  refine own_go (fun _ k => XS.lushr X0.here hx rfl (hb hby d_method_4_6) rfl k) ?_
  show OwnGo p e below _ (s₁.setTop (mkF m 7 #[.val (.ref b1), .val (.int (11 : Int32)), .val (.long q3), .second] [(.long (((q3).toUInt64 >>> ((56 : Int32) &&& 0x3f).toInt64.toUInt64).toInt64)), (.int (((((((q3).toUInt64 >>> ((56 : Int32) &&& 0x3f).toInt64.toUInt64).toInt64)).toInt32)).toInt8.toInt32))]))
  refine own_go (fun _ k => XS.l2i X0.here hx rfl (hb hby d_method_4_7) rfl k) ?_
  show OwnGo p e below _ (s₁.setTop (mkF m 8 #[.val (.ref b1), .val (.int (11 : Int32)), .val (.long q3), .second] [(.int (((((q3).toUInt64 >>> ((56 : Int32) &&& 0x3f).toInt64.toUInt64).toInt64)).toInt32)), (.int (((((((q3).toUInt64 >>> ((56 : Int32) &&& 0x3f).toInt64.toUInt64).toInt64)).toInt32)).toInt8.toInt32))]))
  refine own_go (fun _ k => XS.i2b X0.here hx rfl (hb hby d_method_4_8) rfl k) ?_
  show OwnGo p e below _ (s₁.setTop (mkF m 9 #[.val (.ref b1), .val (.int (11 : Int32)), .val (.long q3), .second] [(.int (((((((q3).toUInt64 >>> ((56 : Int32) &&& 0x3f).toInt64.toUInt64).toInt64)).toInt32)).toInt8.toInt32)), (.int (((((((q3).toUInt64 >>> ((56 : Int32) &&& 0x3f).toInt64.toUInt64).toInt64)).toInt32)).toInt8.toInt32))]))
  refine own_go (fun _ k => XS.icmpNo X0.here hx rfl (hb hby d_method_4_9) rfl (teq rfl).2 k) ?_
  show OwnGo p e below _ (s₁.setTop (mkF m 12 #[.val (.ref b1), .val (.int (11 : Int32)), .val (.long q3), .second] []))
  refine own_go (fun _ k => XS.aloadN X0.here hx rfl (hb hby d_method_4_12) rfl rfl k) ?_
  show OwnGo p e below _ (s₁.setTop (mkF m 13 #[.val (.ref b1), .val (.int (11 : Int32)), .val (.long q3), .second] [(.ref b1)]))
  refine own_go (fun _ k => XS.iloadN X0.here hx rfl (hb hby d_method_4_13) rfl k) ?_
  show OwnGo p e below _ (s₁.setTop (mkF m 14 #[.val (.ref b1), .val (.int (11 : Int32)), .val (.long q3), .second] [(.int (11 : Int32)), (.ref b1)]))
  refine own_go (fun _ k => XS.iconst X0.here hx rfl (hb hby d_method_4_14) k) ?_
  show OwnGo p e below _ (s₁.setTop (mkF m 15 #[.val (.ref b1), .val (.int (11 : Int32)), .val (.long q3), .second] [(.int (1 : Int32)), (.int (11 : Int32)), (.ref b1)]))
  refine own_go (fun _ k => XS.iadd X0.here hx rfl (hb hby d_method_4_15) rfl k) ?_
  show OwnGo p e below _ (s₁.setTop (mkF m 16 #[.val (.ref b1), .val (.int (11 : Int32)), .val (.long q3), .second] [(.int ((11 : Int32) + (1 : Int32))), (.ref b1)]))
  rw [show ((11 : Int32) + (1 : Int32)) = (12 : Int32) from by decide]
  show OwnGo p e below _ (s₁.setTop (mkF m 16 #[.val (.ref b1), .val (.int (11 : Int32)), .val (.long q3), .second] [(.int (12 : Int32)), (.ref b1)]))
  obtain ⟨c134, Ar134, q134, S134, M134, H134, G134⟩ := (id VA)
  refine own_go (fun _ k => X0.baloadBytes hx (j := (12 : Int32)) (v := (.int (((((((q3).toUInt64 >>> ((48 : Int32) &&& 0x3f).toInt64.toUInt64).toInt64)).toInt32)).toInt8.toInt32))) (by rw [e0]; exact Ar134.1) (State.isArrayOf_alike hZ.alike Ar134.2.1) Ar134.2.2 (inb_of S134 ⟨by decide, by decide⟩) (Has.at H134 (inb_of S134 ⟨by decide, by decide⟩) rfl) (g := (mkF m 16 #[.val (.ref b1), .val (.int (11 : Int32)), .val (.long q3), .second] [(.int (12 : Int32)), (.ref b1)])) rfl rfl (hb hby d_method_4_16) _ k) ?_
  show OwnGo p e below _ (s₁.setTop (mkF m 17 #[.val (.ref b1), .val (.int (11 : Int32)), .val (.long q3), .second] [(.int (((((((q3).toUInt64 >>> ((48 : Int32) &&& 0x3f).toInt64.toUInt64).toInt64)).toInt32)).toInt8.toInt32))]))
  refine own_go (fun _ k => XS.lloadN X0.here hx rfl (hb hby d_method_4_17) rfl k) ?_
  show OwnGo p e below _ (s₁.setTop (mkF m 18 #[.val (.ref b1), .val (.int (11 : Int32)), .val (.long q3), .second] [(.long q3), (.int (((((((q3).toUInt64 >>> ((48 : Int32) &&& 0x3f).toInt64.toUInt64).toInt64)).toInt32)).toInt8.toInt32))]))
  refine own_go (fun _ k => XS.bipush X0.here hx rfl (hb hby d_method_4_18) k) ?_
  show OwnGo p e below _ (s₁.setTop (mkF m 20 #[.val (.ref b1), .val (.int (11 : Int32)), .val (.long q3), .second] [(.int (48 : Int32)), (.long q3), (.int (((((((q3).toUInt64 >>> ((48 : Int32) &&& 0x3f).toInt64.toUInt64).toInt64)).toInt32)).toInt8.toInt32))]))
  refine own_go (fun _ k => XS.lushr X0.here hx rfl (hb hby d_method_4_20) rfl k) ?_
  show OwnGo p e below _ (s₁.setTop (mkF m 21 #[.val (.ref b1), .val (.int (11 : Int32)), .val (.long q3), .second] [(.long (((q3).toUInt64 >>> ((48 : Int32) &&& 0x3f).toInt64.toUInt64).toInt64)), (.int (((((((q3).toUInt64 >>> ((48 : Int32) &&& 0x3f).toInt64.toUInt64).toInt64)).toInt32)).toInt8.toInt32))]))
  refine own_go (fun _ k => XS.l2i X0.here hx rfl (hb hby d_method_4_21) rfl k) ?_
  show OwnGo p e below _ (s₁.setTop (mkF m 22 #[.val (.ref b1), .val (.int (11 : Int32)), .val (.long q3), .second] [(.int (((((q3).toUInt64 >>> ((48 : Int32) &&& 0x3f).toInt64.toUInt64).toInt64)).toInt32)), (.int (((((((q3).toUInt64 >>> ((48 : Int32) &&& 0x3f).toInt64.toUInt64).toInt64)).toInt32)).toInt8.toInt32))]))
  refine own_go (fun _ k => XS.i2b X0.here hx rfl (hb hby d_method_4_22) rfl k) ?_
  show OwnGo p e below _ (s₁.setTop (mkF m 23 #[.val (.ref b1), .val (.int (11 : Int32)), .val (.long q3), .second] [(.int (((((((q3).toUInt64 >>> ((48 : Int32) &&& 0x3f).toInt64.toUInt64).toInt64)).toInt32)).toInt8.toInt32)), (.int (((((((q3).toUInt64 >>> ((48 : Int32) &&& 0x3f).toInt64.toUInt64).toInt64)).toInt32)).toInt8.toInt32))]))
  refine own_go (fun _ k => XS.icmpNo X0.here hx rfl (hb hby d_method_4_23) rfl (teq rfl).2 k) ?_
  show OwnGo p e below _ (s₁.setTop (mkF m 26 #[.val (.ref b1), .val (.int (11 : Int32)), .val (.long q3), .second] []))
  refine own_go (fun _ k => XS.aloadN X0.here hx rfl (hb hby d_method_4_26) rfl rfl k) ?_
  show OwnGo p e below _ (s₁.setTop (mkF m 27 #[.val (.ref b1), .val (.int (11 : Int32)), .val (.long q3), .second] [(.ref b1)]))
  refine own_go (fun _ k => XS.iloadN X0.here hx rfl (hb hby d_method_4_27) rfl k) ?_
  show OwnGo p e below _ (s₁.setTop (mkF m 28 #[.val (.ref b1), .val (.int (11 : Int32)), .val (.long q3), .second] [(.int (11 : Int32)), (.ref b1)]))
  refine own_go (fun _ k => XS.iconst X0.here hx rfl (hb hby d_method_4_28) k) ?_
  show OwnGo p e below _ (s₁.setTop (mkF m 29 #[.val (.ref b1), .val (.int (11 : Int32)), .val (.long q3), .second] [(.int (2 : Int32)), (.int (11 : Int32)), (.ref b1)]))
  refine own_go (fun _ k => XS.iadd X0.here hx rfl (hb hby d_method_4_29) rfl k) ?_
  show OwnGo p e below _ (s₁.setTop (mkF m 30 #[.val (.ref b1), .val (.int (11 : Int32)), .val (.long q3), .second] [(.int ((11 : Int32) + (2 : Int32))), (.ref b1)]))
  rw [show ((11 : Int32) + (2 : Int32)) = (13 : Int32) from by decide]
  show OwnGo p e below _ (s₁.setTop (mkF m 30 #[.val (.ref b1), .val (.int (11 : Int32)), .val (.long q3), .second] [(.int (13 : Int32)), (.ref b1)]))
  obtain ⟨c135, Ar135, q135, S135, M135, H135, G135⟩ := (id VA)
  refine own_go (fun _ k => X0.baloadBytes hx (j := (13 : Int32)) (v := (.int (((((((q3).toUInt64 >>> ((40 : Int32) &&& 0x3f).toInt64.toUInt64).toInt64)).toInt32)).toInt8.toInt32))) (by rw [e0]; exact Ar135.1) (State.isArrayOf_alike hZ.alike Ar135.2.1) Ar135.2.2 (inb_of S135 ⟨by decide, by decide⟩) (Has.at H135 (inb_of S135 ⟨by decide, by decide⟩) rfl) (g := (mkF m 30 #[.val (.ref b1), .val (.int (11 : Int32)), .val (.long q3), .second] [(.int (13 : Int32)), (.ref b1)])) rfl rfl (hb hby d_method_4_30) _ k) ?_
  show OwnGo p e below _ (s₁.setTop (mkF m 31 #[.val (.ref b1), .val (.int (11 : Int32)), .val (.long q3), .second] [(.int (((((((q3).toUInt64 >>> ((40 : Int32) &&& 0x3f).toInt64.toUInt64).toInt64)).toInt32)).toInt8.toInt32))]))
  refine own_go (fun _ k => XS.lloadN X0.here hx rfl (hb hby d_method_4_31) rfl k) ?_
  show OwnGo p e below _ (s₁.setTop (mkF m 32 #[.val (.ref b1), .val (.int (11 : Int32)), .val (.long q3), .second] [(.long q3), (.int (((((((q3).toUInt64 >>> ((40 : Int32) &&& 0x3f).toInt64.toUInt64).toInt64)).toInt32)).toInt8.toInt32))]))
  refine own_go (fun _ k => XS.bipush X0.here hx rfl (hb hby d_method_4_32) k) ?_
  show OwnGo p e below _ (s₁.setTop (mkF m 34 #[.val (.ref b1), .val (.int (11 : Int32)), .val (.long q3), .second] [(.int (40 : Int32)), (.long q3), (.int (((((((q3).toUInt64 >>> ((40 : Int32) &&& 0x3f).toInt64.toUInt64).toInt64)).toInt32)).toInt8.toInt32))]))
  refine own_go (fun _ k => XS.lushr X0.here hx rfl (hb hby d_method_4_34) rfl k) ?_
  show OwnGo p e below _ (s₁.setTop (mkF m 35 #[.val (.ref b1), .val (.int (11 : Int32)), .val (.long q3), .second] [(.long (((q3).toUInt64 >>> ((40 : Int32) &&& 0x3f).toInt64.toUInt64).toInt64)), (.int (((((((q3).toUInt64 >>> ((40 : Int32) &&& 0x3f).toInt64.toUInt64).toInt64)).toInt32)).toInt8.toInt32))]))
  refine own_go (fun _ k => XS.l2i X0.here hx rfl (hb hby d_method_4_35) rfl k) ?_
  show OwnGo p e below _ (s₁.setTop (mkF m 36 #[.val (.ref b1), .val (.int (11 : Int32)), .val (.long q3), .second] [(.int (((((q3).toUInt64 >>> ((40 : Int32) &&& 0x3f).toInt64.toUInt64).toInt64)).toInt32)), (.int (((((((q3).toUInt64 >>> ((40 : Int32) &&& 0x3f).toInt64.toUInt64).toInt64)).toInt32)).toInt8.toInt32))]))
  refine own_go (fun _ k => XS.i2b X0.here hx rfl (hb hby d_method_4_36) rfl k) ?_
  show OwnGo p e below _ (s₁.setTop (mkF m 37 #[.val (.ref b1), .val (.int (11 : Int32)), .val (.long q3), .second] [(.int (((((((q3).toUInt64 >>> ((40 : Int32) &&& 0x3f).toInt64.toUInt64).toInt64)).toInt32)).toInt8.toInt32)), (.int (((((((q3).toUInt64 >>> ((40 : Int32) &&& 0x3f).toInt64.toUInt64).toInt64)).toInt32)).toInt8.toInt32))]))
  refine own_go (fun _ k => XS.icmpNo X0.here hx rfl (hb hby d_method_4_37) rfl (teq rfl).2 k) ?_
  show OwnGo p e below _ (s₁.setTop (mkF m 40 #[.val (.ref b1), .val (.int (11 : Int32)), .val (.long q3), .second] []))
  refine own_go (fun _ k => XS.aloadN X0.here hx rfl (hb hby d_method_4_40) rfl rfl k) ?_
  show OwnGo p e below _ (s₁.setTop (mkF m 41 #[.val (.ref b1), .val (.int (11 : Int32)), .val (.long q3), .second] [(.ref b1)]))
  refine own_go (fun _ k => XS.iloadN X0.here hx rfl (hb hby d_method_4_41) rfl k) ?_
  show OwnGo p e below _ (s₁.setTop (mkF m 42 #[.val (.ref b1), .val (.int (11 : Int32)), .val (.long q3), .second] [(.int (11 : Int32)), (.ref b1)]))
  refine own_go (fun _ k => XS.iconst X0.here hx rfl (hb hby d_method_4_42) k) ?_
  show OwnGo p e below _ (s₁.setTop (mkF m 43 #[.val (.ref b1), .val (.int (11 : Int32)), .val (.long q3), .second] [(.int (3 : Int32)), (.int (11 : Int32)), (.ref b1)]))
  refine own_go (fun _ k => XS.iadd X0.here hx rfl (hb hby d_method_4_43) rfl k) ?_
  show OwnGo p e below _ (s₁.setTop (mkF m 44 #[.val (.ref b1), .val (.int (11 : Int32)), .val (.long q3), .second] [(.int ((11 : Int32) + (3 : Int32))), (.ref b1)]))
  rw [show ((11 : Int32) + (3 : Int32)) = (14 : Int32) from by decide]
  show OwnGo p e below _ (s₁.setTop (mkF m 44 #[.val (.ref b1), .val (.int (11 : Int32)), .val (.long q3), .second] [(.int (14 : Int32)), (.ref b1)]))
  obtain ⟨c136, Ar136, q136, S136, M136, H136, G136⟩ := (id VA)
  refine own_go (fun _ k => X0.baloadBytes hx (j := (14 : Int32)) (v := (.int (((((((q3).toUInt64 >>> ((32 : Int32) &&& 0x3f).toInt64.toUInt64).toInt64)).toInt32)).toInt8.toInt32))) (by rw [e0]; exact Ar136.1) (State.isArrayOf_alike hZ.alike Ar136.2.1) Ar136.2.2 (inb_of S136 ⟨by decide, by decide⟩) (Has.at H136 (inb_of S136 ⟨by decide, by decide⟩) rfl) (g := (mkF m 44 #[.val (.ref b1), .val (.int (11 : Int32)), .val (.long q3), .second] [(.int (14 : Int32)), (.ref b1)])) rfl rfl (hb hby d_method_4_44) _ k) ?_
  show OwnGo p e below _ (s₁.setTop (mkF m 45 #[.val (.ref b1), .val (.int (11 : Int32)), .val (.long q3), .second] [(.int (((((((q3).toUInt64 >>> ((32 : Int32) &&& 0x3f).toInt64.toUInt64).toInt64)).toInt32)).toInt8.toInt32))]))
  refine own_go (fun _ k => XS.lloadN X0.here hx rfl (hb hby d_method_4_45) rfl k) ?_
  show OwnGo p e below _ (s₁.setTop (mkF m 46 #[.val (.ref b1), .val (.int (11 : Int32)), .val (.long q3), .second] [(.long q3), (.int (((((((q3).toUInt64 >>> ((32 : Int32) &&& 0x3f).toInt64.toUInt64).toInt64)).toInt32)).toInt8.toInt32))]))
  refine own_go (fun _ k => XS.bipush X0.here hx rfl (hb hby d_method_4_46) k) ?_
  show OwnGo p e below _ (s₁.setTop (mkF m 48 #[.val (.ref b1), .val (.int (11 : Int32)), .val (.long q3), .second] [(.int (32 : Int32)), (.long q3), (.int (((((((q3).toUInt64 >>> ((32 : Int32) &&& 0x3f).toInt64.toUInt64).toInt64)).toInt32)).toInt8.toInt32))]))
  refine own_go (fun _ k => XS.lushr X0.here hx rfl (hb hby d_method_4_48) rfl k) ?_
  show OwnGo p e below _ (s₁.setTop (mkF m 49 #[.val (.ref b1), .val (.int (11 : Int32)), .val (.long q3), .second] [(.long (((q3).toUInt64 >>> ((32 : Int32) &&& 0x3f).toInt64.toUInt64).toInt64)), (.int (((((((q3).toUInt64 >>> ((32 : Int32) &&& 0x3f).toInt64.toUInt64).toInt64)).toInt32)).toInt8.toInt32))]))
  refine own_go (fun _ k => XS.l2i X0.here hx rfl (hb hby d_method_4_49) rfl k) ?_
  show OwnGo p e below _ (s₁.setTop (mkF m 50 #[.val (.ref b1), .val (.int (11 : Int32)), .val (.long q3), .second] [(.int (((((q3).toUInt64 >>> ((32 : Int32) &&& 0x3f).toInt64.toUInt64).toInt64)).toInt32)), (.int (((((((q3).toUInt64 >>> ((32 : Int32) &&& 0x3f).toInt64.toUInt64).toInt64)).toInt32)).toInt8.toInt32))]))
  refine own_go (fun _ k => XS.i2b X0.here hx rfl (hb hby d_method_4_50) rfl k) ?_
  show OwnGo p e below _ (s₁.setTop (mkF m 51 #[.val (.ref b1), .val (.int (11 : Int32)), .val (.long q3), .second] [(.int (((((((q3).toUInt64 >>> ((32 : Int32) &&& 0x3f).toInt64.toUInt64).toInt64)).toInt32)).toInt8.toInt32)), (.int (((((((q3).toUInt64 >>> ((32 : Int32) &&& 0x3f).toInt64.toUInt64).toInt64)).toInt32)).toInt8.toInt32))]))
  refine own_go (fun _ k => XS.icmpNo X0.here hx rfl (hb hby d_method_4_51) rfl (teq rfl).2 k) ?_
  show OwnGo p e below _ (s₁.setTop (mkF m 54 #[.val (.ref b1), .val (.int (11 : Int32)), .val (.long q3), .second] []))
  refine own_go (fun _ k => XS.aloadN X0.here hx rfl (hb hby d_method_4_54) rfl rfl k) ?_
  show OwnGo p e below _ (s₁.setTop (mkF m 55 #[.val (.ref b1), .val (.int (11 : Int32)), .val (.long q3), .second] [(.ref b1)]))
  refine own_go (fun _ k => XS.iloadN X0.here hx rfl (hb hby d_method_4_55) rfl k) ?_
  show OwnGo p e below _ (s₁.setTop (mkF m 56 #[.val (.ref b1), .val (.int (11 : Int32)), .val (.long q3), .second] [(.int (11 : Int32)), (.ref b1)]))
  refine own_go (fun _ k => XS.iconst X0.here hx rfl (hb hby d_method_4_56) k) ?_
  show OwnGo p e below _ (s₁.setTop (mkF m 57 #[.val (.ref b1), .val (.int (11 : Int32)), .val (.long q3), .second] [(.int (4 : Int32)), (.int (11 : Int32)), (.ref b1)]))
  refine own_go (fun _ k => XS.iadd X0.here hx rfl (hb hby d_method_4_57) rfl k) ?_
  show OwnGo p e below _ (s₁.setTop (mkF m 58 #[.val (.ref b1), .val (.int (11 : Int32)), .val (.long q3), .second] [(.int ((11 : Int32) + (4 : Int32))), (.ref b1)]))
  rw [show ((11 : Int32) + (4 : Int32)) = (15 : Int32) from by decide]
  show OwnGo p e below _ (s₁.setTop (mkF m 58 #[.val (.ref b1), .val (.int (11 : Int32)), .val (.long q3), .second] [(.int (15 : Int32)), (.ref b1)]))
  obtain ⟨c137, Ar137, q137, S137, M137, H137, G137⟩ := (id VA)
  refine own_go (fun _ k => X0.baloadBytes hx (j := (15 : Int32)) (v := (.int (((((((q3).toUInt64 >>> ((24 : Int32) &&& 0x3f).toInt64.toUInt64).toInt64)).toInt32)).toInt8.toInt32))) (by rw [e0]; exact Ar137.1) (State.isArrayOf_alike hZ.alike Ar137.2.1) Ar137.2.2 (inb_of S137 ⟨by decide, by decide⟩) (Has.at H137 (inb_of S137 ⟨by decide, by decide⟩) rfl) (g := (mkF m 58 #[.val (.ref b1), .val (.int (11 : Int32)), .val (.long q3), .second] [(.int (15 : Int32)), (.ref b1)])) rfl rfl (hb hby d_method_4_58) _ k) ?_
  show OwnGo p e below _ (s₁.setTop (mkF m 59 #[.val (.ref b1), .val (.int (11 : Int32)), .val (.long q3), .second] [(.int (((((((q3).toUInt64 >>> ((24 : Int32) &&& 0x3f).toInt64.toUInt64).toInt64)).toInt32)).toInt8.toInt32))]))
  refine own_go (fun _ k => XS.lloadN X0.here hx rfl (hb hby d_method_4_59) rfl k) ?_
  show OwnGo p e below _ (s₁.setTop (mkF m 60 #[.val (.ref b1), .val (.int (11 : Int32)), .val (.long q3), .second] [(.long q3), (.int (((((((q3).toUInt64 >>> ((24 : Int32) &&& 0x3f).toInt64.toUInt64).toInt64)).toInt32)).toInt8.toInt32))]))
  refine own_go (fun _ k => XS.bipush X0.here hx rfl (hb hby d_method_4_60) k) ?_
  show OwnGo p e below _ (s₁.setTop (mkF m 62 #[.val (.ref b1), .val (.int (11 : Int32)), .val (.long q3), .second] [(.int (24 : Int32)), (.long q3), (.int (((((((q3).toUInt64 >>> ((24 : Int32) &&& 0x3f).toInt64.toUInt64).toInt64)).toInt32)).toInt8.toInt32))]))
  refine own_go (fun _ k => XS.lushr X0.here hx rfl (hb hby d_method_4_62) rfl k) ?_
  show OwnGo p e below _ (s₁.setTop (mkF m 63 #[.val (.ref b1), .val (.int (11 : Int32)), .val (.long q3), .second] [(.long (((q3).toUInt64 >>> ((24 : Int32) &&& 0x3f).toInt64.toUInt64).toInt64)), (.int (((((((q3).toUInt64 >>> ((24 : Int32) &&& 0x3f).toInt64.toUInt64).toInt64)).toInt32)).toInt8.toInt32))]))
  refine own_go (fun _ k => XS.l2i X0.here hx rfl (hb hby d_method_4_63) rfl k) ?_
  show OwnGo p e below _ (s₁.setTop (mkF m 64 #[.val (.ref b1), .val (.int (11 : Int32)), .val (.long q3), .second] [(.int (((((q3).toUInt64 >>> ((24 : Int32) &&& 0x3f).toInt64.toUInt64).toInt64)).toInt32)), (.int (((((((q3).toUInt64 >>> ((24 : Int32) &&& 0x3f).toInt64.toUInt64).toInt64)).toInt32)).toInt8.toInt32))]))
  refine own_go (fun _ k => XS.i2b X0.here hx rfl (hb hby d_method_4_64) rfl k) ?_
  show OwnGo p e below _ (s₁.setTop (mkF m 65 #[.val (.ref b1), .val (.int (11 : Int32)), .val (.long q3), .second] [(.int (((((((q3).toUInt64 >>> ((24 : Int32) &&& 0x3f).toInt64.toUInt64).toInt64)).toInt32)).toInt8.toInt32)), (.int (((((((q3).toUInt64 >>> ((24 : Int32) &&& 0x3f).toInt64.toUInt64).toInt64)).toInt32)).toInt8.toInt32))]))
  refine own_go (fun _ k => XS.icmpNo X0.here hx rfl (hb hby d_method_4_65) rfl (teq rfl).2 k) ?_
  show OwnGo p e below _ (s₁.setTop (mkF m 68 #[.val (.ref b1), .val (.int (11 : Int32)), .val (.long q3), .second] []))
  refine own_go (fun _ k => XS.aloadN X0.here hx rfl (hb hby d_method_4_68) rfl rfl k) ?_
  show OwnGo p e below _ (s₁.setTop (mkF m 69 #[.val (.ref b1), .val (.int (11 : Int32)), .val (.long q3), .second] [(.ref b1)]))
  refine own_go (fun _ k => XS.iloadN X0.here hx rfl (hb hby d_method_4_69) rfl k) ?_
  show OwnGo p e below _ (s₁.setTop (mkF m 70 #[.val (.ref b1), .val (.int (11 : Int32)), .val (.long q3), .second] [(.int (11 : Int32)), (.ref b1)]))
  refine own_go (fun _ k => XS.iconst X0.here hx rfl (hb hby d_method_4_70) k) ?_
  show OwnGo p e below _ (s₁.setTop (mkF m 71 #[.val (.ref b1), .val (.int (11 : Int32)), .val (.long q3), .second] [(.int (5 : Int32)), (.int (11 : Int32)), (.ref b1)]))
  refine own_go (fun _ k => XS.iadd X0.here hx rfl (hb hby d_method_4_71) rfl k) ?_
  show OwnGo p e below _ (s₁.setTop (mkF m 72 #[.val (.ref b1), .val (.int (11 : Int32)), .val (.long q3), .second] [(.int ((11 : Int32) + (5 : Int32))), (.ref b1)]))
  rw [show ((11 : Int32) + (5 : Int32)) = (16 : Int32) from by decide]
  show OwnGo p e below _ (s₁.setTop (mkF m 72 #[.val (.ref b1), .val (.int (11 : Int32)), .val (.long q3), .second] [(.int (16 : Int32)), (.ref b1)]))
  obtain ⟨c138, Ar138, q138, S138, M138, H138, G138⟩ := (id VA)
  refine own_go (fun _ k => X0.baloadBytes hx (j := (16 : Int32)) (v := (.int (((((((q3).toUInt64 >>> ((16 : Int32) &&& 0x3f).toInt64.toUInt64).toInt64)).toInt32)).toInt8.toInt32))) (by rw [e0]; exact Ar138.1) (State.isArrayOf_alike hZ.alike Ar138.2.1) Ar138.2.2 (inb_of S138 ⟨by decide, by decide⟩) (Has.at H138 (inb_of S138 ⟨by decide, by decide⟩) rfl) (g := (mkF m 72 #[.val (.ref b1), .val (.int (11 : Int32)), .val (.long q3), .second] [(.int (16 : Int32)), (.ref b1)])) rfl rfl (hb hby d_method_4_72) _ k) ?_
  show OwnGo p e below _ (s₁.setTop (mkF m 73 #[.val (.ref b1), .val (.int (11 : Int32)), .val (.long q3), .second] [(.int (((((((q3).toUInt64 >>> ((16 : Int32) &&& 0x3f).toInt64.toUInt64).toInt64)).toInt32)).toInt8.toInt32))]))
  refine own_go (fun _ k => XS.lloadN X0.here hx rfl (hb hby d_method_4_73) rfl k) ?_
  show OwnGo p e below _ (s₁.setTop (mkF m 74 #[.val (.ref b1), .val (.int (11 : Int32)), .val (.long q3), .second] [(.long q3), (.int (((((((q3).toUInt64 >>> ((16 : Int32) &&& 0x3f).toInt64.toUInt64).toInt64)).toInt32)).toInt8.toInt32))]))
  refine own_go (fun _ k => XS.bipush X0.here hx rfl (hb hby d_method_4_74) k) ?_
  show OwnGo p e below _ (s₁.setTop (mkF m 76 #[.val (.ref b1), .val (.int (11 : Int32)), .val (.long q3), .second] [(.int (16 : Int32)), (.long q3), (.int (((((((q3).toUInt64 >>> ((16 : Int32) &&& 0x3f).toInt64.toUInt64).toInt64)).toInt32)).toInt8.toInt32))]))
  refine own_go (fun _ k => XS.lushr X0.here hx rfl (hb hby d_method_4_76) rfl k) ?_
  show OwnGo p e below _ (s₁.setTop (mkF m 77 #[.val (.ref b1), .val (.int (11 : Int32)), .val (.long q3), .second] [(.long (((q3).toUInt64 >>> ((16 : Int32) &&& 0x3f).toInt64.toUInt64).toInt64)), (.int (((((((q3).toUInt64 >>> ((16 : Int32) &&& 0x3f).toInt64.toUInt64).toInt64)).toInt32)).toInt8.toInt32))]))
  refine own_go (fun _ k => XS.l2i X0.here hx rfl (hb hby d_method_4_77) rfl k) ?_
  show OwnGo p e below _ (s₁.setTop (mkF m 78 #[.val (.ref b1), .val (.int (11 : Int32)), .val (.long q3), .second] [(.int (((((q3).toUInt64 >>> ((16 : Int32) &&& 0x3f).toInt64.toUInt64).toInt64)).toInt32)), (.int (((((((q3).toUInt64 >>> ((16 : Int32) &&& 0x3f).toInt64.toUInt64).toInt64)).toInt32)).toInt8.toInt32))]))
  refine own_go (fun _ k => XS.i2b X0.here hx rfl (hb hby d_method_4_78) rfl k) ?_
  show OwnGo p e below _ (s₁.setTop (mkF m 79 #[.val (.ref b1), .val (.int (11 : Int32)), .val (.long q3), .second] [(.int (((((((q3).toUInt64 >>> ((16 : Int32) &&& 0x3f).toInt64.toUInt64).toInt64)).toInt32)).toInt8.toInt32)), (.int (((((((q3).toUInt64 >>> ((16 : Int32) &&& 0x3f).toInt64.toUInt64).toInt64)).toInt32)).toInt8.toInt32))]))
  refine own_go (fun _ k => XS.icmpNo X0.here hx rfl (hb hby d_method_4_79) rfl (teq rfl).2 k) ?_
  show OwnGo p e below _ (s₁.setTop (mkF m 82 #[.val (.ref b1), .val (.int (11 : Int32)), .val (.long q3), .second] []))
  refine own_go (fun _ k => XS.aloadN X0.here hx rfl (hb hby d_method_4_82) rfl rfl k) ?_
  show OwnGo p e below _ (s₁.setTop (mkF m 83 #[.val (.ref b1), .val (.int (11 : Int32)), .val (.long q3), .second] [(.ref b1)]))
  refine own_go (fun _ k => XS.iloadN X0.here hx rfl (hb hby d_method_4_83) rfl k) ?_
  show OwnGo p e below _ (s₁.setTop (mkF m 84 #[.val (.ref b1), .val (.int (11 : Int32)), .val (.long q3), .second] [(.int (11 : Int32)), (.ref b1)]))
  refine own_go (fun _ k => XS.bipush X0.here hx rfl (hb hby d_method_4_84) k) ?_
  show OwnGo p e below _ (s₁.setTop (mkF m 86 #[.val (.ref b1), .val (.int (11 : Int32)), .val (.long q3), .second] [(.int (6 : Int32)), (.int (11 : Int32)), (.ref b1)]))
  refine own_go (fun _ k => XS.iadd X0.here hx rfl (hb hby d_method_4_86) rfl k) ?_
  show OwnGo p e below _ (s₁.setTop (mkF m 87 #[.val (.ref b1), .val (.int (11 : Int32)), .val (.long q3), .second] [(.int ((11 : Int32) + (6 : Int32))), (.ref b1)]))
  rw [show ((11 : Int32) + (6 : Int32)) = (17 : Int32) from by decide]
  show OwnGo p e below _ (s₁.setTop (mkF m 87 #[.val (.ref b1), .val (.int (11 : Int32)), .val (.long q3), .second] [(.int (17 : Int32)), (.ref b1)]))
  obtain ⟨c139, Ar139, q139, S139, M139, H139, G139⟩ := (id VA)
  refine own_go (fun _ k => X0.baloadBytes hx (j := (17 : Int32)) (v := (.int (((((((q3).toUInt64 >>> ((8 : Int32) &&& 0x3f).toInt64.toUInt64).toInt64)).toInt32)).toInt8.toInt32))) (by rw [e0]; exact Ar139.1) (State.isArrayOf_alike hZ.alike Ar139.2.1) Ar139.2.2 (inb_of S139 ⟨by decide, by decide⟩) (Has.at H139 (inb_of S139 ⟨by decide, by decide⟩) rfl) (g := (mkF m 87 #[.val (.ref b1), .val (.int (11 : Int32)), .val (.long q3), .second] [(.int (17 : Int32)), (.ref b1)])) rfl rfl (hb hby d_method_4_87) _ k) ?_
  show OwnGo p e below _ (s₁.setTop (mkF m 88 #[.val (.ref b1), .val (.int (11 : Int32)), .val (.long q3), .second] [(.int (((((((q3).toUInt64 >>> ((8 : Int32) &&& 0x3f).toInt64.toUInt64).toInt64)).toInt32)).toInt8.toInt32))]))
  refine own_go (fun _ k => XS.lloadN X0.here hx rfl (hb hby d_method_4_88) rfl k) ?_
  show OwnGo p e below _ (s₁.setTop (mkF m 89 #[.val (.ref b1), .val (.int (11 : Int32)), .val (.long q3), .second] [(.long q3), (.int (((((((q3).toUInt64 >>> ((8 : Int32) &&& 0x3f).toInt64.toUInt64).toInt64)).toInt32)).toInt8.toInt32))]))
  refine own_go (fun _ k => XS.bipush X0.here hx rfl (hb hby d_method_4_89) k) ?_
  show OwnGo p e below _ (s₁.setTop (mkF m 91 #[.val (.ref b1), .val (.int (11 : Int32)), .val (.long q3), .second] [(.int (8 : Int32)), (.long q3), (.int (((((((q3).toUInt64 >>> ((8 : Int32) &&& 0x3f).toInt64.toUInt64).toInt64)).toInt32)).toInt8.toInt32))]))
  refine own_go (fun _ k => XS.lushr X0.here hx rfl (hb hby d_method_4_91) rfl k) ?_
  show OwnGo p e below _ (s₁.setTop (mkF m 92 #[.val (.ref b1), .val (.int (11 : Int32)), .val (.long q3), .second] [(.long (((q3).toUInt64 >>> ((8 : Int32) &&& 0x3f).toInt64.toUInt64).toInt64)), (.int (((((((q3).toUInt64 >>> ((8 : Int32) &&& 0x3f).toInt64.toUInt64).toInt64)).toInt32)).toInt8.toInt32))]))
  refine own_go (fun _ k => XS.l2i X0.here hx rfl (hb hby d_method_4_92) rfl k) ?_
  show OwnGo p e below _ (s₁.setTop (mkF m 93 #[.val (.ref b1), .val (.int (11 : Int32)), .val (.long q3), .second] [(.int (((((q3).toUInt64 >>> ((8 : Int32) &&& 0x3f).toInt64.toUInt64).toInt64)).toInt32)), (.int (((((((q3).toUInt64 >>> ((8 : Int32) &&& 0x3f).toInt64.toUInt64).toInt64)).toInt32)).toInt8.toInt32))]))
  refine own_go (fun _ k => XS.i2b X0.here hx rfl (hb hby d_method_4_93) rfl k) ?_
  show OwnGo p e below _ (s₁.setTop (mkF m 94 #[.val (.ref b1), .val (.int (11 : Int32)), .val (.long q3), .second] [(.int (((((((q3).toUInt64 >>> ((8 : Int32) &&& 0x3f).toInt64.toUInt64).toInt64)).toInt32)).toInt8.toInt32)), (.int (((((((q3).toUInt64 >>> ((8 : Int32) &&& 0x3f).toInt64.toUInt64).toInt64)).toInt32)).toInt8.toInt32))]))
  refine own_go (fun _ k => XS.icmpNo X0.here hx rfl (hb hby d_method_4_94) rfl (teq rfl).2 k) ?_
  show OwnGo p e below _ (s₁.setTop (mkF m 97 #[.val (.ref b1), .val (.int (11 : Int32)), .val (.long q3), .second] []))
  refine own_go (fun _ k => XS.aloadN X0.here hx rfl (hb hby d_method_4_97) rfl rfl k) ?_
  show OwnGo p e below _ (s₁.setTop (mkF m 98 #[.val (.ref b1), .val (.int (11 : Int32)), .val (.long q3), .second] [(.ref b1)]))
  refine own_go (fun _ k => XS.iloadN X0.here hx rfl (hb hby d_method_4_98) rfl k) ?_
  show OwnGo p e below _ (s₁.setTop (mkF m 99 #[.val (.ref b1), .val (.int (11 : Int32)), .val (.long q3), .second] [(.int (11 : Int32)), (.ref b1)]))
  refine own_go (fun _ k => XS.bipush X0.here hx rfl (hb hby d_method_4_99) k) ?_
  show OwnGo p e below _ (s₁.setTop (mkF m 101 #[.val (.ref b1), .val (.int (11 : Int32)), .val (.long q3), .second] [(.int (7 : Int32)), (.int (11 : Int32)), (.ref b1)]))
  refine own_go (fun _ k => XS.iadd X0.here hx rfl (hb hby d_method_4_101) rfl k) ?_
  show OwnGo p e below _ (s₁.setTop (mkF m 102 #[.val (.ref b1), .val (.int (11 : Int32)), .val (.long q3), .second] [(.int ((11 : Int32) + (7 : Int32))), (.ref b1)]))
  rw [show ((11 : Int32) + (7 : Int32)) = (18 : Int32) from by decide]
  show OwnGo p e below _ (s₁.setTop (mkF m 102 #[.val (.ref b1), .val (.int (11 : Int32)), .val (.long q3), .second] [(.int (18 : Int32)), (.ref b1)]))
  obtain ⟨c140, Ar140, q140, S140, M140, H140, G140⟩ := (id VA)
  refine own_go (fun _ k => X0.baloadBytes hx (j := (18 : Int32)) (v := (.int ((((q3).toInt32)).toInt8.toInt32))) (by rw [e0]; exact Ar140.1) (State.isArrayOf_alike hZ.alike Ar140.2.1) Ar140.2.2 (inb_of S140 ⟨by decide, by decide⟩) (Has.at H140 (inb_of S140 ⟨by decide, by decide⟩) rfl) (g := (mkF m 102 #[.val (.ref b1), .val (.int (11 : Int32)), .val (.long q3), .second] [(.int (18 : Int32)), (.ref b1)])) rfl rfl (hb hby d_method_4_102) _ k) ?_
  show OwnGo p e below _ (s₁.setTop (mkF m 103 #[.val (.ref b1), .val (.int (11 : Int32)), .val (.long q3), .second] [(.int ((((q3).toInt32)).toInt8.toInt32))]))
  refine own_go (fun _ k => XS.lloadN X0.here hx rfl (hb hby d_method_4_103) rfl k) ?_
  show OwnGo p e below _ (s₁.setTop (mkF m 104 #[.val (.ref b1), .val (.int (11 : Int32)), .val (.long q3), .second] [(.long q3), (.int ((((q3).toInt32)).toInt8.toInt32))]))
  refine own_go (fun _ k => XS.l2i X0.here hx rfl (hb hby d_method_4_104) rfl k) ?_
  show OwnGo p e below _ (s₁.setTop (mkF m 105 #[.val (.ref b1), .val (.int (11 : Int32)), .val (.long q3), .second] [(.int ((q3).toInt32)), (.int ((((q3).toInt32)).toInt8.toInt32))]))
  refine own_go (fun _ k => XS.i2b X0.here hx rfl (hb hby d_method_4_105) rfl k) ?_
  show OwnGo p e below _ (s₁.setTop (mkF m 106 #[.val (.ref b1), .val (.int (11 : Int32)), .val (.long q3), .second] [(.int ((((q3).toInt32)).toInt8.toInt32)), (.int ((((q3).toInt32)).toInt8.toInt32))]))
  refine own_go (fun _ k => XS.icmpNo X0.here hx rfl (hb hby d_method_4_106) rfl (teq rfl).2 k) ?_
  show OwnGo p e below _ (s₁.setTop (mkF m 109 #[.val (.ref b1), .val (.int (11 : Int32)), .val (.long q3), .second] []))
  refine own_go (fun _ k => XS.iconst X0.here hx rfl (hb hby d_method_4_109) k) ?_
  show OwnGo p e below _ (s₁.setTop (mkF m 110 #[.val (.ref b1), .val (.int (11 : Int32)), .val (.long q3), .second] [(.int (1 : Int32))]))
  refine own_go (fun _ k => XS.goto X0.here hx rfl (pc0 := 110) (pc' := 114) rfl (hb hby d_method_4_110) (by decide) (by decide) k) ?_
  show OwnGo p e below _ (s₁.setTop (mkF m 114 #[.val (.ref b1), .val (.int (11 : Int32)), .val (.long q3), .second] [(.int (1 : Int32))]))
  obtain ⟨fs, hr, hrun, hended, hW, hsame⟩ := X0.leave (v := some (.int (1 : Int32))) (fun h => by rw [Bd.returns] at h; cases h)
  refine ⟨_, _, retOut X0 hx Bd.returns rfl (Or.inl ⟨rfl, Or.inr (Or.inl rfl), _, rfl⟩) (hb hby d_method_4_114) hr, hrun, hended, _, _, rfl, ?_, ⟨_, rfl⟩, hW, hsame.mono (by decide) (by decide)⟩
  show Q_same11 Z aFFDHE2048 aCONFIRMATION aFFDHE4096 aFFDHE3072 b1 q3 k1 u0 u1 u2 u3 u4 u5 u6 u7 u8 u9 u10 u19 u20 u21 u22 u23 u24 u25 u26 u27 u28 u29 u30 u31 u32 u33 u34 h0 n0 _ s₁.heap _
  rw [e0]
  exact ⟨rfl, N0, rfl⟩
def Q_same19 (Z : State) (aFFDHE2048 aCONFIRMATION aFFDHE4096 aFFDHE3072 : Addr) (b1 : Addr) (q3 : Int64) (k1 : ClassId) (u0 : Int32) (u1 : Int32) (u2 : Int32) (u3 : Int32) (u4 : Int32) (u5 : Int32) (u6 : Int32) (u7 : Int32) (u8 : Int32) (u9 : Int32) (u10 : Int32) (u11 : Int32) (u12 : Int32) (u13 : Int32) (u14 : Int32) (u15 : Int32) (u16 : Int32) (u17 : Int32) (u18 : Int32) (u27 : Int32) (u28 : Int32) (u29 : Int32) (u30 : Int32) (u31 : Int32) (u32 : Int32) (u33 : Int32) (u34 : Int32) (h0 : Heap) (n0 : Nat) (v : Option Value) (h : Heap) (L : List Loc) : Prop := v = some (.int (1 : Int32)) ∧ Fr n0 L ∧ h = h0
theorem ef_same19 (m : MethodId) (x0 : Addr) (x1 : Int32) (x2 : Int64) : entryFrame m #[(.ref x0), (.int x1), (.long x2)] 4 = mkF m 0 #[.val (.ref x0), .val (.int x1), .val (.long x2), .second] [] := by first | (simp [entryFrame, mkF, argsToLocals, Value.category]; done) | rfl
set_option maxRecDepth 65536 in
set_option maxHeartbeats 40000000 in
theorem rm_same19 (l : Launch) (Z : State) (a0 : Array Value) (hw : ∀ d ∈ tables_1, d.before a0 Z = true) (ws : List Jvm.Cond) (aFFDHE2048 aCONFIRMATION aFFDHE4096 aFFDHE3072 : Addr) (F0 : OwnFacts Z aFFDHE2048 aCONFIRMATION aFFDHE4096 aFFDHE3072) (b1 : Addr) (q3 : Int64) (k1 : ClassId) (u0 : Int32) (u1 : Int32) (u2 : Int32) (u3 : Int32) (u4 : Int32) (u5 : Int32) (u6 : Int32) (u7 : Int32) (u8 : Int32) (u9 : Int32) (u10 : Int32) (u11 : Int32) (u12 : Int32) (u13 : Int32) (u14 : Int32) (u15 : Int32) (u16 : Int32) (u17 : Int32) (u18 : Int32) (u27 : Int32) (u28 : Int32) (u29 : Int32) (u30 : Int32) (u31 : Int32) (u32 : Int32) (u33 : Int32) (u34 : Int32) (h0 : Heap) (n0 : Nat) (O0 : Old Z n0 h0) (VA : Arv Z h0 b1 k1 .byte (35 : Int32) [(.int u0), (.int u1), (.int u2), (.int u3), (.int u4), (.int u5), (.int u6), (.int u7), (.int u8), (.int u9), (.int u10), (.int u11), (.int u12), (.int u13), (.int u14), (.int u15), (.int u16), (.int u17), (.int u18), (.int (((((((q3).toUInt64 >>> ((56 : Int32) &&& 0x3f).toInt64.toUInt64).toInt64)).toInt32)).toInt8.toInt32)), (.int (((((((q3).toUInt64 >>> ((48 : Int32) &&& 0x3f).toInt64.toUInt64).toInt64)).toInt32)).toInt8.toInt32)), (.int (((((((q3).toUInt64 >>> ((40 : Int32) &&& 0x3f).toInt64.toUInt64).toInt64)).toInt32)).toInt8.toInt32)), (.int (((((((q3).toUInt64 >>> ((32 : Int32) &&& 0x3f).toInt64.toUInt64).toInt64)).toInt32)).toInt8.toInt32)), (.int (((((((q3).toUInt64 >>> ((24 : Int32) &&& 0x3f).toInt64.toUInt64).toInt64)).toInt32)).toInt8.toInt32)), (.int (((((((q3).toUInt64 >>> ((16 : Int32) &&& 0x3f).toInt64.toUInt64).toInt64)).toInt32)).toInt8.toInt32)), (.int (((((((q3).toUInt64 >>> ((8 : Int32) &&& 0x3f).toInt64.toUInt64).toInt64)).toInt32)).toInt8.toInt32)), (.int ((((q3).toInt32)).toInt8.toInt32)), (.int u27), (.int u28), (.int u29), (.int u30), (.int u31), (.int u32), (.int u33), (.int u34)] (.int (0 : Int32))) :
    MetFree l (⟨"com/example/portcullis/portcullis/ConfirmationEncodePinLaw", "same", "([BIJ)Z"⟩ : MethodName) (head1 (Jvm.Cond.code (⟨"com/example/portcullis/portcullis/ConfirmationEncodePinLaw", "same", "([BIJ)Z"⟩ : MethodName) method_4_code 4 (some .boolean) :: ws) ({ frames := 0, cells := 0, slots := 0, locals := 0 } : Room)) (fun a U => a = #[(.ref b1), (.int (19 : Int32)), (.long q3)] ∧ Z.Warmed39 U.vm ∧ U.heap = h0) (fun _ _ _ _ _ => True) (fun _ U o U' => ∃ v L, o = .returned v ∧ Q_same19 Z aFFDHE2048 aCONFIRMATION aFFDHE4096 aFFDHE3072 b1 q3 k1 u0 u1 u2 u3 u4 u5 u6 u7 u8 u9 u10 u11 u12 u13 u14 u15 u16 u17 u18 u27 u28 u29 u30 u31 u32 u33 u34 h0 n0 v U'.heap L ∧ FrameEnd U o U' L ({ frames := 0, cells := 0, slots := 0, locals := 0 } : Room).cells ({ frames := 0, cells := 0, slots := 0, locals := 0 } : Room).slots) := by
  refine MetFree.of_bodySF (plainFor_of_name pn_com_example_portcullis_portcullis_ConfirmationEncodePinLaw) hisR ?_
  intro p e s m args below meth c s₁ Bd hml0 hP hK
  obtain ⟨rfl, hZ, hh⟩ := hP
  have hx := Bd.exec
  have hby := Bd.bytes
  have hml : c.maxLocals = 4 := hml0
  have hown : s.vm.findClass "com/example/portcullis/portcullis/ConfirmationEncodePinLaw" = some m.cls := findClass_of_methodNamed Bd.named
  have hnm := (name_of_methodNamed Bd.named Bd.method).1
  have X0 : Stand p l e ({ frames := 0, cells := 0, slots := 0, locals := 0 } : Room) s m #[(.ref b1), (.int (19 : Int32)), (.long q3)] below meth c s₁ [] 0 0 := Stand.of_body Bd
  have e0 : s₁.heap = h0 := by rw [← hh, Bd.state]; rfl
  have N0 := Fr.nil n0
  refine own_go (Q := fun o U' => ∃ v L, o = .returned v ∧ Q_same19 Z aFFDHE2048 aCONFIRMATION aFFDHE4096 aFFDHE3072 b1 q3 k1 u0 u1 u2 u3 u4 u5 u6 u7 u8 u9 u10 u11 u12 u13 u14 u15 u16 u17 u18 u27 u28 u29 u30 u31 u32 u33 u34 h0 n0 v U'.heap L ∧ FrameEnd s o U' L ({ frames := 0, cells := 0, slots := 0, locals := 0 } : Room).cells ({ frames := 0, cells := 0, slots := 0, locals := 0 } : Room).slots) (fun t k => castTop (ef_same19 m b1 (19 : Int32) q3) k) ?_
  show OwnGo p e below _ (s₁.setTop (mkF m 0 #[.val (.ref b1), .val (.int (19 : Int32)), .val (.long q3), .second] []))
  refine own_go (fun _ k => XS.aloadN X0.here hx rfl (hb hby d_method_4_0) rfl rfl k) ?_
  show OwnGo p e below _ (s₁.setTop (mkF m 1 #[.val (.ref b1), .val (.int (19 : Int32)), .val (.long q3), .second] [(.ref b1)]))
  refine own_go (fun _ k => XS.iloadN X0.here hx rfl (hb hby d_method_4_1) rfl k) ?_
  show OwnGo p e below _ (s₁.setTop (mkF m 2 #[.val (.ref b1), .val (.int (19 : Int32)), .val (.long q3), .second] [(.int (19 : Int32)), (.ref b1)]))
  obtain ⟨c141, Ar141, q141, S141, M141, H141, G141⟩ := (id VA)
  refine own_go (fun _ k => X0.baloadBytes hx (j := (19 : Int32)) (v := (.int (((((((q3).toUInt64 >>> ((56 : Int32) &&& 0x3f).toInt64.toUInt64).toInt64)).toInt32)).toInt8.toInt32))) (by rw [e0]; exact Ar141.1) (State.isArrayOf_alike hZ.alike Ar141.2.1) Ar141.2.2 (inb_of S141 ⟨by decide, by decide⟩) (Has.at H141 (inb_of S141 ⟨by decide, by decide⟩) rfl) (g := (mkF m 2 #[.val (.ref b1), .val (.int (19 : Int32)), .val (.long q3), .second] [(.int (19 : Int32)), (.ref b1)])) rfl rfl (hb hby d_method_4_2) _ k) ?_
  show OwnGo p e below _ (s₁.setTop (mkF m 3 #[.val (.ref b1), .val (.int (19 : Int32)), .val (.long q3), .second] [(.int (((((((q3).toUInt64 >>> ((56 : Int32) &&& 0x3f).toInt64.toUInt64).toInt64)).toInt32)).toInt8.toInt32))]))
  refine own_go (fun _ k => XS.lloadN X0.here hx rfl (hb hby d_method_4_3) rfl k) ?_
  show OwnGo p e below _ (s₁.setTop (mkF m 4 #[.val (.ref b1), .val (.int (19 : Int32)), .val (.long q3), .second] [(.long q3), (.int (((((((q3).toUInt64 >>> ((56 : Int32) &&& 0x3f).toInt64.toUInt64).toInt64)).toInt32)).toInt8.toInt32))]))
  refine own_go (fun _ k => XS.bipush X0.here hx rfl (hb hby d_method_4_4) k) ?_
  show OwnGo p e below _ (s₁.setTop (mkF m 6 #[.val (.ref b1), .val (.int (19 : Int32)), .val (.long q3), .second] [(.int (56 : Int32)), (.long q3), (.int (((((((q3).toUInt64 >>> ((56 : Int32) &&& 0x3f).toInt64.toUInt64).toInt64)).toInt32)).toInt8.toInt32))]))
  refine own_go (fun _ k => XS.lushr X0.here hx rfl (hb hby d_method_4_6) rfl k) ?_
  show OwnGo p e below _ (s₁.setTop (mkF m 7 #[.val (.ref b1), .val (.int (19 : Int32)), .val (.long q3), .second] [(.long (((q3).toUInt64 >>> ((56 : Int32) &&& 0x3f).toInt64.toUInt64).toInt64)), (.int (((((((q3).toUInt64 >>> ((56 : Int32) &&& 0x3f).toInt64.toUInt64).toInt64)).toInt32)).toInt8.toInt32))]))
  refine own_go (fun _ k => XS.l2i X0.here hx rfl (hb hby d_method_4_7) rfl k) ?_
  show OwnGo p e below _ (s₁.setTop (mkF m 8 #[.val (.ref b1), .val (.int (19 : Int32)), .val (.long q3), .second] [(.int (((((q3).toUInt64 >>> ((56 : Int32) &&& 0x3f).toInt64.toUInt64).toInt64)).toInt32)), (.int (((((((q3).toUInt64 >>> ((56 : Int32) &&& 0x3f).toInt64.toUInt64).toInt64)).toInt32)).toInt8.toInt32))]))
  refine own_go (fun _ k => XS.i2b X0.here hx rfl (hb hby d_method_4_8) rfl k) ?_
  show OwnGo p e below _ (s₁.setTop (mkF m 9 #[.val (.ref b1), .val (.int (19 : Int32)), .val (.long q3), .second] [(.int (((((((q3).toUInt64 >>> ((56 : Int32) &&& 0x3f).toInt64.toUInt64).toInt64)).toInt32)).toInt8.toInt32)), (.int (((((((q3).toUInt64 >>> ((56 : Int32) &&& 0x3f).toInt64.toUInt64).toInt64)).toInt32)).toInt8.toInt32))]))
  refine own_go (fun _ k => XS.icmpNo X0.here hx rfl (hb hby d_method_4_9) rfl (teq rfl).2 k) ?_
  show OwnGo p e below _ (s₁.setTop (mkF m 12 #[.val (.ref b1), .val (.int (19 : Int32)), .val (.long q3), .second] []))
  refine own_go (fun _ k => XS.aloadN X0.here hx rfl (hb hby d_method_4_12) rfl rfl k) ?_
  show OwnGo p e below _ (s₁.setTop (mkF m 13 #[.val (.ref b1), .val (.int (19 : Int32)), .val (.long q3), .second] [(.ref b1)]))
  refine own_go (fun _ k => XS.iloadN X0.here hx rfl (hb hby d_method_4_13) rfl k) ?_
  show OwnGo p e below _ (s₁.setTop (mkF m 14 #[.val (.ref b1), .val (.int (19 : Int32)), .val (.long q3), .second] [(.int (19 : Int32)), (.ref b1)]))
  refine own_go (fun _ k => XS.iconst X0.here hx rfl (hb hby d_method_4_14) k) ?_
  show OwnGo p e below _ (s₁.setTop (mkF m 15 #[.val (.ref b1), .val (.int (19 : Int32)), .val (.long q3), .second] [(.int (1 : Int32)), (.int (19 : Int32)), (.ref b1)]))
  refine own_go (fun _ k => XS.iadd X0.here hx rfl (hb hby d_method_4_15) rfl k) ?_
  show OwnGo p e below _ (s₁.setTop (mkF m 16 #[.val (.ref b1), .val (.int (19 : Int32)), .val (.long q3), .second] [(.int ((19 : Int32) + (1 : Int32))), (.ref b1)]))
  rw [show ((19 : Int32) + (1 : Int32)) = (20 : Int32) from by decide]
  show OwnGo p e below _ (s₁.setTop (mkF m 16 #[.val (.ref b1), .val (.int (19 : Int32)), .val (.long q3), .second] [(.int (20 : Int32)), (.ref b1)]))
  obtain ⟨c142, Ar142, q142, S142, M142, H142, G142⟩ := (id VA)
  refine own_go (fun _ k => X0.baloadBytes hx (j := (20 : Int32)) (v := (.int (((((((q3).toUInt64 >>> ((48 : Int32) &&& 0x3f).toInt64.toUInt64).toInt64)).toInt32)).toInt8.toInt32))) (by rw [e0]; exact Ar142.1) (State.isArrayOf_alike hZ.alike Ar142.2.1) Ar142.2.2 (inb_of S142 ⟨by decide, by decide⟩) (Has.at H142 (inb_of S142 ⟨by decide, by decide⟩) rfl) (g := (mkF m 16 #[.val (.ref b1), .val (.int (19 : Int32)), .val (.long q3), .second] [(.int (20 : Int32)), (.ref b1)])) rfl rfl (hb hby d_method_4_16) _ k) ?_
  show OwnGo p e below _ (s₁.setTop (mkF m 17 #[.val (.ref b1), .val (.int (19 : Int32)), .val (.long q3), .second] [(.int (((((((q3).toUInt64 >>> ((48 : Int32) &&& 0x3f).toInt64.toUInt64).toInt64)).toInt32)).toInt8.toInt32))]))
  refine own_go (fun _ k => XS.lloadN X0.here hx rfl (hb hby d_method_4_17) rfl k) ?_
  show OwnGo p e below _ (s₁.setTop (mkF m 18 #[.val (.ref b1), .val (.int (19 : Int32)), .val (.long q3), .second] [(.long q3), (.int (((((((q3).toUInt64 >>> ((48 : Int32) &&& 0x3f).toInt64.toUInt64).toInt64)).toInt32)).toInt8.toInt32))]))
  refine own_go (fun _ k => XS.bipush X0.here hx rfl (hb hby d_method_4_18) k) ?_
  show OwnGo p e below _ (s₁.setTop (mkF m 20 #[.val (.ref b1), .val (.int (19 : Int32)), .val (.long q3), .second] [(.int (48 : Int32)), (.long q3), (.int (((((((q3).toUInt64 >>> ((48 : Int32) &&& 0x3f).toInt64.toUInt64).toInt64)).toInt32)).toInt8.toInt32))]))
  refine own_go (fun _ k => XS.lushr X0.here hx rfl (hb hby d_method_4_20) rfl k) ?_
  show OwnGo p e below _ (s₁.setTop (mkF m 21 #[.val (.ref b1), .val (.int (19 : Int32)), .val (.long q3), .second] [(.long (((q3).toUInt64 >>> ((48 : Int32) &&& 0x3f).toInt64.toUInt64).toInt64)), (.int (((((((q3).toUInt64 >>> ((48 : Int32) &&& 0x3f).toInt64.toUInt64).toInt64)).toInt32)).toInt8.toInt32))]))
  refine own_go (fun _ k => XS.l2i X0.here hx rfl (hb hby d_method_4_21) rfl k) ?_
  show OwnGo p e below _ (s₁.setTop (mkF m 22 #[.val (.ref b1), .val (.int (19 : Int32)), .val (.long q3), .second] [(.int (((((q3).toUInt64 >>> ((48 : Int32) &&& 0x3f).toInt64.toUInt64).toInt64)).toInt32)), (.int (((((((q3).toUInt64 >>> ((48 : Int32) &&& 0x3f).toInt64.toUInt64).toInt64)).toInt32)).toInt8.toInt32))]))
  refine own_go (fun _ k => XS.i2b X0.here hx rfl (hb hby d_method_4_22) rfl k) ?_
  show OwnGo p e below _ (s₁.setTop (mkF m 23 #[.val (.ref b1), .val (.int (19 : Int32)), .val (.long q3), .second] [(.int (((((((q3).toUInt64 >>> ((48 : Int32) &&& 0x3f).toInt64.toUInt64).toInt64)).toInt32)).toInt8.toInt32)), (.int (((((((q3).toUInt64 >>> ((48 : Int32) &&& 0x3f).toInt64.toUInt64).toInt64)).toInt32)).toInt8.toInt32))]))
  refine own_go (fun _ k => XS.icmpNo X0.here hx rfl (hb hby d_method_4_23) rfl (teq rfl).2 k) ?_
  show OwnGo p e below _ (s₁.setTop (mkF m 26 #[.val (.ref b1), .val (.int (19 : Int32)), .val (.long q3), .second] []))
  refine own_go (fun _ k => XS.aloadN X0.here hx rfl (hb hby d_method_4_26) rfl rfl k) ?_
  show OwnGo p e below _ (s₁.setTop (mkF m 27 #[.val (.ref b1), .val (.int (19 : Int32)), .val (.long q3), .second] [(.ref b1)]))
  refine own_go (fun _ k => XS.iloadN X0.here hx rfl (hb hby d_method_4_27) rfl k) ?_
  show OwnGo p e below _ (s₁.setTop (mkF m 28 #[.val (.ref b1), .val (.int (19 : Int32)), .val (.long q3), .second] [(.int (19 : Int32)), (.ref b1)]))
  refine own_go (fun _ k => XS.iconst X0.here hx rfl (hb hby d_method_4_28) k) ?_
  show OwnGo p e below _ (s₁.setTop (mkF m 29 #[.val (.ref b1), .val (.int (19 : Int32)), .val (.long q3), .second] [(.int (2 : Int32)), (.int (19 : Int32)), (.ref b1)]))
  refine own_go (fun _ k => XS.iadd X0.here hx rfl (hb hby d_method_4_29) rfl k) ?_
  show OwnGo p e below _ (s₁.setTop (mkF m 30 #[.val (.ref b1), .val (.int (19 : Int32)), .val (.long q3), .second] [(.int ((19 : Int32) + (2 : Int32))), (.ref b1)]))
  rw [show ((19 : Int32) + (2 : Int32)) = (21 : Int32) from by decide]
  show OwnGo p e below _ (s₁.setTop (mkF m 30 #[.val (.ref b1), .val (.int (19 : Int32)), .val (.long q3), .second] [(.int (21 : Int32)), (.ref b1)]))
  obtain ⟨c143, Ar143, q143, S143, M143, H143, G143⟩ := (id VA)
  refine own_go (fun _ k => X0.baloadBytes hx (j := (21 : Int32)) (v := (.int (((((((q3).toUInt64 >>> ((40 : Int32) &&& 0x3f).toInt64.toUInt64).toInt64)).toInt32)).toInt8.toInt32))) (by rw [e0]; exact Ar143.1) (State.isArrayOf_alike hZ.alike Ar143.2.1) Ar143.2.2 (inb_of S143 ⟨by decide, by decide⟩) (Has.at H143 (inb_of S143 ⟨by decide, by decide⟩) rfl) (g := (mkF m 30 #[.val (.ref b1), .val (.int (19 : Int32)), .val (.long q3), .second] [(.int (21 : Int32)), (.ref b1)])) rfl rfl (hb hby d_method_4_30) _ k) ?_
  show OwnGo p e below _ (s₁.setTop (mkF m 31 #[.val (.ref b1), .val (.int (19 : Int32)), .val (.long q3), .second] [(.int (((((((q3).toUInt64 >>> ((40 : Int32) &&& 0x3f).toInt64.toUInt64).toInt64)).toInt32)).toInt8.toInt32))]))
  refine own_go (fun _ k => XS.lloadN X0.here hx rfl (hb hby d_method_4_31) rfl k) ?_
  show OwnGo p e below _ (s₁.setTop (mkF m 32 #[.val (.ref b1), .val (.int (19 : Int32)), .val (.long q3), .second] [(.long q3), (.int (((((((q3).toUInt64 >>> ((40 : Int32) &&& 0x3f).toInt64.toUInt64).toInt64)).toInt32)).toInt8.toInt32))]))
  refine own_go (fun _ k => XS.bipush X0.here hx rfl (hb hby d_method_4_32) k) ?_
  show OwnGo p e below _ (s₁.setTop (mkF m 34 #[.val (.ref b1), .val (.int (19 : Int32)), .val (.long q3), .second] [(.int (40 : Int32)), (.long q3), (.int (((((((q3).toUInt64 >>> ((40 : Int32) &&& 0x3f).toInt64.toUInt64).toInt64)).toInt32)).toInt8.toInt32))]))
  refine own_go (fun _ k => XS.lushr X0.here hx rfl (hb hby d_method_4_34) rfl k) ?_
  show OwnGo p e below _ (s₁.setTop (mkF m 35 #[.val (.ref b1), .val (.int (19 : Int32)), .val (.long q3), .second] [(.long (((q3).toUInt64 >>> ((40 : Int32) &&& 0x3f).toInt64.toUInt64).toInt64)), (.int (((((((q3).toUInt64 >>> ((40 : Int32) &&& 0x3f).toInt64.toUInt64).toInt64)).toInt32)).toInt8.toInt32))]))
  refine own_go (fun _ k => XS.l2i X0.here hx rfl (hb hby d_method_4_35) rfl k) ?_
  show OwnGo p e below _ (s₁.setTop (mkF m 36 #[.val (.ref b1), .val (.int (19 : Int32)), .val (.long q3), .second] [(.int (((((q3).toUInt64 >>> ((40 : Int32) &&& 0x3f).toInt64.toUInt64).toInt64)).toInt32)), (.int (((((((q3).toUInt64 >>> ((40 : Int32) &&& 0x3f).toInt64.toUInt64).toInt64)).toInt32)).toInt8.toInt32))]))
  refine own_go (fun _ k => XS.i2b X0.here hx rfl (hb hby d_method_4_36) rfl k) ?_
  show OwnGo p e below _ (s₁.setTop (mkF m 37 #[.val (.ref b1), .val (.int (19 : Int32)), .val (.long q3), .second] [(.int (((((((q3).toUInt64 >>> ((40 : Int32) &&& 0x3f).toInt64.toUInt64).toInt64)).toInt32)).toInt8.toInt32)), (.int (((((((q3).toUInt64 >>> ((40 : Int32) &&& 0x3f).toInt64.toUInt64).toInt64)).toInt32)).toInt8.toInt32))]))
  refine own_go (fun _ k => XS.icmpNo X0.here hx rfl (hb hby d_method_4_37) rfl (teq rfl).2 k) ?_
  show OwnGo p e below _ (s₁.setTop (mkF m 40 #[.val (.ref b1), .val (.int (19 : Int32)), .val (.long q3), .second] []))
  refine own_go (fun _ k => XS.aloadN X0.here hx rfl (hb hby d_method_4_40) rfl rfl k) ?_
  show OwnGo p e below _ (s₁.setTop (mkF m 41 #[.val (.ref b1), .val (.int (19 : Int32)), .val (.long q3), .second] [(.ref b1)]))
  refine own_go (fun _ k => XS.iloadN X0.here hx rfl (hb hby d_method_4_41) rfl k) ?_
  show OwnGo p e below _ (s₁.setTop (mkF m 42 #[.val (.ref b1), .val (.int (19 : Int32)), .val (.long q3), .second] [(.int (19 : Int32)), (.ref b1)]))
  refine own_go (fun _ k => XS.iconst X0.here hx rfl (hb hby d_method_4_42) k) ?_
  show OwnGo p e below _ (s₁.setTop (mkF m 43 #[.val (.ref b1), .val (.int (19 : Int32)), .val (.long q3), .second] [(.int (3 : Int32)), (.int (19 : Int32)), (.ref b1)]))
  refine own_go (fun _ k => XS.iadd X0.here hx rfl (hb hby d_method_4_43) rfl k) ?_
  show OwnGo p e below _ (s₁.setTop (mkF m 44 #[.val (.ref b1), .val (.int (19 : Int32)), .val (.long q3), .second] [(.int ((19 : Int32) + (3 : Int32))), (.ref b1)]))
  rw [show ((19 : Int32) + (3 : Int32)) = (22 : Int32) from by decide]
  show OwnGo p e below _ (s₁.setTop (mkF m 44 #[.val (.ref b1), .val (.int (19 : Int32)), .val (.long q3), .second] [(.int (22 : Int32)), (.ref b1)]))
  obtain ⟨c144, Ar144, q144, S144, M144, H144, G144⟩ := (id VA)
  refine own_go (fun _ k => X0.baloadBytes hx (j := (22 : Int32)) (v := (.int (((((((q3).toUInt64 >>> ((32 : Int32) &&& 0x3f).toInt64.toUInt64).toInt64)).toInt32)).toInt8.toInt32))) (by rw [e0]; exact Ar144.1) (State.isArrayOf_alike hZ.alike Ar144.2.1) Ar144.2.2 (inb_of S144 ⟨by decide, by decide⟩) (Has.at H144 (inb_of S144 ⟨by decide, by decide⟩) rfl) (g := (mkF m 44 #[.val (.ref b1), .val (.int (19 : Int32)), .val (.long q3), .second] [(.int (22 : Int32)), (.ref b1)])) rfl rfl (hb hby d_method_4_44) _ k) ?_
  show OwnGo p e below _ (s₁.setTop (mkF m 45 #[.val (.ref b1), .val (.int (19 : Int32)), .val (.long q3), .second] [(.int (((((((q3).toUInt64 >>> ((32 : Int32) &&& 0x3f).toInt64.toUInt64).toInt64)).toInt32)).toInt8.toInt32))]))
  refine own_go (fun _ k => XS.lloadN X0.here hx rfl (hb hby d_method_4_45) rfl k) ?_
  show OwnGo p e below _ (s₁.setTop (mkF m 46 #[.val (.ref b1), .val (.int (19 : Int32)), .val (.long q3), .second] [(.long q3), (.int (((((((q3).toUInt64 >>> ((32 : Int32) &&& 0x3f).toInt64.toUInt64).toInt64)).toInt32)).toInt8.toInt32))]))
  refine own_go (fun _ k => XS.bipush X0.here hx rfl (hb hby d_method_4_46) k) ?_
  show OwnGo p e below _ (s₁.setTop (mkF m 48 #[.val (.ref b1), .val (.int (19 : Int32)), .val (.long q3), .second] [(.int (32 : Int32)), (.long q3), (.int (((((((q3).toUInt64 >>> ((32 : Int32) &&& 0x3f).toInt64.toUInt64).toInt64)).toInt32)).toInt8.toInt32))]))
  refine own_go (fun _ k => XS.lushr X0.here hx rfl (hb hby d_method_4_48) rfl k) ?_
  show OwnGo p e below _ (s₁.setTop (mkF m 49 #[.val (.ref b1), .val (.int (19 : Int32)), .val (.long q3), .second] [(.long (((q3).toUInt64 >>> ((32 : Int32) &&& 0x3f).toInt64.toUInt64).toInt64)), (.int (((((((q3).toUInt64 >>> ((32 : Int32) &&& 0x3f).toInt64.toUInt64).toInt64)).toInt32)).toInt8.toInt32))]))
  refine own_go (fun _ k => XS.l2i X0.here hx rfl (hb hby d_method_4_49) rfl k) ?_
  show OwnGo p e below _ (s₁.setTop (mkF m 50 #[.val (.ref b1), .val (.int (19 : Int32)), .val (.long q3), .second] [(.int (((((q3).toUInt64 >>> ((32 : Int32) &&& 0x3f).toInt64.toUInt64).toInt64)).toInt32)), (.int (((((((q3).toUInt64 >>> ((32 : Int32) &&& 0x3f).toInt64.toUInt64).toInt64)).toInt32)).toInt8.toInt32))]))
  refine own_go (fun _ k => XS.i2b X0.here hx rfl (hb hby d_method_4_50) rfl k) ?_
  show OwnGo p e below _ (s₁.setTop (mkF m 51 #[.val (.ref b1), .val (.int (19 : Int32)), .val (.long q3), .second] [(.int (((((((q3).toUInt64 >>> ((32 : Int32) &&& 0x3f).toInt64.toUInt64).toInt64)).toInt32)).toInt8.toInt32)), (.int (((((((q3).toUInt64 >>> ((32 : Int32) &&& 0x3f).toInt64.toUInt64).toInt64)).toInt32)).toInt8.toInt32))]))
  refine own_go (fun _ k => XS.icmpNo X0.here hx rfl (hb hby d_method_4_51) rfl (teq rfl).2 k) ?_
  show OwnGo p e below _ (s₁.setTop (mkF m 54 #[.val (.ref b1), .val (.int (19 : Int32)), .val (.long q3), .second] []))
  refine own_go (fun _ k => XS.aloadN X0.here hx rfl (hb hby d_method_4_54) rfl rfl k) ?_
  show OwnGo p e below _ (s₁.setTop (mkF m 55 #[.val (.ref b1), .val (.int (19 : Int32)), .val (.long q3), .second] [(.ref b1)]))
  refine own_go (fun _ k => XS.iloadN X0.here hx rfl (hb hby d_method_4_55) rfl k) ?_
  show OwnGo p e below _ (s₁.setTop (mkF m 56 #[.val (.ref b1), .val (.int (19 : Int32)), .val (.long q3), .second] [(.int (19 : Int32)), (.ref b1)]))
  refine own_go (fun _ k => XS.iconst X0.here hx rfl (hb hby d_method_4_56) k) ?_
  show OwnGo p e below _ (s₁.setTop (mkF m 57 #[.val (.ref b1), .val (.int (19 : Int32)), .val (.long q3), .second] [(.int (4 : Int32)), (.int (19 : Int32)), (.ref b1)]))
  refine own_go (fun _ k => XS.iadd X0.here hx rfl (hb hby d_method_4_57) rfl k) ?_
  show OwnGo p e below _ (s₁.setTop (mkF m 58 #[.val (.ref b1), .val (.int (19 : Int32)), .val (.long q3), .second] [(.int ((19 : Int32) + (4 : Int32))), (.ref b1)]))
  rw [show ((19 : Int32) + (4 : Int32)) = (23 : Int32) from by decide]
  show OwnGo p e below _ (s₁.setTop (mkF m 58 #[.val (.ref b1), .val (.int (19 : Int32)), .val (.long q3), .second] [(.int (23 : Int32)), (.ref b1)]))
  obtain ⟨c145, Ar145, q145, S145, M145, H145, G145⟩ := (id VA)
  refine own_go (fun _ k => X0.baloadBytes hx (j := (23 : Int32)) (v := (.int (((((((q3).toUInt64 >>> ((24 : Int32) &&& 0x3f).toInt64.toUInt64).toInt64)).toInt32)).toInt8.toInt32))) (by rw [e0]; exact Ar145.1) (State.isArrayOf_alike hZ.alike Ar145.2.1) Ar145.2.2 (inb_of S145 ⟨by decide, by decide⟩) (Has.at H145 (inb_of S145 ⟨by decide, by decide⟩) rfl) (g := (mkF m 58 #[.val (.ref b1), .val (.int (19 : Int32)), .val (.long q3), .second] [(.int (23 : Int32)), (.ref b1)])) rfl rfl (hb hby d_method_4_58) _ k) ?_
  show OwnGo p e below _ (s₁.setTop (mkF m 59 #[.val (.ref b1), .val (.int (19 : Int32)), .val (.long q3), .second] [(.int (((((((q3).toUInt64 >>> ((24 : Int32) &&& 0x3f).toInt64.toUInt64).toInt64)).toInt32)).toInt8.toInt32))]))
  refine own_go (fun _ k => XS.lloadN X0.here hx rfl (hb hby d_method_4_59) rfl k) ?_
  show OwnGo p e below _ (s₁.setTop (mkF m 60 #[.val (.ref b1), .val (.int (19 : Int32)), .val (.long q3), .second] [(.long q3), (.int (((((((q3).toUInt64 >>> ((24 : Int32) &&& 0x3f).toInt64.toUInt64).toInt64)).toInt32)).toInt8.toInt32))]))
  refine own_go (fun _ k => XS.bipush X0.here hx rfl (hb hby d_method_4_60) k) ?_
  show OwnGo p e below _ (s₁.setTop (mkF m 62 #[.val (.ref b1), .val (.int (19 : Int32)), .val (.long q3), .second] [(.int (24 : Int32)), (.long q3), (.int (((((((q3).toUInt64 >>> ((24 : Int32) &&& 0x3f).toInt64.toUInt64).toInt64)).toInt32)).toInt8.toInt32))]))
  refine own_go (fun _ k => XS.lushr X0.here hx rfl (hb hby d_method_4_62) rfl k) ?_
  show OwnGo p e below _ (s₁.setTop (mkF m 63 #[.val (.ref b1), .val (.int (19 : Int32)), .val (.long q3), .second] [(.long (((q3).toUInt64 >>> ((24 : Int32) &&& 0x3f).toInt64.toUInt64).toInt64)), (.int (((((((q3).toUInt64 >>> ((24 : Int32) &&& 0x3f).toInt64.toUInt64).toInt64)).toInt32)).toInt8.toInt32))]))
  refine own_go (fun _ k => XS.l2i X0.here hx rfl (hb hby d_method_4_63) rfl k) ?_
  show OwnGo p e below _ (s₁.setTop (mkF m 64 #[.val (.ref b1), .val (.int (19 : Int32)), .val (.long q3), .second] [(.int (((((q3).toUInt64 >>> ((24 : Int32) &&& 0x3f).toInt64.toUInt64).toInt64)).toInt32)), (.int (((((((q3).toUInt64 >>> ((24 : Int32) &&& 0x3f).toInt64.toUInt64).toInt64)).toInt32)).toInt8.toInt32))]))
  refine own_go (fun _ k => XS.i2b X0.here hx rfl (hb hby d_method_4_64) rfl k) ?_
  show OwnGo p e below _ (s₁.setTop (mkF m 65 #[.val (.ref b1), .val (.int (19 : Int32)), .val (.long q3), .second] [(.int (((((((q3).toUInt64 >>> ((24 : Int32) &&& 0x3f).toInt64.toUInt64).toInt64)).toInt32)).toInt8.toInt32)), (.int (((((((q3).toUInt64 >>> ((24 : Int32) &&& 0x3f).toInt64.toUInt64).toInt64)).toInt32)).toInt8.toInt32))]))
  refine own_go (fun _ k => XS.icmpNo X0.here hx rfl (hb hby d_method_4_65) rfl (teq rfl).2 k) ?_
  show OwnGo p e below _ (s₁.setTop (mkF m 68 #[.val (.ref b1), .val (.int (19 : Int32)), .val (.long q3), .second] []))
  refine own_go (fun _ k => XS.aloadN X0.here hx rfl (hb hby d_method_4_68) rfl rfl k) ?_
  show OwnGo p e below _ (s₁.setTop (mkF m 69 #[.val (.ref b1), .val (.int (19 : Int32)), .val (.long q3), .second] [(.ref b1)]))
  refine own_go (fun _ k => XS.iloadN X0.here hx rfl (hb hby d_method_4_69) rfl k) ?_
  show OwnGo p e below _ (s₁.setTop (mkF m 70 #[.val (.ref b1), .val (.int (19 : Int32)), .val (.long q3), .second] [(.int (19 : Int32)), (.ref b1)]))
  refine own_go (fun _ k => XS.iconst X0.here hx rfl (hb hby d_method_4_70) k) ?_
  show OwnGo p e below _ (s₁.setTop (mkF m 71 #[.val (.ref b1), .val (.int (19 : Int32)), .val (.long q3), .second] [(.int (5 : Int32)), (.int (19 : Int32)), (.ref b1)]))
  refine own_go (fun _ k => XS.iadd X0.here hx rfl (hb hby d_method_4_71) rfl k) ?_
  show OwnGo p e below _ (s₁.setTop (mkF m 72 #[.val (.ref b1), .val (.int (19 : Int32)), .val (.long q3), .second] [(.int ((19 : Int32) + (5 : Int32))), (.ref b1)]))
  rw [show ((19 : Int32) + (5 : Int32)) = (24 : Int32) from by decide]
  show OwnGo p e below _ (s₁.setTop (mkF m 72 #[.val (.ref b1), .val (.int (19 : Int32)), .val (.long q3), .second] [(.int (24 : Int32)), (.ref b1)]))
  obtain ⟨c146, Ar146, q146, S146, M146, H146, G146⟩ := (id VA)
  refine own_go (fun _ k => X0.baloadBytes hx (j := (24 : Int32)) (v := (.int (((((((q3).toUInt64 >>> ((16 : Int32) &&& 0x3f).toInt64.toUInt64).toInt64)).toInt32)).toInt8.toInt32))) (by rw [e0]; exact Ar146.1) (State.isArrayOf_alike hZ.alike Ar146.2.1) Ar146.2.2 (inb_of S146 ⟨by decide, by decide⟩) (Has.at H146 (inb_of S146 ⟨by decide, by decide⟩) rfl) (g := (mkF m 72 #[.val (.ref b1), .val (.int (19 : Int32)), .val (.long q3), .second] [(.int (24 : Int32)), (.ref b1)])) rfl rfl (hb hby d_method_4_72) _ k) ?_
  show OwnGo p e below _ (s₁.setTop (mkF m 73 #[.val (.ref b1), .val (.int (19 : Int32)), .val (.long q3), .second] [(.int (((((((q3).toUInt64 >>> ((16 : Int32) &&& 0x3f).toInt64.toUInt64).toInt64)).toInt32)).toInt8.toInt32))]))
  refine own_go (fun _ k => XS.lloadN X0.here hx rfl (hb hby d_method_4_73) rfl k) ?_
  show OwnGo p e below _ (s₁.setTop (mkF m 74 #[.val (.ref b1), .val (.int (19 : Int32)), .val (.long q3), .second] [(.long q3), (.int (((((((q3).toUInt64 >>> ((16 : Int32) &&& 0x3f).toInt64.toUInt64).toInt64)).toInt32)).toInt8.toInt32))]))
  refine own_go (fun _ k => XS.bipush X0.here hx rfl (hb hby d_method_4_74) k) ?_
  show OwnGo p e below _ (s₁.setTop (mkF m 76 #[.val (.ref b1), .val (.int (19 : Int32)), .val (.long q3), .second] [(.int (16 : Int32)), (.long q3), (.int (((((((q3).toUInt64 >>> ((16 : Int32) &&& 0x3f).toInt64.toUInt64).toInt64)).toInt32)).toInt8.toInt32))]))
  refine own_go (fun _ k => XS.lushr X0.here hx rfl (hb hby d_method_4_76) rfl k) ?_
  show OwnGo p e below _ (s₁.setTop (mkF m 77 #[.val (.ref b1), .val (.int (19 : Int32)), .val (.long q3), .second] [(.long (((q3).toUInt64 >>> ((16 : Int32) &&& 0x3f).toInt64.toUInt64).toInt64)), (.int (((((((q3).toUInt64 >>> ((16 : Int32) &&& 0x3f).toInt64.toUInt64).toInt64)).toInt32)).toInt8.toInt32))]))
  refine own_go (fun _ k => XS.l2i X0.here hx rfl (hb hby d_method_4_77) rfl k) ?_
  show OwnGo p e below _ (s₁.setTop (mkF m 78 #[.val (.ref b1), .val (.int (19 : Int32)), .val (.long q3), .second] [(.int (((((q3).toUInt64 >>> ((16 : Int32) &&& 0x3f).toInt64.toUInt64).toInt64)).toInt32)), (.int (((((((q3).toUInt64 >>> ((16 : Int32) &&& 0x3f).toInt64.toUInt64).toInt64)).toInt32)).toInt8.toInt32))]))
  refine own_go (fun _ k => XS.i2b X0.here hx rfl (hb hby d_method_4_78) rfl k) ?_
  show OwnGo p e below _ (s₁.setTop (mkF m 79 #[.val (.ref b1), .val (.int (19 : Int32)), .val (.long q3), .second] [(.int (((((((q3).toUInt64 >>> ((16 : Int32) &&& 0x3f).toInt64.toUInt64).toInt64)).toInt32)).toInt8.toInt32)), (.int (((((((q3).toUInt64 >>> ((16 : Int32) &&& 0x3f).toInt64.toUInt64).toInt64)).toInt32)).toInt8.toInt32))]))
  refine own_go (fun _ k => XS.icmpNo X0.here hx rfl (hb hby d_method_4_79) rfl (teq rfl).2 k) ?_
  show OwnGo p e below _ (s₁.setTop (mkF m 82 #[.val (.ref b1), .val (.int (19 : Int32)), .val (.long q3), .second] []))
  refine own_go (fun _ k => XS.aloadN X0.here hx rfl (hb hby d_method_4_82) rfl rfl k) ?_
  show OwnGo p e below _ (s₁.setTop (mkF m 83 #[.val (.ref b1), .val (.int (19 : Int32)), .val (.long q3), .second] [(.ref b1)]))
  refine own_go (fun _ k => XS.iloadN X0.here hx rfl (hb hby d_method_4_83) rfl k) ?_
  show OwnGo p e below _ (s₁.setTop (mkF m 84 #[.val (.ref b1), .val (.int (19 : Int32)), .val (.long q3), .second] [(.int (19 : Int32)), (.ref b1)]))
  refine own_go (fun _ k => XS.bipush X0.here hx rfl (hb hby d_method_4_84) k) ?_
  show OwnGo p e below _ (s₁.setTop (mkF m 86 #[.val (.ref b1), .val (.int (19 : Int32)), .val (.long q3), .second] [(.int (6 : Int32)), (.int (19 : Int32)), (.ref b1)]))
  refine own_go (fun _ k => XS.iadd X0.here hx rfl (hb hby d_method_4_86) rfl k) ?_
  show OwnGo p e below _ (s₁.setTop (mkF m 87 #[.val (.ref b1), .val (.int (19 : Int32)), .val (.long q3), .second] [(.int ((19 : Int32) + (6 : Int32))), (.ref b1)]))
  rw [show ((19 : Int32) + (6 : Int32)) = (25 : Int32) from by decide]
  show OwnGo p e below _ (s₁.setTop (mkF m 87 #[.val (.ref b1), .val (.int (19 : Int32)), .val (.long q3), .second] [(.int (25 : Int32)), (.ref b1)]))
  obtain ⟨c147, Ar147, q147, S147, M147, H147, G147⟩ := (id VA)
  refine own_go (fun _ k => X0.baloadBytes hx (j := (25 : Int32)) (v := (.int (((((((q3).toUInt64 >>> ((8 : Int32) &&& 0x3f).toInt64.toUInt64).toInt64)).toInt32)).toInt8.toInt32))) (by rw [e0]; exact Ar147.1) (State.isArrayOf_alike hZ.alike Ar147.2.1) Ar147.2.2 (inb_of S147 ⟨by decide, by decide⟩) (Has.at H147 (inb_of S147 ⟨by decide, by decide⟩) rfl) (g := (mkF m 87 #[.val (.ref b1), .val (.int (19 : Int32)), .val (.long q3), .second] [(.int (25 : Int32)), (.ref b1)])) rfl rfl (hb hby d_method_4_87) _ k) ?_
  show OwnGo p e below _ (s₁.setTop (mkF m 88 #[.val (.ref b1), .val (.int (19 : Int32)), .val (.long q3), .second] [(.int (((((((q3).toUInt64 >>> ((8 : Int32) &&& 0x3f).toInt64.toUInt64).toInt64)).toInt32)).toInt8.toInt32))]))
  refine own_go (fun _ k => XS.lloadN X0.here hx rfl (hb hby d_method_4_88) rfl k) ?_
  show OwnGo p e below _ (s₁.setTop (mkF m 89 #[.val (.ref b1), .val (.int (19 : Int32)), .val (.long q3), .second] [(.long q3), (.int (((((((q3).toUInt64 >>> ((8 : Int32) &&& 0x3f).toInt64.toUInt64).toInt64)).toInt32)).toInt8.toInt32))]))
  refine own_go (fun _ k => XS.bipush X0.here hx rfl (hb hby d_method_4_89) k) ?_
  show OwnGo p e below _ (s₁.setTop (mkF m 91 #[.val (.ref b1), .val (.int (19 : Int32)), .val (.long q3), .second] [(.int (8 : Int32)), (.long q3), (.int (((((((q3).toUInt64 >>> ((8 : Int32) &&& 0x3f).toInt64.toUInt64).toInt64)).toInt32)).toInt8.toInt32))]))
  refine own_go (fun _ k => XS.lushr X0.here hx rfl (hb hby d_method_4_91) rfl k) ?_
  show OwnGo p e below _ (s₁.setTop (mkF m 92 #[.val (.ref b1), .val (.int (19 : Int32)), .val (.long q3), .second] [(.long (((q3).toUInt64 >>> ((8 : Int32) &&& 0x3f).toInt64.toUInt64).toInt64)), (.int (((((((q3).toUInt64 >>> ((8 : Int32) &&& 0x3f).toInt64.toUInt64).toInt64)).toInt32)).toInt8.toInt32))]))
  refine own_go (fun _ k => XS.l2i X0.here hx rfl (hb hby d_method_4_92) rfl k) ?_
  show OwnGo p e below _ (s₁.setTop (mkF m 93 #[.val (.ref b1), .val (.int (19 : Int32)), .val (.long q3), .second] [(.int (((((q3).toUInt64 >>> ((8 : Int32) &&& 0x3f).toInt64.toUInt64).toInt64)).toInt32)), (.int (((((((q3).toUInt64 >>> ((8 : Int32) &&& 0x3f).toInt64.toUInt64).toInt64)).toInt32)).toInt8.toInt32))]))
  refine own_go (fun _ k => XS.i2b X0.here hx rfl (hb hby d_method_4_93) rfl k) ?_
  show OwnGo p e below _ (s₁.setTop (mkF m 94 #[.val (.ref b1), .val (.int (19 : Int32)), .val (.long q3), .second] [(.int (((((((q3).toUInt64 >>> ((8 : Int32) &&& 0x3f).toInt64.toUInt64).toInt64)).toInt32)).toInt8.toInt32)), (.int (((((((q3).toUInt64 >>> ((8 : Int32) &&& 0x3f).toInt64.toUInt64).toInt64)).toInt32)).toInt8.toInt32))]))
  refine own_go (fun _ k => XS.icmpNo X0.here hx rfl (hb hby d_method_4_94) rfl (teq rfl).2 k) ?_
  show OwnGo p e below _ (s₁.setTop (mkF m 97 #[.val (.ref b1), .val (.int (19 : Int32)), .val (.long q3), .second] []))
  refine own_go (fun _ k => XS.aloadN X0.here hx rfl (hb hby d_method_4_97) rfl rfl k) ?_
  show OwnGo p e below _ (s₁.setTop (mkF m 98 #[.val (.ref b1), .val (.int (19 : Int32)), .val (.long q3), .second] [(.ref b1)]))
  refine own_go (fun _ k => XS.iloadN X0.here hx rfl (hb hby d_method_4_98) rfl k) ?_
  show OwnGo p e below _ (s₁.setTop (mkF m 99 #[.val (.ref b1), .val (.int (19 : Int32)), .val (.long q3), .second] [(.int (19 : Int32)), (.ref b1)]))
  refine own_go (fun _ k => XS.bipush X0.here hx rfl (hb hby d_method_4_99) k) ?_
  show OwnGo p e below _ (s₁.setTop (mkF m 101 #[.val (.ref b1), .val (.int (19 : Int32)), .val (.long q3), .second] [(.int (7 : Int32)), (.int (19 : Int32)), (.ref b1)]))
  refine own_go (fun _ k => XS.iadd X0.here hx rfl (hb hby d_method_4_101) rfl k) ?_
  show OwnGo p e below _ (s₁.setTop (mkF m 102 #[.val (.ref b1), .val (.int (19 : Int32)), .val (.long q3), .second] [(.int ((19 : Int32) + (7 : Int32))), (.ref b1)]))
  rw [show ((19 : Int32) + (7 : Int32)) = (26 : Int32) from by decide]
  show OwnGo p e below _ (s₁.setTop (mkF m 102 #[.val (.ref b1), .val (.int (19 : Int32)), .val (.long q3), .second] [(.int (26 : Int32)), (.ref b1)]))
  obtain ⟨c148, Ar148, q148, S148, M148, H148, G148⟩ := (id VA)
  refine own_go (fun _ k => X0.baloadBytes hx (j := (26 : Int32)) (v := (.int ((((q3).toInt32)).toInt8.toInt32))) (by rw [e0]; exact Ar148.1) (State.isArrayOf_alike hZ.alike Ar148.2.1) Ar148.2.2 (inb_of S148 ⟨by decide, by decide⟩) (Has.at H148 (inb_of S148 ⟨by decide, by decide⟩) rfl) (g := (mkF m 102 #[.val (.ref b1), .val (.int (19 : Int32)), .val (.long q3), .second] [(.int (26 : Int32)), (.ref b1)])) rfl rfl (hb hby d_method_4_102) _ k) ?_
  show OwnGo p e below _ (s₁.setTop (mkF m 103 #[.val (.ref b1), .val (.int (19 : Int32)), .val (.long q3), .second] [(.int ((((q3).toInt32)).toInt8.toInt32))]))
  refine own_go (fun _ k => XS.lloadN X0.here hx rfl (hb hby d_method_4_103) rfl k) ?_
  show OwnGo p e below _ (s₁.setTop (mkF m 104 #[.val (.ref b1), .val (.int (19 : Int32)), .val (.long q3), .second] [(.long q3), (.int ((((q3).toInt32)).toInt8.toInt32))]))
  refine own_go (fun _ k => XS.l2i X0.here hx rfl (hb hby d_method_4_104) rfl k) ?_
  show OwnGo p e below _ (s₁.setTop (mkF m 105 #[.val (.ref b1), .val (.int (19 : Int32)), .val (.long q3), .second] [(.int ((q3).toInt32)), (.int ((((q3).toInt32)).toInt8.toInt32))]))
  refine own_go (fun _ k => XS.i2b X0.here hx rfl (hb hby d_method_4_105) rfl k) ?_
  show OwnGo p e below _ (s₁.setTop (mkF m 106 #[.val (.ref b1), .val (.int (19 : Int32)), .val (.long q3), .second] [(.int ((((q3).toInt32)).toInt8.toInt32)), (.int ((((q3).toInt32)).toInt8.toInt32))]))
  refine own_go (fun _ k => XS.icmpNo X0.here hx rfl (hb hby d_method_4_106) rfl (teq rfl).2 k) ?_
  show OwnGo p e below _ (s₁.setTop (mkF m 109 #[.val (.ref b1), .val (.int (19 : Int32)), .val (.long q3), .second] []))
  refine own_go (fun _ k => XS.iconst X0.here hx rfl (hb hby d_method_4_109) k) ?_
  show OwnGo p e below _ (s₁.setTop (mkF m 110 #[.val (.ref b1), .val (.int (19 : Int32)), .val (.long q3), .second] [(.int (1 : Int32))]))
  refine own_go (fun _ k => XS.goto X0.here hx rfl (pc0 := 110) (pc' := 114) rfl (hb hby d_method_4_110) (by decide) (by decide) k) ?_
  show OwnGo p e below _ (s₁.setTop (mkF m 114 #[.val (.ref b1), .val (.int (19 : Int32)), .val (.long q3), .second] [(.int (1 : Int32))]))
  obtain ⟨fs, hr, hrun, hended, hW, hsame⟩ := X0.leave (v := some (.int (1 : Int32))) (fun h => by rw [Bd.returns] at h; cases h)
  refine ⟨_, _, retOut X0 hx Bd.returns rfl (Or.inl ⟨rfl, Or.inr (Or.inl rfl), _, rfl⟩) (hb hby d_method_4_114) hr, hrun, hended, _, _, rfl, ?_, ⟨_, rfl⟩, hW, hsame.mono (by decide) (by decide)⟩
  show Q_same19 Z aFFDHE2048 aCONFIRMATION aFFDHE4096 aFFDHE3072 b1 q3 k1 u0 u1 u2 u3 u4 u5 u6 u7 u8 u9 u10 u11 u12 u13 u14 u15 u16 u17 u18 u27 u28 u29 u30 u31 u32 u33 u34 h0 n0 _ s₁.heap _
  rw [e0]
  exact ⟨rfl, N0, rfl⟩
def Q_same27 (Z : State) (aFFDHE2048 aCONFIRMATION aFFDHE4096 aFFDHE3072 : Addr) (b1 : Addr) (q3 : Int64) (k1 : ClassId) (u0 : Int32) (u1 : Int32) (u2 : Int32) (u3 : Int32) (u4 : Int32) (u5 : Int32) (u6 : Int32) (u7 : Int32) (u8 : Int32) (u9 : Int32) (u10 : Int32) (u11 : Int32) (u12 : Int32) (u13 : Int32) (u14 : Int32) (u15 : Int32) (u16 : Int32) (u17 : Int32) (u18 : Int32) (u19 : Int32) (u20 : Int32) (u21 : Int32) (u22 : Int32) (u23 : Int32) (u24 : Int32) (u25 : Int32) (u26 : Int32) (h0 : Heap) (n0 : Nat) (v : Option Value) (h : Heap) (L : List Loc) : Prop := v = some (.int (1 : Int32)) ∧ Fr n0 L ∧ h = h0
theorem ef_same27 (m : MethodId) (x0 : Addr) (x1 : Int32) (x2 : Int64) : entryFrame m #[(.ref x0), (.int x1), (.long x2)] 4 = mkF m 0 #[.val (.ref x0), .val (.int x1), .val (.long x2), .second] [] := by first | (simp [entryFrame, mkF, argsToLocals, Value.category]; done) | rfl
set_option maxRecDepth 65536 in
set_option maxHeartbeats 40000000 in
theorem rm_same27 (l : Launch) (Z : State) (a0 : Array Value) (hw : ∀ d ∈ tables_1, d.before a0 Z = true) (ws : List Jvm.Cond) (aFFDHE2048 aCONFIRMATION aFFDHE4096 aFFDHE3072 : Addr) (F0 : OwnFacts Z aFFDHE2048 aCONFIRMATION aFFDHE4096 aFFDHE3072) (b1 : Addr) (q3 : Int64) (k1 : ClassId) (u0 : Int32) (u1 : Int32) (u2 : Int32) (u3 : Int32) (u4 : Int32) (u5 : Int32) (u6 : Int32) (u7 : Int32) (u8 : Int32) (u9 : Int32) (u10 : Int32) (u11 : Int32) (u12 : Int32) (u13 : Int32) (u14 : Int32) (u15 : Int32) (u16 : Int32) (u17 : Int32) (u18 : Int32) (u19 : Int32) (u20 : Int32) (u21 : Int32) (u22 : Int32) (u23 : Int32) (u24 : Int32) (u25 : Int32) (u26 : Int32) (h0 : Heap) (n0 : Nat) (O0 : Old Z n0 h0) (VA : Arv Z h0 b1 k1 .byte (35 : Int32) [(.int u0), (.int u1), (.int u2), (.int u3), (.int u4), (.int u5), (.int u6), (.int u7), (.int u8), (.int u9), (.int u10), (.int u11), (.int u12), (.int u13), (.int u14), (.int u15), (.int u16), (.int u17), (.int u18), (.int u19), (.int u20), (.int u21), (.int u22), (.int u23), (.int u24), (.int u25), (.int u26), (.int (((((((q3).toUInt64 >>> ((56 : Int32) &&& 0x3f).toInt64.toUInt64).toInt64)).toInt32)).toInt8.toInt32)), (.int (((((((q3).toUInt64 >>> ((48 : Int32) &&& 0x3f).toInt64.toUInt64).toInt64)).toInt32)).toInt8.toInt32)), (.int (((((((q3).toUInt64 >>> ((40 : Int32) &&& 0x3f).toInt64.toUInt64).toInt64)).toInt32)).toInt8.toInt32)), (.int (((((((q3).toUInt64 >>> ((32 : Int32) &&& 0x3f).toInt64.toUInt64).toInt64)).toInt32)).toInt8.toInt32)), (.int (((((((q3).toUInt64 >>> ((24 : Int32) &&& 0x3f).toInt64.toUInt64).toInt64)).toInt32)).toInt8.toInt32)), (.int (((((((q3).toUInt64 >>> ((16 : Int32) &&& 0x3f).toInt64.toUInt64).toInt64)).toInt32)).toInt8.toInt32)), (.int (((((((q3).toUInt64 >>> ((8 : Int32) &&& 0x3f).toInt64.toUInt64).toInt64)).toInt32)).toInt8.toInt32)), (.int ((((q3).toInt32)).toInt8.toInt32))] (.int (0 : Int32))) :
    MetFree l (⟨"com/example/portcullis/portcullis/ConfirmationEncodePinLaw", "same", "([BIJ)Z"⟩ : MethodName) (head1 (Jvm.Cond.code (⟨"com/example/portcullis/portcullis/ConfirmationEncodePinLaw", "same", "([BIJ)Z"⟩ : MethodName) method_4_code 4 (some .boolean) :: ws) ({ frames := 0, cells := 0, slots := 0, locals := 0 } : Room)) (fun a U => a = #[(.ref b1), (.int (27 : Int32)), (.long q3)] ∧ Z.Warmed39 U.vm ∧ U.heap = h0) (fun _ _ _ _ _ => True) (fun _ U o U' => ∃ v L, o = .returned v ∧ Q_same27 Z aFFDHE2048 aCONFIRMATION aFFDHE4096 aFFDHE3072 b1 q3 k1 u0 u1 u2 u3 u4 u5 u6 u7 u8 u9 u10 u11 u12 u13 u14 u15 u16 u17 u18 u19 u20 u21 u22 u23 u24 u25 u26 h0 n0 v U'.heap L ∧ FrameEnd U o U' L ({ frames := 0, cells := 0, slots := 0, locals := 0 } : Room).cells ({ frames := 0, cells := 0, slots := 0, locals := 0 } : Room).slots) := by
  refine MetFree.of_bodySF (plainFor_of_name pn_com_example_portcullis_portcullis_ConfirmationEncodePinLaw) hisR ?_
  intro p e s m args below meth c s₁ Bd hml0 hP hK
  obtain ⟨rfl, hZ, hh⟩ := hP
  have hx := Bd.exec
  have hby := Bd.bytes
  have hml : c.maxLocals = 4 := hml0
  have hown : s.vm.findClass "com/example/portcullis/portcullis/ConfirmationEncodePinLaw" = some m.cls := findClass_of_methodNamed Bd.named
  have hnm := (name_of_methodNamed Bd.named Bd.method).1
  have X0 : Stand p l e ({ frames := 0, cells := 0, slots := 0, locals := 0 } : Room) s m #[(.ref b1), (.int (27 : Int32)), (.long q3)] below meth c s₁ [] 0 0 := Stand.of_body Bd
  have e0 : s₁.heap = h0 := by rw [← hh, Bd.state]; rfl
  have N0 := Fr.nil n0
  refine own_go (Q := fun o U' => ∃ v L, o = .returned v ∧ Q_same27 Z aFFDHE2048 aCONFIRMATION aFFDHE4096 aFFDHE3072 b1 q3 k1 u0 u1 u2 u3 u4 u5 u6 u7 u8 u9 u10 u11 u12 u13 u14 u15 u16 u17 u18 u19 u20 u21 u22 u23 u24 u25 u26 h0 n0 v U'.heap L ∧ FrameEnd s o U' L ({ frames := 0, cells := 0, slots := 0, locals := 0 } : Room).cells ({ frames := 0, cells := 0, slots := 0, locals := 0 } : Room).slots) (fun t k => castTop (ef_same27 m b1 (27 : Int32) q3) k) ?_
  show OwnGo p e below _ (s₁.setTop (mkF m 0 #[.val (.ref b1), .val (.int (27 : Int32)), .val (.long q3), .second] []))
  refine own_go (fun _ k => XS.aloadN X0.here hx rfl (hb hby d_method_4_0) rfl rfl k) ?_
  show OwnGo p e below _ (s₁.setTop (mkF m 1 #[.val (.ref b1), .val (.int (27 : Int32)), .val (.long q3), .second] [(.ref b1)]))
  refine own_go (fun _ k => XS.iloadN X0.here hx rfl (hb hby d_method_4_1) rfl k) ?_
  show OwnGo p e below _ (s₁.setTop (mkF m 2 #[.val (.ref b1), .val (.int (27 : Int32)), .val (.long q3), .second] [(.int (27 : Int32)), (.ref b1)]))
  obtain ⟨c149, Ar149, q149, S149, M149, H149, G149⟩ := (id VA)
  refine own_go (fun _ k => X0.baloadBytes hx (j := (27 : Int32)) (v := (.int (((((((q3).toUInt64 >>> ((56 : Int32) &&& 0x3f).toInt64.toUInt64).toInt64)).toInt32)).toInt8.toInt32))) (by rw [e0]; exact Ar149.1) (State.isArrayOf_alike hZ.alike Ar149.2.1) Ar149.2.2 (inb_of S149 ⟨by decide, by decide⟩) (Has.at H149 (inb_of S149 ⟨by decide, by decide⟩) rfl) (g := (mkF m 2 #[.val (.ref b1), .val (.int (27 : Int32)), .val (.long q3), .second] [(.int (27 : Int32)), (.ref b1)])) rfl rfl (hb hby d_method_4_2) _ k) ?_
  show OwnGo p e below _ (s₁.setTop (mkF m 3 #[.val (.ref b1), .val (.int (27 : Int32)), .val (.long q3), .second] [(.int (((((((q3).toUInt64 >>> ((56 : Int32) &&& 0x3f).toInt64.toUInt64).toInt64)).toInt32)).toInt8.toInt32))]))
  refine own_go (fun _ k => XS.lloadN X0.here hx rfl (hb hby d_method_4_3) rfl k) ?_
  show OwnGo p e below _ (s₁.setTop (mkF m 4 #[.val (.ref b1), .val (.int (27 : Int32)), .val (.long q3), .second] [(.long q3), (.int (((((((q3).toUInt64 >>> ((56 : Int32) &&& 0x3f).toInt64.toUInt64).toInt64)).toInt32)).toInt8.toInt32))]))
  refine own_go (fun _ k => XS.bipush X0.here hx rfl (hb hby d_method_4_4) k) ?_
  show OwnGo p e below _ (s₁.setTop (mkF m 6 #[.val (.ref b1), .val (.int (27 : Int32)), .val (.long q3), .second] [(.int (56 : Int32)), (.long q3), (.int (((((((q3).toUInt64 >>> ((56 : Int32) &&& 0x3f).toInt64.toUInt64).toInt64)).toInt32)).toInt8.toInt32))]))
  refine own_go (fun _ k => XS.lushr X0.here hx rfl (hb hby d_method_4_6) rfl k) ?_
  show OwnGo p e below _ (s₁.setTop (mkF m 7 #[.val (.ref b1), .val (.int (27 : Int32)), .val (.long q3), .second] [(.long (((q3).toUInt64 >>> ((56 : Int32) &&& 0x3f).toInt64.toUInt64).toInt64)), (.int (((((((q3).toUInt64 >>> ((56 : Int32) &&& 0x3f).toInt64.toUInt64).toInt64)).toInt32)).toInt8.toInt32))]))
  refine own_go (fun _ k => XS.l2i X0.here hx rfl (hb hby d_method_4_7) rfl k) ?_
  show OwnGo p e below _ (s₁.setTop (mkF m 8 #[.val (.ref b1), .val (.int (27 : Int32)), .val (.long q3), .second] [(.int (((((q3).toUInt64 >>> ((56 : Int32) &&& 0x3f).toInt64.toUInt64).toInt64)).toInt32)), (.int (((((((q3).toUInt64 >>> ((56 : Int32) &&& 0x3f).toInt64.toUInt64).toInt64)).toInt32)).toInt8.toInt32))]))
  refine own_go (fun _ k => XS.i2b X0.here hx rfl (hb hby d_method_4_8) rfl k) ?_
  show OwnGo p e below _ (s₁.setTop (mkF m 9 #[.val (.ref b1), .val (.int (27 : Int32)), .val (.long q3), .second] [(.int (((((((q3).toUInt64 >>> ((56 : Int32) &&& 0x3f).toInt64.toUInt64).toInt64)).toInt32)).toInt8.toInt32)), (.int (((((((q3).toUInt64 >>> ((56 : Int32) &&& 0x3f).toInt64.toUInt64).toInt64)).toInt32)).toInt8.toInt32))]))
  refine own_go (fun _ k => XS.icmpNo X0.here hx rfl (hb hby d_method_4_9) rfl (teq rfl).2 k) ?_
  show OwnGo p e below _ (s₁.setTop (mkF m 12 #[.val (.ref b1), .val (.int (27 : Int32)), .val (.long q3), .second] []))
  refine own_go (fun _ k => XS.aloadN X0.here hx rfl (hb hby d_method_4_12) rfl rfl k) ?_
  show OwnGo p e below _ (s₁.setTop (mkF m 13 #[.val (.ref b1), .val (.int (27 : Int32)), .val (.long q3), .second] [(.ref b1)]))
  refine own_go (fun _ k => XS.iloadN X0.here hx rfl (hb hby d_method_4_13) rfl k) ?_
  show OwnGo p e below _ (s₁.setTop (mkF m 14 #[.val (.ref b1), .val (.int (27 : Int32)), .val (.long q3), .second] [(.int (27 : Int32)), (.ref b1)]))
  refine own_go (fun _ k => XS.iconst X0.here hx rfl (hb hby d_method_4_14) k) ?_
  show OwnGo p e below _ (s₁.setTop (mkF m 15 #[.val (.ref b1), .val (.int (27 : Int32)), .val (.long q3), .second] [(.int (1 : Int32)), (.int (27 : Int32)), (.ref b1)]))
  refine own_go (fun _ k => XS.iadd X0.here hx rfl (hb hby d_method_4_15) rfl k) ?_
  show OwnGo p e below _ (s₁.setTop (mkF m 16 #[.val (.ref b1), .val (.int (27 : Int32)), .val (.long q3), .second] [(.int ((27 : Int32) + (1 : Int32))), (.ref b1)]))
  rw [show ((27 : Int32) + (1 : Int32)) = (28 : Int32) from by decide]
  show OwnGo p e below _ (s₁.setTop (mkF m 16 #[.val (.ref b1), .val (.int (27 : Int32)), .val (.long q3), .second] [(.int (28 : Int32)), (.ref b1)]))
  obtain ⟨c150, Ar150, q150, S150, M150, H150, G150⟩ := (id VA)
  refine own_go (fun _ k => X0.baloadBytes hx (j := (28 : Int32)) (v := (.int (((((((q3).toUInt64 >>> ((48 : Int32) &&& 0x3f).toInt64.toUInt64).toInt64)).toInt32)).toInt8.toInt32))) (by rw [e0]; exact Ar150.1) (State.isArrayOf_alike hZ.alike Ar150.2.1) Ar150.2.2 (inb_of S150 ⟨by decide, by decide⟩) (Has.at H150 (inb_of S150 ⟨by decide, by decide⟩) rfl) (g := (mkF m 16 #[.val (.ref b1), .val (.int (27 : Int32)), .val (.long q3), .second] [(.int (28 : Int32)), (.ref b1)])) rfl rfl (hb hby d_method_4_16) _ k) ?_
  show OwnGo p e below _ (s₁.setTop (mkF m 17 #[.val (.ref b1), .val (.int (27 : Int32)), .val (.long q3), .second] [(.int (((((((q3).toUInt64 >>> ((48 : Int32) &&& 0x3f).toInt64.toUInt64).toInt64)).toInt32)).toInt8.toInt32))]))
  refine own_go (fun _ k => XS.lloadN X0.here hx rfl (hb hby d_method_4_17) rfl k) ?_
  show OwnGo p e below _ (s₁.setTop (mkF m 18 #[.val (.ref b1), .val (.int (27 : Int32)), .val (.long q3), .second] [(.long q3), (.int (((((((q3).toUInt64 >>> ((48 : Int32) &&& 0x3f).toInt64.toUInt64).toInt64)).toInt32)).toInt8.toInt32))]))
  refine own_go (fun _ k => XS.bipush X0.here hx rfl (hb hby d_method_4_18) k) ?_
  show OwnGo p e below _ (s₁.setTop (mkF m 20 #[.val (.ref b1), .val (.int (27 : Int32)), .val (.long q3), .second] [(.int (48 : Int32)), (.long q3), (.int (((((((q3).toUInt64 >>> ((48 : Int32) &&& 0x3f).toInt64.toUInt64).toInt64)).toInt32)).toInt8.toInt32))]))
  refine own_go (fun _ k => XS.lushr X0.here hx rfl (hb hby d_method_4_20) rfl k) ?_
  show OwnGo p e below _ (s₁.setTop (mkF m 21 #[.val (.ref b1), .val (.int (27 : Int32)), .val (.long q3), .second] [(.long (((q3).toUInt64 >>> ((48 : Int32) &&& 0x3f).toInt64.toUInt64).toInt64)), (.int (((((((q3).toUInt64 >>> ((48 : Int32) &&& 0x3f).toInt64.toUInt64).toInt64)).toInt32)).toInt8.toInt32))]))
  refine own_go (fun _ k => XS.l2i X0.here hx rfl (hb hby d_method_4_21) rfl k) ?_
  show OwnGo p e below _ (s₁.setTop (mkF m 22 #[.val (.ref b1), .val (.int (27 : Int32)), .val (.long q3), .second] [(.int (((((q3).toUInt64 >>> ((48 : Int32) &&& 0x3f).toInt64.toUInt64).toInt64)).toInt32)), (.int (((((((q3).toUInt64 >>> ((48 : Int32) &&& 0x3f).toInt64.toUInt64).toInt64)).toInt32)).toInt8.toInt32))]))
  refine own_go (fun _ k => XS.i2b X0.here hx rfl (hb hby d_method_4_22) rfl k) ?_
  show OwnGo p e below _ (s₁.setTop (mkF m 23 #[.val (.ref b1), .val (.int (27 : Int32)), .val (.long q3), .second] [(.int (((((((q3).toUInt64 >>> ((48 : Int32) &&& 0x3f).toInt64.toUInt64).toInt64)).toInt32)).toInt8.toInt32)), (.int (((((((q3).toUInt64 >>> ((48 : Int32) &&& 0x3f).toInt64.toUInt64).toInt64)).toInt32)).toInt8.toInt32))]))
  refine own_go (fun _ k => XS.icmpNo X0.here hx rfl (hb hby d_method_4_23) rfl (teq rfl).2 k) ?_
  show OwnGo p e below _ (s₁.setTop (mkF m 26 #[.val (.ref b1), .val (.int (27 : Int32)), .val (.long q3), .second] []))
  refine own_go (fun _ k => XS.aloadN X0.here hx rfl (hb hby d_method_4_26) rfl rfl k) ?_
  show OwnGo p e below _ (s₁.setTop (mkF m 27 #[.val (.ref b1), .val (.int (27 : Int32)), .val (.long q3), .second] [(.ref b1)]))
  refine own_go (fun _ k => XS.iloadN X0.here hx rfl (hb hby d_method_4_27) rfl k) ?_
  show OwnGo p e below _ (s₁.setTop (mkF m 28 #[.val (.ref b1), .val (.int (27 : Int32)), .val (.long q3), .second] [(.int (27 : Int32)), (.ref b1)]))
  refine own_go (fun _ k => XS.iconst X0.here hx rfl (hb hby d_method_4_28) k) ?_
  show OwnGo p e below _ (s₁.setTop (mkF m 29 #[.val (.ref b1), .val (.int (27 : Int32)), .val (.long q3), .second] [(.int (2 : Int32)), (.int (27 : Int32)), (.ref b1)]))
  refine own_go (fun _ k => XS.iadd X0.here hx rfl (hb hby d_method_4_29) rfl k) ?_
  show OwnGo p e below _ (s₁.setTop (mkF m 30 #[.val (.ref b1), .val (.int (27 : Int32)), .val (.long q3), .second] [(.int ((27 : Int32) + (2 : Int32))), (.ref b1)]))
  rw [show ((27 : Int32) + (2 : Int32)) = (29 : Int32) from by decide]
  show OwnGo p e below _ (s₁.setTop (mkF m 30 #[.val (.ref b1), .val (.int (27 : Int32)), .val (.long q3), .second] [(.int (29 : Int32)), (.ref b1)]))
  obtain ⟨c151, Ar151, q151, S151, M151, H151, G151⟩ := (id VA)
  refine own_go (fun _ k => X0.baloadBytes hx (j := (29 : Int32)) (v := (.int (((((((q3).toUInt64 >>> ((40 : Int32) &&& 0x3f).toInt64.toUInt64).toInt64)).toInt32)).toInt8.toInt32))) (by rw [e0]; exact Ar151.1) (State.isArrayOf_alike hZ.alike Ar151.2.1) Ar151.2.2 (inb_of S151 ⟨by decide, by decide⟩) (Has.at H151 (inb_of S151 ⟨by decide, by decide⟩) rfl) (g := (mkF m 30 #[.val (.ref b1), .val (.int (27 : Int32)), .val (.long q3), .second] [(.int (29 : Int32)), (.ref b1)])) rfl rfl (hb hby d_method_4_30) _ k) ?_
  show OwnGo p e below _ (s₁.setTop (mkF m 31 #[.val (.ref b1), .val (.int (27 : Int32)), .val (.long q3), .second] [(.int (((((((q3).toUInt64 >>> ((40 : Int32) &&& 0x3f).toInt64.toUInt64).toInt64)).toInt32)).toInt8.toInt32))]))
  refine own_go (fun _ k => XS.lloadN X0.here hx rfl (hb hby d_method_4_31) rfl k) ?_
  show OwnGo p e below _ (s₁.setTop (mkF m 32 #[.val (.ref b1), .val (.int (27 : Int32)), .val (.long q3), .second] [(.long q3), (.int (((((((q3).toUInt64 >>> ((40 : Int32) &&& 0x3f).toInt64.toUInt64).toInt64)).toInt32)).toInt8.toInt32))]))
  refine own_go (fun _ k => XS.bipush X0.here hx rfl (hb hby d_method_4_32) k) ?_
  show OwnGo p e below _ (s₁.setTop (mkF m 34 #[.val (.ref b1), .val (.int (27 : Int32)), .val (.long q3), .second] [(.int (40 : Int32)), (.long q3), (.int (((((((q3).toUInt64 >>> ((40 : Int32) &&& 0x3f).toInt64.toUInt64).toInt64)).toInt32)).toInt8.toInt32))]))
  refine own_go (fun _ k => XS.lushr X0.here hx rfl (hb hby d_method_4_34) rfl k) ?_
  show OwnGo p e below _ (s₁.setTop (mkF m 35 #[.val (.ref b1), .val (.int (27 : Int32)), .val (.long q3), .second] [(.long (((q3).toUInt64 >>> ((40 : Int32) &&& 0x3f).toInt64.toUInt64).toInt64)), (.int (((((((q3).toUInt64 >>> ((40 : Int32) &&& 0x3f).toInt64.toUInt64).toInt64)).toInt32)).toInt8.toInt32))]))
  refine own_go (fun _ k => XS.l2i X0.here hx rfl (hb hby d_method_4_35) rfl k) ?_
  show OwnGo p e below _ (s₁.setTop (mkF m 36 #[.val (.ref b1), .val (.int (27 : Int32)), .val (.long q3), .second] [(.int (((((q3).toUInt64 >>> ((40 : Int32) &&& 0x3f).toInt64.toUInt64).toInt64)).toInt32)), (.int (((((((q3).toUInt64 >>> ((40 : Int32) &&& 0x3f).toInt64.toUInt64).toInt64)).toInt32)).toInt8.toInt32))]))
  refine own_go (fun _ k => XS.i2b X0.here hx rfl (hb hby d_method_4_36) rfl k) ?_
  show OwnGo p e below _ (s₁.setTop (mkF m 37 #[.val (.ref b1), .val (.int (27 : Int32)), .val (.long q3), .second] [(.int (((((((q3).toUInt64 >>> ((40 : Int32) &&& 0x3f).toInt64.toUInt64).toInt64)).toInt32)).toInt8.toInt32)), (.int (((((((q3).toUInt64 >>> ((40 : Int32) &&& 0x3f).toInt64.toUInt64).toInt64)).toInt32)).toInt8.toInt32))]))
  refine own_go (fun _ k => XS.icmpNo X0.here hx rfl (hb hby d_method_4_37) rfl (teq rfl).2 k) ?_
  show OwnGo p e below _ (s₁.setTop (mkF m 40 #[.val (.ref b1), .val (.int (27 : Int32)), .val (.long q3), .second] []))
  refine own_go (fun _ k => XS.aloadN X0.here hx rfl (hb hby d_method_4_40) rfl rfl k) ?_
  show OwnGo p e below _ (s₁.setTop (mkF m 41 #[.val (.ref b1), .val (.int (27 : Int32)), .val (.long q3), .second] [(.ref b1)]))
  refine own_go (fun _ k => XS.iloadN X0.here hx rfl (hb hby d_method_4_41) rfl k) ?_
  show OwnGo p e below _ (s₁.setTop (mkF m 42 #[.val (.ref b1), .val (.int (27 : Int32)), .val (.long q3), .second] [(.int (27 : Int32)), (.ref b1)]))
  refine own_go (fun _ k => XS.iconst X0.here hx rfl (hb hby d_method_4_42) k) ?_
  show OwnGo p e below _ (s₁.setTop (mkF m 43 #[.val (.ref b1), .val (.int (27 : Int32)), .val (.long q3), .second] [(.int (3 : Int32)), (.int (27 : Int32)), (.ref b1)]))
  refine own_go (fun _ k => XS.iadd X0.here hx rfl (hb hby d_method_4_43) rfl k) ?_
  show OwnGo p e below _ (s₁.setTop (mkF m 44 #[.val (.ref b1), .val (.int (27 : Int32)), .val (.long q3), .second] [(.int ((27 : Int32) + (3 : Int32))), (.ref b1)]))
  rw [show ((27 : Int32) + (3 : Int32)) = (30 : Int32) from by decide]
  show OwnGo p e below _ (s₁.setTop (mkF m 44 #[.val (.ref b1), .val (.int (27 : Int32)), .val (.long q3), .second] [(.int (30 : Int32)), (.ref b1)]))
  obtain ⟨c152, Ar152, q152, S152, M152, H152, G152⟩ := (id VA)
  refine own_go (fun _ k => X0.baloadBytes hx (j := (30 : Int32)) (v := (.int (((((((q3).toUInt64 >>> ((32 : Int32) &&& 0x3f).toInt64.toUInt64).toInt64)).toInt32)).toInt8.toInt32))) (by rw [e0]; exact Ar152.1) (State.isArrayOf_alike hZ.alike Ar152.2.1) Ar152.2.2 (inb_of S152 ⟨by decide, by decide⟩) (Has.at H152 (inb_of S152 ⟨by decide, by decide⟩) rfl) (g := (mkF m 44 #[.val (.ref b1), .val (.int (27 : Int32)), .val (.long q3), .second] [(.int (30 : Int32)), (.ref b1)])) rfl rfl (hb hby d_method_4_44) _ k) ?_
  show OwnGo p e below _ (s₁.setTop (mkF m 45 #[.val (.ref b1), .val (.int (27 : Int32)), .val (.long q3), .second] [(.int (((((((q3).toUInt64 >>> ((32 : Int32) &&& 0x3f).toInt64.toUInt64).toInt64)).toInt32)).toInt8.toInt32))]))
  refine own_go (fun _ k => XS.lloadN X0.here hx rfl (hb hby d_method_4_45) rfl k) ?_
  show OwnGo p e below _ (s₁.setTop (mkF m 46 #[.val (.ref b1), .val (.int (27 : Int32)), .val (.long q3), .second] [(.long q3), (.int (((((((q3).toUInt64 >>> ((32 : Int32) &&& 0x3f).toInt64.toUInt64).toInt64)).toInt32)).toInt8.toInt32))]))
  refine own_go (fun _ k => XS.bipush X0.here hx rfl (hb hby d_method_4_46) k) ?_
  show OwnGo p e below _ (s₁.setTop (mkF m 48 #[.val (.ref b1), .val (.int (27 : Int32)), .val (.long q3), .second] [(.int (32 : Int32)), (.long q3), (.int (((((((q3).toUInt64 >>> ((32 : Int32) &&& 0x3f).toInt64.toUInt64).toInt64)).toInt32)).toInt8.toInt32))]))
  refine own_go (fun _ k => XS.lushr X0.here hx rfl (hb hby d_method_4_48) rfl k) ?_
  show OwnGo p e below _ (s₁.setTop (mkF m 49 #[.val (.ref b1), .val (.int (27 : Int32)), .val (.long q3), .second] [(.long (((q3).toUInt64 >>> ((32 : Int32) &&& 0x3f).toInt64.toUInt64).toInt64)), (.int (((((((q3).toUInt64 >>> ((32 : Int32) &&& 0x3f).toInt64.toUInt64).toInt64)).toInt32)).toInt8.toInt32))]))
  refine own_go (fun _ k => XS.l2i X0.here hx rfl (hb hby d_method_4_49) rfl k) ?_
  show OwnGo p e below _ (s₁.setTop (mkF m 50 #[.val (.ref b1), .val (.int (27 : Int32)), .val (.long q3), .second] [(.int (((((q3).toUInt64 >>> ((32 : Int32) &&& 0x3f).toInt64.toUInt64).toInt64)).toInt32)), (.int (((((((q3).toUInt64 >>> ((32 : Int32) &&& 0x3f).toInt64.toUInt64).toInt64)).toInt32)).toInt8.toInt32))]))
  refine own_go (fun _ k => XS.i2b X0.here hx rfl (hb hby d_method_4_50) rfl k) ?_
  show OwnGo p e below _ (s₁.setTop (mkF m 51 #[.val (.ref b1), .val (.int (27 : Int32)), .val (.long q3), .second] [(.int (((((((q3).toUInt64 >>> ((32 : Int32) &&& 0x3f).toInt64.toUInt64).toInt64)).toInt32)).toInt8.toInt32)), (.int (((((((q3).toUInt64 >>> ((32 : Int32) &&& 0x3f).toInt64.toUInt64).toInt64)).toInt32)).toInt8.toInt32))]))
  refine own_go (fun _ k => XS.icmpNo X0.here hx rfl (hb hby d_method_4_51) rfl (teq rfl).2 k) ?_
  show OwnGo p e below _ (s₁.setTop (mkF m 54 #[.val (.ref b1), .val (.int (27 : Int32)), .val (.long q3), .second] []))
  refine own_go (fun _ k => XS.aloadN X0.here hx rfl (hb hby d_method_4_54) rfl rfl k) ?_
  show OwnGo p e below _ (s₁.setTop (mkF m 55 #[.val (.ref b1), .val (.int (27 : Int32)), .val (.long q3), .second] [(.ref b1)]))
  refine own_go (fun _ k => XS.iloadN X0.here hx rfl (hb hby d_method_4_55) rfl k) ?_
  show OwnGo p e below _ (s₁.setTop (mkF m 56 #[.val (.ref b1), .val (.int (27 : Int32)), .val (.long q3), .second] [(.int (27 : Int32)), (.ref b1)]))
  refine own_go (fun _ k => XS.iconst X0.here hx rfl (hb hby d_method_4_56) k) ?_
  show OwnGo p e below _ (s₁.setTop (mkF m 57 #[.val (.ref b1), .val (.int (27 : Int32)), .val (.long q3), .second] [(.int (4 : Int32)), (.int (27 : Int32)), (.ref b1)]))
  refine own_go (fun _ k => XS.iadd X0.here hx rfl (hb hby d_method_4_57) rfl k) ?_
  show OwnGo p e below _ (s₁.setTop (mkF m 58 #[.val (.ref b1), .val (.int (27 : Int32)), .val (.long q3), .second] [(.int ((27 : Int32) + (4 : Int32))), (.ref b1)]))
  rw [show ((27 : Int32) + (4 : Int32)) = (31 : Int32) from by decide]
  show OwnGo p e below _ (s₁.setTop (mkF m 58 #[.val (.ref b1), .val (.int (27 : Int32)), .val (.long q3), .second] [(.int (31 : Int32)), (.ref b1)]))
  obtain ⟨c153, Ar153, q153, S153, M153, H153, G153⟩ := (id VA)
  refine own_go (fun _ k => X0.baloadBytes hx (j := (31 : Int32)) (v := (.int (((((((q3).toUInt64 >>> ((24 : Int32) &&& 0x3f).toInt64.toUInt64).toInt64)).toInt32)).toInt8.toInt32))) (by rw [e0]; exact Ar153.1) (State.isArrayOf_alike hZ.alike Ar153.2.1) Ar153.2.2 (inb_of S153 ⟨by decide, by decide⟩) (Has.at H153 (inb_of S153 ⟨by decide, by decide⟩) rfl) (g := (mkF m 58 #[.val (.ref b1), .val (.int (27 : Int32)), .val (.long q3), .second] [(.int (31 : Int32)), (.ref b1)])) rfl rfl (hb hby d_method_4_58) _ k) ?_
  show OwnGo p e below _ (s₁.setTop (mkF m 59 #[.val (.ref b1), .val (.int (27 : Int32)), .val (.long q3), .second] [(.int (((((((q3).toUInt64 >>> ((24 : Int32) &&& 0x3f).toInt64.toUInt64).toInt64)).toInt32)).toInt8.toInt32))]))
  refine own_go (fun _ k => XS.lloadN X0.here hx rfl (hb hby d_method_4_59) rfl k) ?_
  show OwnGo p e below _ (s₁.setTop (mkF m 60 #[.val (.ref b1), .val (.int (27 : Int32)), .val (.long q3), .second] [(.long q3), (.int (((((((q3).toUInt64 >>> ((24 : Int32) &&& 0x3f).toInt64.toUInt64).toInt64)).toInt32)).toInt8.toInt32))]))
  refine own_go (fun _ k => XS.bipush X0.here hx rfl (hb hby d_method_4_60) k) ?_
  show OwnGo p e below _ (s₁.setTop (mkF m 62 #[.val (.ref b1), .val (.int (27 : Int32)), .val (.long q3), .second] [(.int (24 : Int32)), (.long q3), (.int (((((((q3).toUInt64 >>> ((24 : Int32) &&& 0x3f).toInt64.toUInt64).toInt64)).toInt32)).toInt8.toInt32))]))
  refine own_go (fun _ k => XS.lushr X0.here hx rfl (hb hby d_method_4_62) rfl k) ?_
  show OwnGo p e below _ (s₁.setTop (mkF m 63 #[.val (.ref b1), .val (.int (27 : Int32)), .val (.long q3), .second] [(.long (((q3).toUInt64 >>> ((24 : Int32) &&& 0x3f).toInt64.toUInt64).toInt64)), (.int (((((((q3).toUInt64 >>> ((24 : Int32) &&& 0x3f).toInt64.toUInt64).toInt64)).toInt32)).toInt8.toInt32))]))
  refine own_go (fun _ k => XS.l2i X0.here hx rfl (hb hby d_method_4_63) rfl k) ?_
  show OwnGo p e below _ (s₁.setTop (mkF m 64 #[.val (.ref b1), .val (.int (27 : Int32)), .val (.long q3), .second] [(.int (((((q3).toUInt64 >>> ((24 : Int32) &&& 0x3f).toInt64.toUInt64).toInt64)).toInt32)), (.int (((((((q3).toUInt64 >>> ((24 : Int32) &&& 0x3f).toInt64.toUInt64).toInt64)).toInt32)).toInt8.toInt32))]))
  refine own_go (fun _ k => XS.i2b X0.here hx rfl (hb hby d_method_4_64) rfl k) ?_
  show OwnGo p e below _ (s₁.setTop (mkF m 65 #[.val (.ref b1), .val (.int (27 : Int32)), .val (.long q3), .second] [(.int (((((((q3).toUInt64 >>> ((24 : Int32) &&& 0x3f).toInt64.toUInt64).toInt64)).toInt32)).toInt8.toInt32)), (.int (((((((q3).toUInt64 >>> ((24 : Int32) &&& 0x3f).toInt64.toUInt64).toInt64)).toInt32)).toInt8.toInt32))]))
  refine own_go (fun _ k => XS.icmpNo X0.here hx rfl (hb hby d_method_4_65) rfl (teq rfl).2 k) ?_
  show OwnGo p e below _ (s₁.setTop (mkF m 68 #[.val (.ref b1), .val (.int (27 : Int32)), .val (.long q3), .second] []))
  refine own_go (fun _ k => XS.aloadN X0.here hx rfl (hb hby d_method_4_68) rfl rfl k) ?_
  show OwnGo p e below _ (s₁.setTop (mkF m 69 #[.val (.ref b1), .val (.int (27 : Int32)), .val (.long q3), .second] [(.ref b1)]))
  refine own_go (fun _ k => XS.iloadN X0.here hx rfl (hb hby d_method_4_69) rfl k) ?_
  show OwnGo p e below _ (s₁.setTop (mkF m 70 #[.val (.ref b1), .val (.int (27 : Int32)), .val (.long q3), .second] [(.int (27 : Int32)), (.ref b1)]))
  refine own_go (fun _ k => XS.iconst X0.here hx rfl (hb hby d_method_4_70) k) ?_
  show OwnGo p e below _ (s₁.setTop (mkF m 71 #[.val (.ref b1), .val (.int (27 : Int32)), .val (.long q3), .second] [(.int (5 : Int32)), (.int (27 : Int32)), (.ref b1)]))
  refine own_go (fun _ k => XS.iadd X0.here hx rfl (hb hby d_method_4_71) rfl k) ?_
  show OwnGo p e below _ (s₁.setTop (mkF m 72 #[.val (.ref b1), .val (.int (27 : Int32)), .val (.long q3), .second] [(.int ((27 : Int32) + (5 : Int32))), (.ref b1)]))
  rw [show ((27 : Int32) + (5 : Int32)) = (32 : Int32) from by decide]
  show OwnGo p e below _ (s₁.setTop (mkF m 72 #[.val (.ref b1), .val (.int (27 : Int32)), .val (.long q3), .second] [(.int (32 : Int32)), (.ref b1)]))
  obtain ⟨c154, Ar154, q154, S154, M154, H154, G154⟩ := (id VA)
  refine own_go (fun _ k => X0.baloadBytes hx (j := (32 : Int32)) (v := (.int (((((((q3).toUInt64 >>> ((16 : Int32) &&& 0x3f).toInt64.toUInt64).toInt64)).toInt32)).toInt8.toInt32))) (by rw [e0]; exact Ar154.1) (State.isArrayOf_alike hZ.alike Ar154.2.1) Ar154.2.2 (inb_of S154 ⟨by decide, by decide⟩) (Has.at H154 (inb_of S154 ⟨by decide, by decide⟩) rfl) (g := (mkF m 72 #[.val (.ref b1), .val (.int (27 : Int32)), .val (.long q3), .second] [(.int (32 : Int32)), (.ref b1)])) rfl rfl (hb hby d_method_4_72) _ k) ?_
  show OwnGo p e below _ (s₁.setTop (mkF m 73 #[.val (.ref b1), .val (.int (27 : Int32)), .val (.long q3), .second] [(.int (((((((q3).toUInt64 >>> ((16 : Int32) &&& 0x3f).toInt64.toUInt64).toInt64)).toInt32)).toInt8.toInt32))]))
  refine own_go (fun _ k => XS.lloadN X0.here hx rfl (hb hby d_method_4_73) rfl k) ?_
  show OwnGo p e below _ (s₁.setTop (mkF m 74 #[.val (.ref b1), .val (.int (27 : Int32)), .val (.long q3), .second] [(.long q3), (.int (((((((q3).toUInt64 >>> ((16 : Int32) &&& 0x3f).toInt64.toUInt64).toInt64)).toInt32)).toInt8.toInt32))]))
  refine own_go (fun _ k => XS.bipush X0.here hx rfl (hb hby d_method_4_74) k) ?_
  show OwnGo p e below _ (s₁.setTop (mkF m 76 #[.val (.ref b1), .val (.int (27 : Int32)), .val (.long q3), .second] [(.int (16 : Int32)), (.long q3), (.int (((((((q3).toUInt64 >>> ((16 : Int32) &&& 0x3f).toInt64.toUInt64).toInt64)).toInt32)).toInt8.toInt32))]))
  refine own_go (fun _ k => XS.lushr X0.here hx rfl (hb hby d_method_4_76) rfl k) ?_
  show OwnGo p e below _ (s₁.setTop (mkF m 77 #[.val (.ref b1), .val (.int (27 : Int32)), .val (.long q3), .second] [(.long (((q3).toUInt64 >>> ((16 : Int32) &&& 0x3f).toInt64.toUInt64).toInt64)), (.int (((((((q3).toUInt64 >>> ((16 : Int32) &&& 0x3f).toInt64.toUInt64).toInt64)).toInt32)).toInt8.toInt32))]))
  refine own_go (fun _ k => XS.l2i X0.here hx rfl (hb hby d_method_4_77) rfl k) ?_
  show OwnGo p e below _ (s₁.setTop (mkF m 78 #[.val (.ref b1), .val (.int (27 : Int32)), .val (.long q3), .second] [(.int (((((q3).toUInt64 >>> ((16 : Int32) &&& 0x3f).toInt64.toUInt64).toInt64)).toInt32)), (.int (((((((q3).toUInt64 >>> ((16 : Int32) &&& 0x3f).toInt64.toUInt64).toInt64)).toInt32)).toInt8.toInt32))]))
  refine own_go (fun _ k => XS.i2b X0.here hx rfl (hb hby d_method_4_78) rfl k) ?_
  show OwnGo p e below _ (s₁.setTop (mkF m 79 #[.val (.ref b1), .val (.int (27 : Int32)), .val (.long q3), .second] [(.int (((((((q3).toUInt64 >>> ((16 : Int32) &&& 0x3f).toInt64.toUInt64).toInt64)).toInt32)).toInt8.toInt32)), (.int (((((((q3).toUInt64 >>> ((16 : Int32) &&& 0x3f).toInt64.toUInt64).toInt64)).toInt32)).toInt8.toInt32))]))
  refine own_go (fun _ k => XS.icmpNo X0.here hx rfl (hb hby d_method_4_79) rfl (teq rfl).2 k) ?_
  show OwnGo p e below _ (s₁.setTop (mkF m 82 #[.val (.ref b1), .val (.int (27 : Int32)), .val (.long q3), .second] []))
  refine own_go (fun _ k => XS.aloadN X0.here hx rfl (hb hby d_method_4_82) rfl rfl k) ?_
  show OwnGo p e below _ (s₁.setTop (mkF m 83 #[.val (.ref b1), .val (.int (27 : Int32)), .val (.long q3), .second] [(.ref b1)]))
  refine own_go (fun _ k => XS.iloadN X0.here hx rfl (hb hby d_method_4_83) rfl k) ?_
  show OwnGo p e below _ (s₁.setTop (mkF m 84 #[.val (.ref b1), .val (.int (27 : Int32)), .val (.long q3), .second] [(.int (27 : Int32)), (.ref b1)]))
  refine own_go (fun _ k => XS.bipush X0.here hx rfl (hb hby d_method_4_84) k) ?_
  show OwnGo p e below _ (s₁.setTop (mkF m 86 #[.val (.ref b1), .val (.int (27 : Int32)), .val (.long q3), .second] [(.int (6 : Int32)), (.int (27 : Int32)), (.ref b1)]))
  refine own_go (fun _ k => XS.iadd X0.here hx rfl (hb hby d_method_4_86) rfl k) ?_
  show OwnGo p e below _ (s₁.setTop (mkF m 87 #[.val (.ref b1), .val (.int (27 : Int32)), .val (.long q3), .second] [(.int ((27 : Int32) + (6 : Int32))), (.ref b1)]))
  rw [show ((27 : Int32) + (6 : Int32)) = (33 : Int32) from by decide]
  show OwnGo p e below _ (s₁.setTop (mkF m 87 #[.val (.ref b1), .val (.int (27 : Int32)), .val (.long q3), .second] [(.int (33 : Int32)), (.ref b1)]))
  obtain ⟨c155, Ar155, q155, S155, M155, H155, G155⟩ := (id VA)
  refine own_go (fun _ k => X0.baloadBytes hx (j := (33 : Int32)) (v := (.int (((((((q3).toUInt64 >>> ((8 : Int32) &&& 0x3f).toInt64.toUInt64).toInt64)).toInt32)).toInt8.toInt32))) (by rw [e0]; exact Ar155.1) (State.isArrayOf_alike hZ.alike Ar155.2.1) Ar155.2.2 (inb_of S155 ⟨by decide, by decide⟩) (Has.at H155 (inb_of S155 ⟨by decide, by decide⟩) rfl) (g := (mkF m 87 #[.val (.ref b1), .val (.int (27 : Int32)), .val (.long q3), .second] [(.int (33 : Int32)), (.ref b1)])) rfl rfl (hb hby d_method_4_87) _ k) ?_
  show OwnGo p e below _ (s₁.setTop (mkF m 88 #[.val (.ref b1), .val (.int (27 : Int32)), .val (.long q3), .second] [(.int (((((((q3).toUInt64 >>> ((8 : Int32) &&& 0x3f).toInt64.toUInt64).toInt64)).toInt32)).toInt8.toInt32))]))
  refine own_go (fun _ k => XS.lloadN X0.here hx rfl (hb hby d_method_4_88) rfl k) ?_
  show OwnGo p e below _ (s₁.setTop (mkF m 89 #[.val (.ref b1), .val (.int (27 : Int32)), .val (.long q3), .second] [(.long q3), (.int (((((((q3).toUInt64 >>> ((8 : Int32) &&& 0x3f).toInt64.toUInt64).toInt64)).toInt32)).toInt8.toInt32))]))
  refine own_go (fun _ k => XS.bipush X0.here hx rfl (hb hby d_method_4_89) k) ?_
  show OwnGo p e below _ (s₁.setTop (mkF m 91 #[.val (.ref b1), .val (.int (27 : Int32)), .val (.long q3), .second] [(.int (8 : Int32)), (.long q3), (.int (((((((q3).toUInt64 >>> ((8 : Int32) &&& 0x3f).toInt64.toUInt64).toInt64)).toInt32)).toInt8.toInt32))]))
  refine own_go (fun _ k => XS.lushr X0.here hx rfl (hb hby d_method_4_91) rfl k) ?_
  show OwnGo p e below _ (s₁.setTop (mkF m 92 #[.val (.ref b1), .val (.int (27 : Int32)), .val (.long q3), .second] [(.long (((q3).toUInt64 >>> ((8 : Int32) &&& 0x3f).toInt64.toUInt64).toInt64)), (.int (((((((q3).toUInt64 >>> ((8 : Int32) &&& 0x3f).toInt64.toUInt64).toInt64)).toInt32)).toInt8.toInt32))]))
  refine own_go (fun _ k => XS.l2i X0.here hx rfl (hb hby d_method_4_92) rfl k) ?_
  show OwnGo p e below _ (s₁.setTop (mkF m 93 #[.val (.ref b1), .val (.int (27 : Int32)), .val (.long q3), .second] [(.int (((((q3).toUInt64 >>> ((8 : Int32) &&& 0x3f).toInt64.toUInt64).toInt64)).toInt32)), (.int (((((((q3).toUInt64 >>> ((8 : Int32) &&& 0x3f).toInt64.toUInt64).toInt64)).toInt32)).toInt8.toInt32))]))
  refine own_go (fun _ k => XS.i2b X0.here hx rfl (hb hby d_method_4_93) rfl k) ?_
  show OwnGo p e below _ (s₁.setTop (mkF m 94 #[.val (.ref b1), .val (.int (27 : Int32)), .val (.long q3), .second] [(.int (((((((q3).toUInt64 >>> ((8 : Int32) &&& 0x3f).toInt64.toUInt64).toInt64)).toInt32)).toInt8.toInt32)), (.int (((((((q3).toUInt64 >>> ((8 : Int32) &&& 0x3f).toInt64.toUInt64).toInt64)).toInt32)).toInt8.toInt32))]))
  refine own_go (fun _ k => XS.icmpNo X0.here hx rfl (hb hby d_method_4_94) rfl (teq rfl).2 k) ?_
  show OwnGo p e below _ (s₁.setTop (mkF m 97 #[.val (.ref b1), .val (.int (27 : Int32)), .val (.long q3), .second] []))
  refine own_go (fun _ k => XS.aloadN X0.here hx rfl (hb hby d_method_4_97) rfl rfl k) ?_
  show OwnGo p e below _ (s₁.setTop (mkF m 98 #[.val (.ref b1), .val (.int (27 : Int32)), .val (.long q3), .second] [(.ref b1)]))
  refine own_go (fun _ k => XS.iloadN X0.here hx rfl (hb hby d_method_4_98) rfl k) ?_
  show OwnGo p e below _ (s₁.setTop (mkF m 99 #[.val (.ref b1), .val (.int (27 : Int32)), .val (.long q3), .second] [(.int (27 : Int32)), (.ref b1)]))
  refine own_go (fun _ k => XS.bipush X0.here hx rfl (hb hby d_method_4_99) k) ?_
  show OwnGo p e below _ (s₁.setTop (mkF m 101 #[.val (.ref b1), .val (.int (27 : Int32)), .val (.long q3), .second] [(.int (7 : Int32)), (.int (27 : Int32)), (.ref b1)]))
  refine own_go (fun _ k => XS.iadd X0.here hx rfl (hb hby d_method_4_101) rfl k) ?_
  show OwnGo p e below _ (s₁.setTop (mkF m 102 #[.val (.ref b1), .val (.int (27 : Int32)), .val (.long q3), .second] [(.int ((27 : Int32) + (7 : Int32))), (.ref b1)]))
  rw [show ((27 : Int32) + (7 : Int32)) = (34 : Int32) from by decide]
  show OwnGo p e below _ (s₁.setTop (mkF m 102 #[.val (.ref b1), .val (.int (27 : Int32)), .val (.long q3), .second] [(.int (34 : Int32)), (.ref b1)]))
  obtain ⟨c156, Ar156, q156, S156, M156, H156, G156⟩ := (id VA)
  refine own_go (fun _ k => X0.baloadBytes hx (j := (34 : Int32)) (v := (.int ((((q3).toInt32)).toInt8.toInt32))) (by rw [e0]; exact Ar156.1) (State.isArrayOf_alike hZ.alike Ar156.2.1) Ar156.2.2 (inb_of S156 ⟨by decide, by decide⟩) (Has.at H156 (inb_of S156 ⟨by decide, by decide⟩) rfl) (g := (mkF m 102 #[.val (.ref b1), .val (.int (27 : Int32)), .val (.long q3), .second] [(.int (34 : Int32)), (.ref b1)])) rfl rfl (hb hby d_method_4_102) _ k) ?_
  show OwnGo p e below _ (s₁.setTop (mkF m 103 #[.val (.ref b1), .val (.int (27 : Int32)), .val (.long q3), .second] [(.int ((((q3).toInt32)).toInt8.toInt32))]))
  refine own_go (fun _ k => XS.lloadN X0.here hx rfl (hb hby d_method_4_103) rfl k) ?_
  show OwnGo p e below _ (s₁.setTop (mkF m 104 #[.val (.ref b1), .val (.int (27 : Int32)), .val (.long q3), .second] [(.long q3), (.int ((((q3).toInt32)).toInt8.toInt32))]))
  refine own_go (fun _ k => XS.l2i X0.here hx rfl (hb hby d_method_4_104) rfl k) ?_
  show OwnGo p e below _ (s₁.setTop (mkF m 105 #[.val (.ref b1), .val (.int (27 : Int32)), .val (.long q3), .second] [(.int ((q3).toInt32)), (.int ((((q3).toInt32)).toInt8.toInt32))]))
  refine own_go (fun _ k => XS.i2b X0.here hx rfl (hb hby d_method_4_105) rfl k) ?_
  show OwnGo p e below _ (s₁.setTop (mkF m 106 #[.val (.ref b1), .val (.int (27 : Int32)), .val (.long q3), .second] [(.int ((((q3).toInt32)).toInt8.toInt32)), (.int ((((q3).toInt32)).toInt8.toInt32))]))
  refine own_go (fun _ k => XS.icmpNo X0.here hx rfl (hb hby d_method_4_106) rfl (teq rfl).2 k) ?_
  show OwnGo p e below _ (s₁.setTop (mkF m 109 #[.val (.ref b1), .val (.int (27 : Int32)), .val (.long q3), .second] []))
  refine own_go (fun _ k => XS.iconst X0.here hx rfl (hb hby d_method_4_109) k) ?_
  show OwnGo p e below _ (s₁.setTop (mkF m 110 #[.val (.ref b1), .val (.int (27 : Int32)), .val (.long q3), .second] [(.int (1 : Int32))]))
  refine own_go (fun _ k => XS.goto X0.here hx rfl (pc0 := 110) (pc' := 114) rfl (hb hby d_method_4_110) (by decide) (by decide) k) ?_
  show OwnGo p e below _ (s₁.setTop (mkF m 114 #[.val (.ref b1), .val (.int (27 : Int32)), .val (.long q3), .second] [(.int (1 : Int32))]))
  obtain ⟨fs, hr, hrun, hended, hW, hsame⟩ := X0.leave (v := some (.int (1 : Int32))) (fun h => by rw [Bd.returns] at h; cases h)
  refine ⟨_, _, retOut X0 hx Bd.returns rfl (Or.inl ⟨rfl, Or.inr (Or.inl rfl), _, rfl⟩) (hb hby d_method_4_114) hr, hrun, hended, _, _, rfl, ?_, ⟨_, rfl⟩, hW, hsame.mono (by decide) (by decide)⟩
  show Q_same27 Z aFFDHE2048 aCONFIRMATION aFFDHE4096 aFFDHE3072 b1 q3 k1 u0 u1 u2 u3 u4 u5 u6 u7 u8 u9 u10 u11 u12 u13 u14 u15 u16 u17 u18 u19 u20 u21 u22 u23 u24 u25 u26 h0 n0 _ s₁.heap _
  rw [e0]
  exact ⟨rfl, N0, rfl⟩
theorem pd__B_I_J__V : parseMethodDescriptor "([BIJ)V" = some ⟨[(.array .byte), .int, .long], none⟩ := by decide +kernel
theorem pd_Lcom_example_portcullis_portcullis_Group___B___B : parseMethodDescriptor "(Lcom/example/portcullis/portcullis/Group;[B)[B" = some ⟨[(.object "com/example/portcullis/portcullis/Group"), (.array .byte)], some (.array .byte)⟩ := by decide +kernel
theorem pd__B_I_J__Z : parseMethodDescriptor "([BIJ)Z" = some ⟨[(.array .byte), .int, .long], some .boolean⟩ := by decide +kernel
def Q_law (Z : State) (aFFDHE2048 aCONFIRMATION aFFDHE4096 aFFDHE3072 : Addr) (p0 : Int32) (q0 : Int64) (q1 : Int64) (q2 : Int64) (q3 : Int64) (h0 : Heap) (n0 : Nat) (v : Option Value) (h : Heap) (L : List Loc) : Prop := v = some (.int (1 : Int32)) ∧ Fr n0 L
theorem ef_law (m : MethodId) (x0 : Int32) (x1 : Int64) (x2 : Int64) (x3 : Int64) (x4 : Int64) : entryFrame m #[(.int x0), (.long x1), (.long x2), (.long x3), (.long x4)] maxLocals = mkF m 0 #[.val (.int x0), .val (.long x1), .second, .val (.long x2), .second, .val (.long x3), .second, .val (.long x4), .second, .unset, .unset, .unset, .unset, .unset] [] := by first | (simp [entryFrame, mkF, argsToLocals, Value.category, maxLocals]; done) | rfl
set_option maxRecDepth 65536 in
set_option maxHeartbeats 40000000 in
theorem rm_law (l : Launch) (Z : State) (a0 : Array Value) (hw : ∀ d ∈ tables_1, d.before a0 Z = true) (ws : List Jvm.Cond) (aFFDHE2048 aCONFIRMATION aFFDHE4096 aFFDHE3072 : Addr) (F0 : OwnFacts Z aFFDHE2048 aCONFIRMATION aFFDHE4096 aFFDHE3072) (p0 : Int32) (q0 : Int64) (q1 : Int64) (q2 : Int64) (q3 : Int64) (h0 : Heap) (n0 : Nat) (O0 : Old Z n0 h0) :
    MetFree l x (head1 (Jvm.Cond.code x code maxLocals ret :: ws) room_1) (fun a U => a = #[(.int p0), (.long q0), (.long q1), (.long q2), (.long q3)] ∧ Z.Warmed39 U.vm ∧ U.heap = h0) (fun _ _ _ _ _ => True) (fun _ U o U' => ∃ v L, o = .returned v ∧ Q_law Z aFFDHE2048 aCONFIRMATION aFFDHE4096 aFFDHE3072 p0 q0 q1 q2 q3 h0 n0 v U'.heap L ∧ FrameEnd U o U' L 2 67) := by
  refine MetFree.of_bodySF (plainFor_of_name pn_com_example_portcullis_portcullis_ConfirmationEncodePinLaw) hisR ?_
  intro p e s m args below meth c s₁ Bd hml0 hP hK
  obtain ⟨rfl, hZ, hh⟩ := hP
  have hx := Bd.exec
  have hby := Bd.bytes
  have hml : c.maxLocals = 14 := hml0
  have hown : s.vm.findClass "com/example/portcullis/portcullis/ConfirmationEncodePinLaw" = some m.cls := findClass_of_methodNamed Bd.named
  have hnm := (name_of_methodNamed Bd.named Bd.method).1
  have X0 : Stand p l e room_1 s m #[(.int p0), (.long q0), (.long q1), (.long q2), (.long q3)] below meth c s₁ [] 0 0 := Stand.of_body Bd
  have e0 : s₁.heap = h0 := by rw [← hh, Bd.state]; rfl
  have N0 := Fr.nil n0
  refine own_go (Q := fun o U' => ∃ v L, o = .returned v ∧ Q_law Z aFFDHE2048 aCONFIRMATION aFFDHE4096 aFFDHE3072 p0 q0 q1 q2 q3 h0 n0 v U'.heap L ∧ FrameEnd s o U' L 2 67) (fun t k => castTop (ef_law m p0 q0 q1 q2 q3) k) ?_
  show OwnGo p e below _ (s₁.setTop (mkF m 0 #[.val (.int p0), .val (.long q0), .second, .val (.long q1), .second, .val (.long q2), .second, .val (.long q3), .second, .unset, .unset, .unset, .unset, .unset] []))
  refine own_go (fun _ k => XS.iloadN X0.here hx rfl (hb hby at_0) rfl k) ?_
  show OwnGo p e below _ (s₁.setTop (mkF m 1 #[.val (.int p0), .val (.long q0), .second, .val (.long q1), .second, .val (.long q2), .second, .val (.long q3), .second, .unset, .unset, .unset, .unset, .unset] [(.int p0)]))
  refine own_go (fun _ k => Jvm.Stand.ldcI X0 hx hown (mvT hZ (hw _ (List.mem_of_getElem? (i := 0) rfl))) rfl (hb hby at_1) k) ?_
  show OwnGo p e below _ (s₁.setTop (mkF m 3 #[.val (.int p0), .val (.long q0), .second, .val (.long q1), .second, .val (.long q2), .second, .val (.long q3), .second, .unset, .unset, .unset, .unset, .unset] [(.int (2147483647 : Int32)), (.int p0)]))
  refine own_go (fun _ k => XS.iand X0.here hx rfl (hb hby at_3) rfl k) ?_
  show OwnGo p e below _ (s₁.setTop (mkF m 4 #[.val (.int p0), .val (.long q0), .second, .val (.long q1), .second, .val (.long q2), .second, .val (.long q3), .second, .unset, .unset, .unset, .unset, .unset] [(.int (p0 &&& (2147483647 : Int32)))]))
  refine own_go (fun _ k => XS.iconst X0.here hx rfl (hb hby at_4) k) ?_
  show OwnGo p e below _ (s₁.setTop (mkF m 5 #[.val (.int p0), .val (.long q0), .second, .val (.long q1), .second, .val (.long q2), .second, .val (.long q3), .second, .unset, .unset, .unset, .unset, .unset] [(.int (3 : Int32)), (.int (p0 &&& (2147483647 : Int32)))]))
  refine own_go (fun _ k => iremM X0 hx rfl (hb hby at_5) rfl (by decide) k) ?_
  show OwnGo p e below _ (s₁.setTop (mkF m 6 #[.val (.int p0), .val (.long q0), .second, .val (.long q1), .second, .val (.long q2), .second, .val (.long q3), .second, .unset, .unset, .unset, .unset, .unset] [(.int ((p0 &&& (2147483647 : Int32)) % (3 : Int32)))]))
  refine own_go (fun _ k => XS.istore X0.here hx rfl (hb hby at_6) rfl (l' := #[.val (.int p0), .val (.long q0), .second, .val (.long q1), .second, .val (.long q2), .second, .val (.long q3), .second, .val (.int ((p0 &&& (2147483647 : Int32)) % (3 : Int32))), .unset, .unset, .unset, .unset]) rfl k) ?_
  show OwnGo p e below _ (s₁.setTop (mkF m 8 #[.val (.int p0), .val (.long q0), .second, .val (.long q1), .second, .val (.long q2), .second, .val (.long q3), .second, .val (.int ((p0 &&& (2147483647 : Int32)) % (3 : Int32))), .unset, .unset, .unset, .unset] []))
  refine own_go (fun _ k => XS.iload X0.here hx rfl (hb hby at_8) rfl k) ?_
  show OwnGo p e below _ (s₁.setTop (mkF m 10 #[.val (.int p0), .val (.long q0), .second, .val (.long q1), .second, .val (.long q2), .second, .val (.long q3), .second, .val (.int ((p0 &&& (2147483647 : Int32)) % (3 : Int32))), .unset, .unset, .unset, .unset] [(.int ((p0 &&& (2147483647 : Int32)) % (3 : Int32)))]))
  by_cases hc157 : ((p0 &&& (2147483647 : Int32)) % (3 : Int32)) = (0 : Int32)
  · refine own_go (fun _ k => XS.ifNo X0.here hx rfl (hb hby at_10) rfl ((if0 _ _).trans (teq hc157).2) k) ?_
    show OwnGo p e below _ (s₁.setTop (mkF m 13 #[.val (.int p0), .val (.long q0), .second, .val (.long q1), .second, .val (.long q2), .second, .val (.long q3), .second, .val (.int ((p0 &&& (2147483647 : Int32)) % (3 : Int32))), .unset, .unset, .unset, .unset] []))
    obtain ⟨T158, X158, e158, st158⟩ := getS X0 hx hZ hown (host := "") (hw _ (List.mem_of_getElem? (i := 1) rfl)) Via.refl e0 (F0.1.ext O0.2) (g := (mkF m 13 #[.val (.int p0), .val (.long q0), .second, .val (.long q1), .second, .val (.long q2), .second, .val (.long q3), .second, .val (.int ((p0 &&& (2147483647 : Int32)) % (3 : Int32))), .unset, .unset, .unset, .unset] [])) rfl (hb hby at_13)
    refine own_go st158 ?_
    show OwnGo p e below _ (T158.setTop (mkF m 16 #[.val (.int p0), .val (.long q0), .second, .val (.long q1), .second, .val (.long q2), .second, .val (.long q3), .second, .val (.int ((p0 &&& (2147483647 : Int32)) % (3 : Int32))), .unset, .unset, .unset, .unset] [(.ref aFFDHE2048)]))
    refine own_go (fun _ k => XS.astore X158.here hx rfl (hb hby at_16) rfl rfl (l' := #[.val (.int p0), .val (.long q0), .second, .val (.long q1), .second, .val (.long q2), .second, .val (.long q3), .second, .val (.int ((p0 &&& (2147483647 : Int32)) % (3 : Int32))), .val (.ref aFFDHE2048), .unset, .unset, .unset]) rfl k) ?_
    show OwnGo p e below _ (T158.setTop (mkF m 18 #[.val (.int p0), .val (.long q0), .second, .val (.long q1), .second, .val (.long q2), .second, .val (.long q3), .second, .val (.int ((p0 &&& (2147483647 : Int32)) % (3 : Int32))), .val (.ref aFFDHE2048), .unset, .unset, .unset] []))
    refine own_go (fun _ k => XS.iconst X158.here hx rfl (hb hby at_18) k) ?_
    show OwnGo p e below _ (T158.setTop (mkF m 19 #[.val (.int p0), .val (.long q0), .second, .val (.long q1), .second, .val (.long q2), .second, .val (.long q3), .second, .val (.int ((p0 &&& (2147483647 : Int32)) % (3 : Int32))), .val (.ref aFFDHE2048), .unset, .unset, .unset] [(.int (1 : Int32))]))
    refine own_go (fun _ k => XS.istore X158.here hx rfl (hb hby at_19) rfl (l' := #[.val (.int p0), .val (.long q0), .second, .val (.long q1), .second, .val (.long q2), .second, .val (.long q3), .second, .val (.int ((p0 &&& (2147483647 : Int32)) % (3 : Int32))), .val (.ref aFFDHE2048), .val (.int (1 : Int32)), .unset, .unset]) rfl k) ?_
    show OwnGo p e below _ (T158.setTop (mkF m 21 #[.val (.int p0), .val (.long q0), .second, .val (.long q1), .second, .val (.long q2), .second, .val (.long q3), .second, .val (.int ((p0 &&& (2147483647 : Int32)) % (3 : Int32))), .val (.ref aFFDHE2048), .val (.int (1 : Int32)), .unset, .unset] []))
    refine own_go (fun _ k => XS.goto X158.here hx rfl (pc0 := 21) (pc' := 49) rfl (hb hby at_21) (by decide) (by decide) k) ?_
    show OwnGo p e below _ (T158.setTop (mkF m 49 #[.val (.int p0), .val (.long q0), .second, .val (.long q1), .second, .val (.long q2), .second, .val (.long q3), .second, .val (.int ((p0 &&& (2147483647 : Int32)) % (3 : Int32))), .val (.ref aFFDHE2048), .val (.int (1 : Int32)), .unset, .unset] []))
    refine own_go (fun _ k => XS.bipush X158.here hx rfl (hb hby at_49) k) ?_
    show OwnGo p e below _ (T158.setTop (mkF m 51 #[.val (.int p0), .val (.long q0), .second, .val (.long q1), .second, .val (.long q2), .second, .val (.long q3), .second, .val (.int ((p0 &&& (2147483647 : Int32)) % (3 : Int32))), .val (.ref aFFDHE2048), .val (.int (1 : Int32)), .unset, .unset] [(.int (32 : Int32))]))
    obtain ⟨T159, h159, k159, X159, e159, E159, A159, st159⟩ := newP X158 hx hZ (hw _ (List.mem_of_getElem? (i := 4) rfl)) e158 (g := (mkF m 51 #[.val (.int p0), .val (.long q0), .second, .val (.long q1), .second, .val (.long q2), .second, .val (.long q3), .second, .val (.int ((p0 &&& (2147483647 : Int32)) % (3 : Int32))), .val (.ref aFFDHE2048), .val (.int (1 : Int32)), .unset, .unset] [(.int (32 : Int32))])) rfl (hb hby at_51) rfl (by decide) (cap := 32) (by decide) (by decide) (by decide) (by decide)
    obtain ⟨a159, g159⟩ : ∃ z, z = h0.size := ⟨_, rfl⟩
    rw [← g159] at A159 st159
    have ge159 : n0 ≤ a159 := Nat.le_trans (own_sz O0) (Nat.le_of_eq g159.symm)
    have gh159 : h0.size ≤ a159 := Nat.le_trans (Nat.le_refl _) (Nat.le_of_eq g159.symm)
    have O159 := O0.ext E159
    have z160 : h0.size ≤ h159.size := Nat.le_trans (Nat.le_refl _) E159.1
    have V159 : Arv Z h159 a159 k159 .byte (32 : Int32) [(.int (0 : Int32)), (.int (0 : Int32)), (.int (0 : Int32)), (.int (0 : Int32)), (.int (0 : Int32)), (.int (0 : Int32)), (.int (0 : Int32)), (.int (0 : Int32)), (.int (0 : Int32)), (.int (0 : Int32)), (.int (0 : Int32)), (.int (0 : Int32)), (.int (0 : Int32)), (.int (0 : Int32)), (.int (0 : Int32)), (.int (0 : Int32)), (.int (0 : Int32)), (.int (0 : Int32)), (.int (0 : Int32)), (.int (0 : Int32)), (.int (0 : Int32)), (.int (0 : Int32)), (.int (0 : Int32)), (.int (0 : Int32)), (.int (0 : Int32)), (.int (0 : Int32)), (.int (0 : Int32)), (.int (0 : Int32)), (.int (0 : Int32)), (.int (0 : Int32)), (.int (0 : Int32)), (.int (0 : Int32))] (.int (0 : Int32)) := (Arv.new A159 (by decide)).pad (pad_rep [] _ 32)
    refine own_go st159 ?_
    show OwnGo p e below _ (T159.setTop (mkF m 53 #[.val (.int p0), .val (.long q0), .second, .val (.long q1), .second, .val (.long q2), .second, .val (.long q3), .second, .val (.int ((p0 &&& (2147483647 : Int32)) % (3 : Int32))), .val (.ref aFFDHE2048), .val (.int (1 : Int32)), .unset, .unset] [(.ref a159)]))
    refine own_go (fun _ k => XS.astore X159.here hx rfl (hb hby at_53) rfl rfl (l' := #[.val (.int p0), .val (.long q0), .second, .val (.long q1), .second, .val (.long q2), .second, .val (.long q3), .second, .val (.int ((p0 &&& (2147483647 : Int32)) % (3 : Int32))), .val (.ref aFFDHE2048), .val (.int (1 : Int32)), .val (.ref a159), .unset]) rfl k) ?_
    show OwnGo p e below _ (T159.setTop (mkF m 55 #[.val (.int p0), .val (.long q0), .second, .val (.long q1), .second, .val (.long q2), .second, .val (.long q3), .second, .val (.int ((p0 &&& (2147483647 : Int32)) % (3 : Int32))), .val (.ref aFFDHE2048), .val (.int (1 : Int32)), .val (.ref a159), .unset] []))
    refine own_go (fun _ k => XS.aload X159.here hx rfl (hb hby at_55) rfl rfl k) ?_
    show OwnGo p e below _ (T159.setTop (mkF m 57 #[.val (.int p0), .val (.long q0), .second, .val (.long q1), .second, .val (.long q2), .second, .val (.long q3), .second, .val (.int ((p0 &&& (2147483647 : Int32)) % (3 : Int32))), .val (.ref aFFDHE2048), .val (.int (1 : Int32)), .val (.ref a159), .unset] [(.ref a159)]))
    refine own_go (fun _ k => XS.iconst X159.here hx rfl (hb hby at_57) k) ?_
    show OwnGo p e below _ (T159.setTop (mkF m 58 #[.val (.int p0), .val (.long q0), .second, .val (.long q1), .second, .val (.long q2), .second, .val (.long q3), .second, .val (.int ((p0 &&& (2147483647 : Int32)) % (3 : Int32))), .val (.ref aFFDHE2048), .val (.int (1 : Int32)), .val (.ref a159), .unset] [(.int (0 : Int32)), (.ref a159)]))
    refine own_go (fun _ k => XS.lloadN X159.here hx rfl (hb hby at_58) rfl k) ?_
    show OwnGo p e below _ (T159.setTop (mkF m 59 #[.val (.int p0), .val (.long q0), .second, .val (.long q1), .second, .val (.long q2), .second, .val (.long q3), .second, .val (.int ((p0 &&& (2147483647 : Int32)) % (3 : Int32))), .val (.ref aFFDHE2048), .val (.int (1 : Int32)), .val (.ref a159), .unset] [(.long q0), (.int (0 : Int32)), (.ref a159)]))
    obtain ⟨_, _, ⟨T161, L161, k161, n161⟩, -, X161, ⟨Lc161, hQ161, l161, y161, z161⟩, st161⟩ := Jvm.LawKit.callS X159 hx (y := (⟨"com/example/portcullis/portcullis/ConfirmationEncodePinLaw", "put", "([BIJ)V"⟩ : MethodName)) hown (mvT hZ (hw _ (List.mem_of_getElem? (i := 5) rfl))) (mvT hZ (hw _ (List.mem_of_getElem? (i := 6) rfl))) (mvT hZ (hw _ (List.mem_of_getElem? (i := 7) rfl))) (mvT hZ (hw _ (List.mem_of_getElem? (i := 8) rfl))) (by decide) (backOf (W := 0) (rm_put0 l Z a0 hw [] aFFDHE2048 aCONFIRMATION aFFDHE4096 aFFDHE3072 F0 a159 q0 k159 (0 : Int32) (0 : Int32) (0 : Int32) (0 : Int32) (0 : Int32) (0 : Int32) (0 : Int32) (0 : Int32) (0 : Int32) (0 : Int32) (0 : Int32) (0 : Int32) (0 : Int32) (0 : Int32) (0 : Int32) (0 : Int32) (0 : Int32) (0 : Int32) (0 : Int32) (0 : Int32) (0 : Int32) (0 : Int32) (0 : Int32) (0 : Int32) (0 : Int32) (0 : Int32) (0 : Int32) (0 : Int32) (0 : Int32) (0 : Int32) (0 : Int32) (0 : Int32) h159 n0 O159 V159 ge159) hZ (hw _ (List.mem_of_getElem? (i := 8) rfl)) (hw _ (List.mem_of_getElem? (i := 7) rfl)) (by decide) (by decide)) (g := (mkF m 59 #[.val (.int p0), .val (.long q0), .second, .val (.long q1), .second, .val (.long q2), .second, .val (.long q3), .second, .val (.int ((p0 &&& (2147483647 : Int32)) % (3 : Int32))), .val (.ref aFFDHE2048), .val (.int (1 : Int32)), .val (.ref a159), .unset] [(.long q0), (.int (0 : Int32)), (.ref a159)])) rfl (by rw [hml]; rfl) (argsL := [(.ref a159), (.int (0 : Int32)), (.long q0)]) (rest := []) (lenOf pd__B_I_J__V rfl) rfl (by show 2 * 0 + _ ≤ _; exact Nat.le_of_eq rfl) (hb hby at_59) (fun _ _ => ⟨rfl, e159, (by decide : 1 + 0 ≤ _), (by decide : 32 + 0 ≤ _)⟩)
    dsimp only [Pt.U, Pt.locs, Pt.cells, Pt.slots] at X161 l161 y161 z161 st161 hQ161
    subst l161 y161 z161
    obtain ⟨rfl, Nq161, K161, x161_0⟩ := hQ161
    have N161 := Fr.app N0 Nq161
    have O161 := O159.keep K161 (allS ge159 all0)
    have e161 : T161.heap = T161.heap := rfl
    have z162 : h0.size ≤ T161.heap.size := Nat.le_trans z160 K161.1
    refine own_go st161 ?_
    show OwnGo p e below _ (T161.setTop (mkF m 62 #[.val (.int p0), .val (.long q0), .second, .val (.long q1), .second, .val (.long q2), .second, .val (.long q3), .second, .val (.int ((p0 &&& (2147483647 : Int32)) % (3 : Int32))), .val (.ref aFFDHE2048), .val (.int (1 : Int32)), .val (.ref a159), .unset] []))
    refine own_go (fun _ k => XS.aload X161.here hx rfl (hb hby at_62) rfl rfl k) ?_
    show OwnGo p e below _ (T161.setTop (mkF m 64 #[.val (.int p0), .val (.long q0), .second, .val (.long q1), .second, .val (.long q2), .second, .val (.long q3), .second, .val (.int ((p0 &&& (2147483647 : Int32)) % (3 : Int32))), .val (.ref aFFDHE2048), .val (.int (1 : Int32)), .val (.ref a159), .unset] [(.ref a159)]))
    refine own_go (fun _ k => XS.bipush X161.here hx rfl (hb hby at_64) k) ?_
    show OwnGo p e below _ (T161.setTop (mkF m 66 #[.val (.int p0), .val (.long q0), .second, .val (.long q1), .second, .val (.long q2), .second, .val (.long q3), .second, .val (.int ((p0 &&& (2147483647 : Int32)) % (3 : Int32))), .val (.ref aFFDHE2048), .val (.int (1 : Int32)), .val (.ref a159), .unset] [(.int (8 : Int32)), (.ref a159)]))
    refine own_go (fun _ k => XS.lloadN X161.here hx rfl (hb hby at_66) rfl k) ?_
    show OwnGo p e below _ (T161.setTop (mkF m 67 #[.val (.int p0), .val (.long q0), .second, .val (.long q1), .second, .val (.long q2), .second, .val (.long q3), .second, .val (.int ((p0 &&& (2147483647 : Int32)) % (3 : Int32))), .val (.ref aFFDHE2048), .val (.int (1 : Int32)), .val (.ref a159), .unset] [(.long q1), (.int (8 : Int32)), (.ref a159)]))
    obtain ⟨_, _, ⟨T163, L163, k163, n163⟩, -, X163, ⟨Lc163, hQ163, l163, y163, z163⟩, st163⟩ := Jvm.LawKit.callS X161 hx (y := (⟨"com/example/portcullis/portcullis/ConfirmationEncodePinLaw", "put", "([BIJ)V"⟩ : MethodName)) hown (mvT hZ (hw _ (List.mem_of_getElem? (i := 5) rfl))) (mvT hZ (hw _ (List.mem_of_getElem? (i := 6) rfl))) (mvT hZ (hw _ (List.mem_of_getElem? (i := 7) rfl))) (mvT hZ (hw _ (List.mem_of_getElem? (i := 8) rfl))) (by decide) (backOf (W := 0) (rm_put8 l Z a0 hw [] aFFDHE2048 aCONFIRMATION aFFDHE4096 aFFDHE3072 F0 a159 q1 k159 (((((((q0).toUInt64 >>> ((56 : Int32) &&& 0x3f).toInt64.toUInt64).toInt64)).toInt32)).toInt8.toInt32) (((((((q0).toUInt64 >>> ((48 : Int32) &&& 0x3f).toInt64.toUInt64).toInt64)).toInt32)).toInt8.toInt32) (((((((q0).toUInt64 >>> ((40 : Int32) &&& 0x3f).toInt64.toUInt64).toInt64)).toInt32)).toInt8.toInt32) (((((((q0).toUInt64 >>> ((32 : Int32) &&& 0x3f).toInt64.toUInt64).toInt64)).toInt32)).toInt8.toInt32) (((((((q0).toUInt64 >>> ((24 : Int32) &&& 0x3f).toInt64.toUInt64).toInt64)).toInt32)).toInt8.toInt32) (((((((q0).toUInt64 >>> ((16 : Int32) &&& 0x3f).toInt64.toUInt64).toInt64)).toInt32)).toInt8.toInt32) (((((((q0).toUInt64 >>> ((8 : Int32) &&& 0x3f).toInt64.toUInt64).toInt64)).toInt32)).toInt8.toInt32) ((((q0).toInt32)).toInt8.toInt32) (0 : Int32) (0 : Int32) (0 : Int32) (0 : Int32) (0 : Int32) (0 : Int32) (0 : Int32) (0 : Int32) (0 : Int32) (0 : Int32) (0 : Int32) (0 : Int32) (0 : Int32) (0 : Int32) (0 : Int32) (0 : Int32) (0 : Int32) (0 : Int32) (0 : Int32) (0 : Int32) (0 : Int32) (0 : Int32) (0 : Int32) (0 : Int32) T161.heap n0 O161 x161_0 ge159) hZ (hw _ (List.mem_of_getElem? (i := 8) rfl)) (hw _ (List.mem_of_getElem? (i := 7) rfl)) (by decide) (by decide)) (g := (mkF m 67 #[.val (.int p0), .val (.long q0), .second, .val (.long q1), .second, .val (.long q2), .second, .val (.long q3), .second, .val (.int ((p0 &&& (2147483647 : Int32)) % (3 : Int32))), .val (.ref aFFDHE2048), .val (.int (1 : Int32)), .val (.ref a159), .unset] [(.long q1), (.int (8 : Int32)), (.ref a159)])) rfl (by rw [hml]; rfl) (argsL := [(.ref a159), (.int (8 : Int32)), (.long q1)]) (rest := []) (lenOf pd__B_I_J__V rfl) rfl (by show 2 * 0 + _ ≤ _; exact Nat.le_of_eq rfl) (hb hby at_67) (fun _ _ => ⟨rfl, e161, (by decide : 1 + 0 ≤ _), (by decide : 32 + 0 ≤ _)⟩)
    dsimp only [Pt.U, Pt.locs, Pt.cells, Pt.slots] at X163 l163 y163 z163 st163 hQ163
    subst l163 y163 z163
    obtain ⟨rfl, Nq163, K163, x163_0⟩ := hQ163
    have N163 := Fr.app N161 Nq163
    have O163 := O161.keep K163 (allS ge159 all0)
    have e163 : T163.heap = T163.heap := rfl
    have z164 : h0.size ≤ T163.heap.size := Nat.le_trans z162 K163.1
    refine own_go st163 ?_
    show OwnGo p e below _ (T163.setTop (mkF m 70 #[.val (.int p0), .val (.long q0), .second, .val (.long q1), .second, .val (.long q2), .second, .val (.long q3), .second, .val (.int ((p0 &&& (2147483647 : Int32)) % (3 : Int32))), .val (.ref aFFDHE2048), .val (.int (1 : Int32)), .val (.ref a159), .unset] []))
    refine own_go (fun _ k => XS.aload X163.here hx rfl (hb hby at_70) rfl rfl k) ?_
    show OwnGo p e below _ (T163.setTop (mkF m 72 #[.val (.int p0), .val (.long q0), .second, .val (.long q1), .second, .val (.long q2), .second, .val (.long q3), .second, .val (.int ((p0 &&& (2147483647 : Int32)) % (3 : Int32))), .val (.ref aFFDHE2048), .val (.int (1 : Int32)), .val (.ref a159), .unset] [(.ref a159)]))
    refine own_go (fun _ k => XS.bipush X163.here hx rfl (hb hby at_72) k) ?_
    show OwnGo p e below _ (T163.setTop (mkF m 74 #[.val (.int p0), .val (.long q0), .second, .val (.long q1), .second, .val (.long q2), .second, .val (.long q3), .second, .val (.int ((p0 &&& (2147483647 : Int32)) % (3 : Int32))), .val (.ref aFFDHE2048), .val (.int (1 : Int32)), .val (.ref a159), .unset] [(.int (16 : Int32)), (.ref a159)]))
    refine own_go (fun _ k => XS.lload X163.here hx rfl (hb hby at_74) rfl k) ?_
    show OwnGo p e below _ (T163.setTop (mkF m 76 #[.val (.int p0), .val (.long q0), .second, .val (.long q1), .second, .val (.long q2), .second, .val (.long q3), .second, .val (.int ((p0 &&& (2147483647 : Int32)) % (3 : Int32))), .val (.ref aFFDHE2048), .val (.int (1 : Int32)), .val (.ref a159), .unset] [(.long q2), (.int (16 : Int32)), (.ref a159)]))
    obtain ⟨_, _, ⟨T165, L165, k165, n165⟩, -, X165, ⟨Lc165, hQ165, l165, y165, z165⟩, st165⟩ := Jvm.LawKit.callS X163 hx (y := (⟨"com/example/portcullis/portcullis/ConfirmationEncodePinLaw", "put", "([BIJ)V"⟩ : MethodName)) hown (mvT hZ (hw _ (List.mem_of_getElem? (i := 5) rfl))) (mvT hZ (hw _ (List.mem_of_getElem? (i := 6) rfl))) (mvT hZ (hw _ (List.mem_of_getElem? (i := 7) rfl))) (mvT hZ (hw _ (List.mem_of_getElem? (i := 8) rfl))) (by decide) (backOf (W := 0) (rm_put16 l Z a0 hw [] aFFDHE2048 aCONFIRMATION aFFDHE4096 aFFDHE3072 F0 a159 q2 k159 (((((((q0).toUInt64 >>> ((56 : Int32) &&& 0x3f).toInt64.toUInt64).toInt64)).toInt32)).toInt8.toInt32) (((((((q0).toUInt64 >>> ((48 : Int32) &&& 0x3f).toInt64.toUInt64).toInt64)).toInt32)).toInt8.toInt32) (((((((q0).toUInt64 >>> ((40 : Int32) &&& 0x3f).toInt64.toUInt64).toInt64)).toInt32)).toInt8.toInt32) (((((((q0).toUInt64 >>> ((32 : Int32) &&& 0x3f).toInt64.toUInt64).toInt64)).toInt32)).toInt8.toInt32) (((((((q0).toUInt64 >>> ((24 : Int32) &&& 0x3f).toInt64.toUInt64).toInt64)).toInt32)).toInt8.toInt32) (((((((q0).toUInt64 >>> ((16 : Int32) &&& 0x3f).toInt64.toUInt64).toInt64)).toInt32)).toInt8.toInt32) (((((((q0).toUInt64 >>> ((8 : Int32) &&& 0x3f).toInt64.toUInt64).toInt64)).toInt32)).toInt8.toInt32) ((((q0).toInt32)).toInt8.toInt32) (((((((q1).toUInt64 >>> ((56 : Int32) &&& 0x3f).toInt64.toUInt64).toInt64)).toInt32)).toInt8.toInt32) (((((((q1).toUInt64 >>> ((48 : Int32) &&& 0x3f).toInt64.toUInt64).toInt64)).toInt32)).toInt8.toInt32) (((((((q1).toUInt64 >>> ((40 : Int32) &&& 0x3f).toInt64.toUInt64).toInt64)).toInt32)).toInt8.toInt32) (((((((q1).toUInt64 >>> ((32 : Int32) &&& 0x3f).toInt64.toUInt64).toInt64)).toInt32)).toInt8.toInt32) (((((((q1).toUInt64 >>> ((24 : Int32) &&& 0x3f).toInt64.toUInt64).toInt64)).toInt32)).toInt8.toInt32) (((((((q1).toUInt64 >>> ((16 : Int32) &&& 0x3f).toInt64.toUInt64).toInt64)).toInt32)).toInt8.toInt32) (((((((q1).toUInt64 >>> ((8 : Int32) &&& 0x3f).toInt64.toUInt64).toInt64)).toInt32)).toInt8.toInt32) ((((q1).toInt32)).toInt8.toInt32) (0 : Int32) (0 : Int32) (0 : Int32) (0 : Int32) (0 : Int32) (0 : Int32) (0 : Int32) (0 : Int32) (0 : Int32) (0 : Int32) (0 : Int32) (0 : Int32) (0 : Int32) (0 : Int32) (0 : Int32) (0 : Int32) T163.heap n0 O163 x163_0 ge159) hZ (hw _ (List.mem_of_getElem? (i := 8) rfl)) (hw _ (List.mem_of_getElem? (i := 7) rfl)) (by decide) (by decide)) (g := (mkF m 76 #[.val (.int p0), .val (.long q0), .second, .val (.long q1), .second, .val (.long q2), .second, .val (.long q3), .second, .val (.int ((p0 &&& (2147483647 : Int32)) % (3 : Int32))), .val (.ref aFFDHE2048), .val (.int (1 : Int32)), .val (.ref a159), .unset] [(.long q2), (.int (16 : Int32)), (.ref a159)])) rfl (by rw [hml]; rfl) (argsL := [(.ref a159), (.int (16 : Int32)), (.long q2)]) (rest := []) (lenOf pd__B_I_J__V rfl) rfl (by show 2 * 0 + _ ≤ _; exact Nat.le_of_eq rfl) (hb hby at_76) (fun _ _ => ⟨rfl, e163, (by decide : 1 + 0 ≤ _), (by decide : 32 + 0 ≤ _)⟩)
    dsimp only [Pt.U, Pt.locs, Pt.cells, Pt.slots] at X165 l165 y165 z165 st165 hQ165
    subst l165 y165 z165
    obtain ⟨rfl, Nq165, K165, x165_0⟩ := hQ165
    have N165 := Fr.app N163 Nq165
    have O165 := O163.keep K165 (allS ge159 all0)
    have e165 : T165.heap = T165.heap := rfl
    have z166 : h0.size ≤ T165.heap.size := Nat.le_trans z164 K165.1
    refine own_go st165 ?_
    show OwnGo p e below _ (T165.setTop (mkF m 79 #[.val (.int p0), .val (.long q0), .second, .val (.long q1), .second, .val (.long q2), .second, .val (.long q3), .second, .val (.int ((p0 &&& (2147483647 : Int32)) % (3 : Int32))), .val (.ref aFFDHE2048), .val (.int (1 : Int32)), .val (.ref a159), .unset] []))
    refine own_go (fun _ k => XS.aload X165.here hx rfl (hb hby at_79) rfl rfl k) ?_
    show OwnGo p e below _ (T165.setTop (mkF m 81 #[.val (.int p0), .val (.long q0), .second, .val (.long q1), .second, .val (.long q2), .second, .val (.long q3), .second, .val (.int ((p0 &&& (2147483647 : Int32)) % (3 : Int32))), .val (.ref aFFDHE2048), .val (.int (1 : Int32)), .val (.ref a159), .unset] [(.ref a159)]))
    refine own_go (fun _ k => XS.bipush X165.here hx rfl (hb hby at_81) k) ?_
    show OwnGo p e below _ (T165.setTop (mkF m 83 #[.val (.int p0), .val (.long q0), .second, .val (.long q1), .second, .val (.long q2), .second, .val (.long q3), .second, .val (.int ((p0 &&& (2147483647 : Int32)) % (3 : Int32))), .val (.ref aFFDHE2048), .val (.int (1 : Int32)), .val (.ref a159), .unset] [(.int (24 : Int32)), (.ref a159)]))
    refine own_go (fun _ k => XS.lload X165.here hx rfl (hb hby at_83) rfl k) ?_
    show OwnGo p e below _ (T165.setTop (mkF m 85 #[.val (.int p0), .val (.long q0), .second, .val (.long q1), .second, .val (.long q2), .second, .val (.long q3), .second, .val (.int ((p0 &&& (2147483647 : Int32)) % (3 : Int32))), .val (.ref aFFDHE2048), .val (.int (1 : Int32)), .val (.ref a159), .unset] [(.long q3), (.int (24 : Int32)), (.ref a159)]))
    obtain ⟨_, _, ⟨T167, L167, k167, n167⟩, -, X167, ⟨Lc167, hQ167, l167, y167, z167⟩, st167⟩ := Jvm.LawKit.callS X165 hx (y := (⟨"com/example/portcullis/portcullis/ConfirmationEncodePinLaw", "put", "([BIJ)V"⟩ : MethodName)) hown (mvT hZ (hw _ (List.mem_of_getElem? (i := 5) rfl))) (mvT hZ (hw _ (List.mem_of_getElem? (i := 6) rfl))) (mvT hZ (hw _ (List.mem_of_getElem? (i := 7) rfl))) (mvT hZ (hw _ (List.mem_of_getElem? (i := 8) rfl))) (by decide) (backOf (W := 0) (rm_put24 l Z a0 hw [] aFFDHE2048 aCONFIRMATION aFFDHE4096 aFFDHE3072 F0 a159 q3 k159 (((((((q0).toUInt64 >>> ((56 : Int32) &&& 0x3f).toInt64.toUInt64).toInt64)).toInt32)).toInt8.toInt32) (((((((q0).toUInt64 >>> ((48 : Int32) &&& 0x3f).toInt64.toUInt64).toInt64)).toInt32)).toInt8.toInt32) (((((((q0).toUInt64 >>> ((40 : Int32) &&& 0x3f).toInt64.toUInt64).toInt64)).toInt32)).toInt8.toInt32) (((((((q0).toUInt64 >>> ((32 : Int32) &&& 0x3f).toInt64.toUInt64).toInt64)).toInt32)).toInt8.toInt32) (((((((q0).toUInt64 >>> ((24 : Int32) &&& 0x3f).toInt64.toUInt64).toInt64)).toInt32)).toInt8.toInt32) (((((((q0).toUInt64 >>> ((16 : Int32) &&& 0x3f).toInt64.toUInt64).toInt64)).toInt32)).toInt8.toInt32) (((((((q0).toUInt64 >>> ((8 : Int32) &&& 0x3f).toInt64.toUInt64).toInt64)).toInt32)).toInt8.toInt32) ((((q0).toInt32)).toInt8.toInt32) (((((((q1).toUInt64 >>> ((56 : Int32) &&& 0x3f).toInt64.toUInt64).toInt64)).toInt32)).toInt8.toInt32) (((((((q1).toUInt64 >>> ((48 : Int32) &&& 0x3f).toInt64.toUInt64).toInt64)).toInt32)).toInt8.toInt32) (((((((q1).toUInt64 >>> ((40 : Int32) &&& 0x3f).toInt64.toUInt64).toInt64)).toInt32)).toInt8.toInt32) (((((((q1).toUInt64 >>> ((32 : Int32) &&& 0x3f).toInt64.toUInt64).toInt64)).toInt32)).toInt8.toInt32) (((((((q1).toUInt64 >>> ((24 : Int32) &&& 0x3f).toInt64.toUInt64).toInt64)).toInt32)).toInt8.toInt32) (((((((q1).toUInt64 >>> ((16 : Int32) &&& 0x3f).toInt64.toUInt64).toInt64)).toInt32)).toInt8.toInt32) (((((((q1).toUInt64 >>> ((8 : Int32) &&& 0x3f).toInt64.toUInt64).toInt64)).toInt32)).toInt8.toInt32) ((((q1).toInt32)).toInt8.toInt32) (((((((q2).toUInt64 >>> ((56 : Int32) &&& 0x3f).toInt64.toUInt64).toInt64)).toInt32)).toInt8.toInt32) (((((((q2).toUInt64 >>> ((48 : Int32) &&& 0x3f).toInt64.toUInt64).toInt64)).toInt32)).toInt8.toInt32) (((((((q2).toUInt64 >>> ((40 : Int32) &&& 0x3f).toInt64.toUInt64).toInt64)).toInt32)).toInt8.toInt32) (((((((q2).toUInt64 >>> ((32 : Int32) &&& 0x3f).toInt64.toUInt64).toInt64)).toInt32)).toInt8.toInt32) (((((((q2).toUInt64 >>> ((24 : Int32) &&& 0x3f).toInt64.toUInt64).toInt64)).toInt32)).toInt8.toInt32) (((((((q2).toUInt64 >>> ((16 : Int32) &&& 0x3f).toInt64.toUInt64).toInt64)).toInt32)).toInt8.toInt32) (((((((q2).toUInt64 >>> ((8 : Int32) &&& 0x3f).toInt64.toUInt64).toInt64)).toInt32)).toInt8.toInt32) ((((q2).toInt32)).toInt8.toInt32) (0 : Int32) (0 : Int32) (0 : Int32) (0 : Int32) (0 : Int32) (0 : Int32) (0 : Int32) (0 : Int32) T165.heap n0 O165 x165_0 ge159) hZ (hw _ (List.mem_of_getElem? (i := 8) rfl)) (hw _ (List.mem_of_getElem? (i := 7) rfl)) (by decide) (by decide)) (g := (mkF m 85 #[.val (.int p0), .val (.long q0), .second, .val (.long q1), .second, .val (.long q2), .second, .val (.long q3), .second, .val (.int ((p0 &&& (2147483647 : Int32)) % (3 : Int32))), .val (.ref aFFDHE2048), .val (.int (1 : Int32)), .val (.ref a159), .unset] [(.long q3), (.int (24 : Int32)), (.ref a159)])) rfl (by rw [hml]; rfl) (argsL := [(.ref a159), (.int (24 : Int32)), (.long q3)]) (rest := []) (lenOf pd__B_I_J__V rfl) rfl (by show 2 * 0 + _ ≤ _; exact Nat.le_of_eq rfl) (hb hby at_85) (fun _ _ => ⟨rfl, e165, (by decide : 1 + 0 ≤ _), (by decide : 32 + 0 ≤ _)⟩)
    dsimp only [Pt.U, Pt.locs, Pt.cells, Pt.slots] at X167 l167 y167 z167 st167 hQ167
    subst l167 y167 z167
    obtain ⟨rfl, Nq167, K167, x167_0⟩ := hQ167
    have N167 := Fr.app N165 Nq167
    have O167 := O165.keep K167 (allS ge159 all0)
    have e167 : T167.heap = T167.heap := rfl
    have z168 : h0.size ≤ T167.heap.size := Nat.le_trans z166 K167.1
    refine own_go st167 ?_
    show OwnGo p e below _ (T167.setTop (mkF m 88 #[.val (.int p0), .val (.long q0), .second, .val (.long q1), .second, .val (.long q2), .second, .val (.long q3), .second, .val (.int ((p0 &&& (2147483647 : Int32)) % (3 : Int32))), .val (.ref aFFDHE2048), .val (.int (1 : Int32)), .val (.ref a159), .unset] []))
    refine own_go (fun _ k => XS.aload X167.here hx rfl (hb hby at_88) rfl rfl k) ?_
    show OwnGo p e below _ (T167.setTop (mkF m 90 #[.val (.int p0), .val (.long q0), .second, .val (.long q1), .second, .val (.long q2), .second, .val (.long q3), .second, .val (.int ((p0 &&& (2147483647 : Int32)) % (3 : Int32))), .val (.ref aFFDHE2048), .val (.int (1 : Int32)), .val (.ref a159), .unset] [(.ref aFFDHE2048)]))
    refine own_go (fun _ k => XS.aload X167.here hx rfl (hb hby at_90) rfl rfl k) ?_
    show OwnGo p e below _ (T167.setTop (mkF m 92 #[.val (.int p0), .val (.long q0), .second, .val (.long q1), .second, .val (.long q2), .second, .val (.long q3), .second, .val (.int ((p0 &&& (2147483647 : Int32)) % (3 : Int32))), .val (.ref aFFDHE2048), .val (.int (1 : Int32)), .val (.ref a159), .unset] [(.ref a159), (.ref aFFDHE2048)]))
    obtain ⟨_, _, ⟨T169, L169, k169, n169⟩, -, X169, ⟨Lc169, hQ169, l169, y169, z169⟩, st169⟩ := Jvm.LawKit.callS X167 hx (y := (⟨"com/example/portcullis/portcullis/Confirmation", "encode", "(Lcom/example/portcullis/portcullis/Group;[B)[B"⟩ : MethodName)) hown (mvT hZ (hw _ (List.mem_of_getElem? (i := 9) rfl))) (mvT hZ (hw _ (List.mem_of_getElem? (i := 10) rfl))) (mvT hZ (hw _ (List.mem_of_getElem? (i := 11) rfl))) (mvT hZ (hw _ (List.mem_of_getElem? (i := 12) rfl))) (by decide) (backOf (W := 0) (rm_encaFFDHE2048 l Z a0 hw [] aFFDHE2048 aCONFIRMATION aFFDHE4096 aFFDHE3072 F0 a159 k159 (((((((q0).toUInt64 >>> ((56 : Int32) &&& 0x3f).toInt64.toUInt64).toInt64)).toInt32)).toInt8.toInt32) (((((((q0).toUInt64 >>> ((48 : Int32) &&& 0x3f).toInt64.toUInt64).toInt64)).toInt32)).toInt8.toInt32) (((((((q0).toUInt64 >>> ((40 : Int32) &&& 0x3f).toInt64.toUInt64).toInt64)).toInt32)).toInt8.toInt32) (((((((q0).toUInt64 >>> ((32 : Int32) &&& 0x3f).toInt64.toUInt64).toInt64)).toInt32)).toInt8.toInt32) (((((((q0).toUInt64 >>> ((24 : Int32) &&& 0x3f).toInt64.toUInt64).toInt64)).toInt32)).toInt8.toInt32) (((((((q0).toUInt64 >>> ((16 : Int32) &&& 0x3f).toInt64.toUInt64).toInt64)).toInt32)).toInt8.toInt32) (((((((q0).toUInt64 >>> ((8 : Int32) &&& 0x3f).toInt64.toUInt64).toInt64)).toInt32)).toInt8.toInt32) ((((q0).toInt32)).toInt8.toInt32) (((((((q1).toUInt64 >>> ((56 : Int32) &&& 0x3f).toInt64.toUInt64).toInt64)).toInt32)).toInt8.toInt32) (((((((q1).toUInt64 >>> ((48 : Int32) &&& 0x3f).toInt64.toUInt64).toInt64)).toInt32)).toInt8.toInt32) (((((((q1).toUInt64 >>> ((40 : Int32) &&& 0x3f).toInt64.toUInt64).toInt64)).toInt32)).toInt8.toInt32) (((((((q1).toUInt64 >>> ((32 : Int32) &&& 0x3f).toInt64.toUInt64).toInt64)).toInt32)).toInt8.toInt32) (((((((q1).toUInt64 >>> ((24 : Int32) &&& 0x3f).toInt64.toUInt64).toInt64)).toInt32)).toInt8.toInt32) (((((((q1).toUInt64 >>> ((16 : Int32) &&& 0x3f).toInt64.toUInt64).toInt64)).toInt32)).toInt8.toInt32) (((((((q1).toUInt64 >>> ((8 : Int32) &&& 0x3f).toInt64.toUInt64).toInt64)).toInt32)).toInt8.toInt32) ((((q1).toInt32)).toInt8.toInt32) (((((((q2).toUInt64 >>> ((56 : Int32) &&& 0x3f).toInt64.toUInt64).toInt64)).toInt32)).toInt8.toInt32) (((((((q2).toUInt64 >>> ((48 : Int32) &&& 0x3f).toInt64.toUInt64).toInt64)).toInt32)).toInt8.toInt32) (((((((q2).toUInt64 >>> ((40 : Int32) &&& 0x3f).toInt64.toUInt64).toInt64)).toInt32)).toInt8.toInt32) (((((((q2).toUInt64 >>> ((32 : Int32) &&& 0x3f).toInt64.toUInt64).toInt64)).toInt32)).toInt8.toInt32) (((((((q2).toUInt64 >>> ((24 : Int32) &&& 0x3f).toInt64.toUInt64).toInt64)).toInt32)).toInt8.toInt32) (((((((q2).toUInt64 >>> ((16 : Int32) &&& 0x3f).toInt64.toUInt64).toInt64)).toInt32)).toInt8.toInt32) (((((((q2).toUInt64 >>> ((8 : Int32) &&& 0x3f).toInt64.toUInt64).toInt64)).toInt32)).toInt8.toInt32) ((((q2).toInt32)).toInt8.toInt32) (((((((q3).toUInt64 >>> ((56 : Int32) &&& 0x3f).toInt64.toUInt64).toInt64)).toInt32)).toInt8.toInt32) (((((((q3).toUInt64 >>> ((48 : Int32) &&& 0x3f).toInt64.toUInt64).toInt64)).toInt32)).toInt8.toInt32) (((((((q3).toUInt64 >>> ((40 : Int32) &&& 0x3f).toInt64.toUInt64).toInt64)).toInt32)).toInt8.toInt32) (((((((q3).toUInt64 >>> ((32 : Int32) &&& 0x3f).toInt64.toUInt64).toInt64)).toInt32)).toInt8.toInt32) (((((((q3).toUInt64 >>> ((24 : Int32) &&& 0x3f).toInt64.toUInt64).toInt64)).toInt32)).toInt8.toInt32) (((((((q3).toUInt64 >>> ((16 : Int32) &&& 0x3f).toInt64.toUInt64).toInt64)).toInt32)).toInt8.toInt32) (((((((q3).toUInt64 >>> ((8 : Int32) &&& 0x3f).toInt64.toUInt64).toInt64)).toInt32)).toInt8.toInt32) ((((q3).toInt32)).toInt8.toInt32) T167.heap n0 O167 x167_0) hZ (hw _ (List.mem_of_getElem? (i := 12) rfl)) (hw _ (List.mem_of_getElem? (i := 11) rfl)) (by decide) (by decide)) (g := (mkF m 92 #[.val (.int p0), .val (.long q0), .second, .val (.long q1), .second, .val (.long q2), .second, .val (.long q3), .second, .val (.int ((p0 &&& (2147483647 : Int32)) % (3 : Int32))), .val (.ref aFFDHE2048), .val (.int (1 : Int32)), .val (.ref a159), .unset] [(.ref a159), (.ref aFFDHE2048)])) rfl (by rw [hml]; rfl) (argsL := [(.ref aFFDHE2048), (.ref a159)]) (rest := []) (lenOf pd_Lcom_example_portcullis_portcullis_Group___B___B rfl) rfl (by show 2 * 0 + _ ≤ _; exact Nat.le_of_eq rfl) (hb hby at_92) (fun _ _ => ⟨rfl, e167, (by decide : 1 + 1 ≤ _), (by decide : 32 + 35 ≤ _)⟩)
    dsimp only [Pt.U, Pt.locs, Pt.cells, Pt.slots] at X169 l169 y169 z169 st169 hQ169
    subst l169 y169 z169
    obtain ⟨r9_169, k9_169, rfl, Nq169, K169, x169_0, x169_1⟩ := hQ169
    have N169 := Fr.app N167 Nq169
    have O169 := O167.keep K169 all0
    have e169 : T169.heap = T169.heap := rfl
    have z170 : h0.size ≤ T169.heap.size := Nat.le_trans z168 K169.1
    have gex169_1 : n0 ≤ r9_169 := Nat.le_trans (own_sz O167) x169_1
    have ghx169_1 : h0.size ≤ r9_169 := Nat.le_trans z168 x169_1
    have ne171 : a159 ≠ r9_169 := own_newlt x167_0.lt x169_1
    refine own_go st169 ?_
    show OwnGo p e below _ (T169.setTop (mkF m 95 #[.val (.int p0), .val (.long q0), .second, .val (.long q1), .second, .val (.long q2), .second, .val (.long q3), .second, .val (.int ((p0 &&& (2147483647 : Int32)) % (3 : Int32))), .val (.ref aFFDHE2048), .val (.int (1 : Int32)), .val (.ref a159), .unset] [(.ref r9_169)]))
    refine own_go (fun _ k => XS.astore X169.here hx rfl (hb hby at_95) rfl rfl (l' := #[.val (.int p0), .val (.long q0), .second, .val (.long q1), .second, .val (.long q2), .second, .val (.long q3), .second, .val (.int ((p0 &&& (2147483647 : Int32)) % (3 : Int32))), .val (.ref aFFDHE2048), .val (.int (1 : Int32)), .val (.ref a159), .val (.ref r9_169)]) rfl k) ?_
    show OwnGo p e below _ (T169.setTop (mkF m 97 #[.val (.int p0), .val (.long q0), .second, .val (.long q1), .second, .val (.long q2), .second, .val (.long q3), .second, .val (.int ((p0 &&& (2147483647 : Int32)) % (3 : Int32))), .val (.ref aFFDHE2048), .val (.int (1 : Int32)), .val (.ref a159), .val (.ref r9_169)] []))
    refine own_go (fun _ k => XS.aload X169.here hx rfl (hb hby at_97) rfl rfl k) ?_
    show OwnGo p e below _ (T169.setTop (mkF m 99 #[.val (.int p0), .val (.long q0), .second, .val (.long q1), .second, .val (.long q2), .second, .val (.long q3), .second, .val (.int ((p0 &&& (2147483647 : Int32)) % (3 : Int32))), .val (.ref aFFDHE2048), .val (.int (1 : Int32)), .val (.ref a159), .val (.ref r9_169)] [(.ref r9_169)]))
    refine own_go (fun _ k => XS.ifnullNo X169.here hx rfl (hb hby at_99) rfl k) ?_
    show OwnGo p e below _ (T169.setTop (mkF m 102 #[.val (.int p0), .val (.long q0), .second, .val (.long q1), .second, .val (.long q2), .second, .val (.long q3), .second, .val (.int ((p0 &&& (2147483647 : Int32)) % (3 : Int32))), .val (.ref aFFDHE2048), .val (.int (1 : Int32)), .val (.ref a159), .val (.ref r9_169)] []))
    refine own_go (fun _ k => XS.aload X169.here hx rfl (hb hby at_102) rfl rfl k) ?_
    show OwnGo p e below _ (T169.setTop (mkF m 104 #[.val (.int p0), .val (.long q0), .second, .val (.long q1), .second, .val (.long q2), .second, .val (.long q3), .second, .val (.int ((p0 &&& (2147483647 : Int32)) % (3 : Int32))), .val (.ref aFFDHE2048), .val (.int (1 : Int32)), .val (.ref a159), .val (.ref r9_169)] [(.ref r9_169)]))
    obtain ⟨c172, Ar172, q172, S172, M172, H172, G172⟩ := (id x169_0)
    refine own_go (fun _ k => X169.arraylength hx (cell := c172) (by rw [e169]; exact Ar172.1) (State.isArrayOf_alike hZ.alike Ar172.2.1) (g := (mkF m 104 #[.val (.int p0), .val (.long q0), .second, .val (.long q1), .second, .val (.long q2), .second, .val (.long q3), .second, .val (.int ((p0 &&& (2147483647 : Int32)) % (3 : Int32))), .val (.ref aFFDHE2048), .val (.int (1 : Int32)), .val (.ref a159), .val (.ref r9_169)] [(.ref r9_169)])) rfl (rest := []) rfl (hb hby at_104) _ k) ?_
    rw [len_of S172 M172]
    show OwnGo p e below _ (T169.setTop (mkF m 105 #[.val (.int p0), .val (.long q0), .second, .val (.long q1), .second, .val (.long q2), .second, .val (.long q3), .second, .val (.int ((p0 &&& (2147483647 : Int32)) % (3 : Int32))), .val (.ref aFFDHE2048), .val (.int (1 : Int32)), .val (.ref a159), .val (.ref r9_169)] [(.int (35 : Int32))]))
    refine own_go (fun _ k => XS.bipush X169.here hx rfl (hb hby at_105) k) ?_
    show OwnGo p e below _ (T169.setTop (mkF m 107 #[.val (.int p0), .val (.long q0), .second, .val (.long q1), .second, .val (.long q2), .second, .val (.long q3), .second, .val (.int ((p0 &&& (2147483647 : Int32)) % (3 : Int32))), .val (.ref aFFDHE2048), .val (.int (1 : Int32)), .val (.ref a159), .val (.ref r9_169)] [(.int (35 : Int32)), (.int (35 : Int32))]))
    refine own_go (fun _ k => XS.icmpYes X169.here hx rfl (pc0 := 107) (pc' := 112) rfl (hb hby at_107) rfl (by decide) (by decide) (by decide) k) ?_
    show OwnGo p e below _ (T169.setTop (mkF m 112 #[.val (.int p0), .val (.long q0), .second, .val (.long q1), .second, .val (.long q2), .second, .val (.long q3), .second, .val (.int ((p0 &&& (2147483647 : Int32)) % (3 : Int32))), .val (.ref aFFDHE2048), .val (.int (1 : Int32)), .val (.ref a159), .val (.ref r9_169)] []))
    refine own_go (fun _ k => XS.aload X169.here hx rfl (hb hby at_112) rfl rfl k) ?_
    show OwnGo p e below _ (T169.setTop (mkF m 114 #[.val (.int p0), .val (.long q0), .second, .val (.long q1), .second, .val (.long q2), .second, .val (.long q3), .second, .val (.int ((p0 &&& (2147483647 : Int32)) % (3 : Int32))), .val (.ref aFFDHE2048), .val (.int (1 : Int32)), .val (.ref a159), .val (.ref r9_169)] [(.ref r9_169)]))
    refine own_go (fun _ k => XS.iconst X169.here hx rfl (hb hby at_114) k) ?_
    show OwnGo p e below _ (T169.setTop (mkF m 115 #[.val (.int p0), .val (.long q0), .second, .val (.long q1), .second, .val (.long q2), .second, .val (.long q3), .second, .val (.int ((p0 &&& (2147483647 : Int32)) % (3 : Int32))), .val (.ref aFFDHE2048), .val (.int (1 : Int32)), .val (.ref a159), .val (.ref r9_169)] [(.int (0 : Int32)), (.ref r9_169)]))
    obtain ⟨c173, Ar173, q173, S173, M173, H173, G173⟩ := (id x169_0)
    refine own_go (fun _ k => X169.baloadBytes hx (j := (0 : Int32)) (v := (.int (1 : Int32))) (by rw [e169]; exact Ar173.1) (State.isArrayOf_alike hZ.alike Ar173.2.1) Ar173.2.2 (inb_of S173 ⟨by decide, by decide⟩) (Has.at H173 (inb_of S173 ⟨by decide, by decide⟩) rfl) (g := (mkF m 115 #[.val (.int p0), .val (.long q0), .second, .val (.long q1), .second, .val (.long q2), .second, .val (.long q3), .second, .val (.int ((p0 &&& (2147483647 : Int32)) % (3 : Int32))), .val (.ref aFFDHE2048), .val (.int (1 : Int32)), .val (.ref a159), .val (.ref r9_169)] [(.int (0 : Int32)), (.ref r9_169)])) rfl rfl (hb hby at_115) _ k) ?_
    show OwnGo p e below _ (T169.setTop (mkF m 116 #[.val (.int p0), .val (.long q0), .second, .val (.long q1), .second, .val (.long q2), .second, .val (.long q3), .second, .val (.int ((p0 &&& (2147483647 : Int32)) % (3 : Int32))), .val (.ref aFFDHE2048), .val (.int (1 : Int32)), .val (.ref a159), .val (.ref r9_169)] [(.int (1 : Int32))]))
    refine own_go (fun _ k => XS.iconst X169.here hx rfl (hb hby at_116) k) ?_
    show OwnGo p e below _ (T169.setTop (mkF m 117 #[.val (.int p0), .val (.long q0), .second, .val (.long q1), .second, .val (.long q2), .second, .val (.long q3), .second, .val (.int ((p0 &&& (2147483647 : Int32)) % (3 : Int32))), .val (.ref aFFDHE2048), .val (.int (1 : Int32)), .val (.ref a159), .val (.ref r9_169)] [(.int (1 : Int32)), (.int (1 : Int32))]))
    refine own_go (fun _ k => XS.icmpNo X169.here hx rfl (hb hby at_117) rfl (by decide) k) ?_
    show OwnGo p e below _ (T169.setTop (mkF m 120 #[.val (.int p0), .val (.long q0), .second, .val (.long q1), .second, .val (.long q2), .second, .val (.long q3), .second, .val (.int ((p0 &&& (2147483647 : Int32)) % (3 : Int32))), .val (.ref aFFDHE2048), .val (.int (1 : Int32)), .val (.ref a159), .val (.ref r9_169)] []))
    refine own_go (fun _ k => XS.aload X169.here hx rfl (hb hby at_120) rfl rfl k) ?_
    show OwnGo p e below _ (T169.setTop (mkF m 122 #[.val (.int p0), .val (.long q0), .second, .val (.long q1), .second, .val (.long q2), .second, .val (.long q3), .second, .val (.int ((p0 &&& (2147483647 : Int32)) % (3 : Int32))), .val (.ref aFFDHE2048), .val (.int (1 : Int32)), .val (.ref a159), .val (.ref r9_169)] [(.ref r9_169)]))
    refine own_go (fun _ k => XS.iconst X169.here hx rfl (hb hby at_122) k) ?_
    show OwnGo p e below _ (T169.setTop (mkF m 123 #[.val (.int p0), .val (.long q0), .second, .val (.long q1), .second, .val (.long q2), .second, .val (.long q3), .second, .val (.int ((p0 &&& (2147483647 : Int32)) % (3 : Int32))), .val (.ref aFFDHE2048), .val (.int (1 : Int32)), .val (.ref a159), .val (.ref r9_169)] [(.int (1 : Int32)), (.ref r9_169)]))
    obtain ⟨c174, Ar174, q174, S174, M174, H174, G174⟩ := (id x169_0)
    refine own_go (fun _ k => X169.baloadBytes hx (j := (1 : Int32)) (v := (.int (2 : Int32))) (by rw [e169]; exact Ar174.1) (State.isArrayOf_alike hZ.alike Ar174.2.1) Ar174.2.2 (inb_of S174 ⟨by decide, by decide⟩) (Has.at H174 (inb_of S174 ⟨by decide, by decide⟩) rfl) (g := (mkF m 123 #[.val (.int p0), .val (.long q0), .second, .val (.long q1), .second, .val (.long q2), .second, .val (.long q3), .second, .val (.int ((p0 &&& (2147483647 : Int32)) % (3 : Int32))), .val (.ref aFFDHE2048), .val (.int (1 : Int32)), .val (.ref a159), .val (.ref r9_169)] [(.int (1 : Int32)), (.ref r9_169)])) rfl rfl (hb hby at_123) _ k) ?_
    show OwnGo p e below _ (T169.setTop (mkF m 124 #[.val (.int p0), .val (.long q0), .second, .val (.long q1), .second, .val (.long q2), .second, .val (.long q3), .second, .val (.int ((p0 &&& (2147483647 : Int32)) % (3 : Int32))), .val (.ref aFFDHE2048), .val (.int (1 : Int32)), .val (.ref a159), .val (.ref r9_169)] [(.int (2 : Int32))]))
    refine own_go (fun _ k => XS.iconst X169.here hx rfl (hb hby at_124) k) ?_
    show OwnGo p e below _ (T169.setTop (mkF m 125 #[.val (.int p0), .val (.long q0), .second, .val (.long q1), .second, .val (.long q2), .second, .val (.long q3), .second, .val (.int ((p0 &&& (2147483647 : Int32)) % (3 : Int32))), .val (.ref aFFDHE2048), .val (.int (1 : Int32)), .val (.ref a159), .val (.ref r9_169)] [(.int (2 : Int32)), (.int (2 : Int32))]))
    refine own_go (fun _ k => XS.icmpNo X169.here hx rfl (hb hby at_125) rfl (by decide) k) ?_
    show OwnGo p e below _ (T169.setTop (mkF m 128 #[.val (.int p0), .val (.long q0), .second, .val (.long q1), .second, .val (.long q2), .second, .val (.long q3), .second, .val (.int ((p0 &&& (2147483647 : Int32)) % (3 : Int32))), .val (.ref aFFDHE2048), .val (.int (1 : Int32)), .val (.ref a159), .val (.ref r9_169)] []))
    refine own_go (fun _ k => XS.aload X169.here hx rfl (hb hby at_128) rfl rfl k) ?_
    show OwnGo p e below _ (T169.setTop (mkF m 130 #[.val (.int p0), .val (.long q0), .second, .val (.long q1), .second, .val (.long q2), .second, .val (.long q3), .second, .val (.int ((p0 &&& (2147483647 : Int32)) % (3 : Int32))), .val (.ref aFFDHE2048), .val (.int (1 : Int32)), .val (.ref a159), .val (.ref r9_169)] [(.ref r9_169)]))
    refine own_go (fun _ k => XS.iconst X169.here hx rfl (hb hby at_130) k) ?_
    show OwnGo p e below _ (T169.setTop (mkF m 131 #[.val (.int p0), .val (.long q0), .second, .val (.long q1), .second, .val (.long q2), .second, .val (.long q3), .second, .val (.int ((p0 &&& (2147483647 : Int32)) % (3 : Int32))), .val (.ref aFFDHE2048), .val (.int (1 : Int32)), .val (.ref a159), .val (.ref r9_169)] [(.int (2 : Int32)), (.ref r9_169)]))
    obtain ⟨c175, Ar175, q175, S175, M175, H175, G175⟩ := (id x169_0)
    refine own_go (fun _ k => X169.baloadBytes hx (j := (2 : Int32)) (v := (.int (1 : Int32))) (by rw [e169]; exact Ar175.1) (State.isArrayOf_alike hZ.alike Ar175.2.1) Ar175.2.2 (inb_of S175 ⟨by decide, by decide⟩) (Has.at H175 (inb_of S175 ⟨by decide, by decide⟩) rfl) (g := (mkF m 131 #[.val (.int p0), .val (.long q0), .second, .val (.long q1), .second, .val (.long q2), .second, .val (.long q3), .second, .val (.int ((p0 &&& (2147483647 : Int32)) % (3 : Int32))), .val (.ref aFFDHE2048), .val (.int (1 : Int32)), .val (.ref a159), .val (.ref r9_169)] [(.int (2 : Int32)), (.ref r9_169)])) rfl rfl (hb hby at_131) _ k) ?_
    show OwnGo p e below _ (T169.setTop (mkF m 132 #[.val (.int p0), .val (.long q0), .second, .val (.long q1), .second, .val (.long q2), .second, .val (.long q3), .second, .val (.int ((p0 &&& (2147483647 : Int32)) % (3 : Int32))), .val (.ref aFFDHE2048), .val (.int (1 : Int32)), .val (.ref a159), .val (.ref r9_169)] [(.int (1 : Int32))]))
    refine own_go (fun _ k => XS.iload X169.here hx rfl (hb hby at_132) rfl k) ?_
    show OwnGo p e below _ (T169.setTop (mkF m 134 #[.val (.int p0), .val (.long q0), .second, .val (.long q1), .second, .val (.long q2), .second, .val (.long q3), .second, .val (.int ((p0 &&& (2147483647 : Int32)) % (3 : Int32))), .val (.ref aFFDHE2048), .val (.int (1 : Int32)), .val (.ref a159), .val (.ref r9_169)] [(.int (1 : Int32)), (.int (1 : Int32))]))
    refine own_go (fun _ k => XS.icmpYes X169.here hx rfl (pc0 := 134) (pc' := 139) rfl (hb hby at_134) rfl (by decide) (by decide) (by decide) k) ?_
    show OwnGo p e below _ (T169.setTop (mkF m 139 #[.val (.int p0), .val (.long q0), .second, .val (.long q1), .second, .val (.long q2), .second, .val (.long q3), .second, .val (.int ((p0 &&& (2147483647 : Int32)) % (3 : Int32))), .val (.ref aFFDHE2048), .val (.int (1 : Int32)), .val (.ref a159), .val (.ref r9_169)] []))
    refine own_go (fun _ k => XS.aload X169.here hx rfl (hb hby at_139) rfl rfl k) ?_
    show OwnGo p e below _ (T169.setTop (mkF m 141 #[.val (.int p0), .val (.long q0), .second, .val (.long q1), .second, .val (.long q2), .second, .val (.long q3), .second, .val (.int ((p0 &&& (2147483647 : Int32)) % (3 : Int32))), .val (.ref aFFDHE2048), .val (.int (1 : Int32)), .val (.ref a159), .val (.ref r9_169)] [(.ref r9_169)]))
    refine own_go (fun _ k => XS.iconst X169.here hx rfl (hb hby at_141) k) ?_
    show OwnGo p e below _ (T169.setTop (mkF m 142 #[.val (.int p0), .val (.long q0), .second, .val (.long q1), .second, .val (.long q2), .second, .val (.long q3), .second, .val (.int ((p0 &&& (2147483647 : Int32)) % (3 : Int32))), .val (.ref aFFDHE2048), .val (.int (1 : Int32)), .val (.ref a159), .val (.ref r9_169)] [(.int (3 : Int32)), (.ref r9_169)]))
    refine own_go (fun _ k => XS.lloadN X169.here hx rfl (hb hby at_142) rfl k) ?_
    show OwnGo p e below _ (T169.setTop (mkF m 143 #[.val (.int p0), .val (.long q0), .second, .val (.long q1), .second, .val (.long q2), .second, .val (.long q3), .second, .val (.int ((p0 &&& (2147483647 : Int32)) % (3 : Int32))), .val (.ref aFFDHE2048), .val (.int (1 : Int32)), .val (.ref a159), .val (.ref r9_169)] [(.long q0), (.int (3 : Int32)), (.ref r9_169)]))
    obtain ⟨_, _, ⟨T176, L176, k176, n176⟩, -, X176, ⟨Lc176, hQ176, l176, y176, z176⟩, st176⟩ := Jvm.LawKit.callS X169 hx (y := (⟨"com/example/portcullis/portcullis/ConfirmationEncodePinLaw", "same", "([BIJ)Z"⟩ : MethodName)) hown (mvT hZ (hw _ (List.mem_of_getElem? (i := 34) rfl))) (mvT hZ (hw _ (List.mem_of_getElem? (i := 35) rfl))) (mvT hZ (hw _ (List.mem_of_getElem? (i := 7) rfl))) (mvT hZ (hw _ (List.mem_of_getElem? (i := 36) rfl))) (by decide) (backOf (W := 0) (rm_same3 l Z a0 hw [] aFFDHE2048 aCONFIRMATION aFFDHE4096 aFFDHE3072 F0 r9_169 q0 k9_169 (1 : Int32) (2 : Int32) (1 : Int32) (((((((q1).toUInt64 >>> ((56 : Int32) &&& 0x3f).toInt64.toUInt64).toInt64)).toInt32)).toInt8.toInt32) (((((((q1).toUInt64 >>> ((48 : Int32) &&& 0x3f).toInt64.toUInt64).toInt64)).toInt32)).toInt8.toInt32) (((((((q1).toUInt64 >>> ((40 : Int32) &&& 0x3f).toInt64.toUInt64).toInt64)).toInt32)).toInt8.toInt32) (((((((q1).toUInt64 >>> ((32 : Int32) &&& 0x3f).toInt64.toUInt64).toInt64)).toInt32)).toInt8.toInt32) (((((((q1).toUInt64 >>> ((24 : Int32) &&& 0x3f).toInt64.toUInt64).toInt64)).toInt32)).toInt8.toInt32) (((((((q1).toUInt64 >>> ((16 : Int32) &&& 0x3f).toInt64.toUInt64).toInt64)).toInt32)).toInt8.toInt32) (((((((q1).toUInt64 >>> ((8 : Int32) &&& 0x3f).toInt64.toUInt64).toInt64)).toInt32)).toInt8.toInt32) ((((q1).toInt32)).toInt8.toInt32) (((((((q2).toUInt64 >>> ((56 : Int32) &&& 0x3f).toInt64.toUInt64).toInt64)).toInt32)).toInt8.toInt32) (((((((q2).toUInt64 >>> ((48 : Int32) &&& 0x3f).toInt64.toUInt64).toInt64)).toInt32)).toInt8.toInt32) (((((((q2).toUInt64 >>> ((40 : Int32) &&& 0x3f).toInt64.toUInt64).toInt64)).toInt32)).toInt8.toInt32) (((((((q2).toUInt64 >>> ((32 : Int32) &&& 0x3f).toInt64.toUInt64).toInt64)).toInt32)).toInt8.toInt32) (((((((q2).toUInt64 >>> ((24 : Int32) &&& 0x3f).toInt64.toUInt64).toInt64)).toInt32)).toInt8.toInt32) (((((((q2).toUInt64 >>> ((16 : Int32) &&& 0x3f).toInt64.toUInt64).toInt64)).toInt32)).toInt8.toInt32) (((((((q2).toUInt64 >>> ((8 : Int32) &&& 0x3f).toInt64.toUInt64).toInt64)).toInt32)).toInt8.toInt32) ((((q2).toInt32)).toInt8.toInt32) (((((((q3).toUInt64 >>> ((56 : Int32) &&& 0x3f).toInt64.toUInt64).toInt64)).toInt32)).toInt8.toInt32) (((((((q3).toUInt64 >>> ((48 : Int32) &&& 0x3f).toInt64.toUInt64).toInt64)).toInt32)).toInt8.toInt32) (((((((q3).toUInt64 >>> ((40 : Int32) &&& 0x3f).toInt64.toUInt64).toInt64)).toInt32)).toInt8.toInt32) (((((((q3).toUInt64 >>> ((32 : Int32) &&& 0x3f).toInt64.toUInt64).toInt64)).toInt32)).toInt8.toInt32) (((((((q3).toUInt64 >>> ((24 : Int32) &&& 0x3f).toInt64.toUInt64).toInt64)).toInt32)).toInt8.toInt32) (((((((q3).toUInt64 >>> ((16 : Int32) &&& 0x3f).toInt64.toUInt64).toInt64)).toInt32)).toInt8.toInt32) (((((((q3).toUInt64 >>> ((8 : Int32) &&& 0x3f).toInt64.toUInt64).toInt64)).toInt32)).toInt8.toInt32) ((((q3).toInt32)).toInt8.toInt32) T169.heap n0 O169 x169_0) hZ (hw _ (List.mem_of_getElem? (i := 36) rfl)) (hw _ (List.mem_of_getElem? (i := 7) rfl)) (by decide) (by decide)) (g := (mkF m 143 #[.val (.int p0), .val (.long q0), .second, .val (.long q1), .second, .val (.long q2), .second, .val (.long q3), .second, .val (.int ((p0 &&& (2147483647 : Int32)) % (3 : Int32))), .val (.ref aFFDHE2048), .val (.int (1 : Int32)), .val (.ref a159), .val (.ref r9_169)] [(.long q0), (.int (3 : Int32)), (.ref r9_169)])) rfl (by rw [hml]; rfl) (argsL := [(.ref r9_169), (.int (3 : Int32)), (.long q0)]) (rest := []) (lenOf pd__B_I_J__Z rfl) rfl (by show 2 * 0 + _ ≤ _; exact Nat.le_of_eq rfl) (hb hby at_143) (fun _ _ => ⟨rfl, e169, (by decide : 2 + 0 ≤ _), (by decide : 67 + 0 ≤ _)⟩)
    dsimp only [Pt.U, Pt.locs, Pt.cells, Pt.slots] at X176 l176 y176 z176 st176 hQ176
    subst l176 y176 z176
    obtain ⟨rfl, Nq176, K176⟩ := hQ176
    have N176 := Fr.app N169 Nq176
    refine own_go st176 ?_
    show OwnGo p e below _ (T176.setTop (mkF m 146 #[.val (.int p0), .val (.long q0), .second, .val (.long q1), .second, .val (.long q2), .second, .val (.long q3), .second, .val (.int ((p0 &&& (2147483647 : Int32)) % (3 : Int32))), .val (.ref aFFDHE2048), .val (.int (1 : Int32)), .val (.ref a159), .val (.ref r9_169)] [(.int (1 : Int32))]))
    refine own_go (fun _ k => XS.ifNo X176.here hx rfl (hb hby at_146) rfl (by decide) k) ?_
    show OwnGo p e below _ (T176.setTop (mkF m 149 #[.val (.int p0), .val (.long q0), .second, .val (.long q1), .second, .val (.long q2), .second, .val (.long q3), .second, .val (.int ((p0 &&& (2147483647 : Int32)) % (3 : Int32))), .val (.ref aFFDHE2048), .val (.int (1 : Int32)), .val (.ref a159), .val (.ref r9_169)] []))
    refine own_go (fun _ k => XS.aload X176.here hx rfl (hb hby at_149) rfl rfl k) ?_
    show OwnGo p e below _ (T176.setTop (mkF m 151 #[.val (.int p0), .val (.long q0), .second, .val (.long q1), .second, .val (.long q2), .second, .val (.long q3), .second, .val (.int ((p0 &&& (2147483647 : Int32)) % (3 : Int32))), .val (.ref aFFDHE2048), .val (.int (1 : Int32)), .val (.ref a159), .val (.ref r9_169)] [(.ref r9_169)]))
    refine own_go (fun _ k => XS.bipush X176.here hx rfl (hb hby at_151) k) ?_
    show OwnGo p e below _ (T176.setTop (mkF m 153 #[.val (.int p0), .val (.long q0), .second, .val (.long q1), .second, .val (.long q2), .second, .val (.long q3), .second, .val (.int ((p0 &&& (2147483647 : Int32)) % (3 : Int32))), .val (.ref aFFDHE2048), .val (.int (1 : Int32)), .val (.ref a159), .val (.ref r9_169)] [(.int (11 : Int32)), (.ref r9_169)]))
    refine own_go (fun _ k => XS.lloadN X176.here hx rfl (hb hby at_153) rfl k) ?_
    show OwnGo p e below _ (T176.setTop (mkF m 154 #[.val (.int p0), .val (.long q0), .second, .val (.long q1), .second, .val (.long q2), .second, .val (.long q3), .second, .val (.int ((p0 &&& (2147483647 : Int32)) % (3 : Int32))), .val (.ref aFFDHE2048), .val (.int (1 : Int32)), .val (.ref a159), .val (.ref r9_169)] [(.long q1), (.int (11 : Int32)), (.ref r9_169)]))
    obtain ⟨_, _, ⟨T177, L177, k177, n177⟩, -, X177, ⟨Lc177, hQ177, l177, y177, z177⟩, st177⟩ := Jvm.LawKit.callS X176 hx (y := (⟨"com/example/portcullis/portcullis/ConfirmationEncodePinLaw", "same", "([BIJ)Z"⟩ : MethodName)) hown (mvT hZ (hw _ (List.mem_of_getElem? (i := 34) rfl))) (mvT hZ (hw _ (List.mem_of_getElem? (i := 35) rfl))) (mvT hZ (hw _ (List.mem_of_getElem? (i := 7) rfl))) (mvT hZ (hw _ (List.mem_of_getElem? (i := 36) rfl))) (by decide) (backOf (W := 0) (rm_same11 l Z a0 hw [] aFFDHE2048 aCONFIRMATION aFFDHE4096 aFFDHE3072 F0 r9_169 q1 k9_169 (1 : Int32) (2 : Int32) (1 : Int32) (((((((q0).toUInt64 >>> ((56 : Int32) &&& 0x3f).toInt64.toUInt64).toInt64)).toInt32)).toInt8.toInt32) (((((((q0).toUInt64 >>> ((48 : Int32) &&& 0x3f).toInt64.toUInt64).toInt64)).toInt32)).toInt8.toInt32) (((((((q0).toUInt64 >>> ((40 : Int32) &&& 0x3f).toInt64.toUInt64).toInt64)).toInt32)).toInt8.toInt32) (((((((q0).toUInt64 >>> ((32 : Int32) &&& 0x3f).toInt64.toUInt64).toInt64)).toInt32)).toInt8.toInt32) (((((((q0).toUInt64 >>> ((24 : Int32) &&& 0x3f).toInt64.toUInt64).toInt64)).toInt32)).toInt8.toInt32) (((((((q0).toUInt64 >>> ((16 : Int32) &&& 0x3f).toInt64.toUInt64).toInt64)).toInt32)).toInt8.toInt32) (((((((q0).toUInt64 >>> ((8 : Int32) &&& 0x3f).toInt64.toUInt64).toInt64)).toInt32)).toInt8.toInt32) ((((q0).toInt32)).toInt8.toInt32) (((((((q2).toUInt64 >>> ((56 : Int32) &&& 0x3f).toInt64.toUInt64).toInt64)).toInt32)).toInt8.toInt32) (((((((q2).toUInt64 >>> ((48 : Int32) &&& 0x3f).toInt64.toUInt64).toInt64)).toInt32)).toInt8.toInt32) (((((((q2).toUInt64 >>> ((40 : Int32) &&& 0x3f).toInt64.toUInt64).toInt64)).toInt32)).toInt8.toInt32) (((((((q2).toUInt64 >>> ((32 : Int32) &&& 0x3f).toInt64.toUInt64).toInt64)).toInt32)).toInt8.toInt32) (((((((q2).toUInt64 >>> ((24 : Int32) &&& 0x3f).toInt64.toUInt64).toInt64)).toInt32)).toInt8.toInt32) (((((((q2).toUInt64 >>> ((16 : Int32) &&& 0x3f).toInt64.toUInt64).toInt64)).toInt32)).toInt8.toInt32) (((((((q2).toUInt64 >>> ((8 : Int32) &&& 0x3f).toInt64.toUInt64).toInt64)).toInt32)).toInt8.toInt32) ((((q2).toInt32)).toInt8.toInt32) (((((((q3).toUInt64 >>> ((56 : Int32) &&& 0x3f).toInt64.toUInt64).toInt64)).toInt32)).toInt8.toInt32) (((((((q3).toUInt64 >>> ((48 : Int32) &&& 0x3f).toInt64.toUInt64).toInt64)).toInt32)).toInt8.toInt32) (((((((q3).toUInt64 >>> ((40 : Int32) &&& 0x3f).toInt64.toUInt64).toInt64)).toInt32)).toInt8.toInt32) (((((((q3).toUInt64 >>> ((32 : Int32) &&& 0x3f).toInt64.toUInt64).toInt64)).toInt32)).toInt8.toInt32) (((((((q3).toUInt64 >>> ((24 : Int32) &&& 0x3f).toInt64.toUInt64).toInt64)).toInt32)).toInt8.toInt32) (((((((q3).toUInt64 >>> ((16 : Int32) &&& 0x3f).toInt64.toUInt64).toInt64)).toInt32)).toInt8.toInt32) (((((((q3).toUInt64 >>> ((8 : Int32) &&& 0x3f).toInt64.toUInt64).toInt64)).toInt32)).toInt8.toInt32) ((((q3).toInt32)).toInt8.toInt32) T169.heap n0 O169 x169_0) hZ (hw _ (List.mem_of_getElem? (i := 36) rfl)) (hw _ (List.mem_of_getElem? (i := 7) rfl)) (by decide) (by decide)) (g := (mkF m 154 #[.val (.int p0), .val (.long q0), .second, .val (.long q1), .second, .val (.long q2), .second, .val (.long q3), .second, .val (.int ((p0 &&& (2147483647 : Int32)) % (3 : Int32))), .val (.ref aFFDHE2048), .val (.int (1 : Int32)), .val (.ref a159), .val (.ref r9_169)] [(.long q1), (.int (11 : Int32)), (.ref r9_169)])) rfl (by rw [hml]; rfl) (argsL := [(.ref r9_169), (.int (11 : Int32)), (.long q1)]) (rest := []) (lenOf pd__B_I_J__Z rfl) rfl (by show 2 * 0 + _ ≤ _; exact Nat.le_of_eq rfl) (hb hby at_154) (fun _ _ => ⟨rfl, K176, (by decide : 2 + 0 ≤ _), (by decide : 67 + 0 ≤ _)⟩)
    dsimp only [Pt.U, Pt.locs, Pt.cells, Pt.slots] at X177 l177 y177 z177 st177 hQ177
    subst l177 y177 z177
    obtain ⟨rfl, Nq177, K177⟩ := hQ177
    have N177 := Fr.app N176 Nq177
    refine own_go st177 ?_
    show OwnGo p e below _ (T177.setTop (mkF m 157 #[.val (.int p0), .val (.long q0), .second, .val (.long q1), .second, .val (.long q2), .second, .val (.long q3), .second, .val (.int ((p0 &&& (2147483647 : Int32)) % (3 : Int32))), .val (.ref aFFDHE2048), .val (.int (1 : Int32)), .val (.ref a159), .val (.ref r9_169)] [(.int (1 : Int32))]))
    refine own_go (fun _ k => XS.ifNo X177.here hx rfl (hb hby at_157) rfl (by decide) k) ?_
    show OwnGo p e below _ (T177.setTop (mkF m 160 #[.val (.int p0), .val (.long q0), .second, .val (.long q1), .second, .val (.long q2), .second, .val (.long q3), .second, .val (.int ((p0 &&& (2147483647 : Int32)) % (3 : Int32))), .val (.ref aFFDHE2048), .val (.int (1 : Int32)), .val (.ref a159), .val (.ref r9_169)] []))
    refine own_go (fun _ k => XS.aload X177.here hx rfl (hb hby at_160) rfl rfl k) ?_
    show OwnGo p e below _ (T177.setTop (mkF m 162 #[.val (.int p0), .val (.long q0), .second, .val (.long q1), .second, .val (.long q2), .second, .val (.long q3), .second, .val (.int ((p0 &&& (2147483647 : Int32)) % (3 : Int32))), .val (.ref aFFDHE2048), .val (.int (1 : Int32)), .val (.ref a159), .val (.ref r9_169)] [(.ref r9_169)]))
    refine own_go (fun _ k => XS.bipush X177.here hx rfl (hb hby at_162) k) ?_
    show OwnGo p e below _ (T177.setTop (mkF m 164 #[.val (.int p0), .val (.long q0), .second, .val (.long q1), .second, .val (.long q2), .second, .val (.long q3), .second, .val (.int ((p0 &&& (2147483647 : Int32)) % (3 : Int32))), .val (.ref aFFDHE2048), .val (.int (1 : Int32)), .val (.ref a159), .val (.ref r9_169)] [(.int (19 : Int32)), (.ref r9_169)]))
    refine own_go (fun _ k => XS.lload X177.here hx rfl (hb hby at_164) rfl k) ?_
    show OwnGo p e below _ (T177.setTop (mkF m 166 #[.val (.int p0), .val (.long q0), .second, .val (.long q1), .second, .val (.long q2), .second, .val (.long q3), .second, .val (.int ((p0 &&& (2147483647 : Int32)) % (3 : Int32))), .val (.ref aFFDHE2048), .val (.int (1 : Int32)), .val (.ref a159), .val (.ref r9_169)] [(.long q2), (.int (19 : Int32)), (.ref r9_169)]))
    obtain ⟨_, _, ⟨T178, L178, k178, n178⟩, -, X178, ⟨Lc178, hQ178, l178, y178, z178⟩, st178⟩ := Jvm.LawKit.callS X177 hx (y := (⟨"com/example/portcullis/portcullis/ConfirmationEncodePinLaw", "same", "([BIJ)Z"⟩ : MethodName)) hown (mvT hZ (hw _ (List.mem_of_getElem? (i := 34) rfl))) (mvT hZ (hw _ (List.mem_of_getElem? (i := 35) rfl))) (mvT hZ (hw _ (List.mem_of_getElem? (i := 7) rfl))) (mvT hZ (hw _ (List.mem_of_getElem? (i := 36) rfl))) (by decide) (backOf (W := 0) (rm_same19 l Z a0 hw [] aFFDHE2048 aCONFIRMATION aFFDHE4096 aFFDHE3072 F0 r9_169 q2 k9_169 (1 : Int32) (2 : Int32) (1 : Int32) (((((((q0).toUInt64 >>> ((56 : Int32) &&& 0x3f).toInt64.toUInt64).toInt64)).toInt32)).toInt8.toInt32) (((((((q0).toUInt64 >>> ((48 : Int32) &&& 0x3f).toInt64.toUInt64).toInt64)).toInt32)).toInt8.toInt32) (((((((q0).toUInt64 >>> ((40 : Int32) &&& 0x3f).toInt64.toUInt64).toInt64)).toInt32)).toInt8.toInt32) (((((((q0).toUInt64 >>> ((32 : Int32) &&& 0x3f).toInt64.toUInt64).toInt64)).toInt32)).toInt8.toInt32) (((((((q0).toUInt64 >>> ((24 : Int32) &&& 0x3f).toInt64.toUInt64).toInt64)).toInt32)).toInt8.toInt32) (((((((q0).toUInt64 >>> ((16 : Int32) &&& 0x3f).toInt64.toUInt64).toInt64)).toInt32)).toInt8.toInt32) (((((((q0).toUInt64 >>> ((8 : Int32) &&& 0x3f).toInt64.toUInt64).toInt64)).toInt32)).toInt8.toInt32) ((((q0).toInt32)).toInt8.toInt32) (((((((q1).toUInt64 >>> ((56 : Int32) &&& 0x3f).toInt64.toUInt64).toInt64)).toInt32)).toInt8.toInt32) (((((((q1).toUInt64 >>> ((48 : Int32) &&& 0x3f).toInt64.toUInt64).toInt64)).toInt32)).toInt8.toInt32) (((((((q1).toUInt64 >>> ((40 : Int32) &&& 0x3f).toInt64.toUInt64).toInt64)).toInt32)).toInt8.toInt32) (((((((q1).toUInt64 >>> ((32 : Int32) &&& 0x3f).toInt64.toUInt64).toInt64)).toInt32)).toInt8.toInt32) (((((((q1).toUInt64 >>> ((24 : Int32) &&& 0x3f).toInt64.toUInt64).toInt64)).toInt32)).toInt8.toInt32) (((((((q1).toUInt64 >>> ((16 : Int32) &&& 0x3f).toInt64.toUInt64).toInt64)).toInt32)).toInt8.toInt32) (((((((q1).toUInt64 >>> ((8 : Int32) &&& 0x3f).toInt64.toUInt64).toInt64)).toInt32)).toInt8.toInt32) ((((q1).toInt32)).toInt8.toInt32) (((((((q3).toUInt64 >>> ((56 : Int32) &&& 0x3f).toInt64.toUInt64).toInt64)).toInt32)).toInt8.toInt32) (((((((q3).toUInt64 >>> ((48 : Int32) &&& 0x3f).toInt64.toUInt64).toInt64)).toInt32)).toInt8.toInt32) (((((((q3).toUInt64 >>> ((40 : Int32) &&& 0x3f).toInt64.toUInt64).toInt64)).toInt32)).toInt8.toInt32) (((((((q3).toUInt64 >>> ((32 : Int32) &&& 0x3f).toInt64.toUInt64).toInt64)).toInt32)).toInt8.toInt32) (((((((q3).toUInt64 >>> ((24 : Int32) &&& 0x3f).toInt64.toUInt64).toInt64)).toInt32)).toInt8.toInt32) (((((((q3).toUInt64 >>> ((16 : Int32) &&& 0x3f).toInt64.toUInt64).toInt64)).toInt32)).toInt8.toInt32) (((((((q3).toUInt64 >>> ((8 : Int32) &&& 0x3f).toInt64.toUInt64).toInt64)).toInt32)).toInt8.toInt32) ((((q3).toInt32)).toInt8.toInt32) T169.heap n0 O169 x169_0) hZ (hw _ (List.mem_of_getElem? (i := 36) rfl)) (hw _ (List.mem_of_getElem? (i := 7) rfl)) (by decide) (by decide)) (g := (mkF m 166 #[.val (.int p0), .val (.long q0), .second, .val (.long q1), .second, .val (.long q2), .second, .val (.long q3), .second, .val (.int ((p0 &&& (2147483647 : Int32)) % (3 : Int32))), .val (.ref aFFDHE2048), .val (.int (1 : Int32)), .val (.ref a159), .val (.ref r9_169)] [(.long q2), (.int (19 : Int32)), (.ref r9_169)])) rfl (by rw [hml]; rfl) (argsL := [(.ref r9_169), (.int (19 : Int32)), (.long q2)]) (rest := []) (lenOf pd__B_I_J__Z rfl) rfl (by show 2 * 0 + _ ≤ _; exact Nat.le_of_eq rfl) (hb hby at_166) (fun _ _ => ⟨rfl, K177, (by decide : 2 + 0 ≤ _), (by decide : 67 + 0 ≤ _)⟩)
    dsimp only [Pt.U, Pt.locs, Pt.cells, Pt.slots] at X178 l178 y178 z178 st178 hQ178
    subst l178 y178 z178
    obtain ⟨rfl, Nq178, K178⟩ := hQ178
    have N178 := Fr.app N177 Nq178
    refine own_go st178 ?_
    show OwnGo p e below _ (T178.setTop (mkF m 169 #[.val (.int p0), .val (.long q0), .second, .val (.long q1), .second, .val (.long q2), .second, .val (.long q3), .second, .val (.int ((p0 &&& (2147483647 : Int32)) % (3 : Int32))), .val (.ref aFFDHE2048), .val (.int (1 : Int32)), .val (.ref a159), .val (.ref r9_169)] [(.int (1 : Int32))]))
    refine own_go (fun _ k => XS.ifNo X178.here hx rfl (hb hby at_169) rfl (by decide) k) ?_
    show OwnGo p e below _ (T178.setTop (mkF m 172 #[.val (.int p0), .val (.long q0), .second, .val (.long q1), .second, .val (.long q2), .second, .val (.long q3), .second, .val (.int ((p0 &&& (2147483647 : Int32)) % (3 : Int32))), .val (.ref aFFDHE2048), .val (.int (1 : Int32)), .val (.ref a159), .val (.ref r9_169)] []))
    refine own_go (fun _ k => XS.aload X178.here hx rfl (hb hby at_172) rfl rfl k) ?_
    show OwnGo p e below _ (T178.setTop (mkF m 174 #[.val (.int p0), .val (.long q0), .second, .val (.long q1), .second, .val (.long q2), .second, .val (.long q3), .second, .val (.int ((p0 &&& (2147483647 : Int32)) % (3 : Int32))), .val (.ref aFFDHE2048), .val (.int (1 : Int32)), .val (.ref a159), .val (.ref r9_169)] [(.ref r9_169)]))
    refine own_go (fun _ k => XS.bipush X178.here hx rfl (hb hby at_174) k) ?_
    show OwnGo p e below _ (T178.setTop (mkF m 176 #[.val (.int p0), .val (.long q0), .second, .val (.long q1), .second, .val (.long q2), .second, .val (.long q3), .second, .val (.int ((p0 &&& (2147483647 : Int32)) % (3 : Int32))), .val (.ref aFFDHE2048), .val (.int (1 : Int32)), .val (.ref a159), .val (.ref r9_169)] [(.int (27 : Int32)), (.ref r9_169)]))
    refine own_go (fun _ k => XS.lload X178.here hx rfl (hb hby at_176) rfl k) ?_
    show OwnGo p e below _ (T178.setTop (mkF m 178 #[.val (.int p0), .val (.long q0), .second, .val (.long q1), .second, .val (.long q2), .second, .val (.long q3), .second, .val (.int ((p0 &&& (2147483647 : Int32)) % (3 : Int32))), .val (.ref aFFDHE2048), .val (.int (1 : Int32)), .val (.ref a159), .val (.ref r9_169)] [(.long q3), (.int (27 : Int32)), (.ref r9_169)]))
    obtain ⟨_, _, ⟨T179, L179, k179, n179⟩, -, X179, ⟨Lc179, hQ179, l179, y179, z179⟩, st179⟩ := Jvm.LawKit.callS X178 hx (y := (⟨"com/example/portcullis/portcullis/ConfirmationEncodePinLaw", "same", "([BIJ)Z"⟩ : MethodName)) hown (mvT hZ (hw _ (List.mem_of_getElem? (i := 34) rfl))) (mvT hZ (hw _ (List.mem_of_getElem? (i := 35) rfl))) (mvT hZ (hw _ (List.mem_of_getElem? (i := 7) rfl))) (mvT hZ (hw _ (List.mem_of_getElem? (i := 36) rfl))) (by decide) (backOf (W := 0) (rm_same27 l Z a0 hw [] aFFDHE2048 aCONFIRMATION aFFDHE4096 aFFDHE3072 F0 r9_169 q3 k9_169 (1 : Int32) (2 : Int32) (1 : Int32) (((((((q0).toUInt64 >>> ((56 : Int32) &&& 0x3f).toInt64.toUInt64).toInt64)).toInt32)).toInt8.toInt32) (((((((q0).toUInt64 >>> ((48 : Int32) &&& 0x3f).toInt64.toUInt64).toInt64)).toInt32)).toInt8.toInt32) (((((((q0).toUInt64 >>> ((40 : Int32) &&& 0x3f).toInt64.toUInt64).toInt64)).toInt32)).toInt8.toInt32) (((((((q0).toUInt64 >>> ((32 : Int32) &&& 0x3f).toInt64.toUInt64).toInt64)).toInt32)).toInt8.toInt32) (((((((q0).toUInt64 >>> ((24 : Int32) &&& 0x3f).toInt64.toUInt64).toInt64)).toInt32)).toInt8.toInt32) (((((((q0).toUInt64 >>> ((16 : Int32) &&& 0x3f).toInt64.toUInt64).toInt64)).toInt32)).toInt8.toInt32) (((((((q0).toUInt64 >>> ((8 : Int32) &&& 0x3f).toInt64.toUInt64).toInt64)).toInt32)).toInt8.toInt32) ((((q0).toInt32)).toInt8.toInt32) (((((((q1).toUInt64 >>> ((56 : Int32) &&& 0x3f).toInt64.toUInt64).toInt64)).toInt32)).toInt8.toInt32) (((((((q1).toUInt64 >>> ((48 : Int32) &&& 0x3f).toInt64.toUInt64).toInt64)).toInt32)).toInt8.toInt32) (((((((q1).toUInt64 >>> ((40 : Int32) &&& 0x3f).toInt64.toUInt64).toInt64)).toInt32)).toInt8.toInt32) (((((((q1).toUInt64 >>> ((32 : Int32) &&& 0x3f).toInt64.toUInt64).toInt64)).toInt32)).toInt8.toInt32) (((((((q1).toUInt64 >>> ((24 : Int32) &&& 0x3f).toInt64.toUInt64).toInt64)).toInt32)).toInt8.toInt32) (((((((q1).toUInt64 >>> ((16 : Int32) &&& 0x3f).toInt64.toUInt64).toInt64)).toInt32)).toInt8.toInt32) (((((((q1).toUInt64 >>> ((8 : Int32) &&& 0x3f).toInt64.toUInt64).toInt64)).toInt32)).toInt8.toInt32) ((((q1).toInt32)).toInt8.toInt32) (((((((q2).toUInt64 >>> ((56 : Int32) &&& 0x3f).toInt64.toUInt64).toInt64)).toInt32)).toInt8.toInt32) (((((((q2).toUInt64 >>> ((48 : Int32) &&& 0x3f).toInt64.toUInt64).toInt64)).toInt32)).toInt8.toInt32) (((((((q2).toUInt64 >>> ((40 : Int32) &&& 0x3f).toInt64.toUInt64).toInt64)).toInt32)).toInt8.toInt32) (((((((q2).toUInt64 >>> ((32 : Int32) &&& 0x3f).toInt64.toUInt64).toInt64)).toInt32)).toInt8.toInt32) (((((((q2).toUInt64 >>> ((24 : Int32) &&& 0x3f).toInt64.toUInt64).toInt64)).toInt32)).toInt8.toInt32) (((((((q2).toUInt64 >>> ((16 : Int32) &&& 0x3f).toInt64.toUInt64).toInt64)).toInt32)).toInt8.toInt32) (((((((q2).toUInt64 >>> ((8 : Int32) &&& 0x3f).toInt64.toUInt64).toInt64)).toInt32)).toInt8.toInt32) ((((q2).toInt32)).toInt8.toInt32) T169.heap n0 O169 x169_0) hZ (hw _ (List.mem_of_getElem? (i := 36) rfl)) (hw _ (List.mem_of_getElem? (i := 7) rfl)) (by decide) (by decide)) (g := (mkF m 178 #[.val (.int p0), .val (.long q0), .second, .val (.long q1), .second, .val (.long q2), .second, .val (.long q3), .second, .val (.int ((p0 &&& (2147483647 : Int32)) % (3 : Int32))), .val (.ref aFFDHE2048), .val (.int (1 : Int32)), .val (.ref a159), .val (.ref r9_169)] [(.long q3), (.int (27 : Int32)), (.ref r9_169)])) rfl (by rw [hml]; rfl) (argsL := [(.ref r9_169), (.int (27 : Int32)), (.long q3)]) (rest := []) (lenOf pd__B_I_J__Z rfl) rfl (by show 2 * 0 + _ ≤ _; exact Nat.le_of_eq rfl) (hb hby at_178) (fun _ _ => ⟨rfl, K178, (by decide : 2 + 0 ≤ _), (by decide : 67 + 0 ≤ _)⟩)
    dsimp only [Pt.U, Pt.locs, Pt.cells, Pt.slots] at X179 l179 y179 z179 st179 hQ179
    subst l179 y179 z179
    obtain ⟨rfl, Nq179, K179⟩ := hQ179
    have N179 := Fr.app N178 Nq179
    refine own_go st179 ?_
    show OwnGo p e below _ (T179.setTop (mkF m 181 #[.val (.int p0), .val (.long q0), .second, .val (.long q1), .second, .val (.long q2), .second, .val (.long q3), .second, .val (.int ((p0 &&& (2147483647 : Int32)) % (3 : Int32))), .val (.ref aFFDHE2048), .val (.int (1 : Int32)), .val (.ref a159), .val (.ref r9_169)] [(.int (1 : Int32))]))
    refine own_go (fun _ k => XS.ifNo X179.here hx rfl (hb hby at_181) rfl (by decide) k) ?_
    show OwnGo p e below _ (T179.setTop (mkF m 184 #[.val (.int p0), .val (.long q0), .second, .val (.long q1), .second, .val (.long q2), .second, .val (.long q3), .second, .val (.int ((p0 &&& (2147483647 : Int32)) % (3 : Int32))), .val (.ref aFFDHE2048), .val (.int (1 : Int32)), .val (.ref a159), .val (.ref r9_169)] []))
    refine own_go (fun _ k => XS.iconst X179.here hx rfl (hb hby at_184) k) ?_
    show OwnGo p e below _ (T179.setTop (mkF m 185 #[.val (.int p0), .val (.long q0), .second, .val (.long q1), .second, .val (.long q2), .second, .val (.long q3), .second, .val (.int ((p0 &&& (2147483647 : Int32)) % (3 : Int32))), .val (.ref aFFDHE2048), .val (.int (1 : Int32)), .val (.ref a159), .val (.ref r9_169)] [(.int (1 : Int32))]))
    refine own_go (fun _ k => XS.goto X179.here hx rfl (pc0 := 185) (pc' := 189) rfl (hb hby at_185) (by decide) (by decide) k) ?_
    show OwnGo p e below _ (T179.setTop (mkF m 189 #[.val (.int p0), .val (.long q0), .second, .val (.long q1), .second, .val (.long q2), .second, .val (.long q3), .second, .val (.int ((p0 &&& (2147483647 : Int32)) % (3 : Int32))), .val (.ref aFFDHE2048), .val (.int (1 : Int32)), .val (.ref a159), .val (.ref r9_169)] [(.int (1 : Int32))]))
    obtain ⟨fs, hr, hrun, hended, hW, hsame⟩ := X179.leave (v := some (.int (1 : Int32))) (fun h => by rw [Bd.returns] at h; cases h)
    refine ⟨_, _, retOut X179 hx Bd.returns rfl (Or.inl ⟨rfl, Or.inr (Or.inl rfl), _, rfl⟩) (hb hby at_189) hr, hrun, hended, _, _, rfl, ?_, ⟨_, rfl⟩, hW, hsame.mono (by decide) (by decide)⟩
    show Q_law Z aFFDHE2048 aCONFIRMATION aFFDHE4096 aFFDHE3072 p0 q0 q1 q2 q3 h0 n0 _ T179.heap _
    rw [K179]
    exact ⟨rfl, N179⟩
  · refine own_go (fun _ k => XS.ifYes X0.here hx rfl (pc0 := 10) (pc' := 24) rfl (hb hby at_10) rfl ((if0 _ _).trans (feq hc157).2) (by decide) (by decide) k) ?_
    show OwnGo p e below _ (s₁.setTop (mkF m 24 #[.val (.int p0), .val (.long q0), .second, .val (.long q1), .second, .val (.long q2), .second, .val (.long q3), .second, .val (.int ((p0 &&& (2147483647 : Int32)) % (3 : Int32))), .unset, .unset, .unset, .unset] []))
    refine own_go (fun _ k => XS.iload X0.here hx rfl (hb hby at_24) rfl k) ?_
    show OwnGo p e below _ (s₁.setTop (mkF m 26 #[.val (.int p0), .val (.long q0), .second, .val (.long q1), .second, .val (.long q2), .second, .val (.long q3), .second, .val (.int ((p0 &&& (2147483647 : Int32)) % (3 : Int32))), .unset, .unset, .unset, .unset] [(.int ((p0 &&& (2147483647 : Int32)) % (3 : Int32)))]))
    refine own_go (fun _ k => XS.iconst X0.here hx rfl (hb hby at_26) k) ?_
    show OwnGo p e below _ (s₁.setTop (mkF m 27 #[.val (.int p0), .val (.long q0), .second, .val (.long q1), .second, .val (.long q2), .second, .val (.long q3), .second, .val (.int ((p0 &&& (2147483647 : Int32)) % (3 : Int32))), .unset, .unset, .unset, .unset] [(.int (1 : Int32)), (.int ((p0 &&& (2147483647 : Int32)) % (3 : Int32)))]))
    by_cases hc180 : ((p0 &&& (2147483647 : Int32)) % (3 : Int32)) = (1 : Int32)
    · refine own_go (fun _ k => XS.icmpNo X0.here hx rfl (hb hby at_27) rfl (teq hc180).2 k) ?_
      show OwnGo p e below _ (s₁.setTop (mkF m 30 #[.val (.int p0), .val (.long q0), .second, .val (.long q1), .second, .val (.long q2), .second, .val (.long q3), .second, .val (.int ((p0 &&& (2147483647 : Int32)) % (3 : Int32))), .unset, .unset, .unset, .unset] []))
      obtain ⟨T181, X181, e181, st181⟩ := getS X0 hx hZ hown (host := "") (hw _ (List.mem_of_getElem? (i := 39) rfl)) Via.refl e0 (F0.2.2.2.2.2.2.2.2.2.1.ext O0.2) (g := (mkF m 30 #[.val (.int p0), .val (.long q0), .second, .val (.long q1), .second, .val (.long q2), .second, .val (.long q3), .second, .val (.int ((p0 &&& (2147483647 : Int32)) % (3 : Int32))), .unset, .unset, .unset, .unset] [])) rfl (hb hby at_30)
      refine own_go st181 ?_
      show OwnGo p e below _ (T181.setTop (mkF m 33 #[.val (.int p0), .val (.long q0), .second, .val (.long q1), .second, .val (.long q2), .second, .val (.long q3), .second, .val (.int ((p0 &&& (2147483647 : Int32)) % (3 : Int32))), .unset, .unset, .unset, .unset] [(.ref aFFDHE3072)]))
      refine own_go (fun _ k => XS.astore X181.here hx rfl (hb hby at_33) rfl rfl (l' := #[.val (.int p0), .val (.long q0), .second, .val (.long q1), .second, .val (.long q2), .second, .val (.long q3), .second, .val (.int ((p0 &&& (2147483647 : Int32)) % (3 : Int32))), .val (.ref aFFDHE3072), .unset, .unset, .unset]) rfl k) ?_
      show OwnGo p e below _ (T181.setTop (mkF m 35 #[.val (.int p0), .val (.long q0), .second, .val (.long q1), .second, .val (.long q2), .second, .val (.long q3), .second, .val (.int ((p0 &&& (2147483647 : Int32)) % (3 : Int32))), .val (.ref aFFDHE3072), .unset, .unset, .unset] []))
      refine own_go (fun _ k => XS.iconst X181.here hx rfl (hb hby at_35) k) ?_
      show OwnGo p e below _ (T181.setTop (mkF m 36 #[.val (.int p0), .val (.long q0), .second, .val (.long q1), .second, .val (.long q2), .second, .val (.long q3), .second, .val (.int ((p0 &&& (2147483647 : Int32)) % (3 : Int32))), .val (.ref aFFDHE3072), .unset, .unset, .unset] [(.int (2 : Int32))]))
      refine own_go (fun _ k => XS.istore X181.here hx rfl (hb hby at_36) rfl (l' := #[.val (.int p0), .val (.long q0), .second, .val (.long q1), .second, .val (.long q2), .second, .val (.long q3), .second, .val (.int ((p0 &&& (2147483647 : Int32)) % (3 : Int32))), .val (.ref aFFDHE3072), .val (.int (2 : Int32)), .unset, .unset]) rfl k) ?_
      show OwnGo p e below _ (T181.setTop (mkF m 38 #[.val (.int p0), .val (.long q0), .second, .val (.long q1), .second, .val (.long q2), .second, .val (.long q3), .second, .val (.int ((p0 &&& (2147483647 : Int32)) % (3 : Int32))), .val (.ref aFFDHE3072), .val (.int (2 : Int32)), .unset, .unset] []))
      refine own_go (fun _ k => XS.goto X181.here hx rfl (pc0 := 38) (pc' := 49) rfl (hb hby at_38) (by decide) (by decide) k) ?_
      show OwnGo p e below _ (T181.setTop (mkF m 49 #[.val (.int p0), .val (.long q0), .second, .val (.long q1), .second, .val (.long q2), .second, .val (.long q3), .second, .val (.int ((p0 &&& (2147483647 : Int32)) % (3 : Int32))), .val (.ref aFFDHE3072), .val (.int (2 : Int32)), .unset, .unset] []))
      refine own_go (fun _ k => XS.bipush X181.here hx rfl (hb hby at_49) k) ?_
      show OwnGo p e below _ (T181.setTop (mkF m 51 #[.val (.int p0), .val (.long q0), .second, .val (.long q1), .second, .val (.long q2), .second, .val (.long q3), .second, .val (.int ((p0 &&& (2147483647 : Int32)) % (3 : Int32))), .val (.ref aFFDHE3072), .val (.int (2 : Int32)), .unset, .unset] [(.int (32 : Int32))]))
      obtain ⟨T182, h182, k182, X182, e182, E182, A182, st182⟩ := newP X181 hx hZ (hw _ (List.mem_of_getElem? (i := 4) rfl)) e181 (g := (mkF m 51 #[.val (.int p0), .val (.long q0), .second, .val (.long q1), .second, .val (.long q2), .second, .val (.long q3), .second, .val (.int ((p0 &&& (2147483647 : Int32)) % (3 : Int32))), .val (.ref aFFDHE3072), .val (.int (2 : Int32)), .unset, .unset] [(.int (32 : Int32))])) rfl (hb hby at_51) rfl (by decide) (cap := 32) (by decide) (by decide) (by decide) (by decide)
      obtain ⟨a182, g182⟩ : ∃ z, z = h0.size := ⟨_, rfl⟩
      rw [← g182] at A182 st182
      have ge182 : n0 ≤ a182 := Nat.le_trans (own_sz O0) (Nat.le_of_eq g182.symm)
      have gh182 : h0.size ≤ a182 := Nat.le_trans (Nat.le_refl _) (Nat.le_of_eq g182.symm)
      have O182 := O0.ext E182
      have z183 : h0.size ≤ h182.size := Nat.le_trans (Nat.le_refl _) E182.1
      have V182 : Arv Z h182 a182 k182 .byte (32 : Int32) [(.int (0 : Int32)), (.int (0 : Int32)), (.int (0 : Int32)), (.int (0 : Int32)), (.int (0 : Int32)), (.int (0 : Int32)), (.int (0 : Int32)), (.int (0 : Int32)), (.int (0 : Int32)), (.int (0 : Int32)), (.int (0 : Int32)), (.int (0 : Int32)), (.int (0 : Int32)), (.int (0 : Int32)), (.int (0 : Int32)), (.int (0 : Int32)), (.int (0 : Int32)), (.int (0 : Int32)), (.int (0 : Int32)), (.int (0 : Int32)), (.int (0 : Int32)), (.int (0 : Int32)), (.int (0 : Int32)), (.int (0 : Int32)), (.int (0 : Int32)), (.int (0 : Int32)), (.int (0 : Int32)), (.int (0 : Int32)), (.int (0 : Int32)), (.int (0 : Int32)), (.int (0 : Int32)), (.int (0 : Int32))] (.int (0 : Int32)) := (Arv.new A182 (by decide)).pad (pad_rep [] _ 32)
      refine own_go st182 ?_
      show OwnGo p e below _ (T182.setTop (mkF m 53 #[.val (.int p0), .val (.long q0), .second, .val (.long q1), .second, .val (.long q2), .second, .val (.long q3), .second, .val (.int ((p0 &&& (2147483647 : Int32)) % (3 : Int32))), .val (.ref aFFDHE3072), .val (.int (2 : Int32)), .unset, .unset] [(.ref a182)]))
      refine own_go (fun _ k => XS.astore X182.here hx rfl (hb hby at_53) rfl rfl (l' := #[.val (.int p0), .val (.long q0), .second, .val (.long q1), .second, .val (.long q2), .second, .val (.long q3), .second, .val (.int ((p0 &&& (2147483647 : Int32)) % (3 : Int32))), .val (.ref aFFDHE3072), .val (.int (2 : Int32)), .val (.ref a182), .unset]) rfl k) ?_
      show OwnGo p e below _ (T182.setTop (mkF m 55 #[.val (.int p0), .val (.long q0), .second, .val (.long q1), .second, .val (.long q2), .second, .val (.long q3), .second, .val (.int ((p0 &&& (2147483647 : Int32)) % (3 : Int32))), .val (.ref aFFDHE3072), .val (.int (2 : Int32)), .val (.ref a182), .unset] []))
      refine own_go (fun _ k => XS.aload X182.here hx rfl (hb hby at_55) rfl rfl k) ?_
      show OwnGo p e below _ (T182.setTop (mkF m 57 #[.val (.int p0), .val (.long q0), .second, .val (.long q1), .second, .val (.long q2), .second, .val (.long q3), .second, .val (.int ((p0 &&& (2147483647 : Int32)) % (3 : Int32))), .val (.ref aFFDHE3072), .val (.int (2 : Int32)), .val (.ref a182), .unset] [(.ref a182)]))
      refine own_go (fun _ k => XS.iconst X182.here hx rfl (hb hby at_57) k) ?_
      show OwnGo p e below _ (T182.setTop (mkF m 58 #[.val (.int p0), .val (.long q0), .second, .val (.long q1), .second, .val (.long q2), .second, .val (.long q3), .second, .val (.int ((p0 &&& (2147483647 : Int32)) % (3 : Int32))), .val (.ref aFFDHE3072), .val (.int (2 : Int32)), .val (.ref a182), .unset] [(.int (0 : Int32)), (.ref a182)]))
      refine own_go (fun _ k => XS.lloadN X182.here hx rfl (hb hby at_58) rfl k) ?_
      show OwnGo p e below _ (T182.setTop (mkF m 59 #[.val (.int p0), .val (.long q0), .second, .val (.long q1), .second, .val (.long q2), .second, .val (.long q3), .second, .val (.int ((p0 &&& (2147483647 : Int32)) % (3 : Int32))), .val (.ref aFFDHE3072), .val (.int (2 : Int32)), .val (.ref a182), .unset] [(.long q0), (.int (0 : Int32)), (.ref a182)]))
      obtain ⟨_, _, ⟨T184, L184, k184, n184⟩, -, X184, ⟨Lc184, hQ184, l184, y184, z184⟩, st184⟩ := Jvm.LawKit.callS X182 hx (y := (⟨"com/example/portcullis/portcullis/ConfirmationEncodePinLaw", "put", "([BIJ)V"⟩ : MethodName)) hown (mvT hZ (hw _ (List.mem_of_getElem? (i := 5) rfl))) (mvT hZ (hw _ (List.mem_of_getElem? (i := 6) rfl))) (mvT hZ (hw _ (List.mem_of_getElem? (i := 7) rfl))) (mvT hZ (hw _ (List.mem_of_getElem? (i := 8) rfl))) (by decide) (backOf (W := 0) (rm_put0 l Z a0 hw [] aFFDHE2048 aCONFIRMATION aFFDHE4096 aFFDHE3072 F0 a182 q0 k182 (0 : Int32) (0 : Int32) (0 : Int32) (0 : Int32) (0 : Int32) (0 : Int32) (0 : Int32) (0 : Int32) (0 : Int32) (0 : Int32) (0 : Int32) (0 : Int32) (0 : Int32) (0 : Int32) (0 : Int32) (0 : Int32) (0 : Int32) (0 : Int32) (0 : Int32) (0 : Int32) (0 : Int32) (0 : Int32) (0 : Int32) (0 : Int32) (0 : Int32) (0 : Int32) (0 : Int32) (0 : Int32) (0 : Int32) (0 : Int32) (0 : Int32) (0 : Int32) h182 n0 O182 V182 ge182) hZ (hw _ (List.mem_of_getElem? (i := 8) rfl)) (hw _ (List.mem_of_getElem? (i := 7) rfl)) (by decide) (by decide)) (g := (mkF m 59 #[.val (.int p0), .val (.long q0), .second, .val (.long q1), .second, .val (.long q2), .second, .val (.long q3), .second, .val (.int ((p0 &&& (2147483647 : Int32)) % (3 : Int32))), .val (.ref aFFDHE3072), .val (.int (2 : Int32)), .val (.ref a182), .unset] [(.long q0), (.int (0 : Int32)), (.ref a182)])) rfl (by rw [hml]; rfl) (argsL := [(.ref a182), (.int (0 : Int32)), (.long q0)]) (rest := []) (lenOf pd__B_I_J__V rfl) rfl (by show 2 * 0 + _ ≤ _; exact Nat.le_of_eq rfl) (hb hby at_59) (fun _ _ => ⟨rfl, e182, (by decide : 1 + 0 ≤ _), (by decide : 32 + 0 ≤ _)⟩)
      dsimp only [Pt.U, Pt.locs, Pt.cells, Pt.slots] at X184 l184 y184 z184 st184 hQ184
      subst l184 y184 z184
      obtain ⟨rfl, Nq184, K184, x184_0⟩ := hQ184
      have N184 := Fr.app N0 Nq184
      have O184 := O182.keep K184 (allS ge182 all0)
      have e184 : T184.heap = T184.heap := rfl
      have z185 : h0.size ≤ T184.heap.size := Nat.le_trans z183 K184.1
      refine own_go st184 ?_
      show OwnGo p e below _ (T184.setTop (mkF m 62 #[.val (.int p0), .val (.long q0), .second, .val (.long q1), .second, .val (.long q2), .second, .val (.long q3), .second, .val (.int ((p0 &&& (2147483647 : Int32)) % (3 : Int32))), .val (.ref aFFDHE3072), .val (.int (2 : Int32)), .val (.ref a182), .unset] []))
      refine own_go (fun _ k => XS.aload X184.here hx rfl (hb hby at_62) rfl rfl k) ?_
      show OwnGo p e below _ (T184.setTop (mkF m 64 #[.val (.int p0), .val (.long q0), .second, .val (.long q1), .second, .val (.long q2), .second, .val (.long q3), .second, .val (.int ((p0 &&& (2147483647 : Int32)) % (3 : Int32))), .val (.ref aFFDHE3072), .val (.int (2 : Int32)), .val (.ref a182), .unset] [(.ref a182)]))
      refine own_go (fun _ k => XS.bipush X184.here hx rfl (hb hby at_64) k) ?_
      show OwnGo p e below _ (T184.setTop (mkF m 66 #[.val (.int p0), .val (.long q0), .second, .val (.long q1), .second, .val (.long q2), .second, .val (.long q3), .second, .val (.int ((p0 &&& (2147483647 : Int32)) % (3 : Int32))), .val (.ref aFFDHE3072), .val (.int (2 : Int32)), .val (.ref a182), .unset] [(.int (8 : Int32)), (.ref a182)]))
      refine own_go (fun _ k => XS.lloadN X184.here hx rfl (hb hby at_66) rfl k) ?_
      show OwnGo p e below _ (T184.setTop (mkF m 67 #[.val (.int p0), .val (.long q0), .second, .val (.long q1), .second, .val (.long q2), .second, .val (.long q3), .second, .val (.int ((p0 &&& (2147483647 : Int32)) % (3 : Int32))), .val (.ref aFFDHE3072), .val (.int (2 : Int32)), .val (.ref a182), .unset] [(.long q1), (.int (8 : Int32)), (.ref a182)]))
      obtain ⟨_, _, ⟨T186, L186, k186, n186⟩, -, X186, ⟨Lc186, hQ186, l186, y186, z186⟩, st186⟩ := Jvm.LawKit.callS X184 hx (y := (⟨"com/example/portcullis/portcullis/ConfirmationEncodePinLaw", "put", "([BIJ)V"⟩ : MethodName)) hown (mvT hZ (hw _ (List.mem_of_getElem? (i := 5) rfl))) (mvT hZ (hw _ (List.mem_of_getElem? (i := 6) rfl))) (mvT hZ (hw _ (List.mem_of_getElem? (i := 7) rfl))) (mvT hZ (hw _ (List.mem_of_getElem? (i := 8) rfl))) (by decide) (backOf (W := 0) (rm_put8 l Z a0 hw [] aFFDHE2048 aCONFIRMATION aFFDHE4096 aFFDHE3072 F0 a182 q1 k182 (((((((q0).toUInt64 >>> ((56 : Int32) &&& 0x3f).toInt64.toUInt64).toInt64)).toInt32)).toInt8.toInt32) (((((((q0).toUInt64 >>> ((48 : Int32) &&& 0x3f).toInt64.toUInt64).toInt64)).toInt32)).toInt8.toInt32) (((((((q0).toUInt64 >>> ((40 : Int32) &&& 0x3f).toInt64.toUInt64).toInt64)).toInt32)).toInt8.toInt32) (((((((q0).toUInt64 >>> ((32 : Int32) &&& 0x3f).toInt64.toUInt64).toInt64)).toInt32)).toInt8.toInt32) (((((((q0).toUInt64 >>> ((24 : Int32) &&& 0x3f).toInt64.toUInt64).toInt64)).toInt32)).toInt8.toInt32) (((((((q0).toUInt64 >>> ((16 : Int32) &&& 0x3f).toInt64.toUInt64).toInt64)).toInt32)).toInt8.toInt32) (((((((q0).toUInt64 >>> ((8 : Int32) &&& 0x3f).toInt64.toUInt64).toInt64)).toInt32)).toInt8.toInt32) ((((q0).toInt32)).toInt8.toInt32) (0 : Int32) (0 : Int32) (0 : Int32) (0 : Int32) (0 : Int32) (0 : Int32) (0 : Int32) (0 : Int32) (0 : Int32) (0 : Int32) (0 : Int32) (0 : Int32) (0 : Int32) (0 : Int32) (0 : Int32) (0 : Int32) (0 : Int32) (0 : Int32) (0 : Int32) (0 : Int32) (0 : Int32) (0 : Int32) (0 : Int32) (0 : Int32) T184.heap n0 O184 x184_0 ge182) hZ (hw _ (List.mem_of_getElem? (i := 8) rfl)) (hw _ (List.mem_of_getElem? (i := 7) rfl)) (by decide) (by decide)) (g := (mkF m 67 #[.val (.int p0), .val (.long q0), .second, .val (.long q1), .second, .val (.long q2), .second, .val (.long q3), .second, .val (.int ((p0 &&& (2147483647 : Int32)) % (3 : Int32))), .val (.ref aFFDHE3072), .val (.int (2 : Int32)), .val (.ref a182), .unset] [(.long q1), (.int (8 : Int32)), (.ref a182)])) rfl (by rw [hml]; rfl) (argsL := [(.ref a182), (.int (8 : Int32)), (.long q1)]) (rest := []) (lenOf pd__B_I_J__V rfl) rfl (by show 2 * 0 + _ ≤ _; exact Nat.le_of_eq rfl) (hb hby at_67) (fun _ _ => ⟨rfl, e184, (by decide : 1 + 0 ≤ _), (by decide : 32 + 0 ≤ _)⟩)
      dsimp only [Pt.U, Pt.locs, Pt.cells, Pt.slots] at X186 l186 y186 z186 st186 hQ186
      subst l186 y186 z186
      obtain ⟨rfl, Nq186, K186, x186_0⟩ := hQ186
      have N186 := Fr.app N184 Nq186
      have O186 := O184.keep K186 (allS ge182 all0)
      have e186 : T186.heap = T186.heap := rfl
      have z187 : h0.size ≤ T186.heap.size := Nat.le_trans z185 K186.1
      refine own_go st186 ?_
      show OwnGo p e below _ (T186.setTop (mkF m 70 #[.val (.int p0), .val (.long q0), .second, .val (.long q1), .second, .val (.long q2), .second, .val (.long q3), .second, .val (.int ((p0 &&& (2147483647 : Int32)) % (3 : Int32))), .val (.ref aFFDHE3072), .val (.int (2 : Int32)), .val (.ref a182), .unset] []))
      refine own_go (fun _ k => XS.aload X186.here hx rfl (hb hby at_70) rfl rfl k) ?_
      show OwnGo p e below _ (T186.setTop (mkF m 72 #[.val (.int p0), .val (.long q0), .second, .val (.long q1), .second, .val (.long q2), .second, .val (.long q3), .second, .val (.int ((p0 &&& (2147483647 : Int32)) % (3 : Int32))), .val (.ref aFFDHE3072), .val (.int (2 : Int32)), .val (.ref a182), .unset] [(.ref a182)]))
      refine own_go (fun _ k => XS.bipush X186.here hx rfl (hb hby at_72) k) ?_
      show OwnGo p e below _ (T186.setTop (mkF m 74 #[.val (.int p0), .val (.long q0), .second, .val (.long q1), .second, .val (.long q2), .second, .val (.long q3), .second, .val (.int ((p0 &&& (2147483647 : Int32)) % (3 : Int32))), .val (.ref aFFDHE3072), .val (.int (2 : Int32)), .val (.ref a182), .unset] [(.int (16 : Int32)), (.ref a182)]))
      refine own_go (fun _ k => XS.lload X186.here hx rfl (hb hby at_74) rfl k) ?_
      show OwnGo p e below _ (T186.setTop (mkF m 76 #[.val (.int p0), .val (.long q0), .second, .val (.long q1), .second, .val (.long q2), .second, .val (.long q3), .second, .val (.int ((p0 &&& (2147483647 : Int32)) % (3 : Int32))), .val (.ref aFFDHE3072), .val (.int (2 : Int32)), .val (.ref a182), .unset] [(.long q2), (.int (16 : Int32)), (.ref a182)]))
      obtain ⟨_, _, ⟨T188, L188, k188, n188⟩, -, X188, ⟨Lc188, hQ188, l188, y188, z188⟩, st188⟩ := Jvm.LawKit.callS X186 hx (y := (⟨"com/example/portcullis/portcullis/ConfirmationEncodePinLaw", "put", "([BIJ)V"⟩ : MethodName)) hown (mvT hZ (hw _ (List.mem_of_getElem? (i := 5) rfl))) (mvT hZ (hw _ (List.mem_of_getElem? (i := 6) rfl))) (mvT hZ (hw _ (List.mem_of_getElem? (i := 7) rfl))) (mvT hZ (hw _ (List.mem_of_getElem? (i := 8) rfl))) (by decide) (backOf (W := 0) (rm_put16 l Z a0 hw [] aFFDHE2048 aCONFIRMATION aFFDHE4096 aFFDHE3072 F0 a182 q2 k182 (((((((q0).toUInt64 >>> ((56 : Int32) &&& 0x3f).toInt64.toUInt64).toInt64)).toInt32)).toInt8.toInt32) (((((((q0).toUInt64 >>> ((48 : Int32) &&& 0x3f).toInt64.toUInt64).toInt64)).toInt32)).toInt8.toInt32) (((((((q0).toUInt64 >>> ((40 : Int32) &&& 0x3f).toInt64.toUInt64).toInt64)).toInt32)).toInt8.toInt32) (((((((q0).toUInt64 >>> ((32 : Int32) &&& 0x3f).toInt64.toUInt64).toInt64)).toInt32)).toInt8.toInt32) (((((((q0).toUInt64 >>> ((24 : Int32) &&& 0x3f).toInt64.toUInt64).toInt64)).toInt32)).toInt8.toInt32) (((((((q0).toUInt64 >>> ((16 : Int32) &&& 0x3f).toInt64.toUInt64).toInt64)).toInt32)).toInt8.toInt32) (((((((q0).toUInt64 >>> ((8 : Int32) &&& 0x3f).toInt64.toUInt64).toInt64)).toInt32)).toInt8.toInt32) ((((q0).toInt32)).toInt8.toInt32) (((((((q1).toUInt64 >>> ((56 : Int32) &&& 0x3f).toInt64.toUInt64).toInt64)).toInt32)).toInt8.toInt32) (((((((q1).toUInt64 >>> ((48 : Int32) &&& 0x3f).toInt64.toUInt64).toInt64)).toInt32)).toInt8.toInt32) (((((((q1).toUInt64 >>> ((40 : Int32) &&& 0x3f).toInt64.toUInt64).toInt64)).toInt32)).toInt8.toInt32) (((((((q1).toUInt64 >>> ((32 : Int32) &&& 0x3f).toInt64.toUInt64).toInt64)).toInt32)).toInt8.toInt32) (((((((q1).toUInt64 >>> ((24 : Int32) &&& 0x3f).toInt64.toUInt64).toInt64)).toInt32)).toInt8.toInt32) (((((((q1).toUInt64 >>> ((16 : Int32) &&& 0x3f).toInt64.toUInt64).toInt64)).toInt32)).toInt8.toInt32) (((((((q1).toUInt64 >>> ((8 : Int32) &&& 0x3f).toInt64.toUInt64).toInt64)).toInt32)).toInt8.toInt32) ((((q1).toInt32)).toInt8.toInt32) (0 : Int32) (0 : Int32) (0 : Int32) (0 : Int32) (0 : Int32) (0 : Int32) (0 : Int32) (0 : Int32) (0 : Int32) (0 : Int32) (0 : Int32) (0 : Int32) (0 : Int32) (0 : Int32) (0 : Int32) (0 : Int32) T186.heap n0 O186 x186_0 ge182) hZ (hw _ (List.mem_of_getElem? (i := 8) rfl)) (hw _ (List.mem_of_getElem? (i := 7) rfl)) (by decide) (by decide)) (g := (mkF m 76 #[.val (.int p0), .val (.long q0), .second, .val (.long q1), .second, .val (.long q2), .second, .val (.long q3), .second, .val (.int ((p0 &&& (2147483647 : Int32)) % (3 : Int32))), .val (.ref aFFDHE3072), .val (.int (2 : Int32)), .val (.ref a182), .unset] [(.long q2), (.int (16 : Int32)), (.ref a182)])) rfl (by rw [hml]; rfl) (argsL := [(.ref a182), (.int (16 : Int32)), (.long q2)]) (rest := []) (lenOf pd__B_I_J__V rfl) rfl (by show 2 * 0 + _ ≤ _; exact Nat.le_of_eq rfl) (hb hby at_76) (fun _ _ => ⟨rfl, e186, (by decide : 1 + 0 ≤ _), (by decide : 32 + 0 ≤ _)⟩)
      dsimp only [Pt.U, Pt.locs, Pt.cells, Pt.slots] at X188 l188 y188 z188 st188 hQ188
      subst l188 y188 z188
      obtain ⟨rfl, Nq188, K188, x188_0⟩ := hQ188
      have N188 := Fr.app N186 Nq188
      have O188 := O186.keep K188 (allS ge182 all0)
      have e188 : T188.heap = T188.heap := rfl
      have z189 : h0.size ≤ T188.heap.size := Nat.le_trans z187 K188.1
      refine own_go st188 ?_
      show OwnGo p e below _ (T188.setTop (mkF m 79 #[.val (.int p0), .val (.long q0), .second, .val (.long q1), .second, .val (.long q2), .second, .val (.long q3), .second, .val (.int ((p0 &&& (2147483647 : Int32)) % (3 : Int32))), .val (.ref aFFDHE3072), .val (.int (2 : Int32)), .val (.ref a182), .unset] []))
      refine own_go (fun _ k => XS.aload X188.here hx rfl (hb hby at_79) rfl rfl k) ?_
      show OwnGo p e below _ (T188.setTop (mkF m 81 #[.val (.int p0), .val (.long q0), .second, .val (.long q1), .second, .val (.long q2), .second, .val (.long q3), .second, .val (.int ((p0 &&& (2147483647 : Int32)) % (3 : Int32))), .val (.ref aFFDHE3072), .val (.int (2 : Int32)), .val (.ref a182), .unset] [(.ref a182)]))
      refine own_go (fun _ k => XS.bipush X188.here hx rfl (hb hby at_81) k) ?_
      show OwnGo p e below _ (T188.setTop (mkF m 83 #[.val (.int p0), .val (.long q0), .second, .val (.long q1), .second, .val (.long q2), .second, .val (.long q3), .second, .val (.int ((p0 &&& (2147483647 : Int32)) % (3 : Int32))), .val (.ref aFFDHE3072), .val (.int (2 : Int32)), .val (.ref a182), .unset] [(.int (24 : Int32)), (.ref a182)]))
      refine own_go (fun _ k => XS.lload X188.here hx rfl (hb hby at_83) rfl k) ?_
      show OwnGo p e below _ (T188.setTop (mkF m 85 #[.val (.int p0), .val (.long q0), .second, .val (.long q1), .second, .val (.long q2), .second, .val (.long q3), .second, .val (.int ((p0 &&& (2147483647 : Int32)) % (3 : Int32))), .val (.ref aFFDHE3072), .val (.int (2 : Int32)), .val (.ref a182), .unset] [(.long q3), (.int (24 : Int32)), (.ref a182)]))
      obtain ⟨_, _, ⟨T190, L190, k190, n190⟩, -, X190, ⟨Lc190, hQ190, l190, y190, z190⟩, st190⟩ := Jvm.LawKit.callS X188 hx (y := (⟨"com/example/portcullis/portcullis/ConfirmationEncodePinLaw", "put", "([BIJ)V"⟩ : MethodName)) hown (mvT hZ (hw _ (List.mem_of_getElem? (i := 5) rfl))) (mvT hZ (hw _ (List.mem_of_getElem? (i := 6) rfl))) (mvT hZ (hw _ (List.mem_of_getElem? (i := 7) rfl))) (mvT hZ (hw _ (List.mem_of_getElem? (i := 8) rfl))) (by decide) (backOf (W := 0) (rm_put24 l Z a0 hw [] aFFDHE2048 aCONFIRMATION aFFDHE4096 aFFDHE3072 F0 a182 q3 k182 (((((((q0).toUInt64 >>> ((56 : Int32) &&& 0x3f).toInt64.toUInt64).toInt64)).toInt32)).toInt8.toInt32) (((((((q0).toUInt64 >>> ((48 : Int32) &&& 0x3f).toInt64.toUInt64).toInt64)).toInt32)).toInt8.toInt32) (((((((q0).toUInt64 >>> ((40 : Int32) &&& 0x3f).toInt64.toUInt64).toInt64)).toInt32)).toInt8.toInt32) (((((((q0).toUInt64 >>> ((32 : Int32) &&& 0x3f).toInt64.toUInt64).toInt64)).toInt32)).toInt8.toInt32) (((((((q0).toUInt64 >>> ((24 : Int32) &&& 0x3f).toInt64.toUInt64).toInt64)).toInt32)).toInt8.toInt32) (((((((q0).toUInt64 >>> ((16 : Int32) &&& 0x3f).toInt64.toUInt64).toInt64)).toInt32)).toInt8.toInt32) (((((((q0).toUInt64 >>> ((8 : Int32) &&& 0x3f).toInt64.toUInt64).toInt64)).toInt32)).toInt8.toInt32) ((((q0).toInt32)).toInt8.toInt32) (((((((q1).toUInt64 >>> ((56 : Int32) &&& 0x3f).toInt64.toUInt64).toInt64)).toInt32)).toInt8.toInt32) (((((((q1).toUInt64 >>> ((48 : Int32) &&& 0x3f).toInt64.toUInt64).toInt64)).toInt32)).toInt8.toInt32) (((((((q1).toUInt64 >>> ((40 : Int32) &&& 0x3f).toInt64.toUInt64).toInt64)).toInt32)).toInt8.toInt32) (((((((q1).toUInt64 >>> ((32 : Int32) &&& 0x3f).toInt64.toUInt64).toInt64)).toInt32)).toInt8.toInt32) (((((((q1).toUInt64 >>> ((24 : Int32) &&& 0x3f).toInt64.toUInt64).toInt64)).toInt32)).toInt8.toInt32) (((((((q1).toUInt64 >>> ((16 : Int32) &&& 0x3f).toInt64.toUInt64).toInt64)).toInt32)).toInt8.toInt32) (((((((q1).toUInt64 >>> ((8 : Int32) &&& 0x3f).toInt64.toUInt64).toInt64)).toInt32)).toInt8.toInt32) ((((q1).toInt32)).toInt8.toInt32) (((((((q2).toUInt64 >>> ((56 : Int32) &&& 0x3f).toInt64.toUInt64).toInt64)).toInt32)).toInt8.toInt32) (((((((q2).toUInt64 >>> ((48 : Int32) &&& 0x3f).toInt64.toUInt64).toInt64)).toInt32)).toInt8.toInt32) (((((((q2).toUInt64 >>> ((40 : Int32) &&& 0x3f).toInt64.toUInt64).toInt64)).toInt32)).toInt8.toInt32) (((((((q2).toUInt64 >>> ((32 : Int32) &&& 0x3f).toInt64.toUInt64).toInt64)).toInt32)).toInt8.toInt32) (((((((q2).toUInt64 >>> ((24 : Int32) &&& 0x3f).toInt64.toUInt64).toInt64)).toInt32)).toInt8.toInt32) (((((((q2).toUInt64 >>> ((16 : Int32) &&& 0x3f).toInt64.toUInt64).toInt64)).toInt32)).toInt8.toInt32) (((((((q2).toUInt64 >>> ((8 : Int32) &&& 0x3f).toInt64.toUInt64).toInt64)).toInt32)).toInt8.toInt32) ((((q2).toInt32)).toInt8.toInt32) (0 : Int32) (0 : Int32) (0 : Int32) (0 : Int32) (0 : Int32) (0 : Int32) (0 : Int32) (0 : Int32) T188.heap n0 O188 x188_0 ge182) hZ (hw _ (List.mem_of_getElem? (i := 8) rfl)) (hw _ (List.mem_of_getElem? (i := 7) rfl)) (by decide) (by decide)) (g := (mkF m 85 #[.val (.int p0), .val (.long q0), .second, .val (.long q1), .second, .val (.long q2), .second, .val (.long q3), .second, .val (.int ((p0 &&& (2147483647 : Int32)) % (3 : Int32))), .val (.ref aFFDHE3072), .val (.int (2 : Int32)), .val (.ref a182), .unset] [(.long q3), (.int (24 : Int32)), (.ref a182)])) rfl (by rw [hml]; rfl) (argsL := [(.ref a182), (.int (24 : Int32)), (.long q3)]) (rest := []) (lenOf pd__B_I_J__V rfl) rfl (by show 2 * 0 + _ ≤ _; exact Nat.le_of_eq rfl) (hb hby at_85) (fun _ _ => ⟨rfl, e188, (by decide : 1 + 0 ≤ _), (by decide : 32 + 0 ≤ _)⟩)
      dsimp only [Pt.U, Pt.locs, Pt.cells, Pt.slots] at X190 l190 y190 z190 st190 hQ190
      subst l190 y190 z190
      obtain ⟨rfl, Nq190, K190, x190_0⟩ := hQ190
      have N190 := Fr.app N188 Nq190
      have O190 := O188.keep K190 (allS ge182 all0)
      have e190 : T190.heap = T190.heap := rfl
      have z191 : h0.size ≤ T190.heap.size := Nat.le_trans z189 K190.1
      refine own_go st190 ?_
      show OwnGo p e below _ (T190.setTop (mkF m 88 #[.val (.int p0), .val (.long q0), .second, .val (.long q1), .second, .val (.long q2), .second, .val (.long q3), .second, .val (.int ((p0 &&& (2147483647 : Int32)) % (3 : Int32))), .val (.ref aFFDHE3072), .val (.int (2 : Int32)), .val (.ref a182), .unset] []))
      refine own_go (fun _ k => XS.aload X190.here hx rfl (hb hby at_88) rfl rfl k) ?_
      show OwnGo p e below _ (T190.setTop (mkF m 90 #[.val (.int p0), .val (.long q0), .second, .val (.long q1), .second, .val (.long q2), .second, .val (.long q3), .second, .val (.int ((p0 &&& (2147483647 : Int32)) % (3 : Int32))), .val (.ref aFFDHE3072), .val (.int (2 : Int32)), .val (.ref a182), .unset] [(.ref aFFDHE3072)]))
      refine own_go (fun _ k => XS.aload X190.here hx rfl (hb hby at_90) rfl rfl k) ?_
      show OwnGo p e below _ (T190.setTop (mkF m 92 #[.val (.int p0), .val (.long q0), .second, .val (.long q1), .second, .val (.long q2), .second, .val (.long q3), .second, .val (.int ((p0 &&& (2147483647 : Int32)) % (3 : Int32))), .val (.ref aFFDHE3072), .val (.int (2 : Int32)), .val (.ref a182), .unset] [(.ref a182), (.ref aFFDHE3072)]))
      obtain ⟨_, _, ⟨T192, L192, k192, n192⟩, -, X192, ⟨Lc192, hQ192, l192, y192, z192⟩, st192⟩ := Jvm.LawKit.callS X190 hx (y := (⟨"com/example/portcullis/portcullis/Confirmation", "encode", "(Lcom/example/portcullis/portcullis/Group;[B)[B"⟩ : MethodName)) hown (mvT hZ (hw _ (List.mem_of_getElem? (i := 9) rfl))) (mvT hZ (hw _ (List.mem_of_getElem? (i := 10) rfl))) (mvT hZ (hw _ (List.mem_of_getElem? (i := 11) rfl))) (mvT hZ (hw _ (List.mem_of_getElem? (i := 12) rfl))) (by decide) (backOf (W := 0) (rm_encaFFDHE3072 l Z a0 hw [] aFFDHE2048 aCONFIRMATION aFFDHE4096 aFFDHE3072 F0 a182 k182 (((((((q0).toUInt64 >>> ((56 : Int32) &&& 0x3f).toInt64.toUInt64).toInt64)).toInt32)).toInt8.toInt32) (((((((q0).toUInt64 >>> ((48 : Int32) &&& 0x3f).toInt64.toUInt64).toInt64)).toInt32)).toInt8.toInt32) (((((((q0).toUInt64 >>> ((40 : Int32) &&& 0x3f).toInt64.toUInt64).toInt64)).toInt32)).toInt8.toInt32) (((((((q0).toUInt64 >>> ((32 : Int32) &&& 0x3f).toInt64.toUInt64).toInt64)).toInt32)).toInt8.toInt32) (((((((q0).toUInt64 >>> ((24 : Int32) &&& 0x3f).toInt64.toUInt64).toInt64)).toInt32)).toInt8.toInt32) (((((((q0).toUInt64 >>> ((16 : Int32) &&& 0x3f).toInt64.toUInt64).toInt64)).toInt32)).toInt8.toInt32) (((((((q0).toUInt64 >>> ((8 : Int32) &&& 0x3f).toInt64.toUInt64).toInt64)).toInt32)).toInt8.toInt32) ((((q0).toInt32)).toInt8.toInt32) (((((((q1).toUInt64 >>> ((56 : Int32) &&& 0x3f).toInt64.toUInt64).toInt64)).toInt32)).toInt8.toInt32) (((((((q1).toUInt64 >>> ((48 : Int32) &&& 0x3f).toInt64.toUInt64).toInt64)).toInt32)).toInt8.toInt32) (((((((q1).toUInt64 >>> ((40 : Int32) &&& 0x3f).toInt64.toUInt64).toInt64)).toInt32)).toInt8.toInt32) (((((((q1).toUInt64 >>> ((32 : Int32) &&& 0x3f).toInt64.toUInt64).toInt64)).toInt32)).toInt8.toInt32) (((((((q1).toUInt64 >>> ((24 : Int32) &&& 0x3f).toInt64.toUInt64).toInt64)).toInt32)).toInt8.toInt32) (((((((q1).toUInt64 >>> ((16 : Int32) &&& 0x3f).toInt64.toUInt64).toInt64)).toInt32)).toInt8.toInt32) (((((((q1).toUInt64 >>> ((8 : Int32) &&& 0x3f).toInt64.toUInt64).toInt64)).toInt32)).toInt8.toInt32) ((((q1).toInt32)).toInt8.toInt32) (((((((q2).toUInt64 >>> ((56 : Int32) &&& 0x3f).toInt64.toUInt64).toInt64)).toInt32)).toInt8.toInt32) (((((((q2).toUInt64 >>> ((48 : Int32) &&& 0x3f).toInt64.toUInt64).toInt64)).toInt32)).toInt8.toInt32) (((((((q2).toUInt64 >>> ((40 : Int32) &&& 0x3f).toInt64.toUInt64).toInt64)).toInt32)).toInt8.toInt32) (((((((q2).toUInt64 >>> ((32 : Int32) &&& 0x3f).toInt64.toUInt64).toInt64)).toInt32)).toInt8.toInt32) (((((((q2).toUInt64 >>> ((24 : Int32) &&& 0x3f).toInt64.toUInt64).toInt64)).toInt32)).toInt8.toInt32) (((((((q2).toUInt64 >>> ((16 : Int32) &&& 0x3f).toInt64.toUInt64).toInt64)).toInt32)).toInt8.toInt32) (((((((q2).toUInt64 >>> ((8 : Int32) &&& 0x3f).toInt64.toUInt64).toInt64)).toInt32)).toInt8.toInt32) ((((q2).toInt32)).toInt8.toInt32) (((((((q3).toUInt64 >>> ((56 : Int32) &&& 0x3f).toInt64.toUInt64).toInt64)).toInt32)).toInt8.toInt32) (((((((q3).toUInt64 >>> ((48 : Int32) &&& 0x3f).toInt64.toUInt64).toInt64)).toInt32)).toInt8.toInt32) (((((((q3).toUInt64 >>> ((40 : Int32) &&& 0x3f).toInt64.toUInt64).toInt64)).toInt32)).toInt8.toInt32) (((((((q3).toUInt64 >>> ((32 : Int32) &&& 0x3f).toInt64.toUInt64).toInt64)).toInt32)).toInt8.toInt32) (((((((q3).toUInt64 >>> ((24 : Int32) &&& 0x3f).toInt64.toUInt64).toInt64)).toInt32)).toInt8.toInt32) (((((((q3).toUInt64 >>> ((16 : Int32) &&& 0x3f).toInt64.toUInt64).toInt64)).toInt32)).toInt8.toInt32) (((((((q3).toUInt64 >>> ((8 : Int32) &&& 0x3f).toInt64.toUInt64).toInt64)).toInt32)).toInt8.toInt32) ((((q3).toInt32)).toInt8.toInt32) T190.heap n0 O190 x190_0) hZ (hw _ (List.mem_of_getElem? (i := 12) rfl)) (hw _ (List.mem_of_getElem? (i := 11) rfl)) (by decide) (by decide)) (g := (mkF m 92 #[.val (.int p0), .val (.long q0), .second, .val (.long q1), .second, .val (.long q2), .second, .val (.long q3), .second, .val (.int ((p0 &&& (2147483647 : Int32)) % (3 : Int32))), .val (.ref aFFDHE3072), .val (.int (2 : Int32)), .val (.ref a182), .unset] [(.ref a182), (.ref aFFDHE3072)])) rfl (by rw [hml]; rfl) (argsL := [(.ref aFFDHE3072), (.ref a182)]) (rest := []) (lenOf pd_Lcom_example_portcullis_portcullis_Group___B___B rfl) rfl (by show 2 * 0 + _ ≤ _; exact Nat.le_of_eq rfl) (hb hby at_92) (fun _ _ => ⟨rfl, e190, (by decide : 1 + 1 ≤ _), (by decide : 32 + 35 ≤ _)⟩)
      dsimp only [Pt.U, Pt.locs, Pt.cells, Pt.slots] at X192 l192 y192 z192 st192 hQ192
      subst l192 y192 z192
      obtain ⟨r9_192, k9_192, rfl, Nq192, K192, x192_0, x192_1⟩ := hQ192
      have N192 := Fr.app N190 Nq192
      have O192 := O190.keep K192 all0
      have e192 : T192.heap = T192.heap := rfl
      have z193 : h0.size ≤ T192.heap.size := Nat.le_trans z191 K192.1
      have gex192_1 : n0 ≤ r9_192 := Nat.le_trans (own_sz O190) x192_1
      have ghx192_1 : h0.size ≤ r9_192 := Nat.le_trans z191 x192_1
      have ne194 : a182 ≠ r9_192 := own_newlt x190_0.lt x192_1
      refine own_go st192 ?_
      show OwnGo p e below _ (T192.setTop (mkF m 95 #[.val (.int p0), .val (.long q0), .second, .val (.long q1), .second, .val (.long q2), .second, .val (.long q3), .second, .val (.int ((p0 &&& (2147483647 : Int32)) % (3 : Int32))), .val (.ref aFFDHE3072), .val (.int (2 : Int32)), .val (.ref a182), .unset] [(.ref r9_192)]))
      refine own_go (fun _ k => XS.astore X192.here hx rfl (hb hby at_95) rfl rfl (l' := #[.val (.int p0), .val (.long q0), .second, .val (.long q1), .second, .val (.long q2), .second, .val (.long q3), .second, .val (.int ((p0 &&& (2147483647 : Int32)) % (3 : Int32))), .val (.ref aFFDHE3072), .val (.int (2 : Int32)), .val (.ref a182), .val (.ref r9_192)]) rfl k) ?_
      show OwnGo p e below _ (T192.setTop (mkF m 97 #[.val (.int p0), .val (.long q0), .second, .val (.long q1), .second, .val (.long q2), .second, .val (.long q3), .second, .val (.int ((p0 &&& (2147483647 : Int32)) % (3 : Int32))), .val (.ref aFFDHE3072), .val (.int (2 : Int32)), .val (.ref a182), .val (.ref r9_192)] []))
      refine own_go (fun _ k => XS.aload X192.here hx rfl (hb hby at_97) rfl rfl k) ?_
      show OwnGo p e below _ (T192.setTop (mkF m 99 #[.val (.int p0), .val (.long q0), .second, .val (.long q1), .second, .val (.long q2), .second, .val (.long q3), .second, .val (.int ((p0 &&& (2147483647 : Int32)) % (3 : Int32))), .val (.ref aFFDHE3072), .val (.int (2 : Int32)), .val (.ref a182), .val (.ref r9_192)] [(.ref r9_192)]))
      refine own_go (fun _ k => XS.ifnullNo X192.here hx rfl (hb hby at_99) rfl k) ?_
      show OwnGo p e below _ (T192.setTop (mkF m 102 #[.val (.int p0), .val (.long q0), .second, .val (.long q1), .second, .val (.long q2), .second, .val (.long q3), .second, .val (.int ((p0 &&& (2147483647 : Int32)) % (3 : Int32))), .val (.ref aFFDHE3072), .val (.int (2 : Int32)), .val (.ref a182), .val (.ref r9_192)] []))
      refine own_go (fun _ k => XS.aload X192.here hx rfl (hb hby at_102) rfl rfl k) ?_
      show OwnGo p e below _ (T192.setTop (mkF m 104 #[.val (.int p0), .val (.long q0), .second, .val (.long q1), .second, .val (.long q2), .second, .val (.long q3), .second, .val (.int ((p0 &&& (2147483647 : Int32)) % (3 : Int32))), .val (.ref aFFDHE3072), .val (.int (2 : Int32)), .val (.ref a182), .val (.ref r9_192)] [(.ref r9_192)]))
      obtain ⟨c195, Ar195, q195, S195, M195, H195, G195⟩ := (id x192_0)
      refine own_go (fun _ k => X192.arraylength hx (cell := c195) (by rw [e192]; exact Ar195.1) (State.isArrayOf_alike hZ.alike Ar195.2.1) (g := (mkF m 104 #[.val (.int p0), .val (.long q0), .second, .val (.long q1), .second, .val (.long q2), .second, .val (.long q3), .second, .val (.int ((p0 &&& (2147483647 : Int32)) % (3 : Int32))), .val (.ref aFFDHE3072), .val (.int (2 : Int32)), .val (.ref a182), .val (.ref r9_192)] [(.ref r9_192)])) rfl (rest := []) rfl (hb hby at_104) _ k) ?_
      rw [len_of S195 M195]
      show OwnGo p e below _ (T192.setTop (mkF m 105 #[.val (.int p0), .val (.long q0), .second, .val (.long q1), .second, .val (.long q2), .second, .val (.long q3), .second, .val (.int ((p0 &&& (2147483647 : Int32)) % (3 : Int32))), .val (.ref aFFDHE3072), .val (.int (2 : Int32)), .val (.ref a182), .val (.ref r9_192)] [(.int (35 : Int32))]))
      refine own_go (fun _ k => XS.bipush X192.here hx rfl (hb hby at_105) k) ?_
      show OwnGo p e below _ (T192.setTop (mkF m 107 #[.val (.int p0), .val (.long q0), .second, .val (.long q1), .second, .val (.long q2), .second, .val (.long q3), .second, .val (.int ((p0 &&& (2147483647 : Int32)) % (3 : Int32))), .val (.ref aFFDHE3072), .val (.int (2 : Int32)), .val (.ref a182), .val (.ref r9_192)] [(.int (35 : Int32)), (.int (35 : Int32))]))
      refine own_go (fun _ k => XS.icmpYes X192.here hx rfl (pc0 := 107) (pc' := 112) rfl (hb hby at_107) rfl (by decide) (by decide) (by decide) k) ?_
      show OwnGo p e below _ (T192.setTop (mkF m 112 #[.val (.int p0), .val (.long q0), .second, .val (.long q1), .second, .val (.long q2), .second, .val (.long q3), .second, .val (.int ((p0 &&& (2147483647 : Int32)) % (3 : Int32))), .val (.ref aFFDHE3072), .val (.int (2 : Int32)), .val (.ref a182), .val (.ref r9_192)] []))
      refine own_go (fun _ k => XS.aload X192.here hx rfl (hb hby at_112) rfl rfl k) ?_
      show OwnGo p e below _ (T192.setTop (mkF m 114 #[.val (.int p0), .val (.long q0), .second, .val (.long q1), .second, .val (.long q2), .second, .val (.long q3), .second, .val (.int ((p0 &&& (2147483647 : Int32)) % (3 : Int32))), .val (.ref aFFDHE3072), .val (.int (2 : Int32)), .val (.ref a182), .val (.ref r9_192)] [(.ref r9_192)]))
      refine own_go (fun _ k => XS.iconst X192.here hx rfl (hb hby at_114) k) ?_
      show OwnGo p e below _ (T192.setTop (mkF m 115 #[.val (.int p0), .val (.long q0), .second, .val (.long q1), .second, .val (.long q2), .second, .val (.long q3), .second, .val (.int ((p0 &&& (2147483647 : Int32)) % (3 : Int32))), .val (.ref aFFDHE3072), .val (.int (2 : Int32)), .val (.ref a182), .val (.ref r9_192)] [(.int (0 : Int32)), (.ref r9_192)]))
      obtain ⟨c196, Ar196, q196, S196, M196, H196, G196⟩ := (id x192_0)
      refine own_go (fun _ k => X192.baloadBytes hx (j := (0 : Int32)) (v := (.int (1 : Int32))) (by rw [e192]; exact Ar196.1) (State.isArrayOf_alike hZ.alike Ar196.2.1) Ar196.2.2 (inb_of S196 ⟨by decide, by decide⟩) (Has.at H196 (inb_of S196 ⟨by decide, by decide⟩) rfl) (g := (mkF m 115 #[.val (.int p0), .val (.long q0), .second, .val (.long q1), .second, .val (.long q2), .second, .val (.long q3), .second, .val (.int ((p0 &&& (2147483647 : Int32)) % (3 : Int32))), .val (.ref aFFDHE3072), .val (.int (2 : Int32)), .val (.ref a182), .val (.ref r9_192)] [(.int (0 : Int32)), (.ref r9_192)])) rfl rfl (hb hby at_115) _ k) ?_
      show OwnGo p e below _ (T192.setTop (mkF m 116 #[.val (.int p0), .val (.long q0), .second, .val (.long q1), .second, .val (.long q2), .second, .val (.long q3), .second, .val (.int ((p0 &&& (2147483647 : Int32)) % (3 : Int32))), .val (.ref aFFDHE3072), .val (.int (2 : Int32)), .val (.ref a182), .val (.ref r9_192)] [(.int (1 : Int32))]))
      refine own_go (fun _ k => XS.iconst X192.here hx rfl (hb hby at_116) k) ?_
      show OwnGo p e below _ (T192.setTop (mkF m 117 #[.val (.int p0), .val (.long q0), .second, .val (.long q1), .second, .val (.long q2), .second, .val (.long q3), .second, .val (.int ((p0 &&& (2147483647 : Int32)) % (3 : Int32))), .val (.ref aFFDHE3072), .val (.int (2 : Int32)), .val (.ref a182), .val (.ref r9_192)] [(.int (1 : Int32)), (.int (1 : Int32))]))
      refine own_go (fun _ k => XS.icmpNo X192.here hx rfl (hb hby at_117) rfl (by decide) k) ?_
      show OwnGo p e below _ (T192.setTop (mkF m 120 #[.val (.int p0), .val (.long q0), .second, .val (.long q1), .second, .val (.long q2), .second, .val (.long q3), .second, .val (.int ((p0 &&& (2147483647 : Int32)) % (3 : Int32))), .val (.ref aFFDHE3072), .val (.int (2 : Int32)), .val (.ref a182), .val (.ref r9_192)] []))
      refine own_go (fun _ k => XS.aload X192.here hx rfl (hb hby at_120) rfl rfl k) ?_
      show OwnGo p e below _ (T192.setTop (mkF m 122 #[.val (.int p0), .val (.long q0), .second, .val (.long q1), .second, .val (.long q2), .second, .val (.long q3), .second, .val (.int ((p0 &&& (2147483647 : Int32)) % (3 : Int32))), .val (.ref aFFDHE3072), .val (.int (2 : Int32)), .val (.ref a182), .val (.ref r9_192)] [(.ref r9_192)]))
      refine own_go (fun _ k => XS.iconst X192.here hx rfl (hb hby at_122) k) ?_
      show OwnGo p e below _ (T192.setTop (mkF m 123 #[.val (.int p0), .val (.long q0), .second, .val (.long q1), .second, .val (.long q2), .second, .val (.long q3), .second, .val (.int ((p0 &&& (2147483647 : Int32)) % (3 : Int32))), .val (.ref aFFDHE3072), .val (.int (2 : Int32)), .val (.ref a182), .val (.ref r9_192)] [(.int (1 : Int32)), (.ref r9_192)]))
      obtain ⟨c197, Ar197, q197, S197, M197, H197, G197⟩ := (id x192_0)
      refine own_go (fun _ k => X192.baloadBytes hx (j := (1 : Int32)) (v := (.int (2 : Int32))) (by rw [e192]; exact Ar197.1) (State.isArrayOf_alike hZ.alike Ar197.2.1) Ar197.2.2 (inb_of S197 ⟨by decide, by decide⟩) (Has.at H197 (inb_of S197 ⟨by decide, by decide⟩) rfl) (g := (mkF m 123 #[.val (.int p0), .val (.long q0), .second, .val (.long q1), .second, .val (.long q2), .second, .val (.long q3), .second, .val (.int ((p0 &&& (2147483647 : Int32)) % (3 : Int32))), .val (.ref aFFDHE3072), .val (.int (2 : Int32)), .val (.ref a182), .val (.ref r9_192)] [(.int (1 : Int32)), (.ref r9_192)])) rfl rfl (hb hby at_123) _ k) ?_
      show OwnGo p e below _ (T192.setTop (mkF m 124 #[.val (.int p0), .val (.long q0), .second, .val (.long q1), .second, .val (.long q2), .second, .val (.long q3), .second, .val (.int ((p0 &&& (2147483647 : Int32)) % (3 : Int32))), .val (.ref aFFDHE3072), .val (.int (2 : Int32)), .val (.ref a182), .val (.ref r9_192)] [(.int (2 : Int32))]))
      refine own_go (fun _ k => XS.iconst X192.here hx rfl (hb hby at_124) k) ?_
      show OwnGo p e below _ (T192.setTop (mkF m 125 #[.val (.int p0), .val (.long q0), .second, .val (.long q1), .second, .val (.long q2), .second, .val (.long q3), .second, .val (.int ((p0 &&& (2147483647 : Int32)) % (3 : Int32))), .val (.ref aFFDHE3072), .val (.int (2 : Int32)), .val (.ref a182), .val (.ref r9_192)] [(.int (2 : Int32)), (.int (2 : Int32))]))
      refine own_go (fun _ k => XS.icmpNo X192.here hx rfl (hb hby at_125) rfl (by decide) k) ?_
      show OwnGo p e below _ (T192.setTop (mkF m 128 #[.val (.int p0), .val (.long q0), .second, .val (.long q1), .second, .val (.long q2), .second, .val (.long q3), .second, .val (.int ((p0 &&& (2147483647 : Int32)) % (3 : Int32))), .val (.ref aFFDHE3072), .val (.int (2 : Int32)), .val (.ref a182), .val (.ref r9_192)] []))
      refine own_go (fun _ k => XS.aload X192.here hx rfl (hb hby at_128) rfl rfl k) ?_
      show OwnGo p e below _ (T192.setTop (mkF m 130 #[.val (.int p0), .val (.long q0), .second, .val (.long q1), .second, .val (.long q2), .second, .val (.long q3), .second, .val (.int ((p0 &&& (2147483647 : Int32)) % (3 : Int32))), .val (.ref aFFDHE3072), .val (.int (2 : Int32)), .val (.ref a182), .val (.ref r9_192)] [(.ref r9_192)]))
      refine own_go (fun _ k => XS.iconst X192.here hx rfl (hb hby at_130) k) ?_
      show OwnGo p e below _ (T192.setTop (mkF m 131 #[.val (.int p0), .val (.long q0), .second, .val (.long q1), .second, .val (.long q2), .second, .val (.long q3), .second, .val (.int ((p0 &&& (2147483647 : Int32)) % (3 : Int32))), .val (.ref aFFDHE3072), .val (.int (2 : Int32)), .val (.ref a182), .val (.ref r9_192)] [(.int (2 : Int32)), (.ref r9_192)]))
      obtain ⟨c198, Ar198, q198, S198, M198, H198, G198⟩ := (id x192_0)
      refine own_go (fun _ k => X192.baloadBytes hx (j := (2 : Int32)) (v := (.int (2 : Int32))) (by rw [e192]; exact Ar198.1) (State.isArrayOf_alike hZ.alike Ar198.2.1) Ar198.2.2 (inb_of S198 ⟨by decide, by decide⟩) (Has.at H198 (inb_of S198 ⟨by decide, by decide⟩) rfl) (g := (mkF m 131 #[.val (.int p0), .val (.long q0), .second, .val (.long q1), .second, .val (.long q2), .second, .val (.long q3), .second, .val (.int ((p0 &&& (2147483647 : Int32)) % (3 : Int32))), .val (.ref aFFDHE3072), .val (.int (2 : Int32)), .val (.ref a182), .val (.ref r9_192)] [(.int (2 : Int32)), (.ref r9_192)])) rfl rfl (hb hby at_131) _ k) ?_
      show OwnGo p e below _ (T192.setTop (mkF m 132 #[.val (.int p0), .val (.long q0), .second, .val (.long q1), .second, .val (.long q2), .second, .val (.long q3), .second, .val (.int ((p0 &&& (2147483647 : Int32)) % (3 : Int32))), .val (.ref aFFDHE3072), .val (.int (2 : Int32)), .val (.ref a182), .val (.ref r9_192)] [(.int (2 : Int32))]))
      refine own_go (fun _ k => XS.iload X192.here hx rfl (hb hby at_132) rfl k) ?_
      show OwnGo p e below _ (T192.setTop (mkF m 134 #[.val (.int p0), .val (.long q0), .second, .val (.long q1), .second, .val (.long q2), .second, .val (.long q3), .second, .val (.int ((p0 &&& (2147483647 : Int32)) % (3 : Int32))), .val (.ref aFFDHE3072), .val (.int (2 : Int32)), .val (.ref a182), .val (.ref r9_192)] [(.int (2 : Int32)), (.int (2 : Int32))]))
      refine own_go (fun _ k => XS.icmpYes X192.here hx rfl (pc0 := 134) (pc' := 139) rfl (hb hby at_134) rfl (by decide) (by decide) (by decide) k) ?_
      show OwnGo p e below _ (T192.setTop (mkF m 139 #[.val (.int p0), .val (.long q0), .second, .val (.long q1), .second, .val (.long q2), .second, .val (.long q3), .second, .val (.int ((p0 &&& (2147483647 : Int32)) % (3 : Int32))), .val (.ref aFFDHE3072), .val (.int (2 : Int32)), .val (.ref a182), .val (.ref r9_192)] []))
      refine own_go (fun _ k => XS.aload X192.here hx rfl (hb hby at_139) rfl rfl k) ?_
      show OwnGo p e below _ (T192.setTop (mkF m 141 #[.val (.int p0), .val (.long q0), .second, .val (.long q1), .second, .val (.long q2), .second, .val (.long q3), .second, .val (.int ((p0 &&& (2147483647 : Int32)) % (3 : Int32))), .val (.ref aFFDHE3072), .val (.int (2 : Int32)), .val (.ref a182), .val (.ref r9_192)] [(.ref r9_192)]))
      refine own_go (fun _ k => XS.iconst X192.here hx rfl (hb hby at_141) k) ?_
      show OwnGo p e below _ (T192.setTop (mkF m 142 #[.val (.int p0), .val (.long q0), .second, .val (.long q1), .second, .val (.long q2), .second, .val (.long q3), .second, .val (.int ((p0 &&& (2147483647 : Int32)) % (3 : Int32))), .val (.ref aFFDHE3072), .val (.int (2 : Int32)), .val (.ref a182), .val (.ref r9_192)] [(.int (3 : Int32)), (.ref r9_192)]))
      refine own_go (fun _ k => XS.lloadN X192.here hx rfl (hb hby at_142) rfl k) ?_
      show OwnGo p e below _ (T192.setTop (mkF m 143 #[.val (.int p0), .val (.long q0), .second, .val (.long q1), .second, .val (.long q2), .second, .val (.long q3), .second, .val (.int ((p0 &&& (2147483647 : Int32)) % (3 : Int32))), .val (.ref aFFDHE3072), .val (.int (2 : Int32)), .val (.ref a182), .val (.ref r9_192)] [(.long q0), (.int (3 : Int32)), (.ref r9_192)]))
      obtain ⟨_, _, ⟨T199, L199, k199, n199⟩, -, X199, ⟨Lc199, hQ199, l199, y199, z199⟩, st199⟩ := Jvm.LawKit.callS X192 hx (y := (⟨"com/example/portcullis/portcullis/ConfirmationEncodePinLaw", "same", "([BIJ)Z"⟩ : MethodName)) hown (mvT hZ (hw _ (List.mem_of_getElem? (i := 34) rfl))) (mvT hZ (hw _ (List.mem_of_getElem? (i := 35) rfl))) (mvT hZ (hw _ (List.mem_of_getElem? (i := 7) rfl))) (mvT hZ (hw _ (List.mem_of_getElem? (i := 36) rfl))) (by decide) (backOf (W := 0) (rm_same3 l Z a0 hw [] aFFDHE2048 aCONFIRMATION aFFDHE4096 aFFDHE3072 F0 r9_192 q0 k9_192 (1 : Int32) (2 : Int32) (2 : Int32) (((((((q1).toUInt64 >>> ((56 : Int32) &&& 0x3f).toInt64.toUInt64).toInt64)).toInt32)).toInt8.toInt32) (((((((q1).toUInt64 >>> ((48 : Int32) &&& 0x3f).toInt64.toUInt64).toInt64)).toInt32)).toInt8.toInt32) (((((((q1).toUInt64 >>> ((40 : Int32) &&& 0x3f).toInt64.toUInt64).toInt64)).toInt32)).toInt8.toInt32) (((((((q1).toUInt64 >>> ((32 : Int32) &&& 0x3f).toInt64.toUInt64).toInt64)).toInt32)).toInt8.toInt32) (((((((q1).toUInt64 >>> ((24 : Int32) &&& 0x3f).toInt64.toUInt64).toInt64)).toInt32)).toInt8.toInt32) (((((((q1).toUInt64 >>> ((16 : Int32) &&& 0x3f).toInt64.toUInt64).toInt64)).toInt32)).toInt8.toInt32) (((((((q1).toUInt64 >>> ((8 : Int32) &&& 0x3f).toInt64.toUInt64).toInt64)).toInt32)).toInt8.toInt32) ((((q1).toInt32)).toInt8.toInt32) (((((((q2).toUInt64 >>> ((56 : Int32) &&& 0x3f).toInt64.toUInt64).toInt64)).toInt32)).toInt8.toInt32) (((((((q2).toUInt64 >>> ((48 : Int32) &&& 0x3f).toInt64.toUInt64).toInt64)).toInt32)).toInt8.toInt32) (((((((q2).toUInt64 >>> ((40 : Int32) &&& 0x3f).toInt64.toUInt64).toInt64)).toInt32)).toInt8.toInt32) (((((((q2).toUInt64 >>> ((32 : Int32) &&& 0x3f).toInt64.toUInt64).toInt64)).toInt32)).toInt8.toInt32) (((((((q2).toUInt64 >>> ((24 : Int32) &&& 0x3f).toInt64.toUInt64).toInt64)).toInt32)).toInt8.toInt32) (((((((q2).toUInt64 >>> ((16 : Int32) &&& 0x3f).toInt64.toUInt64).toInt64)).toInt32)).toInt8.toInt32) (((((((q2).toUInt64 >>> ((8 : Int32) &&& 0x3f).toInt64.toUInt64).toInt64)).toInt32)).toInt8.toInt32) ((((q2).toInt32)).toInt8.toInt32) (((((((q3).toUInt64 >>> ((56 : Int32) &&& 0x3f).toInt64.toUInt64).toInt64)).toInt32)).toInt8.toInt32) (((((((q3).toUInt64 >>> ((48 : Int32) &&& 0x3f).toInt64.toUInt64).toInt64)).toInt32)).toInt8.toInt32) (((((((q3).toUInt64 >>> ((40 : Int32) &&& 0x3f).toInt64.toUInt64).toInt64)).toInt32)).toInt8.toInt32) (((((((q3).toUInt64 >>> ((32 : Int32) &&& 0x3f).toInt64.toUInt64).toInt64)).toInt32)).toInt8.toInt32) (((((((q3).toUInt64 >>> ((24 : Int32) &&& 0x3f).toInt64.toUInt64).toInt64)).toInt32)).toInt8.toInt32) (((((((q3).toUInt64 >>> ((16 : Int32) &&& 0x3f).toInt64.toUInt64).toInt64)).toInt32)).toInt8.toInt32) (((((((q3).toUInt64 >>> ((8 : Int32) &&& 0x3f).toInt64.toUInt64).toInt64)).toInt32)).toInt8.toInt32) ((((q3).toInt32)).toInt8.toInt32) T192.heap n0 O192 x192_0) hZ (hw _ (List.mem_of_getElem? (i := 36) rfl)) (hw _ (List.mem_of_getElem? (i := 7) rfl)) (by decide) (by decide)) (g := (mkF m 143 #[.val (.int p0), .val (.long q0), .second, .val (.long q1), .second, .val (.long q2), .second, .val (.long q3), .second, .val (.int ((p0 &&& (2147483647 : Int32)) % (3 : Int32))), .val (.ref aFFDHE3072), .val (.int (2 : Int32)), .val (.ref a182), .val (.ref r9_192)] [(.long q0), (.int (3 : Int32)), (.ref r9_192)])) rfl (by rw [hml]; rfl) (argsL := [(.ref r9_192), (.int (3 : Int32)), (.long q0)]) (rest := []) (lenOf pd__B_I_J__Z rfl) rfl (by show 2 * 0 + _ ≤ _; exact Nat.le_of_eq rfl) (hb hby at_143) (fun _ _ => ⟨rfl, e192, (by decide : 2 + 0 ≤ _), (by decide : 67 + 0 ≤ _)⟩)
      dsimp only [Pt.U, Pt.locs, Pt.cells, Pt.slots] at X199 l199 y199 z199 st199 hQ199
      subst l199 y199 z199
      obtain ⟨rfl, Nq199, K199⟩ := hQ199
      have N199 := Fr.app N192 Nq199
      refine own_go st199 ?_
      show OwnGo p e below _ (T199.setTop (mkF m 146 #[.val (.int p0), .val (.long q0), .second, .val (.long q1), .second, .val (.long q2), .second, .val (.long q3), .second, .val (.int ((p0 &&& (2147483647 : Int32)) % (3 : Int32))), .val (.ref aFFDHE3072), .val (.int (2 : Int32)), .val (.ref a182), .val (.ref r9_192)] [(.int (1 : Int32))]))
      refine own_go (fun _ k => XS.ifNo X199.here hx rfl (hb hby at_146) rfl (by decide) k) ?_
      show OwnGo p e below _ (T199.setTop (mkF m 149 #[.val (.int p0), .val (.long q0), .second, .val (.long q1), .second, .val (.long q2), .second, .val (.long q3), .second, .val (.int ((p0 &&& (2147483647 : Int32)) % (3 : Int32))), .val (.ref aFFDHE3072), .val (.int (2 : Int32)), .val (.ref a182), .val (.ref r9_192)] []))
      refine own_go (fun _ k => XS.aload X199.here hx rfl (hb hby at_149) rfl rfl k) ?_
      show OwnGo p e below _ (T199.setTop (mkF m 151 #[.val (.int p0), .val (.long q0), .second, .val (.long q1), .second, .val (.long q2), .second, .val (.long q3), .second, .val (.int ((p0 &&& (2147483647 : Int32)) % (3 : Int32))), .val (.ref aFFDHE3072), .val (.int (2 : Int32)), .val (.ref a182), .val (.ref r9_192)] [(.ref r9_192)]))
      refine own_go (fun _ k => XS.bipush X199.here hx rfl (hb hby at_151) k) ?_
      show OwnGo p e below _ (T199.setTop (mkF m 153 #[.val (.int p0), .val (.long q0), .second, .val (.long q1), .second, .val (.long q2), .second, .val (.long q3), .second, .val (.int ((p0 &&& (2147483647 : Int32)) % (3 : Int32))), .val (.ref aFFDHE3072), .val (.int (2 : Int32)), .val (.ref a182), .val (.ref r9_192)] [(.int (11 : Int32)), (.ref r9_192)]))
      refine own_go (fun _ k => XS.lloadN X199.here hx rfl (hb hby at_153) rfl k) ?_
      show OwnGo p e below _ (T199.setTop (mkF m 154 #[.val (.int p0), .val (.long q0), .second, .val (.long q1), .second, .val (.long q2), .second, .val (.long q3), .second, .val (.int ((p0 &&& (2147483647 : Int32)) % (3 : Int32))), .val (.ref aFFDHE3072), .val (.int (2 : Int32)), .val (.ref a182), .val (.ref r9_192)] [(.long q1), (.int (11 : Int32)), (.ref r9_192)]))
      obtain ⟨_, _, ⟨T200, L200, k200, n200⟩, -, X200, ⟨Lc200, hQ200, l200, y200, z200⟩, st200⟩ := Jvm.LawKit.callS X199 hx (y := (⟨"com/example/portcullis/portcullis/ConfirmationEncodePinLaw", "same", "([BIJ)Z"⟩ : MethodName)) hown (mvT hZ (hw _ (List.mem_of_getElem? (i := 34) rfl))) (mvT hZ (hw _ (List.mem_of_getElem? (i := 35) rfl))) (mvT hZ (hw _ (List.mem_of_getElem? (i := 7) rfl))) (mvT hZ (hw _ (List.mem_of_getElem? (i := 36) rfl))) (by decide) (backOf (W := 0) (rm_same11 l Z a0 hw [] aFFDHE2048 aCONFIRMATION aFFDHE4096 aFFDHE3072 F0 r9_192 q1 k9_192 (1 : Int32) (2 : Int32) (2 : Int32) (((((((q0).toUInt64 >>> ((56 : Int32) &&& 0x3f).toInt64.toUInt64).toInt64)).toInt32)).toInt8.toInt32) (((((((q0).toUInt64 >>> ((48 : Int32) &&& 0x3f).toInt64.toUInt64).toInt64)).toInt32)).toInt8.toInt32) (((((((q0).toUInt64 >>> ((40 : Int32) &&& 0x3f).toInt64.toUInt64).toInt64)).toInt32)).toInt8.toInt32) (((((((q0).toUInt64 >>> ((32 : Int32) &&& 0x3f).toInt64.toUInt64).toInt64)).toInt32)).toInt8.toInt32) (((((((q0).toUInt64 >>> ((24 : Int32) &&& 0x3f).toInt64.toUInt64).toInt64)).toInt32)).toInt8.toInt32) (((((((q0).toUInt64 >>> ((16 : Int32) &&& 0x3f).toInt64.toUInt64).toInt64)).toInt32)).toInt8.toInt32) (((((((q0).toUInt64 >>> ((8 : Int32) &&& 0x3f).toInt64.toUInt64).toInt64)).toInt32)).toInt8.toInt32) ((((q0).toInt32)).toInt8.toInt32) (((((((q2).toUInt64 >>> ((56 : Int32) &&& 0x3f).toInt64.toUInt64).toInt64)).toInt32)).toInt8.toInt32) (((((((q2).toUInt64 >>> ((48 : Int32) &&& 0x3f).toInt64.toUInt64).toInt64)).toInt32)).toInt8.toInt32) (((((((q2).toUInt64 >>> ((40 : Int32) &&& 0x3f).toInt64.toUInt64).toInt64)).toInt32)).toInt8.toInt32) (((((((q2).toUInt64 >>> ((32 : Int32) &&& 0x3f).toInt64.toUInt64).toInt64)).toInt32)).toInt8.toInt32) (((((((q2).toUInt64 >>> ((24 : Int32) &&& 0x3f).toInt64.toUInt64).toInt64)).toInt32)).toInt8.toInt32) (((((((q2).toUInt64 >>> ((16 : Int32) &&& 0x3f).toInt64.toUInt64).toInt64)).toInt32)).toInt8.toInt32) (((((((q2).toUInt64 >>> ((8 : Int32) &&& 0x3f).toInt64.toUInt64).toInt64)).toInt32)).toInt8.toInt32) ((((q2).toInt32)).toInt8.toInt32) (((((((q3).toUInt64 >>> ((56 : Int32) &&& 0x3f).toInt64.toUInt64).toInt64)).toInt32)).toInt8.toInt32) (((((((q3).toUInt64 >>> ((48 : Int32) &&& 0x3f).toInt64.toUInt64).toInt64)).toInt32)).toInt8.toInt32) (((((((q3).toUInt64 >>> ((40 : Int32) &&& 0x3f).toInt64.toUInt64).toInt64)).toInt32)).toInt8.toInt32) (((((((q3).toUInt64 >>> ((32 : Int32) &&& 0x3f).toInt64.toUInt64).toInt64)).toInt32)).toInt8.toInt32) (((((((q3).toUInt64 >>> ((24 : Int32) &&& 0x3f).toInt64.toUInt64).toInt64)).toInt32)).toInt8.toInt32) (((((((q3).toUInt64 >>> ((16 : Int32) &&& 0x3f).toInt64.toUInt64).toInt64)).toInt32)).toInt8.toInt32) (((((((q3).toUInt64 >>> ((8 : Int32) &&& 0x3f).toInt64.toUInt64).toInt64)).toInt32)).toInt8.toInt32) ((((q3).toInt32)).toInt8.toInt32) T192.heap n0 O192 x192_0) hZ (hw _ (List.mem_of_getElem? (i := 36) rfl)) (hw _ (List.mem_of_getElem? (i := 7) rfl)) (by decide) (by decide)) (g := (mkF m 154 #[.val (.int p0), .val (.long q0), .second, .val (.long q1), .second, .val (.long q2), .second, .val (.long q3), .second, .val (.int ((p0 &&& (2147483647 : Int32)) % (3 : Int32))), .val (.ref aFFDHE3072), .val (.int (2 : Int32)), .val (.ref a182), .val (.ref r9_192)] [(.long q1), (.int (11 : Int32)), (.ref r9_192)])) rfl (by rw [hml]; rfl) (argsL := [(.ref r9_192), (.int (11 : Int32)), (.long q1)]) (rest := []) (lenOf pd__B_I_J__Z rfl) rfl (by show 2 * 0 + _ ≤ _; exact Nat.le_of_eq rfl) (hb hby at_154) (fun _ _ => ⟨rfl, K199, (by decide : 2 + 0 ≤ _), (by decide : 67 + 0 ≤ _)⟩)
      dsimp only [Pt.U, Pt.locs, Pt.cells, Pt.slots] at X200 l200 y200 z200 st200 hQ200
      subst l200 y200 z200
      obtain ⟨rfl, Nq200, K200⟩ := hQ200
      have N200 := Fr.app N199 Nq200
      refine own_go st200 ?_
      show OwnGo p e below _ (T200.setTop (mkF m 157 #[.val (.int p0), .val (.long q0), .second, .val (.long q1), .second, .val (.long q2), .second, .val (.long q3), .second, .val (.int ((p0 &&& (2147483647 : Int32)) % (3 : Int32))), .val (.ref aFFDHE3072), .val (.int (2 : Int32)), .val (.ref a182), .val (.ref r9_192)] [(.int (1 : Int32))]))
      refine own_go (fun _ k => XS.ifNo X200.here hx rfl (hb hby at_157) rfl (by decide) k) ?_
      show OwnGo p e below _ (T200.setTop (mkF m 160 #[.val (.int p0), .val (.long q0), .second, .val (.long q1), .second, .val (.long q2), .second, .val (.long q3), .second, .val (.int ((p0 &&& (2147483647 : Int32)) % (3 : Int32))), .val (.ref aFFDHE3072), .val (.int (2 : Int32)), .val (.ref a182), .val (.ref r9_192)] []))
      refine own_go (fun _ k => XS.aload X200.here hx rfl (hb hby at_160) rfl rfl k) ?_
      show OwnGo p e below _ (T200.setTop (mkF m 162 #[.val (.int p0), .val (.long q0), .second, .val (.long q1), .second, .val (.long q2), .second, .val (.long q3), .second, .val (.int ((p0 &&& (2147483647 : Int32)) % (3 : Int32))), .val (.ref aFFDHE3072), .val (.int (2 : Int32)), .val (.ref a182), .val (.ref r9_192)] [(.ref r9_192)]))
      refine own_go (fun _ k => XS.bipush X200.here hx rfl (hb hby at_162) k) ?_
      show OwnGo p e below _ (T200.setTop (mkF m 164 #[.val (.int p0), .val (.long q0), .second, .val (.long q1), .second, .val (.long q2), .second, .val (.long q3), .second, .val (.int ((p0 &&& (2147483647 : Int32)) % (3 : Int32))), .val (.ref aFFDHE3072), .val (.int (2 : Int32)), .val (.ref a182), .val (.ref r9_192)] [(.int (19 : Int32)), (.ref r9_192)]))
      refine own_go (fun _ k => XS.lload X200.here hx rfl (hb hby at_164) rfl k) ?_
      show OwnGo p e below _ (T200.setTop (mkF m 166 #[.val (.int p0), .val (.long q0), .second, .val (.long q1), .second, .val (.long q2), .second, .val (.long q3), .second, .val (.int ((p0 &&& (2147483647 : Int32)) % (3 : Int32))), .val (.ref aFFDHE3072), .val (.int (2 : Int32)), .val (.ref a182), .val (.ref r9_192)] [(.long q2), (.int (19 : Int32)), (.ref r9_192)]))
      obtain ⟨_, _, ⟨T201, L201, k201, n201⟩, -, X201, ⟨Lc201, hQ201, l201, y201, z201⟩, st201⟩ := Jvm.LawKit.callS X200 hx (y := (⟨"com/example/portcullis/portcullis/ConfirmationEncodePinLaw", "same", "([BIJ)Z"⟩ : MethodName)) hown (mvT hZ (hw _ (List.mem_of_getElem? (i := 34) rfl))) (mvT hZ (hw _ (List.mem_of_getElem? (i := 35) rfl))) (mvT hZ (hw _ (List.mem_of_getElem? (i := 7) rfl))) (mvT hZ (hw _ (List.mem_of_getElem? (i := 36) rfl))) (by decide) (backOf (W := 0) (rm_same19 l Z a0 hw [] aFFDHE2048 aCONFIRMATION aFFDHE4096 aFFDHE3072 F0 r9_192 q2 k9_192 (1 : Int32) (2 : Int32) (2 : Int32) (((((((q0).toUInt64 >>> ((56 : Int32) &&& 0x3f).toInt64.toUInt64).toInt64)).toInt32)).toInt8.toInt32) (((((((q0).toUInt64 >>> ((48 : Int32) &&& 0x3f).toInt64.toUInt64).toInt64)).toInt32)).toInt8.toInt32) (((((((q0).toUInt64 >>> ((40 : Int32) &&& 0x3f).toInt64.toUInt64).toInt64)).toInt32)).toInt8.toInt32) (((((((q0).toUInt64 >>> ((32 : Int32) &&& 0x3f).toInt64.toUInt64).toInt64)).toInt32)).toInt8.toInt32) (((((((q0).toUInt64 >>> ((24 : Int32) &&& 0x3f).toInt64.toUInt64).toInt64)).toInt32)).toInt8.toInt32) (((((((q0).toUInt64 >>> ((16 : Int32) &&& 0x3f).toInt64.toUInt64).toInt64)).toInt32)).toInt8.toInt32) (((((((q0).toUInt64 >>> ((8 : Int32) &&& 0x3f).toInt64.toUInt64).toInt64)).toInt32)).toInt8.toInt32) ((((q0).toInt32)).toInt8.toInt32) (((((((q1).toUInt64 >>> ((56 : Int32) &&& 0x3f).toInt64.toUInt64).toInt64)).toInt32)).toInt8.toInt32) (((((((q1).toUInt64 >>> ((48 : Int32) &&& 0x3f).toInt64.toUInt64).toInt64)).toInt32)).toInt8.toInt32) (((((((q1).toUInt64 >>> ((40 : Int32) &&& 0x3f).toInt64.toUInt64).toInt64)).toInt32)).toInt8.toInt32) (((((((q1).toUInt64 >>> ((32 : Int32) &&& 0x3f).toInt64.toUInt64).toInt64)).toInt32)).toInt8.toInt32) (((((((q1).toUInt64 >>> ((24 : Int32) &&& 0x3f).toInt64.toUInt64).toInt64)).toInt32)).toInt8.toInt32) (((((((q1).toUInt64 >>> ((16 : Int32) &&& 0x3f).toInt64.toUInt64).toInt64)).toInt32)).toInt8.toInt32) (((((((q1).toUInt64 >>> ((8 : Int32) &&& 0x3f).toInt64.toUInt64).toInt64)).toInt32)).toInt8.toInt32) ((((q1).toInt32)).toInt8.toInt32) (((((((q3).toUInt64 >>> ((56 : Int32) &&& 0x3f).toInt64.toUInt64).toInt64)).toInt32)).toInt8.toInt32) (((((((q3).toUInt64 >>> ((48 : Int32) &&& 0x3f).toInt64.toUInt64).toInt64)).toInt32)).toInt8.toInt32) (((((((q3).toUInt64 >>> ((40 : Int32) &&& 0x3f).toInt64.toUInt64).toInt64)).toInt32)).toInt8.toInt32) (((((((q3).toUInt64 >>> ((32 : Int32) &&& 0x3f).toInt64.toUInt64).toInt64)).toInt32)).toInt8.toInt32) (((((((q3).toUInt64 >>> ((24 : Int32) &&& 0x3f).toInt64.toUInt64).toInt64)).toInt32)).toInt8.toInt32) (((((((q3).toUInt64 >>> ((16 : Int32) &&& 0x3f).toInt64.toUInt64).toInt64)).toInt32)).toInt8.toInt32) (((((((q3).toUInt64 >>> ((8 : Int32) &&& 0x3f).toInt64.toUInt64).toInt64)).toInt32)).toInt8.toInt32) ((((q3).toInt32)).toInt8.toInt32) T192.heap n0 O192 x192_0) hZ (hw _ (List.mem_of_getElem? (i := 36) rfl)) (hw _ (List.mem_of_getElem? (i := 7) rfl)) (by decide) (by decide)) (g := (mkF m 166 #[.val (.int p0), .val (.long q0), .second, .val (.long q1), .second, .val (.long q2), .second, .val (.long q3), .second, .val (.int ((p0 &&& (2147483647 : Int32)) % (3 : Int32))), .val (.ref aFFDHE3072), .val (.int (2 : Int32)), .val (.ref a182), .val (.ref r9_192)] [(.long q2), (.int (19 : Int32)), (.ref r9_192)])) rfl (by rw [hml]; rfl) (argsL := [(.ref r9_192), (.int (19 : Int32)), (.long q2)]) (rest := []) (lenOf pd__B_I_J__Z rfl) rfl (by show 2 * 0 + _ ≤ _; exact Nat.le_of_eq rfl) (hb hby at_166) (fun _ _ => ⟨rfl, K200, (by decide : 2 + 0 ≤ _), (by decide : 67 + 0 ≤ _)⟩)
      dsimp only [Pt.U, Pt.locs, Pt.cells, Pt.slots] at X201 l201 y201 z201 st201 hQ201
      subst l201 y201 z201
      obtain ⟨rfl, Nq201, K201⟩ := hQ201
      have N201 := Fr.app N200 Nq201
      refine own_go st201 ?_
      show OwnGo p e below _ (T201.setTop (mkF m 169 #[.val (.int p0), .val (.long q0), .second, .val (.long q1), .second, .val (.long q2), .second, .val (.long q3), .second, .val (.int ((p0 &&& (2147483647 : Int32)) % (3 : Int32))), .val (.ref aFFDHE3072), .val (.int (2 : Int32)), .val (.ref a182), .val (.ref r9_192)] [(.int (1 : Int32))]))
      refine own_go (fun _ k => XS.ifNo X201.here hx rfl (hb hby at_169) rfl (by decide) k) ?_
      show OwnGo p e below _ (T201.setTop (mkF m 172 #[.val (.int p0), .val (.long q0), .second, .val (.long q1), .second, .val (.long q2), .second, .val (.long q3), .second, .val (.int ((p0 &&& (2147483647 : Int32)) % (3 : Int32))), .val (.ref aFFDHE3072), .val (.int (2 : Int32)), .val (.ref a182), .val (.ref r9_192)] []))
      refine own_go (fun _ k => XS.aload X201.here hx rfl (hb hby at_172) rfl rfl k) ?_
      show OwnGo p e below _ (T201.setTop (mkF m 174 #[.val (.int p0), .val (.long q0), .second, .val (.long q1), .second, .val (.long q2), .second, .val (.long q3), .second, .val (.int ((p0 &&& (2147483647 : Int32)) % (3 : Int32))), .val (.ref aFFDHE3072), .val (.int (2 : Int32)), .val (.ref a182), .val (.ref r9_192)] [(.ref r9_192)]))
      refine own_go (fun _ k => XS.bipush X201.here hx rfl (hb hby at_174) k) ?_
      show OwnGo p e below _ (T201.setTop (mkF m 176 #[.val (.int p0), .val (.long q0), .second, .val (.long q1), .second, .val (.long q2), .second, .val (.long q3), .second, .val (.int ((p0 &&& (2147483647 : Int32)) % (3 : Int32))), .val (.ref aFFDHE3072), .val (.int (2 : Int32)), .val (.ref a182), .val (.ref r9_192)] [(.int (27 : Int32)), (.ref r9_192)]))
      refine own_go (fun _ k => XS.lload X201.here hx rfl (hb hby at_176) rfl k) ?_
      show OwnGo p e below _ (T201.setTop (mkF m 178 #[.val (.int p0), .val (.long q0), .second, .val (.long q1), .second, .val (.long q2), .second, .val (.long q3), .second, .val (.int ((p0 &&& (2147483647 : Int32)) % (3 : Int32))), .val (.ref aFFDHE3072), .val (.int (2 : Int32)), .val (.ref a182), .val (.ref r9_192)] [(.long q3), (.int (27 : Int32)), (.ref r9_192)]))
      obtain ⟨_, _, ⟨T202, L202, k202, n202⟩, -, X202, ⟨Lc202, hQ202, l202, y202, z202⟩, st202⟩ := Jvm.LawKit.callS X201 hx (y := (⟨"com/example/portcullis/portcullis/ConfirmationEncodePinLaw", "same", "([BIJ)Z"⟩ : MethodName)) hown (mvT hZ (hw _ (List.mem_of_getElem? (i := 34) rfl))) (mvT hZ (hw _ (List.mem_of_getElem? (i := 35) rfl))) (mvT hZ (hw _ (List.mem_of_getElem? (i := 7) rfl))) (mvT hZ (hw _ (List.mem_of_getElem? (i := 36) rfl))) (by decide) (backOf (W := 0) (rm_same27 l Z a0 hw [] aFFDHE2048 aCONFIRMATION aFFDHE4096 aFFDHE3072 F0 r9_192 q3 k9_192 (1 : Int32) (2 : Int32) (2 : Int32) (((((((q0).toUInt64 >>> ((56 : Int32) &&& 0x3f).toInt64.toUInt64).toInt64)).toInt32)).toInt8.toInt32) (((((((q0).toUInt64 >>> ((48 : Int32) &&& 0x3f).toInt64.toUInt64).toInt64)).toInt32)).toInt8.toInt32) (((((((q0).toUInt64 >>> ((40 : Int32) &&& 0x3f).toInt64.toUInt64).toInt64)).toInt32)).toInt8.toInt32) (((((((q0).toUInt64 >>> ((32 : Int32) &&& 0x3f).toInt64.toUInt64).toInt64)).toInt32)).toInt8.toInt32) (((((((q0).toUInt64 >>> ((24 : Int32) &&& 0x3f).toInt64.toUInt64).toInt64)).toInt32)).toInt8.toInt32) (((((((q0).toUInt64 >>> ((16 : Int32) &&& 0x3f).toInt64.toUInt64).toInt64)).toInt32)).toInt8.toInt32) (((((((q0).toUInt64 >>> ((8 : Int32) &&& 0x3f).toInt64.toUInt64).toInt64)).toInt32)).toInt8.toInt32) ((((q0).toInt32)).toInt8.toInt32) (((((((q1).toUInt64 >>> ((56 : Int32) &&& 0x3f).toInt64.toUInt64).toInt64)).toInt32)).toInt8.toInt32) (((((((q1).toUInt64 >>> ((48 : Int32) &&& 0x3f).toInt64.toUInt64).toInt64)).toInt32)).toInt8.toInt32) (((((((q1).toUInt64 >>> ((40 : Int32) &&& 0x3f).toInt64.toUInt64).toInt64)).toInt32)).toInt8.toInt32) (((((((q1).toUInt64 >>> ((32 : Int32) &&& 0x3f).toInt64.toUInt64).toInt64)).toInt32)).toInt8.toInt32) (((((((q1).toUInt64 >>> ((24 : Int32) &&& 0x3f).toInt64.toUInt64).toInt64)).toInt32)).toInt8.toInt32) (((((((q1).toUInt64 >>> ((16 : Int32) &&& 0x3f).toInt64.toUInt64).toInt64)).toInt32)).toInt8.toInt32) (((((((q1).toUInt64 >>> ((8 : Int32) &&& 0x3f).toInt64.toUInt64).toInt64)).toInt32)).toInt8.toInt32) ((((q1).toInt32)).toInt8.toInt32) (((((((q2).toUInt64 >>> ((56 : Int32) &&& 0x3f).toInt64.toUInt64).toInt64)).toInt32)).toInt8.toInt32) (((((((q2).toUInt64 >>> ((48 : Int32) &&& 0x3f).toInt64.toUInt64).toInt64)).toInt32)).toInt8.toInt32) (((((((q2).toUInt64 >>> ((40 : Int32) &&& 0x3f).toInt64.toUInt64).toInt64)).toInt32)).toInt8.toInt32) (((((((q2).toUInt64 >>> ((32 : Int32) &&& 0x3f).toInt64.toUInt64).toInt64)).toInt32)).toInt8.toInt32) (((((((q2).toUInt64 >>> ((24 : Int32) &&& 0x3f).toInt64.toUInt64).toInt64)).toInt32)).toInt8.toInt32) (((((((q2).toUInt64 >>> ((16 : Int32) &&& 0x3f).toInt64.toUInt64).toInt64)).toInt32)).toInt8.toInt32) (((((((q2).toUInt64 >>> ((8 : Int32) &&& 0x3f).toInt64.toUInt64).toInt64)).toInt32)).toInt8.toInt32) ((((q2).toInt32)).toInt8.toInt32) T192.heap n0 O192 x192_0) hZ (hw _ (List.mem_of_getElem? (i := 36) rfl)) (hw _ (List.mem_of_getElem? (i := 7) rfl)) (by decide) (by decide)) (g := (mkF m 178 #[.val (.int p0), .val (.long q0), .second, .val (.long q1), .second, .val (.long q2), .second, .val (.long q3), .second, .val (.int ((p0 &&& (2147483647 : Int32)) % (3 : Int32))), .val (.ref aFFDHE3072), .val (.int (2 : Int32)), .val (.ref a182), .val (.ref r9_192)] [(.long q3), (.int (27 : Int32)), (.ref r9_192)])) rfl (by rw [hml]; rfl) (argsL := [(.ref r9_192), (.int (27 : Int32)), (.long q3)]) (rest := []) (lenOf pd__B_I_J__Z rfl) rfl (by show 2 * 0 + _ ≤ _; exact Nat.le_of_eq rfl) (hb hby at_178) (fun _ _ => ⟨rfl, K201, (by decide : 2 + 0 ≤ _), (by decide : 67 + 0 ≤ _)⟩)
      dsimp only [Pt.U, Pt.locs, Pt.cells, Pt.slots] at X202 l202 y202 z202 st202 hQ202
      subst l202 y202 z202
      obtain ⟨rfl, Nq202, K202⟩ := hQ202
      have N202 := Fr.app N201 Nq202
      refine own_go st202 ?_
      show OwnGo p e below _ (T202.setTop (mkF m 181 #[.val (.int p0), .val (.long q0), .second, .val (.long q1), .second, .val (.long q2), .second, .val (.long q3), .second, .val (.int ((p0 &&& (2147483647 : Int32)) % (3 : Int32))), .val (.ref aFFDHE3072), .val (.int (2 : Int32)), .val (.ref a182), .val (.ref r9_192)] [(.int (1 : Int32))]))
      refine own_go (fun _ k => XS.ifNo X202.here hx rfl (hb hby at_181) rfl (by decide) k) ?_
      show OwnGo p e below _ (T202.setTop (mkF m 184 #[.val (.int p0), .val (.long q0), .second, .val (.long q1), .second, .val (.long q2), .second, .val (.long q3), .second, .val (.int ((p0 &&& (2147483647 : Int32)) % (3 : Int32))), .val (.ref aFFDHE3072), .val (.int (2 : Int32)), .val (.ref a182), .val (.ref r9_192)] []))
      refine own_go (fun _ k => XS.iconst X202.here hx rfl (hb hby at_184) k) ?_
      show OwnGo p e below _ (T202.setTop (mkF m 185 #[.val (.int p0), .val (.long q0), .second, .val (.long q1), .second, .val (.long q2), .second, .val (.long q3), .second, .val (.int ((p0 &&& (2147483647 : Int32)) % (3 : Int32))), .val (.ref aFFDHE3072), .val (.int (2 : Int32)), .val (.ref a182), .val (.ref r9_192)] [(.int (1 : Int32))]))
      refine own_go (fun _ k => XS.goto X202.here hx rfl (pc0 := 185) (pc' := 189) rfl (hb hby at_185) (by decide) (by decide) k) ?_
      show OwnGo p e below _ (T202.setTop (mkF m 189 #[.val (.int p0), .val (.long q0), .second, .val (.long q1), .second, .val (.long q2), .second, .val (.long q3), .second, .val (.int ((p0 &&& (2147483647 : Int32)) % (3 : Int32))), .val (.ref aFFDHE3072), .val (.int (2 : Int32)), .val (.ref a182), .val (.ref r9_192)] [(.int (1 : Int32))]))
      obtain ⟨fs, hr, hrun, hended, hW, hsame⟩ := X202.leave (v := some (.int (1 : Int32))) (fun h => by rw [Bd.returns] at h; cases h)
      refine ⟨_, _, retOut X202 hx Bd.returns rfl (Or.inl ⟨rfl, Or.inr (Or.inl rfl), _, rfl⟩) (hb hby at_189) hr, hrun, hended, _, _, rfl, ?_, ⟨_, rfl⟩, hW, hsame.mono (by decide) (by decide)⟩
      show Q_law Z aFFDHE2048 aCONFIRMATION aFFDHE4096 aFFDHE3072 p0 q0 q1 q2 q3 h0 n0 _ T202.heap _
      rw [K202]
      exact ⟨rfl, N202⟩
    · refine own_go (fun _ k => XS.icmpYes X0.here hx rfl (pc0 := 27) (pc' := 41) rfl (hb hby at_27) rfl (feq hc180).2 (by decide) (by decide) k) ?_
      show OwnGo p e below _ (s₁.setTop (mkF m 41 #[.val (.int p0), .val (.long q0), .second, .val (.long q1), .second, .val (.long q2), .second, .val (.long q3), .second, .val (.int ((p0 &&& (2147483647 : Int32)) % (3 : Int32))), .unset, .unset, .unset, .unset] []))
      obtain ⟨T203, X203, e203, st203⟩ := getS X0 hx hZ hown (host := "") (hw _ (List.mem_of_getElem? (i := 37) rfl)) Via.refl e0 (F0.2.2.2.2.2.2.1.ext O0.2) (g := (mkF m 41 #[.val (.int p0), .val (.long q0), .second, .val (.long q1), .second, .val (.long q2), .second, .val (.long q3), .second, .val (.int ((p0 &&& (2147483647 : Int32)) % (3 : Int32))), .unset, .unset, .unset, .unset] [])) rfl (hb hby at_41)
      refine own_go st203 ?_
      show OwnGo p e below _ (T203.setTop (mkF m 44 #[.val (.int p0), .val (.long q0), .second, .val (.long q1), .second, .val (.long q2), .second, .val (.long q3), .second, .val (.int ((p0 &&& (2147483647 : Int32)) % (3 : Int32))), .unset, .unset, .unset, .unset] [(.ref aFFDHE4096)]))
      refine own_go (fun _ k => XS.astore X203.here hx rfl (hb hby at_44) rfl rfl (l' := #[.val (.int p0), .val (.long q0), .second, .val (.long q1), .second, .val (.long q2), .second, .val (.long q3), .second, .val (.int ((p0 &&& (2147483647 : Int32)) % (3 : Int32))), .val (.ref aFFDHE4096), .unset, .unset, .unset]) rfl k) ?_
      show OwnGo p e below _ (T203.setTop (mkF m 46 #[.val (.int p0), .val (.long q0), .second, .val (.long q1), .second, .val (.long q2), .second, .val (.long q3), .second, .val (.int ((p0 &&& (2147483647 : Int32)) % (3 : Int32))), .val (.ref aFFDHE4096), .unset, .unset, .unset] []))
      refine own_go (fun _ k => XS.iconst X203.here hx rfl (hb hby at_46) k) ?_
      show OwnGo p e below _ (T203.setTop (mkF m 47 #[.val (.int p0), .val (.long q0), .second, .val (.long q1), .second, .val (.long q2), .second, .val (.long q3), .second, .val (.int ((p0 &&& (2147483647 : Int32)) % (3 : Int32))), .val (.ref aFFDHE4096), .unset, .unset, .unset] [(.int (3 : Int32))]))
      refine own_go (fun _ k => XS.istore X203.here hx rfl (hb hby at_47) rfl (l' := #[.val (.int p0), .val (.long q0), .second, .val (.long q1), .second, .val (.long q2), .second, .val (.long q3), .second, .val (.int ((p0 &&& (2147483647 : Int32)) % (3 : Int32))), .val (.ref aFFDHE4096), .val (.int (3 : Int32)), .unset, .unset]) rfl k) ?_
      show OwnGo p e below _ (T203.setTop (mkF m 49 #[.val (.int p0), .val (.long q0), .second, .val (.long q1), .second, .val (.long q2), .second, .val (.long q3), .second, .val (.int ((p0 &&& (2147483647 : Int32)) % (3 : Int32))), .val (.ref aFFDHE4096), .val (.int (3 : Int32)), .unset, .unset] []))
      refine own_go (fun _ k => XS.bipush X203.here hx rfl (hb hby at_49) k) ?_
      show OwnGo p e below _ (T203.setTop (mkF m 51 #[.val (.int p0), .val (.long q0), .second, .val (.long q1), .second, .val (.long q2), .second, .val (.long q3), .second, .val (.int ((p0 &&& (2147483647 : Int32)) % (3 : Int32))), .val (.ref aFFDHE4096), .val (.int (3 : Int32)), .unset, .unset] [(.int (32 : Int32))]))
      obtain ⟨T204, h204, k204, X204, e204, E204, A204, st204⟩ := newP X203 hx hZ (hw _ (List.mem_of_getElem? (i := 4) rfl)) e203 (g := (mkF m 51 #[.val (.int p0), .val (.long q0), .second, .val (.long q1), .second, .val (.long q2), .second, .val (.long q3), .second, .val (.int ((p0 &&& (2147483647 : Int32)) % (3 : Int32))), .val (.ref aFFDHE4096), .val (.int (3 : Int32)), .unset, .unset] [(.int (32 : Int32))])) rfl (hb hby at_51) rfl (by decide) (cap := 32) (by decide) (by decide) (by decide) (by decide)
      obtain ⟨a204, g204⟩ : ∃ z, z = h0.size := ⟨_, rfl⟩
      rw [← g204] at A204 st204
      have ge204 : n0 ≤ a204 := Nat.le_trans (own_sz O0) (Nat.le_of_eq g204.symm)
      have gh204 : h0.size ≤ a204 := Nat.le_trans (Nat.le_refl _) (Nat.le_of_eq g204.symm)
      have O204 := O0.ext E204
      have z205 : h0.size ≤ h204.size := Nat.le_trans (Nat.le_refl _) E204.1
      have V204 : Arv Z h204 a204 k204 .byte (32 : Int32) [(.int (0 : Int32)), (.int (0 : Int32)), (.int (0 : Int32)), (.int (0 : Int32)), (.int (0 : Int32)), (.int (0 : Int32)), (.int (0 : Int32)), (.int (0 : Int32)), (.int (0 : Int32)), (.int (0 : Int32)), (.int (0 : Int32)), (.int (0 : Int32)), (.int (0 : Int32)), (.int (0 : Int32)), (.int (0 : Int32)), (.int (0 : Int32)), (.int (0 : Int32)), (.int (0 : Int32)), (.int (0 : Int32)), (.int (0 : Int32)), (.int (0 : Int32)), (.int (0 : Int32)), (.int (0 : Int32)), (.int (0 : Int32)), (.int (0 : Int32)), (.int (0 : Int32)), (.int (0 : Int32)), (.int (0 : Int32)), (.int (0 : Int32)), (.int (0 : Int32)), (.int (0 : Int32)), (.int (0 : Int32))] (.int (0 : Int32)) := (Arv.new A204 (by decide)).pad (pad_rep [] _ 32)
      refine own_go st204 ?_
      show OwnGo p e below _ (T204.setTop (mkF m 53 #[.val (.int p0), .val (.long q0), .second, .val (.long q1), .second, .val (.long q2), .second, .val (.long q3), .second, .val (.int ((p0 &&& (2147483647 : Int32)) % (3 : Int32))), .val (.ref aFFDHE4096), .val (.int (3 : Int32)), .unset, .unset] [(.ref a204)]))
      refine own_go (fun _ k => XS.astore X204.here hx rfl (hb hby at_53) rfl rfl (l' := #[.val (.int p0), .val (.long q0), .second, .val (.long q1), .second, .val (.long q2), .second, .val (.long q3), .second, .val (.int ((p0 &&& (2147483647 : Int32)) % (3 : Int32))), .val (.ref aFFDHE4096), .val (.int (3 : Int32)), .val (.ref a204), .unset]) rfl k) ?_
      show OwnGo p e below _ (T204.setTop (mkF m 55 #[.val (.int p0), .val (.long q0), .second, .val (.long q1), .second, .val (.long q2), .second, .val (.long q3), .second, .val (.int ((p0 &&& (2147483647 : Int32)) % (3 : Int32))), .val (.ref aFFDHE4096), .val (.int (3 : Int32)), .val (.ref a204), .unset] []))
      refine own_go (fun _ k => XS.aload X204.here hx rfl (hb hby at_55) rfl rfl k) ?_
      show OwnGo p e below _ (T204.setTop (mkF m 57 #[.val (.int p0), .val (.long q0), .second, .val (.long q1), .second, .val (.long q2), .second, .val (.long q3), .second, .val (.int ((p0 &&& (2147483647 : Int32)) % (3 : Int32))), .val (.ref aFFDHE4096), .val (.int (3 : Int32)), .val (.ref a204), .unset] [(.ref a204)]))
      refine own_go (fun _ k => XS.iconst X204.here hx rfl (hb hby at_57) k) ?_
      show OwnGo p e below _ (T204.setTop (mkF m 58 #[.val (.int p0), .val (.long q0), .second, .val (.long q1), .second, .val (.long q2), .second, .val (.long q3), .second, .val (.int ((p0 &&& (2147483647 : Int32)) % (3 : Int32))), .val (.ref aFFDHE4096), .val (.int (3 : Int32)), .val (.ref a204), .unset] [(.int (0 : Int32)), (.ref a204)]))
      refine own_go (fun _ k => XS.lloadN X204.here hx rfl (hb hby at_58) rfl k) ?_
      show OwnGo p e below _ (T204.setTop (mkF m 59 #[.val (.int p0), .val (.long q0), .second, .val (.long q1), .second, .val (.long q2), .second, .val (.long q3), .second, .val (.int ((p0 &&& (2147483647 : Int32)) % (3 : Int32))), .val (.ref aFFDHE4096), .val (.int (3 : Int32)), .val (.ref a204), .unset] [(.long q0), (.int (0 : Int32)), (.ref a204)]))
      obtain ⟨_, _, ⟨T206, L206, k206, n206⟩, -, X206, ⟨Lc206, hQ206, l206, y206, z206⟩, st206⟩ := Jvm.LawKit.callS X204 hx (y := (⟨"com/example/portcullis/portcullis/ConfirmationEncodePinLaw", "put", "([BIJ)V"⟩ : MethodName)) hown (mvT hZ (hw _ (List.mem_of_getElem? (i := 5) rfl))) (mvT hZ (hw _ (List.mem_of_getElem? (i := 6) rfl))) (mvT hZ (hw _ (List.mem_of_getElem? (i := 7) rfl))) (mvT hZ (hw _ (List.mem_of_getElem? (i := 8) rfl))) (by decide) (backOf (W := 0) (rm_put0 l Z a0 hw [] aFFDHE2048 aCONFIRMATION aFFDHE4096 aFFDHE3072 F0 a204 q0 k204 (0 : Int32) (0 : Int32) (0 : Int32) (0 : Int32) (0 : Int32) (0 : Int32) (0 : Int32) (0 : Int32) (0 : Int32) (0 : Int32) (0 : Int32) (0 : Int32) (0 : Int32) (0 : Int32) (0 : Int32) (0 : Int32) (0 : Int32) (0 : Int32) (0 : Int32) (0 : Int32) (0 : Int32) (0 : Int32) (0 : Int32) (0 : Int32) (0 : Int32) (0 : Int32) (0 : Int32) (0 : Int32) (0 : Int32) (0 : Int32) (0 : Int32) (0 : Int32) h204 n0 O204 V204 ge204) hZ (hw _ (List.mem_of_getElem? (i := 8) rfl)) (hw _ (List.mem_of_getElem? (i := 7) rfl)) (by decide) (by decide)) (g := (mkF m 59 #[.val (.int p0), .val (.long q0), .second, .val (.long q1), .second, .val (.long q2), .second, .val (.long q3), .second, .val (.int ((p0 &&& (2147483647 : Int32)) % (3 : Int32))), .val (.ref aFFDHE4096), .val (.int (3 : Int32)), .val (.ref a204), .unset] [(.long q0), (.int (0 : Int32)), (.ref a204)])) rfl (by rw [hml]; rfl) (argsL := [(.ref a204), (.int (0 : Int32)), (.long q0)]) (rest := []) (lenOf pd__B_I_J__V rfl) rfl (by show 2 * 0 + _ ≤ _; exact Nat.le_of_eq rfl) (hb hby at_59) (fun _ _ => ⟨rfl, e204, (by decide : 1 + 0 ≤ _), (by decide : 32 + 0 ≤ _)⟩)
      dsimp only [Pt.U, Pt.locs, Pt.cells, Pt.slots] at X206 l206 y206 z206 st206 hQ206
      subst l206 y206 z206
      obtain ⟨rfl, Nq206, K206, x206_0⟩ := hQ206
      have N206 := Fr.app N0 Nq206
      have O206 := O204.keep K206 (allS ge204 all0)
      have e206 : T206.heap = T206.heap := rfl
      have z207 : h0.size ≤ T206.heap.size := Nat.le_trans z205 K206.1
      refine own_go st206 ?_
      show OwnGo p e below _ (T206.setTop (mkF m 62 #[.val (.int p0), .val (.long q0), .second, .val (.long q1), .second, .val (.long q2), .second, .val (.long q3), .second, .val (.int ((p0 &&& (2147483647 : Int32)) % (3 : Int32))), .val (.ref aFFDHE4096), .val (.int (3 : Int32)), .val (.ref a204), .unset] []))
      refine own_go (fun _ k => XS.aload X206.here hx rfl (hb hby at_62) rfl rfl k) ?_
      show OwnGo p e below _ (T206.setTop (mkF m 64 #[.val (.int p0), .val (.long q0), .second, .val (.long q1), .second, .val (.long q2), .second, .val (.long q3), .second, .val (.int ((p0 &&& (2147483647 : Int32)) % (3 : Int32))), .val (.ref aFFDHE4096), .val (.int (3 : Int32)), .val (.ref a204), .unset] [(.ref a204)]))
      refine own_go (fun _ k => XS.bipush X206.here hx rfl (hb hby at_64) k) ?_
      show OwnGo p e below _ (T206.setTop (mkF m 66 #[.val (.int p0), .val (.long q0), .second, .val (.long q1), .second, .val (.long q2), .second, .val (.long q3), .second, .val (.int ((p0 &&& (2147483647 : Int32)) % (3 : Int32))), .val (.ref aFFDHE4096), .val (.int (3 : Int32)), .val (.ref a204), .unset] [(.int (8 : Int32)), (.ref a204)]))
      refine own_go (fun _ k => XS.lloadN X206.here hx rfl (hb hby at_66) rfl k) ?_
      show OwnGo p e below _ (T206.setTop (mkF m 67 #[.val (.int p0), .val (.long q0), .second, .val (.long q1), .second, .val (.long q2), .second, .val (.long q3), .second, .val (.int ((p0 &&& (2147483647 : Int32)) % (3 : Int32))), .val (.ref aFFDHE4096), .val (.int (3 : Int32)), .val (.ref a204), .unset] [(.long q1), (.int (8 : Int32)), (.ref a204)]))
      obtain ⟨_, _, ⟨T208, L208, k208, n208⟩, -, X208, ⟨Lc208, hQ208, l208, y208, z208⟩, st208⟩ := Jvm.LawKit.callS X206 hx (y := (⟨"com/example/portcullis/portcullis/ConfirmationEncodePinLaw", "put", "([BIJ)V"⟩ : MethodName)) hown (mvT hZ (hw _ (List.mem_of_getElem? (i := 5) rfl))) (mvT hZ (hw _ (List.mem_of_getElem? (i := 6) rfl))) (mvT hZ (hw _ (List.mem_of_getElem? (i := 7) rfl))) (mvT hZ (hw _ (List.mem_of_getElem? (i := 8) rfl))) (by decide) (backOf (W := 0) (rm_put8 l Z a0 hw [] aFFDHE2048 aCONFIRMATION aFFDHE4096 aFFDHE3072 F0 a204 q1 k204 (((((((q0).toUInt64 >>> ((56 : Int32) &&& 0x3f).toInt64.toUInt64).toInt64)).toInt32)).toInt8.toInt32) (((((((q0).toUInt64 >>> ((48 : Int32) &&& 0x3f).toInt64.toUInt64).toInt64)).toInt32)).toInt8.toInt32) (((((((q0).toUInt64 >>> ((40 : Int32) &&& 0x3f).toInt64.toUInt64).toInt64)).toInt32)).toInt8.toInt32) (((((((q0).toUInt64 >>> ((32 : Int32) &&& 0x3f).toInt64.toUInt64).toInt64)).toInt32)).toInt8.toInt32) (((((((q0).toUInt64 >>> ((24 : Int32) &&& 0x3f).toInt64.toUInt64).toInt64)).toInt32)).toInt8.toInt32) (((((((q0).toUInt64 >>> ((16 : Int32) &&& 0x3f).toInt64.toUInt64).toInt64)).toInt32)).toInt8.toInt32) (((((((q0).toUInt64 >>> ((8 : Int32) &&& 0x3f).toInt64.toUInt64).toInt64)).toInt32)).toInt8.toInt32) ((((q0).toInt32)).toInt8.toInt32) (0 : Int32) (0 : Int32) (0 : Int32) (0 : Int32) (0 : Int32) (0 : Int32) (0 : Int32) (0 : Int32) (0 : Int32) (0 : Int32) (0 : Int32) (0 : Int32) (0 : Int32) (0 : Int32) (0 : Int32) (0 : Int32) (0 : Int32) (0 : Int32) (0 : Int32) (0 : Int32) (0 : Int32) (0 : Int32) (0 : Int32) (0 : Int32) T206.heap n0 O206 x206_0 ge204) hZ (hw _ (List.mem_of_getElem? (i := 8) rfl)) (hw _ (List.mem_of_getElem? (i := 7) rfl)) (by decide) (by decide)) (g := (mkF m 67 #[.val (.int p0), .val (.long q0), .second, .val (.long q1), .second, .val (.long q2), .second, .val (.long q3), .second, .val (.int ((p0 &&& (2147483647 : Int32)) % (3 : Int32))), .val (.ref aFFDHE4096), .val (.int (3 : Int32)), .val (.ref a204), .unset] [(.long q1), (.int (8 : Int32)), (.ref a204)])) rfl (by rw [hml]; rfl) (argsL := [(.ref a204), (.int (8 : Int32)), (.long q1)]) (rest := []) (lenOf pd__B_I_J__V rfl) rfl (by show 2 * 0 + _ ≤ _; exact Nat.le_of_eq rfl) (hb hby at_67) (fun _ _ => ⟨rfl, e206, (by decide : 1 + 0 ≤ _), (by decide : 32 + 0 ≤ _)⟩)
      dsimp only [Pt.U, Pt.locs, Pt.cells, Pt.slots] at X208 l208 y208 z208 st208 hQ208
      subst l208 y208 z208
      obtain ⟨rfl, Nq208, K208, x208_0⟩ := hQ208
      have N208 := Fr.app N206 Nq208
      have O208 := O206.keep K208 (allS ge204 all0)
      have e208 : T208.heap = T208.heap := rfl
      have z209 : h0.size ≤ T208.heap.size := Nat.le_trans z207 K208.1
      refine own_go st208 ?_
      show OwnGo p e below _ (T208.setTop (mkF m 70 #[.val (.int p0), .val (.long q0), .second, .val (.long q1), .second, .val (.long q2), .second, .val (.long q3), .second, .val (.int ((p0 &&& (2147483647 : Int32)) % (3 : Int32))), .val (.ref aFFDHE4096), .val (.int (3 : Int32)), .val (.ref a204), .unset] []))
      refine own_go (fun _ k => XS.aload X208.here hx rfl (hb hby at_70) rfl rfl k) ?_
      show OwnGo p e below _ (T208.setTop (mkF m 72 #[.val (.int p0), .val (.long q0), .second, .val (.long q1), .second, .val (.long q2), .second, .val (.long q3), .second, .val (.int ((p0 &&& (2147483647 : Int32)) % (3 : Int32))), .val (.ref aFFDHE4096), .val (.int (3 : Int32)), .val (.ref a204), .unset] [(.ref a204)]))
      refine own_go (fun _ k => XS.bipush X208.here hx rfl (hb hby at_72) k) ?_
      show OwnGo p e below _ (T208.setTop (mkF m 74 #[.val (.int p0), .val (.long q0), .second, .val (.long q1), .second, .val (.long q2), .second, .val (.long q3), .second, .val (.int ((p0 &&& (2147483647 : Int32)) % (3 : Int32))), .val (.ref aFFDHE4096), .val (.int (3 : Int32)), .val (.ref a204), .unset] [(.int (16 : Int32)), (.ref a204)]))
      refine own_go (fun _ k => XS.lload X208.here hx rfl (hb hby at_74) rfl k) ?_
      show OwnGo p e below _ (T208.setTop (mkF m 76 #[.val (.int p0), .val (.long q0), .second, .val (.long q1), .second, .val (.long q2), .second, .val (.long q3), .second, .val (.int ((p0 &&& (2147483647 : Int32)) % (3 : Int32))), .val (.ref aFFDHE4096), .val (.int (3 : Int32)), .val (.ref a204), .unset] [(.long q2), (.int (16 : Int32)), (.ref a204)]))
      obtain ⟨_, _, ⟨T210, L210, k210, n210⟩, -, X210, ⟨Lc210, hQ210, l210, y210, z210⟩, st210⟩ := Jvm.LawKit.callS X208 hx (y := (⟨"com/example/portcullis/portcullis/ConfirmationEncodePinLaw", "put", "([BIJ)V"⟩ : MethodName)) hown (mvT hZ (hw _ (List.mem_of_getElem? (i := 5) rfl))) (mvT hZ (hw _ (List.mem_of_getElem? (i := 6) rfl))) (mvT hZ (hw _ (List.mem_of_getElem? (i := 7) rfl))) (mvT hZ (hw _ (List.mem_of_getElem? (i := 8) rfl))) (by decide) (backOf (W := 0) (rm_put16 l Z a0 hw [] aFFDHE2048 aCONFIRMATION aFFDHE4096 aFFDHE3072 F0 a204 q2 k204 (((((((q0).toUInt64 >>> ((56 : Int32) &&& 0x3f).toInt64.toUInt64).toInt64)).toInt32)).toInt8.toInt32) (((((((q0).toUInt64 >>> ((48 : Int32) &&& 0x3f).toInt64.toUInt64).toInt64)).toInt32)).toInt8.toInt32) (((((((q0).toUInt64 >>> ((40 : Int32) &&& 0x3f).toInt64.toUInt64).toInt64)).toInt32)).toInt8.toInt32) (((((((q0).toUInt64 >>> ((32 : Int32) &&& 0x3f).toInt64.toUInt64).toInt64)).toInt32)).toInt8.toInt32) (((((((q0).toUInt64 >>> ((24 : Int32) &&& 0x3f).toInt64.toUInt64).toInt64)).toInt32)).toInt8.toInt32) (((((((q0).toUInt64 >>> ((16 : Int32) &&& 0x3f).toInt64.toUInt64).toInt64)).toInt32)).toInt8.toInt32) (((((((q0).toUInt64 >>> ((8 : Int32) &&& 0x3f).toInt64.toUInt64).toInt64)).toInt32)).toInt8.toInt32) ((((q0).toInt32)).toInt8.toInt32) (((((((q1).toUInt64 >>> ((56 : Int32) &&& 0x3f).toInt64.toUInt64).toInt64)).toInt32)).toInt8.toInt32) (((((((q1).toUInt64 >>> ((48 : Int32) &&& 0x3f).toInt64.toUInt64).toInt64)).toInt32)).toInt8.toInt32) (((((((q1).toUInt64 >>> ((40 : Int32) &&& 0x3f).toInt64.toUInt64).toInt64)).toInt32)).toInt8.toInt32) (((((((q1).toUInt64 >>> ((32 : Int32) &&& 0x3f).toInt64.toUInt64).toInt64)).toInt32)).toInt8.toInt32) (((((((q1).toUInt64 >>> ((24 : Int32) &&& 0x3f).toInt64.toUInt64).toInt64)).toInt32)).toInt8.toInt32) (((((((q1).toUInt64 >>> ((16 : Int32) &&& 0x3f).toInt64.toUInt64).toInt64)).toInt32)).toInt8.toInt32) (((((((q1).toUInt64 >>> ((8 : Int32) &&& 0x3f).toInt64.toUInt64).toInt64)).toInt32)).toInt8.toInt32) ((((q1).toInt32)).toInt8.toInt32) (0 : Int32) (0 : Int32) (0 : Int32) (0 : Int32) (0 : Int32) (0 : Int32) (0 : Int32) (0 : Int32) (0 : Int32) (0 : Int32) (0 : Int32) (0 : Int32) (0 : Int32) (0 : Int32) (0 : Int32) (0 : Int32) T208.heap n0 O208 x208_0 ge204) hZ (hw _ (List.mem_of_getElem? (i := 8) rfl)) (hw _ (List.mem_of_getElem? (i := 7) rfl)) (by decide) (by decide)) (g := (mkF m 76 #[.val (.int p0), .val (.long q0), .second, .val (.long q1), .second, .val (.long q2), .second, .val (.long q3), .second, .val (.int ((p0 &&& (2147483647 : Int32)) % (3 : Int32))), .val (.ref aFFDHE4096), .val (.int (3 : Int32)), .val (.ref a204), .unset] [(.long q2), (.int (16 : Int32)), (.ref a204)])) rfl (by rw [hml]; rfl) (argsL := [(.ref a204), (.int (16 : Int32)), (.long q2)]) (rest := []) (lenOf pd__B_I_J__V rfl) rfl (by show 2 * 0 + _ ≤ _; exact Nat.le_of_eq rfl) (hb hby at_76) (fun _ _ => ⟨rfl, e208, (by decide : 1 + 0 ≤ _), (by decide : 32 + 0 ≤ _)⟩)
      dsimp only [Pt.U, Pt.locs, Pt.cells, Pt.slots] at X210 l210 y210 z210 st210 hQ210
      subst l210 y210 z210
      obtain ⟨rfl, Nq210, K210, x210_0⟩ := hQ210
      have N210 := Fr.app N208 Nq210
      have O210 := O208.keep K210 (allS ge204 all0)
      have e210 : T210.heap = T210.heap := rfl
      have z211 : h0.size ≤ T210.heap.size := Nat.le_trans z209 K210.1
      refine own_go st210 ?_
      show OwnGo p e below _ (T210.setTop (mkF m 79 #[.val (.int p0), .val (.long q0), .second, .val (.long q1), .second, .val (.long q2), .second, .val (.long q3), .second, .val (.int ((p0 &&& (2147483647 : Int32)) % (3 : Int32))), .val (.ref aFFDHE4096), .val (.int (3 : Int32)), .val (.ref a204), .unset] []))
      refine own_go (fun _ k => XS.aload X210.here hx rfl (hb hby at_79) rfl rfl k) ?_
      show OwnGo p e below _ (T210.setTop (mkF m 81 #[.val (.int p0), .val (.long q0), .second, .val (.long q1), .second, .val (.long q2), .second, .val (.long q3), .second, .val (.int ((p0 &&& (2147483647 : Int32)) % (3 : Int32))), .val (.ref aFFDHE4096), .val (.int (3 : Int32)), .val (.ref a204), .unset] [(.ref a204)]))
      refine own_go (fun _ k => XS.bipush X210.here hx rfl (hb hby at_81) k) ?_
      show OwnGo p e below _ (T210.setTop (mkF m 83 #[.val (.int p0), .val (.long q0), .second, .val (.long q1), .second, .val (.long q2), .second, .val (.long q3), .second, .val (.int ((p0 &&& (2147483647 : Int32)) % (3 : Int32))), .val (.ref aFFDHE4096), .val (.int (3 : Int32)), .val (.ref a204), .unset] [(.int (24 : Int32)), (.ref a204)]))
      refine own_go (fun _ k => XS.lload X210.here hx rfl (hb hby at_83) rfl k) ?_
      show OwnGo p e below _ (T210.setTop (mkF m 85 #[.val (.int p0), .val (.long q0), .second, .val (.long q1), .second, .val (.long q2), .second, .val (.long q3), .second, .val (.int ((p0 &&& (2147483647 : Int32)) % (3 : Int32))), .val (.ref aFFDHE4096), .val (.int (3 : Int32)), .val (.ref a204), .unset] [(.long q3), (.int (24 : Int32)), (.ref a204)]))
      obtain ⟨_, _, ⟨T212, L212, k212, n212⟩, -, X212, ⟨Lc212, hQ212, l212, y212, z212⟩, st212⟩ := Jvm.LawKit.callS X210 hx (y := (⟨"com/example/portcullis/portcullis/ConfirmationEncodePinLaw", "put", "([BIJ)V"⟩ : MethodName)) hown (mvT hZ (hw _ (List.mem_of_getElem? (i := 5) rfl))) (mvT hZ (hw _ (List.mem_of_getElem? (i := 6) rfl))) (mvT hZ (hw _ (List.mem_of_getElem? (i := 7) rfl))) (mvT hZ (hw _ (List.mem_of_getElem? (i := 8) rfl))) (by decide) (backOf (W := 0) (rm_put24 l Z a0 hw [] aFFDHE2048 aCONFIRMATION aFFDHE4096 aFFDHE3072 F0 a204 q3 k204 (((((((q0).toUInt64 >>> ((56 : Int32) &&& 0x3f).toInt64.toUInt64).toInt64)).toInt32)).toInt8.toInt32) (((((((q0).toUInt64 >>> ((48 : Int32) &&& 0x3f).toInt64.toUInt64).toInt64)).toInt32)).toInt8.toInt32) (((((((q0).toUInt64 >>> ((40 : Int32) &&& 0x3f).toInt64.toUInt64).toInt64)).toInt32)).toInt8.toInt32) (((((((q0).toUInt64 >>> ((32 : Int32) &&& 0x3f).toInt64.toUInt64).toInt64)).toInt32)).toInt8.toInt32) (((((((q0).toUInt64 >>> ((24 : Int32) &&& 0x3f).toInt64.toUInt64).toInt64)).toInt32)).toInt8.toInt32) (((((((q0).toUInt64 >>> ((16 : Int32) &&& 0x3f).toInt64.toUInt64).toInt64)).toInt32)).toInt8.toInt32) (((((((q0).toUInt64 >>> ((8 : Int32) &&& 0x3f).toInt64.toUInt64).toInt64)).toInt32)).toInt8.toInt32) ((((q0).toInt32)).toInt8.toInt32) (((((((q1).toUInt64 >>> ((56 : Int32) &&& 0x3f).toInt64.toUInt64).toInt64)).toInt32)).toInt8.toInt32) (((((((q1).toUInt64 >>> ((48 : Int32) &&& 0x3f).toInt64.toUInt64).toInt64)).toInt32)).toInt8.toInt32) (((((((q1).toUInt64 >>> ((40 : Int32) &&& 0x3f).toInt64.toUInt64).toInt64)).toInt32)).toInt8.toInt32) (((((((q1).toUInt64 >>> ((32 : Int32) &&& 0x3f).toInt64.toUInt64).toInt64)).toInt32)).toInt8.toInt32) (((((((q1).toUInt64 >>> ((24 : Int32) &&& 0x3f).toInt64.toUInt64).toInt64)).toInt32)).toInt8.toInt32) (((((((q1).toUInt64 >>> ((16 : Int32) &&& 0x3f).toInt64.toUInt64).toInt64)).toInt32)).toInt8.toInt32) (((((((q1).toUInt64 >>> ((8 : Int32) &&& 0x3f).toInt64.toUInt64).toInt64)).toInt32)).toInt8.toInt32) ((((q1).toInt32)).toInt8.toInt32) (((((((q2).toUInt64 >>> ((56 : Int32) &&& 0x3f).toInt64.toUInt64).toInt64)).toInt32)).toInt8.toInt32) (((((((q2).toUInt64 >>> ((48 : Int32) &&& 0x3f).toInt64.toUInt64).toInt64)).toInt32)).toInt8.toInt32) (((((((q2).toUInt64 >>> ((40 : Int32) &&& 0x3f).toInt64.toUInt64).toInt64)).toInt32)).toInt8.toInt32) (((((((q2).toUInt64 >>> ((32 : Int32) &&& 0x3f).toInt64.toUInt64).toInt64)).toInt32)).toInt8.toInt32) (((((((q2).toUInt64 >>> ((24 : Int32) &&& 0x3f).toInt64.toUInt64).toInt64)).toInt32)).toInt8.toInt32) (((((((q2).toUInt64 >>> ((16 : Int32) &&& 0x3f).toInt64.toUInt64).toInt64)).toInt32)).toInt8.toInt32) (((((((q2).toUInt64 >>> ((8 : Int32) &&& 0x3f).toInt64.toUInt64).toInt64)).toInt32)).toInt8.toInt32) ((((q2).toInt32)).toInt8.toInt32) (0 : Int32) (0 : Int32) (0 : Int32) (0 : Int32) (0 : Int32) (0 : Int32) (0 : Int32) (0 : Int32) T210.heap n0 O210 x210_0 ge204) hZ (hw _ (List.mem_of_getElem? (i := 8) rfl)) (hw _ (List.mem_of_getElem? (i := 7) rfl)) (by decide) (by decide)) (g := (mkF m 85 #[.val (.int p0), .val (.long q0), .second, .val (.long q1), .second, .val (.long q2), .second, .val (.long q3), .second, .val (.int ((p0 &&& (2147483647 : Int32)) % (3 : Int32))), .val (.ref aFFDHE4096), .val (.int (3 : Int32)), .val (.ref a204), .unset] [(.long q3), (.int (24 : Int32)), (.ref a204)])) rfl (by rw [hml]; rfl) (argsL := [(.ref a204), (.int (24 : Int32)), (.long q3)]) (rest := []) (lenOf pd__B_I_J__V rfl) rfl (by show 2 * 0 + _ ≤ _; exact Nat.le_of_eq rfl) (hb hby at_85) (fun _ _ => ⟨rfl, e210, (by decide : 1 + 0 ≤ _), (by decide : 32 + 0 ≤ _)⟩)
      dsimp only [Pt.U, Pt.locs, Pt.cells, Pt.slots] at X212 l212 y212 z212 st212 hQ212
      subst l212 y212 z212
      obtain ⟨rfl, Nq212, K212, x212_0⟩ := hQ212
      have N212 := Fr.app N210 Nq212
      have O212 := O210.keep K212 (allS ge204 all0)
      have e212 : T212.heap = T212.heap := rfl
      have z213 : h0.size ≤ T212.heap.size := Nat.le_trans z211 K212.1
      refine own_go st212 ?_
      show OwnGo p e below _ (T212.setTop (mkF m 88 #[.val (.int p0), .val (.long q0), .second, .val (.long q1), .second, .val (.long q2), .second, .val (.long q3), .second, .val (.int ((p0 &&& (2147483647 : Int32)) % (3 : Int32))), .val (.ref aFFDHE4096), .val (.int (3 : Int32)), .val (.ref a204), .unset] []))
      refine own_go (fun _ k => XS.aload X212.here hx rfl (hb hby at_88) rfl rfl k) ?_
      show OwnGo p e below _ (T212.setTop (mkF m 90 #[.val (.int p0), .val (.long q0), .second, .val (.long q1), .second, .val (.long q2), .second, .val (.long q3), .second, .val (.int ((p0 &&& (2147483647 : Int32)) % (3 : Int32))), .val (.ref aFFDHE4096), .val (.int (3 : Int32)), .val (.ref a204), .unset] [(.ref aFFDHE4096)]))
      refine own_go (fun _ k => XS.aload X212.here hx rfl (hb hby at_90) rfl rfl k) ?_
      show OwnGo p e below _ (T212.setTop (mkF m 92 #[.val (.int p0), .val (.long q0), .second, .val (.long q1), .second, .val (.long q2), .second, .val (.long q3), .second, .val (.int ((p0 &&& (2147483647 : Int32)) % (3 : Int32))), .val (.ref aFFDHE4096), .val (.int (3 : Int32)), .val (.ref a204), .unset] [(.ref a204), (.ref aFFDHE4096)]))
      obtain ⟨_, _, ⟨T214, L214, k214, n214⟩, -, X214, ⟨Lc214, hQ214, l214, y214, z214⟩, st214⟩ := Jvm.LawKit.callS X212 hx (y := (⟨"com/example/portcullis/portcullis/Confirmation", "encode", "(Lcom/example/portcullis/portcullis/Group;[B)[B"⟩ : MethodName)) hown (mvT hZ (hw _ (List.mem_of_getElem? (i := 9) rfl))) (mvT hZ (hw _ (List.mem_of_getElem? (i := 10) rfl))) (mvT hZ (hw _ (List.mem_of_getElem? (i := 11) rfl))) (mvT hZ (hw _ (List.mem_of_getElem? (i := 12) rfl))) (by decide) (backOf (W := 0) (rm_encaFFDHE4096 l Z a0 hw [] aFFDHE2048 aCONFIRMATION aFFDHE4096 aFFDHE3072 F0 a204 k204 (((((((q0).toUInt64 >>> ((56 : Int32) &&& 0x3f).toInt64.toUInt64).toInt64)).toInt32)).toInt8.toInt32) (((((((q0).toUInt64 >>> ((48 : Int32) &&& 0x3f).toInt64.toUInt64).toInt64)).toInt32)).toInt8.toInt32) (((((((q0).toUInt64 >>> ((40 : Int32) &&& 0x3f).toInt64.toUInt64).toInt64)).toInt32)).toInt8.toInt32) (((((((q0).toUInt64 >>> ((32 : Int32) &&& 0x3f).toInt64.toUInt64).toInt64)).toInt32)).toInt8.toInt32) (((((((q0).toUInt64 >>> ((24 : Int32) &&& 0x3f).toInt64.toUInt64).toInt64)).toInt32)).toInt8.toInt32) (((((((q0).toUInt64 >>> ((16 : Int32) &&& 0x3f).toInt64.toUInt64).toInt64)).toInt32)).toInt8.toInt32) (((((((q0).toUInt64 >>> ((8 : Int32) &&& 0x3f).toInt64.toUInt64).toInt64)).toInt32)).toInt8.toInt32) ((((q0).toInt32)).toInt8.toInt32) (((((((q1).toUInt64 >>> ((56 : Int32) &&& 0x3f).toInt64.toUInt64).toInt64)).toInt32)).toInt8.toInt32) (((((((q1).toUInt64 >>> ((48 : Int32) &&& 0x3f).toInt64.toUInt64).toInt64)).toInt32)).toInt8.toInt32) (((((((q1).toUInt64 >>> ((40 : Int32) &&& 0x3f).toInt64.toUInt64).toInt64)).toInt32)).toInt8.toInt32) (((((((q1).toUInt64 >>> ((32 : Int32) &&& 0x3f).toInt64.toUInt64).toInt64)).toInt32)).toInt8.toInt32) (((((((q1).toUInt64 >>> ((24 : Int32) &&& 0x3f).toInt64.toUInt64).toInt64)).toInt32)).toInt8.toInt32) (((((((q1).toUInt64 >>> ((16 : Int32) &&& 0x3f).toInt64.toUInt64).toInt64)).toInt32)).toInt8.toInt32) (((((((q1).toUInt64 >>> ((8 : Int32) &&& 0x3f).toInt64.toUInt64).toInt64)).toInt32)).toInt8.toInt32) ((((q1).toInt32)).toInt8.toInt32) (((((((q2).toUInt64 >>> ((56 : Int32) &&& 0x3f).toInt64.toUInt64).toInt64)).toInt32)).toInt8.toInt32) (((((((q2).toUInt64 >>> ((48 : Int32) &&& 0x3f).toInt64.toUInt64).toInt64)).toInt32)).toInt8.toInt32) (((((((q2).toUInt64 >>> ((40 : Int32) &&& 0x3f).toInt64.toUInt64).toInt64)).toInt32)).toInt8.toInt32) (((((((q2).toUInt64 >>> ((32 : Int32) &&& 0x3f).toInt64.toUInt64).toInt64)).toInt32)).toInt8.toInt32) (((((((q2).toUInt64 >>> ((24 : Int32) &&& 0x3f).toInt64.toUInt64).toInt64)).toInt32)).toInt8.toInt32) (((((((q2).toUInt64 >>> ((16 : Int32) &&& 0x3f).toInt64.toUInt64).toInt64)).toInt32)).toInt8.toInt32) (((((((q2).toUInt64 >>> ((8 : Int32) &&& 0x3f).toInt64.toUInt64).toInt64)).toInt32)).toInt8.toInt32) ((((q2).toInt32)).toInt8.toInt32) (((((((q3).toUInt64 >>> ((56 : Int32) &&& 0x3f).toInt64.toUInt64).toInt64)).toInt32)).toInt8.toInt32) (((((((q3).toUInt64 >>> ((48 : Int32) &&& 0x3f).toInt64.toUInt64).toInt64)).toInt32)).toInt8.toInt32) (((((((q3).toUInt64 >>> ((40 : Int32) &&& 0x3f).toInt64.toUInt64).toInt64)).toInt32)).toInt8.toInt32) (((((((q3).toUInt64 >>> ((32 : Int32) &&& 0x3f).toInt64.toUInt64).toInt64)).toInt32)).toInt8.toInt32) (((((((q3).toUInt64 >>> ((24 : Int32) &&& 0x3f).toInt64.toUInt64).toInt64)).toInt32)).toInt8.toInt32) (((((((q3).toUInt64 >>> ((16 : Int32) &&& 0x3f).toInt64.toUInt64).toInt64)).toInt32)).toInt8.toInt32) (((((((q3).toUInt64 >>> ((8 : Int32) &&& 0x3f).toInt64.toUInt64).toInt64)).toInt32)).toInt8.toInt32) ((((q3).toInt32)).toInt8.toInt32) T212.heap n0 O212 x212_0) hZ (hw _ (List.mem_of_getElem? (i := 12) rfl)) (hw _ (List.mem_of_getElem? (i := 11) rfl)) (by decide) (by decide)) (g := (mkF m 92 #[.val (.int p0), .val (.long q0), .second, .val (.long q1), .second, .val (.long q2), .second, .val (.long q3), .second, .val (.int ((p0 &&& (2147483647 : Int32)) % (3 : Int32))), .val (.ref aFFDHE4096), .val (.int (3 : Int32)), .val (.ref a204), .unset] [(.ref a204), (.ref aFFDHE4096)])) rfl (by rw [hml]; rfl) (argsL := [(.ref aFFDHE4096), (.ref a204)]) (rest := []) (lenOf pd_Lcom_example_portcullis_portcullis_Group___B___B rfl) rfl (by show 2 * 0 + _ ≤ _; exact Nat.le_of_eq rfl) (hb hby at_92) (fun _ _ => ⟨rfl, e212, (by decide : 1 + 1 ≤ _), (by decide : 32 + 35 ≤ _)⟩)
      dsimp only [Pt.U, Pt.locs, Pt.cells, Pt.slots] at X214 l214 y214 z214 st214 hQ214
      subst l214 y214 z214
      obtain ⟨r9_214, k9_214, rfl, Nq214, K214, x214_0, x214_1⟩ := hQ214
      have N214 := Fr.app N212 Nq214
      have O214 := O212.keep K214 all0
      have e214 : T214.heap = T214.heap := rfl
      have z215 : h0.size ≤ T214.heap.size := Nat.le_trans z213 K214.1
      have gex214_1 : n0 ≤ r9_214 := Nat.le_trans (own_sz O212) x214_1
      have ghx214_1 : h0.size ≤ r9_214 := Nat.le_trans z213 x214_1
      have ne216 : a204 ≠ r9_214 := own_newlt x212_0.lt x214_1
      refine own_go st214 ?_
      show OwnGo p e below _ (T214.setTop (mkF m 95 #[.val (.int p0), .val (.long q0), .second, .val (.long q1), .second, .val (.long q2), .second, .val (.long q3), .second, .val (.int ((p0 &&& (2147483647 : Int32)) % (3 : Int32))), .val (.ref aFFDHE4096), .val (.int (3 : Int32)), .val (.ref a204), .unset] [(.ref r9_214)]))
      refine own_go (fun _ k => XS.astore X214.here hx rfl (hb hby at_95) rfl rfl (l' := #[.val (.int p0), .val (.long q0), .second, .val (.long q1), .second, .val (.long q2), .second, .val (.long q3), .second, .val (.int ((p0 &&& (2147483647 : Int32)) % (3 : Int32))), .val (.ref aFFDHE4096), .val (.int (3 : Int32)), .val (.ref a204), .val (.ref r9_214)]) rfl k) ?_
      show OwnGo p e below _ (T214.setTop (mkF m 97 #[.val (.int p0), .val (.long q0), .second, .val (.long q1), .second, .val (.long q2), .second, .val (.long q3), .second, .val (.int ((p0 &&& (2147483647 : Int32)) % (3 : Int32))), .val (.ref aFFDHE4096), .val (.int (3 : Int32)), .val (.ref a204), .val (.ref r9_214)] []))
      refine own_go (fun _ k => XS.aload X214.here hx rfl (hb hby at_97) rfl rfl k) ?_
      show OwnGo p e below _ (T214.setTop (mkF m 99 #[.val (.int p0), .val (.long q0), .second, .val (.long q1), .second, .val (.long q2), .second, .val (.long q3), .second, .val (.int ((p0 &&& (2147483647 : Int32)) % (3 : Int32))), .val (.ref aFFDHE4096), .val (.int (3 : Int32)), .val (.ref a204), .val (.ref r9_214)] [(.ref r9_214)]))
      refine own_go (fun _ k => XS.ifnullNo X214.here hx rfl (hb hby at_99) rfl k) ?_
      show OwnGo p e below _ (T214.setTop (mkF m 102 #[.val (.int p0), .val (.long q0), .second, .val (.long q1), .second, .val (.long q2), .second, .val (.long q3), .second, .val (.int ((p0 &&& (2147483647 : Int32)) % (3 : Int32))), .val (.ref aFFDHE4096), .val (.int (3 : Int32)), .val (.ref a204), .val (.ref r9_214)] []))
      refine own_go (fun _ k => XS.aload X214.here hx rfl (hb hby at_102) rfl rfl k) ?_
      show OwnGo p e below _ (T214.setTop (mkF m 104 #[.val (.int p0), .val (.long q0), .second, .val (.long q1), .second, .val (.long q2), .second, .val (.long q3), .second, .val (.int ((p0 &&& (2147483647 : Int32)) % (3 : Int32))), .val (.ref aFFDHE4096), .val (.int (3 : Int32)), .val (.ref a204), .val (.ref r9_214)] [(.ref r9_214)]))
      obtain ⟨c217, Ar217, q217, S217, M217, H217, G217⟩ := (id x214_0)
      refine own_go (fun _ k => X214.arraylength hx (cell := c217) (by rw [e214]; exact Ar217.1) (State.isArrayOf_alike hZ.alike Ar217.2.1) (g := (mkF m 104 #[.val (.int p0), .val (.long q0), .second, .val (.long q1), .second, .val (.long q2), .second, .val (.long q3), .second, .val (.int ((p0 &&& (2147483647 : Int32)) % (3 : Int32))), .val (.ref aFFDHE4096), .val (.int (3 : Int32)), .val (.ref a204), .val (.ref r9_214)] [(.ref r9_214)])) rfl (rest := []) rfl (hb hby at_104) _ k) ?_
      rw [len_of S217 M217]
      show OwnGo p e below _ (T214.setTop (mkF m 105 #[.val (.int p0), .val (.long q0), .second, .val (.long q1), .second, .val (.long q2), .second, .val (.long q3), .second, .val (.int ((p0 &&& (2147483647 : Int32)) % (3 : Int32))), .val (.ref aFFDHE4096), .val (.int (3 : Int32)), .val (.ref a204), .val (.ref r9_214)] [(.int (35 : Int32))]))
      refine own_go (fun _ k => XS.bipush X214.here hx rfl (hb hby at_105) k) ?_
      show OwnGo p e below _ (T214.setTop (mkF m 107 #[.val (.int p0), .val (.long q0), .second, .val (.long q1), .second, .val (.long q2), .second, .val (.long q3), .second, .val (.int ((p0 &&& (2147483647 : Int32)) % (3 : Int32))), .val (.ref aFFDHE4096), .val (.int (3 : Int32)), .val (.ref a204), .val (.ref r9_214)] [(.int (35 : Int32)), (.int (35 : Int32))]))
      refine own_go (fun _ k => XS.icmpYes X214.here hx rfl (pc0 := 107) (pc' := 112) rfl (hb hby at_107) rfl (by decide) (by decide) (by decide) k) ?_
      show OwnGo p e below _ (T214.setTop (mkF m 112 #[.val (.int p0), .val (.long q0), .second, .val (.long q1), .second, .val (.long q2), .second, .val (.long q3), .second, .val (.int ((p0 &&& (2147483647 : Int32)) % (3 : Int32))), .val (.ref aFFDHE4096), .val (.int (3 : Int32)), .val (.ref a204), .val (.ref r9_214)] []))
      refine own_go (fun _ k => XS.aload X214.here hx rfl (hb hby at_112) rfl rfl k) ?_
      show OwnGo p e below _ (T214.setTop (mkF m 114 #[.val (.int p0), .val (.long q0), .second, .val (.long q1), .second, .val (.long q2), .second, .val (.long q3), .second, .val (.int ((p0 &&& (2147483647 : Int32)) % (3 : Int32))), .val (.ref aFFDHE4096), .val (.int (3 : Int32)), .val (.ref a204), .val (.ref r9_214)] [(.ref r9_214)]))
      refine own_go (fun _ k => XS.iconst X214.here hx rfl (hb hby at_114) k) ?_
      show OwnGo p e below _ (T214.setTop (mkF m 115 #[.val (.int p0), .val (.long q0), .second, .val (.long q1), .second, .val (.long q2), .second, .val (.long q3), .second, .val (.int ((p0 &&& (2147483647 : Int32)) % (3 : Int32))), .val (.ref aFFDHE4096), .val (.int (3 : Int32)), .val (.ref a204), .val (.ref r9_214)] [(.int (0 : Int32)), (.ref r9_214)]))
      obtain ⟨c218, Ar218, q218, S218, M218, H218, G218⟩ := (id x214_0)
      refine own_go (fun _ k => X214.baloadBytes hx (j := (0 : Int32)) (v := (.int (1 : Int32))) (by rw [e214]; exact Ar218.1) (State.isArrayOf_alike hZ.alike Ar218.2.1) Ar218.2.2 (inb_of S218 ⟨by decide, by decide⟩) (Has.at H218 (inb_of S218 ⟨by decide, by decide⟩) rfl) (g := (mkF m 115 #[.val (.int p0), .val (.long q0), .second, .val (.long q1), .second, .val (.long q2), .second, .val (.long q3), .second, .val (.int ((p0 &&& (2147483647 : Int32)) % (3 : Int32))), .val (.ref aFFDHE4096), .val (.int (3 : Int32)), .val (.ref a204), .val (.ref r9_214)] [(.int (0 : Int32)), (.ref r9_214)])) rfl rfl (hb hby at_115) _ k) ?_
      show OwnGo p e below _ (T214.setTop (mkF m 116 #[.val (.int p0), .val (.long q0), .second, .val (.long q1), .second, .val (.long q2), .second, .val (.long q3), .second, .val (.int ((p0 &&& (2147483647 : Int32)) % (3 : Int32))), .val (.ref aFFDHE4096), .val (.int (3 : Int32)), .val (.ref a204), .val (.ref r9_214)] [(.int (1 : Int32))]))
      refine own_go (fun _ k => XS.iconst X214.here hx rfl (hb hby at_116) k) ?_
      show OwnGo p e below _ (T214.setTop (mkF m 117 #[.val (.int p0), .val (.long q0), .second, .val (.long q1), .second, .val (.long q2), .second, .val (.long q3), .second, .val (.int ((p0 &&& (2147483647 : Int32)) % (3 : Int32))), .val (.ref aFFDHE4096), .val (.int (3 : Int32)), .val (.ref a204), .val (.ref r9_214)] [(.int (1 : Int32)), (.int (1 : Int32))]))
      refine own_go (fun _ k => XS.icmpNo X214.here hx rfl (hb hby at_117) rfl (by decide) k) ?_
      show OwnGo p e below _ (T214.setTop (mkF m 120 #[.val (.int p0), .val (.long q0), .second, .val (.long q1), .second, .val (.long q2), .second, .val (.long q3), .second, .val (.int ((p0 &&& (2147483647 : Int32)) % (3 : Int32))), .val (.ref aFFDHE4096), .val (.int (3 : Int32)), .val (.ref a204), .val (.ref r9_214)] []))
      refine own_go (fun _ k => XS.aload X214.here hx rfl (hb hby at_120) rfl rfl k) ?_
      show OwnGo p e below _ (T214.setTop (mkF m 122 #[.val (.int p0), .val (.long q0), .second, .val (.long q1), .second, .val (.long q2), .second, .val (.long q3), .second, .val (.int ((p0 &&& (2147483647 : Int32)) % (3 : Int32))), .val (.ref aFFDHE4096), .val (.int (3 : Int32)), .val (.ref a204), .val (.ref r9_214)] [(.ref r9_214)]))
      refine own_go (fun _ k => XS.iconst X214.here hx rfl (hb hby at_122) k) ?_
      show OwnGo p e below _ (T214.setTop (mkF m 123 #[.val (.int p0), .val (.long q0), .second, .val (.long q1), .second, .val (.long q2), .second, .val (.long q3), .second, .val (.int ((p0 &&& (2147483647 : Int32)) % (3 : Int32))), .val (.ref aFFDHE4096), .val (.int (3 : Int32)), .val (.ref a204), .val (.ref r9_214)] [(.int (1 : Int32)), (.ref r9_214)]))
      obtain ⟨c219, Ar219, q219, S219, M219, H219, G219⟩ := (id x214_0)
      refine own_go (fun _ k => X214.baloadBytes hx (j := (1 : Int32)) (v := (.int (2 : Int32))) (by rw [e214]; exact Ar219.1) (State.isArrayOf_alike hZ.alike Ar219.2.1) Ar219.2.2 (inb_of S219 ⟨by decide, by decide⟩) (Has.at H219 (inb_of S219 ⟨by decide, by decide⟩) rfl) (g := (mkF m 123 #[.val (.int p0), .val (.long q0), .second, .val (.long q1), .second, .val (.long q2), .second, .val (.long q3), .second, .val (.int ((p0 &&& (2147483647 : Int32)) % (3 : Int32))), .val (.ref aFFDHE4096), .val (.int (3 : Int32)), .val (.ref a204), .val (.ref r9_214)] [(.int (1 : Int32)), (.ref r9_214)])) rfl rfl (hb hby at_123) _ k) ?_
      show OwnGo p e below _ (T214.setTop (mkF m 124 #[.val (.int p0), .val (.long q0), .second, .val (.long q1), .second, .val (.long q2), .second, .val (.long q3), .second, .val (.int ((p0 &&& (2147483647 : Int32)) % (3 : Int32))), .val (.ref aFFDHE4096), .val (.int (3 : Int32)), .val (.ref a204), .val (.ref r9_214)] [(.int (2 : Int32))]))
      refine own_go (fun _ k => XS.iconst X214.here hx rfl (hb hby at_124) k) ?_
      show OwnGo p e below _ (T214.setTop (mkF m 125 #[.val (.int p0), .val (.long q0), .second, .val (.long q1), .second, .val (.long q2), .second, .val (.long q3), .second, .val (.int ((p0 &&& (2147483647 : Int32)) % (3 : Int32))), .val (.ref aFFDHE4096), .val (.int (3 : Int32)), .val (.ref a204), .val (.ref r9_214)] [(.int (2 : Int32)), (.int (2 : Int32))]))
      refine own_go (fun _ k => XS.icmpNo X214.here hx rfl (hb hby at_125) rfl (by decide) k) ?_
      show OwnGo p e below _ (T214.setTop (mkF m 128 #[.val (.int p0), .val (.long q0), .second, .val (.long q1), .second, .val (.long q2), .second, .val (.long q3), .second, .val (.int ((p0 &&& (2147483647 : Int32)) % (3 : Int32))), .val (.ref aFFDHE4096), .val (.int (3 : Int32)), .val (.ref a204), .val (.ref r9_214)] []))
      refine own_go (fun _ k => XS.aload X214.here hx rfl (hb hby at_128) rfl rfl k) ?_
      show OwnGo p e below _ (T214.setTop (mkF m 130 #[.val (.int p0), .val (.long q0), .second, .val (.long q1), .second, .val (.long q2), .second, .val (.long q3), .second, .val (.int ((p0 &&& (2147483647 : Int32)) % (3 : Int32))), .val (.ref aFFDHE4096), .val (.int (3 : Int32)), .val (.ref a204), .val (.ref r9_214)] [(.ref r9_214)]))
      refine own_go (fun _ k => XS.iconst X214.here hx rfl (hb hby at_130) k) ?_
      show OwnGo p e below _ (T214.setTop (mkF m 131 #[.val (.int p0), .val (.long q0), .second, .val (.long q1), .second, .val (.long q2), .second, .val (.long q3), .second, .val (.int ((p0 &&& (2147483647 : Int32)) % (3 : Int32))), .val (.ref aFFDHE4096), .val (.int (3 : Int32)), .val (.ref a204), .val (.ref r9_214)] [(.int (2 : Int32)), (.ref r9_214)]))
      obtain ⟨c220, Ar220, q220, S220, M220, H220, G220⟩ := (id x214_0)
      refine own_go (fun _ k => X214.baloadBytes hx (j := (2 : Int32)) (v := (.int (3 : Int32))) (by rw [e214]; exact Ar220.1) (State.isArrayOf_alike hZ.alike Ar220.2.1) Ar220.2.2 (inb_of S220 ⟨by decide, by decide⟩) (Has.at H220 (inb_of S220 ⟨by decide, by decide⟩) rfl) (g := (mkF m 131 #[.val (.int p0), .val (.long q0), .second, .val (.long q1), .second, .val (.long q2), .second, .val (.long q3), .second, .val (.int ((p0 &&& (2147483647 : Int32)) % (3 : Int32))), .val (.ref aFFDHE4096), .val (.int (3 : Int32)), .val (.ref a204), .val (.ref r9_214)] [(.int (2 : Int32)), (.ref r9_214)])) rfl rfl (hb hby at_131) _ k) ?_
      show OwnGo p e below _ (T214.setTop (mkF m 132 #[.val (.int p0), .val (.long q0), .second, .val (.long q1), .second, .val (.long q2), .second, .val (.long q3), .second, .val (.int ((p0 &&& (2147483647 : Int32)) % (3 : Int32))), .val (.ref aFFDHE4096), .val (.int (3 : Int32)), .val (.ref a204), .val (.ref r9_214)] [(.int (3 : Int32))]))
      refine own_go (fun _ k => XS.iload X214.here hx rfl (hb hby at_132) rfl k) ?_
      show OwnGo p e below _ (T214.setTop (mkF m 134 #[.val (.int p0), .val (.long q0), .second, .val (.long q1), .second, .val (.long q2), .second, .val (.long q3), .second, .val (.int ((p0 &&& (2147483647 : Int32)) % (3 : Int32))), .val (.ref aFFDHE4096), .val (.int (3 : Int32)), .val (.ref a204), .val (.ref r9_214)] [(.int (3 : Int32)), (.int (3 : Int32))]))
      refine own_go (fun _ k => XS.icmpYes X214.here hx rfl (pc0 := 134) (pc' := 139) rfl (hb hby at_134) rfl (by decide) (by decide) (by decide) k) ?_
      show OwnGo p e below _ (T214.setTop (mkF m 139 #[.val (.int p0), .val (.long q0), .second, .val (.long q1), .second, .val (.long q2), .second, .val (.long q3), .second, .val (.int ((p0 &&& (2147483647 : Int32)) % (3 : Int32))), .val (.ref aFFDHE4096), .val (.int (3 : Int32)), .val (.ref a204), .val (.ref r9_214)] []))
      refine own_go (fun _ k => XS.aload X214.here hx rfl (hb hby at_139) rfl rfl k) ?_
      show OwnGo p e below _ (T214.setTop (mkF m 141 #[.val (.int p0), .val (.long q0), .second, .val (.long q1), .second, .val (.long q2), .second, .val (.long q3), .second, .val (.int ((p0 &&& (2147483647 : Int32)) % (3 : Int32))), .val (.ref aFFDHE4096), .val (.int (3 : Int32)), .val (.ref a204), .val (.ref r9_214)] [(.ref r9_214)]))
      refine own_go (fun _ k => XS.iconst X214.here hx rfl (hb hby at_141) k) ?_
      show OwnGo p e below _ (T214.setTop (mkF m 142 #[.val (.int p0), .val (.long q0), .second, .val (.long q1), .second, .val (.long q2), .second, .val (.long q3), .second, .val (.int ((p0 &&& (2147483647 : Int32)) % (3 : Int32))), .val (.ref aFFDHE4096), .val (.int (3 : Int32)), .val (.ref a204), .val (.ref r9_214)] [(.int (3 : Int32)), (.ref r9_214)]))
      refine own_go (fun _ k => XS.lloadN X214.here hx rfl (hb hby at_142) rfl k) ?_
      show OwnGo p e below _ (T214.setTop (mkF m 143 #[.val (.int p0), .val (.long q0), .second, .val (.long q1), .second, .val (.long q2), .second, .val (.long q3), .second, .val (.int ((p0 &&& (2147483647 : Int32)) % (3 : Int32))), .val (.ref aFFDHE4096), .val (.int (3 : Int32)), .val (.ref a204), .val (.ref r9_214)] [(.long q0), (.int (3 : Int32)), (.ref r9_214)]))
      obtain ⟨_, _, ⟨T221, L221, k221, n221⟩, -, X221, ⟨Lc221, hQ221, l221, y221, z221⟩, st221⟩ := Jvm.LawKit.callS X214 hx (y := (⟨"com/example/portcullis/portcullis/ConfirmationEncodePinLaw", "same", "([BIJ)Z"⟩ : MethodName)) hown (mvT hZ (hw _ (List.mem_of_getElem? (i := 34) rfl))) (mvT hZ (hw _ (List.mem_of_getElem? (i := 35) rfl))) (mvT hZ (hw _ (List.mem_of_getElem? (i := 7) rfl))) (mvT hZ (hw _ (List.mem_of_getElem? (i := 36) rfl))) (by decide) (backOf (W := 0) (rm_same3 l Z a0 hw [] aFFDHE2048 aCONFIRMATION aFFDHE4096 aFFDHE3072 F0 r9_214 q0 k9_214 (1 : Int32) (2 : Int32) (3 : Int32) (((((((q1).toUInt64 >>> ((56 : Int32) &&& 0x3f).toInt64.toUInt64).toInt64)).toInt32)).toInt8.toInt32) (((((((q1).toUInt64 >>> ((48 : Int32) &&& 0x3f).toInt64.toUInt64).toInt64)).toInt32)).toInt8.toInt32) (((((((q1).toUInt64 >>> ((40 : Int32) &&& 0x3f).toInt64.toUInt64).toInt64)).toInt32)).toInt8.toInt32) (((((((q1).toUInt64 >>> ((32 : Int32) &&& 0x3f).toInt64.toUInt64).toInt64)).toInt32)).toInt8.toInt32) (((((((q1).toUInt64 >>> ((24 : Int32) &&& 0x3f).toInt64.toUInt64).toInt64)).toInt32)).toInt8.toInt32) (((((((q1).toUInt64 >>> ((16 : Int32) &&& 0x3f).toInt64.toUInt64).toInt64)).toInt32)).toInt8.toInt32) (((((((q1).toUInt64 >>> ((8 : Int32) &&& 0x3f).toInt64.toUInt64).toInt64)).toInt32)).toInt8.toInt32) ((((q1).toInt32)).toInt8.toInt32) (((((((q2).toUInt64 >>> ((56 : Int32) &&& 0x3f).toInt64.toUInt64).toInt64)).toInt32)).toInt8.toInt32) (((((((q2).toUInt64 >>> ((48 : Int32) &&& 0x3f).toInt64.toUInt64).toInt64)).toInt32)).toInt8.toInt32) (((((((q2).toUInt64 >>> ((40 : Int32) &&& 0x3f).toInt64.toUInt64).toInt64)).toInt32)).toInt8.toInt32) (((((((q2).toUInt64 >>> ((32 : Int32) &&& 0x3f).toInt64.toUInt64).toInt64)).toInt32)).toInt8.toInt32) (((((((q2).toUInt64 >>> ((24 : Int32) &&& 0x3f).toInt64.toUInt64).toInt64)).toInt32)).toInt8.toInt32) (((((((q2).toUInt64 >>> ((16 : Int32) &&& 0x3f).toInt64.toUInt64).toInt64)).toInt32)).toInt8.toInt32) (((((((q2).toUInt64 >>> ((8 : Int32) &&& 0x3f).toInt64.toUInt64).toInt64)).toInt32)).toInt8.toInt32) ((((q2).toInt32)).toInt8.toInt32) (((((((q3).toUInt64 >>> ((56 : Int32) &&& 0x3f).toInt64.toUInt64).toInt64)).toInt32)).toInt8.toInt32) (((((((q3).toUInt64 >>> ((48 : Int32) &&& 0x3f).toInt64.toUInt64).toInt64)).toInt32)).toInt8.toInt32) (((((((q3).toUInt64 >>> ((40 : Int32) &&& 0x3f).toInt64.toUInt64).toInt64)).toInt32)).toInt8.toInt32) (((((((q3).toUInt64 >>> ((32 : Int32) &&& 0x3f).toInt64.toUInt64).toInt64)).toInt32)).toInt8.toInt32) (((((((q3).toUInt64 >>> ((24 : Int32) &&& 0x3f).toInt64.toUInt64).toInt64)).toInt32)).toInt8.toInt32) (((((((q3).toUInt64 >>> ((16 : Int32) &&& 0x3f).toInt64.toUInt64).toInt64)).toInt32)).toInt8.toInt32) (((((((q3).toUInt64 >>> ((8 : Int32) &&& 0x3f).toInt64.toUInt64).toInt64)).toInt32)).toInt8.toInt32) ((((q3).toInt32)).toInt8.toInt32) T214.heap n0 O214 x214_0) hZ (hw _ (List.mem_of_getElem? (i := 36) rfl)) (hw _ (List.mem_of_getElem? (i := 7) rfl)) (by decide) (by decide)) (g := (mkF m 143 #[.val (.int p0), .val (.long q0), .second, .val (.long q1), .second, .val (.long q2), .second, .val (.long q3), .second, .val (.int ((p0 &&& (2147483647 : Int32)) % (3 : Int32))), .val (.ref aFFDHE4096), .val (.int (3 : Int32)), .val (.ref a204), .val (.ref r9_214)] [(.long q0), (.int (3 : Int32)), (.ref r9_214)])) rfl (by rw [hml]; rfl) (argsL := [(.ref r9_214), (.int (3 : Int32)), (.long q0)]) (rest := []) (lenOf pd__B_I_J__Z rfl) rfl (by show 2 * 0 + _ ≤ _; exact Nat.le_of_eq rfl) (hb hby at_143) (fun _ _ => ⟨rfl, e214, (by decide : 2 + 0 ≤ _), (by decide : 67 + 0 ≤ _)⟩)
      dsimp only [Pt.U, Pt.locs, Pt.cells, Pt.slots] at X221 l221 y221 z221 st221 hQ221
      subst l221 y221 z221
      obtain ⟨rfl, Nq221, K221⟩ := hQ221
      have N221 := Fr.app N214 Nq221
      refine own_go st221 ?_
      show OwnGo p e below _ (T221.setTop (mkF m 146 #[.val (.int p0), .val (.long q0), .second, .val (.long q1), .second, .val (.long q2), .second, .val (.long q3), .second, .val (.int ((p0 &&& (2147483647 : Int32)) % (3 : Int32))), .val (.ref aFFDHE4096), .val (.int (3 : Int32)), .val (.ref a204), .val (.ref r9_214)] [(.int (1 : Int32))]))
      refine own_go (fun _ k => XS.ifNo X221.here hx rfl (hb hby at_146) rfl (by decide) k) ?_
      show OwnGo p e below _ (T221.setTop (mkF m 149 #[.val (.int p0), .val (.long q0), .second, .val (.long q1), .second, .val (.long q2), .second, .val (.long q3), .second, .val (.int ((p0 &&& (2147483647 : Int32)) % (3 : Int32))), .val (.ref aFFDHE4096), .val (.int (3 : Int32)), .val (.ref a204), .val (.ref r9_214)] []))
      refine own_go (fun _ k => XS.aload X221.here hx rfl (hb hby at_149) rfl rfl k) ?_
      show OwnGo p e below _ (T221.setTop (mkF m 151 #[.val (.int p0), .val (.long q0), .second, .val (.long q1), .second, .val (.long q2), .second, .val (.long q3), .second, .val (.int ((p0 &&& (2147483647 : Int32)) % (3 : Int32))), .val (.ref aFFDHE4096), .val (.int (3 : Int32)), .val (.ref a204), .val (.ref r9_214)] [(.ref r9_214)]))
      refine own_go (fun _ k => XS.bipush X221.here hx rfl (hb hby at_151) k) ?_
      show OwnGo p e below _ (T221.setTop (mkF m 153 #[.val (.int p0), .val (.long q0), .second, .val (.long q1), .second, .val (.long q2), .second, .val (.long q3), .second, .val (.int ((p0 &&& (2147483647 : Int32)) % (3 : Int32))), .val (.ref aFFDHE4096), .val (.int (3 : Int32)), .val (.ref a204), .val (.ref r9_214)] [(.int (11 : Int32)), (.ref r9_214)]))
      refine own_go (fun _ k => XS.lloadN X221.here hx rfl (hb hby at_153) rfl k) ?_
      show OwnGo p e below _ (T221.setTop (mkF m 154 #[.val (.int p0), .val (.long q0), .second, .val (.long q1), .second, .val (.long q2), .second, .val (.long q3), .second, .val (.int ((p0 &&& (2147483647 : Int32)) % (3 : Int32))), .val (.ref aFFDHE4096), .val (.int (3 : Int32)), .val (.ref a204), .val (.ref r9_214)] [(.long q1), (.int (11 : Int32)), (.ref r9_214)]))
      obtain ⟨_, _, ⟨T222, L222, k222, n222⟩, -, X222, ⟨Lc222, hQ222, l222, y222, z222⟩, st222⟩ := Jvm.LawKit.callS X221 hx (y := (⟨"com/example/portcullis/portcullis/ConfirmationEncodePinLaw", "same", "([BIJ)Z"⟩ : MethodName)) hown (mvT hZ (hw _ (List.mem_of_getElem? (i := 34) rfl))) (mvT hZ (hw _ (List.mem_of_getElem? (i := 35) rfl))) (mvT hZ (hw _ (List.mem_of_getElem? (i := 7) rfl))) (mvT hZ (hw _ (List.mem_of_getElem? (i := 36) rfl))) (by decide) (backOf (W := 0) (rm_same11 l Z a0 hw [] aFFDHE2048 aCONFIRMATION aFFDHE4096 aFFDHE3072 F0 r9_214 q1 k9_214 (1 : Int32) (2 : Int32) (3 : Int32) (((((((q0).toUInt64 >>> ((56 : Int32) &&& 0x3f).toInt64.toUInt64).toInt64)).toInt32)).toInt8.toInt32) (((((((q0).toUInt64 >>> ((48 : Int32) &&& 0x3f).toInt64.toUInt64).toInt64)).toInt32)).toInt8.toInt32) (((((((q0).toUInt64 >>> ((40 : Int32) &&& 0x3f).toInt64.toUInt64).toInt64)).toInt32)).toInt8.toInt32) (((((((q0).toUInt64 >>> ((32 : Int32) &&& 0x3f).toInt64.toUInt64).toInt64)).toInt32)).toInt8.toInt32) (((((((q0).toUInt64 >>> ((24 : Int32) &&& 0x3f).toInt64.toUInt64).toInt64)).toInt32)).toInt8.toInt32) (((((((q0).toUInt64 >>> ((16 : Int32) &&& 0x3f).toInt64.toUInt64).toInt64)).toInt32)).toInt8.toInt32) (((((((q0).toUInt64 >>> ((8 : Int32) &&& 0x3f).toInt64.toUInt64).toInt64)).toInt32)).toInt8.toInt32) ((((q0).toInt32)).toInt8.toInt32) (((((((q2).toUInt64 >>> ((56 : Int32) &&& 0x3f).toInt64.toUInt64).toInt64)).toInt32)).toInt8.toInt32) (((((((q2).toUInt64 >>> ((48 : Int32) &&& 0x3f).toInt64.toUInt64).toInt64)).toInt32)).toInt8.toInt32) (((((((q2).toUInt64 >>> ((40 : Int32) &&& 0x3f).toInt64.toUInt64).toInt64)).toInt32)).toInt8.toInt32) (((((((q2).toUInt64 >>> ((32 : Int32) &&& 0x3f).toInt64.toUInt64).toInt64)).toInt32)).toInt8.toInt32) (((((((q2).toUInt64 >>> ((24 : Int32) &&& 0x3f).toInt64.toUInt64).toInt64)).toInt32)).toInt8.toInt32) (((((((q2).toUInt64 >>> ((16 : Int32) &&& 0x3f).toInt64.toUInt64).toInt64)).toInt32)).toInt8.toInt32) (((((((q2).toUInt64 >>> ((8 : Int32) &&& 0x3f).toInt64.toUInt64).toInt64)).toInt32)).toInt8.toInt32) ((((q2).toInt32)).toInt8.toInt32) (((((((q3).toUInt64 >>> ((56 : Int32) &&& 0x3f).toInt64.toUInt64).toInt64)).toInt32)).toInt8.toInt32) (((((((q3).toUInt64 >>> ((48 : Int32) &&& 0x3f).toInt64.toUInt64).toInt64)).toInt32)).toInt8.toInt32) (((((((q3).toUInt64 >>> ((40 : Int32) &&& 0x3f).toInt64.toUInt64).toInt64)).toInt32)).toInt8.toInt32) (((((((q3).toUInt64 >>> ((32 : Int32) &&& 0x3f).toInt64.toUInt64).toInt64)).toInt32)).toInt8.toInt32) (((((((q3).toUInt64 >>> ((24 : Int32) &&& 0x3f).toInt64.toUInt64).toInt64)).toInt32)).toInt8.toInt32) (((((((q3).toUInt64 >>> ((16 : Int32) &&& 0x3f).toInt64.toUInt64).toInt64)).toInt32)).toInt8.toInt32) (((((((q3).toUInt64 >>> ((8 : Int32) &&& 0x3f).toInt64.toUInt64).toInt64)).toInt32)).toInt8.toInt32) ((((q3).toInt32)).toInt8.toInt32) T214.heap n0 O214 x214_0) hZ (hw _ (List.mem_of_getElem? (i := 36) rfl)) (hw _ (List.mem_of_getElem? (i := 7) rfl)) (by decide) (by decide)) (g := (mkF m 154 #[.val (.int p0), .val (.long q0), .second, .val (.long q1), .second, .val (.long q2), .second, .val (.long q3), .second, .val (.int ((p0 &&& (2147483647 : Int32)) % (3 : Int32))), .val (.ref aFFDHE4096), .val (.int (3 : Int32)), .val (.ref a204), .val (.ref r9_214)] [(.long q1), (.int (11 : Int32)), (.ref r9_214)])) rfl (by rw [hml]; rfl) (argsL := [(.ref r9_214), (.int (11 : Int32)), (.long q1)]) (rest := []) (lenOf pd__B_I_J__Z rfl) rfl (by show 2 * 0 + _ ≤ _; exact Nat.le_of_eq rfl) (hb hby at_154) (fun _ _ => ⟨rfl, K221, (by decide : 2 + 0 ≤ _), (by decide : 67 + 0 ≤ _)⟩)
      dsimp only [Pt.U, Pt.locs, Pt.cells, Pt.slots] at X222 l222 y222 z222 st222 hQ222
      subst l222 y222 z222
      obtain ⟨rfl, Nq222, K222⟩ := hQ222
      have N222 := Fr.app N221 Nq222
      refine own_go st222 ?_
      show OwnGo p e below _ (T222.setTop (mkF m 157 #[.val (.int p0), .val (.long q0), .second, .val (.long q1), .second, .val (.long q2), .second, .val (.long q3), .second, .val (.int ((p0 &&& (2147483647 : Int32)) % (3 : Int32))), .val (.ref aFFDHE4096), .val (.int (3 : Int32)), .val (.ref a204), .val (.ref r9_214)] [(.int (1 : Int32))]))
      refine own_go (fun _ k => XS.ifNo X222.here hx rfl (hb hby at_157) rfl (by decide) k) ?_
      show OwnGo p e below _ (T222.setTop (mkF m 160 #[.val (.int p0), .val (.long q0), .second, .val (.long q1), .second, .val (.long q2), .second, .val (.long q3), .second, .val (.int ((p0 &&& (2147483647 : Int32)) % (3 : Int32))), .val (.ref aFFDHE4096), .val (.int (3 : Int32)), .val (.ref a204), .val (.ref r9_214)] []))
      refine own_go (fun _ k => XS.aload X222.here hx rfl (hb hby at_160) rfl rfl k) ?_
      show OwnGo p e below _ (T222.setTop (mkF m 162 #[.val (.int p0), .val (.long q0), .second, .val (.long q1), .second, .val (.long q2), .second, .val (.long q3), .second, .val (.int ((p0 &&& (2147483647 : Int32)) % (3 : Int32))), .val (.ref aFFDHE4096), .val (.int (3 : Int32)), .val (.ref a204), .val (.ref r9_214)] [(.ref r9_214)]))
      refine own_go (fun _ k => XS.bipush X222.here hx rfl (hb hby at_162) k) ?_
      show OwnGo p e below _ (T222.setTop (mkF m 164 #[.val (.int p0), .val (.long q0), .second, .val (.long q1), .second, .val (.long q2), .second, .val (.long q3), .second, .val (.int ((p0 &&& (2147483647 : Int32)) % (3 : Int32))), .val (.ref aFFDHE4096), .val (.int (3 : Int32)), .val (.ref a204), .val (.ref r9_214)] [(.int (19 : Int32)), (.ref r9_214)]))
      refine own_go (fun _ k => XS.lload X222.here hx rfl (hb hby at_164) rfl k) ?_
      show OwnGo p e below _ (T222.setTop (mkF m 166 #[.val (.int p0), .val (.long q0), .second, .val (.long q1), .second, .val (.long q2), .second, .val (.long q3), .second, .val (.int ((p0 &&& (2147483647 : Int32)) % (3 : Int32))), .val (.ref aFFDHE4096), .val (.int (3 : Int32)), .val (.ref a204), .val (.ref r9_214)] [(.long q2), (.int (19 : Int32)), (.ref r9_214)]))
      obtain ⟨_, _, ⟨T223, L223, k223, n223⟩, -, X223, ⟨Lc223, hQ223, l223, y223, z223⟩, st223⟩ := Jvm.LawKit.callS X222 hx (y := (⟨"com/example/portcullis/portcullis/ConfirmationEncodePinLaw", "same", "([BIJ)Z"⟩ : MethodName)) hown (mvT hZ (hw _ (List.mem_of_getElem? (i := 34) rfl))) (mvT hZ (hw _ (List.mem_of_getElem? (i := 35) rfl))) (mvT hZ (hw _ (List.mem_of_getElem? (i := 7) rfl))) (mvT hZ (hw _ (List.mem_of_getElem? (i := 36) rfl))) (by decide) (backOf (W := 0) (rm_same19 l Z a0 hw [] aFFDHE2048 aCONFIRMATION aFFDHE4096 aFFDHE3072 F0 r9_214 q2 k9_214 (1 : Int32) (2 : Int32) (3 : Int32) (((((((q0).toUInt64 >>> ((56 : Int32) &&& 0x3f).toInt64.toUInt64).toInt64)).toInt32)).toInt8.toInt32) (((((((q0).toUInt64 >>> ((48 : Int32) &&& 0x3f).toInt64.toUInt64).toInt64)).toInt32)).toInt8.toInt32) (((((((q0).toUInt64 >>> ((40 : Int32) &&& 0x3f).toInt64.toUInt64).toInt64)).toInt32)).toInt8.toInt32) (((((((q0).toUInt64 >>> ((32 : Int32) &&& 0x3f).toInt64.toUInt64).toInt64)).toInt32)).toInt8.toInt32) (((((((q0).toUInt64 >>> ((24 : Int32) &&& 0x3f).toInt64.toUInt64).toInt64)).toInt32)).toInt8.toInt32) (((((((q0).toUInt64 >>> ((16 : Int32) &&& 0x3f).toInt64.toUInt64).toInt64)).toInt32)).toInt8.toInt32) (((((((q0).toUInt64 >>> ((8 : Int32) &&& 0x3f).toInt64.toUInt64).toInt64)).toInt32)).toInt8.toInt32) ((((q0).toInt32)).toInt8.toInt32) (((((((q1).toUInt64 >>> ((56 : Int32) &&& 0x3f).toInt64.toUInt64).toInt64)).toInt32)).toInt8.toInt32) (((((((q1).toUInt64 >>> ((48 : Int32) &&& 0x3f).toInt64.toUInt64).toInt64)).toInt32)).toInt8.toInt32) (((((((q1).toUInt64 >>> ((40 : Int32) &&& 0x3f).toInt64.toUInt64).toInt64)).toInt32)).toInt8.toInt32) (((((((q1).toUInt64 >>> ((32 : Int32) &&& 0x3f).toInt64.toUInt64).toInt64)).toInt32)).toInt8.toInt32) (((((((q1).toUInt64 >>> ((24 : Int32) &&& 0x3f).toInt64.toUInt64).toInt64)).toInt32)).toInt8.toInt32) (((((((q1).toUInt64 >>> ((16 : Int32) &&& 0x3f).toInt64.toUInt64).toInt64)).toInt32)).toInt8.toInt32) (((((((q1).toUInt64 >>> ((8 : Int32) &&& 0x3f).toInt64.toUInt64).toInt64)).toInt32)).toInt8.toInt32) ((((q1).toInt32)).toInt8.toInt32) (((((((q3).toUInt64 >>> ((56 : Int32) &&& 0x3f).toInt64.toUInt64).toInt64)).toInt32)).toInt8.toInt32) (((((((q3).toUInt64 >>> ((48 : Int32) &&& 0x3f).toInt64.toUInt64).toInt64)).toInt32)).toInt8.toInt32) (((((((q3).toUInt64 >>> ((40 : Int32) &&& 0x3f).toInt64.toUInt64).toInt64)).toInt32)).toInt8.toInt32) (((((((q3).toUInt64 >>> ((32 : Int32) &&& 0x3f).toInt64.toUInt64).toInt64)).toInt32)).toInt8.toInt32) (((((((q3).toUInt64 >>> ((24 : Int32) &&& 0x3f).toInt64.toUInt64).toInt64)).toInt32)).toInt8.toInt32) (((((((q3).toUInt64 >>> ((16 : Int32) &&& 0x3f).toInt64.toUInt64).toInt64)).toInt32)).toInt8.toInt32) (((((((q3).toUInt64 >>> ((8 : Int32) &&& 0x3f).toInt64.toUInt64).toInt64)).toInt32)).toInt8.toInt32) ((((q3).toInt32)).toInt8.toInt32) T214.heap n0 O214 x214_0) hZ (hw _ (List.mem_of_getElem? (i := 36) rfl)) (hw _ (List.mem_of_getElem? (i := 7) rfl)) (by decide) (by decide)) (g := (mkF m 166 #[.val (.int p0), .val (.long q0), .second, .val (.long q1), .second, .val (.long q2), .second, .val (.long q3), .second, .val (.int ((p0 &&& (2147483647 : Int32)) % (3 : Int32))), .val (.ref aFFDHE4096), .val (.int (3 : Int32)), .val (.ref a204), .val (.ref r9_214)] [(.long q2), (.int (19 : Int32)), (.ref r9_214)])) rfl (by rw [hml]; rfl) (argsL := [(.ref r9_214), (.int (19 : Int32)), (.long q2)]) (rest := []) (lenOf pd__B_I_J__Z rfl) rfl (by show 2 * 0 + _ ≤ _; exact Nat.le_of_eq rfl) (hb hby at_166) (fun _ _ => ⟨rfl, K222, (by decide : 2 + 0 ≤ _), (by decide : 67 + 0 ≤ _)⟩)
      dsimp only [Pt.U, Pt.locs, Pt.cells, Pt.slots] at X223 l223 y223 z223 st223 hQ223
      subst l223 y223 z223
      obtain ⟨rfl, Nq223, K223⟩ := hQ223
      have N223 := Fr.app N222 Nq223
      refine own_go st223 ?_
      show OwnGo p e below _ (T223.setTop (mkF m 169 #[.val (.int p0), .val (.long q0), .second, .val (.long q1), .second, .val (.long q2), .second, .val (.long q3), .second, .val (.int ((p0 &&& (2147483647 : Int32)) % (3 : Int32))), .val (.ref aFFDHE4096), .val (.int (3 : Int32)), .val (.ref a204), .val (.ref r9_214)] [(.int (1 : Int32))]))
      refine own_go (fun _ k => XS.ifNo X223.here hx rfl (hb hby at_169) rfl (by decide) k) ?_
      show OwnGo p e below _ (T223.setTop (mkF m 172 #[.val (.int p0), .val (.long q0), .second, .val (.long q1), .second, .val (.long q2), .second, .val (.long q3), .second, .val (.int ((p0 &&& (2147483647 : Int32)) % (3 : Int32))), .val (.ref aFFDHE4096), .val (.int (3 : Int32)), .val (.ref a204), .val (.ref r9_214)] []))
      refine own_go (fun _ k => XS.aload X223.here hx rfl (hb hby at_172) rfl rfl k) ?_
      show OwnGo p e below _ (T223.setTop (mkF m 174 #[.val (.int p0), .val (.long q0), .second, .val (.long q1), .second, .val (.long q2), .second, .val (.long q3), .second, .val (.int ((p0 &&& (2147483647 : Int32)) % (3 : Int32))), .val (.ref aFFDHE4096), .val (.int (3 : Int32)), .val (.ref a204), .val (.ref r9_214)] [(.ref r9_214)]))
      refine own_go (fun _ k => XS.bipush X223.here hx rfl (hb hby at_174) k) ?_
      show OwnGo p e below _ (T223.setTop (mkF m 176 #[.val (.int p0), .val (.long q0), .second, .val (.long q1), .second, .val (.long q2), .second, .val (.long q3), .second, .val (.int ((p0 &&& (2147483647 : Int32)) % (3 : Int32))), .val (.ref aFFDHE4096), .val (.int (3 : Int32)), .val (.ref a204), .val (.ref r9_214)] [(.int (27 : Int32)), (.ref r9_214)]))
      refine own_go (fun _ k => XS.lload X223.here hx rfl (hb hby at_176) rfl k) ?_
      show OwnGo p e below _ (T223.setTop (mkF m 178 #[.val (.int p0), .val (.long q0), .second, .val (.long q1), .second, .val (.long q2), .second, .val (.long q3), .second, .val (.int ((p0 &&& (2147483647 : Int32)) % (3 : Int32))), .val (.ref aFFDHE4096), .val (.int (3 : Int32)), .val (.ref a204), .val (.ref r9_214)] [(.long q3), (.int (27 : Int32)), (.ref r9_214)]))
      obtain ⟨_, _, ⟨T224, L224, k224, n224⟩, -, X224, ⟨Lc224, hQ224, l224, y224, z224⟩, st224⟩ := Jvm.LawKit.callS X223 hx (y := (⟨"com/example/portcullis/portcullis/ConfirmationEncodePinLaw", "same", "([BIJ)Z"⟩ : MethodName)) hown (mvT hZ (hw _ (List.mem_of_getElem? (i := 34) rfl))) (mvT hZ (hw _ (List.mem_of_getElem? (i := 35) rfl))) (mvT hZ (hw _ (List.mem_of_getElem? (i := 7) rfl))) (mvT hZ (hw _ (List.mem_of_getElem? (i := 36) rfl))) (by decide) (backOf (W := 0) (rm_same27 l Z a0 hw [] aFFDHE2048 aCONFIRMATION aFFDHE4096 aFFDHE3072 F0 r9_214 q3 k9_214 (1 : Int32) (2 : Int32) (3 : Int32) (((((((q0).toUInt64 >>> ((56 : Int32) &&& 0x3f).toInt64.toUInt64).toInt64)).toInt32)).toInt8.toInt32) (((((((q0).toUInt64 >>> ((48 : Int32) &&& 0x3f).toInt64.toUInt64).toInt64)).toInt32)).toInt8.toInt32) (((((((q0).toUInt64 >>> ((40 : Int32) &&& 0x3f).toInt64.toUInt64).toInt64)).toInt32)).toInt8.toInt32) (((((((q0).toUInt64 >>> ((32 : Int32) &&& 0x3f).toInt64.toUInt64).toInt64)).toInt32)).toInt8.toInt32) (((((((q0).toUInt64 >>> ((24 : Int32) &&& 0x3f).toInt64.toUInt64).toInt64)).toInt32)).toInt8.toInt32) (((((((q0).toUInt64 >>> ((16 : Int32) &&& 0x3f).toInt64.toUInt64).toInt64)).toInt32)).toInt8.toInt32) (((((((q0).toUInt64 >>> ((8 : Int32) &&& 0x3f).toInt64.toUInt64).toInt64)).toInt32)).toInt8.toInt32) ((((q0).toInt32)).toInt8.toInt32) (((((((q1).toUInt64 >>> ((56 : Int32) &&& 0x3f).toInt64.toUInt64).toInt64)).toInt32)).toInt8.toInt32) (((((((q1).toUInt64 >>> ((48 : Int32) &&& 0x3f).toInt64.toUInt64).toInt64)).toInt32)).toInt8.toInt32) (((((((q1).toUInt64 >>> ((40 : Int32) &&& 0x3f).toInt64.toUInt64).toInt64)).toInt32)).toInt8.toInt32) (((((((q1).toUInt64 >>> ((32 : Int32) &&& 0x3f).toInt64.toUInt64).toInt64)).toInt32)).toInt8.toInt32) (((((((q1).toUInt64 >>> ((24 : Int32) &&& 0x3f).toInt64.toUInt64).toInt64)).toInt32)).toInt8.toInt32) (((((((q1).toUInt64 >>> ((16 : Int32) &&& 0x3f).toInt64.toUInt64).toInt64)).toInt32)).toInt8.toInt32) (((((((q1).toUInt64 >>> ((8 : Int32) &&& 0x3f).toInt64.toUInt64).toInt64)).toInt32)).toInt8.toInt32) ((((q1).toInt32)).toInt8.toInt32) (((((((q2).toUInt64 >>> ((56 : Int32) &&& 0x3f).toInt64.toUInt64).toInt64)).toInt32)).toInt8.toInt32) (((((((q2).toUInt64 >>> ((48 : Int32) &&& 0x3f).toInt64.toUInt64).toInt64)).toInt32)).toInt8.toInt32) (((((((q2).toUInt64 >>> ((40 : Int32) &&& 0x3f).toInt64.toUInt64).toInt64)).toInt32)).toInt8.toInt32) (((((((q2).toUInt64 >>> ((32 : Int32) &&& 0x3f).toInt64.toUInt64).toInt64)).toInt32)).toInt8.toInt32) (((((((q2).toUInt64 >>> ((24 : Int32) &&& 0x3f).toInt64.toUInt64).toInt64)).toInt32)).toInt8.toInt32) (((((((q2).toUInt64 >>> ((16 : Int32) &&& 0x3f).toInt64.toUInt64).toInt64)).toInt32)).toInt8.toInt32) (((((((q2).toUInt64 >>> ((8 : Int32) &&& 0x3f).toInt64.toUInt64).toInt64)).toInt32)).toInt8.toInt32) ((((q2).toInt32)).toInt8.toInt32) T214.heap n0 O214 x214_0) hZ (hw _ (List.mem_of_getElem? (i := 36) rfl)) (hw _ (List.mem_of_getElem? (i := 7) rfl)) (by decide) (by decide)) (g := (mkF m 178 #[.val (.int p0), .val (.long q0), .second, .val (.long q1), .second, .val (.long q2), .second, .val (.long q3), .second, .val (.int ((p0 &&& (2147483647 : Int32)) % (3 : Int32))), .val (.ref aFFDHE4096), .val (.int (3 : Int32)), .val (.ref a204), .val (.ref r9_214)] [(.long q3), (.int (27 : Int32)), (.ref r9_214)])) rfl (by rw [hml]; rfl) (argsL := [(.ref r9_214), (.int (27 : Int32)), (.long q3)]) (rest := []) (lenOf pd__B_I_J__Z rfl) rfl (by show 2 * 0 + _ ≤ _; exact Nat.le_of_eq rfl) (hb hby at_178) (fun _ _ => ⟨rfl, K223, (by decide : 2 + 0 ≤ _), (by decide : 67 + 0 ≤ _)⟩)
      dsimp only [Pt.U, Pt.locs, Pt.cells, Pt.slots] at X224 l224 y224 z224 st224 hQ224
      subst l224 y224 z224
      obtain ⟨rfl, Nq224, K224⟩ := hQ224
      have N224 := Fr.app N223 Nq224
      refine own_go st224 ?_
      show OwnGo p e below _ (T224.setTop (mkF m 181 #[.val (.int p0), .val (.long q0), .second, .val (.long q1), .second, .val (.long q2), .second, .val (.long q3), .second, .val (.int ((p0 &&& (2147483647 : Int32)) % (3 : Int32))), .val (.ref aFFDHE4096), .val (.int (3 : Int32)), .val (.ref a204), .val (.ref r9_214)] [(.int (1 : Int32))]))
      refine own_go (fun _ k => XS.ifNo X224.here hx rfl (hb hby at_181) rfl (by decide) k) ?_
      show OwnGo p e below _ (T224.setTop (mkF m 184 #[.val (.int p0), .val (.long q0), .second, .val (.long q1), .second, .val (.long q2), .second, .val (.long q3), .second, .val (.int ((p0 &&& (2147483647 : Int32)) % (3 : Int32))), .val (.ref aFFDHE4096), .val (.int (3 : Int32)), .val (.ref a204), .val (.ref r9_214)] []))
      refine own_go (fun _ k => XS.iconst X224.here hx rfl (hb hby at_184) k) ?_
      show OwnGo p e below _ (T224.setTop (mkF m 185 #[.val (.int p0), .val (.long q0), .second, .val (.long q1), .second, .val (.long q2), .second, .val (.long q3), .second, .val (.int ((p0 &&& (2147483647 : Int32)) % (3 : Int32))), .val (.ref aFFDHE4096), .val (.int (3 : Int32)), .val (.ref a204), .val (.ref r9_214)] [(.int (1 : Int32))]))
      refine own_go (fun _ k => XS.goto X224.here hx rfl (pc0 := 185) (pc' := 189) rfl (hb hby at_185) (by decide) (by decide) k) ?_
      show OwnGo p e below _ (T224.setTop (mkF m 189 #[.val (.int p0), .val (.long q0), .second, .val (.long q1), .second, .val (.long q2), .second, .val (.long q3), .second, .val (.int ((p0 &&& (2147483647 : Int32)) % (3 : Int32))), .val (.ref aFFDHE4096), .val (.int (3 : Int32)), .val (.ref a204), .val (.ref r9_214)] [(.int (1 : Int32))]))
      obtain ⟨fs, hr, hrun, hended, hW, hsame⟩ := X224.leave (v := some (.int (1 : Int32))) (fun h => by rw [Bd.returns] at h; cases h)
      refine ⟨_, _, retOut X224 hx Bd.returns rfl (Or.inl ⟨rfl, Or.inr (Or.inl rfl), _, rfl⟩) (hb hby at_189) hr, hrun, hended, _, _, rfl, ?_, ⟨_, rfl⟩, hW, hsame.mono (by decide) (by decide)⟩
      show Q_law Z aFFDHE2048 aCONFIRMATION aFFDHE4096 aFFDHE3072 p0 q0 q1 q2 q3 h0 n0 _ T224.heap _
      rw [K224]
      exact ⟨rfl, N224⟩
set_option maxRecDepth 65536 in
set_option maxHeartbeats 40000000 in
theorem comes_1 {Post : Tables → Env → Array Value → State → Outcome → State → Prop} (hpost : ∀ tb e args s v u, (limb_1_1.after args s (.returned v) u = true ∧ limb_1_2.after args s (.returned v) u = true ∧ True) → FrameEnd s (.returned v) u (Jvm.fieldLocs frame_1_writes args s ++ Jvm.arrayLocs frame_1_arrays args s ++ Jvm.staticLocs frame_1_statics s) 16 256 → Post tb e args s (.returned v) u) :
    ArmFor flags0 classFile x code maxLocals ret World_1 tables_1 room_1 Calls_1 rest_1 Pre_1 Post := by
  intro l hfl _ _ p e ha hc hk s m args below hf hA hF happ hP
  obtain ⟨hcalls, hrest, hpre⟩ := hP
  obtain ⟨-, -, -, hnamed, -, -, -, hat⟩ := (Spec.applies_iff hf).mp happ
  obtain ⟨hg, hn0⟩ := and_e (Cond.before_iff.mp (show (Jvm.Cond.and given_1 narrow_1).before args s = true from hpre))
  obtain ⟨h1, g0⟩ := and_e hg
  obtain ⟨t0, g1⟩ := and_e g0
  obtain ⟨t1, g2⟩ := and_e g1
  obtain ⟨t2, g3⟩ := and_e g2
  obtain ⟨t3, g4⟩ := and_e g3
  obtain ⟨w0, w1, w2, w3, w4, rfl⟩ : ∃ w0 w1 w2 w3 w4 : Value, args = #[w0, w1, w2, w3, w4] := by
    have hs : args.size = 5 := by simpa [Cond.value, given_1] using h1
    obtain ⟨L⟩ := args
    match L, hs with
    | [w0, w1, w2, w3, w4], _ => exact ⟨w0, w1, w2, w3, w4, rfl⟩
  have hw := fun d (hd : d ∈ tables_1) => atoms_spec (ws := Jvm.Cond.code x code maxLocals ret :: tables_1) hat d (List.mem_cons_of_mem _ hd)
  have hfit : Fit s := fun {y c} hc i hi => by
    obtain ⟨ha, rfl⟩ := Array.getElem?_eq_some_iff.mp hc
    have q := List.all_eq_true.mp ((Array.all_eq_true_iff_forall_mem.mp hF) _ (Array.getElem_mem ha)) i (List.mem_range.mpr hi)
    simpa [Array.getElem?_eq_getElem hi] using q
  obtain ⟨i0, ev0⟩ := is_v t0
  obtain rfl : w0 = (.int i0) := Option.some.inj ev0
  obtain ⟨i1, ev1⟩ := isL_v t1
  obtain rfl : w1 = (.long i1) := Option.some.inj ev1
  obtain ⟨i2, ev2⟩ := isL_v t2
  obtain rfl : w2 = (.long i2) := Option.some.inj ev2
  obtain ⟨i3, ev3⟩ := isL_v t3
  obtain rfl : w3 = (.long i3) := Option.some.inj ev3
  obtain ⟨i4, ev4⟩ := isL_v g4
  obtain rfl : w4 = (.long i4) := Option.some.inj ev4
  obtain ⟨c0, hn1⟩ := and_e hn0
  obtain ⟨aFFDHE2048, ev_aFFDHE2048⟩ := exa_v c0
  obtain ⟨c1, hn2⟩ := and_e hn1
  obtain ⟨aCONFIRMATION, ev_aCONFIRMATION⟩ := exa_v c1
  obtain ⟨c2, hn3⟩ := and_e hn2
  obtain ⟨c3, hn4⟩ := and_e hn3
  obtain ⟨c4, hn5⟩ := and_e hn4
  obtain ⟨aFFDHE4096, ev_aFFDHE4096⟩ := exa_v c4
  obtain ⟨c5, hn6⟩ := and_e hn5
  obtain ⟨c6, hn7⟩ := and_e hn6
  obtain ⟨aFFDHE3072, ev_aFFDHE3072⟩ := exa_v c6
  have F0 : OwnFacts s aFFDHE2048 aCONFIRMATION aFFDHE4096 aFFDHE3072 := ⟨(Sta.start ev_aFFDHE2048 (Or.inr ⟨(hw _ (List.mem_of_getElem? (i := 2) rfl)), (hw _ (List.mem_of_getElem? (i := 3) rfl))⟩)), (Exa.start ev_aFFDHE2048 c0), (Sta.start ev_aCONFIRMATION (Or.inr ⟨(hw _ (List.mem_of_getElem? (i := 14) rfl)), (hw _ (List.mem_of_getElem? (i := 15) rfl))⟩)), (Exa.start ev_aCONFIRMATION c1), (own_fldI ev_aCONFIRMATION c2), (own_fldI ev_aFFDHE2048 c3), (Sta.start ev_aFFDHE4096 (Or.inr ⟨(hw _ (List.mem_of_getElem? (i := 2) rfl)), (hw _ (List.mem_of_getElem? (i := 38) rfl))⟩)), (Exa.start ev_aFFDHE4096 c4), (own_fldI ev_aFFDHE4096 c5), (Sta.start ev_aFFDHE3072 (Or.inr ⟨(hw _ (List.mem_of_getElem? (i := 2) rfl)), (hw _ (List.mem_of_getElem? (i := 40) rfl))⟩)), (Exa.start ev_aFFDHE3072 c6), (own_fldI ev_aFFDHE3072 hn7)⟩
  obtain ⟨n, o, h1, h2, h3, _, L, rfl, ⟨rfl, N⟩, hq⟩ := rm_law l s _ hw tables_1 aFFDHE2048 aCONFIRMATION aFFDHE4096 aFFDHE3072 F0 i0 i1 i2 i3 i4 s.heap s.heap.size (Old.start s) p e ha hc hk s m _ below hf ((Spec.applies_iff_loose hf).mp happ).1 ⟨rfl, State.Warmed39.refl s, rfl⟩ trivial
  refine ⟨n, _, h1, h2, h3, hpost _ _ _ _ _ _ ⟨Cond.after_iff.mpr rfl, Cond.after_iff.mpr (eq_i res_at (Term.int_eval (1)) rfl), trivial⟩ ⟨hq.1, hq.2.1, (hq.2.2.sift fun y hy => Or.inr (N y hy)).mono (by decide) (by decide)⟩⟩
theorem main_1_1 : Claimed_1_1 := comes_1 fun _ _ _ _ _ _ h hF => ⟨h.1, hF⟩
theorem main_1_2 : Claimed_1_2 := comes_1 fun _ _ _ _ _ _ h hF => ⟨h.2.1, hF⟩
end Jvm.Pilot.@@N@@
namespace Jvm.Pilot.@@N@@
open Jvm Jvm.ClassFile Sem Op Lib Jvm.Free Jvm.Stand Jvm.Pilot.@@N@@.Jvm.D
/-! MADE BY PROGRAM (witnessworld.py) out of the Statement's table words and the real class files: 15 classes; the members and pool entries that the words name. The judged class is class 1, her method 1. -/
namespace start1
open Jvm.ClassFile
def u (s : String) : CpInfo := .utf8 (stringToUtf16 s)
/-- a pool by its gaps: so many unusable entries, then the entry; so many at the end -/
def gap : Nat → List CpInfo → List CpInfo
  | 0, r => r
  | n + 1, r => .unusable :: gap n r
def poolList (es : List (Nat × CpInfo)) (last : Nat) : List CpInfo := es.foldr (fun e r => gap e.1 (e.2 :: r)) (gap last [])
def pool (es : List (Nat × CpInfo)) (last : Nat) : Array CpInfo := ⟨poolList es last⟩
def fileOf (pool : Array CpInfo) (this : Nat) (attrs : Array Attribute := #[]) (ms : Array MethodInfo := #[]) (fl : Nat := 33) (sup : Nat := 0) (ifs : Array Nat := #[]) (fds : Array FieldInfo := #[]) : ClassFile where
  minorVersion := 0
  majorVersion := 65
  constantPool := pool
  accessFlags := fl
  thisClass := this
  superClass := sup
  interfaces := ifs
  fields := fds
  methods := ms
  attributes := attrs
def plain (name : String) (sup : Option ClassId) : Class where
  name := name
  kind := .ordinary
  loader := none
  accessFlags := 33
  super := sup
  interfaces := #[]
  cf := none
  fields := #[]
  methods := #[]
  instanceTypes := #[]
  staticTypes := #[]
  resolved := #[]
  callSites := []
  init := .initialized
  statics := none
  mirror := none

def pool0 : Array CpInfo := pool [(5, u "<init>"), (0, u "()V"), (1, .class_ 10), (1, u "java/lang/Object")] 113

def k0m0 : Method := { name := "<init>", desc := "()V", sig := { parameters := [], returnType := none }, accessFlags := 1, code := none }
/-- java/lang/Object -/
def k0 : Class := { plain "java/lang/Object" none with
  accessFlags := 33
  interfaces := #[]
  cf := some (fileOf pool0 8 #[] #[{ accessFlags := 1, nameIndex := 5, descriptorIndex := 6, attributes := #[] }] 33 0 #[] #[])
  fields := #[]
  methods := #[k0m0]
  instanceTypes := #[]
  staticTypes := #[]
  resolved := Array.replicate 124 none
  statics := none }

def pool1 : Array CpInfo := pool [(2, .class_ 4), (1, u "java/lang/Object"), (0, u "<init>"), (0, u "()V"), (0, .integer 2147483647), (0, .fieldref 9 10), (0, .class_ 11), (0, .nameAndType 12 13), (0, u "com/example/portcullis/portcullis/Group"), (0, u "FFDHE2048"), (0, u "Lcom/example/portcullis/portcullis/Group;"), (0, .fieldref 9 15), (0, .nameAndType 16 13), (0, u "FFDHE3072"), (0, .fieldref 9 18), (0, .nameAndType 19 13), (0, u "FFDHE4096"), (0, .methodref 21 22), (0, .class_ 23), (0, .nameAndType 24 25), (0, u "com/example/portcullis/portcullis/ConfirmationEncodePinLaw"), (0, u "put"), (0, u "([BIJ)V"), (0, .methodref 27 28), (0, .class_ 29), (0, .nameAndType 30 31), (0, u "com/example/portcullis/portcullis/Confirmation"), (0, u "encode"), (0, u "(Lcom/example/portcullis/portcullis/Group;[B)[B"), (0, .methodref 21 33), (0, .nameAndType 34 35), (0, u "same"), (0, u "([BIJ)Z"), (2, u "law"), (0, u "(IJJJJ)Z")] 5

def k1m0 : Method := { name := "<init>", desc := "()V", sig := { parameters := [], returnType := none }, accessFlags := 2, code := none }
def k1c1 : Code := { maxStack := 4, maxLocals := 14, code := code, exceptionTable := #[], attributes := #[] }
def k1m1 : Method := { name := "law", desc := "(IJJJJ)Z", sig := { parameters := [.int, .long, .long, .long, .long], returnType := some .boolean }, accessFlags := 9, code := some k1c1 }
def k1c2 : Code := { maxStack := 5, maxLocals := 4, code := method_3_code, exceptionTable := #[], attributes := #[] }
def k1m2 : Method := { name := "put", desc := "([BIJ)V", sig := { parameters := [(.array .byte), .int, .long], returnType := none }, accessFlags := 10, code := some k1c2 }
def k1c3 : Code := { maxStack := 4, maxLocals := 4, code := method_4_code, exceptionTable := #[], attributes := #[] }
def k1m3 : Method := { name := "same", desc := "([BIJ)Z", sig := { parameters := [(.array .byte), .int, .long], returnType := some .boolean }, accessFlags := 10, code := some k1c3 }
/-- com/example/portcullis/portcullis/ConfirmationEncodePinLaw -/
def k1 : Class := { plain "com/example/portcullis/portcullis/ConfirmationEncodePinLaw" (some 0) with
  accessFlags := 49
  interfaces := #[]
  cf := some (fileOf pool1 21 #[] #[{ accessFlags := 2, nameIndex := 5, descriptorIndex := 6, attributes := #[] }, { accessFlags := 9, nameIndex := 38, descriptorIndex := 39, attributes := #[] }, { accessFlags := 10, nameIndex := 24, descriptorIndex := 25, attributes := #[] }, { accessFlags := 10, nameIndex := 34, descriptorIndex := 35, attributes := #[] }] 49 2 #[] #[])
  fields := #[]
  methods := #[k1m0, k1m1, k1m2, k1m3]
  instanceTypes := #[]
  staticTypes := #[]
  resolved := Array.replicate 45 none
  statics := none }

def pool2 : Array CpInfo := pool [(1, .class_ 2), (0, u "java/lang/constant/Constable"), (0, .class_ 4), (0, u "java/lang/Object")] 6

/-- java/lang/constant/Constable -/
def k2 : Class := { plain "java/lang/constant/Constable" (some 0) with
  accessFlags := 1537
  interfaces := #[]
  cf := some (fileOf pool2 1 #[] #[] 1537 3 #[] #[])
  fields := #[]
  methods := #[]
  instanceTypes := #[]
  staticTypes := #[]
  resolved := Array.replicate 11 none
  statics := none }

def pool3 : Array CpInfo := pool [(1, .class_ 2), (0, u "java/lang/Comparable"), (0, .class_ 4), (0, u "java/lang/Object")] 7

/-- java/lang/Comparable -/
def k3 : Class := { plain "java/lang/Comparable" (some 0) with
  accessFlags := 1537
  interfaces := #[]
  cf := some (fileOf pool3 1 #[] #[] 1537 3 #[] #[])
  fields := #[]
  methods := #[]
  instanceTypes := #[]
  staticTypes := #[]
  resolved := Array.replicate 12 none
  statics := none }

def pool4 : Array CpInfo := pool [(1, .class_ 2), (0, u "java/io/Serializable"), (0, .class_ 4), (0, u "java/lang/Object")] 2

/-- java/io/Serializable -/
def k4 : Class := { plain "java/io/Serializable" (some 0) with
  accessFlags := 1537
  interfaces := #[]
  cf := some (fileOf pool4 1 #[] #[] 1537 3 #[] #[])
  fields := #[]
  methods := #[]
  instanceTypes := #[]
  staticTypes := #[]
  resolved := Array.replicate 7 none
  statics := none }

def pool5 : Array CpInfo := pool [(2, .class_ 4), (1, u "java/lang/Enum"), (0, u "name"), (0, u "Ljava/lang/String;"), (2, u "ordinal"), (0, u "I"), (1, .class_ 14), (1, u "java/lang/Object"), (4, u "hash"), (86, .class_ 108), (1, u "java/lang/Enum$EnumDesc"), (2, .class_ 112), (0, u "java/lang/constant/Constable"), (0, .class_ 114), (0, u "java/lang/Comparable"), (0, .class_ 116), (0, u "java/io/Serializable")] 87

/-- java/lang/Enum -/
def k5 : Class := { plain "java/lang/Enum" (some 0) with
  accessFlags := 1057
  interfaces := #[2, 3, 4]
  cf := some (fileOf pool5 2 #[.nestMembers #[106]] #[] 1057 12 #[111, 113, 115] #[{ accessFlags := 18, nameIndex := 5, descriptorIndex := 6, attributes := #[] }, { accessFlags := 18, nameIndex := 9, descriptorIndex := 10, attributes := #[] }, { accessFlags := 2, nameIndex := 19, descriptorIndex := 10, attributes := #[] }])
  fields := #[{ name := "name", type := (.object "java/lang/String"), accessFlags := 18, slot := 0, constantValue := 0 }, { name := "ordinal", type := .int, accessFlags := 18, slot := 1, constantValue := 0 }, { name := "hash", type := .int, accessFlags := 2, slot := 2, constantValue := 0 }]
  methods := #[]
  instanceTypes := #[(.object "java/lang/String"), .int, .int]
  staticTypes := #[]
  resolved := Array.replicate 204 none
  statics := none }

def pool6 : Array CpInfo := pool [(1, .class_ 2), (0, u "com/example/portcullis/portcullis/Group"), (2, u "FFDHE2048"), (0, u "Lcom/example/portcullis/portcullis/Group;"), (2, u "FFDHE3072"), (2, u "FFDHE4096"), (2, u "$VALUES"), (0, u "[Lcom/example/portcullis/portcullis/Group;"), (6, .class_ 25), (1, u "java/lang/Enum"), (6, .fieldref 1 33), (0, .nameAndType 34 35), (0, u "id"), (0, u "B"), (6, u "modulus"), (0, u "Ljava/math/BigInteger;"), (4, u "elementLength"), (0, u "I"), (2, u "exponentLength"), (106, u "GUARD_BITS"), (9, u "()B")] 28

def k6c0 : Code := { maxStack := 1, maxLocals := 1, code := prog_3_method_4_code, exceptionTable := #[], attributes := #[] }
def k6m0 : Method := { name := "id", desc := "()B", sig := { parameters := [], returnType := some .byte }, accessFlags := 0, code := some k6c0 }
/-- com/example/portcullis/portcullis/Group -/
def k6 : Class := { plain "com/example/portcullis/portcullis/Group" (some 5) with
  accessFlags := 16433
  interfaces := #[]
  cf := some (fileOf pool6 1 #[] #[{ accessFlags := 0, nameIndex := 34, descriptorIndex := 169, attributes := #[] }] 16433 23 #[] #[{ accessFlags := 16409, nameIndex := 5, descriptorIndex := 6, attributes := #[] }, { accessFlags := 16409, nameIndex := 9, descriptorIndex := 6, attributes := #[] }, { accessFlags := 16409, nameIndex := 12, descriptorIndex := 6, attributes := #[] }, { accessFlags := 26, nameIndex := 159, descriptorIndex := 49, attributes := #[] }, { accessFlags := 18, nameIndex := 34, descriptorIndex := 35, attributes := #[] }, { accessFlags := 18, nameIndex := 42, descriptorIndex := 43, attributes := #[] }, { accessFlags := 18, nameIndex := 48, descriptorIndex := 49, attributes := #[] }, { accessFlags := 18, nameIndex := 52, descriptorIndex := 49, attributes := #[] }, { accessFlags := 4122, nameIndex := 15, descriptorIndex := 16, attributes := #[] }])
  fields := #[{ name := "FFDHE2048", type := (.object "com/example/portcullis/portcullis/Group"), accessFlags := 16409, slot := 0, constantValue := 0 }, { name := "FFDHE3072", type := (.object "com/example/portcullis/portcullis/Group"), accessFlags := 16409, slot := 1, constantValue := 0 }, { name := "FFDHE4096", type := (.object "com/example/portcullis/portcullis/Group"), accessFlags := 16409, slot := 2, constantValue := 0 }, { name := "GUARD_BITS", type := .int, accessFlags := 26, slot := 3, constantValue := 0 }, { name := "id", type := .byte, accessFlags := 18, slot := 3, constantValue := 0 }, { name := "modulus", type := (.object "java/math/BigInteger"), accessFlags := 18, slot := 4, constantValue := 0 }, { name := "elementLength", type := .int, accessFlags := 18, slot := 5, constantValue := 0 }, { name := "exponentLength", type := .int, accessFlags := 18, slot := 6, constantValue := 0 }, { name := "$VALUES", type := (.array (.object "com/example/portcullis/portcullis/Group")), accessFlags := 4122, slot := 4, constantValue := 0 }]
  methods := #[k6m0]
  instanceTypes := #[(.object "java/lang/String"), .int, .int, .byte, (.object "java/math/BigInteger"), .int, .int]
  staticTypes := #[(.object "com/example/portcullis/portcullis/Group"), (.object "com/example/portcullis/portcullis/Group"), (.object "com/example/portcullis/portcullis/Group"), .int, (.array (.object "com/example/portcullis/portcullis/Group"))]
  resolved := Array.replicate 198 none
  statics := some 0 }

def pool7 : Array CpInfo := pool [(1, .class_ 2), (0, u "com/example/portcullis/portcullis/MessageType"), (3, .class_ 8), (1, u "java/lang/Object"), (0, u "<init>"), (0, u "()V"), (6, .class_ 18), (0, u "com/example/portcullis/portcullis/Confirmation"), (0, .fieldref 1 20), (0, .nameAndType 21 22), (0, u "CONFIRMATION"), (0, u "Lcom/example/portcullis/portcullis/MessageType;"), (0, .methodref 1 24), (0, .nameAndType 25 26), (0, u "writeHeader"), (0, u "([BLcom/example/portcullis/portcullis/Group;)V"), (0, .methodref 28 29), (0, .class_ 30), (0, .nameAndType 31 32), (0, u "java/lang/System"), (0, u "arraycopy"), (0, u "(Ljava/lang/Object;ILjava/lang/Object;II)V"), (27, u "LENGTH"), (0, u "I"), (6, u "encode"), (0, u "(Lcom/example/portcullis/portcullis/Group;[B)[B")] 21

def k7m0 : Method := { name := "<init>", desc := "()V", sig := { parameters := [], returnType := none }, accessFlags := 2, code := none }
def k7c1 : Code := { maxStack := 5, maxLocals := 3, code := prog_1_method_3_code, exceptionTable := #[], attributes := #[] }
def k7m1 : Method := { name := "encode", desc := "(Lcom/example/portcullis/portcullis/Group;[B)[B", sig := { parameters := [(.object "com/example/portcullis/portcullis/Group"), (.array .byte)], returnType := some (.array .byte) }, accessFlags := 8, code := some k7c1 }
/-- com/example/portcullis/portcullis/Confirmation -/
def k7 : Class := { plain "com/example/portcullis/portcullis/Confirmation" (some 0) with
  accessFlags := 32
  interfaces := #[]
  cf := some (fileOf pool7 17 #[] #[{ accessFlags := 2, nameIndex := 9, descriptorIndex := 10, attributes := #[] }, { accessFlags := 8, nameIndex := 68, descriptorIndex := 69, attributes := #[] }] 32 6 #[] #[{ accessFlags := 26, nameIndex := 60, descriptorIndex := 61, attributes := #[] }])
  fields := #[{ name := "LENGTH", type := .int, accessFlags := 26, slot := 0, constantValue := 0 }]
  methods := #[k7m0, k7m1]
  instanceTypes := #[]
  staticTypes := #[.int]
  resolved := Array.replicate 91 none
  statics := none }

def pool8 : Array CpInfo := pool [(1, .class_ 2), (0, u "com/example/portcullis/portcullis/MessageType"), (2, u "KEY_SHARE"), (0, u "Lcom/example/portcullis/portcullis/MessageType;"), (2, u "CONFIRMATION"), (2, u "$VALUES"), (0, u "[Lcom/example/portcullis/portcullis/MessageType;"), (6, .class_ 22), (1, u "java/lang/Enum"), (6, .fieldref 1 30), (0, .nameAndType 31 32), (0, u "id"), (0, u "B"), (2, u "noun"), (0, u "Ljava/lang/String;"), (0, .methodref 38 39), (0, .class_ 40), (0, .nameAndType 31 41), (0, u "com/example/portcullis/portcullis/Group"), (0, u "()B"), (47, u "HEADER_LENGTH"), (0, u "I"), (2, u "FORMAT_VERSION"), (8, u "writeHeader"), (0, u "([BLcom/example/portcullis/portcullis/Group;)V")] 24

def k8c0 : Code := { maxStack := 3, maxLocals := 3, code := prog_6_method_4_code, exceptionTable := #[], attributes := #[] }
def k8m0 : Method := { name := "writeHeader", desc := "([BLcom/example/portcullis/portcullis/Group;)V", sig := { parameters := [(.array .byte), (.object "com/example/portcullis/portcullis/Group")], returnType := none }, accessFlags := 0, code := some k8c0 }
/-- com/example/portcullis/portcullis/MessageType -/
def k8 : Class := { plain "com/example/portcullis/portcullis/MessageType" (some 5) with
  accessFlags := 16432
  interfaces := #[]
  cf := some (fileOf pool8 1 #[] #[{ accessFlags := 0, nameIndex := 102, descriptorIndex := 103, attributes := #[] }] 16432 20 #[] #[{ accessFlags := 16409, nameIndex := 5, descriptorIndex := 6, attributes := #[] }, { accessFlags := 16409, nameIndex := 9, descriptorIndex := 6, attributes := #[] }, { accessFlags := 24, nameIndex := 89, descriptorIndex := 90, attributes := #[] }, { accessFlags := 26, nameIndex := 93, descriptorIndex := 32, attributes := #[] }, { accessFlags := 18, nameIndex := 31, descriptorIndex := 32, attributes := #[] }, { accessFlags := 18, nameIndex := 35, descriptorIndex := 36, attributes := #[] }, { accessFlags := 4122, nameIndex := 12, descriptorIndex := 13, attributes := #[] }])
  fields := #[{ name := "KEY_SHARE", type := (.object "com/example/portcullis/portcullis/MessageType"), accessFlags := 16409, slot := 0, constantValue := 0 }, { name := "CONFIRMATION", type := (.object "com/example/portcullis/portcullis/MessageType"), accessFlags := 16409, slot := 1, constantValue := 0 }, { name := "HEADER_LENGTH", type := .int, accessFlags := 24, slot := 2, constantValue := 0 }, { name := "FORMAT_VERSION", type := .byte, accessFlags := 26, slot := 3, constantValue := 0 }, { name := "id", type := .byte, accessFlags := 18, slot := 3, constantValue := 0 }, { name := "noun", type := (.object "java/lang/String"), accessFlags := 18, slot := 4, constantValue := 0 }, { name := "$VALUES", type := (.array (.object "com/example/portcullis/portcullis/MessageType")), accessFlags := 4122, slot := 4, constantValue := 0 }]
  methods := #[k8m0]
  instanceTypes := #[(.object "java/lang/String"), .int, .int, .byte, (.object "java/lang/String")]
  staticTypes := #[(.object "com/example/portcullis/portcullis/MessageType"), (.object "com/example/portcullis/portcullis/MessageType"), .int, .byte, (.array (.object "com/example/portcullis/portcullis/MessageType"))]
  resolved := Array.replicate 128 none
  statics := some 1 }

def pool9 : Array CpInfo := pool [(2, .class_ 4), (1, u "java/lang/Object"), (0, u "<init>"), (0, u "()V"), (1, .class_ 10), (1, u "java/lang/System"), (0, u "allowSecurityManager"), (0, u "I"), (16, u "cons"), (0, u "Ljava/io/Console;"), (77, .class_ 110), (1, u "java/lang/System$CallersHolder"), (43, u "initialErrStream"), (0, u "Ljava/io/PrintStream;"), (19, u "security"), (0, u "Ljava/lang/SecurityManager;"), (31, .class_ 209), (0, u "java/lang/System$1"), (7, u "props"), (0, u "Ljava/util/Properties;"), (2, u "lineSeparator"), (0, u "Ljava/lang/String;"), (96, .class_ 321), (1, u "java/lang/System$LoggerFinder"), (5, .class_ 328), (0, u "java/lang/System$Logger"), (67, u "err"), (2, u "out"), (91, u "notSupportedJnuEncoding"), (15, u "in"), (17, u "initialIn"), (0, u "Ljava/io/InputStream;"), (35, u "bootLayer"), (0, u "Ljava/lang/ModuleLayer;"), (99, .class_ 664), (0, u "java/lang/System$2"), (9, u "NEVER"), (2, u "MAYBE"), (49, u "arraycopy"), (0, u "(Ljava/lang/Object;ILjava/lang/Object;II)V"), (72, .class_ 802), (0, u "java/lang/System$Logger$Level")] 31

def k9m0 : Method := { name := "<init>", desc := "()V", sig := { parameters := [], returnType := none }, accessFlags := 2, code := none }
def k9m1 : Method := { name := "arraycopy", desc := "(Ljava/lang/Object;ILjava/lang/Object;II)V", sig := { parameters := [(.object "java/lang/Object"), .int, (.object "java/lang/Object"), .int, .int], returnType := none }, accessFlags := 265, code := none }
/-- java/lang/System -/
def k9 : Class := { plain "java/lang/System" (some 0) with
  accessFlags := 49
  interfaces := #[]
  cf := some (fileOf pool9 8 #[.nestMembers #[319, 327, 801, 108, 663, 208]] #[{ accessFlags := 2, nameIndex := 5, descriptorIndex := 6, attributes := #[] }, { accessFlags := 265, nameIndex := 727, descriptorIndex := 728, attributes := #[] }] 49 2 #[] #[{ accessFlags := 25, nameIndex := 507, descriptorIndex := 526, attributes := #[] }, { accessFlags := 25, nameIndex := 399, descriptorIndex := 155, attributes := #[] }, { accessFlags := 25, nameIndex := 396, descriptorIndex := 155, attributes := #[] }, { accessFlags := 10, nameIndex := 525, descriptorIndex := 526, attributes := #[] }, { accessFlags := 26, nameIndex := 674, descriptorIndex := 12, attributes := #[] }, { accessFlags := 26, nameIndex := 677, descriptorIndex := 12, attributes := #[] }, { accessFlags := 10, nameIndex := 11, descriptorIndex := 12, attributes := #[] }, { accessFlags := 74, nameIndex := 175, descriptorIndex := 176, attributes := #[] }, { accessFlags := 10, nameIndex := 491, descriptorIndex := 222, attributes := #[] }, { accessFlags := 74, nameIndex := 29, descriptorIndex := 30, attributes := #[] }, { accessFlags := 74, nameIndex := 154, descriptorIndex := 155, attributes := #[] }, { accessFlags := 10, nameIndex := 217, descriptorIndex := 218, attributes := #[] }, { accessFlags := 10, nameIndex := 221, descriptorIndex := 222, attributes := #[] }, { accessFlags := 8, nameIndex := 562, descriptorIndex := 563, attributes := #[] }])
  fields := #[{ name := "in", type := (.object "java/io/InputStream"), accessFlags := 25, slot := 0, constantValue := 0 }, { name := "out", type := (.object "java/io/PrintStream"), accessFlags := 25, slot := 1, constantValue := 0 }, { name := "err", type := (.object "java/io/PrintStream"), accessFlags := 25, slot := 2, constantValue := 0 }, { name := "initialIn", type := (.object "java/io/InputStream"), accessFlags := 10, slot := 3, constantValue := 0 }, { name := "NEVER", type := .int, accessFlags := 26, slot := 4, constantValue := 0 }, { name := "MAYBE", type := .int, accessFlags := 26, slot := 5, constantValue := 0 }, { name := "allowSecurityManager", type := .int, accessFlags := 10, slot := 6, constantValue := 0 }, { name := "security", type := (.object "java/lang/SecurityManager"), accessFlags := 74, slot := 7, constantValue := 0 }, { name := "notSupportedJnuEncoding", type := (.object "java/lang/String"), accessFlags := 10, slot := 8, constantValue := 0 }, { name := "cons", type := (.object "java/io/Console"), accessFlags := 74, slot := 9, constantValue := 0 }, { name := "initialErrStream", type := (.object "java/io/PrintStream"), accessFlags := 74, slot := 10, constantValue := 0 }, { name := "props", type := (.object "java/util/Properties"), accessFlags := 10, slot := 11, constantValue := 0 }, { name := "lineSeparator", type := (.object "java/lang/String"), accessFlags := 10, slot := 12, constantValue := 0 }, { name := "bootLayer", type := (.object "java/lang/ModuleLayer"), accessFlags := 8, slot := 13, constantValue := 0 }]
  methods := #[k9m0, k9m1]
  instanceTypes := #[]
  staticTypes := #[(.object "java/io/InputStream"), (.object "java/io/PrintStream"), (.object "java/io/PrintStream"), (.object "java/io/InputStream"), .int, .int, .int, (.object "java/lang/SecurityManager"), (.object "java/lang/String"), (.object "java/io/Console"), (.object "java/io/PrintStream"), (.object "java/util/Properties"), (.object "java/lang/String"), (.object "java/lang/ModuleLayer")]
  resolved := Array.replicate 834 none
  statics := none }

def pool10 : Array CpInfo := pool [(1, u "java/lang/Cloneable"), (0, .class_ 1), (0, u "java/lang/Object"), (0, .class_ 3)] 3

/-- java/lang/Cloneable -/
def k10 : Class := { plain "java/lang/Cloneable" (some 0) with
  accessFlags := 1537
  interfaces := #[]
  cf := some (fileOf pool10 2 #[] #[] 1537 4 #[] #[])
  fields := #[]
  methods := #[]
  instanceTypes := #[]
  staticTypes := #[]
  resolved := Array.replicate 8 none
  statics := none }

/-- the primitive byte -/
def k11 : Class := { plain "byte" none with kind := .primitive 'B', accessFlags := 0x411 }
/-- [B -/
def k12 : Class := { plain "[B" (some 0) with kind := .array 11 .byte, interfaces := #[10, 4], accessFlags := 1041 }

/-- the primitive int -/
def k13 : Class := { plain "int" none with kind := .primitive 'I', accessFlags := 0x411 }
/-- [I -/
def k14 : Class := { plain "[I" (some 0) with kind := .array 13 .int, interfaces := #[10, 4], accessFlags := 1041 }

def heap : Heap := #[{ cls := 6, slots := #[.ref 2, .ref 5, .ref 4, .int 0, .null], vm := .statics 6 },
  { cls := 8, slots := #[.null, .ref 3, .int 0, .int 0, .null], vm := .statics 8 },
  { cls := 6, slots := #[.null, .int 0, .int 0, .int 1, .null, .int 0, .int 0], vm := .none },
  { cls := 8, slots := #[.null, .int 0, .int 0, .int 2, .null], vm := .none },
  { cls := 6, slots := #[.null, .int 0, .int 0, .int 3, .null, .int 0, .int 0], vm := .none },
  { cls := 6, slots := #[.null, .int 0, .int 0, .int 2, .null, .int 0, .int 0], vm := .none }]
def classes : Array Class := #[k0, k1, k2, k3, k4, k5, k6, k7, k8, k9, k10, k11, k12, k13, k14]
def interned : List (Array UInt16 × Addr) := []
def slotsUsed : Nat := 36
def theMethod : MethodId := ⟨1, 1⟩
def args0 : Array Value := #[.int 5, .long 7, .long 7, .long 7, .long 7]
def aboutOver (below : List Frame) : State where
  vm := { classes := classes, interned := interned.toArray }
  heap := heap
  slotsUsed := slotsUsed
  threads := #[{ frames := .invoking theMethod args0 :: below }]
def below0 : List Frame := [.native { method := ⟨0, 0⟩, args := #[] }]
def about1 : State := aboutOver below0
def p0 : Program := .bare "" "" ""
def e0 : Env := launch0.env 0 0 0
theorem w_frames : about1.frames = Frame.invoking theMethod args0 :: below0 := rfl
set_option maxRecDepth 65536 in
theorem w_args : argsFit about1.vm theMethod args0 = true := by decide +kernel
set_option maxRecDepth 65536 in
theorem w_heap : heapFits about1 = true := by decide +kernel
set_option maxRecDepth 65536 in
theorem w_runnable : about1.curStatus? = some .runnable := by decide +kernel
set_option maxRecDepth 65536 in
theorem w_alone : about1.alone = true := by decide +kernel
set_option maxRecDepth 65536 in
theorem w_named : about1.methodNamed? x = some theMethod := by decide +kernel
set_option maxRecDepth 65536 in
theorem w_hears : about1.hears theMethod below0 = true := by decide +kernel
set_option maxRecDepth 65536 in
theorem w_ripe : about1.ripe theMethod args0 below0 = true := by decide +kernel
theorem w_running : about1.status = .running := rfl
set_option maxRecDepth 65536 in
theorem w_room : about1.hasRoom e0.platform room_1 = true :=
  launch0.hasRoom_least _ room_1 (by decide +kernel) (by decide +kernel) (by decide +kernel) (by decide +kernel) (by decide +kernel) (by decide +kernel)
theorem allAtoms_all (ts : List Jvm.Cond) (a : Array Jvm.Value) (st : Jvm.State) : (allAtoms ts).before a st = ts.all (fun c => c.before a st) := by
  induction ts with
  | nil => rfl
  | cons c t ih =>
    show (Jvm.Cond.and c (allAtoms t)).before a st = _
    rw [Jvm.Cond.before_and, ih, List.all_cons]
def words1 : List Jvm.Cond := Jvm.Cond.code x code maxLocals ret :: tables_1
/-- a 'code' word, met by the world's own term for the bytes: nothing is compared byte by byte -/
theorem code_word {y : MethodName} {bytes : ByteArray} {mx : Nat} {rt : Option FieldType} {a : Array Value} {s : State} {m : MethodId} {meth : Method} {c : Code} (h1 : s.methodNamed? y = some m) (h2 : s.vm.method? m = some meth) (h3 : meth.code = some c) (h4 : c.code = bytes)
    (h5 : (c.maxLocals == mx && c.exceptionTable.isEmpty && decide (c.maxStack ≤ mostOperands) && decide (meth.sig.returnType = rt) && !meth.locks && decide (parseMethodDescriptor y.desc = some meth.sig)) = true) : (Jvm.Cond.code y bytes mx rt).before a s = true := by
  simp only [Bool.and_eq_true, beq_iff_eq, Bool.not_eq_true', decide_eq_true_eq] at h5
  obtain ⟨⟨⟨⟨⟨g1, g2⟩, g3⟩, g4⟩, g5⟩, g6⟩ := h5
  simp [Cond.before, Cond.holds, Cond.value, h1, h2, h3, h4, g1, g2, g3, g4, g5, g6]
def isCode : Jvm.Cond → Bool
  | .code _ _ _ _ => true
  | _ => false
theorem all_split {L : List Jvm.Cond} {P : Jvm.Cond → Bool} (h1 : L.all (fun c => isCode c || P c) = true) (h2 : ∀ c ∈ L.filter isCode, P c = true) : L.all P = true := by
  refine List.all_eq_true.mpr fun c hc => ?_
  have h := List.all_eq_true.mp h1 c hc
  rcases Bool.eq_false_or_eq_true (isCode c) with hi | hi
  · exact h2 c (List.mem_filter.mpr ⟨hc, hi⟩)
  · simpa [hi] using h
set_option maxRecDepth 65536 in
theorem w_c0 : (Jvm.Cond.code x code maxLocals ret).before args0 about1 = true := code_word (m := ⟨1, 1⟩) (meth := k1m1) (c := k1c1) (by decide +kernel) rfl rfl rfl (by decide +kernel)
set_option maxRecDepth 65536 in
theorem w_c1 : (Jvm.Cond.code ({ cls := "com/example/portcullis/portcullis/ConfirmationEncodePinLaw", name := "put", desc := "([BIJ)V" } : Jvm.MethodName) method_3_code (4 : Nat) (Option.none : Option Jvm.ClassFile.FieldType)).before args0 about1 = true := code_word (m := ⟨1, 2⟩) (meth := k1m2) (c := k1c2) (by decide +kernel) rfl rfl rfl (by decide +kernel)
set_option maxRecDepth 65536 in
theorem w_c2 : (Jvm.Cond.code ({ cls := "com/example/portcullis/portcullis/Confirmation", name := "encode", desc := "(Lcom/example/portcullis/portcullis/Group;[B)[B" } : Jvm.MethodName) prog_1_method_3_code (3 : Nat) (Option.some (Jvm.ClassFile.FieldType.array Jvm.ClassFile.FieldType.byte))).before args0 about1 = true := code_word (m := ⟨7, 1⟩) (meth := k7m1) (c := k7c1) (by decide +kernel) rfl rfl rfl (by decide +kernel)
set_option maxRecDepth 65536 in
theorem w_c3 : (Jvm.Cond.code ({ cls := "com/example/portcullis/portcullis/MessageType", name := "writeHeader", desc := "([BLcom/example/portcullis/portcullis/Group;)V" } : Jvm.MethodName) prog_6_method_4_code (3 : Nat) (Option.none : Option Jvm.ClassFile.FieldType)).before args0 about1 = true := code_word (m := ⟨8, 0⟩) (meth := k8m0) (c := k8c0) (by decide +kernel) rfl rfl rfl (by decide +kernel)
set_option maxRecDepth 65536 in
theorem w_c4 : (Jvm.Cond.code ({ cls := "com/example/portcullis/portcullis/Group", name := "id", desc := "()B" } : Jvm.MethodName) prog_3_method_4_code (1 : Nat) (Option.some Jvm.ClassFile.FieldType.byte)).before args0 about1 = true := code_word (m := ⟨6, 0⟩) (meth := k6m0) (c := k6c0) (by decide +kernel) rfl rfl rfl (by decide +kernel)
set_option maxRecDepth 65536 in
theorem w_c5 : (Jvm.Cond.code ({ cls := "com/example/portcullis/portcullis/ConfirmationEncodePinLaw", name := "same", desc := "([BIJ)Z" } : Jvm.MethodName) method_4_code (4 : Nat) (Option.some Jvm.ClassFile.FieldType.boolean)).before args0 about1 = true := code_word (m := ⟨1, 3⟩) (meth := k1m3) (c := k1c3) (by decide +kernel) rfl rfl rfl (by decide +kernel)
def codes1 : List Jvm.Cond := [Jvm.Cond.code x code maxLocals ret, Jvm.Cond.code ({ cls := "com/example/portcullis/portcullis/ConfirmationEncodePinLaw", name := "put", desc := "([BIJ)V" } : Jvm.MethodName) method_3_code (4 : Nat) (Option.none : Option Jvm.ClassFile.FieldType), Jvm.Cond.code ({ cls := "com/example/portcullis/portcullis/Confirmation", name := "encode", desc := "(Lcom/example/portcullis/portcullis/Group;[B)[B" } : Jvm.MethodName) prog_1_method_3_code (3 : Nat) (Option.some (Jvm.ClassFile.FieldType.array Jvm.ClassFile.FieldType.byte)), Jvm.Cond.code ({ cls := "com/example/portcullis/portcullis/MessageType", name := "writeHeader", desc := "([BLcom/example/portcullis/portcullis/Group;)V" } : Jvm.MethodName) prog_6_method_4_code (3 : Nat) (Option.none : Option Jvm.ClassFile.FieldType), Jvm.Cond.code ({ cls := "com/example/portcullis/portcullis/Group", name := "id", desc := "()B" } : Jvm.MethodName) prog_3_method_4_code (1 : Nat) (Option.some Jvm.ClassFile.FieldType.byte), Jvm.Cond.code ({ cls := "com/example/portcullis/portcullis/ConfirmationEncodePinLaw", name := "same", desc := "([BIJ)Z" } : Jvm.MethodName) method_4_code (4 : Nat) (Option.some Jvm.ClassFile.FieldType.boolean)]
set_option maxRecDepth 65536 in
theorem codes_eq : words1.filter isCode = codes1 := rfl
theorem w_codes : ∀ c ∈ words1.filter isCode, c.before args0 about1 = true := by
  rw [codes_eq]
  intro c hc
  simp only [codes1, List.mem_cons, List.not_mem_nil, or_false] at hc
  rcases hc with rfl | rfl | rfl | rfl | rfl | rfl
  · exact w_c0
  · exact w_c1
  · exact w_c2
  · exact w_c3
  · exact w_c4
  · exact w_c5
set_option maxRecDepth 65536 in
theorem w_t1 : (words1.take 24).all (fun c => isCode c || c.before args0 about1) = true := by decide +kernel
set_option maxRecDepth 65536 in
theorem w_t2 : (words1.drop 24).all (fun c => isCode c || c.before args0 about1) = true := by decide +kernel
theorem w_tables : (allAtoms (Jvm.Cond.code x code maxLocals ret :: tables_1)).before args0 about1 = true := by
  rw [allAtoms_all]
  show words1.all (fun c => c.before args0 about1) = true
  refine all_split ?_ w_codes
  rw [← List.take_append_drop 24 words1, List.all_append, w_t1, w_t2]
  rfl
set_option maxRecDepth 65536 in
theorem w_case : (Jvm.Cond.and given_1 narrow_1).before args0 about1 = true := by decide +kernel
theorem w_applies : (headSpec (Jvm.Cond.code x code maxLocals ret :: tables_1) room_1).applies x e0.platform about1 = true :=
  (Spec.applies_iff w_frames).mpr ⟨w_running, w_runnable, w_alone, w_named, w_hears, w_ripe, w_room, w_tables⟩
theorem atStart : AtStart classFile x code maxLocals ret World_1 tables_1 room_1 Calls_1 rest_1 Pre_1 launch0 p0 e0 about1 theMethod args0 below0 :=
  ⟨lists_1, trivial, launch0.admits_env _ _ _, launch0.least_env, fairChoices_fair.cas, fairChoices_fair.clock, w_frames, w_args, w_heap, w_applies, trivial, trivial, w_case⟩
end start1
theorem witness_1 : WitnessClaimed_1 := ⟨start1.p0, start1.e0, start1.about1, start1.theMethod, start1.args0, start1.below0, start1.atStart⟩
end Jvm.Pilot.@@N@@

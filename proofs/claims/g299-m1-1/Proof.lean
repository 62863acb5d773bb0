import JvmDerived
import JvmDerived.Pilot.@@N@@Statement
import JvmDerived.Pilot.@@N@@Code
set_option linter.unusedVariables false
set_option linter.unusedSimpArgs false
namespace Jvm.Pilot.@@N@@
open Jvm Jvm.ClassFile Sem Op Lib Jvm.Free Jvm.Stand Jvm.LawKit Jvm.RoadKit Bundle Jvm.Pilot.@@N@@.Jvm.D
/-- from the state A the body's walk comes to an end of which Q tells -/
def OwnGo (p : Program) (e : Env) (below : List Frame) (Q : Outcome → State → Prop) (A : State) : Prop :=
  ∃ s₂ o, Steps p.tables e below A s₂ ∧ s₂.status = .running ∧ Ended s₂ below o ∧ Q o s₂
theorem own_go {p : Program} {e : Env} {below : List Frame} {Q : Outcome → State → Prop} {A B : State} (st : ∀ t, Steps p.tables e below B t → Steps p.tables e below A t) (h : OwnGo p e below Q B) : OwnGo p e below Q A := by
  obtain ⟨s₂, o, h1, h2⟩ := h
  exact ⟨s₂, o, st _ h1, h2⟩
theorem own_fldI {args : Array Value} {s : State} {t : Term} {C n d : String} {k : Int32} {a : Addr} (ev : t.eval args s none [] s = some (.ref a)) (h : (Jvm.Cond.eq (Term.field t C n d) (Term.int k)).value args s none s [] = some true) : Fld s s.heap a C n d (.int k) := by
  apply Fld.start
  have q := fld_at (C := C) (n := n) (dd := d) ev
  cases hf : s.fieldOf? a C n d with
  | none => rw [hf] at q; simp [Cond.value, q] at h
  | some v => rw [hf] at q; cases v <;> simp [Cond.value, q, Term.int_eval] at h; rw [h]
theorem own_fldL {args : Array Value} {s : State} {t : Term} {C n d : String} {k : Int64} {a : Addr} (ev : t.eval args s none [] s = some (.ref a)) (h : (Jvm.Cond.eq (Term.field t C n d) (Term.long k)).value args s none s [] = some true) : Fld s s.heap a C n d (.long k) := by
  apply Fld.start
  have q := fld_at (C := C) (n := n) (dd := d) ev
  cases hf : s.fieldOf? a C n d with
  | none => rw [hf] at q; simp [Cond.value, q] at h
  | some v => rw [hf] at q; cases v <;> simp [Cond.value, q, long_at] at h; rw [h]
theorem own_refne {a b : Addr} (h : a ≠ b) : decide (Value.ref a = Value.ref b) = false := decide_eq_false fun q => h (Value.ref.inj q)
theorem own_refeq (a : Addr) : decide (Value.ref a = Value.ref a) = true := decide_eq_true rfl
theorem own_rn (a : Addr) : decide (Value.ref a = Value.null) = false := decide_eq_false fun q => by cases q
theorem own_nr (a : Addr) : decide (Value.null = Value.ref a) = false := decide_eq_false fun q => by cases q
theorem own_narb (x : Int32) : nar .byte (x.toInt8.toInt32) = x.toInt8.toInt32 := by simp [nar]
theorem own_selp {Z s : State} {a0 args : Array Value} {y : MethodName} {n : Nat} (hZ : Z.Warmed39 s.vm) (wi : (Jvm.Cond.instantiable y.cls n).before a0 Z = true) (wp : (Jvm.Cond.privateMethod y).before a0 Z = true) (wm : (Jvm.Cond.instanceMethod y).before a0 Z = true)
    (hy : y.cls ≠ "java/lang/invoke/MethodHandle" ∧ y.cls ≠ "java/lang/invoke/VarHandle") : (Jvm.Cond.selects y.cls y y).before args s = true := by
  obtain ⟨c, k, h1, h2, -, h4, -⟩ := Cond.instantiable_spec (mv hZ wi : (Jvm.Cond.instantiable y.cls n).before args s = true)
  exact selects_self_of_private h1 h2 (by revert h4; cases k.isInterface <;> simp) (Cond.privateMethod_at (mvP hZ wp (args := args))) (mv hZ wm) hy
theorem own_monoW {s : State} {o : Outcome} {t : State} {L : List Loc} {k n k' n' : Nat} (h : ReturnedEndW s o t L k n) (hk : k ≤ k') (hn : n ≤ n') : ReturnedEndW s o t L k' n' := ⟨h.1, h.2.1, h.2.2.1, h.2.2.2.mono hk hn⟩
theorem own_newlt {a b k : Nat} (q : a < k) (g : k ≤ b) : a ≠ b := Nat.ne_of_lt (Nat.lt_of_lt_of_le q g)
theorem own_sz {Z : State} {n0 : Nat} {h : Heap} (O : Old Z n0 h) : n0 ≤ h.size := O.1 ▸ O.2.1
theorem own_newne {a b : Addr} {h : Heap} (g : b = h.size) (q : a < h.size) : a ≠ b := fun z => by rw [z, g] at q; exact Nat.lt_irrefl _ q
def OwnFacts (Z : State) (aKEY_SHARE aFFDHE2048 aFFDHE4096 aCONFIRMATION aFFDHE3072 : Addr) : Prop := (Sta Z Z.heap "com/example/portcullis/portcullis/MessageType" "KEY_SHARE" "Lcom/example/portcullis/portcullis/MessageType;" (.ref aKEY_SHARE)) ∧ (Exa Z Z.heap aKEY_SHARE "com/example/portcullis/portcullis/MessageType") ∧ (Sta Z Z.heap "com/example/portcullis/portcullis/Group" "FFDHE2048" "Lcom/example/portcullis/portcullis/Group;" (.ref aFFDHE2048)) ∧ (Exa Z Z.heap aFFDHE2048 "com/example/portcullis/portcullis/Group") ∧ (Fld Z Z.heap aKEY_SHARE "com/example/portcullis/portcullis/MessageType" "id" "B" (.int (1 : Int32))) ∧ (Fld Z Z.heap aFFDHE2048 "com/example/portcullis/portcullis/Group" "id" "B" (.int (1 : Int32))) ∧ (Sta Z Z.heap "com/example/portcullis/portcullis/Group" "FFDHE4096" "Lcom/example/portcullis/portcullis/Group;" (.ref aFFDHE4096)) ∧ (Exa Z Z.heap aFFDHE4096 "com/example/portcullis/portcullis/Group") ∧ (Fld Z Z.heap aFFDHE4096 "com/example/portcullis/portcullis/Group" "id" "B" (.int (3 : Int32))) ∧ (Sta Z Z.heap "com/example/portcullis/portcullis/MessageType" "CONFIRMATION" "Lcom/example/portcullis/portcullis/MessageType;" (.ref aCONFIRMATION)) ∧ (Exa Z Z.heap aCONFIRMATION "com/example/portcullis/portcullis/MessageType") ∧ (Sta Z Z.heap "com/example/portcullis/portcullis/Group" "FFDHE3072" "Lcom/example/portcullis/portcullis/Group;" (.ref aFFDHE3072)) ∧ (Exa Z Z.heap aFFDHE3072 "com/example/portcullis/portcullis/Group") ∧ (Fld Z Z.heap aCONFIRMATION "com/example/portcullis/portcullis/MessageType" "id" "B" (.int (2 : Int32))) ∧ (Fld Z Z.heap aFFDHE3072 "com/example/portcullis/portcullis/Group" "id" "B" (.int (2 : Int32)))
theorem d_prog_2_method_4_0 : decode prog_2_method_4_code 0 = .ok (.aload_n 0, 1) := by decide +kernel
theorem d_prog_2_method_4_1 : decode prog_2_method_4_code 1 = .ok (.getfield 32, 3) := by decide +kernel
theorem d_prog_2_method_4_4 : decode prog_2_method_4_code 4 = .ok (.ireturn, 1) := by decide +kernel
theorem pn_com_example_portcullis_portcullis_Group : plainName "com/example/portcullis/portcullis/Group" = true := by first | (simp [plainName, overriddenIn]; done) | decide +kernel
def Q_idaFFDHE2048 (Z : State) (aKEY_SHARE aFFDHE2048 aFFDHE4096 aCONFIRMATION aFFDHE3072 : Addr) (h0 : Heap) (n0 : Nat) (v : Option Value) (h : Heap) (L : List Loc) : Prop := v = some (.int (1 : Int32)) ∧ Fr n0 L ∧ h = h0
theorem ef_idaFFDHE2048 (m : MethodId) (x0 : Addr) : entryFrame m #[(.ref x0)] 1 = mkF m 0 #[.val (.ref x0)] [] := by first | (simp [entryFrame, mkF, argsToLocals, Value.category]; done) | rfl
set_option maxRecDepth 65536 in
set_option maxHeartbeats 40000000 in
theorem rm_idaFFDHE2048 (l : Launch) (Z : State) (a0 : Array Value) (hw : ∀ d ∈ tables_1, d.before a0 Z = true) (ws : List Jvm.Cond) (aKEY_SHARE aFFDHE2048 aFFDHE4096 aCONFIRMATION aFFDHE3072 : Addr) (F0 : OwnFacts Z aKEY_SHARE aFFDHE2048 aFFDHE4096 aCONFIRMATION aFFDHE3072) (h0 : Heap) (n0 : Nat) (O0 : Old Z n0 h0) :
    MetFree l (⟨"com/example/portcullis/portcullis/Group", "id", "()B"⟩ : MethodName) (head1 (Jvm.Cond.code (⟨"com/example/portcullis/portcullis/Group", "id", "()B"⟩ : MethodName) prog_2_method_4_code 1 (some .byte) :: ws) ({ frames := 0, cells := 0, slots := 0, locals := 0 } : Room)) (fun a U => a = #[(.ref aFFDHE2048)] ∧ Z.Warmed39 U.vm ∧ U.heap = h0) (fun _ _ _ _ _ => True) (fun _ U o U' => ∃ v L, o = .returned v ∧ Q_idaFFDHE2048 Z aKEY_SHARE aFFDHE2048 aFFDHE4096 aCONFIRMATION aFFDHE3072 h0 n0 v U'.heap L ∧ FrameEnd U o U' L ({ frames := 0, cells := 0, slots := 0, locals := 0 } : Room).cells ({ frames := 0, cells := 0, slots := 0, locals := 0 } : Room).slots) := by
  refine MetFree.of_bodySF (plainFor_of_name pn_com_example_portcullis_portcullis_Group) hisR ?_
  intro p e s m args below meth c s₁ Bd hml0 hP hK
  obtain ⟨rfl, hZ, hh⟩ := hP
  have hx := Bd.exec
  have hby := Bd.bytes
  have hml : c.maxLocals = 1 := hml0
  have hown : s.vm.findClass "com/example/portcullis/portcullis/Group" = some m.cls := findClass_of_methodNamed Bd.named
  have hnm := (name_of_methodNamed Bd.named Bd.method).1
  have X0 : Stand p l e ({ frames := 0, cells := 0, slots := 0, locals := 0 } : Room) s m #[(.ref aFFDHE2048)] below meth c s₁ [] 0 0 := Stand.of_body Bd
  have e0 : s₁.heap = h0 := by rw [← hh, Bd.state]; rfl
  have N0 := Fr.nil n0
  refine own_go (Q := fun o U' => ∃ v L, o = .returned v ∧ Q_idaFFDHE2048 Z aKEY_SHARE aFFDHE2048 aFFDHE4096 aCONFIRMATION aFFDHE3072 h0 n0 v U'.heap L ∧ FrameEnd s o U' L ({ frames := 0, cells := 0, slots := 0, locals := 0 } : Room).cells ({ frames := 0, cells := 0, slots := 0, locals := 0 } : Room).slots) (fun t k => castTop (ef_idaFFDHE2048 m aFFDHE2048) k) ?_
  show OwnGo p e below _ (s₁.setTop (mkF m 0 #[.val (.ref aFFDHE2048)] []))
  refine own_go (fun _ k => XS.aloadN X0.here hx rfl (hb hby d_prog_2_method_4_0) rfl rfl k) ?_
  show OwnGo p e below _ (s₁.setTop (mkF m 1 #[.val (.ref aFFDHE2048)] [(.ref aFFDHE2048)]))
  obtain ⟨T1, X1, e1, st1⟩ := getF X0 hx hZ hown (host := "") (Or.inl (hw _ (List.mem_of_getElem? (i := 19) rfl))) Via.refl e0 (F0.2.2.2.2.2.1.ext O0.2) (g := (mkF m 1 #[.val (.ref aFFDHE2048)] [(.ref aFFDHE2048)])) rfl rfl (hb hby d_prog_2_method_4_1)
  refine own_go st1 ?_
  show OwnGo p e below _ (T1.setTop (mkF m 4 #[.val (.ref aFFDHE2048)] [(.int (1 : Int32))]))
  obtain ⟨fs, hr, hrun, hended, hW, hsame⟩ := X1.leave (v := some (.int (1 : Int32))) (fun h => by rw [Bd.returns] at h; cases h)
  refine ⟨_, _, retOut X1 hx Bd.returns rfl (Or.inl ⟨rfl, Or.inr (Or.inr (Or.inl rfl)), _, rfl⟩) (hb hby d_prog_2_method_4_4) hr, hrun, hended, _, _, rfl, ?_, ⟨_, rfl⟩, hW, hsame.mono (by decide) (by decide)⟩
  show Q_idaFFDHE2048 Z aKEY_SHARE aFFDHE2048 aFFDHE4096 aCONFIRMATION aFFDHE3072 h0 n0 _ T1.heap _
  rw [e1]
  exact ⟨rfl, N0, rfl⟩
def Q_idaFFDHE3072 (Z : State) (aKEY_SHARE aFFDHE2048 aFFDHE4096 aCONFIRMATION aFFDHE3072 : Addr) (h0 : Heap) (n0 : Nat) (v : Option Value) (h : Heap) (L : List Loc) : Prop := v = some (.int (2 : Int32)) ∧ Fr n0 L ∧ h = h0
theorem ef_idaFFDHE3072 (m : MethodId) (x0 : Addr) : entryFrame m #[(.ref x0)] 1 = mkF m 0 #[.val (.ref x0)] [] := by first | (simp [entryFrame, mkF, argsToLocals, Value.category]; done) | rfl
set_option maxRecDepth 65536 in
set_option maxHeartbeats 40000000 in
theorem rm_idaFFDHE3072 (l : Launch) (Z : State) (a0 : Array Value) (hw : ∀ d ∈ tables_1, d.before a0 Z = true) (ws : List Jvm.Cond) (aKEY_SHARE aFFDHE2048 aFFDHE4096 aCONFIRMATION aFFDHE3072 : Addr) (F0 : OwnFacts Z aKEY_SHARE aFFDHE2048 aFFDHE4096 aCONFIRMATION aFFDHE3072) (h0 : Heap) (n0 : Nat) (O0 : Old Z n0 h0) :
    MetFree l (⟨"com/example/portcullis/portcullis/Group", "id", "()B"⟩ : MethodName) (head1 (Jvm.Cond.code (⟨"com/example/portcullis/portcullis/Group", "id", "()B"⟩ : MethodName) prog_2_method_4_code 1 (some .byte) :: ws) ({ frames := 0, cells := 0, slots := 0, locals := 0 } : Room)) (fun a U => a = #[(.ref aFFDHE3072)] ∧ Z.Warmed39 U.vm ∧ U.heap = h0) (fun _ _ _ _ _ => True) (fun _ U o U' => ∃ v L, o = .returned v ∧ Q_idaFFDHE3072 Z aKEY_SHARE aFFDHE2048 aFFDHE4096 aCONFIRMATION aFFDHE3072 h0 n0 v U'.heap L ∧ FrameEnd U o U' L ({ frames := 0, cells := 0, slots := 0, locals := 0 } : Room).cells ({ frames := 0, cells := 0, slots := 0, locals := 0 } : Room).slots) := by
  refine MetFree.of_bodySF (plainFor_of_name pn_com_example_portcullis_portcullis_Group) hisR ?_
  intro p e s m args below meth c s₁ Bd hml0 hP hK
  obtain ⟨rfl, hZ, hh⟩ := hP
  have hx := Bd.exec
  have hby := Bd.bytes
  have hml : c.maxLocals = 1 := hml0
  have hown : s.vm.findClass "com/example/portcullis/portcullis/Group" = some m.cls := findClass_of_methodNamed Bd.named
  have hnm := (name_of_methodNamed Bd.named Bd.method).1
  have X0 : Stand p l e ({ frames := 0, cells := 0, slots := 0, locals := 0 } : Room) s m #[(.ref aFFDHE3072)] below meth c s₁ [] 0 0 := Stand.of_body Bd
  have e0 : s₁.heap = h0 := by rw [← hh, Bd.state]; rfl
  have N0 := Fr.nil n0
  refine own_go (Q := fun o U' => ∃ v L, o = .returned v ∧ Q_idaFFDHE3072 Z aKEY_SHARE aFFDHE2048 aFFDHE4096 aCONFIRMATION aFFDHE3072 h0 n0 v U'.heap L ∧ FrameEnd s o U' L ({ frames := 0, cells := 0, slots := 0, locals := 0 } : Room).cells ({ frames := 0, cells := 0, slots := 0, locals := 0 } : Room).slots) (fun t k => castTop (ef_idaFFDHE3072 m aFFDHE3072) k) ?_
  show OwnGo p e below _ (s₁.setTop (mkF m 0 #[.val (.ref aFFDHE3072)] []))
  refine own_go (fun _ k => XS.aloadN X0.here hx rfl (hb hby d_prog_2_method_4_0) rfl rfl k) ?_
  show OwnGo p e below _ (s₁.setTop (mkF m 1 #[.val (.ref aFFDHE3072)] [(.ref aFFDHE3072)]))
  obtain ⟨T2, X2, e2, st2⟩ := getF X0 hx hZ hown (host := "") (Or.inl (hw _ (List.mem_of_getElem? (i := 19) rfl))) Via.refl e0 (F0.2.2.2.2.2.2.2.2.2.2.2.2.2.2.ext O0.2) (g := (mkF m 1 #[.val (.ref aFFDHE3072)] [(.ref aFFDHE3072)])) rfl rfl (hb hby d_prog_2_method_4_1)
  refine own_go st2 ?_
  show OwnGo p e below _ (T2.setTop (mkF m 4 #[.val (.ref aFFDHE3072)] [(.int (2 : Int32))]))
  obtain ⟨fs, hr, hrun, hended, hW, hsame⟩ := X2.leave (v := some (.int (2 : Int32))) (fun h => by rw [Bd.returns] at h; cases h)
  refine ⟨_, _, retOut X2 hx Bd.returns rfl (Or.inl ⟨rfl, Or.inr (Or.inr (Or.inl rfl)), _, rfl⟩) (hb hby d_prog_2_method_4_4) hr, hrun, hended, _, _, rfl, ?_, ⟨_, rfl⟩, hW, hsame.mono (by decide) (by decide)⟩
  show Q_idaFFDHE3072 Z aKEY_SHARE aFFDHE2048 aFFDHE4096 aCONFIRMATION aFFDHE3072 h0 n0 _ T2.heap _
  rw [e2]
  exact ⟨rfl, N0, rfl⟩
def Q_idaFFDHE4096 (Z : State) (aKEY_SHARE aFFDHE2048 aFFDHE4096 aCONFIRMATION aFFDHE3072 : Addr) (h0 : Heap) (n0 : Nat) (v : Option Value) (h : Heap) (L : List Loc) : Prop := v = some (.int (3 : Int32)) ∧ Fr n0 L ∧ h = h0
theorem ef_idaFFDHE4096 (m : MethodId) (x0 : Addr) : entryFrame m #[(.ref x0)] 1 = mkF m 0 #[.val (.ref x0)] [] := by first | (simp [entryFrame, mkF, argsToLocals, Value.category]; done) | rfl
set_option maxRecDepth 65536 in
set_option maxHeartbeats 40000000 in
theorem rm_idaFFDHE4096 (l : Launch) (Z : State) (a0 : Array Value) (hw : ∀ d ∈ tables_1, d.before a0 Z = true) (ws : List Jvm.Cond) (aKEY_SHARE aFFDHE2048 aFFDHE4096 aCONFIRMATION aFFDHE3072 : Addr) (F0 : OwnFacts Z aKEY_SHARE aFFDHE2048 aFFDHE4096 aCONFIRMATION aFFDHE3072) (h0 : Heap) (n0 : Nat) (O0 : Old Z n0 h0) :
    MetFree l (⟨"com/example/portcullis/portcullis/Group", "id", "()B"⟩ : MethodName) (head1 (Jvm.Cond.code (⟨"com/example/portcullis/portcullis/Group", "id", "()B"⟩ : MethodName) prog_2_method_4_code 1 (some .byte) :: ws) ({ frames := 0, cells := 0, slots := 0, locals := 0 } : Room)) (fun a U => a = #[(.ref aFFDHE4096)] ∧ Z.Warmed39 U.vm ∧ U.heap = h0) (fun _ _ _ _ _ => True) (fun _ U o U' => ∃ v L, o = .returned v ∧ Q_idaFFDHE4096 Z aKEY_SHARE aFFDHE2048 aFFDHE4096 aCONFIRMATION aFFDHE3072 h0 n0 v U'.heap L ∧ FrameEnd U o U' L ({ frames := 0, cells := 0, slots := 0, locals := 0 } : Room).cells ({ frames := 0, cells := 0, slots := 0, locals := 0 } : Room).slots) := by
  refine MetFree.of_bodySF (plainFor_of_name pn_com_example_portcullis_portcullis_Group) hisR ?_
  intro p e s m args below meth c s₁ Bd hml0 hP hK
  obtain ⟨rfl, hZ, hh⟩ := hP
  have hx := Bd.exec
  have hby := Bd.bytes
  have hml : c.maxLocals = 1 := hml0
  have hown : s.vm.findClass "com/example/portcullis/portcullis/Group" = some m.cls := findClass_of_methodNamed Bd.named
  have hnm := (name_of_methodNamed Bd.named Bd.method).1
  have X0 : Stand p l e ({ frames := 0, cells := 0, slots := 0, locals := 0 } : Room) s m #[(.ref aFFDHE4096)] below meth c s₁ [] 0 0 := Stand.of_body Bd
  have e0 : s₁.heap = h0 := by rw [← hh, Bd.state]; rfl
  have N0 := Fr.nil n0
  refine own_go (Q := fun o U' => ∃ v L, o = .returned v ∧ Q_idaFFDHE4096 Z aKEY_SHARE aFFDHE2048 aFFDHE4096 aCONFIRMATION aFFDHE3072 h0 n0 v U'.heap L ∧ FrameEnd s o U' L ({ frames := 0, cells := 0, slots := 0, locals := 0 } : Room).cells ({ frames := 0, cells := 0, slots := 0, locals := 0 } : Room).slots) (fun t k => castTop (ef_idaFFDHE4096 m aFFDHE4096) k) ?_
  show OwnGo p e below _ (s₁.setTop (mkF m 0 #[.val (.ref aFFDHE4096)] []))
  refine own_go (fun _ k => XS.aloadN X0.here hx rfl (hb hby d_prog_2_method_4_0) rfl rfl k) ?_
  show OwnGo p e below _ (s₁.setTop (mkF m 1 #[.val (.ref aFFDHE4096)] [(.ref aFFDHE4096)]))
  obtain ⟨T3, X3, e3, st3⟩ := getF X0 hx hZ hown (host := "") (Or.inl (hw _ (List.mem_of_getElem? (i := 19) rfl))) Via.refl e0 (F0.2.2.2.2.2.2.2.2.1.ext O0.2) (g := (mkF m 1 #[.val (.ref aFFDHE4096)] [(.ref aFFDHE4096)])) rfl rfl (hb hby d_prog_2_method_4_1)
  refine own_go st3 ?_
  show OwnGo p e below _ (T3.setTop (mkF m 4 #[.val (.ref aFFDHE4096)] [(.int (3 : Int32))]))
  obtain ⟨fs, hr, hrun, hended, hW, hsame⟩ := X3.leave (v := some (.int (3 : Int32))) (fun h => by rw [Bd.returns] at h; cases h)
  refine ⟨_, _, retOut X3 hx Bd.returns rfl (Or.inl ⟨rfl, Or.inr (Or.inr (Or.inl rfl)), _, rfl⟩) (hb hby d_prog_2_method_4_4) hr, hrun, hended, _, _, rfl, ?_, ⟨_, rfl⟩, hW, hsame.mono (by decide) (by decide)⟩
  show Q_idaFFDHE4096 Z aKEY_SHARE aFFDHE2048 aFFDHE4096 aCONFIRMATION aFFDHE3072 h0 n0 _ T3.heap _
  rw [e3]
  exact ⟨rfl, N0, rfl⟩
theorem d_prog_5_method_4_0 : decode prog_5_method_4_code 0 = .ok (.aload_n 1, 1) := by decide +kernel
theorem d_prog_5_method_4_1 : decode prog_5_method_4_code 1 = .ok (.iconst 0, 1) := by decide +kernel
theorem d_prog_5_method_4_2 : decode prog_5_method_4_code 2 = .ok (.iconst 1, 1) := by decide +kernel
theorem d_prog_5_method_4_3 : decode prog_5_method_4_code 3 = .ok (.bastore, 1) := by decide +kernel
theorem d_prog_5_method_4_4 : decode prog_5_method_4_code 4 = .ok (.aload_n 1, 1) := by decide +kernel
theorem d_prog_5_method_4_5 : decode prog_5_method_4_code 5 = .ok (.iconst 1, 1) := by decide +kernel
theorem d_prog_5_method_4_6 : decode prog_5_method_4_code 6 = .ok (.aload_n 0, 1) := by decide +kernel
theorem d_prog_5_method_4_7 : decode prog_5_method_4_code 7 = .ok (.getfield 29, 3) := by decide +kernel
theorem d_prog_5_method_4_10 : decode prog_5_method_4_code 10 = .ok (.bastore, 1) := by decide +kernel
theorem d_prog_5_method_4_11 : decode prog_5_method_4_code 11 = .ok (.aload_n 1, 1) := by decide +kernel
theorem d_prog_5_method_4_12 : decode prog_5_method_4_code 12 = .ok (.iconst 2, 1) := by decide +kernel
theorem d_prog_5_method_4_13 : decode prog_5_method_4_code 13 = .ok (.aload_n 2, 1) := by decide +kernel
theorem d_prog_5_method_4_14 : decode prog_5_method_4_code 14 = .ok (.invokevirtual 37, 3) := by decide +kernel
theorem pd___B : parseMethodDescriptor "()B" = some ⟨[], some .byte⟩ := by decide +kernel
theorem d_prog_5_method_4_17 : decode prog_5_method_4_code 17 = .ok (.bastore, 1) := by decide +kernel
theorem d_prog_5_method_4_18 : decode prog_5_method_4_code 18 = .ok (.return_, 1) := by decide +kernel
theorem pn_com_example_portcullis_portcullis_MessageType : plainName "com/example/portcullis/portcullis/MessageType" = true := by first | (simp [plainName, overriddenIn]; done) | decide +kernel
def Q_wr_aCONFIRMATION_aFFDHE2048 (Z : State) (aKEY_SHARE aFFDHE2048 aFFDHE4096 aCONFIRMATION aFFDHE3072 : Addr) (b1 : Addr) (k1 : ClassId) (u0 : Int32) (u1 : Int32) (u2 : Int32) (u3 : Int32) (u4 : Int32) (h0 : Heap) (n0 : Nat) (v : Option Value) (h : Heap) (L : List Loc) : Prop := v = none ∧ Fr n0 L ∧ Keep h0 h [b1] ∧ Arv Z h b1 k1 .byte (5 : Int32) [(.int (1 : Int32)), (.int (2 : Int32)), (.int (1 : Int32)), (.int u3), (.int u4)] (.int (0 : Int32))
theorem ef_wr_aCONFIRMATION_aFFDHE2048 (m : MethodId) (x0 : Addr) (x1 : Addr) (x2 : Addr) : entryFrame m #[(.ref x0), (.ref x1), (.ref x2)] 3 = mkF m 0 #[.val (.ref x0), .val (.ref x1), .val (.ref x2)] [] := by first | (simp [entryFrame, mkF, argsToLocals, Value.category]; done) | rfl
set_option maxRecDepth 65536 in
set_option maxHeartbeats 40000000 in
theorem rm_wr_aCONFIRMATION_aFFDHE2048 (l : Launch) (Z : State) (a0 : Array Value) (hw : ∀ d ∈ tables_1, d.before a0 Z = true) (ws : List Jvm.Cond) (aKEY_SHARE aFFDHE2048 aFFDHE4096 aCONFIRMATION aFFDHE3072 : Addr) (F0 : OwnFacts Z aKEY_SHARE aFFDHE2048 aFFDHE4096 aCONFIRMATION aFFDHE3072) (b1 : Addr) (k1 : ClassId) (u0 : Int32) (u1 : Int32) (u2 : Int32) (u3 : Int32) (u4 : Int32) (h0 : Heap) (n0 : Nat) (O0 : Old Z n0 h0) (VA : Arv Z h0 b1 k1 .byte (5 : Int32) [(.int u0), (.int u1), (.int u2), (.int u3), (.int u4)] (.int (0 : Int32))) (geA : n0 ≤ b1) :
    MetFree l (⟨"com/example/portcullis/portcullis/MessageType", "writeHeader", "([BLcom/example/portcullis/portcullis/Group;)V"⟩ : MethodName) (head1 (Jvm.Cond.code (⟨"com/example/portcullis/portcullis/MessageType", "writeHeader", "([BLcom/example/portcullis/portcullis/Group;)V"⟩ : MethodName) prog_5_method_4_code 3 none :: ws) ({ frames := 1, cells := 0, slots := 0, locals := 14 } : Room)) (fun a U => a = #[(.ref aCONFIRMATION), (.ref b1), (.ref aFFDHE2048)] ∧ Z.Warmed39 U.vm ∧ U.heap = h0) (fun _ _ _ _ _ => True) (fun _ U o U' => ∃ v L, o = .returned v ∧ Q_wr_aCONFIRMATION_aFFDHE2048 Z aKEY_SHARE aFFDHE2048 aFFDHE4096 aCONFIRMATION aFFDHE3072 b1 k1 u0 u1 u2 u3 u4 h0 n0 v U'.heap L ∧ FrameEnd U o U' L ({ frames := 1, cells := 0, slots := 0, locals := 14 } : Room).cells ({ frames := 1, cells := 0, slots := 0, locals := 14 } : Room).slots) := by
  refine MetFree.of_bodySF (plainFor_of_name pn_com_example_portcullis_portcullis_MessageType) hisR ?_
  intro p e s m args below meth c s₁ Bd hml0 hP hK
  obtain ⟨rfl, hZ, hh⟩ := hP
  have hx := Bd.exec
  have hby := Bd.bytes
  have hml : c.maxLocals = 3 := hml0
  have hown : s.vm.findClass "com/example/portcullis/portcullis/MessageType" = some m.cls := findClass_of_methodNamed Bd.named
  have hnm := (name_of_methodNamed Bd.named Bd.method).1
  have X0 : Stand p l e ({ frames := 1, cells := 0, slots := 0, locals := 14 } : Room) s m #[(.ref aCONFIRMATION), (.ref b1), (.ref aFFDHE2048)] below meth c s₁ [] 0 0 := Stand.of_body Bd
  have e0 : s₁.heap = h0 := by rw [← hh, Bd.state]; rfl
  have N0 := Fr.nil n0
  refine own_go (Q := fun o U' => ∃ v L, o = .returned v ∧ Q_wr_aCONFIRMATION_aFFDHE2048 Z aKEY_SHARE aFFDHE2048 aFFDHE4096 aCONFIRMATION aFFDHE3072 b1 k1 u0 u1 u2 u3 u4 h0 n0 v U'.heap L ∧ FrameEnd s o U' L ({ frames := 1, cells := 0, slots := 0, locals := 14 } : Room).cells ({ frames := 1, cells := 0, slots := 0, locals := 14 } : Room).slots) (fun t k => castTop (ef_wr_aCONFIRMATION_aFFDHE2048 m aCONFIRMATION b1 aFFDHE2048) k) ?_
  show OwnGo p e below _ (s₁.setTop (mkF m 0 #[.val (.ref aCONFIRMATION), .val (.ref b1), .val (.ref aFFDHE2048)] []))
  refine own_go (fun _ k => XS.aloadN X0.here hx rfl (hb hby d_prog_5_method_4_0) rfl rfl k) ?_
  show OwnGo p e below _ (s₁.setTop (mkF m 1 #[.val (.ref aCONFIRMATION), .val (.ref b1), .val (.ref aFFDHE2048)] [(.ref b1)]))
  refine own_go (fun _ k => XS.iconst X0.here hx rfl (hb hby d_prog_5_method_4_1) k) ?_
  show OwnGo p e below _ (s₁.setTop (mkF m 2 #[.val (.ref aCONFIRMATION), .val (.ref b1), .val (.ref aFFDHE2048)] [(.int (0 : Int32)), (.ref b1)]))
  refine own_go (fun _ k => XS.iconst X0.here hx rfl (hb hby d_prog_5_method_4_2) k) ?_
  show OwnGo p e below _ (s₁.setTop (mkF m 3 #[.val (.ref aCONFIRMATION), .val (.ref b1), .val (.ref aFFDHE2048)] [(.int (1 : Int32)), (.int (0 : Int32)), (.ref b1)]))
  obtain ⟨c4, Ar4, q4, S4, M4, H4, G4⟩ := (id VA)
  obtain ⟨T4, h4, X4, e4, W4, st4⟩ := stB X0 hx hZ e0 Ar4 (j := (0 : Int32)) (inb_of S4 ⟨by decide, by decide⟩) (g := (mkF m 3 #[.val (.ref aCONFIRMATION), .val (.ref b1), .val (.ref aFFDHE2048)] [(.int (1 : Int32)), (.int (0 : Int32)), (.ref b1)])) rfl rfl (hb hby d_prog_5_method_4_3)
  rw [show nar .byte (1 : Int32) = (1 : Int32) from by decide] at W4
  have N4 := Fr.snoc X4 N0 geA
  have O4 := O0.wr W4 geA
  have z5 : h0.size ≤ h4.size := Nat.le_trans (Nat.le_refl _) (Nat.le_of_eq W4.size.symm)
  have V4 : Arv Z h4 b1 k1 .byte (5 : Int32) [(.int (1 : Int32)), (.int u1), (.int u2), (.int u3), (.int u4)] (.int (0 : Int32)) := Arv.set Ar4 q4 S4 M4 H4 G4 (by decide) W4 0 (by decide) (Nat.le_of_ble_eq_true rfl)
  refine own_go st4 ?_
  show OwnGo p e below _ (T4.setTop (mkF m 4 #[.val (.ref aCONFIRMATION), .val (.ref b1), .val (.ref aFFDHE2048)] []))
  refine own_go (fun _ k => XS.aloadN X4.here hx rfl (hb hby d_prog_5_method_4_4) rfl rfl k) ?_
  show OwnGo p e below _ (T4.setTop (mkF m 5 #[.val (.ref aCONFIRMATION), .val (.ref b1), .val (.ref aFFDHE2048)] [(.ref b1)]))
  refine own_go (fun _ k => XS.iconst X4.here hx rfl (hb hby d_prog_5_method_4_5) k) ?_
  show OwnGo p e below _ (T4.setTop (mkF m 6 #[.val (.ref aCONFIRMATION), .val (.ref b1), .val (.ref aFFDHE2048)] [(.int (1 : Int32)), (.ref b1)]))
  refine own_go (fun _ k => XS.aloadN X4.here hx rfl (hb hby d_prog_5_method_4_6) rfl rfl k) ?_
  show OwnGo p e below _ (T4.setTop (mkF m 7 #[.val (.ref aCONFIRMATION), .val (.ref b1), .val (.ref aFFDHE2048)] [(.ref aCONFIRMATION), (.int (1 : Int32)), (.ref b1)]))
  obtain ⟨T6, X6, e6, st6⟩ := getF X4 hx hZ hown (host := "") (Or.inl (hw _ (List.mem_of_getElem? (i := 12) rfl))) Via.refl e4 (F0.2.2.2.2.2.2.2.2.2.2.2.2.2.1.ext O4.2) (g := (mkF m 7 #[.val (.ref aCONFIRMATION), .val (.ref b1), .val (.ref aFFDHE2048)] [(.ref aCONFIRMATION), (.int (1 : Int32)), (.ref b1)])) rfl rfl (hb hby d_prog_5_method_4_7)
  refine own_go st6 ?_
  show OwnGo p e below _ (T6.setTop (mkF m 10 #[.val (.ref aCONFIRMATION), .val (.ref b1), .val (.ref aFFDHE2048)] [(.int (2 : Int32)), (.int (1 : Int32)), (.ref b1)]))
  obtain ⟨c7, Ar7, q7, S7, M7, H7, G7⟩ := (id V4)
  obtain ⟨T7, h7, X7, e7, W7, st7⟩ := stB X6 hx hZ e6 Ar7 (j := (1 : Int32)) (inb_of S7 ⟨by decide, by decide⟩) (g := (mkF m 10 #[.val (.ref aCONFIRMATION), .val (.ref b1), .val (.ref aFFDHE2048)] [(.int (2 : Int32)), (.int (1 : Int32)), (.ref b1)])) rfl rfl (hb hby d_prog_5_method_4_10)
  rw [show nar .byte (2 : Int32) = (2 : Int32) from by decide] at W7
  have N7 := Fr.snoc X7 N4 geA
  have O7 := O4.wr W7 geA
  have z8 : h0.size ≤ h7.size := Nat.le_trans z5 (Nat.le_of_eq W7.size.symm)
  have V7 : Arv Z h7 b1 k1 .byte (5 : Int32) [(.int (1 : Int32)), (.int (2 : Int32)), (.int u2), (.int u3), (.int u4)] (.int (0 : Int32)) := Arv.set Ar7 q7 S7 M7 H7 G7 (by decide) W7 1 (by decide) (Nat.le_of_ble_eq_true rfl)
  refine own_go st7 ?_
  show OwnGo p e below _ (T7.setTop (mkF m 11 #[.val (.ref aCONFIRMATION), .val (.ref b1), .val (.ref aFFDHE2048)] []))
  refine own_go (fun _ k => XS.aloadN X7.here hx rfl (hb hby d_prog_5_method_4_11) rfl rfl k) ?_
  show OwnGo p e below _ (T7.setTop (mkF m 12 #[.val (.ref aCONFIRMATION), .val (.ref b1), .val (.ref aFFDHE2048)] [(.ref b1)]))
  refine own_go (fun _ k => XS.iconst X7.here hx rfl (hb hby d_prog_5_method_4_12) k) ?_
  show OwnGo p e below _ (T7.setTop (mkF m 13 #[.val (.ref aCONFIRMATION), .val (.ref b1), .val (.ref aFFDHE2048)] [(.int (2 : Int32)), (.ref b1)]))
  refine own_go (fun _ k => XS.aloadN X7.here hx rfl (hb hby d_prog_5_method_4_13) rfl rfl k) ?_
  show OwnGo p e below _ (T7.setTop (mkF m 14 #[.val (.ref aCONFIRMATION), .val (.ref b1), .val (.ref aFFDHE2048)] [(.ref aFFDHE2048), (.int (2 : Int32)), (.ref b1)]))
  obtain ⟨cq9, kq9, qa9, qb9, qc9⟩ := isOf hZ e7 (F0.2.2.2.1.ext O7.2)
  obtain ⟨_, _, ⟨T9, L9, k9, n9⟩, -, X9, ⟨Lc9, hQ9, l9, y9, z9⟩, st9⟩ := X7.virtualBack hx (y := (⟨"com/example/portcullis/portcullis/Group", "id", "()B"⟩ : MethodName)) (z := (⟨"com/example/portcullis/portcullis/Group", "id", "()B"⟩ : MethodName)) hown (mvT hZ (hw _ (List.mem_of_getElem? (i := 14) rfl))) (mvT hZ (hw _ (List.mem_of_getElem? (i := 15) rfl))) (notFace_of_selects (args := #[]) (mvT hZ (hw _ (List.mem_of_getElem? (i := 17) rfl)))) (mvT hZ (hw _ (List.mem_of_getElem? (i := 17) rfl))) (mvT hZ (hw _ (List.mem_of_getElem? (i := 16) rfl))) (by decide) (backOf (W := 2) (rm_idaFFDHE2048 l Z a0 hw [] aKEY_SHARE aFFDHE2048 aFFDHE4096 aCONFIRMATION aFFDHE3072 F0 h7 n0 O7) hZ (hw _ (List.mem_of_getElem? (i := 18) rfl)) (hw _ (List.mem_of_getElem? (i := 4) rfl)) (by decide) (by decide)) qa9 qc9 (g := (mkF m 14 #[.val (.ref aCONFIRMATION), .val (.ref b1), .val (.ref aFFDHE2048)] [(.ref aFFDHE2048), (.int (2 : Int32)), (.ref b1)])) rfl (by rw [hml]; rfl) (Steps.refl _) (argsL := []) (rest := [(.int (2 : Int32)), (.ref b1)]) (lenOf pd___B rfl) rfl (by show 2 * 0 + _ ≤ _; exact Nat.le_of_eq rfl) (hb hby d_prog_5_method_4_14) (fun _ _ => ⟨rfl, e7, (by decide : 0 + 0 ≤ _), (by decide : 0 + 0 ≤ _)⟩)
  dsimp only [Pt.U, Pt.locs, Pt.cells, Pt.slots] at X9 l9 y9 z9 st9 hQ9
  subst l9 y9 z9
  obtain ⟨rfl, Nq9, K9⟩ := hQ9
  have N9 := Fr.app N7 Nq9
  refine own_go (fun _ k => st9.trans k) ?_
  show OwnGo p e below _ (T9.setTop (mkF m 17 #[.val (.ref aCONFIRMATION), .val (.ref b1), .val (.ref aFFDHE2048)] [(.int (1 : Int32)), (.int (2 : Int32)), (.ref b1)]))
  obtain ⟨c10, Ar10, q10, S10, M10, H10, G10⟩ := (id V7)
  obtain ⟨T10, h10, X10, e10, W10, st10⟩ := stB X9 hx hZ K9 Ar10 (j := (2 : Int32)) (inb_of S10 ⟨by decide, by decide⟩) (g := (mkF m 17 #[.val (.ref aCONFIRMATION), .val (.ref b1), .val (.ref aFFDHE2048)] [(.int (1 : Int32)), (.int (2 : Int32)), (.ref b1)])) rfl rfl (hb hby d_prog_5_method_4_17)
  rw [show nar .byte (1 : Int32) = (1 : Int32) from by decide] at W10
  have N10 := Fr.snoc X10 N9 geA
  have O10 := O7.wr W10 geA
  have z11 : h0.size ≤ h10.size := Nat.le_trans z8 (Nat.le_of_eq W10.size.symm)
  have V10 : Arv Z h10 b1 k1 .byte (5 : Int32) [(.int (1 : Int32)), (.int (2 : Int32)), (.int (1 : Int32)), (.int u3), (.int u4)] (.int (0 : Int32)) := Arv.set Ar10 q10 S10 M10 H10 G10 (by decide) W10 2 (by decide) (Nat.le_of_ble_eq_true rfl)
  refine own_go st10 ?_
  show OwnGo p e below _ (T10.setTop (mkF m 18 #[.val (.ref aCONFIRMATION), .val (.ref b1), .val (.ref aFFDHE2048)] []))
  obtain ⟨fs, hr, hrun, hended, hW, hsame⟩ := X10.leave (v := none) (fun h => rfl)
  refine ⟨_, _, X10.returnOut hx Bd.returns (hb hby d_prog_5_method_4_18) hr, hrun, hended, _, _, rfl, ?_, ⟨_, rfl⟩, hW, hsame.mono (by decide) (by decide)⟩
  show Q_wr_aCONFIRMATION_aFFDHE2048 Z aKEY_SHARE aFFDHE2048 aFFDHE4096 aCONFIRMATION aFFDHE3072 b1 k1 u0 u1 u2 u3 u4 h0 n0 _ T10.heap _
  rw [e10]
  exact ⟨rfl, N10, ((((Keep.refl _ [b1]).wr W4 (Or.inl (List.mem_of_getElem? (i := 0) rfl))).wr W7 (Or.inl (List.mem_of_getElem? (i := 0) rfl))).wr W10 (Or.inl (List.mem_of_getElem? (i := 0) rfl))), V10⟩
def Q_wr_aCONFIRMATION_aFFDHE3072 (Z : State) (aKEY_SHARE aFFDHE2048 aFFDHE4096 aCONFIRMATION aFFDHE3072 : Addr) (b1 : Addr) (k1 : ClassId) (u0 : Int32) (u1 : Int32) (u2 : Int32) (u3 : Int32) (u4 : Int32) (h0 : Heap) (n0 : Nat) (v : Option Value) (h : Heap) (L : List Loc) : Prop := v = none ∧ Fr n0 L ∧ Keep h0 h [b1] ∧ Arv Z h b1 k1 .byte (5 : Int32) [(.int (1 : Int32)), (.int (2 : Int32)), (.int (2 : Int32)), (.int u3), (.int u4)] (.int (0 : Int32))
theorem ef_wr_aCONFIRMATION_aFFDHE3072 (m : MethodId) (x0 : Addr) (x1 : Addr) (x2 : Addr) : entryFrame m #[(.ref x0), (.ref x1), (.ref x2)] 3 = mkF m 0 #[.val (.ref x0), .val (.ref x1), .val (.ref x2)] [] := by first | (simp [entryFrame, mkF, argsToLocals, Value.category]; done) | rfl
set_option maxRecDepth 65536 in
set_option maxHeartbeats 40000000 in
theorem rm_wr_aCONFIRMATION_aFFDHE3072 (l : Launch) (Z : State) (a0 : Array Value) (hw : ∀ d ∈ tables_1, d.before a0 Z = true) (ws : List Jvm.Cond) (aKEY_SHARE aFFDHE2048 aFFDHE4096 aCONFIRMATION aFFDHE3072 : Addr) (F0 : OwnFacts Z aKEY_SHARE aFFDHE2048 aFFDHE4096 aCONFIRMATION aFFDHE3072) (b1 : Addr) (k1 : ClassId) (u0 : Int32) (u1 : Int32) (u2 : Int32) (u3 : Int32) (u4 : Int32) (h0 : Heap) (n0 : Nat) (O0 : Old Z n0 h0) (VA : Arv Z h0 b1 k1 .byte (5 : Int32) [(.int u0), (.int u1), (.int u2), (.int u3), (.int u4)] (.int (0 : Int32))) (geA : n0 ≤ b1) :
    MetFree l (⟨"com/example/portcullis/portcullis/MessageType", "writeHeader", "([BLcom/example/portcullis/portcullis/Group;)V"⟩ : MethodName) (head1 (Jvm.Cond.code (⟨"com/example/portcullis/portcullis/MessageType", "writeHeader", "([BLcom/example/portcullis/portcullis/Group;)V"⟩ : MethodName) prog_5_method_4_code 3 none :: ws) ({ frames := 1, cells := 0, slots := 0, locals := 14 } : Room)) (fun a U => a = #[(.ref aCONFIRMATION), (.ref b1), (.ref aFFDHE3072)] ∧ Z.Warmed39 U.vm ∧ U.heap = h0) (fun _ _ _ _ _ => True) (fun _ U o U' => ∃ v L, o = .returned v ∧ Q_wr_aCONFIRMATION_aFFDHE3072 Z aKEY_SHARE aFFDHE2048 aFFDHE4096 aCONFIRMATION aFFDHE3072 b1 k1 u0 u1 u2 u3 u4 h0 n0 v U'.heap L ∧ FrameEnd U o U' L ({ frames := 1, cells := 0, slots := 0, locals := 14 } : Room).cells ({ frames := 1, cells := 0, slots := 0, locals := 14 } : Room).slots) := by
  refine MetFree.of_bodySF (plainFor_of_name pn_com_example_portcullis_portcullis_MessageType) hisR ?_
  intro p e s m args below meth c s₁ Bd hml0 hP hK
  obtain ⟨rfl, hZ, hh⟩ := hP
  have hx := Bd.exec
  have hby := Bd.bytes
  have hml : c.maxLocals = 3 := hml0
  have hown : s.vm.findClass "com/example/portcullis/portcullis/MessageType" = some m.cls := findClass_of_methodNamed Bd.named
  have hnm := (name_of_methodNamed Bd.named Bd.method).1
  have X0 : Stand p l e ({ frames := 1, cells := 0, slots := 0, locals := 14 } : Room) s m #[(.ref aCONFIRMATION), (.ref b1), (.ref aFFDHE3072)] below meth c s₁ [] 0 0 := Stand.of_body Bd
  have e0 : s₁.heap = h0 := by rw [← hh, Bd.state]; rfl
  have N0 := Fr.nil n0
  refine own_go (Q := fun o U' => ∃ v L, o = .returned v ∧ Q_wr_aCONFIRMATION_aFFDHE3072 Z aKEY_SHARE aFFDHE2048 aFFDHE4096 aCONFIRMATION aFFDHE3072 b1 k1 u0 u1 u2 u3 u4 h0 n0 v U'.heap L ∧ FrameEnd s o U' L ({ frames := 1, cells := 0, slots := 0, locals := 14 } : Room).cells ({ frames := 1, cells := 0, slots := 0, locals := 14 } : Room).slots) (fun t k => castTop (ef_wr_aCONFIRMATION_aFFDHE3072 m aCONFIRMATION b1 aFFDHE3072) k) ?_
  show OwnGo p e below _ (s₁.setTop (mkF m 0 #[.val (.ref aCONFIRMATION), .val (.ref b1), .val (.ref aFFDHE3072)] []))
  refine own_go (fun _ k => XS.aloadN X0.here hx rfl (hb hby d_prog_5_method_4_0) rfl rfl k) ?_
  show OwnGo p e below _ (s₁.setTop (mkF m 1 #[.val (.ref aCONFIRMATION), .val (.ref b1), .val (.ref aFFDHE3072)] [(.ref b1)]))
  refine own_go (fun _ k => XS.iconst X0.here hx rfl (hb hby d_prog_5_method_4_1) k) ?_
  show OwnGo p e below _ (s₁.setTop (mkF m 2 #[.val (.ref aCONFIRMATION), .val (.ref b1), .val (.ref aFFDHE3072)] [(.int (0 : Int32)), (.ref b1)]))
  refine own_go (fun _ k => XS.iconst X0.here hx rfl (hb hby d_prog_5_method_4_2) k) ?_
  show OwnGo p e below _ (s₁.setTop (mkF m 3 #[.val (.ref aCONFIRMATION), .val (.ref b1), .val (.ref aFFDHE3072)] [(.int (1 : Int32)), (.int (0 : Int32)), (.ref b1)]))
  obtain ⟨c12, Ar12, q12, S12, M12, H12, G12⟩ := (id VA)
  obtain ⟨T12, h12, X12, e12, W12, st12⟩ := stB X0 hx hZ e0 Ar12 (j := (0 : Int32)) (inb_of S12 ⟨by decide, by decide⟩) (g := (mkF m 3 #[.val (.ref aCONFIRMATION), .val (.ref b1), .val (.ref aFFDHE3072)] [(.int (1 : Int32)), (.int (0 : Int32)), (.ref b1)])) rfl rfl (hb hby d_prog_5_method_4_3)
  rw [show nar .byte (1 : Int32) = (1 : Int32) from by decide] at W12
  have N12 := Fr.snoc X12 N0 geA
  have O12 := O0.wr W12 geA
  have z13 : h0.size ≤ h12.size := Nat.le_trans (Nat.le_refl _) (Nat.le_of_eq W12.size.symm)
  have V12 : Arv Z h12 b1 k1 .byte (5 : Int32) [(.int (1 : Int32)), (.int u1), (.int u2), (.int u3), (.int u4)] (.int (0 : Int32)) := Arv.set Ar12 q12 S12 M12 H12 G12 (by decide) W12 0 (by decide) (Nat.le_of_ble_eq_true rfl)
  refine own_go st12 ?_
  show OwnGo p e below _ (T12.setTop (mkF m 4 #[.val (.ref aCONFIRMATION), .val (.ref b1), .val (.ref aFFDHE3072)] []))
  refine own_go (fun _ k => XS.aloadN X12.here hx rfl (hb hby d_prog_5_method_4_4) rfl rfl k) ?_
  show OwnGo p e below _ (T12.setTop (mkF m 5 #[.val (.ref aCONFIRMATION), .val (.ref b1), .val (.ref aFFDHE3072)] [(.ref b1)]))
  refine own_go (fun _ k => XS.iconst X12.here hx rfl (hb hby d_prog_5_method_4_5) k) ?_
  show OwnGo p e below _ (T12.setTop (mkF m 6 #[.val (.ref aCONFIRMATION), .val (.ref b1), .val (.ref aFFDHE3072)] [(.int (1 : Int32)), (.ref b1)]))
  refine own_go (fun _ k => XS.aloadN X12.here hx rfl (hb hby d_prog_5_method_4_6) rfl rfl k) ?_
  show OwnGo p e below _ (T12.setTop (mkF m 7 #[.val (.ref aCONFIRMATION), .val (.ref b1), .val (.ref aFFDHE3072)] [(.ref aCONFIRMATION), (.int (1 : Int32)), (.ref b1)]))
  obtain ⟨T14, X14, e14, st14⟩ := getF X12 hx hZ hown (host := "") (Or.inl (hw _ (List.mem_of_getElem? (i := 12) rfl))) Via.refl e12 (F0.2.2.2.2.2.2.2.2.2.2.2.2.2.1.ext O12.2) (g := (mkF m 7 #[.val (.ref aCONFIRMATION), .val (.ref b1), .val (.ref aFFDHE3072)] [(.ref aCONFIRMATION), (.int (1 : Int32)), (.ref b1)])) rfl rfl (hb hby d_prog_5_method_4_7)
  refine own_go st14 ?_
  show OwnGo p e below _ (T14.setTop (mkF m 10 #[.val (.ref aCONFIRMATION), .val (.ref b1), .val (.ref aFFDHE3072)] [(.int (2 : Int32)), (.int (1 : Int32)), (.ref b1)]))
  obtain ⟨c15, Ar15, q15, S15, M15, H15, G15⟩ := (id V12)
  obtain ⟨T15, h15, X15, e15, W15, st15⟩ := stB X14 hx hZ e14 Ar15 (j := (1 : Int32)) (inb_of S15 ⟨by decide, by decide⟩) (g := (mkF m 10 #[.val (.ref aCONFIRMATION), .val (.ref b1), .val (.ref aFFDHE3072)] [(.int (2 : Int32)), (.int (1 : Int32)), (.ref b1)])) rfl rfl (hb hby d_prog_5_method_4_10)
  rw [show nar .byte (2 : Int32) = (2 : Int32) from by decide] at W15
  have N15 := Fr.snoc X15 N12 geA
  have O15 := O12.wr W15 geA
  have z16 : h0.size ≤ h15.size := Nat.le_trans z13 (Nat.le_of_eq W15.size.symm)
  have V15 : Arv Z h15 b1 k1 .byte (5 : Int32) [(.int (1 : Int32)), (.int (2 : Int32)), (.int u2), (.int u3), (.int u4)] (.int (0 : Int32)) := Arv.set Ar15 q15 S15 M15 H15 G15 (by decide) W15 1 (by decide) (Nat.le_of_ble_eq_true rfl)
  refine own_go st15 ?_
  show OwnGo p e below _ (T15.setTop (mkF m 11 #[.val (.ref aCONFIRMATION), .val (.ref b1), .val (.ref aFFDHE3072)] []))
  refine own_go (fun _ k => XS.aloadN X15.here hx rfl (hb hby d_prog_5_method_4_11) rfl rfl k) ?_
  show OwnGo p e below _ (T15.setTop (mkF m 12 #[.val (.ref aCONFIRMATION), .val (.ref b1), .val (.ref aFFDHE3072)] [(.ref b1)]))
  refine own_go (fun _ k => XS.iconst X15.here hx rfl (hb hby d_prog_5_method_4_12) k) ?_
  show OwnGo p e below _ (T15.setTop (mkF m 13 #[.val (.ref aCONFIRMATION), .val (.ref b1), .val (.ref aFFDHE3072)] [(.int (2 : Int32)), (.ref b1)]))
  refine own_go (fun _ k => XS.aloadN X15.here hx rfl (hb hby d_prog_5_method_4_13) rfl rfl k) ?_
  show OwnGo p e below _ (T15.setTop (mkF m 14 #[.val (.ref aCONFIRMATION), .val (.ref b1), .val (.ref aFFDHE3072)] [(.ref aFFDHE3072), (.int (2 : Int32)), (.ref b1)]))
  obtain ⟨cq17, kq17, qa17, qb17, qc17⟩ := isOf hZ e15 (F0.2.2.2.2.2.2.2.2.2.2.2.2.1.ext O15.2)
  obtain ⟨_, _, ⟨T17, L17, k17, n17⟩, -, X17, ⟨Lc17, hQ17, l17, y17, z17⟩, st17⟩ := X15.virtualBack hx (y := (⟨"com/example/portcullis/portcullis/Group", "id", "()B"⟩ : MethodName)) (z := (⟨"com/example/portcullis/portcullis/Group", "id", "()B"⟩ : MethodName)) hown (mvT hZ (hw _ (List.mem_of_getElem? (i := 14) rfl))) (mvT hZ (hw _ (List.mem_of_getElem? (i := 15) rfl))) (notFace_of_selects (args := #[]) (mvT hZ (hw _ (List.mem_of_getElem? (i := 17) rfl)))) (mvT hZ (hw _ (List.mem_of_getElem? (i := 17) rfl))) (mvT hZ (hw _ (List.mem_of_getElem? (i := 16) rfl))) (by decide) (backOf (W := 2) (rm_idaFFDHE3072 l Z a0 hw [] aKEY_SHARE aFFDHE2048 aFFDHE4096 aCONFIRMATION aFFDHE3072 F0 h15 n0 O15) hZ (hw _ (List.mem_of_getElem? (i := 18) rfl)) (hw _ (List.mem_of_getElem? (i := 4) rfl)) (by decide) (by decide)) qa17 qc17 (g := (mkF m 14 #[.val (.ref aCONFIRMATION), .val (.ref b1), .val (.ref aFFDHE3072)] [(.ref aFFDHE3072), (.int (2 : Int32)), (.ref b1)])) rfl (by rw [hml]; rfl) (Steps.refl _) (argsL := []) (rest := [(.int (2 : Int32)), (.ref b1)]) (lenOf pd___B rfl) rfl (by show 2 * 0 + _ ≤ _; exact Nat.le_of_eq rfl) (hb hby d_prog_5_method_4_14) (fun _ _ => ⟨rfl, e15, (by decide : 0 + 0 ≤ _), (by decide : 0 + 0 ≤ _)⟩)
  dsimp only [Pt.U, Pt.locs, Pt.cells, Pt.slots] at X17 l17 y17 z17 st17 hQ17
  subst l17 y17 z17
  obtain ⟨rfl, Nq17, K17⟩ := hQ17
  have N17 := Fr.app N15 Nq17
  refine own_go (fun _ k => st17.trans k) ?_
  show OwnGo p e below _ (T17.setTop (mkF m 17 #[.val (.ref aCONFIRMATION), .val (.ref b1), .val (.ref aFFDHE3072)] [(.int (2 : Int32)), (.int (2 : Int32)), (.ref b1)]))
  obtain ⟨c18, Ar18, q18, S18, M18, H18, G18⟩ := (id V15)
  obtain ⟨T18, h18, X18, e18, W18, st18⟩ := stB X17 hx hZ K17 Ar18 (j := (2 : Int32)) (inb_of S18 ⟨by decide, by decide⟩) (g := (mkF m 17 #[.val (.ref aCONFIRMATION), .val (.ref b1), .val (.ref aFFDHE3072)] [(.int (2 : Int32)), (.int (2 : Int32)), (.ref b1)])) rfl rfl (hb hby d_prog_5_method_4_17)
  rw [show nar .byte (2 : Int32) = (2 : Int32) from by decide] at W18
  have N18 := Fr.snoc X18 N17 geA
  have O18 := O15.wr W18 geA
  have z19 : h0.size ≤ h18.size := Nat.le_trans z16 (Nat.le_of_eq W18.size.symm)
  have V18 : Arv Z h18 b1 k1 .byte (5 : Int32) [(.int (1 : Int32)), (.int (2 : Int32)), (.int (2 : Int32)), (.int u3), (.int u4)] (.int (0 : Int32)) := Arv.set Ar18 q18 S18 M18 H18 G18 (by decide) W18 2 (by decide) (Nat.le_of_ble_eq_true rfl)
  refine own_go st18 ?_
  show OwnGo p e below _ (T18.setTop (mkF m 18 #[.val (.ref aCONFIRMATION), .val (.ref b1), .val (.ref aFFDHE3072)] []))
  obtain ⟨fs, hr, hrun, hended, hW, hsame⟩ := X18.leave (v := none) (fun h => rfl)
  refine ⟨_, _, X18.returnOut hx Bd.returns (hb hby d_prog_5_method_4_18) hr, hrun, hended, _, _, rfl, ?_, ⟨_, rfl⟩, hW, hsame.mono (by decide) (by decide)⟩
  show Q_wr_aCONFIRMATION_aFFDHE3072 Z aKEY_SHARE aFFDHE2048 aFFDHE4096 aCONFIRMATION aFFDHE3072 b1 k1 u0 u1 u2 u3 u4 h0 n0 _ T18.heap _
  rw [e18]
  exact ⟨rfl, N18, ((((Keep.refl _ [b1]).wr W12 (Or.inl (List.mem_of_getElem? (i := 0) rfl))).wr W15 (Or.inl (List.mem_of_getElem? (i := 0) rfl))).wr W18 (Or.inl (List.mem_of_getElem? (i := 0) rfl))), V18⟩
def Q_wr_aCONFIRMATION_aFFDHE4096 (Z : State) (aKEY_SHARE aFFDHE2048 aFFDHE4096 aCONFIRMATION aFFDHE3072 : Addr) (b1 : Addr) (k1 : ClassId) (u0 : Int32) (u1 : Int32) (u2 : Int32) (u3 : Int32) (u4 : Int32) (h0 : Heap) (n0 : Nat) (v : Option Value) (h : Heap) (L : List Loc) : Prop := v = none ∧ Fr n0 L ∧ Keep h0 h [b1] ∧ Arv Z h b1 k1 .byte (5 : Int32) [(.int (1 : Int32)), (.int (2 : Int32)), (.int (3 : Int32)), (.int u3), (.int u4)] (.int (0 : Int32))
theorem ef_wr_aCONFIRMATION_aFFDHE4096 (m : MethodId) (x0 : Addr) (x1 : Addr) (x2 : Addr) : entryFrame m #[(.ref x0), (.ref x1), (.ref x2)] 3 = mkF m 0 #[.val (.ref x0), .val (.ref x1), .val (.ref x2)] [] := by first | (simp [entryFrame, mkF, argsToLocals, Value.category]; done) | rfl
set_option maxRecDepth 65536 in
set_option maxHeartbeats 40000000 in
theorem rm_wr_aCONFIRMATION_aFFDHE4096 (l : Launch) (Z : State) (a0 : Array Value) (hw : ∀ d ∈ tables_1, d.before a0 Z = true) (ws : List Jvm.Cond) (aKEY_SHARE aFFDHE2048 aFFDHE4096 aCONFIRMATION aFFDHE3072 : Addr) (F0 : OwnFacts Z aKEY_SHARE aFFDHE2048 aFFDHE4096 aCONFIRMATION aFFDHE3072) (b1 : Addr) (k1 : ClassId) (u0 : Int32) (u1 : Int32) (u2 : Int32) (u3 : Int32) (u4 : Int32) (h0 : Heap) (n0 : Nat) (O0 : Old Z n0 h0) (VA : Arv Z h0 b1 k1 .byte (5 : Int32) [(.int u0), (.int u1), (.int u2), (.int u3), (.int u4)] (.int (0 : Int32))) (geA : n0 ≤ b1) :
    MetFree l (⟨"com/example/portcullis/portcullis/MessageType", "writeHeader", "([BLcom/example/portcullis/portcullis/Group;)V"⟩ : MethodName) (head1 (Jvm.Cond.code (⟨"com/example/portcullis/portcullis/MessageType", "writeHeader", "([BLcom/example/portcullis/portcullis/Group;)V"⟩ : MethodName) prog_5_method_4_code 3 none :: ws) ({ frames := 1, cells := 0, slots := 0, locals := 14 } : Room)) (fun a U => a = #[(.ref aCONFIRMATION), (.ref b1), (.ref aFFDHE4096)] ∧ Z.Warmed39 U.vm ∧ U.heap = h0) (fun _ _ _ _ _ => True) (fun _ U o U' => ∃ v L, o = .returned v ∧ Q_wr_aCONFIRMATION_aFFDHE4096 Z aKEY_SHARE aFFDHE2048 aFFDHE4096 aCONFIRMATION aFFDHE3072 b1 k1 u0 u1 u2 u3 u4 h0 n0 v U'.heap L ∧ FrameEnd U o U' L ({ frames := 1, cells := 0, slots := 0, locals := 14 } : Room).cells ({ frames := 1, cells := 0, slots := 0, locals := 14 } : Room).slots) := by
  refine MetFree.of_bodySF (plainFor_of_name pn_com_example_portcullis_portcullis_MessageType) hisR ?_
  intro p e s m args below meth c s₁ Bd hml0 hP hK
  obtain ⟨rfl, hZ, hh⟩ := hP
  have hx := Bd.exec
  have hby := Bd.bytes
  have hml : c.maxLocals = 3 := hml0
  have hown : s.vm.findClass "com/example/portcullis/portcullis/MessageType" = some m.cls := findClass_of_methodNamed Bd.named
  have hnm := (name_of_methodNamed Bd.named Bd.method).1
  have X0 : Stand p l e ({ frames := 1, cells := 0, slots := 0, locals := 14 } : Room) s m #[(.ref aCONFIRMATION), (.ref b1), (.ref aFFDHE4096)] below meth c s₁ [] 0 0 := Stand.of_body Bd
  have e0 : s₁.heap = h0 := by rw [← hh, Bd.state]; rfl
  have N0 := Fr.nil n0
  refine own_go (Q := fun o U' => ∃ v L, o = .returned v ∧ Q_wr_aCONFIRMATION_aFFDHE4096 Z aKEY_SHARE aFFDHE2048 aFFDHE4096 aCONFIRMATION aFFDHE3072 b1 k1 u0 u1 u2 u3 u4 h0 n0 v U'.heap L ∧ FrameEnd s o U' L ({ frames := 1, cells := 0, slots := 0, locals := 14 } : Room).cells ({ frames := 1, cells := 0, slots := 0, locals := 14 } : Room).slots) (fun t k => castTop (ef_wr_aCONFIRMATION_aFFDHE4096 m aCONFIRMATION b1 aFFDHE4096) k) ?_
  show OwnGo p e below _ (s₁.setTop (mkF m 0 #[.val (.ref aCONFIRMATION), .val (.ref b1), .val (.ref aFFDHE4096)] []))
  refine own_go (fun _ k => XS.aloadN X0.here hx rfl (hb hby d_prog_5_method_4_0) rfl rfl k) ?_
  show OwnGo p e below _ (s₁.setTop (mkF m 1 #[.val (.ref aCONFIRMATION), .val (.ref b1), .val (.ref aFFDHE4096)] [(.ref b1)]))
  refine own_go (fun _ k => XS.iconst X0.here hx rfl (hb hby d_prog_5_method_4_1) k) ?_
  show OwnGo p e below _ (s₁.setTop (mkF m 2 #[.val (.ref aCONFIRMATION), .val (.ref b1), .val (.ref aFFDHE4096)] [(.int (0 : Int32)), (.ref b1)]))
  refine own_go (fun _ k => XS.iconst X0.here hx rfl (hb hby d_prog_5_method_4_2) k) ?_
  show OwnGo p e below _ (s₁.setTop (mkF m 3 #[.val (.ref aCONFIRMATION), .val (.ref b1), .val (.ref aFFDHE4096)] [(.int (1 : Int32)), (.int (0 : Int32)), (.ref b1)]))
  obtain ⟨c20, Ar20, q20, S20, M20, H20, G20⟩ := (id VA)
  obtain ⟨T20, h20, X20, e20, W20, st20⟩ := stB X0 hx hZ e0 Ar20 (j := (0 : Int32)) (inb_of S20 ⟨by decide, by decide⟩) (g := (mkF m 3 #[.val (.ref aCONFIRMATION), .val (.ref b1), .val (.ref aFFDHE4096)] [(.int (1 : Int32)), (.int (0 : Int32)), (.ref b1)])) rfl rfl (hb hby d_prog_5_method_4_3)
  rw [show nar .byte (1 : Int32) = (1 : Int32) from by decide] at W20
  have N20 := Fr.snoc X20 N0 geA
  have O20 := O0.wr W20 geA
  have z21 : h0.size ≤ h20.size := Nat.le_trans (Nat.le_refl _) (Nat.le_of_eq W20.size.symm)
  have V20 : Arv Z h20 b1 k1 .byte (5 : Int32) [(.int (1 : Int32)), (.int u1), (.int u2), (.int u3), (.int u4)] (.int (0 : Int32)) := Arv.set Ar20 q20 S20 M20 H20 G20 (by decide) W20 0 (by decide) (Nat.le_of_ble_eq_true rfl)
  refine own_go st20 ?_
  show OwnGo p e below _ (T20.setTop (mkF m 4 #[.val (.ref aCONFIRMATION), .val (.ref b1), .val (.ref aFFDHE4096)] []))
  refine own_go (fun _ k => XS.aloadN X20.here hx rfl (hb hby d_prog_5_method_4_4) rfl rfl k) ?_
  show OwnGo p e below _ (T20.setTop (mkF m 5 #[.val (.ref aCONFIRMATION), .val (.ref b1), .val (.ref aFFDHE4096)] [(.ref b1)]))
  refine own_go (fun _ k => XS.iconst X20.here hx rfl (hb hby d_prog_5_method_4_5) k) ?_
  show OwnGo p e below _ (T20.setTop (mkF m 6 #[.val (.ref aCONFIRMATION), .val (.ref b1), .val (.ref aFFDHE4096)] [(.int (1 : Int32)), (.ref b1)]))
  refine own_go (fun _ k => XS.aloadN X20.here hx rfl (hb hby d_prog_5_method_4_6) rfl rfl k) ?_
  show OwnGo p e below _ (T20.setTop (mkF m 7 #[.val (.ref aCONFIRMATION), .val (.ref b1), .val (.ref aFFDHE4096)] [(.ref aCONFIRMATION), (.int (1 : Int32)), (.ref b1)]))
  obtain ⟨T22, X22, e22, st22⟩ := getF X20 hx hZ hown (host := "") (Or.inl (hw _ (List.mem_of_getElem? (i := 12) rfl))) Via.refl e20 (F0.2.2.2.2.2.2.2.2.2.2.2.2.2.1.ext O20.2) (g := (mkF m 7 #[.val (.ref aCONFIRMATION), .val (.ref b1), .val (.ref aFFDHE4096)] [(.ref aCONFIRMATION), (.int (1 : Int32)), (.ref b1)])) rfl rfl (hb hby d_prog_5_method_4_7)
  refine own_go st22 ?_
  show OwnGo p e below _ (T22.setTop (mkF m 10 #[.val (.ref aCONFIRMATION), .val (.ref b1), .val (.ref aFFDHE4096)] [(.int (2 : Int32)), (.int (1 : Int32)), (.ref b1)]))
  obtain ⟨c23, Ar23, q23, S23, M23, H23, G23⟩ := (id V20)
  obtain ⟨T23, h23, X23, e23, W23, st23⟩ := stB X22 hx hZ e22 Ar23 (j := (1 : Int32)) (inb_of S23 ⟨by decide, by decide⟩) (g := (mkF m 10 #[.val (.ref aCONFIRMATION), .val (.ref b1), .val (.ref aFFDHE4096)] [(.int (2 : Int32)), (.int (1 : Int32)), (.ref b1)])) rfl rfl (hb hby d_prog_5_method_4_10)
  rw [show nar .byte (2 : Int32) = (2 : Int32) from by decide] at W23
  have N23 := Fr.snoc X23 N20 geA
  have O23 := O20.wr W23 geA
  have z24 : h0.size ≤ h23.size := Nat.le_trans z21 (Nat.le_of_eq W23.size.symm)
  have V23 : Arv Z h23 b1 k1 .byte (5 : Int32) [(.int (1 : Int32)), (.int (2 : Int32)), (.int u2), (.int u3), (.int u4)] (.int (0 : Int32)) := Arv.set Ar23 q23 S23 M23 H23 G23 (by decide) W23 1 (by decide) (Nat.le_of_ble_eq_true rfl)
  refine own_go st23 ?_
  show OwnGo p e below _ (T23.setTop (mkF m 11 #[.val (.ref aCONFIRMATION), .val (.ref b1), .val (.ref aFFDHE4096)] []))
  refine own_go (fun _ k => XS.aloadN X23.here hx rfl (hb hby d_prog_5_method_4_11) rfl rfl k) ?_
  show OwnGo p e below _ (T23.setTop (mkF m 12 #[.val (.ref aCONFIRMATION), .val (.ref b1), .val (.ref aFFDHE4096)] [(.ref b1)]))
  refine own_go (fun _ k => XS.iconst X23.here hx rfl (hb hby d_prog_5_method_4_12) k) ?_
  show OwnGo p e below _ (T23.setTop (mkF m 13 #[.val (.ref aCONFIRMATION), .val (.ref b1), .val (.ref aFFDHE4096)] [(.int (2 : Int32)), (.ref b1)]))
  refine own_go (fun _ k => XS.aloadN X23.here hx rfl (hb hby d_prog_5_method_4_13) rfl rfl k) ?_
  show OwnGo p e below _ (T23.setTop (mkF m 14 #[.val (.ref aCONFIRMATION), .val (.ref b1), .val (.ref aFFDHE4096)] [(.ref aFFDHE4096), (.int (2 : Int32)), (.ref b1)]))
  obtain ⟨cq25, kq25, qa25, qb25, qc25⟩ := isOf hZ e23 (F0.2.2.2.2.2.2.2.1.ext O23.2)
  obtain ⟨_, _, ⟨T25, L25, k25, n25⟩, -, X25, ⟨Lc25, hQ25, l25, y25, z25⟩, st25⟩ := X23.virtualBack hx (y := (⟨"com/example/portcullis/portcullis/Group", "id", "()B"⟩ : MethodName)) (z := (⟨"com/example/portcullis/portcullis/Group", "id", "()B"⟩ : MethodName)) hown (mvT hZ (hw _ (List.mem_of_getElem? (i := 14) rfl))) (mvT hZ (hw _ (List.mem_of_getElem? (i := 15) rfl))) (notFace_of_selects (args := #[]) (mvT hZ (hw _ (List.mem_of_getElem? (i := 17) rfl)))) (mvT hZ (hw _ (List.mem_of_getElem? (i := 17) rfl))) (mvT hZ (hw _ (List.mem_of_getElem? (i := 16) rfl))) (by decide) (backOf (W := 2) (rm_idaFFDHE4096 l Z a0 hw [] aKEY_SHARE aFFDHE2048 aFFDHE4096 aCONFIRMATION aFFDHE3072 F0 h23 n0 O23) hZ (hw _ (List.mem_of_getElem? (i := 18) rfl)) (hw _ (List.mem_of_getElem? (i := 4) rfl)) (by decide) (by decide)) qa25 qc25 (g := (mkF m 14 #[.val (.ref aCONFIRMATION), .val (.ref b1), .val (.ref aFFDHE4096)] [(.ref aFFDHE4096), (.int (2 : Int32)), (.ref b1)])) rfl (by rw [hml]; rfl) (Steps.refl _) (argsL := []) (rest := [(.int (2 : Int32)), (.ref b1)]) (lenOf pd___B rfl) rfl (by show 2 * 0 + _ ≤ _; exact Nat.le_of_eq rfl) (hb hby d_prog_5_method_4_14) (fun _ _ => ⟨rfl, e23, (by decide : 0 + 0 ≤ _), (by decide : 0 + 0 ≤ _)⟩)
  dsimp only [Pt.U, Pt.locs, Pt.cells, Pt.slots] at X25 l25 y25 z25 st25 hQ25
  subst l25 y25 z25
  obtain ⟨rfl, Nq25, K25⟩ := hQ25
  have N25 := Fr.app N23 Nq25
  refine own_go (fun _ k => st25.trans k) ?_
  show OwnGo p e below _ (T25.setTop (mkF m 17 #[.val (.ref aCONFIRMATION), .val (.ref b1), .val (.ref aFFDHE4096)] [(.int (3 : Int32)), (.int (2 : Int32)), (.ref b1)]))
  obtain ⟨c26, Ar26, q26, S26, M26, H26, G26⟩ := (id V23)
  obtain ⟨T26, h26, X26, e26, W26, st26⟩ := stB X25 hx hZ K25 Ar26 (j := (2 : Int32)) (inb_of S26 ⟨by decide, by decide⟩) (g := (mkF m 17 #[.val (.ref aCONFIRMATION), .val (.ref b1), .val (.ref aFFDHE4096)] [(.int (3 : Int32)), (.int (2 : Int32)), (.ref b1)])) rfl rfl (hb hby d_prog_5_method_4_17)
  rw [show nar .byte (3 : Int32) = (3 : Int32) from by decide] at W26
  have N26 := Fr.snoc X26 N25 geA
  have O26 := O23.wr W26 geA
  have z27 : h0.size ≤ h26.size := Nat.le_trans z24 (Nat.le_of_eq W26.size.symm)
  have V26 : Arv Z h26 b1 k1 .byte (5 : Int32) [(.int (1 : Int32)), (.int (2 : Int32)), (.int (3 : Int32)), (.int u3), (.int u4)] (.int (0 : Int32)) := Arv.set Ar26 q26 S26 M26 H26 G26 (by decide) W26 2 (by decide) (Nat.le_of_ble_eq_true rfl)
  refine own_go st26 ?_
  show OwnGo p e below _ (T26.setTop (mkF m 18 #[.val (.ref aCONFIRMATION), .val (.ref b1), .val (.ref aFFDHE4096)] []))
  obtain ⟨fs, hr, hrun, hended, hW, hsame⟩ := X26.leave (v := none) (fun h => rfl)
  refine ⟨_, _, X26.returnOut hx Bd.returns (hb hby d_prog_5_method_4_18) hr, hrun, hended, _, _, rfl, ?_, ⟨_, rfl⟩, hW, hsame.mono (by decide) (by decide)⟩
  show Q_wr_aCONFIRMATION_aFFDHE4096 Z aKEY_SHARE aFFDHE2048 aFFDHE4096 aCONFIRMATION aFFDHE3072 b1 k1 u0 u1 u2 u3 u4 h0 n0 _ T26.heap _
  rw [e26]
  exact ⟨rfl, N26, ((((Keep.refl _ [b1]).wr W20 (Or.inl (List.mem_of_getElem? (i := 0) rfl))).wr W23 (Or.inl (List.mem_of_getElem? (i := 0) rfl))).wr W26 (Or.inl (List.mem_of_getElem? (i := 0) rfl))), V26⟩
def Q_wr_aKEY_SHARE_aFFDHE2048 (Z : State) (aKEY_SHARE aFFDHE2048 aFFDHE4096 aCONFIRMATION aFFDHE3072 : Addr) (b1 : Addr) (k1 : ClassId) (u0 : Int32) (u1 : Int32) (u2 : Int32) (u3 : Int32) (u4 : Int32) (h0 : Heap) (n0 : Nat) (v : Option Value) (h : Heap) (L : List Loc) : Prop := v = none ∧ Fr n0 L ∧ Keep h0 h [b1] ∧ Arv Z h b1 k1 .byte (5 : Int32) [(.int (1 : Int32)), (.int (1 : Int32)), (.int (1 : Int32)), (.int u3), (.int u4)] (.int (0 : Int32))
theorem ef_wr_aKEY_SHARE_aFFDHE2048 (m : MethodId) (x0 : Addr) (x1 : Addr) (x2 : Addr) : entryFrame m #[(.ref x0), (.ref x1), (.ref x2)] 3 = mkF m 0 #[.val (.ref x0), .val (.ref x1), .val (.ref x2)] [] := by first | (simp [entryFrame, mkF, argsToLocals, Value.category]; done) | rfl
set_option maxRecDepth 65536 in
set_option maxHeartbeats 40000000 in
theorem rm_wr_aKEY_SHARE_aFFDHE2048 (l : Launch) (Z : State) (a0 : Array Value) (hw : ∀ d ∈ tables_1, d.before a0 Z = true) (ws : List Jvm.Cond) (aKEY_SHARE aFFDHE2048 aFFDHE4096 aCONFIRMATION aFFDHE3072 : Addr) (F0 : OwnFacts Z aKEY_SHARE aFFDHE2048 aFFDHE4096 aCONFIRMATION aFFDHE3072) (b1 : Addr) (k1 : ClassId) (u0 : Int32) (u1 : Int32) (u2 : Int32) (u3 : Int32) (u4 : Int32) (h0 : Heap) (n0 : Nat) (O0 : Old Z n0 h0) (VA : Arv Z h0 b1 k1 .byte (5 : Int32) [(.int u0), (.int u1), (.int u2), (.int u3), (.int u4)] (.int (0 : Int32))) (geA : n0 ≤ b1) :
    MetFree l (⟨"com/example/portcullis/portcullis/MessageType", "writeHeader", "([BLcom/example/portcullis/portcullis/Group;)V"⟩ : MethodName) (head1 (Jvm.Cond.code (⟨"com/example/portcullis/portcullis/MessageType", "writeHeader", "([BLcom/example/portcullis/portcullis/Group;)V"⟩ : MethodName) prog_5_method_4_code 3 none :: ws) ({ frames := 1, cells := 0, slots := 0, locals := 14 } : Room)) (fun a U => a = #[(.ref aKEY_SHARE), (.ref b1), (.ref aFFDHE2048)] ∧ Z.Warmed39 U.vm ∧ U.heap = h0) (fun _ _ _ _ _ => True) (fun _ U o U' => ∃ v L, o = .returned v ∧ Q_wr_aKEY_SHARE_aFFDHE2048 Z aKEY_SHARE aFFDHE2048 aFFDHE4096 aCONFIRMATION aFFDHE3072 b1 k1 u0 u1 u2 u3 u4 h0 n0 v U'.heap L ∧ FrameEnd U o U' L ({ frames := 1, cells := 0, slots := 0, locals := 14 } : Room).cells ({ frames := 1, cells := 0, slots := 0, locals := 14 } : Room).slots) := by
  refine MetFree.of_bodySF (plainFor_of_name pn_com_example_portcullis_portcullis_MessageType) hisR ?_
  intro p e s m args below meth c s₁ Bd hml0 hP hK
  obtain ⟨rfl, hZ, hh⟩ := hP
  have hx := Bd.exec
  have hby := Bd.bytes
  have hml : c.maxLocals = 3 := hml0
  have hown : s.vm.findClass "com/example/portcullis/portcullis/MessageType" = some m.cls := findClass_of_methodNamed Bd.named
  have hnm := (name_of_methodNamed Bd.named Bd.method).1
  have X0 : Stand p l e ({ frames := 1, cells := 0, slots := 0, locals := 14 } : Room) s m #[(.ref aKEY_SHARE), (.ref b1), (.ref aFFDHE2048)] below meth c s₁ [] 0 0 := Stand.of_body Bd
  have e0 : s₁.heap = h0 := by rw [← hh, Bd.state]; rfl
  have N0 := Fr.nil n0
  refine own_go (Q := fun o U' => ∃ v L, o = .returned v ∧ Q_wr_aKEY_SHARE_aFFDHE2048 Z aKEY_SHARE aFFDHE2048 aFFDHE4096 aCONFIRMATION aFFDHE3072 b1 k1 u0 u1 u2 u3 u4 h0 n0 v U'.heap L ∧ FrameEnd s o U' L ({ frames := 1, cells := 0, slots := 0, locals := 14 } : Room).cells ({ frames := 1, cells := 0, slots := 0, locals := 14 } : Room).slots) (fun t k => castTop (ef_wr_aKEY_SHARE_aFFDHE2048 m aKEY_SHARE b1 aFFDHE2048) k) ?_
  show OwnGo p e below _ (s₁.setTop (mkF m 0 #[.val (.ref aKEY_SHARE), .val (.ref b1), .val (.ref aFFDHE2048)] []))
  refine own_go (fun _ k => XS.aloadN X0.here hx rfl (hb hby d_prog_5_method_4_0) rfl rfl k) ?_
  show OwnGo p e below _ (s₁.setTop (mkF m 1 #[.val (.ref aKEY_SHARE), .val (.ref b1), .val (.ref aFFDHE2048)] [(.ref b1)]))
  refine own_go (fun _ k => XS.iconst X0.here hx rfl (hb hby d_prog_5_method_4_1) k) ?_
  show OwnGo p e below _ (s₁.setTop (mkF m 2 #[.val (.ref aKEY_SHARE), .val (.ref b1), .val (.ref aFFDHE2048)] [(.int (0 : Int32)), (.ref b1)]))
  refine own_go (fun _ k => XS.iconst X0.here hx rfl (hb hby d_prog_5_method_4_2) k) ?_
  show OwnGo p e below _ (s₁.setTop (mkF m 3 #[.val (.ref aKEY_SHARE), .val (.ref b1), .val (.ref aFFDHE2048)] [(.int (1 : Int32)), (.int (0 : Int32)), (.ref b1)]))
  obtain ⟨c28, Ar28, q28, S28, M28, H28, G28⟩ := (id VA)
  obtain ⟨T28, h28, X28, e28, W28, st28⟩ := stB X0 hx hZ e0 Ar28 (j := (0 : Int32)) (inb_of S28 ⟨by decide, by decide⟩) (g := (mkF m 3 #[.val (.ref aKEY_SHARE), .val (.ref b1), .val (.ref aFFDHE2048)] [(.int (1 : Int32)), (.int (0 : Int32)), (.ref b1)])) rfl rfl (hb hby d_prog_5_method_4_3)
  rw [show nar .byte (1 : Int32) = (1 : Int32) from by decide] at W28
  have N28 := Fr.snoc X28 N0 geA
  have O28 := O0.wr W28 geA
  have z29 : h0.size ≤ h28.size := Nat.le_trans (Nat.le_refl _) (Nat.le_of_eq W28.size.symm)
  have V28 : Arv Z h28 b1 k1 .byte (5 : Int32) [(.int (1 : Int32)), (.int u1), (.int u2), (.int u3), (.int u4)] (.int (0 : Int32)) := Arv.set Ar28 q28 S28 M28 H28 G28 (by decide) W28 0 (by decide) (Nat.le_of_ble_eq_true rfl)
  refine own_go st28 ?_
  show OwnGo p e below _ (T28.setTop (mkF m 4 #[.val (.ref aKEY_SHARE), .val (.ref b1), .val (.ref aFFDHE2048)] []))
  refine own_go (fun _ k => XS.aloadN X28.here hx rfl (hb hby d_prog_5_method_4_4) rfl rfl k) ?_
  show OwnGo p e below _ (T28.setTop (mkF m 5 #[.val (.ref aKEY_SHARE), .val (.ref b1), .val (.ref aFFDHE2048)] [(.ref b1)]))
  refine own_go (fun _ k => XS.iconst X28.here hx rfl (hb hby d_prog_5_method_4_5) k) ?_
  show OwnGo p e below _ (T28.setTop (mkF m 6 #[.val (.ref aKEY_SHARE), .val (.ref b1), .val (.ref aFFDHE2048)] [(.int (1 : Int32)), (.ref b1)]))
  refine own_go (fun _ k => XS.aloadN X28.here hx rfl (hb hby d_prog_5_method_4_6) rfl rfl k) ?_
  show OwnGo p e below _ (T28.setTop (mkF m 7 #[.val (.ref aKEY_SHARE), .val (.ref b1), .val (.ref aFFDHE2048)] [(.ref aKEY_SHARE), (.int (1 : Int32)), (.ref b1)]))
  obtain ⟨T30, X30, e30, st30⟩ := getF X28 hx hZ hown (host := "") (Or.inl (hw _ (List.mem_of_getElem? (i := 12) rfl))) Via.refl e28 (F0.2.2.2.2.1.ext O28.2) (g := (mkF m 7 #[.val (.ref aKEY_SHARE), .val (.ref b1), .val (.ref aFFDHE2048)] [(.ref aKEY_SHARE), (.int (1 : Int32)), (.ref b1)])) rfl rfl (hb hby d_prog_5_method_4_7)
  refine own_go st30 ?_
  show OwnGo p e below _ (T30.setTop (mkF m 10 #[.val (.ref aKEY_SHARE), .val (.ref b1), .val (.ref aFFDHE2048)] [(.int (1 : Int32)), (.int (1 : Int32)), (.ref b1)]))
  obtain ⟨c31, Ar31, q31, S31, M31, H31, G31⟩ := (id V28)
  obtain ⟨T31, h31, X31, e31, W31, st31⟩ := stB X30 hx hZ e30 Ar31 (j := (1 : Int32)) (inb_of S31 ⟨by decide, by decide⟩) (g := (mkF m 10 #[.val (.ref aKEY_SHARE), .val (.ref b1), .val (.ref aFFDHE2048)] [(.int (1 : Int32)), (.int (1 : Int32)), (.ref b1)])) rfl rfl (hb hby d_prog_5_method_4_10)
  rw [show nar .byte (1 : Int32) = (1 : Int32) from by decide] at W31
  have N31 := Fr.snoc X31 N28 geA
  have O31 := O28.wr W31 geA
  have z32 : h0.size ≤ h31.size := Nat.le_trans z29 (Nat.le_of_eq W31.size.symm)
  have V31 : Arv Z h31 b1 k1 .byte (5 : Int32) [(.int (1 : Int32)), (.int (1 : Int32)), (.int u2), (.int u3), (.int u4)] (.int (0 : Int32)) := Arv.set Ar31 q31 S31 M31 H31 G31 (by decide) W31 1 (by decide) (Nat.le_of_ble_eq_true rfl)
  refine own_go st31 ?_
  show OwnGo p e below _ (T31.setTop (mkF m 11 #[.val (.ref aKEY_SHARE), .val (.ref b1), .val (.ref aFFDHE2048)] []))
  refine own_go (fun _ k => XS.aloadN X31.here hx rfl (hb hby d_prog_5_method_4_11) rfl rfl k) ?_
  show OwnGo p e below _ (T31.setTop (mkF m 12 #[.val (.ref aKEY_SHARE), .val (.ref b1), .val (.ref aFFDHE2048)] [(.ref b1)]))
  refine own_go (fun _ k => XS.iconst X31.here hx rfl (hb hby d_prog_5_method_4_12) k) ?_
  show OwnGo p e below _ (T31.setTop (mkF m 13 #[.val (.ref aKEY_SHARE), .val (.ref b1), .val (.ref aFFDHE2048)] [(.int (2 : Int32)), (.ref b1)]))
  refine own_go (fun _ k => XS.aloadN X31.here hx rfl (hb hby d_prog_5_method_4_13) rfl rfl k) ?_
  show OwnGo p e below _ (T31.setTop (mkF m 14 #[.val (.ref aKEY_SHARE), .val (.ref b1), .val (.ref aFFDHE2048)] [(.ref aFFDHE2048), (.int (2 : Int32)), (.ref b1)]))
  obtain ⟨cq33, kq33, qa33, qb33, qc33⟩ := isOf hZ e31 (F0.2.2.2.1.ext O31.2)
  obtain ⟨_, _, ⟨T33, L33, k33, n33⟩, -, X33, ⟨Lc33, hQ33, l33, y33, z33⟩, st33⟩ := X31.virtualBack hx (y := (⟨"com/example/portcullis/portcullis/Group", "id", "()B"⟩ : MethodName)) (z := (⟨"com/example/portcullis/portcullis/Group", "id", "()B"⟩ : MethodName)) hown (mvT hZ (hw _ (List.mem_of_getElem? (i := 14) rfl))) (mvT hZ (hw _ (List.mem_of_getElem? (i := 15) rfl))) (notFace_of_selects (args := #[]) (mvT hZ (hw _ (List.mem_of_getElem? (i := 17) rfl)))) (mvT hZ (hw _ (List.mem_of_getElem? (i := 17) rfl))) (mvT hZ (hw _ (List.mem_of_getElem? (i := 16) rfl))) (by decide) (backOf (W := 2) (rm_idaFFDHE2048 l Z a0 hw [] aKEY_SHARE aFFDHE2048 aFFDHE4096 aCONFIRMATION aFFDHE3072 F0 h31 n0 O31) hZ (hw _ (List.mem_of_getElem? (i := 18) rfl)) (hw _ (List.mem_of_getElem? (i := 4) rfl)) (by decide) (by decide)) qa33 qc33 (g := (mkF m 14 #[.val (.ref aKEY_SHARE), .val (.ref b1), .val (.ref aFFDHE2048)] [(.ref aFFDHE2048), (.int (2 : Int32)), (.ref b1)])) rfl (by rw [hml]; rfl) (Steps.refl _) (argsL := []) (rest := [(.int (2 : Int32)), (.ref b1)]) (lenOf pd___B rfl) rfl (by show 2 * 0 + _ ≤ _; exact Nat.le_of_eq rfl) (hb hby d_prog_5_method_4_14) (fun _ _ => ⟨rfl, e31, (by decide : 0 + 0 ≤ _), (by decide : 0 + 0 ≤ _)⟩)
  dsimp only [Pt.U, Pt.locs, Pt.cells, Pt.slots] at X33 l33 y33 z33 st33 hQ33
  subst l33 y33 z33
  obtain ⟨rfl, Nq33, K33⟩ := hQ33
  have N33 := Fr.app N31 Nq33
  refine own_go (fun _ k => st33.trans k) ?_
  show OwnGo p e below _ (T33.setTop (mkF m 17 #[.val (.ref aKEY_SHARE), .val (.ref b1), .val (.ref aFFDHE2048)] [(.int (1 : Int32)), (.int (2 : Int32)), (.ref b1)]))
  obtain ⟨c34, Ar34, q34, S34, M34, H34, G34⟩ := (id V31)
  obtain ⟨T34, h34, X34, e34, W34, st34⟩ := stB X33 hx hZ K33 Ar34 (j := (2 : Int32)) (inb_of S34 ⟨by decide, by decide⟩) (g := (mkF m 17 #[.val (.ref aKEY_SHARE), .val (.ref b1), .val (.ref aFFDHE2048)] [(.int (1 : Int32)), (.int (2 : Int32)), (.ref b1)])) rfl rfl (hb hby d_prog_5_method_4_17)
  rw [show nar .byte (1 : Int32) = (1 : Int32) from by decide] at W34
  have N34 := Fr.snoc X34 N33 geA
  have O34 := O31.wr W34 geA
  have z35 : h0.size ≤ h34.size := Nat.le_trans z32 (Nat.le_of_eq W34.size.symm)
  have V34 : Arv Z h34 b1 k1 .byte (5 : Int32) [(.int (1 : Int32)), (.int (1 : Int32)), (.int (1 : Int32)), (.int u3), (.int u4)] (.int (0 : Int32)) := Arv.set Ar34 q34 S34 M34 H34 G34 (by decide) W34 2 (by decide) (Nat.le_of_ble_eq_true rfl)
  refine own_go st34 ?_
  show OwnGo p e below _ (T34.setTop (mkF m 18 #[.val (.ref aKEY_SHARE), .val (.ref b1), .val (.ref aFFDHE2048)] []))
  obtain ⟨fs, hr, hrun, hended, hW, hsame⟩ := X34.leave (v := none) (fun h => rfl)
  refine ⟨_, _, X34.returnOut hx Bd.returns (hb hby d_prog_5_method_4_18) hr, hrun, hended, _, _, rfl, ?_, ⟨_, rfl⟩, hW, hsame.mono (by decide) (by decide)⟩
  show Q_wr_aKEY_SHARE_aFFDHE2048 Z aKEY_SHARE aFFDHE2048 aFFDHE4096 aCONFIRMATION aFFDHE3072 b1 k1 u0 u1 u2 u3 u4 h0 n0 _ T34.heap _
  rw [e34]
  exact ⟨rfl, N34, ((((Keep.refl _ [b1]).wr W28 (Or.inl (List.mem_of_getElem? (i := 0) rfl))).wr W31 (Or.inl (List.mem_of_getElem? (i := 0) rfl))).wr W34 (Or.inl (List.mem_of_getElem? (i := 0) rfl))), V34⟩
def Q_wr_aKEY_SHARE_aFFDHE3072 (Z : State) (aKEY_SHARE aFFDHE2048 aFFDHE4096 aCONFIRMATION aFFDHE3072 : Addr) (b1 : Addr) (k1 : ClassId) (u0 : Int32) (u1 : Int32) (u2 : Int32) (u3 : Int32) (u4 : Int32) (h0 : Heap) (n0 : Nat) (v : Option Value) (h : Heap) (L : List Loc) : Prop := v = none ∧ Fr n0 L ∧ Keep h0 h [b1] ∧ Arv Z h b1 k1 .byte (5 : Int32) [(.int (1 : Int32)), (.int (1 : Int32)), (.int (2 : Int32)), (.int u3), (.int u4)] (.int (0 : Int32))
theorem ef_wr_aKEY_SHARE_aFFDHE3072 (m : MethodId) (x0 : Addr) (x1 : Addr) (x2 : Addr) : entryFrame m #[(.ref x0), (.ref x1), (.ref x2)] 3 = mkF m 0 #[.val (.ref x0), .val (.ref x1), .val (.ref x2)] [] := by first | (simp [entryFrame, mkF, argsToLocals, Value.category]; done) | rfl
set_option maxRecDepth 65536 in
set_option maxHeartbeats 40000000 in
theorem rm_wr_aKEY_SHARE_aFFDHE3072 (l : Launch) (Z : State) (a0 : Array Value) (hw : ∀ d ∈ tables_1, d.before a0 Z = true) (ws : List Jvm.Cond) (aKEY_SHARE aFFDHE2048 aFFDHE4096 aCONFIRMATION aFFDHE3072 : Addr) (F0 : OwnFacts Z aKEY_SHARE aFFDHE2048 aFFDHE4096 aCONFIRMATION aFFDHE3072) (b1 : Addr) (k1 : ClassId) (u0 : Int32) (u1 : Int32) (u2 : Int32) (u3 : Int32) (u4 : Int32) (h0 : Heap) (n0 : Nat) (O0 : Old Z n0 h0) (VA : Arv Z h0 b1 k1 .byte (5 : Int32) [(.int u0), (.int u1), (.int u2), (.int u3), (.int u4)] (.int (0 : Int32))) (geA : n0 ≤ b1) :
    MetFree l (⟨"com/example/portcullis/portcullis/MessageType", "writeHeader", "([BLcom/example/portcullis/portcullis/Group;)V"⟩ : MethodName) (head1 (Jvm.Cond.code (⟨"com/example/portcullis/portcullis/MessageType", "writeHeader", "([BLcom/example/portcullis/portcullis/Group;)V"⟩ : MethodName) prog_5_method_4_code 3 none :: ws) ({ frames := 1, cells := 0, slots := 0, locals := 14 } : Room)) (fun a U => a = #[(.ref aKEY_SHARE), (.ref b1), (.ref aFFDHE3072)] ∧ Z.Warmed39 U.vm ∧ U.heap = h0) (fun _ _ _ _ _ => True) (fun _ U o U' => ∃ v L, o = .returned v ∧ Q_wr_aKEY_SHARE_aFFDHE3072 Z aKEY_SHARE aFFDHE2048 aFFDHE4096 aCONFIRMATION aFFDHE3072 b1 k1 u0 u1 u2 u3 u4 h0 n0 v U'.heap L ∧ FrameEnd U o U' L ({ frames := 1, cells := 0, slots := 0, locals := 14 } : Room).cells ({ frames := 1, cells := 0, slots := 0, locals := 14 } : Room).slots) := by
  refine MetFree.of_bodySF (plainFor_of_name pn_com_example_portcullis_portcullis_MessageType) hisR ?_
  intro p e s m args below meth c s₁ Bd hml0 hP hK
  obtain ⟨rfl, hZ, hh⟩ := hP
  have hx := Bd.exec
  have hby := Bd.bytes
  have hml : c.maxLocals = 3 := hml0
  have hown : s.vm.findClass "com/example/portcullis/portcullis/MessageType" = some m.cls := findClass_of_methodNamed Bd.named
  have hnm := (name_of_methodNamed Bd.named Bd.method).1
  have X0 : Stand p l e ({ frames := 1, cells := 0, slots := 0, locals := 14 } : Room) s m #[(.ref aKEY_SHARE), (.ref b1), (.ref aFFDHE3072)] below meth c s₁ [] 0 0 := Stand.of_body Bd
  have e0 : s₁.heap = h0 := by rw [← hh, Bd.state]; rfl
  have N0 := Fr.nil n0
  refine own_go (Q := fun o U' => ∃ v L, o = .returned v ∧ Q_wr_aKEY_SHARE_aFFDHE3072 Z aKEY_SHARE aFFDHE2048 aFFDHE4096 aCONFIRMATION aFFDHE3072 b1 k1 u0 u1 u2 u3 u4 h0 n0 v U'.heap L ∧ FrameEnd s o U' L ({ frames := 1, cells := 0, slots := 0, locals := 14 } : Room).cells ({ frames := 1, cells := 0, slots := 0, locals := 14 } : Room).slots) (fun t k => castTop (ef_wr_aKEY_SHARE_aFFDHE3072 m aKEY_SHARE b1 aFFDHE3072) k) ?_
  show OwnGo p e below _ (s₁.setTop (mkF m 0 #[.val (.ref aKEY_SHARE), .val (.ref b1), .val (.ref aFFDHE3072)] []))
  refine own_go (fun _ k => XS.aloadN X0.here hx rfl (hb hby d_prog_5_method_4_0) rfl rfl k) ?_
  show OwnGo p e below _ (s₁.setTop (mkF m 1 #[.val (.ref aKEY_SHARE), .val (.ref b1), .val (.ref aFFDHE3072)] [(.ref b1)]))
  refine own_go (fun _ k => XS.iconst X0.here hx rfl (hb hby d_prog_5_method_4_1) k) ?_
  show OwnGo p e below _ (s₁.setTop (mkF m 2 #[.val (.ref aKEY_SHARE), .val (.ref b1), .val (.ref aFFDHE3072)] [(.int (0 : Int32)), (.ref b1)]))
  refine own_go (fun _ k => XS.iconst X0.here hx rfl (hb hby d_prog_5_method_4_2) k) ?_
  show OwnGo p e below _ (s₁.setTop (mkF m 3 #[.val (.ref aKEY_SHARE), .val (.ref b1), .val (.ref aFFDHE3072)] [(.int (1 : Int32)), (.int (0 : Int32)), (.ref b1)]))
  obtain ⟨c36, Ar36, q36, S36, M36, H36, G36⟩ := (id VA)
  obtain ⟨T36, h36, X36, e36, W36, st36⟩ := stB X0 hx hZ e0 Ar36 (j := (0 : Int32)) (inb_of S36 ⟨by decide, by decide⟩) (g := (mkF m 3 #[.val (.ref aKEY_SHARE), .val (.ref b1), .val (.ref aFFDHE3072)] [(.int (1 : Int32)), (.int (0 : Int32)), (.ref b1)])) rfl rfl (hb hby d_prog_5_method_4_3)
  rw [show nar .byte (1 : Int32) = (1 : Int32) from by decide] at W36
  have N36 := Fr.snoc X36 N0 geA
  have O36 := O0.wr W36 geA
  have z37 : h0.size ≤ h36.size := Nat.le_trans (Nat.le_refl _) (Nat.le_of_eq W36.size.symm)
  have V36 : Arv Z h36 b1 k1 .byte (5 : Int32) [(.int (1 : Int32)), (.int u1), (.int u2), (.int u3), (.int u4)] (.int (0 : Int32)) := Arv.set Ar36 q36 S36 M36 H36 G36 (by decide) W36 0 (by decide) (Nat.le_of_ble_eq_true rfl)
  refine own_go st36 ?_
  show OwnGo p e below _ (T36.setTop (mkF m 4 #[.val (.ref aKEY_SHARE), .val (.ref b1), .val (.ref aFFDHE3072)] []))
  refine own_go (fun _ k => XS.aloadN X36.here hx rfl (hb hby d_prog_5_method_4_4) rfl rfl k) ?_
  show OwnGo p e below _ (T36.setTop (mkF m 5 #[.val (.ref aKEY_SHARE), .val (.ref b1), .val (.ref aFFDHE3072)] [(.ref b1)]))
  refine own_go (fun _ k => XS.iconst X36.here hx rfl (hb hby d_prog_5_method_4_5) k) ?_
  show OwnGo p e below _ (T36.setTop (mkF m 6 #[.val (.ref aKEY_SHARE), .val (.ref b1), .val (.ref aFFDHE3072)] [(.int (1 : Int32)), (.ref b1)]))
  refine own_go (fun _ k => XS.aloadN X36.here hx rfl (hb hby d_prog_5_method_4_6) rfl rfl k) ?_
  show OwnGo p e below _ (T36.setTop (mkF m 7 #[.val (.ref aKEY_SHARE), .val (.ref b1), .val (.ref aFFDHE3072)] [(.ref aKEY_SHARE), (.int (1 : Int32)), (.ref b1)]))
  obtain ⟨T38, X38, e38, st38⟩ := getF X36 hx hZ hown (host := "") (Or.inl (hw _ (List.mem_of_getElem? (i := 12) rfl))) Via.refl e36 (F0.2.2.2.2.1.ext O36.2) (g := (mkF m 7 #[.val (.ref aKEY_SHARE), .val (.ref b1), .val (.ref aFFDHE3072)] [(.ref aKEY_SHARE), (.int (1 : Int32)), (.ref b1)])) rfl rfl (hb hby d_prog_5_method_4_7)
  refine own_go st38 ?_
  show OwnGo p e below _ (T38.setTop (mkF m 10 #[.val (.ref aKEY_SHARE), .val (.ref b1), .val (.ref aFFDHE3072)] [(.int (1 : Int32)), (.int (1 : Int32)), (.ref b1)]))
  obtain ⟨c39, Ar39, q39, S39, M39, H39, G39⟩ := (id V36)
  obtain ⟨T39, h39, X39, e39, W39, st39⟩ := stB X38 hx hZ e38 Ar39 (j := (1 : Int32)) (inb_of S39 ⟨by decide, by decide⟩) (g := (mkF m 10 #[.val (.ref aKEY_SHARE), .val (.ref b1), .val (.ref aFFDHE3072)] [(.int (1 : Int32)), (.int (1 : Int32)), (.ref b1)])) rfl rfl (hb hby d_prog_5_method_4_10)
  rw [show nar .byte (1 : Int32) = (1 : Int32) from by decide] at W39
  have N39 := Fr.snoc X39 N36 geA
  have O39 := O36.wr W39 geA
  have z40 : h0.size ≤ h39.size := Nat.le_trans z37 (Nat.le_of_eq W39.size.symm)
  have V39 : Arv Z h39 b1 k1 .byte (5 : Int32) [(.int (1 : Int32)), (.int (1 : Int32)), (.int u2), (.int u3), (.int u4)] (.int (0 : Int32)) := Arv.set Ar39 q39 S39 M39 H39 G39 (by decide) W39 1 (by decide) (Nat.le_of_ble_eq_true rfl)
  refine own_go st39 ?_
  show OwnGo p e below _ (T39.setTop (mkF m 11 #[.val (.ref aKEY_SHARE), .val (.ref b1), .val (.ref aFFDHE3072)] []))
  refine own_go (fun _ k => XS.aloadN X39.here hx rfl (hb hby d_prog_5_method_4_11) rfl rfl k) ?_
  show OwnGo p e below _ (T39.setTop (mkF m 12 #[.val (.ref aKEY_SHARE), .val (.ref b1), .val (.ref aFFDHE3072)] [(.ref b1)]))
  refine own_go (fun _ k => XS.iconst X39.here hx rfl (hb hby d_prog_5_method_4_12) k) ?_
  show OwnGo p e below _ (T39.setTop (mkF m 13 #[.val (.ref aKEY_SHARE), .val (.ref b1), .val (.ref aFFDHE3072)] [(.int (2 : Int32)), (.ref b1)]))
  refine own_go (fun _ k => XS.aloadN X39.here hx rfl (hb hby d_prog_5_method_4_13) rfl rfl k) ?_
  show OwnGo p e below _ (T39.setTop (mkF m 14 #[.val (.ref aKEY_SHARE), .val (.ref b1), .val (.ref aFFDHE3072)] [(.ref aFFDHE3072), (.int (2 : Int32)), (.ref b1)]))
  obtain ⟨cq41, kq41, qa41, qb41, qc41⟩ := isOf hZ e39 (F0.2.2.2.2.2.2.2.2.2.2.2.2.1.ext O39.2)
  obtain ⟨_, _, ⟨T41, L41, k41, n41⟩, -, X41, ⟨Lc41, hQ41, l41, y41, z41⟩, st41⟩ := X39.virtualBack hx (y := (⟨"com/example/portcullis/portcullis/Group", "id", "()B"⟩ : MethodName)) (z := (⟨"com/example/portcullis/portcullis/Group", "id", "()B"⟩ : MethodName)) hown (mvT hZ (hw _ (List.mem_of_getElem? (i := 14) rfl))) (mvT hZ (hw _ (List.mem_of_getElem? (i := 15) rfl))) (notFace_of_selects (args := #[]) (mvT hZ (hw _ (List.mem_of_getElem? (i := 17) rfl)))) (mvT hZ (hw _ (List.mem_of_getElem? (i := 17) rfl))) (mvT hZ (hw _ (List.mem_of_getElem? (i := 16) rfl))) (by decide) (backOf (W := 2) (rm_idaFFDHE3072 l Z a0 hw [] aKEY_SHARE aFFDHE2048 aFFDHE4096 aCONFIRMATION aFFDHE3072 F0 h39 n0 O39) hZ (hw _ (List.mem_of_getElem? (i := 18) rfl)) (hw _ (List.mem_of_getElem? (i := 4) rfl)) (by decide) (by decide)) qa41 qc41 (g := (mkF m 14 #[.val (.ref aKEY_SHARE), .val (.ref b1), .val (.ref aFFDHE3072)] [(.ref aFFDHE3072), (.int (2 : Int32)), (.ref b1)])) rfl (by rw [hml]; rfl) (Steps.refl _) (argsL := []) (rest := [(.int (2 : Int32)), (.ref b1)]) (lenOf pd___B rfl) rfl (by show 2 * 0 + _ ≤ _; exact Nat.le_of_eq rfl) (hb hby d_prog_5_method_4_14) (fun _ _ => ⟨rfl, e39, (by decide : 0 + 0 ≤ _), (by decide : 0 + 0 ≤ _)⟩)
  dsimp only [Pt.U, Pt.locs, Pt.cells, Pt.slots] at X41 l41 y41 z41 st41 hQ41
  subst l41 y41 z41
  obtain ⟨rfl, Nq41, K41⟩ := hQ41
  have N41 := Fr.app N39 Nq41
  refine own_go (fun _ k => st41.trans k) ?_
  show OwnGo p e below _ (T41.setTop (mkF m 17 #[.val (.ref aKEY_SHARE), .val (.ref b1), .val (.ref aFFDHE3072)] [(.int (2 : Int32)), (.int (2 : Int32)), (.ref b1)]))
  obtain ⟨c42, Ar42, q42, S42, M42, H42, G42⟩ := (id V39)
  obtain ⟨T42, h42, X42, e42, W42, st42⟩ := stB X41 hx hZ K41 Ar42 (j := (2 : Int32)) (inb_of S42 ⟨by decide, by decide⟩) (g := (mkF m 17 #[.val (.ref aKEY_SHARE), .val (.ref b1), .val (.ref aFFDHE3072)] [(.int (2 : Int32)), (.int (2 : Int32)), (.ref b1)])) rfl rfl (hb hby d_prog_5_method_4_17)
  rw [show nar .byte (2 : Int32) = (2 : Int32) from by decide] at W42
  have N42 := Fr.snoc X42 N41 geA
  have O42 := O39.wr W42 geA
  have z43 : h0.size ≤ h42.size := Nat.le_trans z40 (Nat.le_of_eq W42.size.symm)
  have V42 : Arv Z h42 b1 k1 .byte (5 : Int32) [(.int (1 : Int32)), (.int (1 : Int32)), (.int (2 : Int32)), (.int u3), (.int u4)] (.int (0 : Int32)) := Arv.set Ar42 q42 S42 M42 H42 G42 (by decide) W42 2 (by decide) (Nat.le_of_ble_eq_true rfl)
  refine own_go st42 ?_
  show OwnGo p e below _ (T42.setTop (mkF m 18 #[.val (.ref aKEY_SHARE), .val (.ref b1), .val (.ref aFFDHE3072)] []))
  obtain ⟨fs, hr, hrun, hended, hW, hsame⟩ := X42.leave (v := none) (fun h => rfl)
  refine ⟨_, _, X42.returnOut hx Bd.returns (hb hby d_prog_5_method_4_18) hr, hrun, hended, _, _, rfl, ?_, ⟨_, rfl⟩, hW, hsame.mono (by decide) (by decide)⟩
  show Q_wr_aKEY_SHARE_aFFDHE3072 Z aKEY_SHARE aFFDHE2048 aFFDHE4096 aCONFIRMATION aFFDHE3072 b1 k1 u0 u1 u2 u3 u4 h0 n0 _ T42.heap _
  rw [e42]
  exact ⟨rfl, N42, ((((Keep.refl _ [b1]).wr W36 (Or.inl (List.mem_of_getElem? (i := 0) rfl))).wr W39 (Or.inl (List.mem_of_getElem? (i := 0) rfl))).wr W42 (Or.inl (List.mem_of_getElem? (i := 0) rfl))), V42⟩
def Q_wr_aKEY_SHARE_aFFDHE4096 (Z : State) (aKEY_SHARE aFFDHE2048 aFFDHE4096 aCONFIRMATION aFFDHE3072 : Addr) (b1 : Addr) (k1 : ClassId) (u0 : Int32) (u1 : Int32) (u2 : Int32) (u3 : Int32) (u4 : Int32) (h0 : Heap) (n0 : Nat) (v : Option Value) (h : Heap) (L : List Loc) : Prop := v = none ∧ Fr n0 L ∧ Keep h0 h [b1] ∧ Arv Z h b1 k1 .byte (5 : Int32) [(.int (1 : Int32)), (.int (1 : Int32)), (.int (3 : Int32)), (.int u3), (.int u4)] (.int (0 : Int32))
theorem ef_wr_aKEY_SHARE_aFFDHE4096 (m : MethodId) (x0 : Addr) (x1 : Addr) (x2 : Addr) : entryFrame m #[(.ref x0), (.ref x1), (.ref x2)] 3 = mkF m 0 #[.val (.ref x0), .val (.ref x1), .val (.ref x2)] [] := by first | (simp [entryFrame, mkF, argsToLocals, Value.category]; done) | rfl
set_option maxRecDepth 65536 in
set_option maxHeartbeats 40000000 in
theorem rm_wr_aKEY_SHARE_aFFDHE4096 (l : Launch) (Z : State) (a0 : Array Value) (hw : ∀ d ∈ tables_1, d.before a0 Z = true) (ws : List Jvm.Cond) (aKEY_SHARE aFFDHE2048 aFFDHE4096 aCONFIRMATION aFFDHE3072 : Addr) (F0 : OwnFacts Z aKEY_SHARE aFFDHE2048 aFFDHE4096 aCONFIRMATION aFFDHE3072) (b1 : Addr) (k1 : ClassId) (u0 : Int32) (u1 : Int32) (u2 : Int32) (u3 : Int32) (u4 : Int32) (h0 : Heap) (n0 : Nat) (O0 : Old Z n0 h0) (VA : Arv Z h0 b1 k1 .byte (5 : Int32) [(.int u0), (.int u1), (.int u2), (.int u3), (.int u4)] (.int (0 : Int32))) (geA : n0 ≤ b1) :
    MetFree l (⟨"com/example/portcullis/portcullis/MessageType", "writeHeader", "([BLcom/example/portcullis/portcullis/Group;)V"⟩ : MethodName) (head1 (Jvm.Cond.code (⟨"com/example/portcullis/portcullis/MessageType", "writeHeader", "([BLcom/example/portcullis/portcullis/Group;)V"⟩ : MethodName) prog_5_method_4_code 3 none :: ws) ({ frames := 1, cells := 0, slots := 0, locals := 14 } : Room)) (fun a U => a = #[(.ref aKEY_SHARE), (.ref b1), (.ref aFFDHE4096)] ∧ Z.Warmed39 U.vm ∧ U.heap = h0) (fun _ _ _ _ _ => True) (fun _ U o U' => ∃ v L, o = .returned v ∧ Q_wr_aKEY_SHARE_aFFDHE4096 Z aKEY_SHARE aFFDHE2048 aFFDHE4096 aCONFIRMATION aFFDHE3072 b1 k1 u0 u1 u2 u3 u4 h0 n0 v U'.heap L ∧ FrameEnd U o U' L ({ frames := 1, cells := 0, slots := 0, locals := 14 } : Room).cells ({ frames := 1, cells := 0, slots := 0, locals := 14 } : Room).slots) := by
  refine MetFree.of_bodySF (plainFor_of_name pn_com_example_portcullis_portcullis_MessageType) hisR ?_
  intro p e s m args below meth c s₁ Bd hml0 hP hK
  obtain ⟨rfl, hZ, hh⟩ := hP
  have hx := Bd.exec
  have hby := Bd.bytes
  have hml : c.maxLocals = 3 := hml0
  have hown : s.vm.findClass "com/example/portcullis/portcullis/MessageType" = some m.cls := findClass_of_methodNamed Bd.named
  have hnm := (name_of_methodNamed Bd.named Bd.method).1
  have X0 : Stand p l e ({ frames := 1, cells := 0, slots := 0, locals := 14 } : Room) s m #[(.ref aKEY_SHARE), (.ref b1), (.ref aFFDHE4096)] below meth c s₁ [] 0 0 := Stand.of_body Bd
  have e0 : s₁.heap = h0 := by rw [← hh, Bd.state]; rfl
  have N0 := Fr.nil n0
  refine own_go (Q := fun o U' => ∃ v L, o = .returned v ∧ Q_wr_aKEY_SHARE_aFFDHE4096 Z aKEY_SHARE aFFDHE2048 aFFDHE4096 aCONFIRMATION aFFDHE3072 b1 k1 u0 u1 u2 u3 u4 h0 n0 v U'.heap L ∧ FrameEnd s o U' L ({ frames := 1, cells := 0, slots := 0, locals := 14 } : Room).cells ({ frames := 1, cells := 0, slots := 0, locals := 14 } : Room).slots) (fun t k => castTop (ef_wr_aKEY_SHARE_aFFDHE4096 m aKEY_SHARE b1 aFFDHE4096) k) ?_
  show OwnGo p e below _ (s₁.setTop (mkF m 0 #[.val (.ref aKEY_SHARE), .val (.ref b1), .val (.ref aFFDHE4096)] []))
  refine own_go (fun _ k => XS.aloadN X0.here hx rfl (hb hby d_prog_5_method_4_0) rfl rfl k) ?_
  show OwnGo p e below _ (s₁.setTop (mkF m 1 #[.val (.ref aKEY_SHARE), .val (.ref b1), .val (.ref aFFDHE4096)] [(.ref b1)]))
  refine own_go (fun _ k => XS.iconst X0.here hx rfl (hb hby d_prog_5_method_4_1) k) ?_
  show OwnGo p e below _ (s₁.setTop (mkF m 2 #[.val (.ref aKEY_SHARE), .val (.ref b1), .val (.ref aFFDHE4096)] [(.int (0 : Int32)), (.ref b1)]))
  refine own_go (fun _ k => XS.iconst X0.here hx rfl (hb hby d_prog_5_method_4_2) k) ?_
  show OwnGo p e below _ (s₁.setTop (mkF m 3 #[.val (.ref aKEY_SHARE), .val (.ref b1), .val (.ref aFFDHE4096)] [(.int (1 : Int32)), (.int (0 : Int32)), (.ref b1)]))
  obtain ⟨c44, Ar44, q44, S44, M44, H44, G44⟩ := (id VA)
  obtain ⟨T44, h44, X44, e44, W44, st44⟩ := stB X0 hx hZ e0 Ar44 (j := (0 : Int32)) (inb_of S44 ⟨by decide, by decide⟩) (g := (mkF m 3 #[.val (.ref aKEY_SHARE), .val (.ref b1), .val (.ref aFFDHE4096)] [(.int (1 : Int32)), (.int (0 : Int32)), (.ref b1)])) rfl rfl (hb hby d_prog_5_method_4_3)
  rw [show nar .byte (1 : Int32) = (1 : Int32) from by decide] at W44
  have N44 := Fr.snoc X44 N0 geA
  have O44 := O0.wr W44 geA
  have z45 : h0.size ≤ h44.size := Nat.le_trans (Nat.le_refl _) (Nat.le_of_eq W44.size.symm)
  have V44 : Arv Z h44 b1 k1 .byte (5 : Int32) [(.int (1 : Int32)), (.int u1), (.int u2), (.int u3), (.int u4)] (.int (0 : Int32)) := Arv.set Ar44 q44 S44 M44 H44 G44 (by decide) W44 0 (by decide) (Nat.le_of_ble_eq_true rfl)
  refine own_go st44 ?_
  show OwnGo p e below _ (T44.setTop (mkF m 4 #[.val (.ref aKEY_SHARE), .val (.ref b1), .val (.ref aFFDHE4096)] []))
  refine own_go (fun _ k => XS.aloadN X44.here hx rfl (hb hby d_prog_5_method_4_4) rfl rfl k) ?_
  show OwnGo p e below _ (T44.setTop (mkF m 5 #[.val (.ref aKEY_SHARE), .val (.ref b1), .val (.ref aFFDHE4096)] [(.ref b1)]))
  refine own_go (fun _ k => XS.iconst X44.here hx rfl (hb hby d_prog_5_method_4_5) k) ?_
  show OwnGo p e below _ (T44.setTop (mkF m 6 #[.val (.ref aKEY_SHARE), .val (.ref b1), .val (.ref aFFDHE4096)] [(.int (1 : Int32)), (.ref b1)]))
  refine own_go (fun _ k => XS.aloadN X44.here hx rfl (hb hby d_prog_5_method_4_6) rfl rfl k) ?_
  show OwnGo p e below _ (T44.setTop (mkF m 7 #[.val (.ref aKEY_SHARE), .val (.ref b1), .val (.ref aFFDHE4096)] [(.ref aKEY_SHARE), (.int (1 : Int32)), (.ref b1)]))
  obtain ⟨T46, X46, e46, st46⟩ := getF X44 hx hZ hown (host := "") (Or.inl (hw _ (List.mem_of_getElem? (i := 12) rfl))) Via.refl e44 (F0.2.2.2.2.1.ext O44.2) (g := (mkF m 7 #[.val (.ref aKEY_SHARE), .val (.ref b1), .val (.ref aFFDHE4096)] [(.ref aKEY_SHARE), (.int (1 : Int32)), (.ref b1)])) rfl rfl (hb hby d_prog_5_method_4_7)
  refine own_go st46 ?_
  show OwnGo p e below _ (T46.setTop (mkF m 10 #[.val (.ref aKEY_SHARE), .val (.ref b1), .val (.ref aFFDHE4096)] [(.int (1 : Int32)), (.int (1 : Int32)), (.ref b1)]))
  obtain ⟨c47, Ar47, q47, S47, M47, H47, G47⟩ := (id V44)
  obtain ⟨T47, h47, X47, e47, W47, st47⟩ := stB X46 hx hZ e46 Ar47 (j := (1 : Int32)) (inb_of S47 ⟨by decide, by decide⟩) (g := (mkF m 10 #[.val (.ref aKEY_SHARE), .val (.ref b1), .val (.ref aFFDHE4096)] [(.int (1 : Int32)), (.int (1 : Int32)), (.ref b1)])) rfl rfl (hb hby d_prog_5_method_4_10)
  rw [show nar .byte (1 : Int32) = (1 : Int32) from by decide] at W47
  have N47 := Fr.snoc X47 N44 geA
  have O47 := O44.wr W47 geA
  have z48 : h0.size ≤ h47.size := Nat.le_trans z45 (Nat.le_of_eq W47.size.symm)
  have V47 : Arv Z h47 b1 k1 .byte (5 : Int32) [(.int (1 : Int32)), (.int (1 : Int32)), (.int u2), (.int u3), (.int u4)] (.int (0 : Int32)) := Arv.set Ar47 q47 S47 M47 H47 G47 (by decide) W47 1 (by decide) (Nat.le_of_ble_eq_true rfl)
  refine own_go st47 ?_
  show OwnGo p e below _ (T47.setTop (mkF m 11 #[.val (.ref aKEY_SHARE), .val (.ref b1), .val (.ref aFFDHE4096)] []))
  refine own_go (fun _ k => XS.aloadN X47.here hx rfl (hb hby d_prog_5_method_4_11) rfl rfl k) ?_
  show OwnGo p e below _ (T47.setTop (mkF m 12 #[.val (.ref aKEY_SHARE), .val (.ref b1), .val (.ref aFFDHE4096)] [(.ref b1)]))
  refine own_go (fun _ k => XS.iconst X47.here hx rfl (hb hby d_prog_5_method_4_12) k) ?_
  show OwnGo p e below _ (T47.setTop (mkF m 13 #[.val (.ref aKEY_SHARE), .val (.ref b1), .val (.ref aFFDHE4096)] [(.int (2 : Int32)), (.ref b1)]))
  refine own_go (fun _ k => XS.aloadN X47.here hx rfl (hb hby d_prog_5_method_4_13) rfl rfl k) ?_
  show OwnGo p e below _ (T47.setTop (mkF m 14 #[.val (.ref aKEY_SHARE), .val (.ref b1), .val (.ref aFFDHE4096)] [(.ref aFFDHE4096), (.int (2 : Int32)), (.ref b1)]))
  obtain ⟨cq49, kq49, qa49, qb49, qc49⟩ := isOf hZ e47 (F0.2.2.2.2.2.2.2.1.ext O47.2)
  obtain ⟨_, _, ⟨T49, L49, k49, n49⟩, -, X49, ⟨Lc49, hQ49, l49, y49, z49⟩, st49⟩ := X47.virtualBack hx (y := (⟨"com/example/portcullis/portcullis/Group", "id", "()B"⟩ : MethodName)) (z := (⟨"com/example/portcullis/portcullis/Group", "id", "()B"⟩ : MethodName)) hown (mvT hZ (hw _ (List.mem_of_getElem? (i := 14) rfl))) (mvT hZ (hw _ (List.mem_of_getElem? (i := 15) rfl))) (notFace_of_selects (args := #[]) (mvT hZ (hw _ (List.mem_of_getElem? (i := 17) rfl)))) (mvT hZ (hw _ (List.mem_of_getElem? (i := 17) rfl))) (mvT hZ (hw _ (List.mem_of_getElem? (i := 16) rfl))) (by decide) (backOf (W := 2) (rm_idaFFDHE4096 l Z a0 hw [] aKEY_SHARE aFFDHE2048 aFFDHE4096 aCONFIRMATION aFFDHE3072 F0 h47 n0 O47) hZ (hw _ (List.mem_of_getElem? (i := 18) rfl)) (hw _ (List.mem_of_getElem? (i := 4) rfl)) (by decide) (by decide)) qa49 qc49 (g := (mkF m 14 #[.val (.ref aKEY_SHARE), .val (.ref b1), .val (.ref aFFDHE4096)] [(.ref aFFDHE4096), (.int (2 : Int32)), (.ref b1)])) rfl (by rw [hml]; rfl) (Steps.refl _) (argsL := []) (rest := [(.int (2 : Int32)), (.ref b1)]) (lenOf pd___B rfl) rfl (by show 2 * 0 + _ ≤ _; exact Nat.le_of_eq rfl) (hb hby d_prog_5_method_4_14) (fun _ _ => ⟨rfl, e47, (by decide : 0 + 0 ≤ _), (by decide : 0 + 0 ≤ _)⟩)
  dsimp only [Pt.U, Pt.locs, Pt.cells, Pt.slots] at X49 l49 y49 z49 st49 hQ49
  subst l49 y49 z49
  obtain ⟨rfl, Nq49, K49⟩ := hQ49
  have N49 := Fr.app N47 Nq49
  refine own_go (fun _ k => st49.trans k) ?_
  show OwnGo p e below _ (T49.setTop (mkF m 17 #[.val (.ref aKEY_SHARE), .val (.ref b1), .val (.ref aFFDHE4096)] [(.int (3 : Int32)), (.int (2 : Int32)), (.ref b1)]))
  obtain ⟨c50, Ar50, q50, S50, M50, H50, G50⟩ := (id V47)
  obtain ⟨T50, h50, X50, e50, W50, st50⟩ := stB X49 hx hZ K49 Ar50 (j := (2 : Int32)) (inb_of S50 ⟨by decide, by decide⟩) (g := (mkF m 17 #[.val (.ref aKEY_SHARE), .val (.ref b1), .val (.ref aFFDHE4096)] [(.int (3 : Int32)), (.int (2 : Int32)), (.ref b1)])) rfl rfl (hb hby d_prog_5_method_4_17)
  rw [show nar .byte (3 : Int32) = (3 : Int32) from by decide] at W50
  have N50 := Fr.snoc X50 N49 geA
  have O50 := O47.wr W50 geA
  have z51 : h0.size ≤ h50.size := Nat.le_trans z48 (Nat.le_of_eq W50.size.symm)
  have V50 : Arv Z h50 b1 k1 .byte (5 : Int32) [(.int (1 : Int32)), (.int (1 : Int32)), (.int (3 : Int32)), (.int u3), (.int u4)] (.int (0 : Int32)) := Arv.set Ar50 q50 S50 M50 H50 G50 (by decide) W50 2 (by decide) (Nat.le_of_ble_eq_true rfl)
  refine own_go st50 ?_
  show OwnGo p e below _ (T50.setTop (mkF m 18 #[.val (.ref aKEY_SHARE), .val (.ref b1), .val (.ref aFFDHE4096)] []))
  obtain ⟨fs, hr, hrun, hended, hW, hsame⟩ := X50.leave (v := none) (fun h => rfl)
  refine ⟨_, _, X50.returnOut hx Bd.returns (hb hby d_prog_5_method_4_18) hr, hrun, hended, _, _, rfl, ?_, ⟨_, rfl⟩, hW, hsame.mono (by decide) (by decide)⟩
  show Q_wr_aKEY_SHARE_aFFDHE4096 Z aKEY_SHARE aFFDHE2048 aFFDHE4096 aCONFIRMATION aFFDHE3072 b1 k1 u0 u1 u2 u3 u4 h0 n0 _ T50.heap _
  rw [e50]
  exact ⟨rfl, N50, ((((Keep.refl _ [b1]).wr W44 (Or.inl (List.mem_of_getElem? (i := 0) rfl))).wr W47 (Or.inl (List.mem_of_getElem? (i := 0) rfl))).wr W50 (Or.inl (List.mem_of_getElem? (i := 0) rfl))), V50⟩
theorem pd__B_Lcom_example_portcullis_portcullis_Group___V : parseMethodDescriptor "([BLcom/example/portcullis/portcullis/Group;)V" = some ⟨[(.array .byte), (.object "com/example/portcullis/portcullis/Group")], none⟩ := by decide +kernel
theorem pn_com_example_portcullis_portcullis_MessageTypeWriteHeaderPinLaw : plainName "com/example/portcullis/portcullis/MessageTypeWriteHeaderPinLaw" = true := by first | (simp [plainName, overriddenIn]; done) | decide +kernel
def Q_law (Z : State) (aKEY_SHARE aFFDHE2048 aFFDHE4096 aCONFIRMATION aFFDHE3072 : Addr) (p0 : Int32) (p1 : Int32) (p2 : Int32) (p3 : Int32) (p4 : Int32) (p5 : Int32) (h0 : Heap) (n0 : Nat) (v : Option Value) (h : Heap) (L : List Loc) : Prop := v = some (.int (1 : Int32)) ∧ Fr n0 L
theorem ef_law (m : MethodId) (x0 : Int32) (x1 : Int32) (x2 : Int32) (x3 : Int32) (x4 : Int32) (x5 : Int32) : entryFrame m #[(.int x0), (.int x1), (.int x2), (.int x3), (.int x4), (.int x5)] maxLocals = mkF m 0 #[.val (.int x0), .val (.int x1), .val (.int x2), .val (.int x3), .val (.int x4), .val (.int x5), .unset, .unset, .unset, .unset, .unset, .unset, .unset] [] := by first | (simp [entryFrame, mkF, argsToLocals, Value.category, maxLocals]; done) | rfl
set_option maxRecDepth 65536 in
set_option maxHeartbeats 40000000 in
theorem rm_law (l : Launch) (Z : State) (a0 : Array Value) (hw : ∀ d ∈ tables_1, d.before a0 Z = true) (ws : List Jvm.Cond) (aKEY_SHARE aFFDHE2048 aFFDHE4096 aCONFIRMATION aFFDHE3072 : Addr) (F0 : OwnFacts Z aKEY_SHARE aFFDHE2048 aFFDHE4096 aCONFIRMATION aFFDHE3072) (p0 : Int32) (p1 : Int32) (p2 : Int32) (p3 : Int32) (p4 : Int32) (p5 : Int32) (h0 : Heap) (n0 : Nat) (O0 : Old Z n0 h0) :
    MetFree l x (head1 (Jvm.Cond.code x code maxLocals ret :: ws) room_1) (fun a U => a = #[(.int p0), (.int p1), (.int p2), (.int p3), (.int p4), (.int p5)] ∧ Z.Warmed39 U.vm ∧ U.heap = h0) (fun _ _ _ _ _ => True) (fun _ U o U' => ∃ v L, o = .returned v ∧ Q_law Z aKEY_SHARE aFFDHE2048 aFFDHE4096 aCONFIRMATION aFFDHE3072 p0 p1 p2 p3 p4 p5 h0 n0 v U'.heap L ∧ FrameEnd U o U' L 1 5) := by
  refine MetFree.of_bodySF (plainFor_of_name pn_com_example_portcullis_portcullis_MessageTypeWriteHeaderPinLaw) hisR ?_
  intro p e s m args below meth c s₁ Bd hml0 hP hK
  obtain ⟨rfl, hZ, hh⟩ := hP
  have hx := Bd.exec
  have hby := Bd.bytes
  have hml : c.maxLocals = 13 := hml0
  have hown : s.vm.findClass "com/example/portcullis/portcullis/MessageTypeWriteHeaderPinLaw" = some m.cls := findClass_of_methodNamed Bd.named
  have hnm := (name_of_methodNamed Bd.named Bd.method).1
  have X0 : Stand p l e room_1 s m #[(.int p0), (.int p1), (.int p2), (.int p3), (.int p4), (.int p5)] below meth c s₁ [] 0 0 := Stand.of_body Bd
  have e0 : s₁.heap = h0 := by rw [← hh, Bd.state]; rfl
  have N0 := Fr.nil n0
  refine own_go (Q := fun o U' => ∃ v L, o = .returned v ∧ Q_law Z aKEY_SHARE aFFDHE2048 aFFDHE4096 aCONFIRMATION aFFDHE3072 p0 p1 p2 p3 p4 p5 h0 n0 v U'.heap L ∧ FrameEnd s o U' L 1 5) (fun t k => castTop (ef_law m p0 p1 p2 p3 p4 p5) k) ?_
  show OwnGo p e below _ (s₁.setTop (mkF m 0 #[.val (.int p0), .val (.int p1), .val (.int p2), .val (.int p3), .val (.int p4), .val (.int p5), .unset, .unset, .unset, .unset, .unset, .unset, .unset] []))
  refine own_go (fun _ k => XS.iloadN X0.here hx rfl (hb hby at_0) rfl k) ?_
  show OwnGo p e below _ (s₁.setTop (mkF m 1 #[.val (.int p0), .val (.int p1), .val (.int p2), .val (.int p3), .val (.int p4), .val (.int p5), .unset, .unset, .unset, .unset, .unset, .unset, .unset] [(.int p0)]))
  refine own_go (fun _ k => XS.iconst X0.here hx rfl (hb hby at_1) k) ?_
  show OwnGo p e below _ (s₁.setTop (mkF m 2 #[.val (.int p0), .val (.int p1), .val (.int p2), .val (.int p3), .val (.int p4), .val (.int p5), .unset, .unset, .unset, .unset, .unset, .unset, .unset] [(.int (1 : Int32)), (.int p0)]))
  refine own_go (fun _ k => XS.iand X0.here hx rfl (hb hby at_2) rfl k) ?_
  show OwnGo p e below _ (s₁.setTop (mkF m 3 #[.val (.int p0), .val (.int p1), .val (.int p2), .val (.int p3), .val (.int p4), .val (.int p5), .unset, .unset, .unset, .unset, .unset, .unset, .unset] [(.int (p0 &&& (1 : Int32)))]))
  by_cases hc52 : (p0 &&& (1 : Int32)) = (0 : Int32)
  · refine own_go (fun _ k => XS.ifYes X0.here hx rfl (pc0 := 3) (pc' := 10) rfl (hb hby at_3) rfl ((if0 _ _).trans (teq hc52).1) (by decide) (by decide) k) ?_
    show OwnGo p e below _ (s₁.setTop (mkF m 10 #[.val (.int p0), .val (.int p1), .val (.int p2), .val (.int p3), .val (.int p4), .val (.int p5), .unset, .unset, .unset, .unset, .unset, .unset, .unset] []))
    refine own_go (fun _ k => XS.iconst X0.here hx rfl (hb hby at_10) k) ?_
    show OwnGo p e below _ (s₁.setTop (mkF m 11 #[.val (.int p0), .val (.int p1), .val (.int p2), .val (.int p3), .val (.int p4), .val (.int p5), .unset, .unset, .unset, .unset, .unset, .unset, .unset] [(.int (0 : Int32))]))
    refine own_go (fun _ k => XS.istore X0.here hx rfl (hb hby at_11) rfl (l' := #[.val (.int p0), .val (.int p1), .val (.int p2), .val (.int p3), .val (.int p4), .val (.int p5), .val (.int (0 : Int32)), .unset, .unset, .unset, .unset, .unset, .unset]) rfl k) ?_
    show OwnGo p e below _ (s₁.setTop (mkF m 13 #[.val (.int p0), .val (.int p1), .val (.int p2), .val (.int p3), .val (.int p4), .val (.int p5), .val (.int (0 : Int32)), .unset, .unset, .unset, .unset, .unset, .unset] []))
    refine own_go (fun _ k => XS.iload X0.here hx rfl (hb hby at_13) rfl k) ?_
    show OwnGo p e below _ (s₁.setTop (mkF m 15 #[.val (.int p0), .val (.int p1), .val (.int p2), .val (.int p3), .val (.int p4), .val (.int p5), .val (.int (0 : Int32)), .unset, .unset, .unset, .unset, .unset, .unset] [(.int (0 : Int32))]))
    refine own_go (fun _ k => XS.ifYes X0.here hx rfl (pc0 := 15) (pc' := 24) rfl (hb hby at_15) rfl (by decide) (by decide) (by decide) k) ?_
    show OwnGo p e below _ (s₁.setTop (mkF m 24 #[.val (.int p0), .val (.int p1), .val (.int p2), .val (.int p3), .val (.int p4), .val (.int p5), .val (.int (0 : Int32)), .unset, .unset, .unset, .unset, .unset, .unset] []))
    obtain ⟨T53, X53, e53, st53⟩ := getS X0 hx hZ hown (host := "") (hw _ (List.mem_of_getElem? (i := 0) rfl)) Via.refl e0 (F0.1.ext O0.2) (g := (mkF m 24 #[.val (.int p0), .val (.int p1), .val (.int p2), .val (.int p3), .val (.int p4), .val (.int p5), .val (.int (0 : Int32)), .unset, .unset, .unset, .unset, .unset, .unset] [])) rfl (hb hby at_24)
    refine own_go st53 ?_
    show OwnGo p e below _ (T53.setTop (mkF m 27 #[.val (.int p0), .val (.int p1), .val (.int p2), .val (.int p3), .val (.int p4), .val (.int p5), .val (.int (0 : Int32)), .unset, .unset, .unset, .unset, .unset, .unset] [(.ref aKEY_SHARE)]))
    refine own_go (fun _ k => XS.astore X53.here hx rfl (hb hby at_27) rfl rfl (l' := #[.val (.int p0), .val (.int p1), .val (.int p2), .val (.int p3), .val (.int p4), .val (.int p5), .val (.int (0 : Int32)), .val (.ref aKEY_SHARE), .unset, .unset, .unset, .unset, .unset]) rfl k) ?_
    show OwnGo p e below _ (T53.setTop (mkF m 29 #[.val (.int p0), .val (.int p1), .val (.int p2), .val (.int p3), .val (.int p4), .val (.int p5), .val (.int (0 : Int32)), .val (.ref aKEY_SHARE), .unset, .unset, .unset, .unset, .unset] []))
    refine own_go (fun _ k => XS.iload X53.here hx rfl (hb hby at_29) rfl k) ?_
    show OwnGo p e below _ (T53.setTop (mkF m 31 #[.val (.int p0), .val (.int p1), .val (.int p2), .val (.int p3), .val (.int p4), .val (.int p5), .val (.int (0 : Int32)), .val (.ref aKEY_SHARE), .unset, .unset, .unset, .unset, .unset] [(.int (0 : Int32))]))
    refine own_go (fun _ k => XS.ifYes X53.here hx rfl (pc0 := 31) (pc' := 38) rfl (hb hby at_31) rfl (by decide) (by decide) (by decide) k) ?_
    show OwnGo p e below _ (T53.setTop (mkF m 38 #[.val (.int p0), .val (.int p1), .val (.int p2), .val (.int p3), .val (.int p4), .val (.int p5), .val (.int (0 : Int32)), .val (.ref aKEY_SHARE), .unset, .unset, .unset, .unset, .unset] []))
    refine own_go (fun _ k => XS.iconst X53.here hx rfl (hb hby at_38) k) ?_
    show OwnGo p e below _ (T53.setTop (mkF m 39 #[.val (.int p0), .val (.int p1), .val (.int p2), .val (.int p3), .val (.int p4), .val (.int p5), .val (.int (0 : Int32)), .val (.ref aKEY_SHARE), .unset, .unset, .unset, .unset, .unset] [(.int (1 : Int32))]))
    refine own_go (fun _ k => XS.istore X53.here hx rfl (hb hby at_39) rfl (l' := #[.val (.int p0), .val (.int p1), .val (.int p2), .val (.int p3), .val (.int p4), .val (.int p5), .val (.int (0 : Int32)), .val (.ref aKEY_SHARE), .val (.int (1 : Int32)), .unset, .unset, .unset, .unset]) rfl k) ?_
    show OwnGo p e below _ (T53.setTop (mkF m 41 #[.val (.int p0), .val (.int p1), .val (.int p2), .val (.int p3), .val (.int p4), .val (.int p5), .val (.int (0 : Int32)), .val (.ref aKEY_SHARE), .val (.int (1 : Int32)), .unset, .unset, .unset, .unset] []))
    refine own_go (fun _ k => XS.iloadN X53.here hx rfl (hb hby at_41) rfl k) ?_
    show OwnGo p e below _ (T53.setTop (mkF m 42 #[.val (.int p0), .val (.int p1), .val (.int p2), .val (.int p3), .val (.int p4), .val (.int p5), .val (.int (0 : Int32)), .val (.ref aKEY_SHARE), .val (.int (1 : Int32)), .unset, .unset, .unset, .unset] [(.int p0)]))
    refine own_go (fun _ k => XS.iconst X53.here hx rfl (hb hby at_42) k) ?_
    show OwnGo p e below _ (T53.setTop (mkF m 43 #[.val (.int p0), .val (.int p1), .val (.int p2), .val (.int p3), .val (.int p4), .val (.int p5), .val (.int (0 : Int32)), .val (.ref aKEY_SHARE), .val (.int (1 : Int32)), .unset, .unset, .unset, .unset] [(.int (1 : Int32)), (.int p0)]))
    refine own_go (fun _ k => XS.iushr X53.here hx rfl (hb hby at_43) rfl k) ?_
    show OwnGo p e below _ (T53.setTop (mkF m 44 #[.val (.int p0), .val (.int p1), .val (.int p2), .val (.int p3), .val (.int p4), .val (.int p5), .val (.int (0 : Int32)), .val (.ref aKEY_SHARE), .val (.int (1 : Int32)), .unset, .unset, .unset, .unset] [(.int (((p0).toUInt32 >>> ((1 : Int32) &&& 31).toUInt32).toInt32))]))
    refine own_go (fun _ k => XS.iconst X53.here hx rfl (hb hby at_44) k) ?_
    show OwnGo p e below _ (T53.setTop (mkF m 45 #[.val (.int p0), .val (.int p1), .val (.int p2), .val (.int p3), .val (.int p4), .val (.int p5), .val (.int (0 : Int32)), .val (.ref aKEY_SHARE), .val (.int (1 : Int32)), .unset, .unset, .unset, .unset] [(.int (3 : Int32)), (.int (((p0).toUInt32 >>> ((1 : Int32) &&& 31).toUInt32).toInt32))]))
    refine own_go (fun _ k => iremM X53 hx rfl (hb hby at_45) rfl (by decide) k) ?_
    show OwnGo p e below _ (T53.setTop (mkF m 46 #[.val (.int p0), .val (.int p1), .val (.int p2), .val (.int p3), .val (.int p4), .val (.int p5), .val (.int (0 : Int32)), .val (.ref aKEY_SHARE), .val (.int (1 : Int32)), .unset, .unset, .unset, .unset] [(.int ((((p0).toUInt32 >>> ((1 : Int32) &&& 31).toUInt32).toInt32) % (3 : Int32)))]))
    refine own_go (fun _ k => XS.istore X53.here hx rfl (hb hby at_46) rfl (l' := #[.val (.int p0), .val (.int p1), .val (.int p2), .val (.int p3), .val (.int p4), .val (.int p5), .val (.int (0 : Int32)), .val (.ref aKEY_SHARE), .val (.int (1 : Int32)), .val (.int ((((p0).toUInt32 >>> ((1 : Int32) &&& 31).toUInt32).toInt32) % (3 : Int32))), .unset, .unset, .unset]) rfl k) ?_
    show OwnGo p e below _ (T53.setTop (mkF m 48 #[.val (.int p0), .val (.int p1), .val (.int p2), .val (.int p3), .val (.int p4), .val (.int p5), .val (.int (0 : Int32)), .val (.ref aKEY_SHARE), .val (.int (1 : Int32)), .val (.int ((((p0).toUInt32 >>> ((1 : Int32) &&& 31).toUInt32).toInt32) % (3 : Int32))), .unset, .unset, .unset] []))
    refine own_go (fun _ k => XS.iload X53.here hx rfl (hb hby at_48) rfl k) ?_
    show OwnGo p e below _ (T53.setTop (mkF m 50 #[.val (.int p0), .val (.int p1), .val (.int p2), .val (.int p3), .val (.int p4), .val (.int p5), .val (.int (0 : Int32)), .val (.ref aKEY_SHARE), .val (.int (1 : Int32)), .val (.int ((((p0).toUInt32 >>> ((1 : Int32) &&& 31).toUInt32).toInt32) % (3 : Int32))), .unset, .unset, .unset] [(.int ((((p0).toUInt32 >>> ((1 : Int32) &&& 31).toUInt32).toInt32) % (3 : Int32)))]))
    by_cases hc54 : ((((p0).toUInt32 >>> ((1 : Int32) &&& 31).toUInt32).toInt32) % (3 : Int32)) = (0 : Int32)
    · refine own_go (fun _ k => XS.ifNo X53.here hx rfl (hb hby at_50) rfl ((if0 _ _).trans (teq hc54).2) k) ?_
      show OwnGo p e below _ (T53.setTop (mkF m 53 #[.val (.int p0), .val (.int p1), .val (.int p2), .val (.int p3), .val (.int p4), .val (.int p5), .val (.int (0 : Int32)), .val (.ref aKEY_SHARE), .val (.int (1 : Int32)), .val (.int ((((p0).toUInt32 >>> ((1 : Int32) &&& 31).toUInt32).toInt32) % (3 : Int32))), .unset, .unset, .unset] []))
      obtain ⟨T55, X55, e55, st55⟩ := getS X53 hx hZ hown (host := "") (hw _ (List.mem_of_getElem? (i := 3) rfl)) Via.refl e53 (F0.2.2.1.ext O0.2) (g := (mkF m 53 #[.val (.int p0), .val (.int p1), .val (.int p2), .val (.int p3), .val (.int p4), .val (.int p5), .val (.int (0 : Int32)), .val (.ref aKEY_SHARE), .val (.int (1 : Int32)), .val (.int ((((p0).toUInt32 >>> ((1 : Int32) &&& 31).toUInt32).toInt32) % (3 : Int32))), .unset, .unset, .unset] [])) rfl (hb hby at_53)
      refine own_go st55 ?_
      show OwnGo p e below _ (T55.setTop (mkF m 56 #[.val (.int p0), .val (.int p1), .val (.int p2), .val (.int p3), .val (.int p4), .val (.int p5), .val (.int (0 : Int32)), .val (.ref aKEY_SHARE), .val (.int (1 : Int32)), .val (.int ((((p0).toUInt32 >>> ((1 : Int32) &&& 31).toUInt32).toInt32) % (3 : Int32))), .unset, .unset, .unset] [(.ref aFFDHE2048)]))
      refine own_go (fun _ k => XS.astore X55.here hx rfl (hb hby at_56) rfl rfl (l' := #[.val (.int p0), .val (.int p1), .val (.int p2), .val (.int p3), .val (.int p4), .val (.int p5), .val (.int (0 : Int32)), .val (.ref aKEY_SHARE), .val (.int (1 : Int32)), .val (.int ((((p0).toUInt32 >>> ((1 : Int32) &&& 31).toUInt32).toInt32) % (3 : Int32))), .val (.ref aFFDHE2048), .unset, .unset]) rfl k) ?_
      show OwnGo p e below _ (T55.setTop (mkF m 58 #[.val (.int p0), .val (.int p1), .val (.int p2), .val (.int p3), .val (.int p4), .val (.int p5), .val (.int (0 : Int32)), .val (.ref aKEY_SHARE), .val (.int (1 : Int32)), .val (.int ((((p0).toUInt32 >>> ((1 : Int32) &&& 31).toUInt32).toInt32) % (3 : Int32))), .val (.ref aFFDHE2048), .unset, .unset] []))
      refine own_go (fun _ k => XS.iconst X55.here hx rfl (hb hby at_58) k) ?_
      show OwnGo p e below _ (T55.setTop (mkF m 59 #[.val (.int p0), .val (.int p1), .val (.int p2), .val (.int p3), .val (.int p4), .val (.int p5), .val (.int (0 : Int32)), .val (.ref aKEY_SHARE), .val (.int (1 : Int32)), .val (.int ((((p0).toUInt32 >>> ((1 : Int32) &&& 31).toUInt32).toInt32) % (3 : Int32))), .val (.ref aFFDHE2048), .unset, .unset] [(.int (1 : Int32))]))
      refine own_go (fun _ k => XS.istore X55.here hx rfl (hb hby at_59) rfl (l' := #[.val (.int p0), .val (.int p1), .val (.int p2), .val (.int p3), .val (.int p4), .val (.int p5), .val (.int (0 : Int32)), .val (.ref aKEY_SHARE), .val (.int (1 : Int32)), .val (.int ((((p0).toUInt32 >>> ((1 : Int32) &&& 31).toUInt32).toInt32) % (3 : Int32))), .val (.ref aFFDHE2048), .val (.int (1 : Int32)), .unset]) rfl k) ?_
      show OwnGo p e below _ (T55.setTop (mkF m 61 #[.val (.int p0), .val (.int p1), .val (.int p2), .val (.int p3), .val (.int p4), .val (.int p5), .val (.int (0 : Int32)), .val (.ref aKEY_SHARE), .val (.int (1 : Int32)), .val (.int ((((p0).toUInt32 >>> ((1 : Int32) &&& 31).toUInt32).toInt32) % (3 : Int32))), .val (.ref aFFDHE2048), .val (.int (1 : Int32)), .unset] []))
      refine own_go (fun _ k => XS.goto X55.here hx rfl (pc0 := 61) (pc' := 89) rfl (hb hby at_61) (by decide) (by decide) k) ?_
      show OwnGo p e below _ (T55.setTop (mkF m 89 #[.val (.int p0), .val (.int p1), .val (.int p2), .val (.int p3), .val (.int p4), .val (.int p5), .val (.int (0 : Int32)), .val (.ref aKEY_SHARE), .val (.int (1 : Int32)), .val (.int ((((p0).toUInt32 >>> ((1 : Int32) &&& 31).toUInt32).toInt32) % (3 : Int32))), .val (.ref aFFDHE2048), .val (.int (1 : Int32)), .unset] []))
      refine own_go (fun _ k => XS.iconst X55.here hx rfl (hb hby at_89) k) ?_
      show OwnGo p e below _ (T55.setTop (mkF m 90 #[.val (.int p0), .val (.int p1), .val (.int p2), .val (.int p3), .val (.int p4), .val (.int p5), .val (.int (0 : Int32)), .val (.ref aKEY_SHARE), .val (.int (1 : Int32)), .val (.int ((((p0).toUInt32 >>> ((1 : Int32) &&& 31).toUInt32).toInt32) % (3 : Int32))), .val (.ref aFFDHE2048), .val (.int (1 : Int32)), .unset] [(.int (5 : Int32))]))
      obtain ⟨T56, h56, k56, X56, e56, E56, A56, st56⟩ := newP X55 hx hZ (hw _ (List.mem_of_getElem? (i := 6) rfl)) e55 (g := (mkF m 90 #[.val (.int p0), .val (.int p1), .val (.int p2), .val (.int p3), .val (.int p4), .val (.int p5), .val (.int (0 : Int32)), .val (.ref aKEY_SHARE), .val (.int (1 : Int32)), .val (.int ((((p0).toUInt32 >>> ((1 : Int32) &&& 31).toUInt32).toInt32) % (3 : Int32))), .val (.ref aFFDHE2048), .val (.int (1 : Int32)), .unset] [(.int (5 : Int32))])) rfl (hb hby at_90) rfl (by decide) (cap := 5) (by decide) (by decide) (by decide) (by decide)
      obtain ⟨a56, g56⟩ : ∃ z, z = h0.size := ⟨_, rfl⟩
      rw [← g56] at A56 st56
      have ge56 : n0 ≤ a56 := Nat.le_trans (own_sz O0) (Nat.le_of_eq g56.symm)
      have gh56 : h0.size ≤ a56 := Nat.le_trans (Nat.le_refl _) (Nat.le_of_eq g56.symm)
      have O56 := O0.ext E56
      have z57 : h0.size ≤ h56.size := Nat.le_trans (Nat.le_refl _) E56.1
      have V56 : Arv Z h56 a56 k56 .byte (5 : Int32) [(.int (0 : Int32)), (.int (0 : Int32)), (.int (0 : Int32)), (.int (0 : Int32)), (.int (0 : Int32))] (.int (0 : Int32)) := (Arv.new A56 (by decide)).pad (pad_rep [] _ 5)
      refine own_go st56 ?_
      show OwnGo p e below _ (T56.setTop (mkF m 92 #[.val (.int p0), .val (.int p1), .val (.int p2), .val (.int p3), .val (.int p4), .val (.int p5), .val (.int (0 : Int32)), .val (.ref aKEY_SHARE), .val (.int (1 : Int32)), .val (.int ((((p0).toUInt32 >>> ((1 : Int32) &&& 31).toUInt32).toInt32) % (3 : Int32))), .val (.ref aFFDHE2048), .val (.int (1 : Int32)), .unset] [(.ref a56)]))
      refine own_go (fun _ k => XS.astore X56.here hx rfl (hb hby at_92) rfl rfl (l' := #[.val (.int p0), .val (.int p1), .val (.int p2), .val (.int p3), .val (.int p4), .val (.int p5), .val (.int (0 : Int32)), .val (.ref aKEY_SHARE), .val (.int (1 : Int32)), .val (.int ((((p0).toUInt32 >>> ((1 : Int32) &&& 31).toUInt32).toInt32) % (3 : Int32))), .val (.ref aFFDHE2048), .val (.int (1 : Int32)), .val (.ref a56)]) rfl k) ?_
      show OwnGo p e below _ (T56.setTop (mkF m 94 #[.val (.int p0), .val (.int p1), .val (.int p2), .val (.int p3), .val (.int p4), .val (.int p5), .val (.int (0 : Int32)), .val (.ref aKEY_SHARE), .val (.int (1 : Int32)), .val (.int ((((p0).toUInt32 >>> ((1 : Int32) &&& 31).toUInt32).toInt32) % (3 : Int32))), .val (.ref aFFDHE2048), .val (.int (1 : Int32)), .val (.ref a56)] []))
      refine own_go (fun _ k => XS.aload X56.here hx rfl (hb hby at_94) rfl rfl k) ?_
      show OwnGo p e below _ (T56.setTop (mkF m 96 #[.val (.int p0), .val (.int p1), .val (.int p2), .val (.int p3), .val (.int p4), .val (.int p5), .val (.int (0 : Int32)), .val (.ref aKEY_SHARE), .val (.int (1 : Int32)), .val (.int ((((p0).toUInt32 >>> ((1 : Int32) &&& 31).toUInt32).toInt32) % (3 : Int32))), .val (.ref aFFDHE2048), .val (.int (1 : Int32)), .val (.ref a56)] [(.ref a56)]))
      refine own_go (fun _ k => XS.iconst X56.here hx rfl (hb hby at_96) k) ?_
      show OwnGo p e below _ (T56.setTop (mkF m 97 #[.val (.int p0), .val (.int p1), .val (.int p2), .val (.int p3), .val (.int p4), .val (.int p5), .val (.int (0 : Int32)), .val (.ref aKEY_SHARE), .val (.int (1 : Int32)), .val (.int ((((p0).toUInt32 >>> ((1 : Int32) &&& 31).toUInt32).toInt32) % (3 : Int32))), .val (.ref aFFDHE2048), .val (.int (1 : Int32)), .val (.ref a56)] [(.int (0 : Int32)), (.ref a56)]))
      refine own_go (fun _ k => XS.iloadN X56.here hx rfl (hb hby at_97) rfl k) ?_
      show OwnGo p e below _ (T56.setTop (mkF m 98 #[.val (.int p0), .val (.int p1), .val (.int p2), .val (.int p3), .val (.int p4), .val (.int p5), .val (.int (0 : Int32)), .val (.ref aKEY_SHARE), .val (.int (1 : Int32)), .val (.int ((((p0).toUInt32 >>> ((1 : Int32) &&& 31).toUInt32).toInt32) % (3 : Int32))), .val (.ref aFFDHE2048), .val (.int (1 : Int32)), .val (.ref a56)] [(.int p1), (.int (0 : Int32)), (.ref a56)]))
      refine own_go (fun _ k => XS.i2b X56.here hx rfl (hb hby at_98) rfl k) ?_
      show OwnGo p e below _ (T56.setTop (mkF m 99 #[.val (.int p0), .val (.int p1), .val (.int p2), .val (.int p3), .val (.int p4), .val (.int p5), .val (.int (0 : Int32)), .val (.ref aKEY_SHARE), .val (.int (1 : Int32)), .val (.int ((((p0).toUInt32 >>> ((1 : Int32) &&& 31).toUInt32).toInt32) % (3 : Int32))), .val (.ref aFFDHE2048), .val (.int (1 : Int32)), .val (.ref a56)] [(.int ((p1).toInt8.toInt32)), (.int (0 : Int32)), (.ref a56)]))
      obtain ⟨c58, Ar58, q58, S58, M58, H58, G58⟩ := (id V56)
      obtain ⟨T58, h58, X58, e58, W58, st58⟩ := stB X56 hx hZ e56 Ar58 (j := (0 : Int32)) (inb_of S58 ⟨by decide, by decide⟩) (g := (mkF m 99 #[.val (.int p0), .val (.int p1), .val (.int p2), .val (.int p3), .val (.int p4), .val (.int p5), .val (.int (0 : Int32)), .val (.ref aKEY_SHARE), .val (.int (1 : Int32)), .val (.int ((((p0).toUInt32 >>> ((1 : Int32) &&& 31).toUInt32).toInt32) % (3 : Int32))), .val (.ref aFFDHE2048), .val (.int (1 : Int32)), .val (.ref a56)] [(.int ((p1).toInt8.toInt32)), (.int (0 : Int32)), (.ref a56)])) rfl rfl (hb hby at_99)
      rw [own_narb] at W58
      have N58 := Fr.snoc X58 N0 ge56
      have O58 := O56.wr W58 ge56
      have z59 : h0.size ≤ h58.size := Nat.le_trans z57 (Nat.le_of_eq W58.size.symm)
      have V58 : Arv Z h58 a56 k56 .byte (5 : Int32) [(.int ((p1).toInt8.toInt32)), (.int (0 : Int32)), (.int (0 : Int32)), (.int (0 : Int32)), (.int (0 : Int32))] (.int (0 : Int32)) := Arv.set Ar58 q58 S58 M58 H58 G58 (fits_nar_byte _) W58 0 (by decide) (Nat.le_of_ble_eq_true rfl)
      refine own_go st58 ?_
      show OwnGo p e below _ (T58.setTop (mkF m 100 #[.val (.int p0), .val (.int p1), .val (.int p2), .val (.int p3), .val (.int p4), .val (.int p5), .val (.int (0 : Int32)), .val (.ref aKEY_SHARE), .val (.int (1 : Int32)), .val (.int ((((p0).toUInt32 >>> ((1 : Int32) &&& 31).toUInt32).toInt32) % (3 : Int32))), .val (.ref aFFDHE2048), .val (.int (1 : Int32)), .val (.ref a56)] []))
      refine own_go (fun _ k => XS.aload X58.here hx rfl (hb hby at_100) rfl rfl k) ?_
      show OwnGo p e below _ (T58.setTop (mkF m 102 #[.val (.int p0), .val (.int p1), .val (.int p2), .val (.int p3), .val (.int p4), .val (.int p5), .val (.int (0 : Int32)), .val (.ref aKEY_SHARE), .val (.int (1 : Int32)), .val (.int ((((p0).toUInt32 >>> ((1 : Int32) &&& 31).toUInt32).toInt32) % (3 : Int32))), .val (.ref aFFDHE2048), .val (.int (1 : Int32)), .val (.ref a56)] [(.ref a56)]))
      refine own_go (fun _ k => XS.iconst X58.here hx rfl (hb hby at_102) k) ?_
      show OwnGo p e below _ (T58.setTop (mkF m 103 #[.val (.int p0), .val (.int p1), .val (.int p2), .val (.int p3), .val (.int p4), .val (.int p5), .val (.int (0 : Int32)), .val (.ref aKEY_SHARE), .val (.int (1 : Int32)), .val (.int ((((p0).toUInt32 >>> ((1 : Int32) &&& 31).toUInt32).toInt32) % (3 : Int32))), .val (.ref aFFDHE2048), .val (.int (1 : Int32)), .val (.ref a56)] [(.int (1 : Int32)), (.ref a56)]))
      refine own_go (fun _ k => XS.iloadN X58.here hx rfl (hb hby at_103) rfl k) ?_
      show OwnGo p e below _ (T58.setTop (mkF m 104 #[.val (.int p0), .val (.int p1), .val (.int p2), .val (.int p3), .val (.int p4), .val (.int p5), .val (.int (0 : Int32)), .val (.ref aKEY_SHARE), .val (.int (1 : Int32)), .val (.int ((((p0).toUInt32 >>> ((1 : Int32) &&& 31).toUInt32).toInt32) % (3 : Int32))), .val (.ref aFFDHE2048), .val (.int (1 : Int32)), .val (.ref a56)] [(.int p2), (.int (1 : Int32)), (.ref a56)]))
      refine own_go (fun _ k => XS.i2b X58.here hx rfl (hb hby at_104) rfl k) ?_
      show OwnGo p e below _ (T58.setTop (mkF m 105 #[.val (.int p0), .val (.int p1), .val (.int p2), .val (.int p3), .val (.int p4), .val (.int p5), .val (.int (0 : Int32)), .val (.ref aKEY_SHARE), .val (.int (1 : Int32)), .val (.int ((((p0).toUInt32 >>> ((1 : Int32) &&& 31).toUInt32).toInt32) % (3 : Int32))), .val (.ref aFFDHE2048), .val (.int (1 : Int32)), .val (.ref a56)] [(.int ((p2).toInt8.toInt32)), (.int (1 : Int32)), (.ref a56)]))
      obtain ⟨c60, Ar60, q60, S60, M60, H60, G60⟩ := (id V58)
      obtain ⟨T60, h60, X60, e60, W60, st60⟩ := stB X58 hx hZ e58 Ar60 (j := (1 : Int32)) (inb_of S60 ⟨by decide, by decide⟩) (g := (mkF m 105 #[.val (.int p0), .val (.int p1), .val (.int p2), .val (.int p3), .val (.int p4), .val (.int p5), .val (.int (0 : Int32)), .val (.ref aKEY_SHARE), .val (.int (1 : Int32)), .val (.int ((((p0).toUInt32 >>> ((1 : Int32) &&& 31).toUInt32).toInt32) % (3 : Int32))), .val (.ref aFFDHE2048), .val (.int (1 : Int32)), .val (.ref a56)] [(.int ((p2).toInt8.toInt32)), (.int (1 : Int32)), (.ref a56)])) rfl rfl (hb hby at_105)
      rw [own_narb] at W60
      have N60 := Fr.snoc X60 N58 ge56
      have O60 := O58.wr W60 ge56
      have z61 : h0.size ≤ h60.size := Nat.le_trans z59 (Nat.le_of_eq W60.size.symm)
      have V60 : Arv Z h60 a56 k56 .byte (5 : Int32) [(.int ((p1).toInt8.toInt32)), (.int ((p2).toInt8.toInt32)), (.int (0 : Int32)), (.int (0 : Int32)), (.int (0 : Int32))] (.int (0 : Int32)) := Arv.set Ar60 q60 S60 M60 H60 G60 (fits_nar_byte _) W60 1 (by decide) (Nat.le_of_ble_eq_true rfl)
      refine own_go st60 ?_
      show OwnGo p e below _ (T60.setTop (mkF m 106 #[.val (.int p0), .val (.int p1), .val (.int p2), .val (.int p3), .val (.int p4), .val (.int p5), .val (.int (0 : Int32)), .val (.ref aKEY_SHARE), .val (.int (1 : Int32)), .val (.int ((((p0).toUInt32 >>> ((1 : Int32) &&& 31).toUInt32).toInt32) % (3 : Int32))), .val (.ref aFFDHE2048), .val (.int (1 : Int32)), .val (.ref a56)] []))
      refine own_go (fun _ k => XS.aload X60.here hx rfl (hb hby at_106) rfl rfl k) ?_
      show OwnGo p e below _ (T60.setTop (mkF m 108 #[.val (.int p0), .val (.int p1), .val (.int p2), .val (.int p3), .val (.int p4), .val (.int p5), .val (.int (0 : Int32)), .val (.ref aKEY_SHARE), .val (.int (1 : Int32)), .val (.int ((((p0).toUInt32 >>> ((1 : Int32) &&& 31).toUInt32).toInt32) % (3 : Int32))), .val (.ref aFFDHE2048), .val (.int (1 : Int32)), .val (.ref a56)] [(.ref a56)]))
      refine own_go (fun _ k => XS.iconst X60.here hx rfl (hb hby at_108) k) ?_
      show OwnGo p e below _ (T60.setTop (mkF m 109 #[.val (.int p0), .val (.int p1), .val (.int p2), .val (.int p3), .val (.int p4), .val (.int p5), .val (.int (0 : Int32)), .val (.ref aKEY_SHARE), .val (.int (1 : Int32)), .val (.int ((((p0).toUInt32 >>> ((1 : Int32) &&& 31).toUInt32).toInt32) % (3 : Int32))), .val (.ref aFFDHE2048), .val (.int (1 : Int32)), .val (.ref a56)] [(.int (2 : Int32)), (.ref a56)]))
      refine own_go (fun _ k => XS.iloadN X60.here hx rfl (hb hby at_109) rfl k) ?_
      show OwnGo p e below _ (T60.setTop (mkF m 110 #[.val (.int p0), .val (.int p1), .val (.int p2), .val (.int p3), .val (.int p4), .val (.int p5), .val (.int (0 : Int32)), .val (.ref aKEY_SHARE), .val (.int (1 : Int32)), .val (.int ((((p0).toUInt32 >>> ((1 : Int32) &&& 31).toUInt32).toInt32) % (3 : Int32))), .val (.ref aFFDHE2048), .val (.int (1 : Int32)), .val (.ref a56)] [(.int p3), (.int (2 : Int32)), (.ref a56)]))
      refine own_go (fun _ k => XS.i2b X60.here hx rfl (hb hby at_110) rfl k) ?_
      show OwnGo p e below _ (T60.setTop (mkF m 111 #[.val (.int p0), .val (.int p1), .val (.int p2), .val (.int p3), .val (.int p4), .val (.int p5), .val (.int (0 : Int32)), .val (.ref aKEY_SHARE), .val (.int (1 : Int32)), .val (.int ((((p0).toUInt32 >>> ((1 : Int32) &&& 31).toUInt32).toInt32) % (3 : Int32))), .val (.ref aFFDHE2048), .val (.int (1 : Int32)), .val (.ref a56)] [(.int ((p3).toInt8.toInt32)), (.int (2 : Int32)), (.ref a56)]))
      obtain ⟨c62, Ar62, q62, S62, M62, H62, G62⟩ := (id V60)
      obtain ⟨T62, h62, X62, e62, W62, st62⟩ := stB X60 hx hZ e60 Ar62 (j := (2 : Int32)) (inb_of S62 ⟨by decide, by decide⟩) (g := (mkF m 111 #[.val (.int p0), .val (.int p1), .val (.int p2), .val (.int p3), .val (.int p4), .val (.int p5), .val (.int (0 : Int32)), .val (.ref aKEY_SHARE), .val (.int (1 : Int32)), .val (.int ((((p0).toUInt32 >>> ((1 : Int32) &&& 31).toUInt32).toInt32) % (3 : Int32))), .val (.ref aFFDHE2048), .val (.int (1 : Int32)), .val (.ref a56)] [(.int ((p3).toInt8.toInt32)), (.int (2 : Int32)), (.ref a56)])) rfl rfl (hb hby at_111)
      rw [own_narb] at W62
      have N62 := Fr.snoc X62 N60 ge56
      have O62 := O60.wr W62 ge56
      have z63 : h0.size ≤ h62.size := Nat.le_trans z61 (Nat.le_of_eq W62.size.symm)
      have V62 : Arv Z h62 a56 k56 .byte (5 : Int32) [(.int ((p1).toInt8.toInt32)), (.int ((p2).toInt8.toInt32)), (.int ((p3).toInt8.toInt32)), (.int (0 : Int32)), (.int (0 : Int32))] (.int (0 : Int32)) := Arv.set Ar62 q62 S62 M62 H62 G62 (fits_nar_byte _) W62 2 (by decide) (Nat.le_of_ble_eq_true rfl)
      refine own_go st62 ?_
      show OwnGo p e below _ (T62.setTop (mkF m 112 #[.val (.int p0), .val (.int p1), .val (.int p2), .val (.int p3), .val (.int p4), .val (.int p5), .val (.int (0 : Int32)), .val (.ref aKEY_SHARE), .val (.int (1 : Int32)), .val (.int ((((p0).toUInt32 >>> ((1 : Int32) &&& 31).toUInt32).toInt32) % (3 : Int32))), .val (.ref aFFDHE2048), .val (.int (1 : Int32)), .val (.ref a56)] []))
      refine own_go (fun _ k => XS.aload X62.here hx rfl (hb hby at_112) rfl rfl k) ?_
      show OwnGo p e below _ (T62.setTop (mkF m 114 #[.val (.int p0), .val (.int p1), .val (.int p2), .val (.int p3), .val (.int p4), .val (.int p5), .val (.int (0 : Int32)), .val (.ref aKEY_SHARE), .val (.int (1 : Int32)), .val (.int ((((p0).toUInt32 >>> ((1 : Int32) &&& 31).toUInt32).toInt32) % (3 : Int32))), .val (.ref aFFDHE2048), .val (.int (1 : Int32)), .val (.ref a56)] [(.ref a56)]))
      refine own_go (fun _ k => XS.iconst X62.here hx rfl (hb hby at_114) k) ?_
      show OwnGo p e below _ (T62.setTop (mkF m 115 #[.val (.int p0), .val (.int p1), .val (.int p2), .val (.int p3), .val (.int p4), .val (.int p5), .val (.int (0 : Int32)), .val (.ref aKEY_SHARE), .val (.int (1 : Int32)), .val (.int ((((p0).toUInt32 >>> ((1 : Int32) &&& 31).toUInt32).toInt32) % (3 : Int32))), .val (.ref aFFDHE2048), .val (.int (1 : Int32)), .val (.ref a56)] [(.int (3 : Int32)), (.ref a56)]))
      refine own_go (fun _ k => XS.iload X62.here hx rfl (hb hby at_115) rfl k) ?_
      show OwnGo p e below _ (T62.setTop (mkF m 117 #[.val (.int p0), .val (.int p1), .val (.int p2), .val (.int p3), .val (.int p4), .val (.int p5), .val (.int (0 : Int32)), .val (.ref aKEY_SHARE), .val (.int (1 : Int32)), .val (.int ((((p0).toUInt32 >>> ((1 : Int32) &&& 31).toUInt32).toInt32) % (3 : Int32))), .val (.ref aFFDHE2048), .val (.int (1 : Int32)), .val (.ref a56)] [(.int p4), (.int (3 : Int32)), (.ref a56)]))
      refine own_go (fun _ k => XS.i2b X62.here hx rfl (hb hby at_117) rfl k) ?_
      show OwnGo p e below _ (T62.setTop (mkF m 118 #[.val (.int p0), .val (.int p1), .val (.int p2), .val (.int p3), .val (.int p4), .val (.int p5), .val (.int (0 : Int32)), .val (.ref aKEY_SHARE), .val (.int (1 : Int32)), .val (.int ((((p0).toUInt32 >>> ((1 : Int32) &&& 31).toUInt32).toInt32) % (3 : Int32))), .val (.ref aFFDHE2048), .val (.int (1 : Int32)), .val (.ref a56)] [(.int ((p4).toInt8.toInt32)), (.int (3 : Int32)), (.ref a56)]))
      obtain ⟨c64, Ar64, q64, S64, M64, H64, G64⟩ := (id V62)
      obtain ⟨T64, h64, X64, e64, W64, st64⟩ := stB X62 hx hZ e62 Ar64 (j := (3 : Int32)) (inb_of S64 ⟨by decide, by decide⟩) (g := (mkF m 118 #[.val (.int p0), .val (.int p1), .val (.int p2), .val (.int p3), .val (.int p4), .val (.int p5), .val (.int (0 : Int32)), .val (.ref aKEY_SHARE), .val (.int (1 : Int32)), .val (.int ((((p0).toUInt32 >>> ((1 : Int32) &&& 31).toUInt32).toInt32) % (3 : Int32))), .val (.ref aFFDHE2048), .val (.int (1 : Int32)), .val (.ref a56)] [(.int ((p4).toInt8.toInt32)), (.int (3 : Int32)), (.ref a56)])) rfl rfl (hb hby at_118)
      rw [own_narb] at W64
      have N64 := Fr.snoc X64 N62 ge56
      have O64 := O62.wr W64 ge56
      have z65 : h0.size ≤ h64.size := Nat.le_trans z63 (Nat.le_of_eq W64.size.symm)
      have V64 : Arv Z h64 a56 k56 .byte (5 : Int32) [(.int ((p1).toInt8.toInt32)), (.int ((p2).toInt8.toInt32)), (.int ((p3).toInt8.toInt32)), (.int ((p4).toInt8.toInt32)), (.int (0 : Int32))] (.int (0 : Int32)) := Arv.set Ar64 q64 S64 M64 H64 G64 (fits_nar_byte _) W64 3 (by decide) (Nat.le_of_ble_eq_true rfl)
      refine own_go st64 ?_
      show OwnGo p e below _ (T64.setTop (mkF m 119 #[.val (.int p0), .val (.int p1), .val (.int p2), .val (.int p3), .val (.int p4), .val (.int p5), .val (.int (0 : Int32)), .val (.ref aKEY_SHARE), .val (.int (1 : Int32)), .val (.int ((((p0).toUInt32 >>> ((1 : Int32) &&& 31).toUInt32).toInt32) % (3 : Int32))), .val (.ref aFFDHE2048), .val (.int (1 : Int32)), .val (.ref a56)] []))
      refine own_go (fun _ k => XS.aload X64.here hx rfl (hb hby at_119) rfl rfl k) ?_
      show OwnGo p e below _ (T64.setTop (mkF m 121 #[.val (.int p0), .val (.int p1), .val (.int p2), .val (.int p3), .val (.int p4), .val (.int p5), .val (.int (0 : Int32)), .val (.ref aKEY_SHARE), .val (.int (1 : Int32)), .val (.int ((((p0).toUInt32 >>> ((1 : Int32) &&& 31).toUInt32).toInt32) % (3 : Int32))), .val (.ref aFFDHE2048), .val (.int (1 : Int32)), .val (.ref a56)] [(.ref a56)]))
      refine own_go (fun _ k => XS.iconst X64.here hx rfl (hb hby at_121) k) ?_
      show OwnGo p e below _ (T64.setTop (mkF m 122 #[.val (.int p0), .val (.int p1), .val (.int p2), .val (.int p3), .val (.int p4), .val (.int p5), .val (.int (0 : Int32)), .val (.ref aKEY_SHARE), .val (.int (1 : Int32)), .val (.int ((((p0).toUInt32 >>> ((1 : Int32) &&& 31).toUInt32).toInt32) % (3 : Int32))), .val (.ref aFFDHE2048), .val (.int (1 : Int32)), .val (.ref a56)] [(.int (4 : Int32)), (.ref a56)]))
      refine own_go (fun _ k => XS.iload X64.here hx rfl (hb hby at_122) rfl k) ?_
      show OwnGo p e below _ (T64.setTop (mkF m 124 #[.val (.int p0), .val (.int p1), .val (.int p2), .val (.int p3), .val (.int p4), .val (.int p5), .val (.int (0 : Int32)), .val (.ref aKEY_SHARE), .val (.int (1 : Int32)), .val (.int ((((p0).toUInt32 >>> ((1 : Int32) &&& 31).toUInt32).toInt32) % (3 : Int32))), .val (.ref aFFDHE2048), .val (.int (1 : Int32)), .val (.ref a56)] [(.int p5), (.int (4 : Int32)), (.ref a56)]))
      refine own_go (fun _ k => XS.i2b X64.here hx rfl (hb hby at_124) rfl k) ?_
      show OwnGo p e below _ (T64.setTop (mkF m 125 #[.val (.int p0), .val (.int p1), .val (.int p2), .val (.int p3), .val (.int p4), .val (.int p5), .val (.int (0 : Int32)), .val (.ref aKEY_SHARE), .val (.int (1 : Int32)), .val (.int ((((p0).toUInt32 >>> ((1 : Int32) &&& 31).toUInt32).toInt32) % (3 : Int32))), .val (.ref aFFDHE2048), .val (.int (1 : Int32)), .val (.ref a56)] [(.int ((p5).toInt8.toInt32)), (.int (4 : Int32)), (.ref a56)]))
      obtain ⟨c66, Ar66, q66, S66, M66, H66, G66⟩ := (id V64)
      obtain ⟨T66, h66, X66, e66, W66, st66⟩ := stB X64 hx hZ e64 Ar66 (j := (4 : Int32)) (inb_of S66 ⟨by decide, by decide⟩) (g := (mkF m 125 #[.val (.int p0), .val (.int p1), .val (.int p2), .val (.int p3), .val (.int p4), .val (.int p5), .val (.int (0 : Int32)), .val (.ref aKEY_SHARE), .val (.int (1 : Int32)), .val (.int ((((p0).toUInt32 >>> ((1 : Int32) &&& 31).toUInt32).toInt32) % (3 : Int32))), .val (.ref aFFDHE2048), .val (.int (1 : Int32)), .val (.ref a56)] [(.int ((p5).toInt8.toInt32)), (.int (4 : Int32)), (.ref a56)])) rfl rfl (hb hby at_125)
      rw [own_narb] at W66
      have N66 := Fr.snoc X66 N64 ge56
      have O66 := O64.wr W66 ge56
      have z67 : h0.size ≤ h66.size := Nat.le_trans z65 (Nat.le_of_eq W66.size.symm)
      have V66 : Arv Z h66 a56 k56 .byte (5 : Int32) [(.int ((p1).toInt8.toInt32)), (.int ((p2).toInt8.toInt32)), (.int ((p3).toInt8.toInt32)), (.int ((p4).toInt8.toInt32)), (.int ((p5).toInt8.toInt32))] (.int (0 : Int32)) := Arv.set Ar66 q66 S66 M66 H66 G66 (fits_nar_byte _) W66 4 (by decide) (Nat.le_of_ble_eq_true rfl)
      refine own_go st66 ?_
      show OwnGo p e below _ (T66.setTop (mkF m 126 #[.val (.int p0), .val (.int p1), .val (.int p2), .val (.int p3), .val (.int p4), .val (.int p5), .val (.int (0 : Int32)), .val (.ref aKEY_SHARE), .val (.int (1 : Int32)), .val (.int ((((p0).toUInt32 >>> ((1 : Int32) &&& 31).toUInt32).toInt32) % (3 : Int32))), .val (.ref aFFDHE2048), .val (.int (1 : Int32)), .val (.ref a56)] []))
      refine own_go (fun _ k => XS.aload X66.here hx rfl (hb hby at_126) rfl rfl k) ?_
      show OwnGo p e below _ (T66.setTop (mkF m 128 #[.val (.int p0), .val (.int p1), .val (.int p2), .val (.int p3), .val (.int p4), .val (.int p5), .val (.int (0 : Int32)), .val (.ref aKEY_SHARE), .val (.int (1 : Int32)), .val (.int ((((p0).toUInt32 >>> ((1 : Int32) &&& 31).toUInt32).toInt32) % (3 : Int32))), .val (.ref aFFDHE2048), .val (.int (1 : Int32)), .val (.ref a56)] [(.ref aKEY_SHARE)]))
      refine own_go (fun _ k => XS.aload X66.here hx rfl (hb hby at_128) rfl rfl k) ?_
      show OwnGo p e below _ (T66.setTop (mkF m 130 #[.val (.int p0), .val (.int p1), .val (.int p2), .val (.int p3), .val (.int p4), .val (.int p5), .val (.int (0 : Int32)), .val (.ref aKEY_SHARE), .val (.int (1 : Int32)), .val (.int ((((p0).toUInt32 >>> ((1 : Int32) &&& 31).toUInt32).toInt32) % (3 : Int32))), .val (.ref aFFDHE2048), .val (.int (1 : Int32)), .val (.ref a56)] [(.ref a56), (.ref aKEY_SHARE)]))
      refine own_go (fun _ k => XS.aload X66.here hx rfl (hb hby at_130) rfl rfl k) ?_
      show OwnGo p e below _ (T66.setTop (mkF m 132 #[.val (.int p0), .val (.int p1), .val (.int p2), .val (.int p3), .val (.int p4), .val (.int p5), .val (.int (0 : Int32)), .val (.ref aKEY_SHARE), .val (.int (1 : Int32)), .val (.int ((((p0).toUInt32 >>> ((1 : Int32) &&& 31).toUInt32).toInt32) % (3 : Int32))), .val (.ref aFFDHE2048), .val (.int (1 : Int32)), .val (.ref a56)] [(.ref aFFDHE2048), (.ref a56), (.ref aKEY_SHARE)]))
      obtain ⟨cq68, kq68, qa68, qb68, qc68⟩ := isOf hZ e66 (F0.2.1.ext O66.2)
      obtain ⟨_, _, ⟨T68, L68, k68, n68⟩, -, X68, ⟨Lc68, hQ68, l68, y68, z68⟩, st68⟩ := X66.virtualBack hx (y := (⟨"com/example/portcullis/portcullis/MessageType", "writeHeader", "([BLcom/example/portcullis/portcullis/Group;)V"⟩ : MethodName)) (z := (⟨"com/example/portcullis/portcullis/MessageType", "writeHeader", "([BLcom/example/portcullis/portcullis/Group;)V"⟩ : MethodName)) hown (mvT hZ (hw _ (List.mem_of_getElem? (i := 7) rfl))) (mvT hZ (hw _ (List.mem_of_getElem? (i := 8) rfl))) (notFace_of_selects (args := #[]) (mvT hZ (hw _ (List.mem_of_getElem? (i := 10) rfl)))) (mvT hZ (hw _ (List.mem_of_getElem? (i := 10) rfl))) (mvT hZ (hw _ (List.mem_of_getElem? (i := 9) rfl))) (by decide) (backOf (W := 0) (rm_wr_aKEY_SHARE_aFFDHE2048 l Z a0 hw [] aKEY_SHARE aFFDHE2048 aFFDHE4096 aCONFIRMATION aFFDHE3072 F0 a56 k56 ((p1).toInt8.toInt32) ((p2).toInt8.toInt32) ((p3).toInt8.toInt32) ((p4).toInt8.toInt32) ((p5).toInt8.toInt32) h66 n0 O66 V66 ge56) hZ (hw _ (List.mem_of_getElem? (i := 11) rfl)) (hw _ (List.mem_of_getElem? (i := 1) rfl)) (by decide) (by decide)) qa68 qc68 (g := (mkF m 132 #[.val (.int p0), .val (.int p1), .val (.int p2), .val (.int p3), .val (.int p4), .val (.int p5), .val (.int (0 : Int32)), .val (.ref aKEY_SHARE), .val (.int (1 : Int32)), .val (.int ((((p0).toUInt32 >>> ((1 : Int32) &&& 31).toUInt32).toInt32) % (3 : Int32))), .val (.ref aFFDHE2048), .val (.int (1 : Int32)), .val (.ref a56)] [(.ref aFFDHE2048), (.ref a56), (.ref aKEY_SHARE)])) rfl (by rw [hml]; rfl) (Steps.refl _) (argsL := [(.ref a56), (.ref aFFDHE2048)]) (rest := []) (lenOf pd__B_Lcom_example_portcullis_portcullis_Group___V rfl) rfl (by show 2 * 0 + _ ≤ _; exact Nat.le_of_eq rfl) (hb hby at_132) (fun _ _ => ⟨rfl, e66, (by decide : 1 + 0 ≤ _), (by decide : 5 + 0 ≤ _)⟩)
      dsimp only [Pt.U, Pt.locs, Pt.cells, Pt.slots] at X68 l68 y68 z68 st68 hQ68
      subst l68 y68 z68
      obtain ⟨rfl, Nq68, K68, x68_0⟩ := hQ68
      have N68 := Fr.app N66 Nq68
      have O68 := O66.keep K68 (allS ge56 all0)
      have e68 : T68.heap = T68.heap := rfl
      have z69 : h0.size ≤ T68.heap.size := Nat.le_trans z67 K68.1
      refine own_go (fun _ k => st68.trans k) ?_
      show OwnGo p e below _ (T68.setTop (mkF m 135 #[.val (.int p0), .val (.int p1), .val (.int p2), .val (.int p3), .val (.int p4), .val (.int p5), .val (.int (0 : Int32)), .val (.ref aKEY_SHARE), .val (.int (1 : Int32)), .val (.int ((((p0).toUInt32 >>> ((1 : Int32) &&& 31).toUInt32).toInt32) % (3 : Int32))), .val (.ref aFFDHE2048), .val (.int (1 : Int32)), .val (.ref a56)] []))
      refine own_go (fun _ k => XS.aload X68.here hx rfl (hb hby at_135) rfl rfl k) ?_
      show OwnGo p e below _ (T68.setTop (mkF m 137 #[.val (.int p0), .val (.int p1), .val (.int p2), .val (.int p3), .val (.int p4), .val (.int p5), .val (.int (0 : Int32)), .val (.ref aKEY_SHARE), .val (.int (1 : Int32)), .val (.int ((((p0).toUInt32 >>> ((1 : Int32) &&& 31).toUInt32).toInt32) % (3 : Int32))), .val (.ref aFFDHE2048), .val (.int (1 : Int32)), .val (.ref a56)] [(.ref a56)]))
      refine own_go (fun _ k => XS.iconst X68.here hx rfl (hb hby at_137) k) ?_
      show OwnGo p e below _ (T68.setTop (mkF m 138 #[.val (.int p0), .val (.int p1), .val (.int p2), .val (.int p3), .val (.int p4), .val (.int p5), .val (.int (0 : Int32)), .val (.ref aKEY_SHARE), .val (.int (1 : Int32)), .val (.int ((((p0).toUInt32 >>> ((1 : Int32) &&& 31).toUInt32).toInt32) % (3 : Int32))), .val (.ref aFFDHE2048), .val (.int (1 : Int32)), .val (.ref a56)] [(.int (0 : Int32)), (.ref a56)]))
      obtain ⟨c70, Ar70, q70, S70, M70, H70, G70⟩ := (id x68_0)
      refine own_go (fun _ k => X68.baloadBytes hx (j := (0 : Int32)) (v := (.int (1 : Int32))) (by rw [e68]; exact Ar70.1) (State.isArrayOf_alike hZ.alike Ar70.2.1) Ar70.2.2 (inb_of S70 ⟨by decide, by decide⟩) (Has.at H70 (inb_of S70 ⟨by decide, by decide⟩) rfl) (g := (mkF m 138 #[.val (.int p0), .val (.int p1), .val (.int p2), .val (.int p3), .val (.int p4), .val (.int p5), .val (.int (0 : Int32)), .val (.ref aKEY_SHARE), .val (.int (1 : Int32)), .val (.int ((((p0).toUInt32 >>> ((1 : Int32) &&& 31).toUInt32).toInt32) % (3 : Int32))), .val (.ref aFFDHE2048), .val (.int (1 : Int32)), .val (.ref a56)] [(.int (0 : Int32)), (.ref a56)])) rfl rfl (hb hby at_138) _ k) ?_
      show OwnGo p e below _ (T68.setTop (mkF m 139 #[.val (.int p0), .val (.int p1), .val (.int p2), .val (.int p3), .val (.int p4), .val (.int p5), .val (.int (0 : Int32)), .val (.ref aKEY_SHARE), .val (.int (1 : Int32)), .val (.int ((((p0).toUInt32 >>> ((1 : Int32) &&& 31).toUInt32).toInt32) % (3 : Int32))), .val (.ref aFFDHE2048), .val (.int (1 : Int32)), .val (.ref a56)] [(.int (1 : Int32))]))
      refine own_go (fun _ k => XS.iconst X68.here hx rfl (hb hby at_139) k) ?_
      show OwnGo p e below _ (T68.setTop (mkF m 140 #[.val (.int p0), .val (.int p1), .val (.int p2), .val (.int p3), .val (.int p4), .val (.int p5), .val (.int (0 : Int32)), .val (.ref aKEY_SHARE), .val (.int (1 : Int32)), .val (.int ((((p0).toUInt32 >>> ((1 : Int32) &&& 31).toUInt32).toInt32) % (3 : Int32))), .val (.ref aFFDHE2048), .val (.int (1 : Int32)), .val (.ref a56)] [(.int (1 : Int32)), (.int (1 : Int32))]))
      refine own_go (fun _ k => XS.icmpNo X68.here hx rfl (hb hby at_140) rfl (by decide) k) ?_
      show OwnGo p e below _ (T68.setTop (mkF m 143 #[.val (.int p0), .val (.int p1), .val (.int p2), .val (.int p3), .val (.int p4), .val (.int p5), .val (.int (0 : Int32)), .val (.ref aKEY_SHARE), .val (.int (1 : Int32)), .val (.int ((((p0).toUInt32 >>> ((1 : Int32) &&& 31).toUInt32).toInt32) % (3 : Int32))), .val (.ref aFFDHE2048), .val (.int (1 : Int32)), .val (.ref a56)] []))
      refine own_go (fun _ k => XS.aload X68.here hx rfl (hb hby at_143) rfl rfl k) ?_
      show OwnGo p e below _ (T68.setTop (mkF m 145 #[.val (.int p0), .val (.int p1), .val (.int p2), .val (.int p3), .val (.int p4), .val (.int p5), .val (.int (0 : Int32)), .val (.ref aKEY_SHARE), .val (.int (1 : Int32)), .val (.int ((((p0).toUInt32 >>> ((1 : Int32) &&& 31).toUInt32).toInt32) % (3 : Int32))), .val (.ref aFFDHE2048), .val (.int (1 : Int32)), .val (.ref a56)] [(.ref a56)]))
      refine own_go (fun _ k => XS.iconst X68.here hx rfl (hb hby at_145) k) ?_
      show OwnGo p e below _ (T68.setTop (mkF m 146 #[.val (.int p0), .val (.int p1), .val (.int p2), .val (.int p3), .val (.int p4), .val (.int p5), .val (.int (0 : Int32)), .val (.ref aKEY_SHARE), .val (.int (1 : Int32)), .val (.int ((((p0).toUInt32 >>> ((1 : Int32) &&& 31).toUInt32).toInt32) % (3 : Int32))), .val (.ref aFFDHE2048), .val (.int (1 : Int32)), .val (.ref a56)] [(.int (1 : Int32)), (.ref a56)]))
      obtain ⟨c71, Ar71, q71, S71, M71, H71, G71⟩ := (id x68_0)
      refine own_go (fun _ k => X68.baloadBytes hx (j := (1 : Int32)) (v := (.int (1 : Int32))) (by rw [e68]; exact Ar71.1) (State.isArrayOf_alike hZ.alike Ar71.2.1) Ar71.2.2 (inb_of S71 ⟨by decide, by decide⟩) (Has.at H71 (inb_of S71 ⟨by decide, by decide⟩) rfl) (g := (mkF m 146 #[.val (.int p0), .val (.int p1), .val (.int p2), .val (.int p3), .val (.int p4), .val (.int p5), .val (.int (0 : Int32)), .val (.ref aKEY_SHARE), .val (.int (1 : Int32)), .val (.int ((((p0).toUInt32 >>> ((1 : Int32) &&& 31).toUInt32).toInt32) % (3 : Int32))), .val (.ref aFFDHE2048), .val (.int (1 : Int32)), .val (.ref a56)] [(.int (1 : Int32)), (.ref a56)])) rfl rfl (hb hby at_146) _ k) ?_
      show OwnGo p e below _ (T68.setTop (mkF m 147 #[.val (.int p0), .val (.int p1), .val (.int p2), .val (.int p3), .val (.int p4), .val (.int p5), .val (.int (0 : Int32)), .val (.ref aKEY_SHARE), .val (.int (1 : Int32)), .val (.int ((((p0).toUInt32 >>> ((1 : Int32) &&& 31).toUInt32).toInt32) % (3 : Int32))), .val (.ref aFFDHE2048), .val (.int (1 : Int32)), .val (.ref a56)] [(.int (1 : Int32))]))
      refine own_go (fun _ k => XS.iload X68.here hx rfl (hb hby at_147) rfl k) ?_
      show OwnGo p e below _ (T68.setTop (mkF m 149 #[.val (.int p0), .val (.int p1), .val (.int p2), .val (.int p3), .val (.int p4), .val (.int p5), .val (.int (0 : Int32)), .val (.ref aKEY_SHARE), .val (.int (1 : Int32)), .val (.int ((((p0).toUInt32 >>> ((1 : Int32) &&& 31).toUInt32).toInt32) % (3 : Int32))), .val (.ref aFFDHE2048), .val (.int (1 : Int32)), .val (.ref a56)] [(.int (1 : Int32)), (.int (1 : Int32))]))
      refine own_go (fun _ k => XS.icmpNo X68.here hx rfl (hb hby at_149) rfl (by decide) k) ?_
      show OwnGo p e below _ (T68.setTop (mkF m 152 #[.val (.int p0), .val (.int p1), .val (.int p2), .val (.int p3), .val (.int p4), .val (.int p5), .val (.int (0 : Int32)), .val (.ref aKEY_SHARE), .val (.int (1 : Int32)), .val (.int ((((p0).toUInt32 >>> ((1 : Int32) &&& 31).toUInt32).toInt32) % (3 : Int32))), .val (.ref aFFDHE2048), .val (.int (1 : Int32)), .val (.ref a56)] []))
      refine own_go (fun _ k => XS.aload X68.here hx rfl (hb hby at_152) rfl rfl k) ?_
      show OwnGo p e below _ (T68.setTop (mkF m 154 #[.val (.int p0), .val (.int p1), .val (.int p2), .val (.int p3), .val (.int p4), .val (.int p5), .val (.int (0 : Int32)), .val (.ref aKEY_SHARE), .val (.int (1 : Int32)), .val (.int ((((p0).toUInt32 >>> ((1 : Int32) &&& 31).toUInt32).toInt32) % (3 : Int32))), .val (.ref aFFDHE2048), .val (.int (1 : Int32)), .val (.ref a56)] [(.ref a56)]))
      refine own_go (fun _ k => XS.iconst X68.here hx rfl (hb hby at_154) k) ?_
      show OwnGo p e below _ (T68.setTop (mkF m 155 #[.val (.int p0), .val (.int p1), .val (.int p2), .val (.int p3), .val (.int p4), .val (.int p5), .val (.int (0 : Int32)), .val (.ref aKEY_SHARE), .val (.int (1 : Int32)), .val (.int ((((p0).toUInt32 >>> ((1 : Int32) &&& 31).toUInt32).toInt32) % (3 : Int32))), .val (.ref aFFDHE2048), .val (.int (1 : Int32)), .val (.ref a56)] [(.int (2 : Int32)), (.ref a56)]))
      obtain ⟨c72, Ar72, q72, S72, M72, H72, G72⟩ := (id x68_0)
      refine own_go (fun _ k => X68.baloadBytes hx (j := (2 : Int32)) (v := (.int (1 : Int32))) (by rw [e68]; exact Ar72.1) (State.isArrayOf_alike hZ.alike Ar72.2.1) Ar72.2.2 (inb_of S72 ⟨by decide, by decide⟩) (Has.at H72 (inb_of S72 ⟨by decide, by decide⟩) rfl) (g := (mkF m 155 #[.val (.int p0), .val (.int p1), .val (.int p2), .val (.int p3), .val (.int p4), .val (.int p5), .val (.int (0 : Int32)), .val (.ref aKEY_SHARE), .val (.int (1 : Int32)), .val (.int ((((p0).toUInt32 >>> ((1 : Int32) &&& 31).toUInt32).toInt32) % (3 : Int32))), .val (.ref aFFDHE2048), .val (.int (1 : Int32)), .val (.ref a56)] [(.int (2 : Int32)), (.ref a56)])) rfl rfl (hb hby at_155) _ k) ?_
      show OwnGo p e below _ (T68.setTop (mkF m 156 #[.val (.int p0), .val (.int p1), .val (.int p2), .val (.int p3), .val (.int p4), .val (.int p5), .val (.int (0 : Int32)), .val (.ref aKEY_SHARE), .val (.int (1 : Int32)), .val (.int ((((p0).toUInt32 >>> ((1 : Int32) &&& 31).toUInt32).toInt32) % (3 : Int32))), .val (.ref aFFDHE2048), .val (.int (1 : Int32)), .val (.ref a56)] [(.int (1 : Int32))]))
      refine own_go (fun _ k => XS.iload X68.here hx rfl (hb hby at_156) rfl k) ?_
      show OwnGo p e below _ (T68.setTop (mkF m 158 #[.val (.int p0), .val (.int p1), .val (.int p2), .val (.int p3), .val (.int p4), .val (.int p5), .val (.int (0 : Int32)), .val (.ref aKEY_SHARE), .val (.int (1 : Int32)), .val (.int ((((p0).toUInt32 >>> ((1 : Int32) &&& 31).toUInt32).toInt32) % (3 : Int32))), .val (.ref aFFDHE2048), .val (.int (1 : Int32)), .val (.ref a56)] [(.int (1 : Int32)), (.int (1 : Int32))]))
      refine own_go (fun _ k => XS.icmpNo X68.here hx rfl (hb hby at_158) rfl (by decide) k) ?_
      show OwnGo p e below _ (T68.setTop (mkF m 161 #[.val (.int p0), .val (.int p1), .val (.int p2), .val (.int p3), .val (.int p4), .val (.int p5), .val (.int (0 : Int32)), .val (.ref aKEY_SHARE), .val (.int (1 : Int32)), .val (.int ((((p0).toUInt32 >>> ((1 : Int32) &&& 31).toUInt32).toInt32) % (3 : Int32))), .val (.ref aFFDHE2048), .val (.int (1 : Int32)), .val (.ref a56)] []))
      refine own_go (fun _ k => XS.aload X68.here hx rfl (hb hby at_161) rfl rfl k) ?_
      show OwnGo p e below _ (T68.setTop (mkF m 163 #[.val (.int p0), .val (.int p1), .val (.int p2), .val (.int p3), .val (.int p4), .val (.int p5), .val (.int (0 : Int32)), .val (.ref aKEY_SHARE), .val (.int (1 : Int32)), .val (.int ((((p0).toUInt32 >>> ((1 : Int32) &&& 31).toUInt32).toInt32) % (3 : Int32))), .val (.ref aFFDHE2048), .val (.int (1 : Int32)), .val (.ref a56)] [(.ref a56)]))
      refine own_go (fun _ k => XS.iconst X68.here hx rfl (hb hby at_163) k) ?_
      show OwnGo p e below _ (T68.setTop (mkF m 164 #[.val (.int p0), .val (.int p1), .val (.int p2), .val (.int p3), .val (.int p4), .val (.int p5), .val (.int (0 : Int32)), .val (.ref aKEY_SHARE), .val (.int (1 : Int32)), .val (.int ((((p0).toUInt32 >>> ((1 : Int32) &&& 31).toUInt32).toInt32) % (3 : Int32))), .val (.ref aFFDHE2048), .val (.int (1 : Int32)), .val (.ref a56)] [(.int (3 : Int32)), (.ref a56)]))
      obtain ⟨c73, Ar73, q73, S73, M73, H73, G73⟩ := (id x68_0)
      refine own_go (fun _ k => X68.baloadBytes hx (j := (3 : Int32)) (v := (.int ((p4).toInt8.toInt32))) (by rw [e68]; exact Ar73.1) (State.isArrayOf_alike hZ.alike Ar73.2.1) Ar73.2.2 (inb_of S73 ⟨by decide, by decide⟩) (Has.at H73 (inb_of S73 ⟨by decide, by decide⟩) rfl) (g := (mkF m 164 #[.val (.int p0), .val (.int p1), .val (.int p2), .val (.int p3), .val (.int p4), .val (.int p5), .val (.int (0 : Int32)), .val (.ref aKEY_SHARE), .val (.int (1 : Int32)), .val (.int ((((p0).toUInt32 >>> ((1 : Int32) &&& 31).toUInt32).toInt32) % (3 : Int32))), .val (.ref aFFDHE2048), .val (.int (1 : Int32)), .val (.ref a56)] [(.int (3 : Int32)), (.ref a56)])) rfl rfl (hb hby at_164) _ k) ?_
      show OwnGo p e below _ (T68.setTop (mkF m 165 #[.val (.int p0), .val (.int p1), .val (.int p2), .val (.int p3), .val (.int p4), .val (.int p5), .val (.int (0 : Int32)), .val (.ref aKEY_SHARE), .val (.int (1 : Int32)), .val (.int ((((p0).toUInt32 >>> ((1 : Int32) &&& 31).toUInt32).toInt32) % (3 : Int32))), .val (.ref aFFDHE2048), .val (.int (1 : Int32)), .val (.ref a56)] [(.int ((p4).toInt8.toInt32))]))
      refine own_go (fun _ k => XS.iload X68.here hx rfl (hb hby at_165) rfl k) ?_
      show OwnGo p e below _ (T68.setTop (mkF m 167 #[.val (.int p0), .val (.int p1), .val (.int p2), .val (.int p3), .val (.int p4), .val (.int p5), .val (.int (0 : Int32)), .val (.ref aKEY_SHARE), .val (.int (1 : Int32)), .val (.int ((((p0).toUInt32 >>> ((1 : Int32) &&& 31).toUInt32).toInt32) % (3 : Int32))), .val (.ref aFFDHE2048), .val (.int (1 : Int32)), .val (.ref a56)] [(.int p4), (.int ((p4).toInt8.toInt32))]))
      refine own_go (fun _ k => XS.i2b X68.here hx rfl (hb hby at_167) rfl k) ?_
      show OwnGo p e below _ (T68.setTop (mkF m 168 #[.val (.int p0), .val (.int p1), .val (.int p2), .val (.int p3), .val (.int p4), .val (.int p5), .val (.int (0 : Int32)), .val (.ref aKEY_SHARE), .val (.int (1 : Int32)), .val (.int ((((p0).toUInt32 >>> ((1 : Int32) &&& 31).toUInt32).toInt32) % (3 : Int32))), .val (.ref aFFDHE2048), .val (.int (1 : Int32)), .val (.ref a56)] [(.int ((p4).toInt8.toInt32)), (.int ((p4).toInt8.toInt32))]))
      refine own_go (fun _ k => XS.icmpNo X68.here hx rfl (hb hby at_168) rfl (teq rfl).2 k) ?_
      show OwnGo p e below _ (T68.setTop (mkF m 171 #[.val (.int p0), .val (.int p1), .val (.int p2), .val (.int p3), .val (.int p4), .val (.int p5), .val (.int (0 : Int32)), .val (.ref aKEY_SHARE), .val (.int (1 : Int32)), .val (.int ((((p0).toUInt32 >>> ((1 : Int32) &&& 31).toUInt32).toInt32) % (3 : Int32))), .val (.ref aFFDHE2048), .val (.int (1 : Int32)), .val (.ref a56)] []))
      refine own_go (fun _ k => XS.aload X68.here hx rfl (hb hby at_171) rfl rfl k) ?_
      show OwnGo p e below _ (T68.setTop (mkF m 173 #[.val (.int p0), .val (.int p1), .val (.int p2), .val (.int p3), .val (.int p4), .val (.int p5), .val (.int (0 : Int32)), .val (.ref aKEY_SHARE), .val (.int (1 : Int32)), .val (.int ((((p0).toUInt32 >>> ((1 : Int32) &&& 31).toUInt32).toInt32) % (3 : Int32))), .val (.ref aFFDHE2048), .val (.int (1 : Int32)), .val (.ref a56)] [(.ref a56)]))
      refine own_go (fun _ k => XS.iconst X68.here hx rfl (hb hby at_173) k) ?_
      show OwnGo p e below _ (T68.setTop (mkF m 174 #[.val (.int p0), .val (.int p1), .val (.int p2), .val (.int p3), .val (.int p4), .val (.int p5), .val (.int (0 : Int32)), .val (.ref aKEY_SHARE), .val (.int (1 : Int32)), .val (.int ((((p0).toUInt32 >>> ((1 : Int32) &&& 31).toUInt32).toInt32) % (3 : Int32))), .val (.ref aFFDHE2048), .val (.int (1 : Int32)), .val (.ref a56)] [(.int (4 : Int32)), (.ref a56)]))
      obtain ⟨c74, Ar74, q74, S74, M74, H74, G74⟩ := (id x68_0)
      refine own_go (fun _ k => X68.baloadBytes hx (j := (4 : Int32)) (v := (.int ((p5).toInt8.toInt32))) (by rw [e68]; exact Ar74.1) (State.isArrayOf_alike hZ.alike Ar74.2.1) Ar74.2.2 (inb_of S74 ⟨by decide, by decide⟩) (Has.at H74 (inb_of S74 ⟨by decide, by decide⟩) rfl) (g := (mkF m 174 #[.val (.int p0), .val (.int p1), .val (.int p2), .val (.int p3), .val (.int p4), .val (.int p5), .val (.int (0 : Int32)), .val (.ref aKEY_SHARE), .val (.int (1 : Int32)), .val (.int ((((p0).toUInt32 >>> ((1 : Int32) &&& 31).toUInt32).toInt32) % (3 : Int32))), .val (.ref aFFDHE2048), .val (.int (1 : Int32)), .val (.ref a56)] [(.int (4 : Int32)), (.ref a56)])) rfl rfl (hb hby at_174) _ k) ?_
      show OwnGo p e below _ (T68.setTop (mkF m 175 #[.val (.int p0), .val (.int p1), .val (.int p2), .val (.int p3), .val (.int p4), .val (.int p5), .val (.int (0 : Int32)), .val (.ref aKEY_SHARE), .val (.int (1 : Int32)), .val (.int ((((p0).toUInt32 >>> ((1 : Int32) &&& 31).toUInt32).toInt32) % (3 : Int32))), .val (.ref aFFDHE2048), .val (.int (1 : Int32)), .val (.ref a56)] [(.int ((p5).toInt8.toInt32))]))
      refine own_go (fun _ k => XS.iload X68.here hx rfl (hb hby at_175) rfl k) ?_
      show OwnGo p e below _ (T68.setTop (mkF m 177 #[.val (.int p0), .val (.int p1), .val (.int p2), .val (.int p3), .val (.int p4), .val (.int p5), .val (.int (0 : Int32)), .val (.ref aKEY_SHARE), .val (.int (1 : Int32)), .val (.int ((((p0).toUInt32 >>> ((1 : Int32) &&& 31).toUInt32).toInt32) % (3 : Int32))), .val (.ref aFFDHE2048), .val (.int (1 : Int32)), .val (.ref a56)] [(.int p5), (.int ((p5).toInt8.toInt32))]))
      refine own_go (fun _ k => XS.i2b X68.here hx rfl (hb hby at_177) rfl k) ?_
      show OwnGo p e below _ (T68.setTop (mkF m 178 #[.val (.int p0), .val (.int p1), .val (.int p2), .val (.int p3), .val (.int p4), .val (.int p5), .val (.int (0 : Int32)), .val (.ref aKEY_SHARE), .val (.int (1 : Int32)), .val (.int ((((p0).toUInt32 >>> ((1 : Int32) &&& 31).toUInt32).toInt32) % (3 : Int32))), .val (.ref aFFDHE2048), .val (.int (1 : Int32)), .val (.ref a56)] [(.int ((p5).toInt8.toInt32)), (.int ((p5).toInt8.toInt32))]))
      refine own_go (fun _ k => XS.icmpNo X68.here hx rfl (hb hby at_178) rfl (teq rfl).2 k) ?_
      show OwnGo p e below _ (T68.setTop (mkF m 181 #[.val (.int p0), .val (.int p1), .val (.int p2), .val (.int p3), .val (.int p4), .val (.int p5), .val (.int (0 : Int32)), .val (.ref aKEY_SHARE), .val (.int (1 : Int32)), .val (.int ((((p0).toUInt32 >>> ((1 : Int32) &&& 31).toUInt32).toInt32) % (3 : Int32))), .val (.ref aFFDHE2048), .val (.int (1 : Int32)), .val (.ref a56)] []))
      refine own_go (fun _ k => XS.iconst X68.here hx rfl (hb hby at_181) k) ?_
      show OwnGo p e below _ (T68.setTop (mkF m 182 #[.val (.int p0), .val (.int p1), .val (.int p2), .val (.int p3), .val (.int p4), .val (.int p5), .val (.int (0 : Int32)), .val (.ref aKEY_SHARE), .val (.int (1 : Int32)), .val (.int ((((p0).toUInt32 >>> ((1 : Int32) &&& 31).toUInt32).toInt32) % (3 : Int32))), .val (.ref aFFDHE2048), .val (.int (1 : Int32)), .val (.ref a56)] [(.int (1 : Int32))]))
      refine own_go (fun _ k => XS.goto X68.here hx rfl (pc0 := 182) (pc' := 186) rfl (hb hby at_182) (by decide) (by decide) k) ?_
      show OwnGo p e below _ (T68.setTop (mkF m 186 #[.val (.int p0), .val (.int p1), .val (.int p2), .val (.int p3), .val (.int p4), .val (.int p5), .val (.int (0 : Int32)), .val (.ref aKEY_SHARE), .val (.int (1 : Int32)), .val (.int ((((p0).toUInt32 >>> ((1 : Int32) &&& 31).toUInt32).toInt32) % (3 : Int32))), .val (.ref aFFDHE2048), .val (.int (1 : Int32)), .val (.ref a56)] [(.int (1 : Int32))]))
      obtain ⟨fs, hr, hrun, hended, hW, hsame⟩ := X68.leave (v := some (.int (1 : Int32))) (fun h => by rw [Bd.returns] at h; cases h)
      refine ⟨_, _, retOut X68 hx Bd.returns rfl (Or.inl ⟨rfl, Or.inr (Or.inl rfl), _, rfl⟩) (hb hby at_186) hr, hrun, hended, _, _, rfl, ?_, ⟨_, rfl⟩, hW, hsame.mono (by decide) (by decide)⟩
      show Q_law Z aKEY_SHARE aFFDHE2048 aFFDHE4096 aCONFIRMATION aFFDHE3072 p0 p1 p2 p3 p4 p5 h0 n0 _ T68.heap _
      rw [e68]
      exact ⟨rfl, N68⟩
    · refine own_go (fun _ k => XS.ifYes X53.here hx rfl (pc0 := 50) (pc' := 64) rfl (hb hby at_50) rfl ((if0 _ _).trans (feq hc54).2) (by decide) (by decide) k) ?_
      show OwnGo p e below _ (T53.setTop (mkF m 64 #[.val (.int p0), .val (.int p1), .val (.int p2), .val (.int p3), .val (.int p4), .val (.int p5), .val (.int (0 : Int32)), .val (.ref aKEY_SHARE), .val (.int (1 : Int32)), .val (.int ((((p0).toUInt32 >>> ((1 : Int32) &&& 31).toUInt32).toInt32) % (3 : Int32))), .unset, .unset, .unset] []))
      refine own_go (fun _ k => XS.iload X53.here hx rfl (hb hby at_64) rfl k) ?_
      show OwnGo p e below _ (T53.setTop (mkF m 66 #[.val (.int p0), .val (.int p1), .val (.int p2), .val (.int p3), .val (.int p4), .val (.int p5), .val (.int (0 : Int32)), .val (.ref aKEY_SHARE), .val (.int (1 : Int32)), .val (.int ((((p0).toUInt32 >>> ((1 : Int32) &&& 31).toUInt32).toInt32) % (3 : Int32))), .unset, .unset, .unset] [(.int ((((p0).toUInt32 >>> ((1 : Int32) &&& 31).toUInt32).toInt32) % (3 : Int32)))]))
      refine own_go (fun _ k => XS.iconst X53.here hx rfl (hb hby at_66) k) ?_
      show OwnGo p e below _ (T53.setTop (mkF m 67 #[.val (.int p0), .val (.int p1), .val (.int p2), .val (.int p3), .val (.int p4), .val (.int p5), .val (.int (0 : Int32)), .val (.ref aKEY_SHARE), .val (.int (1 : Int32)), .val (.int ((((p0).toUInt32 >>> ((1 : Int32) &&& 31).toUInt32).toInt32) % (3 : Int32))), .unset, .unset, .unset] [(.int (1 : Int32)), (.int ((((p0).toUInt32 >>> ((1 : Int32) &&& 31).toUInt32).toInt32) % (3 : Int32)))]))
      by_cases hc75 : ((((p0).toUInt32 >>> ((1 : Int32) &&& 31).toUInt32).toInt32) % (3 : Int32)) = (1 : Int32)
      · refine own_go (fun _ k => XS.icmpNo X53.here hx rfl (hb hby at_67) rfl (teq hc75).2 k) ?_
        show OwnGo p e below _ (T53.setTop (mkF m 70 #[.val (.int p0), .val (.int p1), .val (.int p2), .val (.int p3), .val (.int p4), .val (.int p5), .val (.int (0 : Int32)), .val (.ref aKEY_SHARE), .val (.int (1 : Int32)), .val (.int ((((p0).toUInt32 >>> ((1 : Int32) &&& 31).toUInt32).toInt32) % (3 : Int32))), .unset, .unset, .unset] []))
        obtain ⟨T76, X76, e76, st76⟩ := getS X53 hx hZ hown (host := "") (hw _ (List.mem_of_getElem? (i := 25) rfl)) Via.refl e53 (F0.2.2.2.2.2.2.2.2.2.2.2.1.ext O0.2) (g := (mkF m 70 #[.val (.int p0), .val (.int p1), .val (.int p2), .val (.int p3), .val (.int p4), .val (.int p5), .val (.int (0 : Int32)), .val (.ref aKEY_SHARE), .val (.int (1 : Int32)), .val (.int ((((p0).toUInt32 >>> ((1 : Int32) &&& 31).toUInt32).toInt32) % (3 : Int32))), .unset, .unset, .unset] [])) rfl (hb hby at_70)
        refine own_go st76 ?_
        show OwnGo p e below _ (T76.setTop (mkF m 73 #[.val (.int p0), .val (.int p1), .val (.int p2), .val (.int p3), .val (.int p4), .val (.int p5), .val (.int (0 : Int32)), .val (.ref aKEY_SHARE), .val (.int (1 : Int32)), .val (.int ((((p0).toUInt32 >>> ((1 : Int32) &&& 31).toUInt32).toInt32) % (3 : Int32))), .unset, .unset, .unset] [(.ref aFFDHE3072)]))
        refine own_go (fun _ k => XS.astore X76.here hx rfl (hb hby at_73) rfl rfl (l' := #[.val (.int p0), .val (.int p1), .val (.int p2), .val (.int p3), .val (.int p4), .val (.int p5), .val (.int (0 : Int32)), .val (.ref aKEY_SHARE), .val (.int (1 : Int32)), .val (.int ((((p0).toUInt32 >>> ((1 : Int32) &&& 31).toUInt32).toInt32) % (3 : Int32))), .val (.ref aFFDHE3072), .unset, .unset]) rfl k) ?_
        show OwnGo p e below _ (T76.setTop (mkF m 75 #[.val (.int p0), .val (.int p1), .val (.int p2), .val (.int p3), .val (.int p4), .val (.int p5), .val (.int (0 : Int32)), .val (.ref aKEY_SHARE), .val (.int (1 : Int32)), .val (.int ((((p0).toUInt32 >>> ((1 : Int32) &&& 31).toUInt32).toInt32) % (3 : Int32))), .val (.ref aFFDHE3072), .unset, .unset] []))
        refine own_go (fun _ k => XS.iconst X76.here hx rfl (hb hby at_75) k) ?_
        show OwnGo p e below _ (T76.setTop (mkF m 76 #[.val (.int p0), .val (.int p1), .val (.int p2), .val (.int p3), .val (.int p4), .val (.int p5), .val (.int (0 : Int32)), .val (.ref aKEY_SHARE), .val (.int (1 : Int32)), .val (.int ((((p0).toUInt32 >>> ((1 : Int32) &&& 31).toUInt32).toInt32) % (3 : Int32))), .val (.ref aFFDHE3072), .unset, .unset] [(.int (2 : Int32))]))
        refine own_go (fun _ k => XS.istore X76.here hx rfl (hb hby at_76) rfl (l' := #[.val (.int p0), .val (.int p1), .val (.int p2), .val (.int p3), .val (.int p4), .val (.int p5), .val (.int (0 : Int32)), .val (.ref aKEY_SHARE), .val (.int (1 : Int32)), .val (.int ((((p0).toUInt32 >>> ((1 : Int32) &&& 31).toUInt32).toInt32) % (3 : Int32))), .val (.ref aFFDHE3072), .val (.int (2 : Int32)), .unset]) rfl k) ?_
        show OwnGo p e below _ (T76.setTop (mkF m 78 #[.val (.int p0), .val (.int p1), .val (.int p2), .val (.int p3), .val (.int p4), .val (.int p5), .val (.int (0 : Int32)), .val (.ref aKEY_SHARE), .val (.int (1 : Int32)), .val (.int ((((p0).toUInt32 >>> ((1 : Int32) &&& 31).toUInt32).toInt32) % (3 : Int32))), .val (.ref aFFDHE3072), .val (.int (2 : Int32)), .unset] []))
        refine own_go (fun _ k => XS.goto X76.here hx rfl (pc0 := 78) (pc' := 89) rfl (hb hby at_78) (by decide) (by decide) k) ?_
        show OwnGo p e below _ (T76.setTop (mkF m 89 #[.val (.int p0), .val (.int p1), .val (.int p2), .val (.int p3), .val (.int p4), .val (.int p5), .val (.int (0 : Int32)), .val (.ref aKEY_SHARE), .val (.int (1 : Int32)), .val (.int ((((p0).toUInt32 >>> ((1 : Int32) &&& 31).toUInt32).toInt32) % (3 : Int32))), .val (.ref aFFDHE3072), .val (.int (2 : Int32)), .unset] []))
        refine own_go (fun _ k => XS.iconst X76.here hx rfl (hb hby at_89) k) ?_
        show OwnGo p e below _ (T76.setTop (mkF m 90 #[.val (.int p0), .val (.int p1), .val (.int p2), .val (.int p3), .val (.int p4), .val (.int p5), .val (.int (0 : Int32)), .val (.ref aKEY_SHARE), .val (.int (1 : Int32)), .val (.int ((((p0).toUInt32 >>> ((1 : Int32) &&& 31).toUInt32).toInt32) % (3 : Int32))), .val (.ref aFFDHE3072), .val (.int (2 : Int32)), .unset] [(.int (5 : Int32))]))
        obtain ⟨T77, h77, k77, X77, e77, E77, A77, st77⟩ := newP X76 hx hZ (hw _ (List.mem_of_getElem? (i := 6) rfl)) e76 (g := (mkF m 90 #[.val (.int p0), .val (.int p1), .val (.int p2), .val (.int p3), .val (.int p4), .val (.int p5), .val (.int (0 : Int32)), .val (.ref aKEY_SHARE), .val (.int (1 : Int32)), .val (.int ((((p0).toUInt32 >>> ((1 : Int32) &&& 31).toUInt32).toInt32) % (3 : Int32))), .val (.ref aFFDHE3072), .val (.int (2 : Int32)), .unset] [(.int (5 : Int32))])) rfl (hb hby at_90) rfl (by decide) (cap := 5) (by decide) (by decide) (by decide) (by decide)
        obtain ⟨a77, g77⟩ : ∃ z, z = h0.size := ⟨_, rfl⟩
        rw [← g77] at A77 st77
        have ge77 : n0 ≤ a77 := Nat.le_trans (own_sz O0) (Nat.le_of_eq g77.symm)
        have gh77 : h0.size ≤ a77 := Nat.le_trans (Nat.le_refl _) (Nat.le_of_eq g77.symm)
        have O77 := O0.ext E77
        have z78 : h0.size ≤ h77.size := Nat.le_trans (Nat.le_refl _) E77.1
        have V77 : Arv Z h77 a77 k77 .byte (5 : Int32) [(.int (0 : Int32)), (.int (0 : Int32)), (.int (0 : Int32)), (.int (0 : Int32)), (.int (0 : Int32))] (.int (0 : Int32)) := (Arv.new A77 (by decide)).pad (pad_rep [] _ 5)
        refine own_go st77 ?_
        show OwnGo p e below _ (T77.setTop (mkF m 92 #[.val (.int p0), .val (.int p1), .val (.int p2), .val (.int p3), .val (.int p4), .val (.int p5), .val (.int (0 : Int32)), .val (.ref aKEY_SHARE), .val (.int (1 : Int32)), .val (.int ((((p0).toUInt32 >>> ((1 : Int32) &&& 31).toUInt32).toInt32) % (3 : Int32))), .val (.ref aFFDHE3072), .val (.int (2 : Int32)), .unset] [(.ref a77)]))
        refine own_go (fun _ k => XS.astore X77.here hx rfl (hb hby at_92) rfl rfl (l' := #[.val (.int p0), .val (.int p1), .val (.int p2), .val (.int p3), .val (.int p4), .val (.int p5), .val (.int (0 : Int32)), .val (.ref aKEY_SHARE), .val (.int (1 : Int32)), .val (.int ((((p0).toUInt32 >>> ((1 : Int32) &&& 31).toUInt32).toInt32) % (3 : Int32))), .val (.ref aFFDHE3072), .val (.int (2 : Int32)), .val (.ref a77)]) rfl k) ?_
        show OwnGo p e below _ (T77.setTop (mkF m 94 #[.val (.int p0), .val (.int p1), .val (.int p2), .val (.int p3), .val (.int p4), .val (.int p5), .val (.int (0 : Int32)), .val (.ref aKEY_SHARE), .val (.int (1 : Int32)), .val (.int ((((p0).toUInt32 >>> ((1 : Int32) &&& 31).toUInt32).toInt32) % (3 : Int32))), .val (.ref aFFDHE3072), .val (.int (2 : Int32)), .val (.ref a77)] []))
        refine own_go (fun _ k => XS.aload X77.here hx rfl (hb hby at_94) rfl rfl k) ?_
        show OwnGo p e below _ (T77.setTop (mkF m 96 #[.val (.int p0), .val (.int p1), .val (.int p2), .val (.int p3), .val (.int p4), .val (.int p5), .val (.int (0 : Int32)), .val (.ref aKEY_SHARE), .val (.int (1 : Int32)), .val (.int ((((p0).toUInt32 >>> ((1 : Int32) &&& 31).toUInt32).toInt32) % (3 : Int32))), .val (.ref aFFDHE3072), .val (.int (2 : Int32)), .val (.ref a77)] [(.ref a77)]))
        refine own_go (fun _ k => XS.iconst X77.here hx rfl (hb hby at_96) k) ?_
        show OwnGo p e below _ (T77.setTop (mkF m 97 #[.val (.int p0), .val (.int p1), .val (.int p2), .val (.int p3), .val (.int p4), .val (.int p5), .val (.int (0 : Int32)), .val (.ref aKEY_SHARE), .val (.int (1 : Int32)), .val (.int ((((p0).toUInt32 >>> ((1 : Int32) &&& 31).toUInt32).toInt32) % (3 : Int32))), .val (.ref aFFDHE3072), .val (.int (2 : Int32)), .val (.ref a77)] [(.int (0 : Int32)), (.ref a77)]))
        refine own_go (fun _ k => XS.iloadN X77.here hx rfl (hb hby at_97) rfl k) ?_
        show OwnGo p e below _ (T77.setTop (mkF m 98 #[.val (.int p0), .val (.int p1), .val (.int p2), .val (.int p3), .val (.int p4), .val (.int p5), .val (.int (0 : Int32)), .val (.ref aKEY_SHARE), .val (.int (1 : Int32)), .val (.int ((((p0).toUInt32 >>> ((1 : Int32) &&& 31).toUInt32).toInt32) % (3 : Int32))), .val (.ref aFFDHE3072), .val (.int (2 : Int32)), .val (.ref a77)] [(.int p1), (.int (0 : Int32)), (.ref a77)]))
        refine own_go (fun _ k => XS.i2b X77.here hx rfl (hb hby at_98) rfl k) ?_
        show OwnGo p e below _ (T77.setTop (mkF m 99 #[.val (.int p0), .val (.int p1), .val (.int p2), .val (.int p3), .val (.int p4), .val (.int p5), .val (.int (0 : Int32)), .val (.ref aKEY_SHARE), .val (.int (1 : Int32)), .val (.int ((((p0).toUInt32 >>> ((1 : Int32) &&& 31).toUInt32).toInt32) % (3 : Int32))), .val (.ref aFFDHE3072), .val (.int (2 : Int32)), .val (.ref a77)] [(.int ((p1).toInt8.toInt32)), (.int (0 : Int32)), (.ref a77)]))
        obtain ⟨c79, Ar79, q79, S79, M79, H79, G79⟩ := (id V77)
        obtain ⟨T79, h79, X79, e79, W79, st79⟩ := stB X77 hx hZ e77 Ar79 (j := (0 : Int32)) (inb_of S79 ⟨by decide, by decide⟩) (g := (mkF m 99 #[.val (.int p0), .val (.int p1), .val (.int p2), .val (.int p3), .val (.int p4), .val (.int p5), .val (.int (0 : Int32)), .val (.ref aKEY_SHARE), .val (.int (1 : Int32)), .val (.int ((((p0).toUInt32 >>> ((1 : Int32) &&& 31).toUInt32).toInt32) % (3 : Int32))), .val (.ref aFFDHE3072), .val (.int (2 : Int32)), .val (.ref a77)] [(.int ((p1).toInt8.toInt32)), (.int (0 : Int32)), (.ref a77)])) rfl rfl (hb hby at_99)
        rw [own_narb] at W79
        have N79 := Fr.snoc X79 N0 ge77
        have O79 := O77.wr W79 ge77
        have z80 : h0.size ≤ h79.size := Nat.le_trans z78 (Nat.le_of_eq W79.size.symm)
        have V79 : Arv Z h79 a77 k77 .byte (5 : Int32) [(.int ((p1).toInt8.toInt32)), (.int (0 : Int32)), (.int (0 : Int32)), (.int (0 : Int32)), (.int (0 : Int32))] (.int (0 : Int32)) := Arv.set Ar79 q79 S79 M79 H79 G79 (fits_nar_byte _) W79 0 (by decide) (Nat.le_of_ble_eq_true rfl)
        refine own_go st79 ?_
        show OwnGo p e below _ (T79.setTop (mkF m 100 #[.val (.int p0), .val (.int p1), .val (.int p2), .val (.int p3), .val (.int p4), .val (.int p5), .val (.int (0 : Int32)), .val (.ref aKEY_SHARE), .val (.int (1 : Int32)), .val (.int ((((p0).toUInt32 >>> ((1 : Int32) &&& 31).toUInt32).toInt32) % (3 : Int32))), .val (.ref aFFDHE3072), .val (.int (2 : Int32)), .val (.ref a77)] []))
        refine own_go (fun _ k => XS.aload X79.here hx rfl (hb hby at_100) rfl rfl k) ?_
        show OwnGo p e below _ (T79.setTop (mkF m 102 #[.val (.int p0), .val (.int p1), .val (.int p2), .val (.int p3), .val (.int p4), .val (.int p5), .val (.int (0 : Int32)), .val (.ref aKEY_SHARE), .val (.int (1 : Int32)), .val (.int ((((p0).toUInt32 >>> ((1 : Int32) &&& 31).toUInt32).toInt32) % (3 : Int32))), .val (.ref aFFDHE3072), .val (.int (2 : Int32)), .val (.ref a77)] [(.ref a77)]))
        refine own_go (fun _ k => XS.iconst X79.here hx rfl (hb hby at_102) k) ?_
        show OwnGo p e below _ (T79.setTop (mkF m 103 #[.val (.int p0), .val (.int p1), .val (.int p2), .val (.int p3), .val (.int p4), .val (.int p5), .val (.int (0 : Int32)), .val (.ref aKEY_SHARE), .val (.int (1 : Int32)), .val (.int ((((p0).toUInt32 >>> ((1 : Int32) &&& 31).toUInt32).toInt32) % (3 : Int32))), .val (.ref aFFDHE3072), .val (.int (2 : Int32)), .val (.ref a77)] [(.int (1 : Int32)), (.ref a77)]))
        refine own_go (fun _ k => XS.iloadN X79.here hx rfl (hb hby at_103) rfl k) ?_
        show OwnGo p e below _ (T79.setTop (mkF m 104 #[.val (.int p0), .val (.int p1), .val (.int p2), .val (.int p3), .val (.int p4), .val (.int p5), .val (.int (0 : Int32)), .val (.ref aKEY_SHARE), .val (.int (1 : Int32)), .val (.int ((((p0).toUInt32 >>> ((1 : Int32) &&& 31).toUInt32).toInt32) % (3 : Int32))), .val (.ref aFFDHE3072), .val (.int (2 : Int32)), .val (.ref a77)] [(.int p2), (.int (1 : Int32)), (.ref a77)]))
        refine own_go (fun _ k => XS.i2b X79.here hx rfl (hb hby at_104) rfl k) ?_
        show OwnGo p e below _ (T79.setTop (mkF m 105 #[.val (.int p0), .val (.int p1), .val (.int p2), .val (.int p3), .val (.int p4), .val (.int p5), .val (.int (0 : Int32)), .val (.ref aKEY_SHARE), .val (.int (1 : Int32)), .val (.int ((((p0).toUInt32 >>> ((1 : Int32) &&& 31).toUInt32).toInt32) % (3 : Int32))), .val (.ref aFFDHE3072), .val (.int (2 : Int32)), .val (.ref a77)] [(.int ((p2).toInt8.toInt32)), (.int (1 : Int32)), (.ref a77)]))
        obtain ⟨c81, Ar81, q81, S81, M81, H81, G81⟩ := (id V79)
        obtain ⟨T81, h81, X81, e81, W81, st81⟩ := stB X79 hx hZ e79 Ar81 (j := (1 : Int32)) (inb_of S81 ⟨by decide, by decide⟩) (g := (mkF m 105 #[.val (.int p0), .val (.int p1), .val (.int p2), .val (.int p3), .val (.int p4), .val (.int p5), .val (.int (0 : Int32)), .val (.ref aKEY_SHARE), .val (.int (1 : Int32)), .val (.int ((((p0).toUInt32 >>> ((1 : Int32) &&& 31).toUInt32).toInt32) % (3 : Int32))), .val (.ref aFFDHE3072), .val (.int (2 : Int32)), .val (.ref a77)] [(.int ((p2).toInt8.toInt32)), (.int (1 : Int32)), (.ref a77)])) rfl rfl (hb hby at_105)
        rw [own_narb] at W81
        have N81 := Fr.snoc X81 N79 ge77
        have O81 := O79.wr W81 ge77
        have z82 : h0.size ≤ h81.size := Nat.le_trans z80 (Nat.le_of_eq W81.size.symm)
        have V81 : Arv Z h81 a77 k77 .byte (5 : Int32) [(.int ((p1).toInt8.toInt32)), (.int ((p2).toInt8.toInt32)), (.int (0 : Int32)), (.int (0 : Int32)), (.int (0 : Int32))] (.int (0 : Int32)) := Arv.set Ar81 q81 S81 M81 H81 G81 (fits_nar_byte _) W81 1 (by decide) (Nat.le_of_ble_eq_true rfl)
        refine own_go st81 ?_
        show OwnGo p e below _ (T81.setTop (mkF m 106 #[.val (.int p0), .val (.int p1), .val (.int p2), .val (.int p3), .val (.int p4), .val (.int p5), .val (.int (0 : Int32)), .val (.ref aKEY_SHARE), .val (.int (1 : Int32)), .val (.int ((((p0).toUInt32 >>> ((1 : Int32) &&& 31).toUInt32).toInt32) % (3 : Int32))), .val (.ref aFFDHE3072), .val (.int (2 : Int32)), .val (.ref a77)] []))
        refine own_go (fun _ k => XS.aload X81.here hx rfl (hb hby at_106) rfl rfl k) ?_
        show OwnGo p e below _ (T81.setTop (mkF m 108 #[.val (.int p0), .val (.int p1), .val (.int p2), .val (.int p3), .val (.int p4), .val (.int p5), .val (.int (0 : Int32)), .val (.ref aKEY_SHARE), .val (.int (1 : Int32)), .val (.int ((((p0).toUInt32 >>> ((1 : Int32) &&& 31).toUInt32).toInt32) % (3 : Int32))), .val (.ref aFFDHE3072), .val (.int (2 : Int32)), .val (.ref a77)] [(.ref a77)]))
        refine own_go (fun _ k => XS.iconst X81.here hx rfl (hb hby at_108) k) ?_
        show OwnGo p e below _ (T81.setTop (mkF m 109 #[.val (.int p0), .val (.int p1), .val (.int p2), .val (.int p3), .val (.int p4), .val (.int p5), .val (.int (0 : Int32)), .val (.ref aKEY_SHARE), .val (.int (1 : Int32)), .val (.int ((((p0).toUInt32 >>> ((1 : Int32) &&& 31).toUInt32).toInt32) % (3 : Int32))), .val (.ref aFFDHE3072), .val (.int (2 : Int32)), .val (.ref a77)] [(.int (2 : Int32)), (.ref a77)]))
        refine own_go (fun _ k => XS.iloadN X81.here hx rfl (hb hby at_109) rfl k) ?_
        show OwnGo p e below _ (T81.setTop (mkF m 110 #[.val (.int p0), .val (.int p1), .val (.int p2), .val (.int p3), .val (.int p4), .val (.int p5), .val (.int (0 : Int32)), .val (.ref aKEY_SHARE), .val (.int (1 : Int32)), .val (.int ((((p0).toUInt32 >>> ((1 : Int32) &&& 31).toUInt32).toInt32) % (3 : Int32))), .val (.ref aFFDHE3072), .val (.int (2 : Int32)), .val (.ref a77)] [(.int p3), (.int (2 : Int32)), (.ref a77)]))
        refine own_go (fun _ k => XS.i2b X81.here hx rfl (hb hby at_110) rfl k) ?_
        show OwnGo p e below _ (T81.setTop (mkF m 111 #[.val (.int p0), .val (.int p1), .val (.int p2), .val (.int p3), .val (.int p4), .val (.int p5), .val (.int (0 : Int32)), .val (.ref aKEY_SHARE), .val (.int (1 : Int32)), .val (.int ((((p0).toUInt32 >>> ((1 : Int32) &&& 31).toUInt32).toInt32) % (3 : Int32))), .val (.ref aFFDHE3072), .val (.int (2 : Int32)), .val (.ref a77)] [(.int ((p3).toInt8.toInt32)), (.int (2 : Int32)), (.ref a77)]))
        obtain ⟨c83, Ar83, q83, S83, M83, H83, G83⟩ := (id V81)
        obtain ⟨T83, h83, X83, e83, W83, st83⟩ := stB X81 hx hZ e81 Ar83 (j := (2 : Int32)) (inb_of S83 ⟨by decide, by decide⟩) (g := (mkF m 111 #[.val (.int p0), .val (.int p1), .val (.int p2), .val (.int p3), .val (.int p4), .val (.int p5), .val (.int (0 : Int32)), .val (.ref aKEY_SHARE), .val (.int (1 : Int32)), .val (.int ((((p0).toUInt32 >>> ((1 : Int32) &&& 31).toUInt32).toInt32) % (3 : Int32))), .val (.ref aFFDHE3072), .val (.int (2 : Int32)), .val (.ref a77)] [(.int ((p3).toInt8.toInt32)), (.int (2 : Int32)), (.ref a77)])) rfl rfl (hb hby at_111)
        rw [own_narb] at W83
        have N83 := Fr.snoc X83 N81 ge77
        have O83 := O81.wr W83 ge77
        have z84 : h0.size ≤ h83.size := Nat.le_trans z82 (Nat.le_of_eq W83.size.symm)
        have V83 : Arv Z h83 a77 k77 .byte (5 : Int32) [(.int ((p1).toInt8.toInt32)), (.int ((p2).toInt8.toInt32)), (.int ((p3).toInt8.toInt32)), (.int (0 : Int32)), (.int (0 : Int32))] (.int (0 : Int32)) := Arv.set Ar83 q83 S83 M83 H83 G83 (fits_nar_byte _) W83 2 (by decide) (Nat.le_of_ble_eq_true rfl)
        refine own_go st83 ?_
        show OwnGo p e below _ (T83.setTop (mkF m 112 #[.val (.int p0), .val (.int p1), .val (.int p2), .val (.int p3), .val (.int p4), .val (.int p5), .val (.int (0 : Int32)), .val (.ref aKEY_SHARE), .val (.int (1 : Int32)), .val (.int ((((p0).toUInt32 >>> ((1 : Int32) &&& 31).toUInt32).toInt32) % (3 : Int32))), .val (.ref aFFDHE3072), .val (.int (2 : Int32)), .val (.ref a77)] []))
        refine own_go (fun _ k => XS.aload X83.here hx rfl (hb hby at_112) rfl rfl k) ?_
        show OwnGo p e below _ (T83.setTop (mkF m 114 #[.val (.int p0), .val (.int p1), .val (.int p2), .val (.int p3), .val (.int p4), .val (.int p5), .val (.int (0 : Int32)), .val (.ref aKEY_SHARE), .val (.int (1 : Int32)), .val (.int ((((p0).toUInt32 >>> ((1 : Int32) &&& 31).toUInt32).toInt32) % (3 : Int32))), .val (.ref aFFDHE3072), .val (.int (2 : Int32)), .val (.ref a77)] [(.ref a77)]))
        refine own_go (fun _ k => XS.iconst X83.here hx rfl (hb hby at_114) k) ?_
        show OwnGo p e below _ (T83.setTop (mkF m 115 #[.val (.int p0), .val (.int p1), .val (.int p2), .val (.int p3), .val (.int p4), .val (.int p5), .val (.int (0 : Int32)), .val (.ref aKEY_SHARE), .val (.int (1 : Int32)), .val (.int ((((p0).toUInt32 >>> ((1 : Int32) &&& 31).toUInt32).toInt32) % (3 : Int32))), .val (.ref aFFDHE3072), .val (.int (2 : Int32)), .val (.ref a77)] [(.int (3 : Int32)), (.ref a77)]))
        refine own_go (fun _ k => XS.iload X83.here hx rfl (hb hby at_115) rfl k) ?_
        show OwnGo p e below _ (T83.setTop (mkF m 117 #[.val (.int p0), .val (.int p1), .val (.int p2), .val (.int p3), .val (.int p4), .val (.int p5), .val (.int (0 : Int32)), .val (.ref aKEY_SHARE), .val (.int (1 : Int32)), .val (.int ((((p0).toUInt32 >>> ((1 : Int32) &&& 31).toUInt32).toInt32) % (3 : Int32))), .val (.ref aFFDHE3072), .val (.int (2 : Int32)), .val (.ref a77)] [(.int p4), (.int (3 : Int32)), (.ref a77)]))
        refine own_go (fun _ k => XS.i2b X83.here hx rfl (hb hby at_117) rfl k) ?_
        show OwnGo p e below _ (T83.setTop (mkF m 118 #[.val (.int p0), .val (.int p1), .val (.int p2), .val (.int p3), .val (.int p4), .val (.int p5), .val (.int (0 : Int32)), .val (.ref aKEY_SHARE), .val (.int (1 : Int32)), .val (.int ((((p0).toUInt32 >>> ((1 : Int32) &&& 31).toUInt32).toInt32) % (3 : Int32))), .val (.ref aFFDHE3072), .val (.int (2 : Int32)), .val (.ref a77)] [(.int ((p4).toInt8.toInt32)), (.int (3 : Int32)), (.ref a77)]))
        obtain ⟨c85, Ar85, q85, S85, M85, H85, G85⟩ := (id V83)
        obtain ⟨T85, h85, X85, e85, W85, st85⟩ := stB X83 hx hZ e83 Ar85 (j := (3 : Int32)) (inb_of S85 ⟨by decide, by decide⟩) (g := (mkF m 118 #[.val (.int p0), .val (.int p1), .val (.int p2), .val (.int p3), .val (.int p4), .val (.int p5), .val (.int (0 : Int32)), .val (.ref aKEY_SHARE), .val (.int (1 : Int32)), .val (.int ((((p0).toUInt32 >>> ((1 : Int32) &&& 31).toUInt32).toInt32) % (3 : Int32))), .val (.ref aFFDHE3072), .val (.int (2 : Int32)), .val (.ref a77)] [(.int ((p4).toInt8.toInt32)), (.int (3 : Int32)), (.ref a77)])) rfl rfl (hb hby at_118)
        rw [own_narb] at W85
        have N85 := Fr.snoc X85 N83 ge77
        have O85 := O83.wr W85 ge77
        have z86 : h0.size ≤ h85.size := Nat.le_trans z84 (Nat.le_of_eq W85.size.symm)
        have V85 : Arv Z h85 a77 k77 .byte (5 : Int32) [(.int ((p1).toInt8.toInt32)), (.int ((p2).toInt8.toInt32)), (.int ((p3).toInt8.toInt32)), (.int ((p4).toInt8.toInt32)), (.int (0 : Int32))] (.int (0 : Int32)) := Arv.set Ar85 q85 S85 M85 H85 G85 (fits_nar_byte _) W85 3 (by decide) (Nat.le_of_ble_eq_true rfl)
        refine own_go st85 ?_
        show OwnGo p e below _ (T85.setTop (mkF m 119 #[.val (.int p0), .val (.int p1), .val (.int p2), .val (.int p3), .val (.int p4), .val (.int p5), .val (.int (0 : Int32)), .val (.ref aKEY_SHARE), .val (.int (1 : Int32)), .val (.int ((((p0).toUInt32 >>> ((1 : Int32) &&& 31).toUInt32).toInt32) % (3 : Int32))), .val (.ref aFFDHE3072), .val (.int (2 : Int32)), .val (.ref a77)] []))
        refine own_go (fun _ k => XS.aload X85.here hx rfl (hb hby at_119) rfl rfl k) ?_
        show OwnGo p e below _ (T85.setTop (mkF m 121 #[.val (.int p0), .val (.int p1), .val (.int p2), .val (.int p3), .val (.int p4), .val (.int p5), .val (.int (0 : Int32)), .val (.ref aKEY_SHARE), .val (.int (1 : Int32)), .val (.int ((((p0).toUInt32 >>> ((1 : Int32) &&& 31).toUInt32).toInt32) % (3 : Int32))), .val (.ref aFFDHE3072), .val (.int (2 : Int32)), .val (.ref a77)] [(.ref a77)]))
        refine own_go (fun _ k => XS.iconst X85.here hx rfl (hb hby at_121) k) ?_
        show OwnGo p e below _ (T85.setTop (mkF m 122 #[.val (.int p0), .val (.int p1), .val (.int p2), .val (.int p3), .val (.int p4), .val (.int p5), .val (.int (0 : Int32)), .val (.ref aKEY_SHARE), .val (.int (1 : Int32)), .val (.int ((((p0).toUInt32 >>> ((1 : Int32) &&& 31).toUInt32).toInt32) % (3 : Int32))), .val (.ref aFFDHE3072), .val (.int (2 : Int32)), .val (.ref a77)] [(.int (4 : Int32)), (.ref a77)]))
        refine own_go (fun _ k => XS.iload X85.here hx rfl (hb hby at_122) rfl k) ?_
        show OwnGo p e below _ (T85.setTop (mkF m 124 #[.val (.int p0), .val (.int p1), .val (.int p2), .val (.int p3), .val (.int p4), .val (.int p5), .val (.int (0 : Int32)), .val (.ref aKEY_SHARE), .val (.int (1 : Int32)), .val (.int ((((p0).toUInt32 >>> ((1 : Int32) &&& 31).toUInt32).toInt32) % (3 : Int32))), .val (.ref aFFDHE3072), .val (.int (2 : Int32)), .val (.ref a77)] [(.int p5), (.int (4 : Int32)), (.ref a77)]))
        refine own_go (fun _ k => XS.i2b X85.here hx rfl (hb hby at_124) rfl k) ?_
        show OwnGo p e below _ (T85.setTop (mkF m 125 #[.val (.int p0), .val (.int p1), .val (.int p2), .val (.int p3), .val (.int p4), .val (.int p5), .val (.int (0 : Int32)), .val (.ref aKEY_SHARE), .val (.int (1 : Int32)), .val (.int ((((p0).toUInt32 >>> ((1 : Int32) &&& 31).toUInt32).toInt32) % (3 : Int32))), .val (.ref aFFDHE3072), .val (.int (2 : Int32)), .val (.ref a77)] [(.int ((p5).toInt8.toInt32)), (.int (4 : Int32)), (.ref a77)]))
        obtain ⟨c87, Ar87, q87, S87, M87, H87, G87⟩ := (id V85)
        obtain ⟨T87, h87, X87, e87, W87, st87⟩ := stB X85 hx hZ e85 Ar87 (j := (4 : Int32)) (inb_of S87 ⟨by decide, by decide⟩) (g := (mkF m 125 #[.val (.int p0), .val (.int p1), .val (.int p2), .val (.int p3), .val (.int p4), .val (.int p5), .val (.int (0 : Int32)), .val (.ref aKEY_SHARE), .val (.int (1 : Int32)), .val (.int ((((p0).toUInt32 >>> ((1 : Int32) &&& 31).toUInt32).toInt32) % (3 : Int32))), .val (.ref aFFDHE3072), .val (.int (2 : Int32)), .val (.ref a77)] [(.int ((p5).toInt8.toInt32)), (.int (4 : Int32)), (.ref a77)])) rfl rfl (hb hby at_125)
        rw [own_narb] at W87
        have N87 := Fr.snoc X87 N85 ge77
        have O87 := O85.wr W87 ge77
        have z88 : h0.size ≤ h87.size := Nat.le_trans z86 (Nat.le_of_eq W87.size.symm)
        have V87 : Arv Z h87 a77 k77 .byte (5 : Int32) [(.int ((p1).toInt8.toInt32)), (.int ((p2).toInt8.toInt32)), (.int ((p3).toInt8.toInt32)), (.int ((p4).toInt8.toInt32)), (.int ((p5).toInt8.toInt32))] (.int (0 : Int32)) := Arv.set Ar87 q87 S87 M87 H87 G87 (fits_nar_byte _) W87 4 (by decide) (Nat.le_of_ble_eq_true rfl)
        refine own_go st87 ?_
        show OwnGo p e below _ (T87.setTop (mkF m 126 #[.val (.int p0), .val (.int p1), .val (.int p2), .val (.int p3), .val (.int p4), .val (.int p5), .val (.int (0 : Int32)), .val (.ref aKEY_SHARE), .val (.int (1 : Int32)), .val (.int ((((p0).toUInt32 >>> ((1 : Int32) &&& 31).toUInt32).toInt32) % (3 : Int32))), .val (.ref aFFDHE3072), .val (.int (2 : Int32)), .val (.ref a77)] []))
        refine own_go (fun _ k => XS.aload X87.here hx rfl (hb hby at_126) rfl rfl k) ?_
        show OwnGo p e below _ (T87.setTop (mkF m 128 #[.val (.int p0), .val (.int p1), .val (.int p2), .val (.int p3), .val (.int p4), .val (.int p5), .val (.int (0 : Int32)), .val (.ref aKEY_SHARE), .val (.int (1 : Int32)), .val (.int ((((p0).toUInt32 >>> ((1 : Int32) &&& 31).toUInt32).toInt32) % (3 : Int32))), .val (.ref aFFDHE3072), .val (.int (2 : Int32)), .val (.ref a77)] [(.ref aKEY_SHARE)]))
        refine own_go (fun _ k => XS.aload X87.here hx rfl (hb hby at_128) rfl rfl k) ?_
        show OwnGo p e below _ (T87.setTop (mkF m 130 #[.val (.int p0), .val (.int p1), .val (.int p2), .val (.int p3), .val (.int p4), .val (.int p5), .val (.int (0 : Int32)), .val (.ref aKEY_SHARE), .val (.int (1 : Int32)), .val (.int ((((p0).toUInt32 >>> ((1 : Int32) &&& 31).toUInt32).toInt32) % (3 : Int32))), .val (.ref aFFDHE3072), .val (.int (2 : Int32)), .val (.ref a77)] [(.ref a77), (.ref aKEY_SHARE)]))
        refine own_go (fun _ k => XS.aload X87.here hx rfl (hb hby at_130) rfl rfl k) ?_
        show OwnGo p e below _ (T87.setTop (mkF m 132 #[.val (.int p0), .val (.int p1), .val (.int p2), .val (.int p3), .val (.int p4), .val (.int p5), .val (.int (0 : Int32)), .val (.ref aKEY_SHARE), .val (.int (1 : Int32)), .val (.int ((((p0).toUInt32 >>> ((1 : Int32) &&& 31).toUInt32).toInt32) % (3 : Int32))), .val (.ref aFFDHE3072), .val (.int (2 : Int32)), .val (.ref a77)] [(.ref aFFDHE3072), (.ref a77), (.ref aKEY_SHARE)]))
        obtain ⟨cq89, kq89, qa89, qb89, qc89⟩ := isOf hZ e87 (F0.2.1.ext O87.2)
        obtain ⟨_, _, ⟨T89, L89, k89, n89⟩, -, X89, ⟨Lc89, hQ89, l89, y89, z89⟩, st89⟩ := X87.virtualBack hx (y := (⟨"com/example/portcullis/portcullis/MessageType", "writeHeader", "([BLcom/example/portcullis/portcullis/Group;)V"⟩ : MethodName)) (z := (⟨"com/example/portcullis/portcullis/MessageType", "writeHeader", "([BLcom/example/portcullis/portcullis/Group;)V"⟩ : MethodName)) hown (mvT hZ (hw _ (List.mem_of_getElem? (i := 7) rfl))) (mvT hZ (hw _ (List.mem_of_getElem? (i := 8) rfl))) (notFace_of_selects (args := #[]) (mvT hZ (hw _ (List.mem_of_getElem? (i := 10) rfl)))) (mvT hZ (hw _ (List.mem_of_getElem? (i := 10) rfl))) (mvT hZ (hw _ (List.mem_of_getElem? (i := 9) rfl))) (by decide) (backOf (W := 0) (rm_wr_aKEY_SHARE_aFFDHE3072 l Z a0 hw [] aKEY_SHARE aFFDHE2048 aFFDHE4096 aCONFIRMATION aFFDHE3072 F0 a77 k77 ((p1).toInt8.toInt32) ((p2).toInt8.toInt32) ((p3).toInt8.toInt32) ((p4).toInt8.toInt32) ((p5).toInt8.toInt32) h87 n0 O87 V87 ge77) hZ (hw _ (List.mem_of_getElem? (i := 11) rfl)) (hw _ (List.mem_of_getElem? (i := 1) rfl)) (by decide) (by decide)) qa89 qc89 (g := (mkF m 132 #[.val (.int p0), .val (.int p1), .val (.int p2), .val (.int p3), .val (.int p4), .val (.int p5), .val (.int (0 : Int32)), .val (.ref aKEY_SHARE), .val (.int (1 : Int32)), .val (.int ((((p0).toUInt32 >>> ((1 : Int32) &&& 31).toUInt32).toInt32) % (3 : Int32))), .val (.ref aFFDHE3072), .val (.int (2 : Int32)), .val (.ref a77)] [(.ref aFFDHE3072), (.ref a77), (.ref aKEY_SHARE)])) rfl (by rw [hml]; rfl) (Steps.refl _) (argsL := [(.ref a77), (.ref aFFDHE3072)]) (rest := []) (lenOf pd__B_Lcom_example_portcullis_portcullis_Group___V rfl) rfl (by show 2 * 0 + _ ≤ _; exact Nat.le_of_eq rfl) (hb hby at_132) (fun _ _ => ⟨rfl, e87, (by decide : 1 + 0 ≤ _), (by decide : 5 + 0 ≤ _)⟩)
        dsimp only [Pt.U, Pt.locs, Pt.cells, Pt.slots] at X89 l89 y89 z89 st89 hQ89
        subst l89 y89 z89
        obtain ⟨rfl, Nq89, K89, x89_0⟩ := hQ89
        have N89 := Fr.app N87 Nq89
        have O89 := O87.keep K89 (allS ge77 all0)
        have e89 : T89.heap = T89.heap := rfl
        have z90 : h0.size ≤ T89.heap.size := Nat.le_trans z88 K89.1
        refine own_go (fun _ k => st89.trans k) ?_
        show OwnGo p e below _ (T89.setTop (mkF m 135 #[.val (.int p0), .val (.int p1), .val (.int p2), .val (.int p3), .val (.int p4), .val (.int p5), .val (.int (0 : Int32)), .val (.ref aKEY_SHARE), .val (.int (1 : Int32)), .val (.int ((((p0).toUInt32 >>> ((1 : Int32) &&& 31).toUInt32).toInt32) % (3 : Int32))), .val (.ref aFFDHE3072), .val (.int (2 : Int32)), .val (.ref a77)] []))
        refine own_go (fun _ k => XS.aload X89.here hx rfl (hb hby at_135) rfl rfl k) ?_
        show OwnGo p e below _ (T89.setTop (mkF m 137 #[.val (.int p0), .val (.int p1), .val (.int p2), .val (.int p3), .val (.int p4), .val (.int p5), .val (.int (0 : Int32)), .val (.ref aKEY_SHARE), .val (.int (1 : Int32)), .val (.int ((((p0).toUInt32 >>> ((1 : Int32) &&& 31).toUInt32).toInt32) % (3 : Int32))), .val (.ref aFFDHE3072), .val (.int (2 : Int32)), .val (.ref a77)] [(.ref a77)]))
        refine own_go (fun _ k => XS.iconst X89.here hx rfl (hb hby at_137) k) ?_
        show OwnGo p e below _ (T89.setTop (mkF m 138 #[.val (.int p0), .val (.int p1), .val (.int p2), .val (.int p3), .val (.int p4), .val (.int p5), .val (.int (0 : Int32)), .val (.ref aKEY_SHARE), .val (.int (1 : Int32)), .val (.int ((((p0).toUInt32 >>> ((1 : Int32) &&& 31).toUInt32).toInt32) % (3 : Int32))), .val (.ref aFFDHE3072), .val (.int (2 : Int32)), .val (.ref a77)] [(.int (0 : Int32)), (.ref a77)]))
        obtain ⟨c91, Ar91, q91, S91, M91, H91, G91⟩ := (id x89_0)
        refine own_go (fun _ k => X89.baloadBytes hx (j := (0 : Int32)) (v := (.int (1 : Int32))) (by rw [e89]; exact Ar91.1) (State.isArrayOf_alike hZ.alike Ar91.2.1) Ar91.2.2 (inb_of S91 ⟨by decide, by decide⟩) (Has.at H91 (inb_of S91 ⟨by decide, by decide⟩) rfl) (g := (mkF m 138 #[.val (.int p0), .val (.int p1), .val (.int p2), .val (.int p3), .val (.int p4), .val (.int p5), .val (.int (0 : Int32)), .val (.ref aKEY_SHARE), .val (.int (1 : Int32)), .val (.int ((((p0).toUInt32 >>> ((1 : Int32) &&& 31).toUInt32).toInt32) % (3 : Int32))), .val (.ref aFFDHE3072), .val (.int (2 : Int32)), .val (.ref a77)] [(.int (0 : Int32)), (.ref a77)])) rfl rfl (hb hby at_138) _ k) ?_
        show OwnGo p e below _ (T89.setTop (mkF m 139 #[.val (.int p0), .val (.int p1), .val (.int p2), .val (.int p3), .val (.int p4), .val (.int p5), .val (.int (0 : Int32)), .val (.ref aKEY_SHARE), .val (.int (1 : Int32)), .val (.int ((((p0).toUInt32 >>> ((1 : Int32) &&& 31).toUInt32).toInt32) % (3 : Int32))), .val (.ref aFFDHE3072), .val (.int (2 : Int32)), .val (.ref a77)] [(.int (1 : Int32))]))
        refine own_go (fun _ k => XS.iconst X89.here hx rfl (hb hby at_139) k) ?_
        show OwnGo p e below _ (T89.setTop (mkF m 140 #[.val (.int p0), .val (.int p1), .val (.int p2), .val (.int p3), .val (.int p4), .val (.int p5), .val (.int (0 : Int32)), .val (.ref aKEY_SHARE), .val (.int (1 : Int32)), .val (.int ((((p0).toUInt32 >>> ((1 : Int32) &&& 31).toUInt32).toInt32) % (3 : Int32))), .val (.ref aFFDHE3072), .val (.int (2 : Int32)), .val (.ref a77)] [(.int (1 : Int32)), (.int (1 : Int32))]))
        refine own_go (fun _ k => XS.icmpNo X89.here hx rfl (hb hby at_140) rfl (by decide) k) ?_
        show OwnGo p e below _ (T89.setTop (mkF m 143 #[.val (.int p0), .val (.int p1), .val (.int p2), .val (.int p3), .val (.int p4), .val (.int p5), .val (.int (0 : Int32)), .val (.ref aKEY_SHARE), .val (.int (1 : Int32)), .val (.int ((((p0).toUInt32 >>> ((1 : Int32) &&& 31).toUInt32).toInt32) % (3 : Int32))), .val (.ref aFFDHE3072), .val (.int (2 : Int32)), .val (.ref a77)] []))
        refine own_go (fun _ k => XS.aload X89.here hx rfl (hb hby at_143) rfl rfl k) ?_
        show OwnGo p e below _ (T89.setTop (mkF m 145 #[.val (.int p0), .val (.int p1), .val (.int p2), .val (.int p3), .val (.int p4), .val (.int p5), .val (.int (0 : Int32)), .val (.ref aKEY_SHARE), .val (.int (1 : Int32)), .val (.int ((((p0).toUInt32 >>> ((1 : Int32) &&& 31).toUInt32).toInt32) % (3 : Int32))), .val (.ref aFFDHE3072), .val (.int (2 : Int32)), .val (.ref a77)] [(.ref a77)]))
        refine own_go (fun _ k => XS.iconst X89.here hx rfl (hb hby at_145) k) ?_
        show OwnGo p e below _ (T89.setTop (mkF m 146 #[.val (.int p0), .val (.int p1), .val (.int p2), .val (.int p3), .val (.int p4), .val (.int p5), .val (.int (0 : Int32)), .val (.ref aKEY_SHARE), .val (.int (1 : Int32)), .val (.int ((((p0).toUInt32 >>> ((1 : Int32) &&& 31).toUInt32).toInt32) % (3 : Int32))), .val (.ref aFFDHE3072), .val (.int (2 : Int32)), .val (.ref a77)] [(.int (1 : Int32)), (.ref a77)]))
        obtain ⟨c92, Ar92, q92, S92, M92, H92, G92⟩ := (id x89_0)
        refine own_go (fun _ k => X89.baloadBytes hx (j := (1 : Int32)) (v := (.int (1 : Int32))) (by rw [e89]; exact Ar92.1) (State.isArrayOf_alike hZ.alike Ar92.2.1) Ar92.2.2 (inb_of S92 ⟨by decide, by decide⟩) (Has.at H92 (inb_of S92 ⟨by decide, by decide⟩) rfl) (g := (mkF m 146 #[.val (.int p0), .val (.int p1), .val (.int p2), .val (.int p3), .val (.int p4), .val (.int p5), .val (.int (0 : Int32)), .val (.ref aKEY_SHARE), .val (.int (1 : Int32)), .val (.int ((((p0).toUInt32 >>> ((1 : Int32) &&& 31).toUInt32).toInt32) % (3 : Int32))), .val (.ref aFFDHE3072), .val (.int (2 : Int32)), .val (.ref a77)] [(.int (1 : Int32)), (.ref a77)])) rfl rfl (hb hby at_146) _ k) ?_
        show OwnGo p e below _ (T89.setTop (mkF m 147 #[.val (.int p0), .val (.int p1), .val (.int p2), .val (.int p3), .val (.int p4), .val (.int p5), .val (.int (0 : Int32)), .val (.ref aKEY_SHARE), .val (.int (1 : Int32)), .val (.int ((((p0).toUInt32 >>> ((1 : Int32) &&& 31).toUInt32).toInt32) % (3 : Int32))), .val (.ref aFFDHE3072), .val (.int (2 : Int32)), .val (.ref a77)] [(.int (1 : Int32))]))
        refine own_go (fun _ k => XS.iload X89.here hx rfl (hb hby at_147) rfl k) ?_
        show OwnGo p e below _ (T89.setTop (mkF m 149 #[.val (.int p0), .val (.int p1), .val (.int p2), .val (.int p3), .val (.int p4), .val (.int p5), .val (.int (0 : Int32)), .val (.ref aKEY_SHARE), .val (.int (1 : Int32)), .val (.int ((((p0).toUInt32 >>> ((1 : Int32) &&& 31).toUInt32).toInt32) % (3 : Int32))), .val (.ref aFFDHE3072), .val (.int (2 : Int32)), .val (.ref a77)] [(.int (1 : Int32)), (.int (1 : Int32))]))
        refine own_go (fun _ k => XS.icmpNo X89.here hx rfl (hb hby at_149) rfl (by decide) k) ?_
        show OwnGo p e below _ (T89.setTop (mkF m 152 #[.val (.int p0), .val (.int p1), .val (.int p2), .val (.int p3), .val (.int p4), .val (.int p5), .val (.int (0 : Int32)), .val (.ref aKEY_SHARE), .val (.int (1 : Int32)), .val (.int ((((p0).toUInt32 >>> ((1 : Int32) &&& 31).toUInt32).toInt32) % (3 : Int32))), .val (.ref aFFDHE3072), .val (.int (2 : Int32)), .val (.ref a77)] []))
        refine own_go (fun _ k => XS.aload X89.here hx rfl (hb hby at_152) rfl rfl k) ?_
        show OwnGo p e below _ (T89.setTop (mkF m 154 #[.val (.int p0), .val (.int p1), .val (.int p2), .val (.int p3), .val (.int p4), .val (.int p5), .val (.int (0 : Int32)), .val (.ref aKEY_SHARE), .val (.int (1 : Int32)), .val (.int ((((p0).toUInt32 >>> ((1 : Int32) &&& 31).toUInt32).toInt32) % (3 : Int32))), .val (.ref aFFDHE3072), .val (.int (2 : Int32)), .val (.ref a77)] [(.ref a77)]))
        refine own_go (fun _ k => XS.iconst X89.here hx rfl (hb hby at_154) k) ?_
        show OwnGo p e below _ (T89.setTop (mkF m 155 #[.val (.int p0), .val (.int p1), .val (.int p2), .val (.int p3), .val (.int p4), .val (.int p5), .val (.int (0 : Int32)), .val (.ref aKEY_SHARE), .val (.int (1 : Int32)), .val (.int ((((p0).toUInt32 >>> ((1 : Int32) &&& 31).toUInt32).toInt32) % (3 : Int32))), .val (.ref aFFDHE3072), .val (.int (2 : Int32)), .val (.ref a77)] [(.int (2 : Int32)), (.ref a77)]))
        obtain ⟨c93, Ar93, q93, S93, M93, H93, G93⟩ := (id x89_0)
        refine own_go (fun _ k => X89.baloadBytes hx (j := (2 : Int32)) (v := (.int (2 : Int32))) (by rw [e89]; exact Ar93.1) (State.isArrayOf_alike hZ.alike Ar93.2.1) Ar93.2.2 (inb_of S93 ⟨by decide, by decide⟩) (Has.at H93 (inb_of S93 ⟨by decide, by decide⟩) rfl) (g := (mkF m 155 #[.val (.int p0), .val (.int p1), .val (.int p2), .val (.int p3), .val (.int p4), .val (.int p5), .val (.int (0 : Int32)), .val (.ref aKEY_SHARE), .val (.int (1 : Int32)), .val (.int ((((p0).toUInt32 >>> ((1 : Int32) &&& 31).toUInt32).toInt32) % (3 : Int32))), .val (.ref aFFDHE3072), .val (.int (2 : Int32)), .val (.ref a77)] [(.int (2 : Int32)), (.ref a77)])) rfl rfl (hb hby at_155) _ k) ?_
        show OwnGo p e below _ (T89.setTop (mkF m 156 #[.val (.int p0), .val (.int p1), .val (.int p2), .val (.int p3), .val (.int p4), .val (.int p5), .val (.int (0 : Int32)), .val (.ref aKEY_SHARE), .val (.int (1 : Int32)), .val (.int ((((p0).toUInt32 >>> ((1 : Int32) &&& 31).toUInt32).toInt32) % (3 : Int32))), .val (.ref aFFDHE3072), .val (.int (2 : Int32)), .val (.ref a77)] [(.int (2 : Int32))]))
        refine own_go (fun _ k => XS.iload X89.here hx rfl (hb hby at_156) rfl k) ?_
        show OwnGo p e below _ (T89.setTop (mkF m 158 #[.val (.int p0), .val (.int p1), .val (.int p2), .val (.int p3), .val (.int p4), .val (.int p5), .val (.int (0 : Int32)), .val (.ref aKEY_SHARE), .val (.int (1 : Int32)), .val (.int ((((p0).toUInt32 >>> ((1 : Int32) &&& 31).toUInt32).toInt32) % (3 : Int32))), .val (.ref aFFDHE3072), .val (.int (2 : Int32)), .val (.ref a77)] [(.int (2 : Int32)), (.int (2 : Int32))]))
        refine own_go (fun _ k => XS.icmpNo X89.here hx rfl (hb hby at_158) rfl (by decide) k) ?_
        show OwnGo p e below _ (T89.setTop (mkF m 161 #[.val (.int p0), .val (.int p1), .val (.int p2), .val (.int p3), .val (.int p4), .val (.int p5), .val (.int (0 : Int32)), .val (.ref aKEY_SHARE), .val (.int (1 : Int32)), .val (.int ((((p0).toUInt32 >>> ((1 : Int32) &&& 31).toUInt32).toInt32) % (3 : Int32))), .val (.ref aFFDHE3072), .val (.int (2 : Int32)), .val (.ref a77)] []))
        refine own_go (fun _ k => XS.aload X89.here hx rfl (hb hby at_161) rfl rfl k) ?_
        show OwnGo p e below _ (T89.setTop (mkF m 163 #[.val (.int p0), .val (.int p1), .val (.int p2), .val (.int p3), .val (.int p4), .val (.int p5), .val (.int (0 : Int32)), .val (.ref aKEY_SHARE), .val (.int (1 : Int32)), .val (.int ((((p0).toUInt32 >>> ((1 : Int32) &&& 31).toUInt32).toInt32) % (3 : Int32))), .val (.ref aFFDHE3072), .val (.int (2 : Int32)), .val (.ref a77)] [(.ref a77)]))
        refine own_go (fun _ k => XS.iconst X89.here hx rfl (hb hby at_163) k) ?_
        show OwnGo p e below _ (T89.setTop (mkF m 164 #[.val (.int p0), .val (.int p1), .val (.int p2), .val (.int p3), .val (.int p4), .val (.int p5), .val (.int (0 : Int32)), .val (.ref aKEY_SHARE), .val (.int (1 : Int32)), .val (.int ((((p0).toUInt32 >>> ((1 : Int32) &&& 31).toUInt32).toInt32) % (3 : Int32))), .val (.ref aFFDHE3072), .val (.int (2 : Int32)), .val (.ref a77)] [(.int (3 : Int32)), (.ref a77)]))
        obtain ⟨c94, Ar94, q94, S94, M94, H94, G94⟩ := (id x89_0)
        refine own_go (fun _ k => X89.baloadBytes hx (j := (3 : Int32)) (v := (.int ((p4).toInt8.toInt32))) (by rw [e89]; exact Ar94.1) (State.isArrayOf_alike hZ.alike Ar94.2.1) Ar94.2.2 (inb_of S94 ⟨by decide, by decide⟩) (Has.at H94 (inb_of S94 ⟨by decide, by decide⟩) rfl) (g := (mkF m 164 #[.val (.int p0), .val (.int p1), .val (.int p2), .val (.int p3), .val (.int p4), .val (.int p5), .val (.int (0 : Int32)), .val (.ref aKEY_SHARE), .val (.int (1 : Int32)), .val (.int ((((p0).toUInt32 >>> ((1 : Int32) &&& 31).toUInt32).toInt32) % (3 : Int32))), .val (.ref aFFDHE3072), .val (.int (2 : Int32)), .val (.ref a77)] [(.int (3 : Int32)), (.ref a77)])) rfl rfl (hb hby at_164) _ k) ?_
        show OwnGo p e below _ (T89.setTop (mkF m 165 #[.val (.int p0), .val (.int p1), .val (.int p2), .val (.int p3), .val (.int p4), .val (.int p5), .val (.int (0 : Int32)), .val (.ref aKEY_SHARE), .val (.int (1 : Int32)), .val (.int ((((p0).toUInt32 >>> ((1 : Int32) &&& 31).toUInt32).toInt32) % (3 : Int32))), .val (.ref aFFDHE3072), .val (.int (2 : Int32)), .val (.ref a77)] [(.int ((p4).toInt8.toInt32))]))
        refine own_go (fun _ k => XS.iload X89.here hx rfl (hb hby at_165) rfl k) ?_
        show OwnGo p e below _ (T89.setTop (mkF m 167 #[.val (.int p0), .val (.int p1), .val (.int p2), .val (.int p3), .val (.int p4), .val (.int p5), .val (.int (0 : Int32)), .val (.ref aKEY_SHARE), .val (.int (1 : Int32)), .val (.int ((((p0).toUInt32 >>> ((1 : Int32) &&& 31).toUInt32).toInt32) % (3 : Int32))), .val (.ref aFFDHE3072), .val (.int (2 : Int32)), .val (.ref a77)] [(.int p4), (.int ((p4).toInt8.toInt32))]))
        refine own_go (fun _ k => XS.i2b X89.here hx rfl (hb hby at_167) rfl k) ?_
        show OwnGo p e below _ (T89.setTop (mkF m 168 #[.val (.int p0), .val (.int p1), .val (.int p2), .val (.int p3), .val (.int p4), .val (.int p5), .val (.int (0 : Int32)), .val (.ref aKEY_SHARE), .val (.int (1 : Int32)), .val (.int ((((p0).toUInt32 >>> ((1 : Int32) &&& 31).toUInt32).toInt32) % (3 : Int32))), .val (.ref aFFDHE3072), .val (.int (2 : Int32)), .val (.ref a77)] [(.int ((p4).toInt8.toInt32)), (.int ((p4).toInt8.toInt32))]))
        refine own_go (fun _ k => XS.icmpNo X89.here hx rfl (hb hby at_168) rfl (teq rfl).2 k) ?_
        show OwnGo p e below _ (T89.setTop (mkF m 171 #[.val (.int p0), .val (.int p1), .val (.int p2), .val (.int p3), .val (.int p4), .val (.int p5), .val (.int (0 : Int32)), .val (.ref aKEY_SHARE), .val (.int (1 : Int32)), .val (.int ((((p0).toUInt32 >>> ((1 : Int32) &&& 31).toUInt32).toInt32) % (3 : Int32))), .val (.ref aFFDHE3072), .val (.int (2 : Int32)), .val (.ref a77)] []))
        refine own_go (fun _ k => XS.aload X89.here hx rfl (hb hby at_171) rfl rfl k) ?_
        show OwnGo p e below _ (T89.setTop (mkF m 173 #[.val (.int p0), .val (.int p1), .val (.int p2), .val (.int p3), .val (.int p4), .val (.int p5), .val (.int (0 : Int32)), .val (.ref aKEY_SHARE), .val (.int (1 : Int32)), .val (.int ((((p0).toUInt32 >>> ((1 : Int32) &&& 31).toUInt32).toInt32) % (3 : Int32))), .val (.ref aFFDHE3072), .val (.int (2 : Int32)), .val (.ref a77)] [(.ref a77)]))
        refine own_go (fun _ k => XS.iconst X89.here hx rfl (hb hby at_173) k) ?_
        show OwnGo p e below _ (T89.setTop (mkF m 174 #[.val (.int p0), .val (.int p1), .val (.int p2), .val (.int p3), .val (.int p4), .val (.int p5), .val (.int (0 : Int32)), .val (.ref aKEY_SHARE), .val (.int (1 : Int32)), .val (.int ((((p0).toUInt32 >>> ((1 : Int32) &&& 31).toUInt32).toInt32) % (3 : Int32))), .val (.ref aFFDHE3072), .val (.int (2 : Int32)), .val (.ref a77)] [(.int (4 : Int32)), (.ref a77)]))
        obtain ⟨c95, Ar95, q95, S95, M95, H95, G95⟩ := (id x89_0)
        refine own_go (fun _ k => X89.baloadBytes hx (j := (4 : Int32)) (v := (.int ((p5).toInt8.toInt32))) (by rw [e89]; exact Ar95.1) (State.isArrayOf_alike hZ.alike Ar95.2.1) Ar95.2.2 (inb_of S95 ⟨by decide, by decide⟩) (Has.at H95 (inb_of S95 ⟨by decide, by decide⟩) rfl) (g := (mkF m 174 #[.val (.int p0), .val (.int p1), .val (.int p2), .val (.int p3), .val (.int p4), .val (.int p5), .val (.int (0 : Int32)), .val (.ref aKEY_SHARE), .val (.int (1 : Int32)), .val (.int ((((p0).toUInt32 >>> ((1 : Int32) &&& 31).toUInt32).toInt32) % (3 : Int32))), .val (.ref aFFDHE3072), .val (.int (2 : Int32)), .val (.ref a77)] [(.int (4 : Int32)), (.ref a77)])) rfl rfl (hb hby at_174) _ k) ?_
        show OwnGo p e below _ (T89.setTop (mkF m 175 #[.val (.int p0), .val (.int p1), .val (.int p2), .val (.int p3), .val (.int p4), .val (.int p5), .val (.int (0 : Int32)), .val (.ref aKEY_SHARE), .val (.int (1 : Int32)), .val (.int ((((p0).toUInt32 >>> ((1 : Int32) &&& 31).toUInt32).toInt32) % (3 : Int32))), .val (.ref aFFDHE3072), .val (.int (2 : Int32)), .val (.ref a77)] [(.int ((p5).toInt8.toInt32))]))
        refine own_go (fun _ k => XS.iload X89.here hx rfl (hb hby at_175) rfl k) ?_
        show OwnGo p e below _ (T89.setTop (mkF m 177 #[.val (.int p0), .val (.int p1), .val (.int p2), .val (.int p3), .val (.int p4), .val (.int p5), .val (.int (0 : Int32)), .val (.ref aKEY_SHARE), .val (.int (1 : Int32)), .val (.int ((((p0).toUInt32 >>> ((1 : Int32) &&& 31).toUInt32).toInt32) % (3 : Int32))), .val (.ref aFFDHE3072), .val (.int (2 : Int32)), .val (.ref a77)] [(.int p5), (.int ((p5).toInt8.toInt32))]))
        refine own_go (fun _ k => XS.i2b X89.here hx rfl (hb hby at_177) rfl k) ?_
        show OwnGo p e below _ (T89.setTop (mkF m 178 #[.val (.int p0), .val (.int p1), .val (.int p2), .val (.int p3), .val (.int p4), .val (.int p5), .val (.int (0 : Int32)), .val (.ref aKEY_SHARE), .val (.int (1 : Int32)), .val (.int ((((p0).toUInt32 >>> ((1 : Int32) &&& 31).toUInt32).toInt32) % (3 : Int32))), .val (.ref aFFDHE3072), .val (.int (2 : Int32)), .val (.ref a77)] [(.int ((p5).toInt8.toInt32)), (.int ((p5).toInt8.toInt32))]))
        refine own_go (fun _ k => XS.icmpNo X89.here hx rfl (hb hby at_178) rfl (teq rfl).2 k) ?_
        show OwnGo p e below _ (T89.setTop (mkF m 181 #[.val (.int p0), .val (.int p1), .val (.int p2), .val (.int p3), .val (.int p4), .val (.int p5), .val (.int (0 : Int32)), .val (.ref aKEY_SHARE), .val (.int (1 : Int32)), .val (.int ((((p0).toUInt32 >>> ((1 : Int32) &&& 31).toUInt32).toInt32) % (3 : Int32))), .val (.ref aFFDHE3072), .val (.int (2 : Int32)), .val (.ref a77)] []))
        refine own_go (fun _ k => XS.iconst X89.here hx rfl (hb hby at_181) k) ?_
        show OwnGo p e below _ (T89.setTop (mkF m 182 #[.val (.int p0), .val (.int p1), .val (.int p2), .val (.int p3), .val (.int p4), .val (.int p5), .val (.int (0 : Int32)), .val (.ref aKEY_SHARE), .val (.int (1 : Int32)), .val (.int ((((p0).toUInt32 >>> ((1 : Int32) &&& 31).toUInt32).toInt32) % (3 : Int32))), .val (.ref aFFDHE3072), .val (.int (2 : Int32)), .val (.ref a77)] [(.int (1 : Int32))]))
        refine own_go (fun _ k => XS.goto X89.here hx rfl (pc0 := 182) (pc' := 186) rfl (hb hby at_182) (by decide) (by decide) k) ?_
        show OwnGo p e below _ (T89.setTop (mkF m 186 #[.val (.int p0), .val (.int p1), .val (.int p2), .val (.int p3), .val (.int p4), .val (.int p5), .val (.int (0 : Int32)), .val (.ref aKEY_SHARE), .val (.int (1 : Int32)), .val (.int ((((p0).toUInt32 >>> ((1 : Int32) &&& 31).toUInt32).toInt32) % (3 : Int32))), .val (.ref aFFDHE3072), .val (.int (2 : Int32)), .val (.ref a77)] [(.int (1 : Int32))]))
        obtain ⟨fs, hr, hrun, hended, hW, hsame⟩ := X89.leave (v := some (.int (1 : Int32))) (fun h => by rw [Bd.returns] at h; cases h)
        refine ⟨_, _, retOut X89 hx Bd.returns rfl (Or.inl ⟨rfl, Or.inr (Or.inl rfl), _, rfl⟩) (hb hby at_186) hr, hrun, hended, _, _, rfl, ?_, ⟨_, rfl⟩, hW, hsame.mono (by decide) (by decide)⟩
        show Q_law Z aKEY_SHARE aFFDHE2048 aFFDHE4096 aCONFIRMATION aFFDHE3072 p0 p1 p2 p3 p4 p5 h0 n0 _ T89.heap _
        rw [e89]
        exact ⟨rfl, N89⟩
      · refine own_go (fun _ k => XS.icmpYes X53.here hx rfl (pc0 := 67) (pc' := 81) rfl (hb hby at_67) rfl (feq hc75).2 (by decide) (by decide) k) ?_
        show OwnGo p e below _ (T53.setTop (mkF m 81 #[.val (.int p0), .val (.int p1), .val (.int p2), .val (.int p3), .val (.int p4), .val (.int p5), .val (.int (0 : Int32)), .val (.ref aKEY_SHARE), .val (.int (1 : Int32)), .val (.int ((((p0).toUInt32 >>> ((1 : Int32) &&& 31).toUInt32).toInt32) % (3 : Int32))), .unset, .unset, .unset] []))
        obtain ⟨T96, X96, e96, st96⟩ := getS X53 hx hZ hown (host := "") (hw _ (List.mem_of_getElem? (i := 21) rfl)) Via.refl e53 (F0.2.2.2.2.2.2.1.ext O0.2) (g := (mkF m 81 #[.val (.int p0), .val (.int p1), .val (.int p2), .val (.int p3), .val (.int p4), .val (.int p5), .val (.int (0 : Int32)), .val (.ref aKEY_SHARE), .val (.int (1 : Int32)), .val (.int ((((p0).toUInt32 >>> ((1 : Int32) &&& 31).toUInt32).toInt32) % (3 : Int32))), .unset, .unset, .unset] [])) rfl (hb hby at_81)
        refine own_go st96 ?_
        show OwnGo p e below _ (T96.setTop (mkF m 84 #[.val (.int p0), .val (.int p1), .val (.int p2), .val (.int p3), .val (.int p4), .val (.int p5), .val (.int (0 : Int32)), .val (.ref aKEY_SHARE), .val (.int (1 : Int32)), .val (.int ((((p0).toUInt32 >>> ((1 : Int32) &&& 31).toUInt32).toInt32) % (3 : Int32))), .unset, .unset, .unset] [(.ref aFFDHE4096)]))
        refine own_go (fun _ k => XS.astore X96.here hx rfl (hb hby at_84) rfl rfl (l' := #[.val (.int p0), .val (.int p1), .val (.int p2), .val (.int p3), .val (.int p4), .val (.int p5), .val (.int (0 : Int32)), .val (.ref aKEY_SHARE), .val (.int (1 : Int32)), .val (.int ((((p0).toUInt32 >>> ((1 : Int32) &&& 31).toUInt32).toInt32) % (3 : Int32))), .val (.ref aFFDHE4096), .unset, .unset]) rfl k) ?_
        show OwnGo p e below _ (T96.setTop (mkF m 86 #[.val (.int p0), .val (.int p1), .val (.int p2), .val (.int p3), .val (.int p4), .val (.int p5), .val (.int (0 : Int32)), .val (.ref aKEY_SHARE), .val (.int (1 : Int32)), .val (.int ((((p0).toUInt32 >>> ((1 : Int32) &&& 31).toUInt32).toInt32) % (3 : Int32))), .val (.ref aFFDHE4096), .unset, .unset] []))
        refine own_go (fun _ k => XS.iconst X96.here hx rfl (hb hby at_86) k) ?_
        show OwnGo p e below _ (T96.setTop (mkF m 87 #[.val (.int p0), .val (.int p1), .val (.int p2), .val (.int p3), .val (.int p4), .val (.int p5), .val (.int (0 : Int32)), .val (.ref aKEY_SHARE), .val (.int (1 : Int32)), .val (.int ((((p0).toUInt32 >>> ((1 : Int32) &&& 31).toUInt32).toInt32) % (3 : Int32))), .val (.ref aFFDHE4096), .unset, .unset] [(.int (3 : Int32))]))
        refine own_go (fun _ k => XS.istore X96.here hx rfl (hb hby at_87) rfl (l' := #[.val (.int p0), .val (.int p1), .val (.int p2), .val (.int p3), .val (.int p4), .val (.int p5), .val (.int (0 : Int32)), .val (.ref aKEY_SHARE), .val (.int (1 : Int32)), .val (.int ((((p0).toUInt32 >>> ((1 : Int32) &&& 31).toUInt32).toInt32) % (3 : Int32))), .val (.ref aFFDHE4096), .val (.int (3 : Int32)), .unset]) rfl k) ?_
        show OwnGo p e below _ (T96.setTop (mkF m 89 #[.val (.int p0), .val (.int p1), .val (.int p2), .val (.int p3), .val (.int p4), .val (.int p5), .val (.int (0 : Int32)), .val (.ref aKEY_SHARE), .val (.int (1 : Int32)), .val (.int ((((p0).toUInt32 >>> ((1 : Int32) &&& 31).toUInt32).toInt32) % (3 : Int32))), .val (.ref aFFDHE4096), .val (.int (3 : Int32)), .unset] []))
        refine own_go (fun _ k => XS.iconst X96.here hx rfl (hb hby at_89) k) ?_
        show OwnGo p e below _ (T96.setTop (mkF m 90 #[.val (.int p0), .val (.int p1), .val (.int p2), .val (.int p3), .val (.int p4), .val (.int p5), .val (.int (0 : Int32)), .val (.ref aKEY_SHARE), .val (.int (1 : Int32)), .val (.int ((((p0).toUInt32 >>> ((1 : Int32) &&& 31).toUInt32).toInt32) % (3 : Int32))), .val (.ref aFFDHE4096), .val (.int (3 : Int32)), .unset] [(.int (5 : Int32))]))
        obtain ⟨T97, h97, k97, X97, e97, E97, A97, st97⟩ := newP X96 hx hZ (hw _ (List.mem_of_getElem? (i := 6) rfl)) e96 (g := (mkF m 90 #[.val (.int p0), .val (.int p1), .val (.int p2), .val (.int p3), .val (.int p4), .val (.int p5), .val (.int (0 : Int32)), .val (.ref aKEY_SHARE), .val (.int (1 : Int32)), .val (.int ((((p0).toUInt32 >>> ((1 : Int32) &&& 31).toUInt32).toInt32) % (3 : Int32))), .val (.ref aFFDHE4096), .val (.int (3 : Int32)), .unset] [(.int (5 : Int32))])) rfl (hb hby at_90) rfl (by decide) (cap := 5) (by decide) (by decide) (by decide) (by decide)
        obtain ⟨a97, g97⟩ : ∃ z, z = h0.size := ⟨_, rfl⟩
        rw [← g97] at A97 st97
        have ge97 : n0 ≤ a97 := Nat.le_trans (own_sz O0) (Nat.le_of_eq g97.symm)
        have gh97 : h0.size ≤ a97 := Nat.le_trans (Nat.le_refl _) (Nat.le_of_eq g97.symm)
        have O97 := O0.ext E97
        have z98 : h0.size ≤ h97.size := Nat.le_trans (Nat.le_refl _) E97.1
        have V97 : Arv Z h97 a97 k97 .byte (5 : Int32) [(.int (0 : Int32)), (.int (0 : Int32)), (.int (0 : Int32)), (.int (0 : Int32)), (.int (0 : Int32))] (.int (0 : Int32)) := (Arv.new A97 (by decide)).pad (pad_rep [] _ 5)
        refine own_go st97 ?_
        show OwnGo p e below _ (T97.setTop (mkF m 92 #[.val (.int p0), .val (.int p1), .val (.int p2), .val (.int p3), .val (.int p4), .val (.int p5), .val (.int (0 : Int32)), .val (.ref aKEY_SHARE), .val (.int (1 : Int32)), .val (.int ((((p0).toUInt32 >>> ((1 : Int32) &&& 31).toUInt32).toInt32) % (3 : Int32))), .val (.ref aFFDHE4096), .val (.int (3 : Int32)), .unset] [(.ref a97)]))
        refine own_go (fun _ k => XS.astore X97.here hx rfl (hb hby at_92) rfl rfl (l' := #[.val (.int p0), .val (.int p1), .val (.int p2), .val (.int p3), .val (.int p4), .val (.int p5), .val (.int (0 : Int32)), .val (.ref aKEY_SHARE), .val (.int (1 : Int32)), .val (.int ((((p0).toUInt32 >>> ((1 : Int32) &&& 31).toUInt32).toInt32) % (3 : Int32))), .val (.ref aFFDHE4096), .val (.int (3 : Int32)), .val (.ref a97)]) rfl k) ?_
        show OwnGo p e below _ (T97.setTop (mkF m 94 #[.val (.int p0), .val (.int p1), .val (.int p2), .val (.int p3), .val (.int p4), .val (.int p5), .val (.int (0 : Int32)), .val (.ref aKEY_SHARE), .val (.int (1 : Int32)), .val (.int ((((p0).toUInt32 >>> ((1 : Int32) &&& 31).toUInt32).toInt32) % (3 : Int32))), .val (.ref aFFDHE4096), .val (.int (3 : Int32)), .val (.ref a97)] []))
        refine own_go (fun _ k => XS.aload X97.here hx rfl (hb hby at_94) rfl rfl k) ?_
        show OwnGo p e below _ (T97.setTop (mkF m 96 #[.val (.int p0), .val (.int p1), .val (.int p2), .val (.int p3), .val (.int p4), .val (.int p5), .val (.int (0 : Int32)), .val (.ref aKEY_SHARE), .val (.int (1 : Int32)), .val (.int ((((p0).toUInt32 >>> ((1 : Int32) &&& 31).toUInt32).toInt32) % (3 : Int32))), .val (.ref aFFDHE4096), .val (.int (3 : Int32)), .val (.ref a97)] [(.ref a97)]))
        refine own_go (fun _ k => XS.iconst X97.here hx rfl (hb hby at_96) k) ?_
        show OwnGo p e below _ (T97.setTop (mkF m 97 #[.val (.int p0), .val (.int p1), .val (.int p2), .val (.int p3), .val (.int p4), .val (.int p5), .val (.int (0 : Int32)), .val (.ref aKEY_SHARE), .val (.int (1 : Int32)), .val (.int ((((p0).toUInt32 >>> ((1 : Int32) &&& 31).toUInt32).toInt32) % (3 : Int32))), .val (.ref aFFDHE4096), .val (.int (3 : Int32)), .val (.ref a97)] [(.int (0 : Int32)), (.ref a97)]))
        refine own_go (fun _ k => XS.iloadN X97.here hx rfl (hb hby at_97) rfl k) ?_
        show OwnGo p e below _ (T97.setTop (mkF m 98 #[.val (.int p0), .val (.int p1), .val (.int p2), .val (.int p3), .val (.int p4), .val (.int p5), .val (.int (0 : Int32)), .val (.ref aKEY_SHARE), .val (.int (1 : Int32)), .val (.int ((((p0).toUInt32 >>> ((1 : Int32) &&& 31).toUInt32).toInt32) % (3 : Int32))), .val (.ref aFFDHE4096), .val (.int (3 : Int32)), .val (.ref a97)] [(.int p1), (.int (0 : Int32)), (.ref a97)]))
        refine own_go (fun _ k => XS.i2b X97.here hx rfl (hb hby at_98) rfl k) ?_
        show OwnGo p e below _ (T97.setTop (mkF m 99 #[.val (.int p0), .val (.int p1), .val (.int p2), .val (.int p3), .val (.int p4), .val (.int p5), .val (.int (0 : Int32)), .val (.ref aKEY_SHARE), .val (.int (1 : Int32)), .val (.int ((((p0).toUInt32 >>> ((1 : Int32) &&& 31).toUInt32).toInt32) % (3 : Int32))), .val (.ref aFFDHE4096), .val (.int (3 : Int32)), .val (.ref a97)] [(.int ((p1).toInt8.toInt32)), (.int (0 : Int32)), (.ref a97)]))
        obtain ⟨c99, Ar99, q99, S99, M99, H99, G99⟩ := (id V97)
        obtain ⟨T99, h99, X99, e99, W99, st99⟩ := stB X97 hx hZ e97 Ar99 (j := (0 : Int32)) (inb_of S99 ⟨by decide, by decide⟩) (g := (mkF m 99 #[.val (.int p0), .val (.int p1), .val (.int p2), .val (.int p3), .val (.int p4), .val (.int p5), .val (.int (0 : Int32)), .val (.ref aKEY_SHARE), .val (.int (1 : Int32)), .val (.int ((((p0).toUInt32 >>> ((1 : Int32) &&& 31).toUInt32).toInt32) % (3 : Int32))), .val (.ref aFFDHE4096), .val (.int (3 : Int32)), .val (.ref a97)] [(.int ((p1).toInt8.toInt32)), (.int (0 : Int32)), (.ref a97)])) rfl rfl (hb hby at_99)
        rw [own_narb] at W99
        have N99 := Fr.snoc X99 N0 ge97
        have O99 := O97.wr W99 ge97
        have z100 : h0.size ≤ h99.size := Nat.le_trans z98 (Nat.le_of_eq W99.size.symm)
        have V99 : Arv Z h99 a97 k97 .byte (5 : Int32) [(.int ((p1).toInt8.toInt32)), (.int (0 : Int32)), (.int (0 : Int32)), (.int (0 : Int32)), (.int (0 : Int32))] (.int (0 : Int32)) := Arv.set Ar99 q99 S99 M99 H99 G99 (fits_nar_byte _) W99 0 (by decide) (Nat.le_of_ble_eq_true rfl)
        refine own_go st99 ?_
        show OwnGo p e below _ (T99.setTop (mkF m 100 #[.val (.int p0), .val (.int p1), .val (.int p2), .val (.int p3), .val (.int p4), .val (.int p5), .val (.int (0 : Int32)), .val (.ref aKEY_SHARE), .val (.int (1 : Int32)), .val (.int ((((p0).toUInt32 >>> ((1 : Int32) &&& 31).toUInt32).toInt32) % (3 : Int32))), .val (.ref aFFDHE4096), .val (.int (3 : Int32)), .val (.ref a97)] []))
        refine own_go (fun _ k => XS.aload X99.here hx rfl (hb hby at_100) rfl rfl k) ?_
        show OwnGo p e below _ (T99.setTop (mkF m 102 #[.val (.int p0), .val (.int p1), .val (.int p2), .val (.int p3), .val (.int p4), .val (.int p5), .val (.int (0 : Int32)), .val (.ref aKEY_SHARE), .val (.int (1 : Int32)), .val (.int ((((p0).toUInt32 >>> ((1 : Int32) &&& 31).toUInt32).toInt32) % (3 : Int32))), .val (.ref aFFDHE4096), .val (.int (3 : Int32)), .val (.ref a97)] [(.ref a97)]))
        refine own_go (fun _ k => XS.iconst X99.here hx rfl (hb hby at_102) k) ?_
        show OwnGo p e below _ (T99.setTop (mkF m 103 #[.val (.int p0), .val (.int p1), .val (.int p2), .val (.int p3), .val (.int p4), .val (.int p5), .val (.int (0 : Int32)), .val (.ref aKEY_SHARE), .val (.int (1 : Int32)), .val (.int ((((p0).toUInt32 >>> ((1 : Int32) &&& 31).toUInt32).toInt32) % (3 : Int32))), .val (.ref aFFDHE4096), .val (.int (3 : Int32)), .val (.ref a97)] [(.int (1 : Int32)), (.ref a97)]))
        refine own_go (fun _ k => XS.iloadN X99.here hx rfl (hb hby at_103) rfl k) ?_
        show OwnGo p e below _ (T99.setTop (mkF m 104 #[.val (.int p0), .val (.int p1), .val (.int p2), .val (.int p3), .val (.int p4), .val (.int p5), .val (.int (0 : Int32)), .val (.ref aKEY_SHARE), .val (.int (1 : Int32)), .val (.int ((((p0).toUInt32 >>> ((1 : Int32) &&& 31).toUInt32).toInt32) % (3 : Int32))), .val (.ref aFFDHE4096), .val (.int (3 : Int32)), .val (.ref a97)] [(.int p2), (.int (1 : Int32)), (.ref a97)]))
        refine own_go (fun _ k => XS.i2b X99.here hx rfl (hb hby at_104) rfl k) ?_
        show OwnGo p e below _ (T99.setTop (mkF m 105 #[.val (.int p0), .val (.int p1), .val (.int p2), .val (.int p3), .val (.int p4), .val (.int p5), .val (.int (0 : Int32)), .val (.ref aKEY_SHARE), .val (.int (1 : Int32)), .val (.int ((((p0).toUInt32 >>> ((1 : Int32) &&& 31).toUInt32).toInt32) % (3 : Int32))), .val (.ref aFFDHE4096), .val (.int (3 : Int32)), .val (.ref a97)] [(.int ((p2).toInt8.toInt32)), (.int (1 : Int32)), (.ref a97)]))
        obtain ⟨c101, Ar101, q101, S101, M101, H101, G101⟩ := (id V99)
        obtain ⟨T101, h101, X101, e101, W101, st101⟩ := stB X99 hx hZ e99 Ar101 (j := (1 : Int32)) (inb_of S101 ⟨by decide, by decide⟩) (g := (mkF m 105 #[.val (.int p0), .val (.int p1), .val (.int p2), .val (.int p3), .val (.int p4), .val (.int p5), .val (.int (0 : Int32)), .val (.ref aKEY_SHARE), .val (.int (1 : Int32)), .val (.int ((((p0).toUInt32 >>> ((1 : Int32) &&& 31).toUInt32).toInt32) % (3 : Int32))), .val (.ref aFFDHE4096), .val (.int (3 : Int32)), .val (.ref a97)] [(.int ((p2).toInt8.toInt32)), (.int (1 : Int32)), (.ref a97)])) rfl rfl (hb hby at_105)
        rw [own_narb] at W101
        have N101 := Fr.snoc X101 N99 ge97
        have O101 := O99.wr W101 ge97
        have z102 : h0.size ≤ h101.size := Nat.le_trans z100 (Nat.le_of_eq W101.size.symm)
        have V101 : Arv Z h101 a97 k97 .byte (5 : Int32) [(.int ((p1).toInt8.toInt32)), (.int ((p2).toInt8.toInt32)), (.int (0 : Int32)), (.int (0 : Int32)), (.int (0 : Int32))] (.int (0 : Int32)) := Arv.set Ar101 q101 S101 M101 H101 G101 (fits_nar_byte _) W101 1 (by decide) (Nat.le_of_ble_eq_true rfl)
        refine own_go st101 ?_
        show OwnGo p e below _ (T101.setTop (mkF m 106 #[.val (.int p0), .val (.int p1), .val (.int p2), .val (.int p3), .val (.int p4), .val (.int p5), .val (.int (0 : Int32)), .val (.ref aKEY_SHARE), .val (.int (1 : Int32)), .val (.int ((((p0).toUInt32 >>> ((1 : Int32) &&& 31).toUInt32).toInt32) % (3 : Int32))), .val (.ref aFFDHE4096), .val (.int (3 : Int32)), .val (.ref a97)] []))
        refine own_go (fun _ k => XS.aload X101.here hx rfl (hb hby at_106) rfl rfl k) ?_
        show OwnGo p e below _ (T101.setTop (mkF m 108 #[.val (.int p0), .val (.int p1), .val (.int p2), .val (.int p3), .val (.int p4), .val (.int p5), .val (.int (0 : Int32)), .val (.ref aKEY_SHARE), .val (.int (1 : Int32)), .val (.int ((((p0).toUInt32 >>> ((1 : Int32) &&& 31).toUInt32).toInt32) % (3 : Int32))), .val (.ref aFFDHE4096), .val (.int (3 : Int32)), .val (.ref a97)] [(.ref a97)]))
        refine own_go (fun _ k => XS.iconst X101.here hx rfl (hb hby at_108) k) ?_
        show OwnGo p e below _ (T101.setTop (mkF m 109 #[.val (.int p0), .val (.int p1), .val (.int p2), .val (.int p3), .val (.int p4), .val (.int p5), .val (.int (0 : Int32)), .val (.ref aKEY_SHARE), .val (.int (1 : Int32)), .val (.int ((((p0).toUInt32 >>> ((1 : Int32) &&& 31).toUInt32).toInt32) % (3 : Int32))), .val (.ref aFFDHE4096), .val (.int (3 : Int32)), .val (.ref a97)] [(.int (2 : Int32)), (.ref a97)]))
        refine own_go (fun _ k => XS.iloadN X101.here hx rfl (hb hby at_109) rfl k) ?_
        show OwnGo p e below _ (T101.setTop (mkF m 110 #[.val (.int p0), .val (.int p1), .val (.int p2), .val (.int p3), .val (.int p4), .val (.int p5), .val (.int (0 : Int32)), .val (.ref aKEY_SHARE), .val (.int (1 : Int32)), .val (.int ((((p0).toUInt32 >>> ((1 : Int32) &&& 31).toUInt32).toInt32) % (3 : Int32))), .val (.ref aFFDHE4096), .val (.int (3 : Int32)), .val (.ref a97)] [(.int p3), (.int (2 : Int32)), (.ref a97)]))
        refine own_go (fun _ k => XS.i2b X101.here hx rfl (hb hby at_110) rfl k) ?_
        show OwnGo p e below _ (T101.setTop (mkF m 111 #[.val (.int p0), .val (.int p1), .val (.int p2), .val (.int p3), .val (.int p4), .val (.int p5), .val (.int (0 : Int32)), .val (.ref aKEY_SHARE), .val (.int (1 : Int32)), .val (.int ((((p0).toUInt32 >>> ((1 : Int32) &&& 31).toUInt32).toInt32) % (3 : Int32))), .val (.ref aFFDHE4096), .val (.int (3 : Int32)), .val (.ref a97)] [(.int ((p3).toInt8.toInt32)), (.int (2 : Int32)), (.ref a97)]))
        obtain ⟨c103, Ar103, q103, S103, M103, H103, G103⟩ := (id V101)
        obtain ⟨T103, h103, X103, e103, W103, st103⟩ := stB X101 hx hZ e101 Ar103 (j := (2 : Int32)) (inb_of S103 ⟨by decide, by decide⟩) (g := (mkF m 111 #[.val (.int p0), .val (.int p1), .val (.int p2), .val (.int p3), .val (.int p4), .val (.int p5), .val (.int (0 : Int32)), .val (.ref aKEY_SHARE), .val (.int (1 : Int32)), .val (.int ((((p0).toUInt32 >>> ((1 : Int32) &&& 31).toUInt32).toInt32) % (3 : Int32))), .val (.ref aFFDHE4096), .val (.int (3 : Int32)), .val (.ref a97)] [(.int ((p3).toInt8.toInt32)), (.int (2 : Int32)), (.ref a97)])) rfl rfl (hb hby at_111)
        rw [own_narb] at W103
        have N103 := Fr.snoc X103 N101 ge97
        have O103 := O101.wr W103 ge97
        have z104 : h0.size ≤ h103.size := Nat.le_trans z102 (Nat.le_of_eq W103.size.symm)
        have V103 : Arv Z h103 a97 k97 .byte (5 : Int32) [(.int ((p1).toInt8.toInt32)), (.int ((p2).toInt8.toInt32)), (.int ((p3).toInt8.toInt32)), (.int (0 : Int32)), (.int (0 : Int32))] (.int (0 : Int32)) := Arv.set Ar103 q103 S103 M103 H103 G103 (fits_nar_byte _) W103 2 (by decide) (Nat.le_of_ble_eq_true rfl)
        refine own_go st103 ?_
        show OwnGo p e below _ (T103.setTop (mkF m 112 #[.val (.int p0), .val (.int p1), .val (.int p2), .val (.int p3), .val (.int p4), .val (.int p5), .val (.int (0 : Int32)), .val (.ref aKEY_SHARE), .val (.int (1 : Int32)), .val (.int ((((p0).toUInt32 >>> ((1 : Int32) &&& 31).toUInt32).toInt32) % (3 : Int32))), .val (.ref aFFDHE4096), .val (.int (3 : Int32)), .val (.ref a97)] []))
        refine own_go (fun _ k => XS.aload X103.here hx rfl (hb hby at_112) rfl rfl k) ?_
        show OwnGo p e below _ (T103.setTop (mkF m 114 #[.val (.int p0), .val (.int p1), .val (.int p2), .val (.int p3), .val (.int p4), .val (.int p5), .val (.int (0 : Int32)), .val (.ref aKEY_SHARE), .val (.int (1 : Int32)), .val (.int ((((p0).toUInt32 >>> ((1 : Int32) &&& 31).toUInt32).toInt32) % (3 : Int32))), .val (.ref aFFDHE4096), .val (.int (3 : Int32)), .val (.ref a97)] [(.ref a97)]))
        refine own_go (fun _ k => XS.iconst X103.here hx rfl (hb hby at_114) k) ?_
        show OwnGo p e below _ (T103.setTop (mkF m 115 #[.val (.int p0), .val (.int p1), .val (.int p2), .val (.int p3), .val (.int p4), .val (.int p5), .val (.int (0 : Int32)), .val (.ref aKEY_SHARE), .val (.int (1 : Int32)), .val (.int ((((p0).toUInt32 >>> ((1 : Int32) &&& 31).toUInt32).toInt32) % (3 : Int32))), .val (.ref aFFDHE4096), .val (.int (3 : Int32)), .val (.ref a97)] [(.int (3 : Int32)), (.ref a97)]))
        refine own_go (fun _ k => XS.iload X103.here hx rfl (hb hby at_115) rfl k) ?_
        show OwnGo p e below _ (T103.setTop (mkF m 117 #[.val (.int p0), .val (.int p1), .val (.int p2), .val (.int p3), .val (.int p4), .val (.int p5), .val (.int (0 : Int32)), .val (.ref aKEY_SHARE), .val (.int (1 : Int32)), .val (.int ((((p0).toUInt32 >>> ((1 : Int32) &&& 31).toUInt32).toInt32) % (3 : Int32))), .val (.ref aFFDHE4096), .val (.int (3 : Int32)), .val (.ref a97)] [(.int p4), (.int (3 : Int32)), (.ref a97)]))
        refine own_go (fun _ k => XS.i2b X103.here hx rfl (hb hby at_117) rfl k) ?_
        show OwnGo p e below _ (T103.setTop (mkF m 118 #[.val (.int p0), .val (.int p1), .val (.int p2), .val (.int p3), .val (.int p4), .val (.int p5), .val (.int (0 : Int32)), .val (.ref aKEY_SHARE), .val (.int (1 : Int32)), .val (.int ((((p0).toUInt32 >>> ((1 : Int32) &&& 31).toUInt32).toInt32) % (3 : Int32))), .val (.ref aFFDHE4096), .val (.int (3 : Int32)), .val (.ref a97)] [(.int ((p4).toInt8.toInt32)), (.int (3 : Int32)), (.ref a97)]))
        obtain ⟨c105, Ar105, q105, S105, M105, H105, G105⟩ := (id V103)
        obtain ⟨T105, h105, X105, e105, W105, st105⟩ := stB X103 hx hZ e103 Ar105 (j := (3 : Int32)) (inb_of S105 ⟨by decide, by decide⟩) (g := (mkF m 118 #[.val (.int p0), .val (.int p1), .val (.int p2), .val (.int p3), .val (.int p4), .val (.int p5), .val (.int (0 : Int32)), .val (.ref aKEY_SHARE), .val (.int (1 : Int32)), .val (.int ((((p0).toUInt32 >>> ((1 : Int32) &&& 31).toUInt32).toInt32) % (3 : Int32))), .val (.ref aFFDHE4096), .val (.int (3 : Int32)), .val (.ref a97)] [(.int ((p4).toInt8.toInt32)), (.int (3 : Int32)), (.ref a97)])) rfl rfl (hb hby at_118)
        rw [own_narb] at W105
        have N105 := Fr.snoc X105 N103 ge97
        have O105 := O103.wr W105 ge97
        have z106 : h0.size ≤ h105.size := Nat.le_trans z104 (Nat.le_of_eq W105.size.symm)
        have V105 : Arv Z h105 a97 k97 .byte (5 : Int32) [(.int ((p1).toInt8.toInt32)), (.int ((p2).toInt8.toInt32)), (.int ((p3).toInt8.toInt32)), (.int ((p4).toInt8.toInt32)), (.int (0 : Int32))] (.int (0 : Int32)) := Arv.set Ar105 q105 S105 M105 H105 G105 (fits_nar_byte _) W105 3 (by decide) (Nat.le_of_ble_eq_true rfl)
        refine own_go st105 ?_
        show OwnGo p e below _ (T105.setTop (mkF m 119 #[.val (.int p0), .val (.int p1), .val (.int p2), .val (.int p3), .val (.int p4), .val (.int p5), .val (.int (0 : Int32)), .val (.ref aKEY_SHARE), .val (.int (1 : Int32)), .val (.int ((((p0).toUInt32 >>> ((1 : Int32) &&& 31).toUInt32).toInt32) % (3 : Int32))), .val (.ref aFFDHE4096), .val (.int (3 : Int32)), .val (.ref a97)] []))
        refine own_go (fun _ k => XS.aload X105.here hx rfl (hb hby at_119) rfl rfl k) ?_
        show OwnGo p e below _ (T105.setTop (mkF m 121 #[.val (.int p0), .val (.int p1), .val (.int p2), .val (.int p3), .val (.int p4), .val (.int p5), .val (.int (0 : Int32)), .val (.ref aKEY_SHARE), .val (.int (1 : Int32)), .val (.int ((((p0).toUInt32 >>> ((1 : Int32) &&& 31).toUInt32).toInt32) % (3 : Int32))), .val (.ref aFFDHE4096), .val (.int (3 : Int32)), .val (.ref a97)] [(.ref a97)]))
        refine own_go (fun _ k => XS.iconst X105.here hx rfl (hb hby at_121) k) ?_
        show OwnGo p e below _ (T105.setTop (mkF m 122 #[.val (.int p0), .val (.int p1), .val (.int p2), .val (.int p3), .val (.int p4), .val (.int p5), .val (.int (0 : Int32)), .val (.ref aKEY_SHARE), .val (.int (1 : Int32)), .val (.int ((((p0).toUInt32 >>> ((1 : Int32) &&& 31).toUInt32).toInt32) % (3 : Int32))), .val (.ref aFFDHE4096), .val (.int (3 : Int32)), .val (.ref a97)] [(.int (4 : Int32)), (.ref a97)]))
        refine own_go (fun _ k => XS.iload X105.here hx rfl (hb hby at_122) rfl k) ?_
        show OwnGo p e below _ (T105.setTop (mkF m 124 #[.val (.int p0), .val (.int p1), .val (.int p2), .val (.int p3), .val (.int p4), .val (.int p5), .val (.int (0 : Int32)), .val (.ref aKEY_SHARE), .val (.int (1 : Int32)), .val (.int ((((p0).toUInt32 >>> ((1 : Int32) &&& 31).toUInt32).toInt32) % (3 : Int32))), .val (.ref aFFDHE4096), .val (.int (3 : Int32)), .val (.ref a97)] [(.int p5), (.int (4 : Int32)), (.ref a97)]))
        refine own_go (fun _ k => XS.i2b X105.here hx rfl (hb hby at_124) rfl k) ?_
        show OwnGo p e below _ (T105.setTop (mkF m 125 #[.val (.int p0), .val (.int p1), .val (.int p2), .val (.int p3), .val (.int p4), .val (.int p5), .val (.int (0 : Int32)), .val (.ref aKEY_SHARE), .val (.int (1 : Int32)), .val (.int ((((p0).toUInt32 >>> ((1 : Int32) &&& 31).toUInt32).toInt32) % (3 : Int32))), .val (.ref aFFDHE4096), .val (.int (3 : Int32)), .val (.ref a97)] [(.int ((p5).toInt8.toInt32)), (.int (4 : Int32)), (.ref a97)]))
        obtain ⟨c107, Ar107, q107, S107, M107, H107, G107⟩ := (id V105)
        obtain ⟨T107, h107, X107, e107, W107, st107⟩ := stB X105 hx hZ e105 Ar107 (j := (4 : Int32)) (inb_of S107 ⟨by decide, by decide⟩) (g := (mkF m 125 #[.val (.int p0), .val (.int p1), .val (.int p2), .val (.int p3), .val (.int p4), .val (.int p5), .val (.int (0 : Int32)), .val (.ref aKEY_SHARE), .val (.int (1 : Int32)), .val (.int ((((p0).toUInt32 >>> ((1 : Int32) &&& 31).toUInt32).toInt32) % (3 : Int32))), .val (.ref aFFDHE4096), .val (.int (3 : Int32)), .val (.ref a97)] [(.int ((p5).toInt8.toInt32)), (.int (4 : Int32)), (.ref a97)])) rfl rfl (hb hby at_125)
        rw [own_narb] at W107
        have N107 := Fr.snoc X107 N105 ge97
        have O107 := O105.wr W107 ge97
        have z108 : h0.size ≤ h107.size := Nat.le_trans z106 (Nat.le_of_eq W107.size.symm)
        have V107 : Arv Z h107 a97 k97 .byte (5 : Int32) [(.int ((p1).toInt8.toInt32)), (.int ((p2).toInt8.toInt32)), (.int ((p3).toInt8.toInt32)), (.int ((p4).toInt8.toInt32)), (.int ((p5).toInt8.toInt32))] (.int (0 : Int32)) := Arv.set Ar107 q107 S107 M107 H107 G107 (fits_nar_byte _) W107 4 (by decide) (Nat.le_of_ble_eq_true rfl)
        refine own_go st107 ?_
        show OwnGo p e below _ (T107.setTop (mkF m 126 #[.val (.int p0), .val (.int p1), .val (.int p2), .val (.int p3), .val (.int p4), .val (.int p5), .val (.int (0 : Int32)), .val (.ref aKEY_SHARE), .val (.int (1 : Int32)), .val (.int ((((p0).toUInt32 >>> ((1 : Int32) &&& 31).toUInt32).toInt32) % (3 : Int32))), .val (.ref aFFDHE4096), .val (.int (3 : Int32)), .val (.ref a97)] []))
        refine own_go (fun _ k => XS.aload X107.here hx rfl (hb hby at_126) rfl rfl k) ?_
        show OwnGo p e below _ (T107.setTop (mkF m 128 #[.val (.int p0), .val (.int p1), .val (.int p2), .val (.int p3), .val (.int p4), .val (.int p5), .val (.int (0 : Int32)), .val (.ref aKEY_SHARE), .val (.int (1 : Int32)), .val (.int ((((p0).toUInt32 >>> ((1 : Int32) &&& 31).toUInt32).toInt32) % (3 : Int32))), .val (.ref aFFDHE4096), .val (.int (3 : Int32)), .val (.ref a97)] [(.ref aKEY_SHARE)]))
        refine own_go (fun _ k => XS.aload X107.here hx rfl (hb hby at_128) rfl rfl k) ?_
        show OwnGo p e below _ (T107.setTop (mkF m 130 #[.val (.int p0), .val (.int p1), .val (.int p2), .val (.int p3), .val (.int p4), .val (.int p5), .val (.int (0 : Int32)), .val (.ref aKEY_SHARE), .val (.int (1 : Int32)), .val (.int ((((p0).toUInt32 >>> ((1 : Int32) &&& 31).toUInt32).toInt32) % (3 : Int32))), .val (.ref aFFDHE4096), .val (.int (3 : Int32)), .val (.ref a97)] [(.ref a97), (.ref aKEY_SHARE)]))
        refine own_go (fun _ k => XS.aload X107.here hx rfl (hb hby at_130) rfl rfl k) ?_
        show OwnGo p e below _ (T107.setTop (mkF m 132 #[.val (.int p0), .val (.int p1), .val (.int p2), .val (.int p3), .val (.int p4), .val (.int p5), .val (.int (0 : Int32)), .val (.ref aKEY_SHARE), .val (.int (1 : Int32)), .val (.int ((((p0).toUInt32 >>> ((1 : Int32) &&& 31).toUInt32).toInt32) % (3 : Int32))), .val (.ref aFFDHE4096), .val (.int (3 : Int32)), .val (.ref a97)] [(.ref aFFDHE4096), (.ref a97), (.ref aKEY_SHARE)]))
        obtain ⟨cq109, kq109, qa109, qb109, qc109⟩ := isOf hZ e107 (F0.2.1.ext O107.2)
        obtain ⟨_, _, ⟨T109, L109, k109, n109⟩, -, X109, ⟨Lc109, hQ109, l109, y109, z109⟩, st109⟩ := X107.virtualBack hx (y := (⟨"com/example/portcullis/portcullis/MessageType", "writeHeader", "([BLcom/example/portcullis/portcullis/Group;)V"⟩ : MethodName)) (z := (⟨"com/example/portcullis/portcullis/MessageType", "writeHeader", "([BLcom/example/portcullis/portcullis/Group;)V"⟩ : MethodName)) hown (mvT hZ (hw _ (List.mem_of_getElem? (i := 7) rfl))) (mvT hZ (hw _ (List.mem_of_getElem? (i := 8) rfl))) (notFace_of_selects (args := #[]) (mvT hZ (hw _ (List.mem_of_getElem? (i := 10) rfl)))) (mvT hZ (hw _ (List.mem_of_getElem? (i := 10) rfl))) (mvT hZ (hw _ (List.mem_of_getElem? (i := 9) rfl))) (by decide) (backOf (W := 0) (rm_wr_aKEY_SHARE_aFFDHE4096 l Z a0 hw [] aKEY_SHARE aFFDHE2048 aFFDHE4096 aCONFIRMATION aFFDHE3072 F0 a97 k97 ((p1).toInt8.toInt32) ((p2).toInt8.toInt32) ((p3).toInt8.toInt32) ((p4).toInt8.toInt32) ((p5).toInt8.toInt32) h107 n0 O107 V107 ge97) hZ (hw _ (List.mem_of_getElem? (i := 11) rfl)) (hw _ (List.mem_of_getElem? (i := 1) rfl)) (by decide) (by decide)) qa109 qc109 (g := (mkF m 132 #[.val (.int p0), .val (.int p1), .val (.int p2), .val (.int p3), .val (.int p4), .val (.int p5), .val (.int (0 : Int32)), .val (.ref aKEY_SHARE), .val (.int (1 : Int32)), .val (.int ((((p0).toUInt32 >>> ((1 : Int32) &&& 31).toUInt32).toInt32) % (3 : Int32))), .val (.ref aFFDHE4096), .val (.int (3 : Int32)), .val (.ref a97)] [(.ref aFFDHE4096), (.ref a97), (.ref aKEY_SHARE)])) rfl (by rw [hml]; rfl) (Steps.refl _) (argsL := [(.ref a97), (.ref aFFDHE4096)]) (rest := []) (lenOf pd__B_Lcom_example_portcullis_portcullis_Group___V rfl) rfl (by show 2 * 0 + _ ≤ _; exact Nat.le_of_eq rfl) (hb hby at_132) (fun _ _ => ⟨rfl, e107, (by decide : 1 + 0 ≤ _), (by decide : 5 + 0 ≤ _)⟩)
        dsimp only [Pt.U, Pt.locs, Pt.cells, Pt.slots] at X109 l109 y109 z109 st109 hQ109
        subst l109 y109 z109
        obtain ⟨rfl, Nq109, K109, x109_0⟩ := hQ109
        have N109 := Fr.app N107 Nq109
        have O109 := O107.keep K109 (allS ge97 all0)
        have e109 : T109.heap = T109.heap := rfl
        have z110 : h0.size ≤ T109.heap.size := Nat.le_trans z108 K109.1
        refine own_go (fun _ k => st109.trans k) ?_
        show OwnGo p e below _ (T109.setTop (mkF m 135 #[.val (.int p0), .val (.int p1), .val (.int p2), .val (.int p3), .val (.int p4), .val (.int p5), .val (.int (0 : Int32)), .val (.ref aKEY_SHARE), .val (.int (1 : Int32)), .val (.int ((((p0).toUInt32 >>> ((1 : Int32) &&& 31).toUInt32).toInt32) % (3 : Int32))), .val (.ref aFFDHE4096), .val (.int (3 : Int32)), .val (.ref a97)] []))
        refine own_go (fun _ k => XS.aload X109.here hx rfl (hb hby at_135) rfl rfl k) ?_
        show OwnGo p e below _ (T109.setTop (mkF m 137 #[.val (.int p0), .val (.int p1), .val (.int p2), .val (.int p3), .val (.int p4), .val (.int p5), .val (.int (0 : Int32)), .val (.ref aKEY_SHARE), .val (.int (1 : Int32)), .val (.int ((((p0).toUInt32 >>> ((1 : Int32) &&& 31).toUInt32).toInt32) % (3 : Int32))), .val (.ref aFFDHE4096), .val (.int (3 : Int32)), .val (.ref a97)] [(.ref a97)]))
        refine own_go (fun _ k => XS.iconst X109.here hx rfl (hb hby at_137) k) ?_
        show OwnGo p e below _ (T109.setTop (mkF m 138 #[.val (.int p0), .val (.int p1), .val (.int p2), .val (.int p3), .val (.int p4), .val (.int p5), .val (.int (0 : Int32)), .val (.ref aKEY_SHARE), .val (.int (1 : Int32)), .val (.int ((((p0).toUInt32 >>> ((1 : Int32) &&& 31).toUInt32).toInt32) % (3 : Int32))), .val (.ref aFFDHE4096), .val (.int (3 : Int32)), .val (.ref a97)] [(.int (0 : Int32)), (.ref a97)]))
        obtain ⟨c111, Ar111, q111, S111, M111, H111, G111⟩ := (id x109_0)
        refine own_go (fun _ k => X109.baloadBytes hx (j := (0 : Int32)) (v := (.int (1 : Int32))) (by rw [e109]; exact Ar111.1) (State.isArrayOf_alike hZ.alike Ar111.2.1) Ar111.2.2 (inb_of S111 ⟨by decide, by decide⟩) (Has.at H111 (inb_of S111 ⟨by decide, by decide⟩) rfl) (g := (mkF m 138 #[.val (.int p0), .val (.int p1), .val (.int p2), .val (.int p3), .val (.int p4), .val (.int p5), .val (.int (0 : Int32)), .val (.ref aKEY_SHARE), .val (.int (1 : Int32)), .val (.int ((((p0).toUInt32 >>> ((1 : Int32) &&& 31).toUInt32).toInt32) % (3 : Int32))), .val (.ref aFFDHE4096), .val (.int (3 : Int32)), .val (.ref a97)] [(.int (0 : Int32)), (.ref a97)])) rfl rfl (hb hby at_138) _ k) ?_
        show OwnGo p e below _ (T109.setTop (mkF m 139 #[.val (.int p0), .val (.int p1), .val (.int p2), .val (.int p3), .val (.int p4), .val (.int p5), .val (.int (0 : Int32)), .val (.ref aKEY_SHARE), .val (.int (1 : Int32)), .val (.int ((((p0).toUInt32 >>> ((1 : Int32) &&& 31).toUInt32).toInt32) % (3 : Int32))), .val (.ref aFFDHE4096), .val (.int (3 : Int32)), .val (.ref a97)] [(.int (1 : Int32))]))
        refine own_go (fun _ k => XS.iconst X109.here hx rfl (hb hby at_139) k) ?_
        show OwnGo p e below _ (T109.setTop (mkF m 140 #[.val (.int p0), .val (.int p1), .val (.int p2), .val (.int p3), .val (.int p4), .val (.int p5), .val (.int (0 : Int32)), .val (.ref aKEY_SHARE), .val (.int (1 : Int32)), .val (.int ((((p0).toUInt32 >>> ((1 : Int32) &&& 31).toUInt32).toInt32) % (3 : Int32))), .val (.ref aFFDHE4096), .val (.int (3 : Int32)), .val (.ref a97)] [(.int (1 : Int32)), (.int (1 : Int32))]))
        refine own_go (fun _ k => XS.icmpNo X109.here hx rfl (hb hby at_140) rfl (by decide) k) ?_
        show OwnGo p e below _ (T109.setTop (mkF m 143 #[.val (.int p0), .val (.int p1), .val (.int p2), .val (.int p3), .val (.int p4), .val (.int p5), .val (.int (0 : Int32)), .val (.ref aKEY_SHARE), .val (.int (1 : Int32)), .val (.int ((((p0).toUInt32 >>> ((1 : Int32) &&& 31).toUInt32).toInt32) % (3 : Int32))), .val (.ref aFFDHE4096), .val (.int (3 : Int32)), .val (.ref a97)] []))
        refine own_go (fun _ k => XS.aload X109.here hx rfl (hb hby at_143) rfl rfl k) ?_
        show OwnGo p e below _ (T109.setTop (mkF m 145 #[.val (.int p0), .val (.int p1), .val (.int p2), .val (.int p3), .val (.int p4), .val (.int p5), .val (.int (0 : Int32)), .val (.ref aKEY_SHARE), .val (.int (1 : Int32)), .val (.int ((((p0).toUInt32 >>> ((1 : Int32) &&& 31).toUInt32).toInt32) % (3 : Int32))), .val (.ref aFFDHE4096), .val (.int (3 : Int32)), .val (.ref a97)] [(.ref a97)]))
        refine own_go (fun _ k => XS.iconst X109.here hx rfl (hb hby at_145) k) ?_
        show OwnGo p e below _ (T109.setTop (mkF m 146 #[.val (.int p0), .val (.int p1), .val (.int p2), .val (.int p3), .val (.int p4), .val (.int p5), .val (.int (0 : Int32)), .val (.ref aKEY_SHARE), .val (.int (1 : Int32)), .val (.int ((((p0).toUInt32 >>> ((1 : Int32) &&& 31).toUInt32).toInt32) % (3 : Int32))), .val (.ref aFFDHE4096), .val (.int (3 : Int32)), .val (.ref a97)] [(.int (1 : Int32)), (.ref a97)]))
        obtain ⟨c112, Ar112, q112, S112, M112, H112, G112⟩ := (id x109_0)
        refine own_go (fun _ k => X109.baloadBytes hx (j := (1 : Int32)) (v := (.int (1 : Int32))) (by rw [e109]; exact Ar112.1) (State.isArrayOf_alike hZ.alike Ar112.2.1) Ar112.2.2 (inb_of S112 ⟨by decide, by decide⟩) (Has.at H112 (inb_of S112 ⟨by decide, by decide⟩) rfl) (g := (mkF m 146 #[.val (.int p0), .val (.int p1), .val (.int p2), .val (.int p3), .val (.int p4), .val (.int p5), .val (.int (0 : Int32)), .val (.ref aKEY_SHARE), .val (.int (1 : Int32)), .val (.int ((((p0).toUInt32 >>> ((1 : Int32) &&& 31).toUInt32).toInt32) % (3 : Int32))), .val (.ref aFFDHE4096), .val (.int (3 : Int32)), .val (.ref a97)] [(.int (1 : Int32)), (.ref a97)])) rfl rfl (hb hby at_146) _ k) ?_
        show OwnGo p e below _ (T109.setTop (mkF m 147 #[.val (.int p0), .val (.int p1), .val (.int p2), .val (.int p3), .val (.int p4), .val (.int p5), .val (.int (0 : Int32)), .val (.ref aKEY_SHARE), .val (.int (1 : Int32)), .val (.int ((((p0).toUInt32 >>> ((1 : Int32) &&& 31).toUInt32).toInt32) % (3 : Int32))), .val (.ref aFFDHE4096), .val (.int (3 : Int32)), .val (.ref a97)] [(.int (1 : Int32))]))
        refine own_go (fun _ k => XS.iload X109.here hx rfl (hb hby at_147) rfl k) ?_
        show OwnGo p e below _ (T109.setTop (mkF m 149 #[.val (.int p0), .val (.int p1), .val (.int p2), .val (.int p3), .val (.int p4), .val (.int p5), .val (.int (0 : Int32)), .val (.ref aKEY_SHARE), .val (.int (1 : Int32)), .val (.int ((((p0).toUInt32 >>> ((1 : Int32) &&& 31).toUInt32).toInt32) % (3 : Int32))), .val (.ref aFFDHE4096), .val (.int (3 : Int32)), .val (.ref a97)] [(.int (1 : Int32)), (.int (1 : Int32))]))
        refine own_go (fun _ k => XS.icmpNo X109.here hx rfl (hb hby at_149) rfl (by decide) k) ?_
        show OwnGo p e below _ (T109.setTop (mkF m 152 #[.val (.int p0), .val (.int p1), .val (.int p2), .val (.int p3), .val (.int p4), .val (.int p5), .val (.int (0 : Int32)), .val (.ref aKEY_SHARE), .val (.int (1 : Int32)), .val (.int ((((p0).toUInt32 >>> ((1 : Int32) &&& 31).toUInt32).toInt32) % (3 : Int32))), .val (.ref aFFDHE4096), .val (.int (3 : Int32)), .val (.ref a97)] []))
        refine own_go (fun _ k => XS.aload X109.here hx rfl (hb hby at_152) rfl rfl k) ?_
        show OwnGo p e below _ (T109.setTop (mkF m 154 #[.val (.int p0), .val (.int p1), .val (.int p2), .val (.int p3), .val (.int p4), .val (.int p5), .val (.int (0 : Int32)), .val (.ref aKEY_SHARE), .val (.int (1 : Int32)), .val (.int ((((p0).toUInt32 >>> ((1 : Int32) &&& 31).toUInt32).toInt32) % (3 : Int32))), .val (.ref aFFDHE4096), .val (.int (3 : Int32)), .val (.ref a97)] [(.ref a97)]))
        refine own_go (fun _ k => XS.iconst X109.here hx rfl (hb hby at_154) k) ?_
        show OwnGo p e below _ (T109.setTop (mkF m 155 #[.val (.int p0), .val (.int p1), .val (.int p2), .val (.int p3), .val (.int p4), .val (.int p5), .val (.int (0 : Int32)), .val (.ref aKEY_SHARE), .val (.int (1 : Int32)), .val (.int ((((p0).toUInt32 >>> ((1 : Int32) &&& 31).toUInt32).toInt32) % (3 : Int32))), .val (.ref aFFDHE4096), .val (.int (3 : Int32)), .val (.ref a97)] [(.int (2 : Int32)), (.ref a97)]))
        obtain ⟨c113, Ar113, q113, S113, M113, H113, G113⟩ := (id x109_0)
        refine own_go (fun _ k => X109.baloadBytes hx (j := (2 : Int32)) (v := (.int (3 : Int32))) (by rw [e109]; exact Ar113.1) (State.isArrayOf_alike hZ.alike Ar113.2.1) Ar113.2.2 (inb_of S113 ⟨by decide, by decide⟩) (Has.at H113 (inb_of S113 ⟨by decide, by decide⟩) rfl) (g := (mkF m 155 #[.val (.int p0), .val (.int p1), .val (.int p2), .val (.int p3), .val (.int p4), .val (.int p5), .val (.int (0 : Int32)), .val (.ref aKEY_SHARE), .val (.int (1 : Int32)), .val (.int ((((p0).toUInt32 >>> ((1 : Int32) &&& 31).toUInt32).toInt32) % (3 : Int32))), .val (.ref aFFDHE4096), .val (.int (3 : Int32)), .val (.ref a97)] [(.int (2 : Int32)), (.ref a97)])) rfl rfl (hb hby at_155) _ k) ?_
        show OwnGo p e below _ (T109.setTop (mkF m 156 #[.val (.int p0), .val (.int p1), .val (.int p2), .val (.int p3), .val (.int p4), .val (.int p5), .val (.int (0 : Int32)), .val (.ref aKEY_SHARE), .val (.int (1 : Int32)), .val (.int ((((p0).toUInt32 >>> ((1 : Int32) &&& 31).toUInt32).toInt32) % (3 : Int32))), .val (.ref aFFDHE4096), .val (.int (3 : Int32)), .val (.ref a97)] [(.int (3 : Int32))]))
        refine own_go (fun _ k => XS.iload X109.here hx rfl (hb hby at_156) rfl k) ?_
        show OwnGo p e below _ (T109.setTop (mkF m 158 #[.val (.int p0), .val (.int p1), .val (.int p2), .val (.int p3), .val (.int p4), .val (.int p5), .val (.int (0 : Int32)), .val (.ref aKEY_SHARE), .val (.int (1 : Int32)), .val (.int ((((p0).toUInt32 >>> ((1 : Int32) &&& 31).toUInt32).toInt32) % (3 : Int32))), .val (.ref aFFDHE4096), .val (.int (3 : Int32)), .val (.ref a97)] [(.int (3 : Int32)), (.int (3 : Int32))]))
        refine own_go (fun _ k => XS.icmpNo X109.here hx rfl (hb hby at_158) rfl (by decide) k) ?_
        show OwnGo p e below _ (T109.setTop (mkF m 161 #[.val (.int p0), .val (.int p1), .val (.int p2), .val (.int p3), .val (.int p4), .val (.int p5), .val (.int (0 : Int32)), .val (.ref aKEY_SHARE), .val (.int (1 : Int32)), .val (.int ((((p0).toUInt32 >>> ((1 : Int32) &&& 31).toUInt32).toInt32) % (3 : Int32))), .val (.ref aFFDHE4096), .val (.int (3 : Int32)), .val (.ref a97)] []))
        refine own_go (fun _ k => XS.aload X109.here hx rfl (hb hby at_161) rfl rfl k) ?_
        show OwnGo p e below _ (T109.setTop (mkF m 163 #[.val (.int p0), .val (.int p1), .val (.int p2), .val (.int p3), .val (.int p4), .val (.int p5), .val (.int (0 : Int32)), .val (.ref aKEY_SHARE), .val (.int (1 : Int32)), .val (.int ((((p0).toUInt32 >>> ((1 : Int32) &&& 31).toUInt32).toInt32) % (3 : Int32))), .val (.ref aFFDHE4096), .val (.int (3 : Int32)), .val (.ref a97)] [(.ref a97)]))
        refine own_go (fun _ k => XS.iconst X109.here hx rfl (hb hby at_163) k) ?_
        show OwnGo p e below _ (T109.setTop (mkF m 164 #[.val (.int p0), .val (.int p1), .val (.int p2), .val (.int p3), .val (.int p4), .val (.int p5), .val (.int (0 : Int32)), .val (.ref aKEY_SHARE), .val (.int (1 : Int32)), .val (.int ((((p0).toUInt32 >>> ((1 : Int32) &&& 31).toUInt32).toInt32) % (3 : Int32))), .val (.ref aFFDHE4096), .val (.int (3 : Int32)), .val (.ref a97)] [(.int (3 : Int32)), (.ref a97)]))
        obtain ⟨c114, Ar114, q114, S114, M114, H114, G114⟩ := (id x109_0)
        refine own_go (fun _ k => X109.baloadBytes hx (j := (3 : Int32)) (v := (.int ((p4).toInt8.toInt32))) (by rw [e109]; exact Ar114.1) (State.isArrayOf_alike hZ.alike Ar114.2.1) Ar114.2.2 (inb_of S114 ⟨by decide, by decide⟩) (Has.at H114 (inb_of S114 ⟨by decide, by decide⟩) rfl) (g := (mkF m 164 #[.val (.int p0), .val (.int p1), .val (.int p2), .val (.int p3), .val (.int p4), .val (.int p5), .val (.int (0 : Int32)), .val (.ref aKEY_SHARE), .val (.int (1 : Int32)), .val (.int ((((p0).toUInt32 >>> ((1 : Int32) &&& 31).toUInt32).toInt32) % (3 : Int32))), .val (.ref aFFDHE4096), .val (.int (3 : Int32)), .val (.ref a97)] [(.int (3 : Int32)), (.ref a97)])) rfl rfl (hb hby at_164) _ k) ?_
        show OwnGo p e below _ (T109.setTop (mkF m 165 #[.val (.int p0), .val (.int p1), .val (.int p2), .val (.int p3), .val (.int p4), .val (.int p5), .val (.int (0 : Int32)), .val (.ref aKEY_SHARE), .val (.int (1 : Int32)), .val (.int ((((p0).toUInt32 >>> ((1 : Int32) &&& 31).toUInt32).toInt32) % (3 : Int32))), .val (.ref aFFDHE4096), .val (.int (3 : Int32)), .val (.ref a97)] [(.int ((p4).toInt8.toInt32))]))
        refine own_go (fun _ k => XS.iload X109.here hx rfl (hb hby at_165) rfl k) ?_
        show OwnGo p e below _ (T109.setTop (mkF m 167 #[.val (.int p0), .val (.int p1), .val (.int p2), .val (.int p3), .val (.int p4), .val (.int p5), .val (.int (0 : Int32)), .val (.ref aKEY_SHARE), .val (.int (1 : Int32)), .val (.int ((((p0).toUInt32 >>> ((1 : Int32) &&& 31).toUInt32).toInt32) % (3 : Int32))), .val (.ref aFFDHE4096), .val (.int (3 : Int32)), .val (.ref a97)] [(.int p4), (.int ((p4).toInt8.toInt32))]))
        refine own_go (fun _ k => XS.i2b X109.here hx rfl (hb hby at_167) rfl k) ?_
        show OwnGo p e below _ (T109.setTop (mkF m 168 #[.val (.int p0), .val (.int p1), .val (.int p2), .val (.int p3), .val (.int p4), .val (.int p5), .val (.int (0 : Int32)), .val (.ref aKEY_SHARE), .val (.int (1 : Int32)), .val (.int ((((p0).toUInt32 >>> ((1 : Int32) &&& 31).toUInt32).toInt32) % (3 : Int32))), .val (.ref aFFDHE4096), .val (.int (3 : Int32)), .val (.ref a97)] [(.int ((p4).toInt8.toInt32)), (.int ((p4).toInt8.toInt32))]))
        refine own_go (fun _ k => XS.icmpNo X109.here hx rfl (hb hby at_168) rfl (teq rfl).2 k) ?_
        show OwnGo p e below _ (T109.setTop (mkF m 171 #[.val (.int p0), .val (.int p1), .val (.int p2), .val (.int p3), .val (.int p4), .val (.int p5), .val (.int (0 : Int32)), .val (.ref aKEY_SHARE), .val (.int (1 : Int32)), .val (.int ((((p0).toUInt32 >>> ((1 : Int32) &&& 31).toUInt32).toInt32) % (3 : Int32))), .val (.ref aFFDHE4096), .val (.int (3 : Int32)), .val (.ref a97)] []))
        refine own_go (fun _ k => XS.aload X109.here hx rfl (hb hby at_171) rfl rfl k) ?_
        show OwnGo p e below _ (T109.setTop (mkF m 173 #[.val (.int p0), .val (.int p1), .val (.int p2), .val (.int p3), .val (.int p4), .val (.int p5), .val (.int (0 : Int32)), .val (.ref aKEY_SHARE), .val (.int (1 : Int32)), .val (.int ((((p0).toUInt32 >>> ((1 : Int32) &&& 31).toUInt32).toInt32) % (3 : Int32))), .val (.ref aFFDHE4096), .val (.int (3 : Int32)), .val (.ref a97)] [(.ref a97)]))
        refine own_go (fun _ k => XS.iconst X109.here hx rfl (hb hby at_173) k) ?_
        show OwnGo p e below _ (T109.setTop (mkF m 174 #[.val (.int p0), .val (.int p1), .val (.int p2), .val (.int p3), .val (.int p4), .val (.int p5), .val (.int (0 : Int32)), .val (.ref aKEY_SHARE), .val (.int (1 : Int32)), .val (.int ((((p0).toUInt32 >>> ((1 : Int32) &&& 31).toUInt32).toInt32) % (3 : Int32))), .val (.ref aFFDHE4096), .val (.int (3 : Int32)), .val (.ref a97)] [(.int (4 : Int32)), (.ref a97)]))
        obtain ⟨c115, Ar115, q115, S115, M115, H115, G115⟩ := (id x109_0)
        refine own_go (fun _ k => X109.baloadBytes hx (j := (4 : Int32)) (v := (.int ((p5).toInt8.toInt32))) (by rw [e109]; exact Ar115.1) (State.isArrayOf_alike hZ.alike Ar115.2.1) Ar115.2.2 (inb_of S115 ⟨by decide, by decide⟩) (Has.at H115 (inb_of S115 ⟨by decide, by decide⟩) rfl) (g := (mkF m 174 #[.val (.int p0), .val (.int p1), .val (.int p2), .val (.int p3), .val (.int p4), .val (.int p5), .val (.int (0 : Int32)), .val (.ref aKEY_SHARE), .val (.int (1 : Int32)), .val (.int ((((p0).toUInt32 >>> ((1 : Int32) &&& 31).toUInt32).toInt32) % (3 : Int32))), .val (.ref aFFDHE4096), .val (.int (3 : Int32)), .val (.ref a97)] [(.int (4 : Int32)), (.ref a97)])) rfl rfl (hb hby at_174) _ k) ?_
        show OwnGo p e below _ (T109.setTop (mkF m 175 #[.val (.int p0), .val (.int p1), .val (.int p2), .val (.int p3), .val (.int p4), .val (.int p5), .val (.int (0 : Int32)), .val (.ref aKEY_SHARE), .val (.int (1 : Int32)), .val (.int ((((p0).toUInt32 >>> ((1 : Int32) &&& 31).toUInt32).toInt32) % (3 : Int32))), .val (.ref aFFDHE4096), .val (.int (3 : Int32)), .val (.ref a97)] [(.int ((p5).toInt8.toInt32))]))
        refine own_go (fun _ k => XS.iload X109.here hx rfl (hb hby at_175) rfl k) ?_
        show OwnGo p e below _ (T109.setTop (mkF m 177 #[.val (.int p0), .val (.int p1), .val (.int p2), .val (.int p3), .val (.int p4), .val (.int p5), .val (.int (0 : Int32)), .val (.ref aKEY_SHARE), .val (.int (1 : Int32)), .val (.int ((((p0).toUInt32 >>> ((1 : Int32) &&& 31).toUInt32).toInt32) % (3 : Int32))), .val (.ref aFFDHE4096), .val (.int (3 : Int32)), .val (.ref a97)] [(.int p5), (.int ((p5).toInt8.toInt32))]))
        refine own_go (fun _ k => XS.i2b X109.here hx rfl (hb hby at_177) rfl k) ?_
        show OwnGo p e below _ (T109.setTop (mkF m 178 #[.val (.int p0), .val (.int p1), .val (.int p2), .val (.int p3), .val (.int p4), .val (.int p5), .val (.int (0 : Int32)), .val (.ref aKEY_SHARE), .val (.int (1 : Int32)), .val (.int ((((p0).toUInt32 >>> ((1 : Int32) &&& 31).toUInt32).toInt32) % (3 : Int32))), .val (.ref aFFDHE4096), .val (.int (3 : Int32)), .val (.ref a97)] [(.int ((p5).toInt8.toInt32)), (.int ((p5).toInt8.toInt32))]))
        refine own_go (fun _ k => XS.icmpNo X109.here hx rfl (hb hby at_178) rfl (teq rfl).2 k) ?_
        show OwnGo p e below _ (T109.setTop (mkF m 181 #[.val (.int p0), .val (.int p1), .val (.int p2), .val (.int p3), .val (.int p4), .val (.int p5), .val (.int (0 : Int32)), .val (.ref aKEY_SHARE), .val (.int (1 : Int32)), .val (.int ((((p0).toUInt32 >>> ((1 : Int32) &&& 31).toUInt32).toInt32) % (3 : Int32))), .val (.ref aFFDHE4096), .val (.int (3 : Int32)), .val (.ref a97)] []))
        refine own_go (fun _ k => XS.iconst X109.here hx rfl (hb hby at_181) k) ?_
        show OwnGo p e below _ (T109.setTop (mkF m 182 #[.val (.int p0), .val (.int p1), .val (.int p2), .val (.int p3), .val (.int p4), .val (.int p5), .val (.int (0 : Int32)), .val (.ref aKEY_SHARE), .val (.int (1 : Int32)), .val (.int ((((p0).toUInt32 >>> ((1 : Int32) &&& 31).toUInt32).toInt32) % (3 : Int32))), .val (.ref aFFDHE4096), .val (.int (3 : Int32)), .val (.ref a97)] [(.int (1 : Int32))]))
        refine own_go (fun _ k => XS.goto X109.here hx rfl (pc0 := 182) (pc' := 186) rfl (hb hby at_182) (by decide) (by decide) k) ?_
        show OwnGo p e below _ (T109.setTop (mkF m 186 #[.val (.int p0), .val (.int p1), .val (.int p2), .val (.int p3), .val (.int p4), .val (.int p5), .val (.int (0 : Int32)), .val (.ref aKEY_SHARE), .val (.int (1 : Int32)), .val (.int ((((p0).toUInt32 >>> ((1 : Int32) &&& 31).toUInt32).toInt32) % (3 : Int32))), .val (.ref aFFDHE4096), .val (.int (3 : Int32)), .val (.ref a97)] [(.int (1 : Int32))]))
        obtain ⟨fs, hr, hrun, hended, hW, hsame⟩ := X109.leave (v := some (.int (1 : Int32))) (fun h => by rw [Bd.returns] at h; cases h)
        refine ⟨_, _, retOut X109 hx Bd.returns rfl (Or.inl ⟨rfl, Or.inr (Or.inl rfl), _, rfl⟩) (hb hby at_186) hr, hrun, hended, _, _, rfl, ?_, ⟨_, rfl⟩, hW, hsame.mono (by decide) (by decide)⟩
        show Q_law Z aKEY_SHARE aFFDHE2048 aFFDHE4096 aCONFIRMATION aFFDHE3072 p0 p1 p2 p3 p4 p5 h0 n0 _ T109.heap _
        rw [e109]
        exact ⟨rfl, N109⟩
  · refine own_go (fun _ k => XS.ifNo X0.here hx rfl (hb hby at_3) rfl ((if0 _ _).trans (feq hc52).1) k) ?_
    show OwnGo p e below _ (s₁.setTop (mkF m 6 #[.val (.int p0), .val (.int p1), .val (.int p2), .val (.int p3), .val (.int p4), .val (.int p5), .unset, .unset, .unset, .unset, .unset, .unset, .unset] []))
    refine own_go (fun _ k => XS.iconst X0.here hx rfl (hb hby at_6) k) ?_
    show OwnGo p e below _ (s₁.setTop (mkF m 7 #[.val (.int p0), .val (.int p1), .val (.int p2), .val (.int p3), .val (.int p4), .val (.int p5), .unset, .unset, .unset, .unset, .unset, .unset, .unset] [(.int (1 : Int32))]))
    refine own_go (fun _ k => XS.goto X0.here hx rfl (pc0 := 7) (pc' := 11) rfl (hb hby at_7) (by decide) (by decide) k) ?_
    show OwnGo p e below _ (s₁.setTop (mkF m 11 #[.val (.int p0), .val (.int p1), .val (.int p2), .val (.int p3), .val (.int p4), .val (.int p5), .unset, .unset, .unset, .unset, .unset, .unset, .unset] [(.int (1 : Int32))]))
    refine own_go (fun _ k => XS.istore X0.here hx rfl (hb hby at_11) rfl (l' := #[.val (.int p0), .val (.int p1), .val (.int p2), .val (.int p3), .val (.int p4), .val (.int p5), .val (.int (1 : Int32)), .unset, .unset, .unset, .unset, .unset, .unset]) rfl k) ?_
    show OwnGo p e below _ (s₁.setTop (mkF m 13 #[.val (.int p0), .val (.int p1), .val (.int p2), .val (.int p3), .val (.int p4), .val (.int p5), .val (.int (1 : Int32)), .unset, .unset, .unset, .unset, .unset, .unset] []))
    refine own_go (fun _ k => XS.iload X0.here hx rfl (hb hby at_13) rfl k) ?_
    show OwnGo p e below _ (s₁.setTop (mkF m 15 #[.val (.int p0), .val (.int p1), .val (.int p2), .val (.int p3), .val (.int p4), .val (.int p5), .val (.int (1 : Int32)), .unset, .unset, .unset, .unset, .unset, .unset] [(.int (1 : Int32))]))
    refine own_go (fun _ k => XS.ifNo X0.here hx rfl (hb hby at_15) rfl (by decide) k) ?_
    show OwnGo p e below _ (s₁.setTop (mkF m 18 #[.val (.int p0), .val (.int p1), .val (.int p2), .val (.int p3), .val (.int p4), .val (.int p5), .val (.int (1 : Int32)), .unset, .unset, .unset, .unset, .unset, .unset] []))
    obtain ⟨T116, X116, e116, st116⟩ := getS X0 hx hZ hown (host := "") (hw _ (List.mem_of_getElem? (i := 23) rfl)) Via.refl e0 (F0.2.2.2.2.2.2.2.2.2.1.ext O0.2) (g := (mkF m 18 #[.val (.int p0), .val (.int p1), .val (.int p2), .val (.int p3), .val (.int p4), .val (.int p5), .val (.int (1 : Int32)), .unset, .unset, .unset, .unset, .unset, .unset] [])) rfl (hb hby at_18)
    refine own_go st116 ?_
    show OwnGo p e below _ (T116.setTop (mkF m 21 #[.val (.int p0), .val (.int p1), .val (.int p2), .val (.int p3), .val (.int p4), .val (.int p5), .val (.int (1 : Int32)), .unset, .unset, .unset, .unset, .unset, .unset] [(.ref aCONFIRMATION)]))
    refine own_go (fun _ k => XS.goto X116.here hx rfl (pc0 := 21) (pc' := 27) rfl (hb hby at_21) (by decide) (by decide) k) ?_
    show OwnGo p e below _ (T116.setTop (mkF m 27 #[.val (.int p0), .val (.int p1), .val (.int p2), .val (.int p3), .val (.int p4), .val (.int p5), .val (.int (1 : Int32)), .unset, .unset, .unset, .unset, .unset, .unset] [(.ref aCONFIRMATION)]))
    refine own_go (fun _ k => XS.astore X116.here hx rfl (hb hby at_27) rfl rfl (l' := #[.val (.int p0), .val (.int p1), .val (.int p2), .val (.int p3), .val (.int p4), .val (.int p5), .val (.int (1 : Int32)), .val (.ref aCONFIRMATION), .unset, .unset, .unset, .unset, .unset]) rfl k) ?_
    show OwnGo p e below _ (T116.setTop (mkF m 29 #[.val (.int p0), .val (.int p1), .val (.int p2), .val (.int p3), .val (.int p4), .val (.int p5), .val (.int (1 : Int32)), .val (.ref aCONFIRMATION), .unset, .unset, .unset, .unset, .unset] []))
    refine own_go (fun _ k => XS.iload X116.here hx rfl (hb hby at_29) rfl k) ?_
    show OwnGo p e below _ (T116.setTop (mkF m 31 #[.val (.int p0), .val (.int p1), .val (.int p2), .val (.int p3), .val (.int p4), .val (.int p5), .val (.int (1 : Int32)), .val (.ref aCONFIRMATION), .unset, .unset, .unset, .unset, .unset] [(.int (1 : Int32))]))
    refine own_go (fun _ k => XS.ifNo X116.here hx rfl (hb hby at_31) rfl (by decide) k) ?_
    show OwnGo p e below _ (T116.setTop (mkF m 34 #[.val (.int p0), .val (.int p1), .val (.int p2), .val (.int p3), .val (.int p4), .val (.int p5), .val (.int (1 : Int32)), .val (.ref aCONFIRMATION), .unset, .unset, .unset, .unset, .unset] []))
    refine own_go (fun _ k => XS.iconst X116.here hx rfl (hb hby at_34) k) ?_
    show OwnGo p e below _ (T116.setTop (mkF m 35 #[.val (.int p0), .val (.int p1), .val (.int p2), .val (.int p3), .val (.int p4), .val (.int p5), .val (.int (1 : Int32)), .val (.ref aCONFIRMATION), .unset, .unset, .unset, .unset, .unset] [(.int (2 : Int32))]))
    refine own_go (fun _ k => XS.goto X116.here hx rfl (pc0 := 35) (pc' := 39) rfl (hb hby at_35) (by decide) (by decide) k) ?_
    show OwnGo p e below _ (T116.setTop (mkF m 39 #[.val (.int p0), .val (.int p1), .val (.int p2), .val (.int p3), .val (.int p4), .val (.int p5), .val (.int (1 : Int32)), .val (.ref aCONFIRMATION), .unset, .unset, .unset, .unset, .unset] [(.int (2 : Int32))]))
    refine own_go (fun _ k => XS.istore X116.here hx rfl (hb hby at_39) rfl (l' := #[.val (.int p0), .val (.int p1), .val (.int p2), .val (.int p3), .val (.int p4), .val (.int p5), .val (.int (1 : Int32)), .val (.ref aCONFIRMATION), .val (.int (2 : Int32)), .unset, .unset, .unset, .unset]) rfl k) ?_
    show OwnGo p e below _ (T116.setTop (mkF m 41 #[.val (.int p0), .val (.int p1), .val (.int p2), .val (.int p3), .val (.int p4), .val (.int p5), .val (.int (1 : Int32)), .val (.ref aCONFIRMATION), .val (.int (2 : Int32)), .unset, .unset, .unset, .unset] []))
    refine own_go (fun _ k => XS.iloadN X116.here hx rfl (hb hby at_41) rfl k) ?_
    show OwnGo p e below _ (T116.setTop (mkF m 42 #[.val (.int p0), .val (.int p1), .val (.int p2), .val (.int p3), .val (.int p4), .val (.int p5), .val (.int (1 : Int32)), .val (.ref aCONFIRMATION), .val (.int (2 : Int32)), .unset, .unset, .unset, .unset] [(.int p0)]))
    refine own_go (fun _ k => XS.iconst X116.here hx rfl (hb hby at_42) k) ?_
    show OwnGo p e below _ (T116.setTop (mkF m 43 #[.val (.int p0), .val (.int p1), .val (.int p2), .val (.int p3), .val (.int p4), .val (.int p5), .val (.int (1 : Int32)), .val (.ref aCONFIRMATION), .val (.int (2 : Int32)), .unset, .unset, .unset, .unset] [(.int (1 : Int32)), (.int p0)]))
    refine own_go (fun _ k => XS.iushr X116.here hx rfl (hb hby at_43) rfl k) ?_
    show OwnGo p e below _ (T116.setTop (mkF m 44 #[.val (.int p0), .val (.int p1), .val (.int p2), .val (.int p3), .val (.int p4), .val (.int p5), .val (.int (1 : Int32)), .val (.ref aCONFIRMATION), .val (.int (2 : Int32)), .unset, .unset, .unset, .unset] [(.int (((p0).toUInt32 >>> ((1 : Int32) &&& 31).toUInt32).toInt32))]))
    refine own_go (fun _ k => XS.iconst X116.here hx rfl (hb hby at_44) k) ?_
    show OwnGo p e below _ (T116.setTop (mkF m 45 #[.val (.int p0), .val (.int p1), .val (.int p2), .val (.int p3), .val (.int p4), .val (.int p5), .val (.int (1 : Int32)), .val (.ref aCONFIRMATION), .val (.int (2 : Int32)), .unset, .unset, .unset, .unset] [(.int (3 : Int32)), (.int (((p0).toUInt32 >>> ((1 : Int32) &&& 31).toUInt32).toInt32))]))
    refine own_go (fun _ k => iremM X116 hx rfl (hb hby at_45) rfl (by decide) k) ?_
    show OwnGo p e below _ (T116.setTop (mkF m 46 #[.val (.int p0), .val (.int p1), .val (.int p2), .val (.int p3), .val (.int p4), .val (.int p5), .val (.int (1 : Int32)), .val (.ref aCONFIRMATION), .val (.int (2 : Int32)), .unset, .unset, .unset, .unset] [(.int ((((p0).toUInt32 >>> ((1 : Int32) &&& 31).toUInt32).toInt32) % (3 : Int32)))]))
    refine own_go (fun _ k => XS.istore X116.here hx rfl (hb hby at_46) rfl (l' := #[.val (.int p0), .val (.int p1), .val (.int p2), .val (.int p3), .val (.int p4), .val (.int p5), .val (.int (1 : Int32)), .val (.ref aCONFIRMATION), .val (.int (2 : Int32)), .val (.int ((((p0).toUInt32 >>> ((1 : Int32) &&& 31).toUInt32).toInt32) % (3 : Int32))), .unset, .unset, .unset]) rfl k) ?_
    show OwnGo p e below _ (T116.setTop (mkF m 48 #[.val (.int p0), .val (.int p1), .val (.int p2), .val (.int p3), .val (.int p4), .val (.int p5), .val (.int (1 : Int32)), .val (.ref aCONFIRMATION), .val (.int (2 : Int32)), .val (.int ((((p0).toUInt32 >>> ((1 : Int32) &&& 31).toUInt32).toInt32) % (3 : Int32))), .unset, .unset, .unset] []))
    refine own_go (fun _ k => XS.iload X116.here hx rfl (hb hby at_48) rfl k) ?_
    show OwnGo p e below _ (T116.setTop (mkF m 50 #[.val (.int p0), .val (.int p1), .val (.int p2), .val (.int p3), .val (.int p4), .val (.int p5), .val (.int (1 : Int32)), .val (.ref aCONFIRMATION), .val (.int (2 : Int32)), .val (.int ((((p0).toUInt32 >>> ((1 : Int32) &&& 31).toUInt32).toInt32) % (3 : Int32))), .unset, .unset, .unset] [(.int ((((p0).toUInt32 >>> ((1 : Int32) &&& 31).toUInt32).toInt32) % (3 : Int32)))]))
    by_cases hc117 : ((((p0).toUInt32 >>> ((1 : Int32) &&& 31).toUInt32).toInt32) % (3 : Int32)) = (0 : Int32)
    · refine own_go (fun _ k => XS.ifNo X116.here hx rfl (hb hby at_50) rfl ((if0 _ _).trans (teq hc117).2) k) ?_
      show OwnGo p e below _ (T116.setTop (mkF m 53 #[.val (.int p0), .val (.int p1), .val (.int p2), .val (.int p3), .val (.int p4), .val (.int p5), .val (.int (1 : Int32)), .val (.ref aCONFIRMATION), .val (.int (2 : Int32)), .val (.int ((((p0).toUInt32 >>> ((1 : Int32) &&& 31).toUInt32).toInt32) % (3 : Int32))), .unset, .unset, .unset] []))
      obtain ⟨T118, X118, e118, st118⟩ := getS X116 hx hZ hown (host := "") (hw _ (List.mem_of_getElem? (i := 3) rfl)) Via.refl e116 (F0.2.2.1.ext O0.2) (g := (mkF m 53 #[.val (.int p0), .val (.int p1), .val (.int p2), .val (.int p3), .val (.int p4), .val (.int p5), .val (.int (1 : Int32)), .val (.ref aCONFIRMATION), .val (.int (2 : Int32)), .val (.int ((((p0).toUInt32 >>> ((1 : Int32) &&& 31).toUInt32).toInt32) % (3 : Int32))), .unset, .unset, .unset] [])) rfl (hb hby at_53)
      refine own_go st118 ?_
      show OwnGo p e below _ (T118.setTop (mkF m 56 #[.val (.int p0), .val (.int p1), .val (.int p2), .val (.int p3), .val (.int p4), .val (.int p5), .val (.int (1 : Int32)), .val (.ref aCONFIRMATION), .val (.int (2 : Int32)), .val (.int ((((p0).toUInt32 >>> ((1 : Int32) &&& 31).toUInt32).toInt32) % (3 : Int32))), .unset, .unset, .unset] [(.ref aFFDHE2048)]))
      refine own_go (fun _ k => XS.astore X118.here hx rfl (hb hby at_56) rfl rfl (l' := #[.val (.int p0), .val (.int p1), .val (.int p2), .val (.int p3), .val (.int p4), .val (.int p5), .val (.int (1 : Int32)), .val (.ref aCONFIRMATION), .val (.int (2 : Int32)), .val (.int ((((p0).toUInt32 >>> ((1 : Int32) &&& 31).toUInt32).toInt32) % (3 : Int32))), .val (.ref aFFDHE2048), .unset, .unset]) rfl k) ?_
      show OwnGo p e below _ (T118.setTop (mkF m 58 #[.val (.int p0), .val (.int p1), .val (.int p2), .val (.int p3), .val (.int p4), .val (.int p5), .val (.int (1 : Int32)), .val (.ref aCONFIRMATION), .val (.int (2 : Int32)), .val (.int ((((p0).toUInt32 >>> ((1 : Int32) &&& 31).toUInt32).toInt32) % (3 : Int32))), .val (.ref aFFDHE2048), .unset, .unset] []))
      refine own_go (fun _ k => XS.iconst X118.here hx rfl (hb hby at_58) k) ?_
      show OwnGo p e below _ (T118.setTop (mkF m 59 #[.val (.int p0), .val (.int p1), .val (.int p2), .val (.int p3), .val (.int p4), .val (.int p5), .val (.int (1 : Int32)), .val (.ref aCONFIRMATION), .val (.int (2 : Int32)), .val (.int ((((p0).toUInt32 >>> ((1 : Int32) &&& 31).toUInt32).toInt32) % (3 : Int32))), .val (.ref aFFDHE2048), .unset, .unset] [(.int (1 : Int32))]))
      refine own_go (fun _ k => XS.istore X118.here hx rfl (hb hby at_59) rfl (l' := #[.val (.int p0), .val (.int p1), .val (.int p2), .val (.int p3), .val (.int p4), .val (.int p5), .val (.int (1 : Int32)), .val (.ref aCONFIRMATION), .val (.int (2 : Int32)), .val (.int ((((p0).toUInt32 >>> ((1 : Int32) &&& 31).toUInt32).toInt32) % (3 : Int32))), .val (.ref aFFDHE2048), .val (.int (1 : Int32)), .unset]) rfl k) ?_
      show OwnGo p e below _ (T118.setTop (mkF m 61 #[.val (.int p0), .val (.int p1), .val (.int p2), .val (.int p3), .val (.int p4), .val (.int p5), .val (.int (1 : Int32)), .val (.ref aCONFIRMATION), .val (.int (2 : Int32)), .val (.int ((((p0).toUInt32 >>> ((1 : Int32) &&& 31).toUInt32).toInt32) % (3 : Int32))), .val (.ref aFFDHE2048), .val (.int (1 : Int32)), .unset] []))
      refine own_go (fun _ k => XS.goto X118.here hx rfl (pc0 := 61) (pc' := 89) rfl (hb hby at_61) (by decide) (by decide) k) ?_
      show OwnGo p e below _ (T118.setTop (mkF m 89 #[.val (.int p0), .val (.int p1), .val (.int p2), .val (.int p3), .val (.int p4), .val (.int p5), .val (.int (1 : Int32)), .val (.ref aCONFIRMATION), .val (.int (2 : Int32)), .val (.int ((((p0).toUInt32 >>> ((1 : Int32) &&& 31).toUInt32).toInt32) % (3 : Int32))), .val (.ref aFFDHE2048), .val (.int (1 : Int32)), .unset] []))
      refine own_go (fun _ k => XS.iconst X118.here hx rfl (hb hby at_89) k) ?_
      show OwnGo p e below _ (T118.setTop (mkF m 90 #[.val (.int p0), .val (.int p1), .val (.int p2), .val (.int p3), .val (.int p4), .val (.int p5), .val (.int (1 : Int32)), .val (.ref aCONFIRMATION), .val (.int (2 : Int32)), .val (.int ((((p0).toUInt32 >>> ((1 : Int32) &&& 31).toUInt32).toInt32) % (3 : Int32))), .val (.ref aFFDHE2048), .val (.int (1 : Int32)), .unset] [(.int (5 : Int32))]))
      obtain ⟨T119, h119, k119, X119, e119, E119, A119, st119⟩ := newP X118 hx hZ (hw _ (List.mem_of_getElem? (i := 6) rfl)) e118 (g := (mkF m 90 #[.val (.int p0), .val (.int p1), .val (.int p2), .val (.int p3), .val (.int p4), .val (.int p5), .val (.int (1 : Int32)), .val (.ref aCONFIRMATION), .val (.int (2 : Int32)), .val (.int ((((p0).toUInt32 >>> ((1 : Int32) &&& 31).toUInt32).toInt32) % (3 : Int32))), .val (.ref aFFDHE2048), .val (.int (1 : Int32)), .unset] [(.int (5 : Int32))])) rfl (hb hby at_90) rfl (by decide) (cap := 5) (by decide) (by decide) (by decide) (by decide)
      obtain ⟨a119, g119⟩ : ∃ z, z = h0.size := ⟨_, rfl⟩
      rw [← g119] at A119 st119
      have ge119 : n0 ≤ a119 := Nat.le_trans (own_sz O0) (Nat.le_of_eq g119.symm)
      have gh119 : h0.size ≤ a119 := Nat.le_trans (Nat.le_refl _) (Nat.le_of_eq g119.symm)
      have O119 := O0.ext E119
      have z120 : h0.size ≤ h119.size := Nat.le_trans (Nat.le_refl _) E119.1
      have V119 : Arv Z h119 a119 k119 .byte (5 : Int32) [(.int (0 : Int32)), (.int (0 : Int32)), (.int (0 : Int32)), (.int (0 : Int32)), (.int (0 : Int32))] (.int (0 : Int32)) := (Arv.new A119 (by decide)).pad (pad_rep [] _ 5)
      refine own_go st119 ?_
      show OwnGo p e below _ (T119.setTop (mkF m 92 #[.val (.int p0), .val (.int p1), .val (.int p2), .val (.int p3), .val (.int p4), .val (.int p5), .val (.int (1 : Int32)), .val (.ref aCONFIRMATION), .val (.int (2 : Int32)), .val (.int ((((p0).toUInt32 >>> ((1 : Int32) &&& 31).toUInt32).toInt32) % (3 : Int32))), .val (.ref aFFDHE2048), .val (.int (1 : Int32)), .unset] [(.ref a119)]))
      refine own_go (fun _ k => XS.astore X119.here hx rfl (hb hby at_92) rfl rfl (l' := #[.val (.int p0), .val (.int p1), .val (.int p2), .val (.int p3), .val (.int p4), .val (.int p5), .val (.int (1 : Int32)), .val (.ref aCONFIRMATION), .val (.int (2 : Int32)), .val (.int ((((p0).toUInt32 >>> ((1 : Int32) &&& 31).toUInt32).toInt32) % (3 : Int32))), .val (.ref aFFDHE2048), .val (.int (1 : Int32)), .val (.ref a119)]) rfl k) ?_
      show OwnGo p e below _ (T119.setTop (mkF m 94 #[.val (.int p0), .val (.int p1), .val (.int p2), .val (.int p3), .val (.int p4), .val (.int p5), .val (.int (1 : Int32)), .val (.ref aCONFIRMATION), .val (.int (2 : Int32)), .val (.int ((((p0).toUInt32 >>> ((1 : Int32) &&& 31).toUInt32).toInt32) % (3 : Int32))), .val (.ref aFFDHE2048), .val (.int (1 : Int32)), .val (.ref a119)] []))
      refine own_go (fun _ k => XS.aload X119.here hx rfl (hb hby at_94) rfl rfl k) ?_
      show OwnGo p e below _ (T119.setTop (mkF m 96 #[.val (.int p0), .val (.int p1), .val (.int p2), .val (.int p3), .val (.int p4), .val (.int p5), .val (.int (1 : Int32)), .val (.ref aCONFIRMATION), .val (.int (2 : Int32)), .val (.int ((((p0).toUInt32 >>> ((1 : Int32) &&& 31).toUInt32).toInt32) % (3 : Int32))), .val (.ref aFFDHE2048), .val (.int (1 : Int32)), .val (.ref a119)] [(.ref a119)]))
      refine own_go (fun _ k => XS.iconst X119.here hx rfl (hb hby at_96) k) ?_
      show OwnGo p e below _ (T119.setTop (mkF m 97 #[.val (.int p0), .val (.int p1), .val (.int p2), .val (.int p3), .val (.int p4), .val (.int p5), .val (.int (1 : Int32)), .val (.ref aCONFIRMATION), .val (.int (2 : Int32)), .val (.int ((((p0).toUInt32 >>> ((1 : Int32) &&& 31).toUInt32).toInt32) % (3 : Int32))), .val (.ref aFFDHE2048), .val (.int (1 : Int32)), .val (.ref a119)] [(.int (0 : Int32)), (.ref a119)]))
      refine own_go (fun _ k => XS.iloadN X119.here hx rfl (hb hby at_97) rfl k) ?_
      show OwnGo p e below _ (T119.setTop (mkF m 98 #[.val (.int p0), .val (.int p1), .val (.int p2), .val (.int p3), .val (.int p4), .val (.int p5), .val (.int (1 : Int32)), .val (.ref aCONFIRMATION), .val (.int (2 : Int32)), .val (.int ((((p0).toUInt32 >>> ((1 : Int32) &&& 31).toUInt32).toInt32) % (3 : Int32))), .val (.ref aFFDHE2048), .val (.int (1 : Int32)), .val (.ref a119)] [(.int p1), (.int (0 : Int32)), (.ref a119)]))
      refine own_go (fun _ k => XS.i2b X119.here hx rfl (hb hby at_98) rfl k) ?_
      show OwnGo p e below _ (T119.setTop (mkF m 99 #[.val (.int p0), .val (.int p1), .val (.int p2), .val (.int p3), .val (.int p4), .val (.int p5), .val (.int (1 : Int32)), .val (.ref aCONFIRMATION), .val (.int (2 : Int32)), .val (.int ((((p0).toUInt32 >>> ((1 : Int32) &&& 31).toUInt32).toInt32) % (3 : Int32))), .val (.ref aFFDHE2048), .val (.int (1 : Int32)), .val (.ref a119)] [(.int ((p1).toInt8.toInt32)), (.int (0 : Int32)), (.ref a119)]))
      obtain ⟨c121, Ar121, q121, S121, M121, H121, G121⟩ := (id V119)
      obtain ⟨T121, h121, X121, e121, W121, st121⟩ := stB X119 hx hZ e119 Ar121 (j := (0 : Int32)) (inb_of S121 ⟨by decide, by decide⟩) (g := (mkF m 99 #[.val (.int p0), .val (.int p1), .val (.int p2), .val (.int p3), .val (.int p4), .val (.int p5), .val (.int (1 : Int32)), .val (.ref aCONFIRMATION), .val (.int (2 : Int32)), .val (.int ((((p0).toUInt32 >>> ((1 : Int32) &&& 31).toUInt32).toInt32) % (3 : Int32))), .val (.ref aFFDHE2048), .val (.int (1 : Int32)), .val (.ref a119)] [(.int ((p1).toInt8.toInt32)), (.int (0 : Int32)), (.ref a119)])) rfl rfl (hb hby at_99)
      rw [own_narb] at W121
      have N121 := Fr.snoc X121 N0 ge119
      have O121 := O119.wr W121 ge119
      have z122 : h0.size ≤ h121.size := Nat.le_trans z120 (Nat.le_of_eq W121.size.symm)
      have V121 : Arv Z h121 a119 k119 .byte (5 : Int32) [(.int ((p1).toInt8.toInt32)), (.int (0 : Int32)), (.int (0 : Int32)), (.int (0 : Int32)), (.int (0 : Int32))] (.int (0 : Int32)) := Arv.set Ar121 q121 S121 M121 H121 G121 (fits_nar_byte _) W121 0 (by decide) (Nat.le_of_ble_eq_true rfl)
      refine own_go st121 ?_
      show OwnGo p e below _ (T121.setTop (mkF m 100 #[.val (.int p0), .val (.int p1), .val (.int p2), .val (.int p3), .val (.int p4), .val (.int p5), .val (.int (1 : Int32)), .val (.ref aCONFIRMATION), .val (.int (2 : Int32)), .val (.int ((((p0).toUInt32 >>> ((1 : Int32) &&& 31).toUInt32).toInt32) % (3 : Int32))), .val (.ref aFFDHE2048), .val (.int (1 : Int32)), .val (.ref a119)] []))
      refine own_go (fun _ k => XS.aload X121.here hx rfl (hb hby at_100) rfl rfl k) ?_
      show OwnGo p e below _ (T121.setTop (mkF m 102 #[.val (.int p0), .val (.int p1), .val (.int p2), .val (.int p3), .val (.int p4), .val (.int p5), .val (.int (1 : Int32)), .val (.ref aCONFIRMATION), .val (.int (2 : Int32)), .val (.int ((((p0).toUInt32 >>> ((1 : Int32) &&& 31).toUInt32).toInt32) % (3 : Int32))), .val (.ref aFFDHE2048), .val (.int (1 : Int32)), .val (.ref a119)] [(.ref a119)]))
      refine own_go (fun _ k => XS.iconst X121.here hx rfl (hb hby at_102) k) ?_
      show OwnGo p e below _ (T121.setTop (mkF m 103 #[.val (.int p0), .val (.int p1), .val (.int p2), .val (.int p3), .val (.int p4), .val (.int p5), .val (.int (1 : Int32)), .val (.ref aCONFIRMATION), .val (.int (2 : Int32)), .val (.int ((((p0).toUInt32 >>> ((1 : Int32) &&& 31).toUInt32).toInt32) % (3 : Int32))), .val (.ref aFFDHE2048), .val (.int (1 : Int32)), .val (.ref a119)] [(.int (1 : Int32)), (.ref a119)]))
      refine own_go (fun _ k => XS.iloadN X121.here hx rfl (hb hby at_103) rfl k) ?_
      show OwnGo p e below _ (T121.setTop (mkF m 104 #[.val (.int p0), .val (.int p1), .val (.int p2), .val (.int p3), .val (.int p4), .val (.int p5), .val (.int (1 : Int32)), .val (.ref aCONFIRMATION), .val (.int (2 : Int32)), .val (.int ((((p0).toUInt32 >>> ((1 : Int32) &&& 31).toUInt32).toInt32) % (3 : Int32))), .val (.ref aFFDHE2048), .val (.int (1 : Int32)), .val (.ref a119)] [(.int p2), (.int (1 : Int32)), (.ref a119)]))
      refine own_go (fun _ k => XS.i2b X121.here hx rfl (hb hby at_104) rfl k) ?_
      show OwnGo p e below _ (T121.setTop (mkF m 105 #[.val (.int p0), .val (.int p1), .val (.int p2), .val (.int p3), .val (.int p4), .val (.int p5), .val (.int (1 : Int32)), .val (.ref aCONFIRMATION), .val (.int (2 : Int32)), .val (.int ((((p0).toUInt32 >>> ((1 : Int32) &&& 31).toUInt32).toInt32) % (3 : Int32))), .val (.ref aFFDHE2048), .val (.int (1 : Int32)), .val (.ref a119)] [(.int ((p2).toInt8.toInt32)), (.int (1 : Int32)), (.ref a119)]))
      obtain ⟨c123, Ar123, q123, S123, M123, H123, G123⟩ := (id V121)
      obtain ⟨T123, h123, X123, e123, W123, st123⟩ := stB X121 hx hZ e121 Ar123 (j := (1 : Int32)) (inb_of S123 ⟨by decide, by decide⟩) (g := (mkF m 105 #[.val (.int p0), .val (.int p1), .val (.int p2), .val (.int p3), .val (.int p4), .val (.int p5), .val (.int (1 : Int32)), .val (.ref aCONFIRMATION), .val (.int (2 : Int32)), .val (.int ((((p0).toUInt32 >>> ((1 : Int32) &&& 31).toUInt32).toInt32) % (3 : Int32))), .val (.ref aFFDHE2048), .val (.int (1 : Int32)), .val (.ref a119)] [(.int ((p2).toInt8.toInt32)), (.int (1 : Int32)), (.ref a119)])) rfl rfl (hb hby at_105)
      rw [own_narb] at W123
      have N123 := Fr.snoc X123 N121 ge119
      have O123 := O121.wr W123 ge119
      have z124 : h0.size ≤ h123.size := Nat.le_trans z122 (Nat.le_of_eq W123.size.symm)
      have V123 : Arv Z h123 a119 k119 .byte (5 : Int32) [(.int ((p1).toInt8.toInt32)), (.int ((p2).toInt8.toInt32)), (.int (0 : Int32)), (.int (0 : Int32)), (.int (0 : Int32))] (.int (0 : Int32)) := Arv.set Ar123 q123 S123 M123 H123 G123 (fits_nar_byte _) W123 1 (by decide) (Nat.le_of_ble_eq_true rfl)
      refine own_go st123 ?_
      show OwnGo p e below _ (T123.setTop (mkF m 106 #[.val (.int p0), .val (.int p1), .val (.int p2), .val (.int p3), .val (.int p4), .val (.int p5), .val (.int (1 : Int32)), .val (.ref aCONFIRMATION), .val (.int (2 : Int32)), .val (.int ((((p0).toUInt32 >>> ((1 : Int32) &&& 31).toUInt32).toInt32) % (3 : Int32))), .val (.ref aFFDHE2048), .val (.int (1 : Int32)), .val (.ref a119)] []))
      refine own_go (fun _ k => XS.aload X123.here hx rfl (hb hby at_106) rfl rfl k) ?_
      show OwnGo p e below _ (T123.setTop (mkF m 108 #[.val (.int p0), .val (.int p1), .val (.int p2), .val (.int p3), .val (.int p4), .val (.int p5), .val (.int (1 : Int32)), .val (.ref aCONFIRMATION), .val (.int (2 : Int32)), .val (.int ((((p0).toUInt32 >>> ((1 : Int32) &&& 31).toUInt32).toInt32) % (3 : Int32))), .val (.ref aFFDHE2048), .val (.int (1 : Int32)), .val (.ref a119)] [(.ref a119)]))
      refine own_go (fun _ k => XS.iconst X123.here hx rfl (hb hby at_108) k) ?_
      show OwnGo p e below _ (T123.setTop (mkF m 109 #[.val (.int p0), .val (.int p1), .val (.int p2), .val (.int p3), .val (.int p4), .val (.int p5), .val (.int (1 : Int32)), .val (.ref aCONFIRMATION), .val (.int (2 : Int32)), .val (.int ((((p0).toUInt32 >>> ((1 : Int32) &&& 31).toUInt32).toInt32) % (3 : Int32))), .val (.ref aFFDHE2048), .val (.int (1 : Int32)), .val (.ref a119)] [(.int (2 : Int32)), (.ref a119)]))
      refine own_go (fun _ k => XS.iloadN X123.here hx rfl (hb hby at_109) rfl k) ?_
      show OwnGo p e below _ (T123.setTop (mkF m 110 #[.val (.int p0), .val (.int p1), .val (.int p2), .val (.int p3), .val (.int p4), .val (.int p5), .val (.int (1 : Int32)), .val (.ref aCONFIRMATION), .val (.int (2 : Int32)), .val (.int ((((p0).toUInt32 >>> ((1 : Int32) &&& 31).toUInt32).toInt32) % (3 : Int32))), .val (.ref aFFDHE2048), .val (.int (1 : Int32)), .val (.ref a119)] [(.int p3), (.int (2 : Int32)), (.ref a119)]))
      refine own_go (fun _ k => XS.i2b X123.here hx rfl (hb hby at_110) rfl k) ?_
      show OwnGo p e below _ (T123.setTop (mkF m 111 #[.val (.int p0), .val (.int p1), .val (.int p2), .val (.int p3), .val (.int p4), .val (.int p5), .val (.int (1 : Int32)), .val (.ref aCONFIRMATION), .val (.int (2 : Int32)), .val (.int ((((p0).toUInt32 >>> ((1 : Int32) &&& 31).toUInt32).toInt32) % (3 : Int32))), .val (.ref aFFDHE2048), .val (.int (1 : Int32)), .val (.ref a119)] [(.int ((p3).toInt8.toInt32)), (.int (2 : Int32)), (.ref a119)]))
      obtain ⟨c125, Ar125, q125, S125, M125, H125, G125⟩ := (id V123)
      obtain ⟨T125, h125, X125, e125, W125, st125⟩ := stB X123 hx hZ e123 Ar125 (j := (2 : Int32)) (inb_of S125 ⟨by decide, by decide⟩) (g := (mkF m 111 #[.val (.int p0), .val (.int p1), .val (.int p2), .val (.int p3), .val (.int p4), .val (.int p5), .val (.int (1 : Int32)), .val (.ref aCONFIRMATION), .val (.int (2 : Int32)), .val (.int ((((p0).toUInt32 >>> ((1 : Int32) &&& 31).toUInt32).toInt32) % (3 : Int32))), .val (.ref aFFDHE2048), .val (.int (1 : Int32)), .val (.ref a119)] [(.int ((p3).toInt8.toInt32)), (.int (2 : Int32)), (.ref a119)])) rfl rfl (hb hby at_111)
      rw [own_narb] at W125
      have N125 := Fr.snoc X125 N123 ge119
      have O125 := O123.wr W125 ge119
      have z126 : h0.size ≤ h125.size := Nat.le_trans z124 (Nat.le_of_eq W125.size.symm)
      have V125 : Arv Z h125 a119 k119 .byte (5 : Int32) [(.int ((p1).toInt8.toInt32)), (.int ((p2).toInt8.toInt32)), (.int ((p3).toInt8.toInt32)), (.int (0 : Int32)), (.int (0 : Int32))] (.int (0 : Int32)) := Arv.set Ar125 q125 S125 M125 H125 G125 (fits_nar_byte _) W125 2 (by decide) (Nat.le_of_ble_eq_true rfl)
      refine own_go st125 ?_
      show OwnGo p e below _ (T125.setTop (mkF m 112 #[.val (.int p0), .val (.int p1), .val (.int p2), .val (.int p3), .val (.int p4), .val (.int p5), .val (.int (1 : Int32)), .val (.ref aCONFIRMATION), .val (.int (2 : Int32)), .val (.int ((((p0).toUInt32 >>> ((1 : Int32) &&& 31).toUInt32).toInt32) % (3 : Int32))), .val (.ref aFFDHE2048), .val (.int (1 : Int32)), .val (.ref a119)] []))
      refine own_go (fun _ k => XS.aload X125.here hx rfl (hb hby at_112) rfl rfl k) ?_
      show OwnGo p e below _ (T125.setTop (mkF m 114 #[.val (.int p0), .val (.int p1), .val (.int p2), .val (.int p3), .val (.int p4), .val (.int p5), .val (.int (1 : Int32)), .val (.ref aCONFIRMATION), .val (.int (2 : Int32)), .val (.int ((((p0).toUInt32 >>> ((1 : Int32) &&& 31).toUInt32).toInt32) % (3 : Int32))), .val (.ref aFFDHE2048), .val (.int (1 : Int32)), .val (.ref a119)] [(.ref a119)]))
      refine own_go (fun _ k => XS.iconst X125.here hx rfl (hb hby at_114) k) ?_
      show OwnGo p e below _ (T125.setTop (mkF m 115 #[.val (.int p0), .val (.int p1), .val (.int p2), .val (.int p3), .val (.int p4), .val (.int p5), .val (.int (1 : Int32)), .val (.ref aCONFIRMATION), .val (.int (2 : Int32)), .val (.int ((((p0).toUInt32 >>> ((1 : Int32) &&& 31).toUInt32).toInt32) % (3 : Int32))), .val (.ref aFFDHE2048), .val (.int (1 : Int32)), .val (.ref a119)] [(.int (3 : Int32)), (.ref a119)]))
      refine own_go (fun _ k => XS.iload X125.here hx rfl (hb hby at_115) rfl k) ?_
      show OwnGo p e below _ (T125.setTop (mkF m 117 #[.val (.int p0), .val (.int p1), .val (.int p2), .val (.int p3), .val (.int p4), .val (.int p5), .val (.int (1 : Int32)), .val (.ref aCONFIRMATION), .val (.int (2 : Int32)), .val (.int ((((p0).toUInt32 >>> ((1 : Int32) &&& 31).toUInt32).toInt32) % (3 : Int32))), .val (.ref aFFDHE2048), .val (.int (1 : Int32)), .val (.ref a119)] [(.int p4), (.int (3 : Int32)), (.ref a119)]))
      refine own_go (fun _ k => XS.i2b X125.here hx rfl (hb hby at_117) rfl k) ?_
      show OwnGo p e below _ (T125.setTop (mkF m 118 #[.val (.int p0), .val (.int p1), .val (.int p2), .val (.int p3), .val (.int p4), .val (.int p5), .val (.int (1 : Int32)), .val (.ref aCONFIRMATION), .val (.int (2 : Int32)), .val (.int ((((p0).toUInt32 >>> ((1 : Int32) &&& 31).toUInt32).toInt32) % (3 : Int32))), .val (.ref aFFDHE2048), .val (.int (1 : Int32)), .val (.ref a119)] [(.int ((p4).toInt8.toInt32)), (.int (3 : Int32)), (.ref a119)]))
      obtain ⟨c127, Ar127, q127, S127, M127, H127, G127⟩ := (id V125)
      obtain ⟨T127, h127, X127, e127, W127, st127⟩ := stB X125 hx hZ e125 Ar127 (j := (3 : Int32)) (inb_of S127 ⟨by decide, by decide⟩) (g := (mkF m 118 #[.val (.int p0), .val (.int p1), .val (.int p2), .val (.int p3), .val (.int p4), .val (.int p5), .val (.int (1 : Int32)), .val (.ref aCONFIRMATION), .val (.int (2 : Int32)), .val (.int ((((p0).toUInt32 >>> ((1 : Int32) &&& 31).toUInt32).toInt32) % (3 : Int32))), .val (.ref aFFDHE2048), .val (.int (1 : Int32)), .val (.ref a119)] [(.int ((p4).toInt8.toInt32)), (.int (3 : Int32)), (.ref a119)])) rfl rfl (hb hby at_118)
      rw [own_narb] at W127
      have N127 := Fr.snoc X127 N125 ge119
      have O127 := O125.wr W127 ge119
      have z128 : h0.size ≤ h127.size := Nat.le_trans z126 (Nat.le_of_eq W127.size.symm)
      have V127 : Arv Z h127 a119 k119 .byte (5 : Int32) [(.int ((p1).toInt8.toInt32)), (.int ((p2).toInt8.toInt32)), (.int ((p3).toInt8.toInt32)), (.int ((p4).toInt8.toInt32)), (.int (0 : Int32))] (.int (0 : Int32)) := Arv.set Ar127 q127 S127 M127 H127 G127 (fits_nar_byte _) W127 3 (by decide) (Nat.le_of_ble_eq_true rfl)
      refine own_go st127 ?_
      show OwnGo p e below _ (T127.setTop (mkF m 119 #[.val (.int p0), .val (.int p1), .val (.int p2), .val (.int p3), .val (.int p4), .val (.int p5), .val (.int (1 : Int32)), .val (.ref aCONFIRMATION), .val (.int (2 : Int32)), .val (.int ((((p0).toUInt32 >>> ((1 : Int32) &&& 31).toUInt32).toInt32) % (3 : Int32))), .val (.ref aFFDHE2048), .val (.int (1 : Int32)), .val (.ref a119)] []))
      refine own_go (fun _ k => XS.aload X127.here hx rfl (hb hby at_119) rfl rfl k) ?_
      show OwnGo p e below _ (T127.setTop (mkF m 121 #[.val (.int p0), .val (.int p1), .val (.int p2), .val (.int p3), .val (.int p4), .val (.int p5), .val (.int (1 : Int32)), .val (.ref aCONFIRMATION), .val (.int (2 : Int32)), .val (.int ((((p0).toUInt32 >>> ((1 : Int32) &&& 31).toUInt32).toInt32) % (3 : Int32))), .val (.ref aFFDHE2048), .val (.int (1 : Int32)), .val (.ref a119)] [(.ref a119)]))
      refine own_go (fun _ k => XS.iconst X127.here hx rfl (hb hby at_121) k) ?_
      show OwnGo p e below _ (T127.setTop (mkF m 122 #[.val (.int p0), .val (.int p1), .val (.int p2), .val (.int p3), .val (.int p4), .val (.int p5), .val (.int (1 : Int32)), .val (.ref aCONFIRMATION), .val (.int (2 : Int32)), .val (.int ((((p0).toUInt32 >>> ((1 : Int32) &&& 31).toUInt32).toInt32) % (3 : Int32))), .val (.ref aFFDHE2048), .val (.int (1 : Int32)), .val (.ref a119)] [(.int (4 : Int32)), (.ref a119)]))
      refine own_go (fun _ k => XS.iload X127.here hx rfl (hb hby at_122) rfl k) ?_
      show OwnGo p e below _ (T127.setTop (mkF m 124 #[.val (.int p0), .val (.int p1), .val (.int p2), .val (.int p3), .val (.int p4), .val (.int p5), .val (.int (1 : Int32)), .val (.ref aCONFIRMATION), .val (.int (2 : Int32)), .val (.int ((((p0).toUInt32 >>> ((1 : Int32) &&& 31).toUInt32).toInt32) % (3 : Int32))), .val (.ref aFFDHE2048), .val (.int (1 : Int32)), .val (.ref a119)] [(.int p5), (.int (4 : Int32)), (.ref a119)]))
      refine own_go (fun _ k => XS.i2b X127.here hx rfl (hb hby at_124) rfl k) ?_
      show OwnGo p e below _ (T127.setTop (mkF m 125 #[.val (.int p0), .val (.int p1), .val (.int p2), .val (.int p3), .val (.int p4), .val (.int p5), .val (.int (1 : Int32)), .val (.ref aCONFIRMATION), .val (.int (2 : Int32)), .val (.int ((((p0).toUInt32 >>> ((1 : Int32) &&& 31).toUInt32).toInt32) % (3 : Int32))), .val (.ref aFFDHE2048), .val (.int (1 : Int32)), .val (.ref a119)] [(.int ((p5).toInt8.toInt32)), (.int (4 : Int32)), (.ref a119)]))
      obtain ⟨c129, Ar129, q129, S129, M129, H129, G129⟩ := (id V127)
      obtain ⟨T129, h129, X129, e129, W129, st129⟩ := stB X127 hx hZ e127 Ar129 (j := (4 : Int32)) (inb_of S129 ⟨by decide, by decide⟩) (g := (mkF m 125 #[.val (.int p0), .val (.int p1), .val (.int p2), .val (.int p3), .val (.int p4), .val (.int p5), .val (.int (1 : Int32)), .val (.ref aCONFIRMATION), .val (.int (2 : Int32)), .val (.int ((((p0).toUInt32 >>> ((1 : Int32) &&& 31).toUInt32).toInt32) % (3 : Int32))), .val (.ref aFFDHE2048), .val (.int (1 : Int32)), .val (.ref a119)] [(.int ((p5).toInt8.toInt32)), (.int (4 : Int32)), (.ref a119)])) rfl rfl (hb hby at_125)
      rw [own_narb] at W129
      have N129 := Fr.snoc X129 N127 ge119
      have O129 := O127.wr W129 ge119
      have z130 : h0.size ≤ h129.size := Nat.le_trans z128 (Nat.le_of_eq W129.size.symm)
      have V129 : Arv Z h129 a119 k119 .byte (5 : Int32) [(.int ((p1).toInt8.toInt32)), (.int ((p2).toInt8.toInt32)), (.int ((p3).toInt8.toInt32)), (.int ((p4).toInt8.toInt32)), (.int ((p5).toInt8.toInt32))] (.int (0 : Int32)) := Arv.set Ar129 q129 S129 M129 H129 G129 (fits_nar_byte _) W129 4 (by decide) (Nat.le_of_ble_eq_true rfl)
      refine own_go st129 ?_
      show OwnGo p e below _ (T129.setTop (mkF m 126 #[.val (.int p0), .val (.int p1), .val (.int p2), .val (.int p3), .val (.int p4), .val (.int p5), .val (.int (1 : Int32)), .val (.ref aCONFIRMATION), .val (.int (2 : Int32)), .val (.int ((((p0).toUInt32 >>> ((1 : Int32) &&& 31).toUInt32).toInt32) % (3 : Int32))), .val (.ref aFFDHE2048), .val (.int (1 : Int32)), .val (.ref a119)] []))
      refine own_go (fun _ k => XS.aload X129.here hx rfl (hb hby at_126) rfl rfl k) ?_
      show OwnGo p e below _ (T129.setTop (mkF m 128 #[.val (.int p0), .val (.int p1), .val (.int p2), .val (.int p3), .val (.int p4), .val (.int p5), .val (.int (1 : Int32)), .val (.ref aCONFIRMATION), .val (.int (2 : Int32)), .val (.int ((((p0).toUInt32 >>> ((1 : Int32) &&& 31).toUInt32).toInt32) % (3 : Int32))), .val (.ref aFFDHE2048), .val (.int (1 : Int32)), .val (.ref a119)] [(.ref aCONFIRMATION)]))
      refine own_go (fun _ k => XS.aload X129.here hx rfl (hb hby at_128) rfl rfl k) ?_
      show OwnGo p e below _ (T129.setTop (mkF m 130 #[.val (.int p0), .val (.int p1), .val (.int p2), .val (.int p3), .val (.int p4), .val (.int p5), .val (.int (1 : Int32)), .val (.ref aCONFIRMATION), .val (.int (2 : Int32)), .val (.int ((((p0).toUInt32 >>> ((1 : Int32) &&& 31).toUInt32).toInt32) % (3 : Int32))), .val (.ref aFFDHE2048), .val (.int (1 : Int32)), .val (.ref a119)] [(.ref a119), (.ref aCONFIRMATION)]))
      refine own_go (fun _ k => XS.aload X129.here hx rfl (hb hby at_130) rfl rfl k) ?_
      show OwnGo p e below _ (T129.setTop (mkF m 132 #[.val (.int p0), .val (.int p1), .val (.int p2), .val (.int p3), .val (.int p4), .val (.int p5), .val (.int (1 : Int32)), .val (.ref aCONFIRMATION), .val (.int (2 : Int32)), .val (.int ((((p0).toUInt32 >>> ((1 : Int32) &&& 31).toUInt32).toInt32) % (3 : Int32))), .val (.ref aFFDHE2048), .val (.int (1 : Int32)), .val (.ref a119)] [(.ref aFFDHE2048), (.ref a119), (.ref aCONFIRMATION)]))
      obtain ⟨cq131, kq131, qa131, qb131, qc131⟩ := isOf hZ e129 (F0.2.2.2.2.2.2.2.2.2.2.1.ext O129.2)
      obtain ⟨_, _, ⟨T131, L131, k131, n131⟩, -, X131, ⟨Lc131, hQ131, l131, y131, z131⟩, st131⟩ := X129.virtualBack hx (y := (⟨"com/example/portcullis/portcullis/MessageType", "writeHeader", "([BLcom/example/portcullis/portcullis/Group;)V"⟩ : MethodName)) (z := (⟨"com/example/portcullis/portcullis/MessageType", "writeHeader", "([BLcom/example/portcullis/portcullis/Group;)V"⟩ : MethodName)) hown (mvT hZ (hw _ (List.mem_of_getElem? (i := 7) rfl))) (mvT hZ (hw _ (List.mem_of_getElem? (i := 8) rfl))) (notFace_of_selects (args := #[]) (mvT hZ (hw _ (List.mem_of_getElem? (i := 10) rfl)))) (mvT hZ (hw _ (List.mem_of_getElem? (i := 10) rfl))) (mvT hZ (hw _ (List.mem_of_getElem? (i := 9) rfl))) (by decide) (backOf (W := 0) (rm_wr_aCONFIRMATION_aFFDHE2048 l Z a0 hw [] aKEY_SHARE aFFDHE2048 aFFDHE4096 aCONFIRMATION aFFDHE3072 F0 a119 k119 ((p1).toInt8.toInt32) ((p2).toInt8.toInt32) ((p3).toInt8.toInt32) ((p4).toInt8.toInt32) ((p5).toInt8.toInt32) h129 n0 O129 V129 ge119) hZ (hw _ (List.mem_of_getElem? (i := 11) rfl)) (hw _ (List.mem_of_getElem? (i := 1) rfl)) (by decide) (by decide)) qa131 qc131 (g := (mkF m 132 #[.val (.int p0), .val (.int p1), .val (.int p2), .val (.int p3), .val (.int p4), .val (.int p5), .val (.int (1 : Int32)), .val (.ref aCONFIRMATION), .val (.int (2 : Int32)), .val (.int ((((p0).toUInt32 >>> ((1 : Int32) &&& 31).toUInt32).toInt32) % (3 : Int32))), .val (.ref aFFDHE2048), .val (.int (1 : Int32)), .val (.ref a119)] [(.ref aFFDHE2048), (.ref a119), (.ref aCONFIRMATION)])) rfl (by rw [hml]; rfl) (Steps.refl _) (argsL := [(.ref a119), (.ref aFFDHE2048)]) (rest := []) (lenOf pd__B_Lcom_example_portcullis_portcullis_Group___V rfl) rfl (by show 2 * 0 + _ ≤ _; exact Nat.le_of_eq rfl) (hb hby at_132) (fun _ _ => ⟨rfl, e129, (by decide : 1 + 0 ≤ _), (by decide : 5 + 0 ≤ _)⟩)
      dsimp only [Pt.U, Pt.locs, Pt.cells, Pt.slots] at X131 l131 y131 z131 st131 hQ131
      subst l131 y131 z131
      obtain ⟨rfl, Nq131, K131, x131_0⟩ := hQ131
      have N131 := Fr.app N129 Nq131
      have O131 := O129.keep K131 (allS ge119 all0)
      have e131 : T131.heap = T131.heap := rfl
      have z132 : h0.size ≤ T131.heap.size := Nat.le_trans z130 K131.1
      refine own_go (fun _ k => st131.trans k) ?_
      show OwnGo p e below _ (T131.setTop (mkF m 135 #[.val (.int p0), .val (.int p1), .val (.int p2), .val (.int p3), .val (.int p4), .val (.int p5), .val (.int (1 : Int32)), .val (.ref aCONFIRMATION), .val (.int (2 : Int32)), .val (.int ((((p0).toUInt32 >>> ((1 : Int32) &&& 31).toUInt32).toInt32) % (3 : Int32))), .val (.ref aFFDHE2048), .val (.int (1 : Int32)), .val (.ref a119)] []))
      refine own_go (fun _ k => XS.aload X131.here hx rfl (hb hby at_135) rfl rfl k) ?_
      show OwnGo p e below _ (T131.setTop (mkF m 137 #[.val (.int p0), .val (.int p1), .val (.int p2), .val (.int p3), .val (.int p4), .val (.int p5), .val (.int (1 : Int32)), .val (.ref aCONFIRMATION), .val (.int (2 : Int32)), .val (.int ((((p0).toUInt32 >>> ((1 : Int32) &&& 31).toUInt32).toInt32) % (3 : Int32))), .val (.ref aFFDHE2048), .val (.int (1 : Int32)), .val (.ref a119)] [(.ref a119)]))
      refine own_go (fun _ k => XS.iconst X131.here hx rfl (hb hby at_137) k) ?_
      show OwnGo p e below _ (T131.setTop (mkF m 138 #[.val (.int p0), .val (.int p1), .val (.int p2), .val (.int p3), .val (.int p4), .val (.int p5), .val (.int (1 : Int32)), .val (.ref aCONFIRMATION), .val (.int (2 : Int32)), .val (.int ((((p0).toUInt32 >>> ((1 : Int32) &&& 31).toUInt32).toInt32) % (3 : Int32))), .val (.ref aFFDHE2048), .val (.int (1 : Int32)), .val (.ref a119)] [(.int (0 : Int32)), (.ref a119)]))
      obtain ⟨c133, Ar133, q133, S133, M133, H133, G133⟩ := (id x131_0)
      refine own_go (fun _ k => X131.baloadBytes hx (j := (0 : Int32)) (v := (.int (1 : Int32))) (by rw [e131]; exact Ar133.1) (State.isArrayOf_alike hZ.alike Ar133.2.1) Ar133.2.2 (inb_of S133 ⟨by decide, by decide⟩) (Has.at H133 (inb_of S133 ⟨by decide, by decide⟩) rfl) (g := (mkF m 138 #[.val (.int p0), .val (.int p1), .val (.int p2), .val (.int p3), .val (.int p4), .val (.int p5), .val (.int (1 : Int32)), .val (.ref aCONFIRMATION), .val (.int (2 : Int32)), .val (.int ((((p0).toUInt32 >>> ((1 : Int32) &&& 31).toUInt32).toInt32) % (3 : Int32))), .val (.ref aFFDHE2048), .val (.int (1 : Int32)), .val (.ref a119)] [(.int (0 : Int32)), (.ref a119)])) rfl rfl (hb hby at_138) _ k) ?_
      show OwnGo p e below _ (T131.setTop (mkF m 139 #[.val (.int p0), .val (.int p1), .val (.int p2), .val (.int p3), .val (.int p4), .val (.int p5), .val (.int (1 : Int32)), .val (.ref aCONFIRMATION), .val (.int (2 : Int32)), .val (.int ((((p0).toUInt32 >>> ((1 : Int32) &&& 31).toUInt32).toInt32) % (3 : Int32))), .val (.ref aFFDHE2048), .val (.int (1 : Int32)), .val (.ref a119)] [(.int (1 : Int32))]))
      refine own_go (fun _ k => XS.iconst X131.here hx rfl (hb hby at_139) k) ?_
      show OwnGo p e below _ (T131.setTop (mkF m 140 #[.val (.int p0), .val (.int p1), .val (.int p2), .val (.int p3), .val (.int p4), .val (.int p5), .val (.int (1 : Int32)), .val (.ref aCONFIRMATION), .val (.int (2 : Int32)), .val (.int ((((p0).toUInt32 >>> ((1 : Int32) &&& 31).toUInt32).toInt32) % (3 : Int32))), .val (.ref aFFDHE2048), .val (.int (1 : Int32)), .val (.ref a119)] [(.int (1 : Int32)), (.int (1 : Int32))]))
      refine own_go (fun _ k => XS.icmpNo X131.here hx rfl (hb hby at_140) rfl (by decide) k) ?_
      show OwnGo p e below _ (T131.setTop (mkF m 143 #[.val (.int p0), .val (.int p1), .val (.int p2), .val (.int p3), .val (.int p4), .val (.int p5), .val (.int (1 : Int32)), .val (.ref aCONFIRMATION), .val (.int (2 : Int32)), .val (.int ((((p0).toUInt32 >>> ((1 : Int32) &&& 31).toUInt32).toInt32) % (3 : Int32))), .val (.ref aFFDHE2048), .val (.int (1 : Int32)), .val (.ref a119)] []))
      refine own_go (fun _ k => XS.aload X131.here hx rfl (hb hby at_143) rfl rfl k) ?_
      show OwnGo p e below _ (T131.setTop (mkF m 145 #[.val (.int p0), .val (.int p1), .val (.int p2), .val (.int p3), .val (.int p4), .val (.int p5), .val (.int (1 : Int32)), .val (.ref aCONFIRMATION), .val (.int (2 : Int32)), .val (.int ((((p0).toUInt32 >>> ((1 : Int32) &&& 31).toUInt32).toInt32) % (3 : Int32))), .val (.ref aFFDHE2048), .val (.int (1 : Int32)), .val (.ref a119)] [(.ref a119)]))
      refine own_go (fun _ k => XS.iconst X131.here hx rfl (hb hby at_145) k) ?_
      show OwnGo p e below _ (T131.setTop (mkF m 146 #[.val (.int p0), .val (.int p1), .val (.int p2), .val (.int p3), .val (.int p4), .val (.int p5), .val (.int (1 : Int32)), .val (.ref aCONFIRMATION), .val (.int (2 : Int32)), .val (.int ((((p0).toUInt32 >>> ((1 : Int32) &&& 31).toUInt32).toInt32) % (3 : Int32))), .val (.ref aFFDHE2048), .val (.int (1 : Int32)), .val (.ref a119)] [(.int (1 : Int32)), (.ref a119)]))
      obtain ⟨c134, Ar134, q134, S134, M134, H134, G134⟩ := (id x131_0)
      refine own_go (fun _ k => X131.baloadBytes hx (j := (1 : Int32)) (v := (.int (2 : Int32))) (by rw [e131]; exact Ar134.1) (State.isArrayOf_alike hZ.alike Ar134.2.1) Ar134.2.2 (inb_of S134 ⟨by decide, by decide⟩) (Has.at H134 (inb_of S134 ⟨by decide, by decide⟩) rfl) (g := (mkF m 146 #[.val (.int p0), .val (.int p1), .val (.int p2), .val (.int p3), .val (.int p4), .val (.int p5), .val (.int (1 : Int32)), .val (.ref aCONFIRMATION), .val (.int (2 : Int32)), .val (.int ((((p0).toUInt32 >>> ((1 : Int32) &&& 31).toUInt32).toInt32) % (3 : Int32))), .val (.ref aFFDHE2048), .val (.int (1 : Int32)), .val (.ref a119)] [(.int (1 : Int32)), (.ref a119)])) rfl rfl (hb hby at_146) _ k) ?_
      show OwnGo p e below _ (T131.setTop (mkF m 147 #[.val (.int p0), .val (.int p1), .val (.int p2), .val (.int p3), .val (.int p4), .val (.int p5), .val (.int (1 : Int32)), .val (.ref aCONFIRMATION), .val (.int (2 : Int32)), .val (.int ((((p0).toUInt32 >>> ((1 : Int32) &&& 31).toUInt32).toInt32) % (3 : Int32))), .val (.ref aFFDHE2048), .val (.int (1 : Int32)), .val (.ref a119)] [(.int (2 : Int32))]))
      refine own_go (fun _ k => XS.iload X131.here hx rfl (hb hby at_147) rfl k) ?_
      show OwnGo p e below _ (T131.setTop (mkF m 149 #[.val (.int p0), .val (.int p1), .val (.int p2), .val (.int p3), .val (.int p4), .val (.int p5), .val (.int (1 : Int32)), .val (.ref aCONFIRMATION), .val (.int (2 : Int32)), .val (.int ((((p0).toUInt32 >>> ((1 : Int32) &&& 31).toUInt32).toInt32) % (3 : Int32))), .val (.ref aFFDHE2048), .val (.int (1 : Int32)), .val (.ref a119)] [(.int (2 : Int32)), (.int (2 : Int32))]))
      refine own_go (fun _ k => XS.icmpNo X131.here hx rfl (hb hby at_149) rfl (by decide) k) ?_
      show OwnGo p e below _ (T131.setTop (mkF m 152 #[.val (.int p0), .val (.int p1), .val (.int p2), .val (.int p3), .val (.int p4), .val (.int p5), .val (.int (1 : Int32)), .val (.ref aCONFIRMATION), .val (.int (2 : Int32)), .val (.int ((((p0).toUInt32 >>> ((1 : Int32) &&& 31).toUInt32).toInt32) % (3 : Int32))), .val (.ref aFFDHE2048), .val (.int (1 : Int32)), .val (.ref a119)] []))
      refine own_go (fun _ k => XS.aload X131.here hx rfl (hb hby at_152) rfl rfl k) ?_
      show OwnGo p e below _ (T131.setTop (mkF m 154 #[.val (.int p0), .val (.int p1), .val (.int p2), .val (.int p3), .val (.int p4), .val (.int p5), .val (.int (1 : Int32)), .val (.ref aCONFIRMATION), .val (.int (2 : Int32)), .val (.int ((((p0).toUInt32 >>> ((1 : Int32) &&& 31).toUInt32).toInt32) % (3 : Int32))), .val (.ref aFFDHE2048), .val (.int (1 : Int32)), .val (.ref a119)] [(.ref a119)]))
      refine own_go (fun _ k => XS.iconst X131.here hx rfl (hb hby at_154) k) ?_
      show OwnGo p e below _ (T131.setTop (mkF m 155 #[.val (.int p0), .val (.int p1), .val (.int p2), .val (.int p3), .val (.int p4), .val (.int p5), .val (.int (1 : Int32)), .val (.ref aCONFIRMATION), .val (.int (2 : Int32)), .val (.int ((((p0).toUInt32 >>> ((1 : Int32) &&& 31).toUInt32).toInt32) % (3 : Int32))), .val (.ref aFFDHE2048), .val (.int (1 : Int32)), .val (.ref a119)] [(.int (2 : Int32)), (.ref a119)]))
      obtain ⟨c135, Ar135, q135, S135, M135, H135, G135⟩ := (id x131_0)
      refine own_go (fun _ k => X131.baloadBytes hx (j := (2 : Int32)) (v := (.int (1 : Int32))) (by rw [e131]; exact Ar135.1) (State.isArrayOf_alike hZ.alike Ar135.2.1) Ar135.2.2 (inb_of S135 ⟨by decide, by decide⟩) (Has.at H135 (inb_of S135 ⟨by decide, by decide⟩) rfl) (g := (mkF m 155 #[.val (.int p0), .val (.int p1), .val (.int p2), .val (.int p3), .val (.int p4), .val (.int p5), .val (.int (1 : Int32)), .val (.ref aCONFIRMATION), .val (.int (2 : Int32)), .val (.int ((((p0).toUInt32 >>> ((1 : Int32) &&& 31).toUInt32).toInt32) % (3 : Int32))), .val (.ref aFFDHE2048), .val (.int (1 : Int32)), .val (.ref a119)] [(.int (2 : Int32)), (.ref a119)])) rfl rfl (hb hby at_155) _ k) ?_
      show OwnGo p e below _ (T131.setTop (mkF m 156 #[.val (.int p0), .val (.int p1), .val (.int p2), .val (.int p3), .val (.int p4), .val (.int p5), .val (.int (1 : Int32)), .val (.ref aCONFIRMATION), .val (.int (2 : Int32)), .val (.int ((((p0).toUInt32 >>> ((1 : Int32) &&& 31).toUInt32).toInt32) % (3 : Int32))), .val (.ref aFFDHE2048), .val (.int (1 : Int32)), .val (.ref a119)] [(.int (1 : Int32))]))
      refine own_go (fun _ k => XS.iload X131.here hx rfl (hb hby at_156) rfl k) ?_
      show OwnGo p e below _ (T131.setTop (mkF m 158 #[.val (.int p0), .val (.int p1), .val (.int p2), .val (.int p3), .val (.int p4), .val (.int p5), .val (.int (1 : Int32)), .val (.ref aCONFIRMATION), .val (.int (2 : Int32)), .val (.int ((((p0).toUInt32 >>> ((1 : Int32) &&& 31).toUInt32).toInt32) % (3 : Int32))), .val (.ref aFFDHE2048), .val (.int (1 : Int32)), .val (.ref a119)] [(.int (1 : Int32)), (.int (1 : Int32))]))
      refine own_go (fun _ k => XS.icmpNo X131.here hx rfl (hb hby at_158) rfl (by decide) k) ?_
      show OwnGo p e below _ (T131.setTop (mkF m 161 #[.val (.int p0), .val (.int p1), .val (.int p2), .val (.int p3), .val (.int p4), .val (.int p5), .val (.int (1 : Int32)), .val (.ref aCONFIRMATION), .val (.int (2 : Int32)), .val (.int ((((p0).toUInt32 >>> ((1 : Int32) &&& 31).toUInt32).toInt32) % (3 : Int32))), .val (.ref aFFDHE2048), .val (.int (1 : Int32)), .val (.ref a119)] []))
      refine own_go (fun _ k => XS.aload X131.here hx rfl (hb hby at_161) rfl rfl k) ?_
      show OwnGo p e below _ (T131.setTop (mkF m 163 #[.val (.int p0), .val (.int p1), .val (.int p2), .val (.int p3), .val (.int p4), .val (.int p5), .val (.int (1 : Int32)), .val (.ref aCONFIRMATION), .val (.int (2 : Int32)), .val (.int ((((p0).toUInt32 >>> ((1 : Int32) &&& 31).toUInt32).toInt32) % (3 : Int32))), .val (.ref aFFDHE2048), .val (.int (1 : Int32)), .val (.ref a119)] [(.ref a119)]))
      refine own_go (fun _ k => XS.iconst X131.here hx rfl (hb hby at_163) k) ?_
      show OwnGo p e below _ (T131.setTop (mkF m 164 #[.val (.int p0), .val (.int p1), .val (.int p2), .val (.int p3), .val (.int p4), .val (.int p5), .val (.int (1 : Int32)), .val (.ref aCONFIRMATION), .val (.int (2 : Int32)), .val (.int ((((p0).toUInt32 >>> ((1 : Int32) &&& 31).toUInt32).toInt32) % (3 : Int32))), .val (.ref aFFDHE2048), .val (.int (1 : Int32)), .val (.ref a119)] [(.int (3 : Int32)), (.ref a119)]))
      obtain ⟨c136, Ar136, q136, S136, M136, H136, G136⟩ := (id x131_0)
      refine own_go (fun _ k => X131.baloadBytes hx (j := (3 : Int32)) (v := (.int ((p4).toInt8.toInt32))) (by rw [e131]; exact Ar136.1) (State.isArrayOf_alike hZ.alike Ar136.2.1) Ar136.2.2 (inb_of S136 ⟨by decide, by decide⟩) (Has.at H136 (inb_of S136 ⟨by decide, by decide⟩) rfl) (g := (mkF m 164 #[.val (.int p0), .val (.int p1), .val (.int p2), .val (.int p3), .val (.int p4), .val (.int p5), .val (.int (1 : Int32)), .val (.ref aCONFIRMATION), .val (.int (2 : Int32)), .val (.int ((((p0).toUInt32 >>> ((1 : Int32) &&& 31).toUInt32).toInt32) % (3 : Int32))), .val (.ref aFFDHE2048), .val (.int (1 : Int32)), .val (.ref a119)] [(.int (3 : Int32)), (.ref a119)])) rfl rfl (hb hby at_164) _ k) ?_
      show OwnGo p e below _ (T131.setTop (mkF m 165 #[.val (.int p0), .val (.int p1), .val (.int p2), .val (.int p3), .val (.int p4), .val (.int p5), .val (.int (1 : Int32)), .val (.ref aCONFIRMATION), .val (.int (2 : Int32)), .val (.int ((((p0).toUInt32 >>> ((1 : Int32) &&& 31).toUInt32).toInt32) % (3 : Int32))), .val (.ref aFFDHE2048), .val (.int (1 : Int32)), .val (.ref a119)] [(.int ((p4).toInt8.toInt32))]))
      refine own_go (fun _ k => XS.iload X131.here hx rfl (hb hby at_165) rfl k) ?_
      show OwnGo p e below _ (T131.setTop (mkF m 167 #[.val (.int p0), .val (.int p1), .val (.int p2), .val (.int p3), .val (.int p4), .val (.int p5), .val (.int (1 : Int32)), .val (.ref aCONFIRMATION), .val (.int (2 : Int32)), .val (.int ((((p0).toUInt32 >>> ((1 : Int32) &&& 31).toUInt32).toInt32) % (3 : Int32))), .val (.ref aFFDHE2048), .val (.int (1 : Int32)), .val (.ref a119)] [(.int p4), (.int ((p4).toInt8.toInt32))]))
      refine own_go (fun _ k => XS.i2b X131.here hx rfl (hb hby at_167) rfl k) ?_
      show OwnGo p e below _ (T131.setTop (mkF m 168 #[.val (.int p0), .val (.int p1), .val (.int p2), .val (.int p3), .val (.int p4), .val (.int p5), .val (.int (1 : Int32)), .val (.ref aCONFIRMATION), .val (.int (2 : Int32)), .val (.int ((((p0).toUInt32 >>> ((1 : Int32) &&& 31).toUInt32).toInt32) % (3 : Int32))), .val (.ref aFFDHE2048), .val (.int (1 : Int32)), .val (.ref a119)] [(.int ((p4).toInt8.toInt32)), (.int ((p4).toInt8.toInt32))]))
      refine own_go (fun _ k => XS.icmpNo X131.here hx rfl (hb hby at_168) rfl (teq rfl).2 k) ?_
      show OwnGo p e below _ (T131.setTop (mkF m 171 #[.val (.int p0), .val (.int p1), .val (.int p2), .val (.int p3), .val (.int p4), .val (.int p5), .val (.int (1 : Int32)), .val (.ref aCONFIRMATION), .val (.int (2 : Int32)), .val (.int ((((p0).toUInt32 >>> ((1 : Int32) &&& 31).toUInt32).toInt32) % (3 : Int32))), .val (.ref aFFDHE2048), .val (.int (1 : Int32)), .val (.ref a119)] []))
      refine own_go (fun _ k => XS.aload X131.here hx rfl (hb hby at_171) rfl rfl k) ?_
      show OwnGo p e below _ (T131.setTop (mkF m 173 #[.val (.int p0), .val (.int p1), .val (.int p2), .val (.int p3), .val (.int p4), .val (.int p5), .val (.int (1 : Int32)), .val (.ref aCONFIRMATION), .val (.int (2 : Int32)), .val (.int ((((p0).toUInt32 >>> ((1 : Int32) &&& 31).toUInt32).toInt32) % (3 : Int32))), .val (.ref aFFDHE2048), .val (.int (1 : Int32)), .val (.ref a119)] [(.ref a119)]))
      refine own_go (fun _ k => XS.iconst X131.here hx rfl (hb hby at_173) k) ?_
      show OwnGo p e below _ (T131.setTop (mkF m 174 #[.val (.int p0), .val (.int p1), .val (.int p2), .val (.int p3), .val (.int p4), .val (.int p5), .val (.int (1 : Int32)), .val (.ref aCONFIRMATION), .val (.int (2 : Int32)), .val (.int ((((p0).toUInt32 >>> ((1 : Int32) &&& 31).toUInt32).toInt32) % (3 : Int32))), .val (.ref aFFDHE2048), .val (.int (1 : Int32)), .val (.ref a119)] [(.int (4 : Int32)), (.ref a119)]))
      obtain ⟨c137, Ar137, q137, S137, M137, H137, G137⟩ := (id x131_0)
      refine own_go (fun _ k => X131.baloadBytes hx (j := (4 : Int32)) (v := (.int ((p5).toInt8.toInt32))) (by rw [e131]; exact Ar137.1) (State.isArrayOf_alike hZ.alike Ar137.2.1) Ar137.2.2 (inb_of S137 ⟨by decide, by decide⟩) (Has.at H137 (inb_of S137 ⟨by decide, by decide⟩) rfl) (g := (mkF m 174 #[.val (.int p0), .val (.int p1), .val (.int p2), .val (.int p3), .val (.int p4), .val (.int p5), .val (.int (1 : Int32)), .val (.ref aCONFIRMATION), .val (.int (2 : Int32)), .val (.int ((((p0).toUInt32 >>> ((1 : Int32) &&& 31).toUInt32).toInt32) % (3 : Int32))), .val (.ref aFFDHE2048), .val (.int (1 : Int32)), .val (.ref a119)] [(.int (4 : Int32)), (.ref a119)])) rfl rfl (hb hby at_174) _ k) ?_
      show OwnGo p e below _ (T131.setTop (mkF m 175 #[.val (.int p0), .val (.int p1), .val (.int p2), .val (.int p3), .val (.int p4), .val (.int p5), .val (.int (1 : Int32)), .val (.ref aCONFIRMATION), .val (.int (2 : Int32)), .val (.int ((((p0).toUInt32 >>> ((1 : Int32) &&& 31).toUInt32).toInt32) % (3 : Int32))), .val (.ref aFFDHE2048), .val (.int (1 : Int32)), .val (.ref a119)] [(.int ((p5).toInt8.toInt32))]))
      refine own_go (fun _ k => XS.iload X131.here hx rfl (hb hby at_175) rfl k) ?_
      show OwnGo p e below _ (T131.setTop (mkF m 177 #[.val (.int p0), .val (.int p1), .val (.int p2), .val (.int p3), .val (.int p4), .val (.int p5), .val (.int (1 : Int32)), .val (.ref aCONFIRMATION), .val (.int (2 : Int32)), .val (.int ((((p0).toUInt32 >>> ((1 : Int32) &&& 31).toUInt32).toInt32) % (3 : Int32))), .val (.ref aFFDHE2048), .val (.int (1 : Int32)), .val (.ref a119)] [(.int p5), (.int ((p5).toInt8.toInt32))]))
      refine own_go (fun _ k => XS.i2b X131.here hx rfl (hb hby at_177) rfl k) ?_
      show OwnGo p e below _ (T131.setTop (mkF m 178 #[.val (.int p0), .val (.int p1), .val (.int p2), .val (.int p3), .val (.int p4), .val (.int p5), .val (.int (1 : Int32)), .val (.ref aCONFIRMATION), .val (.int (2 : Int32)), .val (.int ((((p0).toUInt32 >>> ((1 : Int32) &&& 31).toUInt32).toInt32) % (3 : Int32))), .val (.ref aFFDHE2048), .val (.int (1 : Int32)), .val (.ref a119)] [(.int ((p5).toInt8.toInt32)), (.int ((p5).toInt8.toInt32))]))
      refine own_go (fun _ k => XS.icmpNo X131.here hx rfl (hb hby at_178) rfl (teq rfl).2 k) ?_
      show OwnGo p e below _ (T131.setTop (mkF m 181 #[.val (.int p0), .val (.int p1), .val (.int p2), .val (.int p3), .val (.int p4), .val (.int p5), .val (.int (1 : Int32)), .val (.ref aCONFIRMATION), .val (.int (2 : Int32)), .val (.int ((((p0).toUInt32 >>> ((1 : Int32) &&& 31).toUInt32).toInt32) % (3 : Int32))), .val (.ref aFFDHE2048), .val (.int (1 : Int32)), .val (.ref a119)] []))
      refine own_go (fun _ k => XS.iconst X131.here hx rfl (hb hby at_181) k) ?_
      show OwnGo p e below _ (T131.setTop (mkF m 182 #[.val (.int p0), .val (.int p1), .val (.int p2), .val (.int p3), .val (.int p4), .val (.int p5), .val (.int (1 : Int32)), .val (.ref aCONFIRMATION), .val (.int (2 : Int32)), .val (.int ((((p0).toUInt32 >>> ((1 : Int32) &&& 31).toUInt32).toInt32) % (3 : Int32))), .val (.ref aFFDHE2048), .val (.int (1 : Int32)), .val (.ref a119)] [(.int (1 : Int32))]))
      refine own_go (fun _ k => XS.goto X131.here hx rfl (pc0 := 182) (pc' := 186) rfl (hb hby at_182) (by decide) (by decide) k) ?_
      show OwnGo p e below _ (T131.setTop (mkF m 186 #[.val (.int p0), .val (.int p1), .val (.int p2), .val (.int p3), .val (.int p4), .val (.int p5), .val (.int (1 : Int32)), .val (.ref aCONFIRMATION), .val (.int (2 : Int32)), .val (.int ((((p0).toUInt32 >>> ((1 : Int32) &&& 31).toUInt32).toInt32) % (3 : Int32))), .val (.ref aFFDHE2048), .val (.int (1 : Int32)), .val (.ref a119)] [(.int (1 : Int32))]))
      obtain ⟨fs, hr, hrun, hended, hW, hsame⟩ := X131.leave (v := some (.int (1 : Int32))) (fun h => by rw [Bd.returns] at h; cases h)
      refine ⟨_, _, retOut X131 hx Bd.returns rfl (Or.inl ⟨rfl, Or.inr (Or.inl rfl), _, rfl⟩) (hb hby at_186) hr, hrun, hended, _, _, rfl, ?_, ⟨_, rfl⟩, hW, hsame.mono (by decide) (by decide)⟩
      show Q_law Z aKEY_SHARE aFFDHE2048 aFFDHE4096 aCONFIRMATION aFFDHE3072 p0 p1 p2 p3 p4 p5 h0 n0 _ T131.heap _
      rw [e131]
      exact ⟨rfl, N131⟩
    · refine own_go (fun _ k => XS.ifYes X116.here hx rfl (pc0 := 50) (pc' := 64) rfl (hb hby at_50) rfl ((if0 _ _).trans (feq hc117).2) (by decide) (by decide) k) ?_
      show OwnGo p e below _ (T116.setTop (mkF m 64 #[.val (.int p0), .val (.int p1), .val (.int p2), .val (.int p3), .val (.int p4), .val (.int p5), .val (.int (1 : Int32)), .val (.ref aCONFIRMATION), .val (.int (2 : Int32)), .val (.int ((((p0).toUInt32 >>> ((1 : Int32) &&& 31).toUInt32).toInt32) % (3 : Int32))), .unset, .unset, .unset] []))
      refine own_go (fun _ k => XS.iload X116.here hx rfl (hb hby at_64) rfl k) ?_
      show OwnGo p e below _ (T116.setTop (mkF m 66 #[.val (.int p0), .val (.int p1), .val (.int p2), .val (.int p3), .val (.int p4), .val (.int p5), .val (.int (1 : Int32)), .val (.ref aCONFIRMATION), .val (.int (2 : Int32)), .val (.int ((((p0).toUInt32 >>> ((1 : Int32) &&& 31).toUInt32).toInt32) % (3 : Int32))), .unset, .unset, .unset] [(.int ((((p0).toUInt32 >>> ((1 : Int32) &&& 31).toUInt32).toInt32) % (3 : Int32)))]))
      refine own_go (fun _ k => XS.iconst X116.here hx rfl (hb hby at_66) k) ?_
      show OwnGo p e below _ (T116.setTop (mkF m 67 #[.val (.int p0), .val (.int p1), .val (.int p2), .val (.int p3), .val (.int p4), .val (.int p5), .val (.int (1 : Int32)), .val (.ref aCONFIRMATION), .val (.int (2 : Int32)), .val (.int ((((p0).toUInt32 >>> ((1 : Int32) &&& 31).toUInt32).toInt32) % (3 : Int32))), .unset, .unset, .unset] [(.int (1 : Int32)), (.int ((((p0).toUInt32 >>> ((1 : Int32) &&& 31).toUInt32).toInt32) % (3 : Int32)))]))
      by_cases hc138 : ((((p0).toUInt32 >>> ((1 : Int32) &&& 31).toUInt32).toInt32) % (3 : Int32)) = (1 : Int32)
      · refine own_go (fun _ k => XS.icmpNo X116.here hx rfl (hb hby at_67) rfl (teq hc138).2 k) ?_
        show OwnGo p e below _ (T116.setTop (mkF m 70 #[.val (.int p0), .val (.int p1), .val (.int p2), .val (.int p3), .val (.int p4), .val (.int p5), .val (.int (1 : Int32)), .val (.ref aCONFIRMATION), .val (.int (2 : Int32)), .val (.int ((((p0).toUInt32 >>> ((1 : Int32) &&& 31).toUInt32).toInt32) % (3 : Int32))), .unset, .unset, .unset] []))
        obtain ⟨T139, X139, e139, st139⟩ := getS X116 hx hZ hown (host := "") (hw _ (List.mem_of_getElem? (i := 25) rfl)) Via.refl e116 (F0.2.2.2.2.2.2.2.2.2.2.2.1.ext O0.2) (g := (mkF m 70 #[.val (.int p0), .val (.int p1), .val (.int p2), .val (.int p3), .val (.int p4), .val (.int p5), .val (.int (1 : Int32)), .val (.ref aCONFIRMATION), .val (.int (2 : Int32)), .val (.int ((((p0).toUInt32 >>> ((1 : Int32) &&& 31).toUInt32).toInt32) % (3 : Int32))), .unset, .unset, .unset] [])) rfl (hb hby at_70)
        refine own_go st139 ?_
        show OwnGo p e below _ (T139.setTop (mkF m 73 #[.val (.int p0), .val (.int p1), .val (.int p2), .val (.int p3), .val (.int p4), .val (.int p5), .val (.int (1 : Int32)), .val (.ref aCONFIRMATION), .val (.int (2 : Int32)), .val (.int ((((p0).toUInt32 >>> ((1 : Int32) &&& 31).toUInt32).toInt32) % (3 : Int32))), .unset, .unset, .unset] [(.ref aFFDHE3072)]))
        refine own_go (fun _ k => XS.astore X139.here hx rfl (hb hby at_73) rfl rfl (l' := #[.val (.int p0), .val (.int p1), .val (.int p2), .val (.int p3), .val (.int p4), .val (.int p5), .val (.int (1 : Int32)), .val (.ref aCONFIRMATION), .val (.int (2 : Int32)), .val (.int ((((p0).toUInt32 >>> ((1 : Int32) &&& 31).toUInt32).toInt32) % (3 : Int32))), .val (.ref aFFDHE3072), .unset, .unset]) rfl k) ?_
        show OwnGo p e below _ (T139.setTop (mkF m 75 #[.val (.int p0), .val (.int p1), .val (.int p2), .val (.int p3), .val (.int p4), .val (.int p5), .val (.int (1 : Int32)), .val (.ref aCONFIRMATION), .val (.int (2 : Int32)), .val (.int ((((p0).toUInt32 >>> ((1 : Int32) &&& 31).toUInt32).toInt32) % (3 : Int32))), .val (.ref aFFDHE3072), .unset, .unset] []))
        refine own_go (fun _ k => XS.iconst X139.here hx rfl (hb hby at_75) k) ?_
        show OwnGo p e below _ (T139.setTop (mkF m 76 #[.val (.int p0), .val (.int p1), .val (.int p2), .val (.int p3), .val (.int p4), .val (.int p5), .val (.int (1 : Int32)), .val (.ref aCONFIRMATION), .val (.int (2 : Int32)), .val (.int ((((p0).toUInt32 >>> ((1 : Int32) &&& 31).toUInt32).toInt32) % (3 : Int32))), .val (.ref aFFDHE3072), .unset, .unset] [(.int (2 : Int32))]))
        refine own_go (fun _ k => XS.istore X139.here hx rfl (hb hby at_76) rfl (l' := #[.val (.int p0), .val (.int p1), .val (.int p2), .val (.int p3), .val (.int p4), .val (.int p5), .val (.int (1 : Int32)), .val (.ref aCONFIRMATION), .val (.int (2 : Int32)), .val (.int ((((p0).toUInt32 >>> ((1 : Int32) &&& 31).toUInt32).toInt32) % (3 : Int32))), .val (.ref aFFDHE3072), .val (.int (2 : Int32)), .unset]) rfl k) ?_
        show OwnGo p e below _ (T139.setTop (mkF m 78 #[.val (.int p0), .val (.int p1), .val (.int p2), .val (.int p3), .val (.int p4), .val (.int p5), .val (.int (1 : Int32)), .val (.ref aCONFIRMATION), .val (.int (2 : Int32)), .val (.int ((((p0).toUInt32 >>> ((1 : Int32) &&& 31).toUInt32).toInt32) % (3 : Int32))), .val (.ref aFFDHE3072), .val (.int (2 : Int32)), .unset] []))
        refine own_go (fun _ k => XS.goto X139.here hx rfl (pc0 := 78) (pc' := 89) rfl (hb hby at_78) (by decide) (by decide) k) ?_
        show OwnGo p e below _ (T139.setTop (mkF m 89 #[.val (.int p0), .val (.int p1), .val (.int p2), .val (.int p3), .val (.int p4), .val (.int p5), .val (.int (1 : Int32)), .val (.ref aCONFIRMATION), .val (.int (2 : Int32)), .val (.int ((((p0).toUInt32 >>> ((1 : Int32) &&& 31).toUInt32).toInt32) % (3 : Int32))), .val (.ref aFFDHE3072), .val (.int (2 : Int32)), .unset] []))
        refine own_go (fun _ k => XS.iconst X139.here hx rfl (hb hby at_89) k) ?_
        show OwnGo p e below _ (T139.setTop (mkF m 90 #[.val (.int p0), .val (.int p1), .val (.int p2), .val (.int p3), .val (.int p4), .val (.int p5), .val (.int (1 : Int32)), .val (.ref aCONFIRMATION), .val (.int (2 : Int32)), .val (.int ((((p0).toUInt32 >>> ((1 : Int32) &&& 31).toUInt32).toInt32) % (3 : Int32))), .val (.ref aFFDHE3072), .val (.int (2 : Int32)), .unset] [(.int (5 : Int32))]))
        obtain ⟨T140, h140, k140, X140, e140, E140, A140, st140⟩ := newP X139 hx hZ (hw _ (List.mem_of_getElem? (i := 6) rfl)) e139 (g := (mkF m 90 #[.val (.int p0), .val (.int p1), .val (.int p2), .val (.int p3), .val (.int p4), .val (.int p5), .val (.int (1 : Int32)), .val (.ref aCONFIRMATION), .val (.int (2 : Int32)), .val (.int ((((p0).toUInt32 >>> ((1 : Int32) &&& 31).toUInt32).toInt32) % (3 : Int32))), .val (.ref aFFDHE3072), .val (.int (2 : Int32)), .unset] [(.int (5 : Int32))])) rfl (hb hby at_90) rfl (by decide) (cap := 5) (by decide) (by decide) (by decide) (by decide)
        obtain ⟨a140, g140⟩ : ∃ z, z = h0.size := ⟨_, rfl⟩
        rw [← g140] at A140 st140
        have ge140 : n0 ≤ a140 := Nat.le_trans (own_sz O0) (Nat.le_of_eq g140.symm)
        have gh140 : h0.size ≤ a140 := Nat.le_trans (Nat.le_refl _) (Nat.le_of_eq g140.symm)
        have O140 := O0.ext E140
        have z141 : h0.size ≤ h140.size := Nat.le_trans (Nat.le_refl _) E140.1
        have V140 : Arv Z h140 a140 k140 .byte (5 : Int32) [(.int (0 : Int32)), (.int (0 : Int32)), (.int (0 : Int32)), (.int (0 : Int32)), (.int (0 : Int32))] (.int (0 : Int32)) := (Arv.new A140 (by decide)).pad (pad_rep [] _ 5)
        refine own_go st140 ?_
        show OwnGo p e below _ (T140.setTop (mkF m 92 #[.val (.int p0), .val (.int p1), .val (.int p2), .val (.int p3), .val (.int p4), .val (.int p5), .val (.int (1 : Int32)), .val (.ref aCONFIRMATION), .val (.int (2 : Int32)), .val (.int ((((p0).toUInt32 >>> ((1 : Int32) &&& 31).toUInt32).toInt32) % (3 : Int32))), .val (.ref aFFDHE3072), .val (.int (2 : Int32)), .unset] [(.ref a140)]))
        refine own_go (fun _ k => XS.astore X140.here hx rfl (hb hby at_92) rfl rfl (l' := #[.val (.int p0), .val (.int p1), .val (.int p2), .val (.int p3), .val (.int p4), .val (.int p5), .val (.int (1 : Int32)), .val (.ref aCONFIRMATION), .val (.int (2 : Int32)), .val (.int ((((p0).toUInt32 >>> ((1 : Int32) &&& 31).toUInt32).toInt32) % (3 : Int32))), .val (.ref aFFDHE3072), .val (.int (2 : Int32)), .val (.ref a140)]) rfl k) ?_
        show OwnGo p e below _ (T140.setTop (mkF m 94 #[.val (.int p0), .val (.int p1), .val (.int p2), .val (.int p3), .val (.int p4), .val (.int p5), .val (.int (1 : Int32)), .val (.ref aCONFIRMATION), .val (.int (2 : Int32)), .val (.int ((((p0).toUInt32 >>> ((1 : Int32) &&& 31).toUInt32).toInt32) % (3 : Int32))), .val (.ref aFFDHE3072), .val (.int (2 : Int32)), .val (.ref a140)] []))
        refine own_go (fun _ k => XS.aload X140.here hx rfl (hb hby at_94) rfl rfl k) ?_
        show OwnGo p e below _ (T140.setTop (mkF m 96 #[.val (.int p0), .val (.int p1), .val (.int p2), .val (.int p3), .val (.int p4), .val (.int p5), .val (.int (1 : Int32)), .val (.ref aCONFIRMATION), .val (.int (2 : Int32)), .val (.int ((((p0).toUInt32 >>> ((1 : Int32) &&& 31).toUInt32).toInt32) % (3 : Int32))), .val (.ref aFFDHE3072), .val (.int (2 : Int32)), .val (.ref a140)] [(.ref a140)]))
        refine own_go (fun _ k => XS.iconst X140.here hx rfl (hb hby at_96) k) ?_
        show OwnGo p e below _ (T140.setTop (mkF m 97 #[.val (.int p0), .val (.int p1), .val (.int p2), .val (.int p3), .val (.int p4), .val (.int p5), .val (.int (1 : Int32)), .val (.ref aCONFIRMATION), .val (.int (2 : Int32)), .val (.int ((((p0).toUInt32 >>> ((1 : Int32) &&& 31).toUInt32).toInt32) % (3 : Int32))), .val (.ref aFFDHE3072), .val (.int (2 : Int32)), .val (.ref a140)] [(.int (0 : Int32)), (.ref a140)]))
        refine own_go (fun _ k => XS.iloadN X140.here hx rfl (hb hby at_97) rfl k) ?_
        show OwnGo p e below _ (T140.setTop (mkF m 98 #[.val (.int p0), .val (.int p1), .val (.int p2), .val (.int p3), .val (.int p4), .val (.int p5), .val (.int (1 : Int32)), .val (.ref aCONFIRMATION), .val (.int (2 : Int32)), .val (.int ((((p0).toUInt32 >>> ((1 : Int32) &&& 31).toUInt32).toInt32) % (3 : Int32))), .val (.ref aFFDHE3072), .val (.int (2 : Int32)), .val (.ref a140)] [(.int p1), (.int (0 : Int32)), (.ref a140)]))
        refine own_go (fun _ k => XS.i2b X140.here hx rfl (hb hby at_98) rfl k) ?_
        show OwnGo p e below _ (T140.setTop (mkF m 99 #[.val (.int p0), .val (.int p1), .val (.int p2), .val (.int p3), .val (.int p4), .val (.int p5), .val (.int (1 : Int32)), .val (.ref aCONFIRMATION), .val (.int (2 : Int32)), .val (.int ((((p0).toUInt32 >>> ((1 : Int32) &&& 31).toUInt32).toInt32) % (3 : Int32))), .val (.ref aFFDHE3072), .val (.int (2 : Int32)), .val (.ref a140)] [(.int ((p1).toInt8.toInt32)), (.int (0 : Int32)), (.ref a140)]))
        obtain ⟨c142, Ar142, q142, S142, M142, H142, G142⟩ := (id V140)
        obtain ⟨T142, h142, X142, e142, W142, st142⟩ := stB X140 hx hZ e140 Ar142 (j := (0 : Int32)) (inb_of S142 ⟨by decide, by decide⟩) (g := (mkF m 99 #[.val (.int p0), .val (.int p1), .val (.int p2), .val (.int p3), .val (.int p4), .val (.int p5), .val (.int (1 : Int32)), .val (.ref aCONFIRMATION), .val (.int (2 : Int32)), .val (.int ((((p0).toUInt32 >>> ((1 : Int32) &&& 31).toUInt32).toInt32) % (3 : Int32))), .val (.ref aFFDHE3072), .val (.int (2 : Int32)), .val (.ref a140)] [(.int ((p1).toInt8.toInt32)), (.int (0 : Int32)), (.ref a140)])) rfl rfl (hb hby at_99)
        rw [own_narb] at W142
        have N142 := Fr.snoc X142 N0 ge140
        have O142 := O140.wr W142 ge140
        have z143 : h0.size ≤ h142.size := Nat.le_trans z141 (Nat.le_of_eq W142.size.symm)
        have V142 : Arv Z h142 a140 k140 .byte (5 : Int32) [(.int ((p1).toInt8.toInt32)), (.int (0 : Int32)), (.int (0 : Int32)), (.int (0 : Int32)), (.int (0 : Int32))] (.int (0 : Int32)) := Arv.set Ar142 q142 S142 M142 H142 G142 (fits_nar_byte _) W142 0 (by decide) (Nat.le_of_ble_eq_true rfl)
        refine own_go st142 ?_
        show OwnGo p e below _ (T142.setTop (mkF m 100 #[.val (.int p0), .val (.int p1), .val (.int p2), .val (.int p3), .val (.int p4), .val (.int p5), .val (.int (1 : Int32)), .val (.ref aCONFIRMATION), .val (.int (2 : Int32)), .val (.int ((((p0).toUInt32 >>> ((1 : Int32) &&& 31).toUInt32).toInt32) % (3 : Int32))), .val (.ref aFFDHE3072), .val (.int (2 : Int32)), .val (.ref a140)] []))
        refine own_go (fun _ k => XS.aload X142.here hx rfl (hb hby at_100) rfl rfl k) ?_
        show OwnGo p e below _ (T142.setTop (mkF m 102 #[.val (.int p0), .val (.int p1), .val (.int p2), .val (.int p3), .val (.int p4), .val (.int p5), .val (.int (1 : Int32)), .val (.ref aCONFIRMATION), .val (.int (2 : Int32)), .val (.int ((((p0).toUInt32 >>> ((1 : Int32) &&& 31).toUInt32).toInt32) % (3 : Int32))), .val (.ref aFFDHE3072), .val (.int (2 : Int32)), .val (.ref a140)] [(.ref a140)]))
        refine own_go (fun _ k => XS.iconst X142.here hx rfl (hb hby at_102) k) ?_
        show OwnGo p e below _ (T142.setTop (mkF m 103 #[.val (.int p0), .val (.int p1), .val (.int p2), .val (.int p3), .val (.int p4), .val (.int p5), .val (.int (1 : Int32)), .val (.ref aCONFIRMATION), .val (.int (2 : Int32)), .val (.int ((((p0).toUInt32 >>> ((1 : Int32) &&& 31).toUInt32).toInt32) % (3 : Int32))), .val (.ref aFFDHE3072), .val (.int (2 : Int32)), .val (.ref a140)] [(.int (1 : Int32)), (.ref a140)]))
        refine own_go (fun _ k => XS.iloadN X142.here hx rfl (hb hby at_103) rfl k) ?_
        show OwnGo p e below _ (T142.setTop (mkF m 104 #[.val (.int p0), .val (.int p1), .val (.int p2), .val (.int p3), .val (.int p4), .val (.int p5), .val (.int (1 : Int32)), .val (.ref aCONFIRMATION), .val (.int (2 : Int32)), .val (.int ((((p0).toUInt32 >>> ((1 : Int32) &&& 31).toUInt32).toInt32) % (3 : Int32))), .val (.ref aFFDHE3072), .val (.int (2 : Int32)), .val (.ref a140)] [(.int p2), (.int (1 : Int32)), (.ref a140)]))
        refine own_go (fun _ k => XS.i2b X142.here hx rfl (hb hby at_104) rfl k) ?_
        show OwnGo p e below _ (T142.setTop (mkF m 105 #[.val (.int p0), .val (.int p1), .val (.int p2), .val (.int p3), .val (.int p4), .val (.int p5), .val (.int (1 : Int32)), .val (.ref aCONFIRMATION), .val (.int (2 : Int32)), .val (.int ((((p0).toUInt32 >>> ((1 : Int32) &&& 31).toUInt32).toInt32) % (3 : Int32))), .val (.ref aFFDHE3072), .val (.int (2 : Int32)), .val (.ref a140)] [(.int ((p2).toInt8.toInt32)), (.int (1 : Int32)), (.ref a140)]))
        obtain ⟨c144, Ar144, q144, S144, M144, H144, G144⟩ := (id V142)
        obtain ⟨T144, h144, X144, e144, W144, st144⟩ := stB X142 hx hZ e142 Ar144 (j := (1 : Int32)) (inb_of S144 ⟨by decide, by decide⟩) (g := (mkF m 105 #[.val (.int p0), .val (.int p1), .val (.int p2), .val (.int p3), .val (.int p4), .val (.int p5), .val (.int (1 : Int32)), .val (.ref aCONFIRMATION), .val (.int (2 : Int32)), .val (.int ((((p0).toUInt32 >>> ((1 : Int32) &&& 31).toUInt32).toInt32) % (3 : Int32))), .val (.ref aFFDHE3072), .val (.int (2 : Int32)), .val (.ref a140)] [(.int ((p2).toInt8.toInt32)), (.int (1 : Int32)), (.ref a140)])) rfl rfl (hb hby at_105)
        rw [own_narb] at W144
        have N144 := Fr.snoc X144 N142 ge140
        have O144 := O142.wr W144 ge140
        have z145 : h0.size ≤ h144.size := Nat.le_trans z143 (Nat.le_of_eq W144.size.symm)
        have V144 : Arv Z h144 a140 k140 .byte (5 : Int32) [(.int ((p1).toInt8.toInt32)), (.int ((p2).toInt8.toInt32)), (.int (0 : Int32)), (.int (0 : Int32)), (.int (0 : Int32))] (.int (0 : Int32)) := Arv.set Ar144 q144 S144 M144 H144 G144 (fits_nar_byte _) W144 1 (by decide) (Nat.le_of_ble_eq_true rfl)
        refine own_go st144 ?_
        show OwnGo p e below _ (T144.setTop (mkF m 106 #[.val (.int p0), .val (.int p1), .val (.int p2), .val (.int p3), .val (.int p4), .val (.int p5), .val (.int (1 : Int32)), .val (.ref aCONFIRMATION), .val (.int (2 : Int32)), .val (.int ((((p0).toUInt32 >>> ((1 : Int32) &&& 31).toUInt32).toInt32) % (3 : Int32))), .val (.ref aFFDHE3072), .val (.int (2 : Int32)), .val (.ref a140)] []))
        refine own_go (fun _ k => XS.aload X144.here hx rfl (hb hby at_106) rfl rfl k) ?_
        show OwnGo p e below _ (T144.setTop (mkF m 108 #[.val (.int p0), .val (.int p1), .val (.int p2), .val (.int p3), .val (.int p4), .val (.int p5), .val (.int (1 : Int32)), .val (.ref aCONFIRMATION), .val (.int (2 : Int32)), .val (.int ((((p0).toUInt32 >>> ((1 : Int32) &&& 31).toUInt32).toInt32) % (3 : Int32))), .val (.ref aFFDHE3072), .val (.int (2 : Int32)), .val (.ref a140)] [(.ref a140)]))
        refine own_go (fun _ k => XS.iconst X144.here hx rfl (hb hby at_108) k) ?_
        show OwnGo p e below _ (T144.setTop (mkF m 109 #[.val (.int p0), .val (.int p1), .val (.int p2), .val (.int p3), .val (.int p4), .val (.int p5), .val (.int (1 : Int32)), .val (.ref aCONFIRMATION), .val (.int (2 : Int32)), .val (.int ((((p0).toUInt32 >>> ((1 : Int32) &&& 31).toUInt32).toInt32) % (3 : Int32))), .val (.ref aFFDHE3072), .val (.int (2 : Int32)), .val (.ref a140)] [(.int (2 : Int32)), (.ref a140)]))
        refine own_go (fun _ k => XS.iloadN X144.here hx rfl (hb hby at_109) rfl k) ?_
        show OwnGo p e below _ (T144.setTop (mkF m 110 #[.val (.int p0), .val (.int p1), .val (.int p2), .val (.int p3), .val (.int p4), .val (.int p5), .val (.int (1 : Int32)), .val (.ref aCONFIRMATION), .val (.int (2 : Int32)), .val (.int ((((p0).toUInt32 >>> ((1 : Int32) &&& 31).toUInt32).toInt32) % (3 : Int32))), .val (.ref aFFDHE3072), .val (.int (2 : Int32)), .val (.ref a140)] [(.int p3), (.int (2 : Int32)), (.ref a140)]))
        refine own_go (fun _ k => XS.i2b X144.here hx rfl (hb hby at_110) rfl k) ?_
        show OwnGo p e below _ (T144.setTop (mkF m 111 #[.val (.int p0), .val (.int p1), .val (.int p2), .val (.int p3), .val (.int p4), .val (.int p5), .val (.int (1 : Int32)), .val (.ref aCONFIRMATION), .val (.int (2 : Int32)), .val (.int ((((p0).toUInt32 >>> ((1 : Int32) &&& 31).toUInt32).toInt32) % (3 : Int32))), .val (.ref aFFDHE3072), .val (.int (2 : Int32)), .val (.ref a140)] [(.int ((p3).toInt8.toInt32)), (.int (2 : Int32)), (.ref a140)]))
        obtain ⟨c146, Ar146, q146, S146, M146, H146, G146⟩ := (id V144)
        obtain ⟨T146, h146, X146, e146, W146, st146⟩ := stB X144 hx hZ e144 Ar146 (j := (2 : Int32)) (inb_of S146 ⟨by decide, by decide⟩) (g := (mkF m 111 #[.val (.int p0), .val (.int p1), .val (.int p2), .val (.int p3), .val (.int p4), .val (.int p5), .val (.int (1 : Int32)), .val (.ref aCONFIRMATION), .val (.int (2 : Int32)), .val (.int ((((p0).toUInt32 >>> ((1 : Int32) &&& 31).toUInt32).toInt32) % (3 : Int32))), .val (.ref aFFDHE3072), .val (.int (2 : Int32)), .val (.ref a140)] [(.int ((p3).toInt8.toInt32)), (.int (2 : Int32)), (.ref a140)])) rfl rfl (hb hby at_111)
        rw [own_narb] at W146
        have N146 := Fr.snoc X146 N144 ge140
        have O146 := O144.wr W146 ge140
        have z147 : h0.size ≤ h146.size := Nat.le_trans z145 (Nat.le_of_eq W146.size.symm)
        have V146 : Arv Z h146 a140 k140 .byte (5 : Int32) [(.int ((p1).toInt8.toInt32)), (.int ((p2).toInt8.toInt32)), (.int ((p3).toInt8.toInt32)), (.int (0 : Int32)), (.int (0 : Int32))] (.int (0 : Int32)) := Arv.set Ar146 q146 S146 M146 H146 G146 (fits_nar_byte _) W146 2 (by decide) (Nat.le_of_ble_eq_true rfl)
        refine own_go st146 ?_
        show OwnGo p e below _ (T146.setTop (mkF m 112 #[.val (.int p0), .val (.int p1), .val (.int p2), .val (.int p3), .val (.int p4), .val (.int p5), .val (.int (1 : Int32)), .val (.ref aCONFIRMATION), .val (.int (2 : Int32)), .val (.int ((((p0).toUInt32 >>> ((1 : Int32) &&& 31).toUInt32).toInt32) % (3 : Int32))), .val (.ref aFFDHE3072), .val (.int (2 : Int32)), .val (.ref a140)] []))
        refine own_go (fun _ k => XS.aload X146.here hx rfl (hb hby at_112) rfl rfl k) ?_
        show OwnGo p e below _ (T146.setTop (mkF m 114 #[.val (.int p0), .val (.int p1), .val (.int p2), .val (.int p3), .val (.int p4), .val (.int p5), .val (.int (1 : Int32)), .val (.ref aCONFIRMATION), .val (.int (2 : Int32)), .val (.int ((((p0).toUInt32 >>> ((1 : Int32) &&& 31).toUInt32).toInt32) % (3 : Int32))), .val (.ref aFFDHE3072), .val (.int (2 : Int32)), .val (.ref a140)] [(.ref a140)]))
        refine own_go (fun _ k => XS.iconst X146.here hx rfl (hb hby at_114) k) ?_
        show OwnGo p e below _ (T146.setTop (mkF m 115 #[.val (.int p0), .val (.int p1), .val (.int p2), .val (.int p3), .val (.int p4), .val (.int p5), .val (.int (1 : Int32)), .val (.ref aCONFIRMATION), .val (.int (2 : Int32)), .val (.int ((((p0).toUInt32 >>> ((1 : Int32) &&& 31).toUInt32).toInt32) % (3 : Int32))), .val (.ref aFFDHE3072), .val (.int (2 : Int32)), .val (.ref a140)] [(.int (3 : Int32)), (.ref a140)]))
        refine own_go (fun _ k => XS.iload X146.here hx rfl (hb hby at_115) rfl k) ?_
        show OwnGo p e below _ (T146.setTop (mkF m 117 #[.val (.int p0), .val (.int p1), .val (.int p2), .val (.int p3), .val (.int p4), .val (.int p5), .val (.int (1 : Int32)), .val (.ref aCONFIRMATION), .val (.int (2 : Int32)), .val (.int ((((p0).toUInt32 >>> ((1 : Int32) &&& 31).toUInt32).toInt32) % (3 : Int32))), .val (.ref aFFDHE3072), .val (.int (2 : Int32)), .val (.ref a140)] [(.int p4), (.int (3 : Int32)), (.ref a140)]))
        refine own_go (fun _ k => XS.i2b X146.here hx rfl (hb hby at_117) rfl k) ?_
        show OwnGo p e below _ (T146.setTop (mkF m 118 #[.val (.int p0), .val (.int p1), .val (.int p2), .val (.int p3), .val (.int p4), .val (.int p5), .val (.int (1 : Int32)), .val (.ref aCONFIRMATION), .val (.int (2 : Int32)), .val (.int ((((p0).toUInt32 >>> ((1 : Int32) &&& 31).toUInt32).toInt32) % (3 : Int32))), .val (.ref aFFDHE3072), .val (.int (2 : Int32)), .val (.ref a140)] [(.int ((p4).toInt8.toInt32)), (.int (3 : Int32)), (.ref a140)]))
        obtain ⟨c148, Ar148, q148, S148, M148, H148, G148⟩ := (id V146)
        obtain ⟨T148, h148, X148, e148, W148, st148⟩ := stB X146 hx hZ e146 Ar148 (j := (3 : Int32)) (inb_of S148 ⟨by decide, by decide⟩) (g := (mkF m 118 #[.val (.int p0), .val (.int p1), .val (.int p2), .val (.int p3), .val (.int p4), .val (.int p5), .val (.int (1 : Int32)), .val (.ref aCONFIRMATION), .val (.int (2 : Int32)), .val (.int ((((p0).toUInt32 >>> ((1 : Int32) &&& 31).toUInt32).toInt32) % (3 : Int32))), .val (.ref aFFDHE3072), .val (.int (2 : Int32)), .val (.ref a140)] [(.int ((p4).toInt8.toInt32)), (.int (3 : Int32)), (.ref a140)])) rfl rfl (hb hby at_118)
        rw [own_narb] at W148
        have N148 := Fr.snoc X148 N146 ge140
        have O148 := O146.wr W148 ge140
        have z149 : h0.size ≤ h148.size := Nat.le_trans z147 (Nat.le_of_eq W148.size.symm)
        have V148 : Arv Z h148 a140 k140 .byte (5 : Int32) [(.int ((p1).toInt8.toInt32)), (.int ((p2).toInt8.toInt32)), (.int ((p3).toInt8.toInt32)), (.int ((p4).toInt8.toInt32)), (.int (0 : Int32))] (.int (0 : Int32)) := Arv.set Ar148 q148 S148 M148 H148 G148 (fits_nar_byte _) W148 3 (by decide) (Nat.le_of_ble_eq_true rfl)
        refine own_go st148 ?_
        show OwnGo p e below _ (T148.setTop (mkF m 119 #[.val (.int p0), .val (.int p1), .val (.int p2), .val (.int p3), .val (.int p4), .val (.int p5), .val (.int (1 : Int32)), .val (.ref aCONFIRMATION), .val (.int (2 : Int32)), .val (.int ((((p0).toUInt32 >>> ((1 : Int32) &&& 31).toUInt32).toInt32) % (3 : Int32))), .val (.ref aFFDHE3072), .val (.int (2 : Int32)), .val (.ref a140)] []))
        refine own_go (fun _ k => XS.aload X148.here hx rfl (hb hby at_119) rfl rfl k) ?_
        show OwnGo p e below _ (T148.setTop (mkF m 121 #[.val (.int p0), .val (.int p1), .val (.int p2), .val (.int p3), .val (.int p4), .val (.int p5), .val (.int (1 : Int32)), .val (.ref aCONFIRMATION), .val (.int (2 : Int32)), .val (.int ((((p0).toUInt32 >>> ((1 : Int32) &&& 31).toUInt32).toInt32) % (3 : Int32))), .val (.ref aFFDHE3072), .val (.int (2 : Int32)), .val (.ref a140)] [(.ref a140)]))
        refine own_go (fun _ k => XS.iconst X148.here hx rfl (hb hby at_121) k) ?_
        show OwnGo p e below _ (T148.setTop (mkF m 122 #[.val (.int p0), .val (.int p1), .val (.int p2), .val (.int p3), .val (.int p4), .val (.int p5), .val (.int (1 : Int32)), .val (.ref aCONFIRMATION), .val (.int (2 : Int32)), .val (.int ((((p0).toUInt32 >>> ((1 : Int32) &&& 31).toUInt32).toInt32) % (3 : Int32))), .val (.ref aFFDHE3072), .val (.int (2 : Int32)), .val (.ref a140)] [(.int (4 : Int32)), (.ref a140)]))
        refine own_go (fun _ k => XS.iload X148.here hx rfl (hb hby at_122) rfl k) ?_
        show OwnGo p e below _ (T148.setTop (mkF m 124 #[.val (.int p0), .val (.int p1), .val (.int p2), .val (.int p3), .val (.int p4), .val (.int p5), .val (.int (1 : Int32)), .val (.ref aCONFIRMATION), .val (.int (2 : Int32)), .val (.int ((((p0).toUInt32 >>> ((1 : Int32) &&& 31).toUInt32).toInt32) % (3 : Int32))), .val (.ref aFFDHE3072), .val (.int (2 : Int32)), .val (.ref a140)] [(.int p5), (.int (4 : Int32)), (.ref a140)]))
        refine own_go (fun _ k => XS.i2b X148.here hx rfl (hb hby at_124) rfl k) ?_
        show OwnGo p e below _ (T148.setTop (mkF m 125 #[.val (.int p0), .val (.int p1), .val (.int p2), .val (.int p3), .val (.int p4), .val (.int p5), .val (.int (1 : Int32)), .val (.ref aCONFIRMATION), .val (.int (2 : Int32)), .val (.int ((((p0).toUInt32 >>> ((1 : Int32) &&& 31).toUInt32).toInt32) % (3 : Int32))), .val (.ref aFFDHE3072), .val (.int (2 : Int32)), .val (.ref a140)] [(.int ((p5).toInt8.toInt32)), (.int (4 : Int32)), (.ref a140)]))
        obtain ⟨c150, Ar150, q150, S150, M150, H150, G150⟩ := (id V148)
        obtain ⟨T150, h150, X150, e150, W150, st150⟩ := stB X148 hx hZ e148 Ar150 (j := (4 : Int32)) (inb_of S150 ⟨by decide, by decide⟩) (g := (mkF m 125 #[.val (.int p0), .val (.int p1), .val (.int p2), .val (.int p3), .val (.int p4), .val (.int p5), .val (.int (1 : Int32)), .val (.ref aCONFIRMATION), .val (.int (2 : Int32)), .val (.int ((((p0).toUInt32 >>> ((1 : Int32) &&& 31).toUInt32).toInt32) % (3 : Int32))), .val (.ref aFFDHE3072), .val (.int (2 : Int32)), .val (.ref a140)] [(.int ((p5).toInt8.toInt32)), (.int (4 : Int32)), (.ref a140)])) rfl rfl (hb hby at_125)
        rw [own_narb] at W150
        have N150 := Fr.snoc X150 N148 ge140
        have O150 := O148.wr W150 ge140
        have z151 : h0.size ≤ h150.size := Nat.le_trans z149 (Nat.le_of_eq W150.size.symm)
        have V150 : Arv Z h150 a140 k140 .byte (5 : Int32) [(.int ((p1).toInt8.toInt32)), (.int ((p2).toInt8.toInt32)), (.int ((p3).toInt8.toInt32)), (.int ((p4).toInt8.toInt32)), (.int ((p5).toInt8.toInt32))] (.int (0 : Int32)) := Arv.set Ar150 q150 S150 M150 H150 G150 (fits_nar_byte _) W150 4 (by decide) (Nat.le_of_ble_eq_true rfl)
        refine own_go st150 ?_
        show OwnGo p e below _ (T150.setTop (mkF m 126 #[.val (.int p0), .val (.int p1), .val (.int p2), .val (.int p3), .val (.int p4), .val (.int p5), .val (.int (1 : Int32)), .val (.ref aCONFIRMATION), .val (.int (2 : Int32)), .val (.int ((((p0).toUInt32 >>> ((1 : Int32) &&& 31).toUInt32).toInt32) % (3 : Int32))), .val (.ref aFFDHE3072), .val (.int (2 : Int32)), .val (.ref a140)] []))
        refine own_go (fun _ k => XS.aload X150.here hx rfl (hb hby at_126) rfl rfl k) ?_
        show OwnGo p e below _ (T150.setTop (mkF m 128 #[.val (.int p0), .val (.int p1), .val (.int p2), .val (.int p3), .val (.int p4), .val (.int p5), .val (.int (1 : Int32)), .val (.ref aCONFIRMATION), .val (.int (2 : Int32)), .val (.int ((((p0).toUInt32 >>> ((1 : Int32) &&& 31).toUInt32).toInt32) % (3 : Int32))), .val (.ref aFFDHE3072), .val (.int (2 : Int32)), .val (.ref a140)] [(.ref aCONFIRMATION)]))
        refine own_go (fun _ k => XS.aload X150.here hx rfl (hb hby at_128) rfl rfl k) ?_
        show OwnGo p e below _ (T150.setTop (mkF m 130 #[.val (.int p0), .val (.int p1), .val (.int p2), .val (.int p3), .val (.int p4), .val (.int p5), .val (.int (1 : Int32)), .val (.ref aCONFIRMATION), .val (.int (2 : Int32)), .val (.int ((((p0).toUInt32 >>> ((1 : Int32) &&& 31).toUInt32).toInt32) % (3 : Int32))), .val (.ref aFFDHE3072), .val (.int (2 : Int32)), .val (.ref a140)] [(.ref a140), (.ref aCONFIRMATION)]))
        refine own_go (fun _ k => XS.aload X150.here hx rfl (hb hby at_130) rfl rfl k) ?_
        show OwnGo p e below _ (T150.setTop (mkF m 132 #[.val (.int p0), .val (.int p1), .val (.int p2), .val (.int p3), .val (.int p4), .val (.int p5), .val (.int (1 : Int32)), .val (.ref aCONFIRMATION), .val (.int (2 : Int32)), .val (.int ((((p0).toUInt32 >>> ((1 : Int32) &&& 31).toUInt32).toInt32) % (3 : Int32))), .val (.ref aFFDHE3072), .val (.int (2 : Int32)), .val (.ref a140)] [(.ref aFFDHE3072), (.ref a140), (.ref aCONFIRMATION)]))
        obtain ⟨cq152, kq152, qa152, qb152, qc152⟩ := isOf hZ e150 (F0.2.2.2.2.2.2.2.2.2.2.1.ext O150.2)
        obtain ⟨_, _, ⟨T152, L152, k152, n152⟩, -, X152, ⟨Lc152, hQ152, l152, y152, z152⟩, st152⟩ := X150.virtualBack hx (y := (⟨"com/example/portcullis/portcullis/MessageType", "writeHeader", "([BLcom/example/portcullis/portcullis/Group;)V"⟩ : MethodName)) (z := (⟨"com/example/portcullis/portcullis/MessageType", "writeHeader", "([BLcom/example/portcullis/portcullis/Group;)V"⟩ : MethodName)) hown (mvT hZ (hw _ (List.mem_of_getElem? (i := 7) rfl))) (mvT hZ (hw _ (List.mem_of_getElem? (i := 8) rfl))) (notFace_of_selects (args := #[]) (mvT hZ (hw _ (List.mem_of_getElem? (i := 10) rfl)))) (mvT hZ (hw _ (List.mem_of_getElem? (i := 10) rfl))) (mvT hZ (hw _ (List.mem_of_getElem? (i := 9) rfl))) (by decide) (backOf (W := 0) (rm_wr_aCONFIRMATION_aFFDHE3072 l Z a0 hw [] aKEY_SHARE aFFDHE2048 aFFDHE4096 aCONFIRMATION aFFDHE3072 F0 a140 k140 ((p1).toInt8.toInt32) ((p2).toInt8.toInt32) ((p3).toInt8.toInt32) ((p4).toInt8.toInt32) ((p5).toInt8.toInt32) h150 n0 O150 V150 ge140) hZ (hw _ (List.mem_of_getElem? (i := 11) rfl)) (hw _ (List.mem_of_getElem? (i := 1) rfl)) (by decide) (by decide)) qa152 qc152 (g := (mkF m 132 #[.val (.int p0), .val (.int p1), .val (.int p2), .val (.int p3), .val (.int p4), .val (.int p5), .val (.int (1 : Int32)), .val (.ref aCONFIRMATION), .val (.int (2 : Int32)), .val (.int ((((p0).toUInt32 >>> ((1 : Int32) &&& 31).toUInt32).toInt32) % (3 : Int32))), .val (.ref aFFDHE3072), .val (.int (2 : Int32)), .val (.ref a140)] [(.ref aFFDHE3072), (.ref a140), (.ref aCONFIRMATION)])) rfl (by rw [hml]; rfl) (Steps.refl _) (argsL := [(.ref a140), (.ref aFFDHE3072)]) (rest := []) (lenOf pd__B_Lcom_example_portcullis_portcullis_Group___V rfl) rfl (by show 2 * 0 + _ ≤ _; exact Nat.le_of_eq rfl) (hb hby at_132) (fun _ _ => ⟨rfl, e150, (by decide : 1 + 0 ≤ _), (by decide : 5 + 0 ≤ _)⟩)
        dsimp only [Pt.U, Pt.locs, Pt.cells, Pt.slots] at X152 l152 y152 z152 st152 hQ152
        subst l152 y152 z152
        obtain ⟨rfl, Nq152, K152, x152_0⟩ := hQ152
        have N152 := Fr.app N150 Nq152
        have O152 := O150.keep K152 (allS ge140 all0)
        have e152 : T152.heap = T152.heap := rfl
        have z153 : h0.size ≤ T152.heap.size := Nat.le_trans z151 K152.1
        refine own_go (fun _ k => st152.trans k) ?_
        show OwnGo p e below _ (T152.setTop (mkF m 135 #[.val (.int p0), .val (.int p1), .val (.int p2), .val (.int p3), .val (.int p4), .val (.int p5), .val (.int (1 : Int32)), .val (.ref aCONFIRMATION), .val (.int (2 : Int32)), .val (.int ((((p0).toUInt32 >>> ((1 : Int32) &&& 31).toUInt32).toInt32) % (3 : Int32))), .val (.ref aFFDHE3072), .val (.int (2 : Int32)), .val (.ref a140)] []))
        refine own_go (fun _ k => XS.aload X152.here hx rfl (hb hby at_135) rfl rfl k) ?_
        show OwnGo p e below _ (T152.setTop (mkF m 137 #[.val (.int p0), .val (.int p1), .val (.int p2), .val (.int p3), .val (.int p4), .val (.int p5), .val (.int (1 : Int32)), .val (.ref aCONFIRMATION), .val (.int (2 : Int32)), .val (.int ((((p0).toUInt32 >>> ((1 : Int32) &&& 31).toUInt32).toInt32) % (3 : Int32))), .val (.ref aFFDHE3072), .val (.int (2 : Int32)), .val (.ref a140)] [(.ref a140)]))
        refine own_go (fun _ k => XS.iconst X152.here hx rfl (hb hby at_137) k) ?_
        show OwnGo p e below _ (T152.setTop (mkF m 138 #[.val (.int p0), .val (.int p1), .val (.int p2), .val (.int p3), .val (.int p4), .val (.int p5), .val (.int (1 : Int32)), .val (.ref aCONFIRMATION), .val (.int (2 : Int32)), .val (.int ((((p0).toUInt32 >>> ((1 : Int32) &&& 31).toUInt32).toInt32) % (3 : Int32))), .val (.ref aFFDHE3072), .val (.int (2 : Int32)), .val (.ref a140)] [(.int (0 : Int32)), (.ref a140)]))
        obtain ⟨c154, Ar154, q154, S154, M154, H154, G154⟩ := (id x152_0)
        refine own_go (fun _ k => X152.baloadBytes hx (j := (0 : Int32)) (v := (.int (1 : Int32))) (by rw [e152]; exact Ar154.1) (State.isArrayOf_alike hZ.alike Ar154.2.1) Ar154.2.2 (inb_of S154 ⟨by decide, by decide⟩) (Has.at H154 (inb_of S154 ⟨by decide, by decide⟩) rfl) (g := (mkF m 138 #[.val (.int p0), .val (.int p1), .val (.int p2), .val (.int p3), .val (.int p4), .val (.int p5), .val (.int (1 : Int32)), .val (.ref aCONFIRMATION), .val (.int (2 : Int32)), .val (.int ((((p0).toUInt32 >>> ((1 : Int32) &&& 31).toUInt32).toInt32) % (3 : Int32))), .val (.ref aFFDHE3072), .val (.int (2 : Int32)), .val (.ref a140)] [(.int (0 : Int32)), (.ref a140)])) rfl rfl (hb hby at_138) _ k) ?_
        show OwnGo p e below _ (T152.setTop (mkF m 139 #[.val (.int p0), .val (.int p1), .val (.int p2), .val (.int p3), .val (.int p4), .val (.int p5), .val (.int (1 : Int32)), .val (.ref aCONFIRMATION), .val (.int (2 : Int32)), .val (.int ((((p0).toUInt32 >>> ((1 : Int32) &&& 31).toUInt32).toInt32) % (3 : Int32))), .val (.ref aFFDHE3072), .val (.int (2 : Int32)), .val (.ref a140)] [(.int (1 : Int32))]))
        refine own_go (fun _ k => XS.iconst X152.here hx rfl (hb hby at_139) k) ?_
        show OwnGo p e below _ (T152.setTop (mkF m 140 #[.val (.int p0), .val (.int p1), .val (.int p2), .val (.int p3), .val (.int p4), .val (.int p5), .val (.int (1 : Int32)), .val (.ref aCONFIRMATION), .val (.int (2 : Int32)), .val (.int ((((p0).toUInt32 >>> ((1 : Int32) &&& 31).toUInt32).toInt32) % (3 : Int32))), .val (.ref aFFDHE3072), .val (.int (2 : Int32)), .val (.ref a140)] [(.int (1 : Int32)), (.int (1 : Int32))]))
        refine own_go (fun _ k => XS.icmpNo X152.here hx rfl (hb hby at_140) rfl (by decide) k) ?_
        show OwnGo p e below _ (T152.setTop (mkF m 143 #[.val (.int p0), .val (.int p1), .val (.int p2), .val (.int p3), .val (.int p4), .val (.int p5), .val (.int (1 : Int32)), .val (.ref aCONFIRMATION), .val (.int (2 : Int32)), .val (.int ((((p0).toUInt32 >>> ((1 : Int32) &&& 31).toUInt32).toInt32) % (3 : Int32))), .val (.ref aFFDHE3072), .val (.int (2 : Int32)), .val (.ref a140)] []))
        refine own_go (fun _ k => XS.aload X152.here hx rfl (hb hby at_143) rfl rfl k) ?_
        show OwnGo p e below _ (T152.setTop (mkF m 145 #[.val (.int p0), .val (.int p1), .val (.int p2), .val (.int p3), .val (.int p4), .val (.int p5), .val (.int (1 : Int32)), .val (.ref aCONFIRMATION), .val (.int (2 : Int32)), .val (.int ((((p0).toUInt32 >>> ((1 : Int32) &&& 31).toUInt32).toInt32) % (3 : Int32))), .val (.ref aFFDHE3072), .val (.int (2 : Int32)), .val (.ref a140)] [(.ref a140)]))
        refine own_go (fun _ k => XS.iconst X152.here hx rfl (hb hby at_145) k) ?_
        show OwnGo p e below _ (T152.setTop (mkF m 146 #[.val (.int p0), .val (.int p1), .val (.int p2), .val (.int p3), .val (.int p4), .val (.int p5), .val (.int (1 : Int32)), .val (.ref aCONFIRMATION), .val (.int (2 : Int32)), .val (.int ((((p0).toUInt32 >>> ((1 : Int32) &&& 31).toUInt32).toInt32) % (3 : Int32))), .val (.ref aFFDHE3072), .val (.int (2 : Int32)), .val (.ref a140)] [(.int (1 : Int32)), (.ref a140)]))
        obtain ⟨c155, Ar155, q155, S155, M155, H155, G155⟩ := (id x152_0)
        refine own_go (fun _ k => X152.baloadBytes hx (j := (1 : Int32)) (v := (.int (2 : Int32))) (by rw [e152]; exact Ar155.1) (State.isArrayOf_alike hZ.alike Ar155.2.1) Ar155.2.2 (inb_of S155 ⟨by decide, by decide⟩) (Has.at H155 (inb_of S155 ⟨by decide, by decide⟩) rfl) (g := (mkF m 146 #[.val (.int p0), .val (.int p1), .val (.int p2), .val (.int p3), .val (.int p4), .val (.int p5), .val (.int (1 : Int32)), .val (.ref aCONFIRMATION), .val (.int (2 : Int32)), .val (.int ((((p0).toUInt32 >>> ((1 : Int32) &&& 31).toUInt32).toInt32) % (3 : Int32))), .val (.ref aFFDHE3072), .val (.int (2 : Int32)), .val (.ref a140)] [(.int (1 : Int32)), (.ref a140)])) rfl rfl (hb hby at_146) _ k) ?_
        show OwnGo p e below _ (T152.setTop (mkF m 147 #[.val (.int p0), .val (.int p1), .val (.int p2), .val (.int p3), .val (.int p4), .val (.int p5), .val (.int (1 : Int32)), .val (.ref aCONFIRMATION), .val (.int (2 : Int32)), .val (.int ((((p0).toUInt32 >>> ((1 : Int32) &&& 31).toUInt32).toInt32) % (3 : Int32))), .val (.ref aFFDHE3072), .val (.int (2 : Int32)), .val (.ref a140)] [(.int (2 : Int32))]))
        refine own_go (fun _ k => XS.iload X152.here hx rfl (hb hby at_147) rfl k) ?_
        show OwnGo p e below _ (T152.setTop (mkF m 149 #[.val (.int p0), .val (.int p1), .val (.int p2), .val (.int p3), .val (.int p4), .val (.int p5), .val (.int (1 : Int32)), .val (.ref aCONFIRMATION), .val (.int (2 : Int32)), .val (.int ((((p0).toUInt32 >>> ((1 : Int32) &&& 31).toUInt32).toInt32) % (3 : Int32))), .val (.ref aFFDHE3072), .val (.int (2 : Int32)), .val (.ref a140)] [(.int (2 : Int32)), (.int (2 : Int32))]))
        refine own_go (fun _ k => XS.icmpNo X152.here hx rfl (hb hby at_149) rfl (by decide) k) ?_
        show OwnGo p e below _ (T152.setTop (mkF m 152 #[.val (.int p0), .val (.int p1), .val (.int p2), .val (.int p3), .val (.int p4), .val (.int p5), .val (.int (1 : Int32)), .val (.ref aCONFIRMATION), .val (.int (2 : Int32)), .val (.int ((((p0).toUInt32 >>> ((1 : Int32) &&& 31).toUInt32).toInt32) % (3 : Int32))), .val (.ref aFFDHE3072), .val (.int (2 : Int32)), .val (.ref a140)] []))
        refine own_go (fun _ k => XS.aload X152.here hx rfl (hb hby at_152) rfl rfl k) ?_
        show OwnGo p e below _ (T152.setTop (mkF m 154 #[.val (.int p0), .val (.int p1), .val (.int p2), .val (.int p3), .val (.int p4), .val (.int p5), .val (.int (1 : Int32)), .val (.ref aCONFIRMATION), .val (.int (2 : Int32)), .val (.int ((((p0).toUInt32 >>> ((1 : Int32) &&& 31).toUInt32).toInt32) % (3 : Int32))), .val (.ref aFFDHE3072), .val (.int (2 : Int32)), .val (.ref a140)] [(.ref a140)]))
        refine own_go (fun _ k => XS.iconst X152.here hx rfl (hb hby at_154) k) ?_
        show OwnGo p e below _ (T152.setTop (mkF m 155 #[.val (.int p0), .val (.int p1), .val (.int p2), .val (.int p3), .val (.int p4), .val (.int p5), .val (.int (1 : Int32)), .val (.ref aCONFIRMATION), .val (.int (2 : Int32)), .val (.int ((((p0).toUInt32 >>> ((1 : Int32) &&& 31).toUInt32).toInt32) % (3 : Int32))), .val (.ref aFFDHE3072), .val (.int (2 : Int32)), .val (.ref a140)] [(.int (2 : Int32)), (.ref a140)]))
        obtain ⟨c156, Ar156, q156, S156, M156, H156, G156⟩ := (id x152_0)
        refine own_go (fun _ k => X152.baloadBytes hx (j := (2 : Int32)) (v := (.int (2 : Int32))) (by rw [e152]; exact Ar156.1) (State.isArrayOf_alike hZ.alike Ar156.2.1) Ar156.2.2 (inb_of S156 ⟨by decide, by decide⟩) (Has.at H156 (inb_of S156 ⟨by decide, by decide⟩) rfl) (g := (mkF m 155 #[.val (.int p0), .val (.int p1), .val (.int p2), .val (.int p3), .val (.int p4), .val (.int p5), .val (.int (1 : Int32)), .val (.ref aCONFIRMATION), .val (.int (2 : Int32)), .val (.int ((((p0).toUInt32 >>> ((1 : Int32) &&& 31).toUInt32).toInt32) % (3 : Int32))), .val (.ref aFFDHE3072), .val (.int (2 : Int32)), .val (.ref a140)] [(.int (2 : Int32)), (.ref a140)])) rfl rfl (hb hby at_155) _ k) ?_
        show OwnGo p e below _ (T152.setTop (mkF m 156 #[.val (.int p0), .val (.int p1), .val (.int p2), .val (.int p3), .val (.int p4), .val (.int p5), .val (.int (1 : Int32)), .val (.ref aCONFIRMATION), .val (.int (2 : Int32)), .val (.int ((((p0).toUInt32 >>> ((1 : Int32) &&& 31).toUInt32).toInt32) % (3 : Int32))), .val (.ref aFFDHE3072), .val (.int (2 : Int32)), .val (.ref a140)] [(.int (2 : Int32))]))
        refine own_go (fun _ k => XS.iload X152.here hx rfl (hb hby at_156) rfl k) ?_
        show OwnGo p e below _ (T152.setTop (mkF m 158 #[.val (.int p0), .val (.int p1), .val (.int p2), .val (.int p3), .val (.int p4), .val (.int p5), .val (.int (1 : Int32)), .val (.ref aCONFIRMATION), .val (.int (2 : Int32)), .val (.int ((((p0).toUInt32 >>> ((1 : Int32) &&& 31).toUInt32).toInt32) % (3 : Int32))), .val (.ref aFFDHE3072), .val (.int (2 : Int32)), .val (.ref a140)] [(.int (2 : Int32)), (.int (2 : Int32))]))
        refine own_go (fun _ k => XS.icmpNo X152.here hx rfl (hb hby at_158) rfl (by decide) k) ?_
        show OwnGo p e below _ (T152.setTop (mkF m 161 #[.val (.int p0), .val (.int p1), .val (.int p2), .val (.int p3), .val (.int p4), .val (.int p5), .val (.int (1 : Int32)), .val (.ref aCONFIRMATION), .val (.int (2 : Int32)), .val (.int ((((p0).toUInt32 >>> ((1 : Int32) &&& 31).toUInt32).toInt32) % (3 : Int32))), .val (.ref aFFDHE3072), .val (.int (2 : Int32)), .val (.ref a140)] []))
        refine own_go (fun _ k => XS.aload X152.here hx rfl (hb hby at_161) rfl rfl k) ?_
        show OwnGo p e below _ (T152.setTop (mkF m 163 #[.val (.int p0), .val (.int p1), .val (.int p2), .val (.int p3), .val (.int p4), .val (.int p5), .val (.int (1 : Int32)), .val (.ref aCONFIRMATION), .val (.int (2 : Int32)), .val (.int ((((p0).toUInt32 >>> ((1 : Int32) &&& 31).toUInt32).toInt32) % (3 : Int32))), .val (.ref aFFDHE3072), .val (.int (2 : Int32)), .val (.ref a140)] [(.ref a140)]))
        refine own_go (fun _ k => XS.iconst X152.here hx rfl (hb hby at_163) k) ?_
        show OwnGo p e below _ (T152.setTop (mkF m 164 #[.val (.int p0), .val (.int p1), .val (.int p2), .val (.int p3), .val (.int p4), .val (.int p5), .val (.int (1 : Int32)), .val (.ref aCONFIRMATION), .val (.int (2 : Int32)), .val (.int ((((p0).toUInt32 >>> ((1 : Int32) &&& 31).toUInt32).toInt32) % (3 : Int32))), .val (.ref aFFDHE3072), .val (.int (2 : Int32)), .val (.ref a140)] [(.int (3 : Int32)), (.ref a140)]))
        obtain ⟨c157, Ar157, q157, S157, M157, H157, G157⟩ := (id x152_0)
        refine own_go (fun _ k => X152.baloadBytes hx (j := (3 : Int32)) (v := (.int ((p4).toInt8.toInt32))) (by rw [e152]; exact Ar157.1) (State.isArrayOf_alike hZ.alike Ar157.2.1) Ar157.2.2 (inb_of S157 ⟨by decide, by decide⟩) (Has.at H157 (inb_of S157 ⟨by decide, by decide⟩) rfl) (g := (mkF m 164 #[.val (.int p0), .val (.int p1), .val (.int p2), .val (.int p3), .val (.int p4), .val (.int p5), .val (.int (1 : Int32)), .val (.ref aCONFIRMATION), .val (.int (2 : Int32)), .val (.int ((((p0).toUInt32 >>> ((1 : Int32) &&& 31).toUInt32).toInt32) % (3 : Int32))), .val (.ref aFFDHE3072), .val (.int (2 : Int32)), .val (.ref a140)] [(.int (3 : Int32)), (.ref a140)])) rfl rfl (hb hby at_164) _ k) ?_
        show OwnGo p e below _ (T152.setTop (mkF m 165 #[.val (.int p0), .val (.int p1), .val (.int p2), .val (.int p3), .val (.int p4), .val (.int p5), .val (.int (1 : Int32)), .val (.ref aCONFIRMATION), .val (.int (2 : Int32)), .val (.int ((((p0).toUInt32 >>> ((1 : Int32) &&& 31).toUInt32).toInt32) % (3 : Int32))), .val (.ref aFFDHE3072), .val (.int (2 : Int32)), .val (.ref a140)] [(.int ((p4).toInt8.toInt32))]))
        refine own_go (fun _ k => XS.iload X152.here hx rfl (hb hby at_165) rfl k) ?_
        show OwnGo p e below _ (T152.setTop (mkF m 167 #[.val (.int p0), .val (.int p1), .val (.int p2), .val (.int p3), .val (.int p4), .val (.int p5), .val (.int (1 : Int32)), .val (.ref aCONFIRMATION), .val (.int (2 : Int32)), .val (.int ((((p0).toUInt32 >>> ((1 : Int32) &&& 31).toUInt32).toInt32) % (3 : Int32))), .val (.ref aFFDHE3072), .val (.int (2 : Int32)), .val (.ref a140)] [(.int p4), (.int ((p4).toInt8.toInt32))]))
        refine own_go (fun _ k => XS.i2b X152.here hx rfl (hb hby at_167) rfl k) ?_
        show OwnGo p e below _ (T152.setTop (mkF m 168 #[.val (.int p0), .val (.int p1), .val (.int p2), .val (.int p3), .val (.int p4), .val (.int p5), .val (.int (1 : Int32)), .val (.ref aCONFIRMATION), .val (.int (2 : Int32)), .val (.int ((((p0).toUInt32 >>> ((1 : Int32) &&& 31).toUInt32).toInt32) % (3 : Int32))), .val (.ref aFFDHE3072), .val (.int (2 : Int32)), .val (.ref a140)] [(.int ((p4).toInt8.toInt32)), (.int ((p4).toInt8.toInt32))]))
        refine own_go (fun _ k => XS.icmpNo X152.here hx rfl (hb hby at_168) rfl (teq rfl).2 k) ?_
        show OwnGo p e below _ (T152.setTop (mkF m 171 #[.val (.int p0), .val (.int p1), .val (.int p2), .val (.int p3), .val (.int p4), .val (.int p5), .val (.int (1 : Int32)), .val (.ref aCONFIRMATION), .val (.int (2 : Int32)), .val (.int ((((p0).toUInt32 >>> ((1 : Int32) &&& 31).toUInt32).toInt32) % (3 : Int32))), .val (.ref aFFDHE3072), .val (.int (2 : Int32)), .val (.ref a140)] []))
        refine own_go (fun _ k => XS.aload X152.here hx rfl (hb hby at_171) rfl rfl k) ?_
        show OwnGo p e below _ (T152.setTop (mkF m 173 #[.val (.int p0), .val (.int p1), .val (.int p2), .val (.int p3), .val (.int p4), .val (.int p5), .val (.int (1 : Int32)), .val (.ref aCONFIRMATION), .val (.int (2 : Int32)), .val (.int ((((p0).toUInt32 >>> ((1 : Int32) &&& 31).toUInt32).toInt32) % (3 : Int32))), .val (.ref aFFDHE3072), .val (.int (2 : Int32)), .val (.ref a140)] [(.ref a140)]))
        refine own_go (fun _ k => XS.iconst X152.here hx rfl (hb hby at_173) k) ?_
        show OwnGo p e below _ (T152.setTop (mkF m 174 #[.val (.int p0), .val (.int p1), .val (.int p2), .val (.int p3), .val (.int p4), .val (.int p5), .val (.int (1 : Int32)), .val (.ref aCONFIRMATION), .val (.int (2 : Int32)), .val (.int ((((p0).toUInt32 >>> ((1 : Int32) &&& 31).toUInt32).toInt32) % (3 : Int32))), .val (.ref aFFDHE3072), .val (.int (2 : Int32)), .val (.ref a140)] [(.int (4 : Int32)), (.ref a140)]))
        obtain ⟨c158, Ar158, q158, S158, M158, H158, G158⟩ := (id x152_0)
        refine own_go (fun _ k => X152.baloadBytes hx (j := (4 : Int32)) (v := (.int ((p5).toInt8.toInt32))) (by rw [e152]; exact Ar158.1) (State.isArrayOf_alike hZ.alike Ar158.2.1) Ar158.2.2 (inb_of S158 ⟨by decide, by decide⟩) (Has.at H158 (inb_of S158 ⟨by decide, by decide⟩) rfl) (g := (mkF m 174 #[.val (.int p0), .val (.int p1), .val (.int p2), .val (.int p3), .val (.int p4), .val (.int p5), .val (.int (1 : Int32)), .val (.ref aCONFIRMATION), .val (.int (2 : Int32)), .val (.int ((((p0).toUInt32 >>> ((1 : Int32) &&& 31).toUInt32).toInt32) % (3 : Int32))), .val (.ref aFFDHE3072), .val (.int (2 : Int32)), .val (.ref a140)] [(.int (4 : Int32)), (.ref a140)])) rfl rfl (hb hby at_174) _ k) ?_
        show OwnGo p e below _ (T152.setTop (mkF m 175 #[.val (.int p0), .val (.int p1), .val (.int p2), .val (.int p3), .val (.int p4), .val (.int p5), .val (.int (1 : Int32)), .val (.ref aCONFIRMATION), .val (.int (2 : Int32)), .val (.int ((((p0).toUInt32 >>> ((1 : Int32) &&& 31).toUInt32).toInt32) % (3 : Int32))), .val (.ref aFFDHE3072), .val (.int (2 : Int32)), .val (.ref a140)] [(.int ((p5).toInt8.toInt32))]))
        refine own_go (fun _ k => XS.iload X152.here hx rfl (hb hby at_175) rfl k) ?_
        show OwnGo p e below _ (T152.setTop (mkF m 177 #[.val (.int p0), .val (.int p1), .val (.int p2), .val (.int p3), .val (.int p4), .val (.int p5), .val (.int (1 : Int32)), .val (.ref aCONFIRMATION), .val (.int (2 : Int32)), .val (.int ((((p0).toUInt32 >>> ((1 : Int32) &&& 31).toUInt32).toInt32) % (3 : Int32))), .val (.ref aFFDHE3072), .val (.int (2 : Int32)), .val (.ref a140)] [(.int p5), (.int ((p5).toInt8.toInt32))]))
        refine own_go (fun _ k => XS.i2b X152.here hx rfl (hb hby at_177) rfl k) ?_
        show OwnGo p e below _ (T152.setTop (mkF m 178 #[.val (.int p0), .val (.int p1), .val (.int p2), .val (.int p3), .val (.int p4), .val (.int p5), .val (.int (1 : Int32)), .val (.ref aCONFIRMATION), .val (.int (2 : Int32)), .val (.int ((((p0).toUInt32 >>> ((1 : Int32) &&& 31).toUInt32).toInt32) % (3 : Int32))), .val (.ref aFFDHE3072), .val (.int (2 : Int32)), .val (.ref a140)] [(.int ((p5).toInt8.toInt32)), (.int ((p5).toInt8.toInt32))]))
        refine own_go (fun _ k => XS.icmpNo X152.here hx rfl (hb hby at_178) rfl (teq rfl).2 k) ?_
        show OwnGo p e below _ (T152.setTop (mkF m 181 #[.val (.int p0), .val (.int p1), .val (.int p2), .val (.int p3), .val (.int p4), .val (.int p5), .val (.int (1 : Int32)), .val (.ref aCONFIRMATION), .val (.int (2 : Int32)), .val (.int ((((p0).toUInt32 >>> ((1 : Int32) &&& 31).toUInt32).toInt32) % (3 : Int32))), .val (.ref aFFDHE3072), .val (.int (2 : Int32)), .val (.ref a140)] []))
        refine own_go (fun _ k => XS.iconst X152.here hx rfl (hb hby at_181) k) ?_
        show OwnGo p e below _ (T152.setTop (mkF m 182 #[.val (.int p0), .val (.int p1), .val (.int p2), .val (.int p3), .val (.int p4), .val (.int p5), .val (.int (1 : Int32)), .val (.ref aCONFIRMATION), .val (.int (2 : Int32)), .val (.int ((((p0).toUInt32 >>> ((1 : Int32) &&& 31).toUInt32).toInt32) % (3 : Int32))), .val (.ref aFFDHE3072), .val (.int (2 : Int32)), .val (.ref a140)] [(.int (1 : Int32))]))
        refine own_go (fun _ k => XS.goto X152.here hx rfl (pc0 := 182) (pc' := 186) rfl (hb hby at_182) (by decide) (by decide) k) ?_
        show OwnGo p e below _ (T152.setTop (mkF m 186 #[.val (.int p0), .val (.int p1), .val (.int p2), .val (.int p3), .val (.int p4), .val (.int p5), .val (.int (1 : Int32)), .val (.ref aCONFIRMATION), .val (.int (2 : Int32)), .val (.int ((((p0).toUInt32 >>> ((1 : Int32) &&& 31).toUInt32).toInt32) % (3 : Int32))), .val (.ref aFFDHE3072), .val (.int (2 : Int32)), .val (.ref a140)] [(.int (1 : Int32))]))
        obtain ⟨fs, hr, hrun, hended, hW, hsame⟩ := X152.leave (v := some (.int (1 : Int32))) (fun h => by rw [Bd.returns] at h; cases h)
        refine ⟨_, _, retOut X152 hx Bd.returns rfl (Or.inl ⟨rfl, Or.inr (Or.inl rfl), _, rfl⟩) (hb hby at_186) hr, hrun, hended, _, _, rfl, ?_, ⟨_, rfl⟩, hW, hsame.mono (by decide) (by decide)⟩
        show Q_law Z aKEY_SHARE aFFDHE2048 aFFDHE4096 aCONFIRMATION aFFDHE3072 p0 p1 p2 p3 p4 p5 h0 n0 _ T152.heap _
        rw [e152]
        exact ⟨rfl, N152⟩
      · refine own_go (fun _ k => XS.icmpYes X116.here hx rfl (pc0 := 67) (pc' := 81) rfl (hb hby at_67) rfl (feq hc138).2 (by decide) (by decide) k) ?_
        show OwnGo p e below _ (T116.setTop (mkF m 81 #[.val (.int p0), .val (.int p1), .val (.int p2), .val (.int p3), .val (.int p4), .val (.int p5), .val (.int (1 : Int32)), .val (.ref aCONFIRMATION), .val (.int (2 : Int32)), .val (.int ((((p0).toUInt32 >>> ((1 : Int32) &&& 31).toUInt32).toInt32) % (3 : Int32))), .unset, .unset, .unset] []))
        obtain ⟨T159, X159, e159, st159⟩ := getS X116 hx hZ hown (host := "") (hw _ (List.mem_of_getElem? (i := 21) rfl)) Via.refl e116 (F0.2.2.2.2.2.2.1.ext O0.2) (g := (mkF m 81 #[.val (.int p0), .val (.int p1), .val (.int p2), .val (.int p3), .val (.int p4), .val (.int p5), .val (.int (1 : Int32)), .val (.ref aCONFIRMATION), .val (.int (2 : Int32)), .val (.int ((((p0).toUInt32 >>> ((1 : Int32) &&& 31).toUInt32).toInt32) % (3 : Int32))), .unset, .unset, .unset] [])) rfl (hb hby at_81)
        refine own_go st159 ?_
        show OwnGo p e below _ (T159.setTop (mkF m 84 #[.val (.int p0), .val (.int p1), .val (.int p2), .val (.int p3), .val (.int p4), .val (.int p5), .val (.int (1 : Int32)), .val (.ref aCONFIRMATION), .val (.int (2 : Int32)), .val (.int ((((p0).toUInt32 >>> ((1 : Int32) &&& 31).toUInt32).toInt32) % (3 : Int32))), .unset, .unset, .unset] [(.ref aFFDHE4096)]))
        refine own_go (fun _ k => XS.astore X159.here hx rfl (hb hby at_84) rfl rfl (l' := #[.val (.int p0), .val (.int p1), .val (.int p2), .val (.int p3), .val (.int p4), .val (.int p5), .val (.int (1 : Int32)), .val (.ref aCONFIRMATION), .val (.int (2 : Int32)), .val (.int ((((p0).toUInt32 >>> ((1 : Int32) &&& 31).toUInt32).toInt32) % (3 : Int32))), .val (.ref aFFDHE4096), .unset, .unset]) rfl k) ?_
        show OwnGo p e below _ (T159.setTop (mkF m 86 #[.val (.int p0), .val (.int p1), .val (.int p2), .val (.int p3), .val (.int p4), .val (.int p5), .val (.int (1 : Int32)), .val (.ref aCONFIRMATION), .val (.int (2 : Int32)), .val (.int ((((p0).toUInt32 >>> ((1 : Int32) &&& 31).toUInt32).toInt32) % (3 : Int32))), .val (.ref aFFDHE4096), .unset, .unset] []))
        refine own_go (fun _ k => XS.iconst X159.here hx rfl (hb hby at_86) k) ?_
        show OwnGo p e below _ (T159.setTop (mkF m 87 #[.val (.int p0), .val (.int p1), .val (.int p2), .val (.int p3), .val (.int p4), .val (.int p5), .val (.int (1 : Int32)), .val (.ref aCONFIRMATION), .val (.int (2 : Int32)), .val (.int ((((p0).toUInt32 >>> ((1 : Int32) &&& 31).toUInt32).toInt32) % (3 : Int32))), .val (.ref aFFDHE4096), .unset, .unset] [(.int (3 : Int32))]))
        refine own_go (fun _ k => XS.istore X159.here hx rfl (hb hby at_87) rfl (l' := #[.val (.int p0), .val (.int p1), .val (.int p2), .val (.int p3), .val (.int p4), .val (.int p5), .val (.int (1 : Int32)), .val (.ref aCONFIRMATION), .val (.int (2 : Int32)), .val (.int ((((p0).toUInt32 >>> ((1 : Int32) &&& 31).toUInt32).toInt32) % (3 : Int32))), .val (.ref aFFDHE4096), .val (.int (3 : Int32)), .unset]) rfl k) ?_
        show OwnGo p e below _ (T159.setTop (mkF m 89 #[.val (.int p0), .val (.int p1), .val (.int p2), .val (.int p3), .val (.int p4), .val (.int p5), .val (.int (1 : Int32)), .val (.ref aCONFIRMATION), .val (.int (2 : Int32)), .val (.int ((((p0).toUInt32 >>> ((1 : Int32) &&& 31).toUInt32).toInt32) % (3 : Int32))), .val (.ref aFFDHE4096), .val (.int (3 : Int32)), .unset] []))
        refine own_go (fun _ k => XS.iconst X159.here hx rfl (hb hby at_89) k) ?_
        show OwnGo p e below _ (T159.setTop (mkF m 90 #[.val (.int p0), .val (.int p1), .val (.int p2), .val (.int p3), .val (.int p4), .val (.int p5), .val (.int (1 : Int32)), .val (.ref aCONFIRMATION), .val (.int (2 : Int32)), .val (.int ((((p0).toUInt32 >>> ((1 : Int32) &&& 31).toUInt32).toInt32) % (3 : Int32))), .val (.ref aFFDHE4096), .val (.int (3 : Int32)), .unset] [(.int (5 : Int32))]))
        obtain ⟨T160, h160, k160, X160, e160, E160, A160, st160⟩ := newP X159 hx hZ (hw _ (List.mem_of_getElem? (i := 6) rfl)) e159 (g := (mkF m 90 #[.val (.int p0), .val (.int p1), .val (.int p2), .val (.int p3), .val (.int p4), .val (.int p5), .val (.int (1 : Int32)), .val (.ref aCONFIRMATION), .val (.int (2 : Int32)), .val (.int ((((p0).toUInt32 >>> ((1 : Int32) &&& 31).toUInt32).toInt32) % (3 : Int32))), .val (.ref aFFDHE4096), .val (.int (3 : Int32)), .unset] [(.int (5 : Int32))])) rfl (hb hby at_90) rfl (by decide) (cap := 5) (by decide) (by decide) (by decide) (by decide)
        obtain ⟨a160, g160⟩ : ∃ z, z = h0.size := ⟨_, rfl⟩
        rw [← g160] at A160 st160
        have ge160 : n0 ≤ a160 := Nat.le_trans (own_sz O0) (Nat.le_of_eq g160.symm)
        have gh160 : h0.size ≤ a160 := Nat.le_trans (Nat.le_refl _) (Nat.le_of_eq g160.symm)
        have O160 := O0.ext E160
        have z161 : h0.size ≤ h160.size := Nat.le_trans (Nat.le_refl _) E160.1
        have V160 : Arv Z h160 a160 k160 .byte (5 : Int32) [(.int (0 : Int32)), (.int (0 : Int32)), (.int (0 : Int32)), (.int (0 : Int32)), (.int (0 : Int32))] (.int (0 : Int32)) := (Arv.new A160 (by decide)).pad (pad_rep [] _ 5)
        refine own_go st160 ?_
        show OwnGo p e below _ (T160.setTop (mkF m 92 #[.val (.int p0), .val (.int p1), .val (.int p2), .val (.int p3), .val (.int p4), .val (.int p5), .val (.int (1 : Int32)), .val (.ref aCONFIRMATION), .val (.int (2 : Int32)), .val (.int ((((p0).toUInt32 >>> ((1 : Int32) &&& 31).toUInt32).toInt32) % (3 : Int32))), .val (.ref aFFDHE4096), .val (.int (3 : Int32)), .unset] [(.ref a160)]))
        refine own_go (fun _ k => XS.astore X160.here hx rfl (hb hby at_92) rfl rfl (l' := #[.val (.int p0), .val (.int p1), .val (.int p2), .val (.int p3), .val (.int p4), .val (.int p5), .val (.int (1 : Int32)), .val (.ref aCONFIRMATION), .val (.int (2 : Int32)), .val (.int ((((p0).toUInt32 >>> ((1 : Int32) &&& 31).toUInt32).toInt32) % (3 : Int32))), .val (.ref aFFDHE4096), .val (.int (3 : Int32)), .val (.ref a160)]) rfl k) ?_
        show OwnGo p e below _ (T160.setTop (mkF m 94 #[.val (.int p0), .val (.int p1), .val (.int p2), .val (.int p3), .val (.int p4), .val (.int p5), .val (.int (1 : Int32)), .val (.ref aCONFIRMATION), .val (.int (2 : Int32)), .val (.int ((((p0).toUInt32 >>> ((1 : Int32) &&& 31).toUInt32).toInt32) % (3 : Int32))), .val (.ref aFFDHE4096), .val (.int (3 : Int32)), .val (.ref a160)] []))
        refine own_go (fun _ k => XS.aload X160.here hx rfl (hb hby at_94) rfl rfl k) ?_
        show OwnGo p e below _ (T160.setTop (mkF m 96 #[.val (.int p0), .val (.int p1), .val (.int p2), .val (.int p3), .val (.int p4), .val (.int p5), .val (.int (1 : Int32)), .val (.ref aCONFIRMATION), .val (.int (2 : Int32)), .val (.int ((((p0).toUInt32 >>> ((1 : Int32) &&& 31).toUInt32).toInt32) % (3 : Int32))), .val (.ref aFFDHE4096), .val (.int (3 : Int32)), .val (.ref a160)] [(.ref a160)]))
        refine own_go (fun _ k => XS.iconst X160.here hx rfl (hb hby at_96) k) ?_
        show OwnGo p e below _ (T160.setTop (mkF m 97 #[.val (.int p0), .val (.int p1), .val (.int p2), .val (.int p3), .val (.int p4), .val (.int p5), .val (.int (1 : Int32)), .val (.ref aCONFIRMATION), .val (.int (2 : Int32)), .val (.int ((((p0).toUInt32 >>> ((1 : Int32) &&& 31).toUInt32).toInt32) % (3 : Int32))), .val (.ref aFFDHE4096), .val (.int (3 : Int32)), .val (.ref a160)] [(.int (0 : Int32)), (.ref a160)]))
        refine own_go (fun _ k => XS.iloadN X160.here hx rfl (hb hby at_97) rfl k) ?_
        show OwnGo p e below _ (T160.setTop (mkF m 98 #[.val (.int p0), .val (.int p1), .val (.int p2), .val (.int p3), .val (.int p4), .val (.int p5), .val (.int (1 : Int32)), .val (.ref aCONFIRMATION), .val (.int (2 : Int32)), .val (.int ((((p0).toUInt32 >>> ((1 : Int32) &&& 31).toUInt32).toInt32) % (3 : Int32))), .val (.ref aFFDHE4096), .val (.int (3 : Int32)), .val (.ref a160)] [(.int p1), (.int (0 : Int32)), (.ref a160)]))
        refine own_go (fun _ k => XS.i2b X160.here hx rfl (hb hby at_98) rfl k) ?_
        show OwnGo p e below _ (T160.setTop (mkF m 99 #[.val (.int p0), .val (.int p1), .val (.int p2), .val (.int p3), .val (.int p4), .val (.int p5), .val (.int (1 : Int32)), .val (.ref aCONFIRMATION), .val (.int (2 : Int32)), .val (.int ((((p0).toUInt32 >>> ((1 : Int32) &&& 31).toUInt32).toInt32) % (3 : Int32))), .val (.ref aFFDHE4096), .val (.int (3 : Int32)), .val (.ref a160)] [(.int ((p1).toInt8.toInt32)), (.int (0 : Int32)), (.ref a160)]))
        obtain ⟨c162, Ar162, q162, S162, M162, H162, G162⟩ := (id V160)
        obtain ⟨T162, h162, X162, e162, W162, st162⟩ := stB X160 hx hZ e160 Ar162 (j := (0 : Int32)) (inb_of S162 ⟨by decide, by decide⟩) (g := (mkF m 99 #[.val (.int p0), .val (.int p1), .val (.int p2), .val (.int p3), .val (.int p4), .val (.int p5), .val (.int (1 : Int32)), .val (.ref aCONFIRMATION), .val (.int (2 : Int32)), .val (.int ((((p0).toUInt32 >>> ((1 : Int32) &&& 31).toUInt32).toInt32) % (3 : Int32))), .val (.ref aFFDHE4096), .val (.int (3 : Int32)), .val (.ref a160)] [(.int ((p1).toInt8.toInt32)), (.int (0 : Int32)), (.ref a160)])) rfl rfl (hb hby at_99)
        rw [own_narb] at W162
        have N162 := Fr.snoc X162 N0 ge160
        have O162 := O160.wr W162 ge160
        have z163 : h0.size ≤ h162.size := Nat.le_trans z161 (Nat.le_of_eq W162.size.symm)
        have V162 : Arv Z h162 a160 k160 .byte (5 : Int32) [(.int ((p1).toInt8.toInt32)), (.int (0 : Int32)), (.int (0 : Int32)), (.int (0 : Int32)), (.int (0 : Int32))] (.int (0 : Int32)) := Arv.set Ar162 q162 S162 M162 H162 G162 (fits_nar_byte _) W162 0 (by decide) (Nat.le_of_ble_eq_true rfl)
        refine own_go st162 ?_
        show OwnGo p e below _ (T162.setTop (mkF m 100 #[.val (.int p0), .val (.int p1), .val (.int p2), .val (.int p3), .val (.int p4), .val (.int p5), .val (.int (1 : Int32)), .val (.ref aCONFIRMATION), .val (.int (2 : Int32)), .val (.int ((((p0).toUInt32 >>> ((1 : Int32) &&& 31).toUInt32).toInt32) % (3 : Int32))), .val (.ref aFFDHE4096), .val (.int (3 : Int32)), .val (.ref a160)] []))
        refine own_go (fun _ k => XS.aload X162.here hx rfl (hb hby at_100) rfl rfl k) ?_
        show OwnGo p e below _ (T162.setTop (mkF m 102 #[.val (.int p0), .val (.int p1), .val (.int p2), .val (.int p3), .val (.int p4), .val (.int p5), .val (.int (1 : Int32)), .val (.ref aCONFIRMATION), .val (.int (2 : Int32)), .val (.int ((((p0).toUInt32 >>> ((1 : Int32) &&& 31).toUInt32).toInt32) % (3 : Int32))), .val (.ref aFFDHE4096), .val (.int (3 : Int32)), .val (.ref a160)] [(.ref a160)]))
        refine own_go (fun _ k => XS.iconst X162.here hx rfl (hb hby at_102) k) ?_
        show OwnGo p e below _ (T162.setTop (mkF m 103 #[.val (.int p0), .val (.int p1), .val (.int p2), .val (.int p3), .val (.int p4), .val (.int p5), .val (.int (1 : Int32)), .val (.ref aCONFIRMATION), .val (.int (2 : Int32)), .val (.int ((((p0).toUInt32 >>> ((1 : Int32) &&& 31).toUInt32).toInt32) % (3 : Int32))), .val (.ref aFFDHE4096), .val (.int (3 : Int32)), .val (.ref a160)] [(.int (1 : Int32)), (.ref a160)]))
        refine own_go (fun _ k => XS.iloadN X162.here hx rfl (hb hby at_103) rfl k) ?_
        show OwnGo p e below _ (T162.setTop (mkF m 104 #[.val (.int p0), .val (.int p1), .val (.int p2), .val (.int p3), .val (.int p4), .val (.int p5), .val (.int (1 : Int32)), .val (.ref aCONFIRMATION), .val (.int (2 : Int32)), .val (.int ((((p0).toUInt32 >>> ((1 : Int32) &&& 31).toUInt32).toInt32) % (3 : Int32))), .val (.ref aFFDHE4096), .val (.int (3 : Int32)), .val (.ref a160)] [(.int p2), (.int (1 : Int32)), (.ref a160)]))
        refine own_go (fun _ k => XS.i2b X162.here hx rfl (hb hby at_104) rfl k) ?_
        show OwnGo p e below _ (T162.setTop (mkF m 105 #[.val (.int p0), .val (.int p1), .val (.int p2), .val (.int p3), .val (.int p4), .val (.int p5), .val (.int (1 : Int32)), .val (.ref aCONFIRMATION), .val (.int (2 : Int32)), .val (.int ((((p0).toUInt32 >>> ((1 : Int32) &&& 31).toUInt32).toInt32) % (3 : Int32))), .val (.ref aFFDHE4096), .val (.int (3 : Int32)), .val (.ref a160)] [(.int ((p2).toInt8.toInt32)), (.int (1 : Int32)), (.ref a160)]))
        obtain ⟨c164, Ar164, q164, S164, M164, H164, G164⟩ := (id V162)
        obtain ⟨T164, h164, X164, e164, W164, st164⟩ := stB X162 hx hZ e162 Ar164 (j := (1 : Int32)) (inb_of S164 ⟨by decide, by decide⟩) (g := (mkF m 105 #[.val (.int p0), .val (.int p1), .val (.int p2), .val (.int p3), .val (.int p4), .val (.int p5), .val (.int (1 : Int32)), .val (.ref aCONFIRMATION), .val (.int (2 : Int32)), .val (.int ((((p0).toUInt32 >>> ((1 : Int32) &&& 31).toUInt32).toInt32) % (3 : Int32))), .val (.ref aFFDHE4096), .val (.int (3 : Int32)), .val (.ref a160)] [(.int ((p2).toInt8.toInt32)), (.int (1 : Int32)), (.ref a160)])) rfl rfl (hb hby at_105)
        rw [own_narb] at W164
        have N164 := Fr.snoc X164 N162 ge160
        have O164 := O162.wr W164 ge160
        have z165 : h0.size ≤ h164.size := Nat.le_trans z163 (Nat.le_of_eq W164.size.symm)
        have V164 : Arv Z h164 a160 k160 .byte (5 : Int32) [(.int ((p1).toInt8.toInt32)), (.int ((p2).toInt8.toInt32)), (.int (0 : Int32)), (.int (0 : Int32)), (.int (0 : Int32))] (.int (0 : Int32)) := Arv.set Ar164 q164 S164 M164 H164 G164 (fits_nar_byte _) W164 1 (by decide) (Nat.le_of_ble_eq_true rfl)
        refine own_go st164 ?_
        show OwnGo p e below _ (T164.setTop (mkF m 106 #[.val (.int p0), .val (.int p1), .val (.int p2), .val (.int p3), .val (.int p4), .val (.int p5), .val (.int (1 : Int32)), .val (.ref aCONFIRMATION), .val (.int (2 : Int32)), .val (.int ((((p0).toUInt32 >>> ((1 : Int32) &&& 31).toUInt32).toInt32) % (3 : Int32))), .val (.ref aFFDHE4096), .val (.int (3 : Int32)), .val (.ref a160)] []))
        refine own_go (fun _ k => XS.aload X164.here hx rfl (hb hby at_106) rfl rfl k) ?_
        show OwnGo p e below _ (T164.setTop (mkF m 108 #[.val (.int p0), .val (.int p1), .val (.int p2), .val (.int p3), .val (.int p4), .val (.int p5), .val (.int (1 : Int32)), .val (.ref aCONFIRMATION), .val (.int (2 : Int32)), .val (.int ((((p0).toUInt32 >>> ((1 : Int32) &&& 31).toUInt32).toInt32) % (3 : Int32))), .val (.ref aFFDHE4096), .val (.int (3 : Int32)), .val (.ref a160)] [(.ref a160)]))
        refine own_go (fun _ k => XS.iconst X164.here hx rfl (hb hby at_108) k) ?_
        show OwnGo p e below _ (T164.setTop (mkF m 109 #[.val (.int p0), .val (.int p1), .val (.int p2), .val (.int p3), .val (.int p4), .val (.int p5), .val (.int (1 : Int32)), .val (.ref aCONFIRMATION), .val (.int (2 : Int32)), .val (.int ((((p0).toUInt32 >>> ((1 : Int32) &&& 31).toUInt32).toInt32) % (3 : Int32))), .val (.ref aFFDHE4096), .val (.int (3 : Int32)), .val (.ref a160)] [(.int (2 : Int32)), (.ref a160)]))
        refine own_go (fun _ k => XS.iloadN X164.here hx rfl (hb hby at_109) rfl k) ?_
        show OwnGo p e below _ (T164.setTop (mkF m 110 #[.val (.int p0), .val (.int p1), .val (.int p2), .val (.int p3), .val (.int p4), .val (.int p5), .val (.int (1 : Int32)), .val (.ref aCONFIRMATION), .val (.int (2 : Int32)), .val (.int ((((p0).toUInt32 >>> ((1 : Int32) &&& 31).toUInt32).toInt32) % (3 : Int32))), .val (.ref aFFDHE4096), .val (.int (3 : Int32)), .val (.ref a160)] [(.int p3), (.int (2 : Int32)), (.ref a160)]))
        refine own_go (fun _ k => XS.i2b X164.here hx rfl (hb hby at_110) rfl k) ?_
        show OwnGo p e below _ (T164.setTop (mkF m 111 #[.val (.int p0), .val (.int p1), .val (.int p2), .val (.int p3), .val (.int p4), .val (.int p5), .val (.int (1 : Int32)), .val (.ref aCONFIRMATION), .val (.int (2 : Int32)), .val (.int ((((p0).toUInt32 >>> ((1 : Int32) &&& 31).toUInt32).toInt32) % (3 : Int32))), .val (.ref aFFDHE4096), .val (.int (3 : Int32)), .val (.ref a160)] [(.int ((p3).toInt8.toInt32)), (.int (2 : Int32)), (.ref a160)]))
        obtain ⟨c166, Ar166, q166, S166, M166, H166, G166⟩ := (id V164)
        obtain ⟨T166, h166, X166, e166, W166, st166⟩ := stB X164 hx hZ e164 Ar166 (j := (2 : Int32)) (inb_of S166 ⟨by decide, by decide⟩) (g := (mkF m 111 #[.val (.int p0), .val (.int p1), .val (.int p2), .val (.int p3), .val (.int p4), .val (.int p5), .val (.int (1 : Int32)), .val (.ref aCONFIRMATION), .val (.int (2 : Int32)), .val (.int ((((p0).toUInt32 >>> ((1 : Int32) &&& 31).toUInt32).toInt32) % (3 : Int32))), .val (.ref aFFDHE4096), .val (.int (3 : Int32)), .val (.ref a160)] [(.int ((p3).toInt8.toInt32)), (.int (2 : Int32)), (.ref a160)])) rfl rfl (hb hby at_111)
        rw [own_narb] at W166
        have N166 := Fr.snoc X166 N164 ge160
        have O166 := O164.wr W166 ge160
        have z167 : h0.size ≤ h166.size := Nat.le_trans z165 (Nat.le_of_eq W166.size.symm)
        have V166 : Arv Z h166 a160 k160 .byte (5 : Int32) [(.int ((p1).toInt8.toInt32)), (.int ((p2).toInt8.toInt32)), (.int ((p3).toInt8.toInt32)), (.int (0 : Int32)), (.int (0 : Int32))] (.int (0 : Int32)) := Arv.set Ar166 q166 S166 M166 H166 G166 (fits_nar_byte _) W166 2 (by decide) (Nat.le_of_ble_eq_true rfl)
        refine own_go st166 ?_
        show OwnGo p e below _ (T166.setTop (mkF m 112 #[.val (.int p0), .val (.int p1), .val (.int p2), .val (.int p3), .val (.int p4), .val (.int p5), .val (.int (1 : Int32)), .val (.ref aCONFIRMATION), .val (.int (2 : Int32)), .val (.int ((((p0).toUInt32 >>> ((1 : Int32) &&& 31).toUInt32).toInt32) % (3 : Int32))), .val (.ref aFFDHE4096), .val (.int (3 : Int32)), .val (.ref a160)] []))
        refine own_go (fun _ k => XS.aload X166.here hx rfl (hb hby at_112) rfl rfl k) ?_
        show OwnGo p e below _ (T166.setTop (mkF m 114 #[.val (.int p0), .val (.int p1), .val (.int p2), .val (.int p3), .val (.int p4), .val (.int p5), .val (.int (1 : Int32)), .val (.ref aCONFIRMATION), .val (.int (2 : Int32)), .val (.int ((((p0).toUInt32 >>> ((1 : Int32) &&& 31).toUInt32).toInt32) % (3 : Int32))), .val (.ref aFFDHE4096), .val (.int (3 : Int32)), .val (.ref a160)] [(.ref a160)]))
        refine own_go (fun _ k => XS.iconst X166.here hx rfl (hb hby at_114) k) ?_
        show OwnGo p e below _ (T166.setTop (mkF m 115 #[.val (.int p0), .val (.int p1), .val (.int p2), .val (.int p3), .val (.int p4), .val (.int p5), .val (.int (1 : Int32)), .val (.ref aCONFIRMATION), .val (.int (2 : Int32)), .val (.int ((((p0).toUInt32 >>> ((1 : Int32) &&& 31).toUInt32).toInt32) % (3 : Int32))), .val (.ref aFFDHE4096), .val (.int (3 : Int32)), .val (.ref a160)] [(.int (3 : Int32)), (.ref a160)]))
        refine own_go (fun _ k => XS.iload X166.here hx rfl (hb hby at_115) rfl k) ?_
        show OwnGo p e below _ (T166.setTop (mkF m 117 #[.val (.int p0), .val (.int p1), .val (.int p2), .val (.int p3), .val (.int p4), .val (.int p5), .val (.int (1 : Int32)), .val (.ref aCONFIRMATION), .val (.int (2 : Int32)), .val (.int ((((p0).toUInt32 >>> ((1 : Int32) &&& 31).toUInt32).toInt32) % (3 : Int32))), .val (.ref aFFDHE4096), .val (.int (3 : Int32)), .val (.ref a160)] [(.int p4), (.int (3 : Int32)), (.ref a160)]))
        refine own_go (fun _ k => XS.i2b X166.here hx rfl (hb hby at_117) rfl k) ?_
        show OwnGo p e below _ (T166.setTop (mkF m 118 #[.val (.int p0), .val (.int p1), .val (.int p2), .val (.int p3), .val (.int p4), .val (.int p5), .val (.int (1 : Int32)), .val (.ref aCONFIRMATION), .val (.int (2 : Int32)), .val (.int ((((p0).toUInt32 >>> ((1 : Int32) &&& 31).toUInt32).toInt32) % (3 : Int32))), .val (.ref aFFDHE4096), .val (.int (3 : Int32)), .val (.ref a160)] [(.int ((p4).toInt8.toInt32)), (.int (3 : Int32)), (.ref a160)]))
        obtain ⟨c168, Ar168, q168, S168, M168, H168, G168⟩ := (id V166)
        obtain ⟨T168, h168, X168, e168, W168, st168⟩ := stB X166 hx hZ e166 Ar168 (j := (3 : Int32)) (inb_of S168 ⟨by decide, by decide⟩) (g := (mkF m 118 #[.val (.int p0), .val (.int p1), .val (.int p2), .val (.int p3), .val (.int p4), .val (.int p5), .val (.int (1 : Int32)), .val (.ref aCONFIRMATION), .val (.int (2 : Int32)), .val (.int ((((p0).toUInt32 >>> ((1 : Int32) &&& 31).toUInt32).toInt32) % (3 : Int32))), .val (.ref aFFDHE4096), .val (.int (3 : Int32)), .val (.ref a160)] [(.int ((p4).toInt8.toInt32)), (.int (3 : Int32)), (.ref a160)])) rfl rfl (hb hby at_118)
        rw [own_narb] at W168
        have N168 := Fr.snoc X168 N166 ge160
        have O168 := O166.wr W168 ge160
        have z169 : h0.size ≤ h168.size := Nat.le_trans z167 (Nat.le_of_eq W168.size.symm)
        have V168 : Arv Z h168 a160 k160 .byte (5 : Int32) [(.int ((p1).toInt8.toInt32)), (.int ((p2).toInt8.toInt32)), (.int ((p3).toInt8.toInt32)), (.int ((p4).toInt8.toInt32)), (.int (0 : Int32))] (.int (0 : Int32)) := Arv.set Ar168 q168 S168 M168 H168 G168 (fits_nar_byte _) W168 3 (by decide) (Nat.le_of_ble_eq_true rfl)
        refine own_go st168 ?_
        show OwnGo p e below _ (T168.setTop (mkF m 119 #[.val (.int p0), .val (.int p1), .val (.int p2), .val (.int p3), .val (.int p4), .val (.int p5), .val (.int (1 : Int32)), .val (.ref aCONFIRMATION), .val (.int (2 : Int32)), .val (.int ((((p0).toUInt32 >>> ((1 : Int32) &&& 31).toUInt32).toInt32) % (3 : Int32))), .val (.ref aFFDHE4096), .val (.int (3 : Int32)), .val (.ref a160)] []))
        refine own_go (fun _ k => XS.aload X168.here hx rfl (hb hby at_119) rfl rfl k) ?_
        show OwnGo p e below _ (T168.setTop (mkF m 121 #[.val (.int p0), .val (.int p1), .val (.int p2), .val (.int p3), .val (.int p4), .val (.int p5), .val (.int (1 : Int32)), .val (.ref aCONFIRMATION), .val (.int (2 : Int32)), .val (.int ((((p0).toUInt32 >>> ((1 : Int32) &&& 31).toUInt32).toInt32) % (3 : Int32))), .val (.ref aFFDHE4096), .val (.int (3 : Int32)), .val (.ref a160)] [(.ref a160)]))
        refine own_go (fun _ k => XS.iconst X168.here hx rfl (hb hby at_121) k) ?_
        show OwnGo p e below _ (T168.setTop (mkF m 122 #[.val (.int p0), .val (.int p1), .val (.int p2), .val (.int p3), .val (.int p4), .val (.int p5), .val (.int (1 : Int32)), .val (.ref aCONFIRMATION), .val (.int (2 : Int32)), .val (.int ((((p0).toUInt32 >>> ((1 : Int32) &&& 31).toUInt32).toInt32) % (3 : Int32))), .val (.ref aFFDHE4096), .val (.int (3 : Int32)), .val (.ref a160)] [(.int (4 : Int32)), (.ref a160)]))
        refine own_go (fun _ k => XS.iload X168.here hx rfl (hb hby at_122) rfl k) ?_
        show OwnGo p e below _ (T168.setTop (mkF m 124 #[.val (.int p0), .val (.int p1), .val (.int p2), .val (.int p3), .val (.int p4), .val (.int p5), .val (.int (1 : Int32)), .val (.ref aCONFIRMATION), .val (.int (2 : Int32)), .val (.int ((((p0).toUInt32 >>> ((1 : Int32) &&& 31).toUInt32).toInt32) % (3 : Int32))), .val (.ref aFFDHE4096), .val (.int (3 : Int32)), .val (.ref a160)] [(.int p5), (.int (4 : Int32)), (.ref a160)]))
        refine own_go (fun _ k => XS.i2b X168.here hx rfl (hb hby at_124) rfl k) ?_
        show OwnGo p e below _ (T168.setTop (mkF m 125 #[.val (.int p0), .val (.int p1), .val (.int p2), .val (.int p3), .val (.int p4), .val (.int p5), .val (.int (1 : Int32)), .val (.ref aCONFIRMATION), .val (.int (2 : Int32)), .val (.int ((((p0).toUInt32 >>> ((1 : Int32) &&& 31).toUInt32).toInt32) % (3 : Int32))), .val (.ref aFFDHE4096), .val (.int (3 : Int32)), .val (.ref a160)] [(.int ((p5).toInt8.toInt32)), (.int (4 : Int32)), (.ref a160)]))
        obtain ⟨c170, Ar170, q170, S170, M170, H170, G170⟩ := (id V168)
        obtain ⟨T170, h170, X170, e170, W170, st170⟩ := stB X168 hx hZ e168 Ar170 (j := (4 : Int32)) (inb_of S170 ⟨by decide, by decide⟩) (g := (mkF m 125 #[.val (.int p0), .val (.int p1), .val (.int p2), .val (.int p3), .val (.int p4), .val (.int p5), .val (.int (1 : Int32)), .val (.ref aCONFIRMATION), .val (.int (2 : Int32)), .val (.int ((((p0).toUInt32 >>> ((1 : Int32) &&& 31).toUInt32).toInt32) % (3 : Int32))), .val (.ref aFFDHE4096), .val (.int (3 : Int32)), .val (.ref a160)] [(.int ((p5).toInt8.toInt32)), (.int (4 : Int32)), (.ref a160)])) rfl rfl (hb hby at_125)
        rw [own_narb] at W170
        have N170 := Fr.snoc X170 N168 ge160
        have O170 := O168.wr W170 ge160
        have z171 : h0.size ≤ h170.size := Nat.le_trans z169 (Nat.le_of_eq W170.size.symm)
        have V170 : Arv Z h170 a160 k160 .byte (5 : Int32) [(.int ((p1).toInt8.toInt32)), (.int ((p2).toInt8.toInt32)), (.int ((p3).toInt8.toInt32)), (.int ((p4).toInt8.toInt32)), (.int ((p5).toInt8.toInt32))] (.int (0 : Int32)) := Arv.set Ar170 q170 S170 M170 H170 G170 (fits_nar_byte _) W170 4 (by decide) (Nat.le_of_ble_eq_true rfl)
        refine own_go st170 ?_
        show OwnGo p e below _ (T170.setTop (mkF m 126 #[.val (.int p0), .val (.int p1), .val (.int p2), .val (.int p3), .val (.int p4), .val (.int p5), .val (.int (1 : Int32)), .val (.ref aCONFIRMATION), .val (.int (2 : Int32)), .val (.int ((((p0).toUInt32 >>> ((1 : Int32) &&& 31).toUInt32).toInt32) % (3 : Int32))), .val (.ref aFFDHE4096), .val (.int (3 : Int32)), .val (.ref a160)] []))
        refine own_go (fun _ k => XS.aload X170.here hx rfl (hb hby at_126) rfl rfl k) ?_
        show OwnGo p e below _ (T170.setTop (mkF m 128 #[.val (.int p0), .val (.int p1), .val (.int p2), .val (.int p3), .val (.int p4), .val (.int p5), .val (.int (1 : Int32)), .val (.ref aCONFIRMATION), .val (.int (2 : Int32)), .val (.int ((((p0).toUInt32 >>> ((1 : Int32) &&& 31).toUInt32).toInt32) % (3 : Int32))), .val (.ref aFFDHE4096), .val (.int (3 : Int32)), .val (.ref a160)] [(.ref aCONFIRMATION)]))
        refine own_go (fun _ k => XS.aload X170.here hx rfl (hb hby at_128) rfl rfl k) ?_
        show OwnGo p e below _ (T170.setTop (mkF m 130 #[.val (.int p0), .val (.int p1), .val (.int p2), .val (.int p3), .val (.int p4), .val (.int p5), .val (.int (1 : Int32)), .val (.ref aCONFIRMATION), .val (.int (2 : Int32)), .val (.int ((((p0).toUInt32 >>> ((1 : Int32) &&& 31).toUInt32).toInt32) % (3 : Int32))), .val (.ref aFFDHE4096), .val (.int (3 : Int32)), .val (.ref a160)] [(.ref a160), (.ref aCONFIRMATION)]))
        refine own_go (fun _ k => XS.aload X170.here hx rfl (hb hby at_130) rfl rfl k) ?_
        show OwnGo p e below _ (T170.setTop (mkF m 132 #[.val (.int p0), .val (.int p1), .val (.int p2), .val (.int p3), .val (.int p4), .val (.int p5), .val (.int (1 : Int32)), .val (.ref aCONFIRMATION), .val (.int (2 : Int32)), .val (.int ((((p0).toUInt32 >>> ((1 : Int32) &&& 31).toUInt32).toInt32) % (3 : Int32))), .val (.ref aFFDHE4096), .val (.int (3 : Int32)), .val (.ref a160)] [(.ref aFFDHE4096), (.ref a160), (.ref aCONFIRMATION)]))
        obtain ⟨cq172, kq172, qa172, qb172, qc172⟩ := isOf hZ e170 (F0.2.2.2.2.2.2.2.2.2.2.1.ext O170.2)
        obtain ⟨_, _, ⟨T172, L172, k172, n172⟩, -, X172, ⟨Lc172, hQ172, l172, y172, z172⟩, st172⟩ := X170.virtualBack hx (y := (⟨"com/example/portcullis/portcullis/MessageType", "writeHeader", "([BLcom/example/portcullis/portcullis/Group;)V"⟩ : MethodName)) (z := (⟨"com/example/portcullis/portcullis/MessageType", "writeHeader", "([BLcom/example/portcullis/portcullis/Group;)V"⟩ : MethodName)) hown (mvT hZ (hw _ (List.mem_of_getElem? (i := 7) rfl))) (mvT hZ (hw _ (List.mem_of_getElem? (i := 8) rfl))) (notFace_of_selects (args := #[]) (mvT hZ (hw _ (List.mem_of_getElem? (i := 10) rfl)))) (mvT hZ (hw _ (List.mem_of_getElem? (i := 10) rfl))) (mvT hZ (hw _ (List.mem_of_getElem? (i := 9) rfl))) (by decide) (backOf (W := 0) (rm_wr_aCONFIRMATION_aFFDHE4096 l Z a0 hw [] aKEY_SHARE aFFDHE2048 aFFDHE4096 aCONFIRMATION aFFDHE3072 F0 a160 k160 ((p1).toInt8.toInt32) ((p2).toInt8.toInt32) ((p3).toInt8.toInt32) ((p4).toInt8.toInt32) ((p5).toInt8.toInt32) h170 n0 O170 V170 ge160) hZ (hw _ (List.mem_of_getElem? (i := 11) rfl)) (hw _ (List.mem_of_getElem? (i := 1) rfl)) (by decide) (by decide)) qa172 qc172 (g := (mkF m 132 #[.val (.int p0), .val (.int p1), .val (.int p2), .val (.int p3), .val (.int p4), .val (.int p5), .val (.int (1 : Int32)), .val (.ref aCONFIRMATION), .val (.int (2 : Int32)), .val (.int ((((p0).toUInt32 >>> ((1 : Int32) &&& 31).toUInt32).toInt32) % (3 : Int32))), .val (.ref aFFDHE4096), .val (.int (3 : Int32)), .val (.ref a160)] [(.ref aFFDHE4096), (.ref a160), (.ref aCONFIRMATION)])) rfl (by rw [hml]; rfl) (Steps.refl _) (argsL := [(.ref a160), (.ref aFFDHE4096)]) (rest := []) (lenOf pd__B_Lcom_example_portcullis_portcullis_Group___V rfl) rfl (by show 2 * 0 + _ ≤ _; exact Nat.le_of_eq rfl) (hb hby at_132) (fun _ _ => ⟨rfl, e170, (by decide : 1 + 0 ≤ _), (by decide : 5 + 0 ≤ _)⟩)
        dsimp only [Pt.U, Pt.locs, Pt.cells, Pt.slots] at X172 l172 y172 z172 st172 hQ172
        subst l172 y172 z172
        obtain ⟨rfl, Nq172, K172, x172_0⟩ := hQ172
        have N172 := Fr.app N170 Nq172
        have O172 := O170.keep K172 (allS ge160 all0)
        have e172 : T172.heap = T172.heap := rfl
        have z173 : h0.size ≤ T172.heap.size := Nat.le_trans z171 K172.1
        refine own_go (fun _ k => st172.trans k) ?_
        show OwnGo p e below _ (T172.setTop (mkF m 135 #[.val (.int p0), .val (.int p1), .val (.int p2), .val (.int p3), .val (.int p4), .val (.int p5), .val (.int (1 : Int32)), .val (.ref aCONFIRMATION), .val (.int (2 : Int32)), .val (.int ((((p0).toUInt32 >>> ((1 : Int32) &&& 31).toUInt32).toInt32) % (3 : Int32))), .val (.ref aFFDHE4096), .val (.int (3 : Int32)), .val (.ref a160)] []))
        refine own_go (fun _ k => XS.aload X172.here hx rfl (hb hby at_135) rfl rfl k) ?_
        show OwnGo p e below _ (T172.setTop (mkF m 137 #[.val (.int p0), .val (.int p1), .val (.int p2), .val (.int p3), .val (.int p4), .val (.int p5), .val (.int (1 : Int32)), .val (.ref aCONFIRMATION), .val (.int (2 : Int32)), .val (.int ((((p0).toUInt32 >>> ((1 : Int32) &&& 31).toUInt32).toInt32) % (3 : Int32))), .val (.ref aFFDHE4096), .val (.int (3 : Int32)), .val (.ref a160)] [(.ref a160)]))
        refine own_go (fun _ k => XS.iconst X172.here hx rfl (hb hby at_137) k) ?_
        show OwnGo p e below _ (T172.setTop (mkF m 138 #[.val (.int p0), .val (.int p1), .val (.int p2), .val (.int p3), .val (.int p4), .val (.int p5), .val (.int (1 : Int32)), .val (.ref aCONFIRMATION), .val (.int (2 : Int32)), .val (.int ((((p0).toUInt32 >>> ((1 : Int32) &&& 31).toUInt32).toInt32) % (3 : Int32))), .val (.ref aFFDHE4096), .val (.int (3 : Int32)), .val (.ref a160)] [(.int (0 : Int32)), (.ref a160)]))
        obtain ⟨c174, Ar174, q174, S174, M174, H174, G174⟩ := (id x172_0)
        refine own_go (fun _ k => X172.baloadBytes hx (j := (0 : Int32)) (v := (.int (1 : Int32))) (by rw [e172]; exact Ar174.1) (State.isArrayOf_alike hZ.alike Ar174.2.1) Ar174.2.2 (inb_of S174 ⟨by decide, by decide⟩) (Has.at H174 (inb_of S174 ⟨by decide, by decide⟩) rfl) (g := (mkF m 138 #[.val (.int p0), .val (.int p1), .val (.int p2), .val (.int p3), .val (.int p4), .val (.int p5), .val (.int (1 : Int32)), .val (.ref aCONFIRMATION), .val (.int (2 : Int32)), .val (.int ((((p0).toUInt32 >>> ((1 : Int32) &&& 31).toUInt32).toInt32) % (3 : Int32))), .val (.ref aFFDHE4096), .val (.int (3 : Int32)), .val (.ref a160)] [(.int (0 : Int32)), (.ref a160)])) rfl rfl (hb hby at_138) _ k) ?_
        show OwnGo p e below _ (T172.setTop (mkF m 139 #[.val (.int p0), .val (.int p1), .val (.int p2), .val (.int p3), .val (.int p4), .val (.int p5), .val (.int (1 : Int32)), .val (.ref aCONFIRMATION), .val (.int (2 : Int32)), .val (.int ((((p0).toUInt32 >>> ((1 : Int32) &&& 31).toUInt32).toInt32) % (3 : Int32))), .val (.ref aFFDHE4096), .val (.int (3 : Int32)), .val (.ref a160)] [(.int (1 : Int32))]))
        refine own_go (fun _ k => XS.iconst X172.here hx rfl (hb hby at_139) k) ?_
        show OwnGo p e below _ (T172.setTop (mkF m 140 #[.val (.int p0), .val (.int p1), .val (.int p2), .val (.int p3), .val (.int p4), .val (.int p5), .val (.int (1 : Int32)), .val (.ref aCONFIRMATION), .val (.int (2 : Int32)), .val (.int ((((p0).toUInt32 >>> ((1 : Int32) &&& 31).toUInt32).toInt32) % (3 : Int32))), .val (.ref aFFDHE4096), .val (.int (3 : Int32)), .val (.ref a160)] [(.int (1 : Int32)), (.int (1 : Int32))]))
        refine own_go (fun _ k => XS.icmpNo X172.here hx rfl (hb hby at_140) rfl (by decide) k) ?_
        show OwnGo p e below _ (T172.setTop (mkF m 143 #[.val (.int p0), .val (.int p1), .val (.int p2), .val (.int p3), .val (.int p4), .val (.int p5), .val (.int (1 : Int32)), .val (.ref aCONFIRMATION), .val (.int (2 : Int32)), .val (.int ((((p0).toUInt32 >>> ((1 : Int32) &&& 31).toUInt32).toInt32) % (3 : Int32))), .val (.ref aFFDHE4096), .val (.int (3 : Int32)), .val (.ref a160)] []))
        refine own_go (fun _ k => XS.aload X172.here hx rfl (hb hby at_143) rfl rfl k) ?_
        show OwnGo p e below _ (T172.setTop (mkF m 145 #[.val (.int p0), .val (.int p1), .val (.int p2), .val (.int p3), .val (.int p4), .val (.int p5), .val (.int (1 : Int32)), .val (.ref aCONFIRMATION), .val (.int (2 : Int32)), .val (.int ((((p0).toUInt32 >>> ((1 : Int32) &&& 31).toUInt32).toInt32) % (3 : Int32))), .val (.ref aFFDHE4096), .val (.int (3 : Int32)), .val (.ref a160)] [(.ref a160)]))
        refine own_go (fun _ k => XS.iconst X172.here hx rfl (hb hby at_145) k) ?_
        show OwnGo p e below _ (T172.setTop (mkF m 146 #[.val (.int p0), .val (.int p1), .val (.int p2), .val (.int p3), .val (.int p4), .val (.int p5), .val (.int (1 : Int32)), .val (.ref aCONFIRMATION), .val (.int (2 : Int32)), .val (.int ((((p0).toUInt32 >>> ((1 : Int32) &&& 31).toUInt32).toInt32) % (3 : Int32))), .val (.ref aFFDHE4096), .val (.int (3 : Int32)), .val (.ref a160)] [(.int (1 : Int32)), (.ref a160)]))
        obtain ⟨c175, Ar175, q175, S175, M175, H175, G175⟩ := (id x172_0)
        refine own_go (fun _ k => X172.baloadBytes hx (j := (1 : Int32)) (v := (.int (2 : Int32))) (by rw [e172]; exact Ar175.1) (State.isArrayOf_alike hZ.alike Ar175.2.1) Ar175.2.2 (inb_of S175 ⟨by decide, by decide⟩) (Has.at H175 (inb_of S175 ⟨by decide, by decide⟩) rfl) (g := (mkF m 146 #[.val (.int p0), .val (.int p1), .val (.int p2), .val (.int p3), .val (.int p4), .val (.int p5), .val (.int (1 : Int32)), .val (.ref aCONFIRMATION), .val (.int (2 : Int32)), .val (.int ((((p0).toUInt32 >>> ((1 : Int32) &&& 31).toUInt32).toInt32) % (3 : Int32))), .val (.ref aFFDHE4096), .val (.int (3 : Int32)), .val (.ref a160)] [(.int (1 : Int32)), (.ref a160)])) rfl rfl (hb hby at_146) _ k) ?_
        show OwnGo p e below _ (T172.setTop (mkF m 147 #[.val (.int p0), .val (.int p1), .val (.int p2), .val (.int p3), .val (.int p4), .val (.int p5), .val (.int (1 : Int32)), .val (.ref aCONFIRMATION), .val (.int (2 : Int32)), .val (.int ((((p0).toUInt32 >>> ((1 : Int32) &&& 31).toUInt32).toInt32) % (3 : Int32))), .val (.ref aFFDHE4096), .val (.int (3 : Int32)), .val (.ref a160)] [(.int (2 : Int32))]))
        refine own_go (fun _ k => XS.iload X172.here hx rfl (hb hby at_147) rfl k) ?_
        show OwnGo p e below _ (T172.setTop (mkF m 149 #[.val (.int p0), .val (.int p1), .val (.int p2), .val (.int p3), .val (.int p4), .val (.int p5), .val (.int (1 : Int32)), .val (.ref aCONFIRMATION), .val (.int (2 : Int32)), .val (.int ((((p0).toUInt32 >>> ((1 : Int32) &&& 31).toUInt32).toInt32) % (3 : Int32))), .val (.ref aFFDHE4096), .val (.int (3 : Int32)), .val (.ref a160)] [(.int (2 : Int32)), (.int (2 : Int32))]))
        refine own_go (fun _ k => XS.icmpNo X172.here hx rfl (hb hby at_149) rfl (by decide) k) ?_
        show OwnGo p e below _ (T172.setTop (mkF m 152 #[.val (.int p0), .val (.int p1), .val (.int p2), .val (.int p3), .val (.int p4), .val (.int p5), .val (.int (1 : Int32)), .val (.ref aCONFIRMATION), .val (.int (2 : Int32)), .val (.int ((((p0).toUInt32 >>> ((1 : Int32) &&& 31).toUInt32).toInt32) % (3 : Int32))), .val (.ref aFFDHE4096), .val (.int (3 : Int32)), .val (.ref a160)] []))
        refine own_go (fun _ k => XS.aload X172.here hx rfl (hb hby at_152) rfl rfl k) ?_
        show OwnGo p e below _ (T172.setTop (mkF m 154 #[.val (.int p0), .val (.int p1), .val (.int p2), .val (.int p3), .val (.int p4), .val (.int p5), .val (.int (1 : Int32)), .val (.ref aCONFIRMATION), .val (.int (2 : Int32)), .val (.int ((((p0).toUInt32 >>> ((1 : Int32) &&& 31).toUInt32).toInt32) % (3 : Int32))), .val (.ref aFFDHE4096), .val (.int (3 : Int32)), .val (.ref a160)] [(.ref a160)]))
        refine own_go (fun _ k => XS.iconst X172.here hx rfl (hb hby at_154) k) ?_
        show OwnGo p e below _ (T172.setTop (mkF m 155 #[.val (.int p0), .val (.int p1), .val (.int p2), .val (.int p3), .val (.int p4), .val (.int p5), .val (.int (1 : Int32)), .val (.ref aCONFIRMATION), .val (.int (2 : Int32)), .val (.int ((((p0).toUInt32 >>> ((1 : Int32) &&& 31).toUInt32).toInt32) % (3 : Int32))), .val (.ref aFFDHE4096), .val (.int (3 : Int32)), .val (.ref a160)] [(.int (2 : Int32)), (.ref a160)]))
        obtain ⟨c176, Ar176, q176, S176, M176, H176, G176⟩ := (id x172_0)
        refine own_go (fun _ k => X172.baloadBytes hx (j := (2 : Int32)) (v := (.int (3 : Int32))) (by rw [e172]; exact Ar176.1) (State.isArrayOf_alike hZ.alike Ar176.2.1) Ar176.2.2 (inb_of S176 ⟨by decide, by decide⟩) (Has.at H176 (inb_of S176 ⟨by decide, by decide⟩) rfl) (g := (mkF m 155 #[.val (.int p0), .val (.int p1), .val (.int p2), .val (.int p3), .val (.int p4), .val (.int p5), .val (.int (1 : Int32)), .val (.ref aCONFIRMATION), .val (.int (2 : Int32)), .val (.int ((((p0).toUInt32 >>> ((1 : Int32) &&& 31).toUInt32).toInt32) % (3 : Int32))), .val (.ref aFFDHE4096), .val (.int (3 : Int32)), .val (.ref a160)] [(.int (2 : Int32)), (.ref a160)])) rfl rfl (hb hby at_155) _ k) ?_
        show OwnGo p e below _ (T172.setTop (mkF m 156 #[.val (.int p0), .val (.int p1), .val (.int p2), .val (.int p3), .val (.int p4), .val (.int p5), .val (.int (1 : Int32)), .val (.ref aCONFIRMATION), .val (.int (2 : Int32)), .val (.int ((((p0).toUInt32 >>> ((1 : Int32) &&& 31).toUInt32).toInt32) % (3 : Int32))), .val (.ref aFFDHE4096), .val (.int (3 : Int32)), .val (.ref a160)] [(.int (3 : Int32))]))
        refine own_go (fun _ k => XS.iload X172.here hx rfl (hb hby at_156) rfl k) ?_
        show OwnGo p e below _ (T172.setTop (mkF m 158 #[.val (.int p0), .val (.int p1), .val (.int p2), .val (.int p3), .val (.int p4), .val (.int p5), .val (.int (1 : Int32)), .val (.ref aCONFIRMATION), .val (.int (2 : Int32)), .val (.int ((((p0).toUInt32 >>> ((1 : Int32) &&& 31).toUInt32).toInt32) % (3 : Int32))), .val (.ref aFFDHE4096), .val (.int (3 : Int32)), .val (.ref a160)] [(.int (3 : Int32)), (.int (3 : Int32))]))
        refine own_go (fun _ k => XS.icmpNo X172.here hx rfl (hb hby at_158) rfl (by decide) k) ?_
        show OwnGo p e below _ (T172.setTop (mkF m 161 #[.val (.int p0), .val (.int p1), .val (.int p2), .val (.int p3), .val (.int p4), .val (.int p5), .val (.int (1 : Int32)), .val (.ref aCONFIRMATION), .val (.int (2 : Int32)), .val (.int ((((p0).toUInt32 >>> ((1 : Int32) &&& 31).toUInt32).toInt32) % (3 : Int32))), .val (.ref aFFDHE4096), .val (.int (3 : Int32)), .val (.ref a160)] []))
        refine own_go (fun _ k => XS.aload X172.here hx rfl (hb hby at_161) rfl rfl k) ?_
        show OwnGo p e below _ (T172.setTop (mkF m 163 #[.val (.int p0), .val (.int p1), .val (.int p2), .val (.int p3), .val (.int p4), .val (.int p5), .val (.int (1 : Int32)), .val (.ref aCONFIRMATION), .val (.int (2 : Int32)), .val (.int ((((p0).toUInt32 >>> ((1 : Int32) &&& 31).toUInt32).toInt32) % (3 : Int32))), .val (.ref aFFDHE4096), .val (.int (3 : Int32)), .val (.ref a160)] [(.ref a160)]))
        refine own_go (fun _ k => XS.iconst X172.here hx rfl (hb hby at_163) k) ?_
        show OwnGo p e below _ (T172.setTop (mkF m 164 #[.val (.int p0), .val (.int p1), .val (.int p2), .val (.int p3), .val (.int p4), .val (.int p5), .val (.int (1 : Int32)), .val (.ref aCONFIRMATION), .val (.int (2 : Int32)), .val (.int ((((p0).toUInt32 >>> ((1 : Int32) &&& 31).toUInt32).toInt32) % (3 : Int32))), .val (.ref aFFDHE4096), .val (.int (3 : Int32)), .val (.ref a160)] [(.int (3 : Int32)), (.ref a160)]))
        obtain ⟨c177, Ar177, q177, S177, M177, H177, G177⟩ := (id x172_0)
        refine own_go (fun _ k => X172.baloadBytes hx (j := (3 : Int32)) (v := (.int ((p4).toInt8.toInt32))) (by rw [e172]; exact Ar177.1) (State.isArrayOf_alike hZ.alike Ar177.2.1) Ar177.2.2 (inb_of S177 ⟨by decide, by decide⟩) (Has.at H177 (inb_of S177 ⟨by decide, by decide⟩) rfl) (g := (mkF m 164 #[.val (.int p0), .val (.int p1), .val (.int p2), .val (.int p3), .val (.int p4), .val (.int p5), .val (.int (1 : Int32)), .val (.ref aCONFIRMATION), .val (.int (2 : Int32)), .val (.int ((((p0).toUInt32 >>> ((1 : Int32) &&& 31).toUInt32).toInt32) % (3 : Int32))), .val (.ref aFFDHE4096), .val (.int (3 : Int32)), .val (.ref a160)] [(.int (3 : Int32)), (.ref a160)])) rfl rfl (hb hby at_164) _ k) ?_
        show OwnGo p e below _ (T172.setTop (mkF m 165 #[.val (.int p0), .val (.int p1), .val (.int p2), .val (.int p3), .val (.int p4), .val (.int p5), .val (.int (1 : Int32)), .val (.ref aCONFIRMATION), .val (.int (2 : Int32)), .val (.int ((((p0).toUInt32 >>> ((1 : Int32) &&& 31).toUInt32).toInt32) % (3 : Int32))), .val (.ref aFFDHE4096), .val (.int (3 : Int32)), .val (.ref a160)] [(.int ((p4).toInt8.toInt32))]))
        refine own_go (fun _ k => XS.iload X172.here hx rfl (hb hby at_165) rfl k) ?_
        show OwnGo p e below _ (T172.setTop (mkF m 167 #[.val (.int p0), .val (.int p1), .val (.int p2), .val (.int p3), .val (.int p4), .val (.int p5), .val (.int (1 : Int32)), .val (.ref aCONFIRMATION), .val (.int (2 : Int32)), .val (.int ((((p0).toUInt32 >>> ((1 : Int32) &&& 31).toUInt32).toInt32) % (3 : Int32))), .val (.ref aFFDHE4096), .val (.int (3 : Int32)), .val (.ref a160)] [(.int p4), (.int ((p4).toInt8.toInt32))]))
        refine own_go (fun _ k => XS.i2b X172.here hx rfl (hb hby at_167) rfl k) ?_
        show OwnGo p e below _ (T172.setTop (mkF m 168 #[.val (.int p0), .val (.int p1), .val (.int p2), .val (.int p3), .val (.int p4), .val (.int p5), .val (.int (1 : Int32)), .val (.ref aCONFIRMATION), .val (.int (2 : Int32)), .val (.int ((((p0).toUInt32 >>> ((1 : Int32) &&& 31).toUInt32).toInt32) % (3 : Int32))), .val (.ref aFFDHE4096), .val (.int (3 : Int32)), .val (.ref a160)] [(.int ((p4).toInt8.toInt32)), (.int ((p4).toInt8.toInt32))]))
        refine own_go (fun _ k => XS.icmpNo X172.here hx rfl (hb hby at_168) rfl (teq rfl).2 k) ?_
        show OwnGo p e below _ (T172.setTop (mkF m 171 #[.val (.int p0), .val (.int p1), .val (.int p2), .val (.int p3), .val (.int p4), .val (.int p5), .val (.int (1 : Int32)), .val (.ref aCONFIRMATION), .val (.int (2 : Int32)), .val (.int ((((p0).toUInt32 >>> ((1 : Int32) &&& 31).toUInt32).toInt32) % (3 : Int32))), .val (.ref aFFDHE4096), .val (.int (3 : Int32)), .val (.ref a160)] []))
        refine own_go (fun _ k => XS.aload X172.here hx rfl (hb hby at_171) rfl rfl k) ?_
        show OwnGo p e below _ (T172.setTop (mkF m 173 #[.val (.int p0), .val (.int p1), .val (.int p2), .val (.int p3), .val (.int p4), .val (.int p5), .val (.int (1 : Int32)), .val (.ref aCONFIRMATION), .val (.int (2 : Int32)), .val (.int ((((p0).toUInt32 >>> ((1 : Int32) &&& 31).toUInt32).toInt32) % (3 : Int32))), .val (.ref aFFDHE4096), .val (.int (3 : Int32)), .val (.ref a160)] [(.ref a160)]))
        refine own_go (fun _ k => XS.iconst X172.here hx rfl (hb hby at_173) k) ?_
        show OwnGo p e below _ (T172.setTop (mkF m 174 #[.val (.int p0), .val (.int p1), .val (.int p2), .val (.int p3), .val (.int p4), .val (.int p5), .val (.int (1 : Int32)), .val (.ref aCONFIRMATION), .val (.int (2 : Int32)), .val (.int ((((p0).toUInt32 >>> ((1 : Int32) &&& 31).toUInt32).toInt32) % (3 : Int32))), .val (.ref aFFDHE4096), .val (.int (3 : Int32)), .val (.ref a160)] [(.int (4 : Int32)), (.ref a160)]))
        obtain ⟨c178, Ar178, q178, S178, M178, H178, G178⟩ := (id x172_0)
        refine own_go (fun _ k => X172.baloadBytes hx (j := (4 : Int32)) (v := (.int ((p5).toInt8.toInt32))) (by rw [e172]; exact Ar178.1) (State.isArrayOf_alike hZ.alike Ar178.2.1) Ar178.2.2 (inb_of S178 ⟨by decide, by decide⟩) (Has.at H178 (inb_of S178 ⟨by decide, by decide⟩) rfl) (g := (mkF m 174 #[.val (.int p0), .val (.int p1), .val (.int p2), .val (.int p3), .val (.int p4), .val (.int p5), .val (.int (1 : Int32)), .val (.ref aCONFIRMATION), .val (.int (2 : Int32)), .val (.int ((((p0).toUInt32 >>> ((1 : Int32) &&& 31).toUInt32).toInt32) % (3 : Int32))), .val (.ref aFFDHE4096), .val (.int (3 : Int32)), .val (.ref a160)] [(.int (4 : Int32)), (.ref a160)])) rfl rfl (hb hby at_174) _ k) ?_
        show OwnGo p e below _ (T172.setTop (mkF m 175 #[.val (.int p0), .val (.int p1), .val (.int p2), .val (.int p3), .val (.int p4), .val (.int p5), .val (.int (1 : Int32)), .val (.ref aCONFIRMATION), .val (.int (2 : Int32)), .val (.int ((((p0).toUInt32 >>> ((1 : Int32) &&& 31).toUInt32).toInt32) % (3 : Int32))), .val (.ref aFFDHE4096), .val (.int (3 : Int32)), .val (.ref a160)] [(.int ((p5).toInt8.toInt32))]))
        refine own_go (fun _ k => XS.iload X172.here hx rfl (hb hby at_175) rfl k) ?_
        show OwnGo p e below _ (T172.setTop (mkF m 177 #[.val (.int p0), .val (.int p1), .val (.int p2), .val (.int p3), .val (.int p4), .val (.int p5), .val (.int (1 : Int32)), .val (.ref aCONFIRMATION), .val (.int (2 : Int32)), .val (.int ((((p0).toUInt32 >>> ((1 : Int32) &&& 31).toUInt32).toInt32) % (3 : Int32))), .val (.ref aFFDHE4096), .val (.int (3 : Int32)), .val (.ref a160)] [(.int p5), (.int ((p5).toInt8.toInt32))]))
        refine own_go (fun _ k => XS.i2b X172.here hx rfl (hb hby at_177) rfl k) ?_
        show OwnGo p e below _ (T172.setTop (mkF m 178 #[.val (.int p0), .val (.int p1), .val (.int p2), .val (.int p3), .val (.int p4), .val (.int p5), .val (.int (1 : Int32)), .val (.ref aCONFIRMATION), .val (.int (2 : Int32)), .val (.int ((((p0).toUInt32 >>> ((1 : Int32) &&& 31).toUInt32).toInt32) % (3 : Int32))), .val (.ref aFFDHE4096), .val (.int (3 : Int32)), .val (.ref a160)] [(.int ((p5).toInt8.toInt32)), (.int ((p5).toInt8.toInt32))]))
        refine own_go (fun _ k => XS.icmpNo X172.here hx rfl (hb hby at_178) rfl (teq rfl).2 k) ?_
        show OwnGo p e below _ (T172.setTop (mkF m 181 #[.val (.int p0), .val (.int p1), .val (.int p2), .val (.int p3), .val (.int p4), .val (.int p5), .val (.int (1 : Int32)), .val (.ref aCONFIRMATION), .val (.int (2 : Int32)), .val (.int ((((p0).toUInt32 >>> ((1 : Int32) &&& 31).toUInt32).toInt32) % (3 : Int32))), .val (.ref aFFDHE4096), .val (.int (3 : Int32)), .val (.ref a160)] []))
        refine own_go (fun _ k => XS.iconst X172.here hx rfl (hb hby at_181) k) ?_
        show OwnGo p e below _ (T172.setTop (mkF m 182 #[.val (.int p0), .val (.int p1), .val (.int p2), .val (.int p3), .val (.int p4), .val (.int p5), .val (.int (1 : Int32)), .val (.ref aCONFIRMATION), .val (.int (2 : Int32)), .val (.int ((((p0).toUInt32 >>> ((1 : Int32) &&& 31).toUInt32).toInt32) % (3 : Int32))), .val (.ref aFFDHE4096), .val (.int (3 : Int32)), .val (.ref a160)] [(.int (1 : Int32))]))
        refine own_go (fun _ k => XS.goto X172.here hx rfl (pc0 := 182) (pc' := 186) rfl (hb hby at_182) (by decide) (by decide) k) ?_
        show OwnGo p e below _ (T172.setTop (mkF m 186 #[.val (.int p0), .val (.int p1), .val (.int p2), .val (.int p3), .val (.int p4), .val (.int p5), .val (.int (1 : Int32)), .val (.ref aCONFIRMATION), .val (.int (2 : Int32)), .val (.int ((((p0).toUInt32 >>> ((1 : Int32) &&& 31).toUInt32).toInt32) % (3 : Int32))), .val (.ref aFFDHE4096), .val (.int (3 : Int32)), .val (.ref a160)] [(.int (1 : Int32))]))
        obtain ⟨fs, hr, hrun, hended, hW, hsame⟩ := X172.leave (v := some (.int (1 : Int32))) (fun h => by rw [Bd.returns] at h; cases h)
        refine ⟨_, _, retOut X172 hx Bd.returns rfl (Or.inl ⟨rfl, Or.inr (Or.inl rfl), _, rfl⟩) (hb hby at_186) hr, hrun, hended, _, _, rfl, ?_, ⟨_, rfl⟩, hW, hsame.mono (by decide) (by decide)⟩
        show Q_law Z aKEY_SHARE aFFDHE2048 aFFDHE4096 aCONFIRMATION aFFDHE3072 p0 p1 p2 p3 p4 p5 h0 n0 _ T172.heap _
        rw [e172]
        exact ⟨rfl, N172⟩
set_option maxRecDepth 65536 in
set_option maxHeartbeats 40000000 in
theorem comes_1 {Post : Tables → Env → Array Value → State → Outcome → State → Prop} (hpost : ∀ tb e args s v u, (limb_1_1.after args s (.returned v) u = true ∧ limb_1_2.after args s (.returned v) u = true ∧ True) → FrameEnd s (.returned v) u (Jvm.fieldLocs frame_1_writes args s ++ Jvm.arrayLocs frame_1_arrays args s ++ Jvm.staticLocs frame_1_statics s) 16 128 → Post tb e args s (.returned v) u) :
    ArmFor flags0 classFile x code maxLocals ret World_1 tables_1 room_1 Calls_1 rest_1 Pre_1 Post := by
  intro l hfl _ _ p e ha hc hk s m args below hf hA hF happ hP
  obtain ⟨hcalls, hrest, hpre⟩ := hP
  obtain ⟨-, -, -, hnamed, -, -, -, hat⟩ := (Spec.applies_iff hf).mp happ
  obtain ⟨hg, hn0⟩ := and_e (Cond.before_iff.mp (show (Jvm.Cond.and given_1 narrow_1).before args s = true from hpre))
  obtain ⟨h1, g0⟩ := and_e hg
  obtain ⟨t0, g1⟩ := and_e g0
  obtain ⟨t1, g2⟩ := and_e g1
  obtain ⟨t2, g3⟩ := and_e g2
  obtain ⟨t3, g4⟩ := and_e g3
  obtain ⟨t4, g5⟩ := and_e g4
  obtain ⟨w0, w1, w2, w3, w4, w5, rfl⟩ : ∃ w0 w1 w2 w3 w4 w5 : Value, args = #[w0, w1, w2, w3, w4, w5] := by
    have hs : args.size = 6 := by simpa [Cond.value, given_1] using h1
    obtain ⟨L⟩ := args
    match L, hs with
    | [w0, w1, w2, w3, w4, w5], _ => exact ⟨w0, w1, w2, w3, w4, w5, rfl⟩
  have hw := fun d (hd : d ∈ tables_1) => atoms_spec (ws := Jvm.Cond.code x code maxLocals ret :: tables_1) hat d (List.mem_cons_of_mem _ hd)
  have hfit : Fit s := fun {y c} hc i hi => by
    obtain ⟨ha, rfl⟩ := Array.getElem?_eq_some_iff.mp hc
    have q := List.all_eq_true.mp ((Array.all_eq_true_iff_forall_mem.mp hF) _ (Array.getElem_mem ha)) i (List.mem_range.mpr hi)
    simpa [Array.getElem?_eq_getElem hi] using q
  obtain ⟨i0, ev0⟩ := is_v t0
  obtain rfl : w0 = (.int i0) := Option.some.inj ev0
  obtain ⟨i1, ev1⟩ := is_v t1
  obtain rfl : w1 = (.int i1) := Option.some.inj ev1
  obtain ⟨i2, ev2⟩ := is_v t2
  obtain rfl : w2 = (.int i2) := Option.some.inj ev2
  obtain ⟨i3, ev3⟩ := is_v t3
  obtain rfl : w3 = (.int i3) := Option.some.inj ev3
  obtain ⟨i4, ev4⟩ := is_v t4
  obtain rfl : w4 = (.int i4) := Option.some.inj ev4
  obtain ⟨i5, ev5⟩ := is_v g5
  obtain rfl : w5 = (.int i5) := Option.some.inj ev5
  obtain ⟨c0, hn1⟩ := and_e hn0
  obtain ⟨aKEY_SHARE, ev_aKEY_SHARE⟩ := exa_v c0
  obtain ⟨c1, hn2⟩ := and_e hn1
  obtain ⟨aFFDHE2048, ev_aFFDHE2048⟩ := exa_v c1
  obtain ⟨c2, hn3⟩ := and_e hn2
  obtain ⟨c3, hn4⟩ := and_e hn3
  obtain ⟨c4, hn5⟩ := and_e hn4
  obtain ⟨aFFDHE4096, ev_aFFDHE4096⟩ := exa_v c4
  obtain ⟨c5, hn6⟩ := and_e hn5
  obtain ⟨c6, hn7⟩ := and_e hn6
  obtain ⟨aCONFIRMATION, ev_aCONFIRMATION⟩ := exa_v c6
  obtain ⟨c7, hn8⟩ := and_e hn7
  obtain ⟨aFFDHE3072, ev_aFFDHE3072⟩ := exa_v c7
  obtain ⟨c8, hn9⟩ := and_e hn8
  have F0 : OwnFacts s aKEY_SHARE aFFDHE2048 aFFDHE4096 aCONFIRMATION aFFDHE3072 := ⟨(Sta.start ev_aKEY_SHARE (Or.inr ⟨(hw _ (List.mem_of_getElem? (i := 1) rfl)), (hw _ (List.mem_of_getElem? (i := 2) rfl))⟩)), (Exa.start ev_aKEY_SHARE c0), (Sta.start ev_aFFDHE2048 (Or.inr ⟨(hw _ (List.mem_of_getElem? (i := 4) rfl)), (hw _ (List.mem_of_getElem? (i := 5) rfl))⟩)), (Exa.start ev_aFFDHE2048 c1), (own_fldI ev_aKEY_SHARE c2), (own_fldI ev_aFFDHE2048 c3), (Sta.start ev_aFFDHE4096 (Or.inr ⟨(hw _ (List.mem_of_getElem? (i := 4) rfl)), (hw _ (List.mem_of_getElem? (i := 22) rfl))⟩)), (Exa.start ev_aFFDHE4096 c4), (own_fldI ev_aFFDHE4096 c5), (Sta.start ev_aCONFIRMATION (Or.inr ⟨(hw _ (List.mem_of_getElem? (i := 1) rfl)), (hw _ (List.mem_of_getElem? (i := 24) rfl))⟩)), (Exa.start ev_aCONFIRMATION c6), (Sta.start ev_aFFDHE3072 (Or.inr ⟨(hw _ (List.mem_of_getElem? (i := 4) rfl)), (hw _ (List.mem_of_getElem? (i := 26) rfl))⟩)), (Exa.start ev_aFFDHE3072 c7), (own_fldI ev_aCONFIRMATION c8), (own_fldI ev_aFFDHE3072 hn9)⟩
  obtain ⟨n, o, h1, h2, h3, _, L, rfl, ⟨rfl, N⟩, hq⟩ := rm_law l s _ hw tables_1 aKEY_SHARE aFFDHE2048 aFFDHE4096 aCONFIRMATION aFFDHE3072 F0 i0 i1 i2 i3 i4 i5 s.heap s.heap.size (Old.start s) p e ha hc hk s m _ below hf ((Spec.applies_iff_loose hf).mp happ).1 ⟨rfl, State.Warmed39.refl s, rfl⟩ trivial
  refine ⟨n, _, h1, h2, h3, hpost _ _ _ _ _ _ ⟨Cond.after_iff.mpr rfl, Cond.after_iff.mpr (eq_i res_at (Term.int_eval (1)) rfl), trivial⟩ ⟨hq.1, hq.2.1, (hq.2.2.sift fun y hy => Or.inr (N y hy)).mono (by decide) (by decide)⟩⟩
theorem main_1_1 : Claimed_1_1 := comes_1 fun _ _ _ _ _ _ h hF => ⟨h.1, hF⟩
theorem main_1_2 : Claimed_1_2 := comes_1 fun _ _ _ _ _ _ h hF => ⟨h.2.1, hF⟩
end Jvm.Pilot.@@N@@
namespace Jvm.Pilot.@@N@@
open Jvm Jvm.ClassFile Sem Op Lib Jvm.Free Jvm.Stand Jvm.Pilot.@@N@@.Jvm.D
/-! MADE BY PROGRAM (witnessworld.py) out of the Statement's table words and the real class files: 13 classes; the members and pool entries that the words name. The judged class is class 1, her method 1. -/
namespace start1
open Jvm.ClassFile
def u (s : String) : CpInfo := .utf8 (stringToUtf16 s)
/-- a pool by its gaps: so many unusable entries, then the entry; so many at the end -/
def gap : Nat → List CpInfo → List CpInfo
  | 0, r => r
  | n + 1, r => .unusable :: gap n r
def poolList (es : List (Nat × CpInfo)) (last : Nat) : List CpInfo := es.foldr (fun e r => gap e.1 (e.2 :: r)) (gap last [])
def pool (es : List (Nat × CpInfo)) (last : Nat) : Array CpInfo := ⟨poolList es last⟩
def fileOf (pool : Array CpInfo) (this : Nat) (attrs : Array Attribute := #[]) (ms : Array MethodInfo := #[]) (fl : Nat := 33) (sup : Nat := 0) (ifs : Array Nat := #[]) (fds : Array FieldInfo := #[]) : ClassFile where
  minorVersion := 0
  majorVersion := 65
  constantPool := pool
  accessFlags := fl
  thisClass := this
  superClass := sup
  interfaces := ifs
  fields := fds
  methods := ms
  attributes := attrs
def plain (name : String) (sup : Option ClassId) : Class where
  name := name
  kind := .ordinary
  loader := none
  accessFlags := 33
  super := sup
  interfaces := #[]
  cf := none
  fields := #[]
  methods := #[]
  instanceTypes := #[]
  staticTypes := #[]
  resolved := #[]
  callSites := []
  init := .initialized
  statics := none
  mirror := none

def pool0 : Array CpInfo := pool [(5, u "<init>"), (0, u "()V"), (1, .class_ 10), (1, u "java/lang/Object")] 113

def k0m0 : Method := { name := "<init>", desc := "()V", sig := { parameters := [], returnType := none }, accessFlags := 1, code := none }
/-- java/lang/Object -/
def k0 : Class := { plain "java/lang/Object" none with
  accessFlags := 33
  interfaces := #[]
  cf := some (fileOf pool0 8 #[] #[{ accessFlags := 1, nameIndex := 5, descriptorIndex := 6, attributes := #[] }] 33 0 #[] #[])
  fields := #[]
  methods := #[k0m0]
  instanceTypes := #[]
  staticTypes := #[]
  resolved := Array.replicate 124 none
  statics := none }

def pool1 : Array CpInfo := pool [(2, .class_ 4), (1, u "java/lang/Object"), (0, u "<init>"), (0, u "()V"), (0, .fieldref 8 9), (0, .class_ 10), (0, .nameAndType 11 12), (0, u "com/example/portcullis/portcullis/MessageType"), (0, u "CONFIRMATION"), (0, u "Lcom/example/portcullis/portcullis/MessageType;"), (0, .fieldref 8 14), (0, .nameAndType 15 12), (0, u "KEY_SHARE"), (0, .fieldref 17 18), (0, .class_ 19), (0, .nameAndType 20 21), (0, u "com/example/portcullis/portcullis/Group"), (0, u "FFDHE2048"), (0, u "Lcom/example/portcullis/portcullis/Group;"), (0, .fieldref 17 23), (0, .nameAndType 24 21), (0, u "FFDHE3072"), (0, .fieldref 17 26), (0, .nameAndType 27 21), (0, u "FFDHE4096"), (0, .methodref 8 29), (0, .nameAndType 30 31), (0, u "writeHeader"), (0, u "([BLcom/example/portcullis/portcullis/Group;)V"), (0, .class_ 33), (0, u "com/example/portcullis/portcullis/MessageTypeWriteHeaderPinLaw"), (2, u "law"), (0, u "(IIIIII)Z")] 5

def k1m0 : Method := { name := "<init>", desc := "()V", sig := { parameters := [], returnType := none }, accessFlags := 1, code := none }
def k1c1 : Code := { maxStack := 3, maxLocals := 13, code := code, exceptionTable := #[], attributes := #[] }
def k1m1 : Method := { name := "law", desc := "(IIIIII)Z", sig := { parameters := [.int, .int, .int, .int, .int, .int], returnType := some .boolean }, accessFlags := 9, code := some k1c1 }
/-- com/example/portcullis/portcullis/MessageTypeWriteHeaderPinLaw -/
def k1 : Class := { plain "com/example/portcullis/portcullis/MessageTypeWriteHeaderPinLaw" (some 0) with
  accessFlags := 49
  interfaces := #[]
  cf := some (fileOf pool1 32 #[] #[{ accessFlags := 1, nameIndex := 5, descriptorIndex := 6, attributes := #[] }, { accessFlags := 9, nameIndex := 36, descriptorIndex := 37, attributes := #[] }] 49 2 #[] #[])
  fields := #[]
  methods := #[k1m0, k1m1]
  instanceTypes := #[]
  staticTypes := #[]
  resolved := Array.replicate 43 none
  statics := none }

def pool2 : Array CpInfo := pool [(1, .class_ 2), (0, u "java/lang/constant/Constable"), (0, .class_ 4), (0, u "java/lang/Object")] 6

/-- java/lang/constant/Constable -/
def k2 : Class := { plain "java/lang/constant/Constable" (some 0) with
  accessFlags := 1537
  interfaces := #[]
  cf := some (fileOf pool2 1 #[] #[] 1537 3 #[] #[])
  fields := #[]
  methods := #[]
  instanceTypes := #[]
  staticTypes := #[]
  resolved := Array.replicate 11 none
  statics := none }

def pool3 : Array CpInfo := pool [(1, .class_ 2), (0, u "java/lang/Comparable"), (0, .class_ 4), (0, u "java/lang/Object")] 7

/-- java/lang/Comparable -/
def k3 : Class := { plain "java/lang/Comparable" (some 0) with
  accessFlags := 1537
  interfaces := #[]
  cf := some (fileOf pool3 1 #[] #[] 1537 3 #[] #[])
  fields := #[]
  methods := #[]
  instanceTypes := #[]
  staticTypes := #[]
  resolved := Array.replicate 12 none
  statics := none }

def pool4 : Array CpInfo := pool [(1, .class_ 2), (0, u "java/io/Serializable"), (0, .class_ 4), (0, u "java/lang/Object")] 2

/-- java/io/Serializable -/
def k4 : Class := { plain "java/io/Serializable" (some 0) with
  accessFlags := 1537
  interfaces := #[]
  cf := some (fileOf pool4 1 #[] #[] 1537 3 #[] #[])
  fields := #[]
  methods := #[]
  instanceTypes := #[]
  staticTypes := #[]
  resolved := Array.replicate 7 none
  statics := none }

def pool5 : Array CpInfo := pool [(2, .class_ 4), (1, u "java/lang/Enum"), (0, u "name"), (0, u "Ljava/lang/String;"), (2, u "ordinal"), (0, u "I"), (1, .class_ 14), (1, u "java/lang/Object"), (4, u "hash"), (86, .class_ 108), (1, u "java/lang/Enum$EnumDesc"), (2, .class_ 112), (0, u "java/lang/constant/Constable"), (0, .class_ 114), (0, u "java/lang/Comparable"), (0, .class_ 116), (0, u "java/io/Serializable")] 87

/-- java/lang/Enum -/
def k5 : Class := { plain "java/lang/Enum" (some 0) with
  accessFlags := 1057
  interfaces := #[2, 3, 4]
  cf := some (fileOf pool5 2 #[.nestMembers #[106]] #[] 1057 12 #[111, 113, 115] #[{ accessFlags := 18, nameIndex := 5, descriptorIndex := 6, attributes := #[] }, { accessFlags := 18, nameIndex := 9, descriptorIndex := 10, attributes := #[] }, { accessFlags := 2, nameIndex := 19, descriptorIndex := 10, attributes := #[] }])
  fields := #[{ name := "name", type := (.object "java/lang/String"), accessFlags := 18, slot := 0, constantValue := 0 }, { name := "ordinal", type := .int, accessFlags := 18, slot := 1, constantValue := 0 }, { name := "hash", type := .int, accessFlags := 2, slot := 2, constantValue := 0 }]
  methods := #[]
  instanceTypes := #[(.object "java/lang/String"), .int, .int]
  staticTypes := #[]
  resolved := Array.replicate 204 none
  statics := none }

def pool6 : Array CpInfo := pool [(1, .class_ 2), (0, u "com/example/portcullis/portcullis/MessageType"), (2, u "KEY_SHARE"), (0, u "Lcom/example/portcullis/portcullis/MessageType;"), (2, u "CONFIRMATION"), (2, u "$VALUES"), (0, u "[Lcom/example/portcullis/portcullis/MessageType;"), (6, .class_ 22), (1, u "java/lang/Enum"), (6, .fieldref 1 30), (0, .nameAndType 31 32), (0, u "id"), (0, u "B"), (2, u "noun"), (0, u "Ljava/lang/String;"), (0, .methodref 38 39), (0, .class_ 40), (0, .nameAndType 31 41), (0, u "com/example/portcullis/portcullis/Group"), (0, u "()B"), (47, u "HEADER_LENGTH"), (0, u "I"), (2, u "FORMAT_VERSION"), (8, u "writeHeader"), (0, u "([BLcom/example/portcullis/portcullis/Group;)V")] 24

def k6c0 : Code := { maxStack := 3, maxLocals := 3, code := prog_5_method_4_code, exceptionTable := #[], attributes := #[] }
def k6m0 : Method := { name := "writeHeader", desc := "([BLcom/example/portcullis/portcullis/Group;)V", sig := { parameters := [(.array .byte), (.object "com/example/portcullis/portcullis/Group")], returnType := none }, accessFlags := 0, code := some k6c0 }
/-- com/example/portcullis/portcullis/MessageType -/
def k6 : Class := { plain "com/example/portcullis/portcullis/MessageType" (some 5) with
  accessFlags := 16432
  interfaces := #[]
  cf := some (fileOf pool6 1 #[] #[{ accessFlags := 0, nameIndex := 102, descriptorIndex := 103, attributes := #[] }] 16432 20 #[] #[{ accessFlags := 16409, nameIndex := 5, descriptorIndex := 6, attributes := #[] }, { accessFlags := 16409, nameIndex := 9, descriptorIndex := 6, attributes := #[] }, { accessFlags := 24, nameIndex := 89, descriptorIndex := 90, attributes := #[] }, { accessFlags := 26, nameIndex := 93, descriptorIndex := 32, attributes := #[] }, { accessFlags := 18, nameIndex := 31, descriptorIndex := 32, attributes := #[] }, { accessFlags := 18, nameIndex := 35, descriptorIndex := 36, attributes := #[] }, { accessFlags := 4122, nameIndex := 12, descriptorIndex := 13, attributes := #[] }])
  fields := #[{ name := "KEY_SHARE", type := (.object "com/example/portcullis/portcullis/MessageType"), accessFlags := 16409, slot := 0, constantValue := 0 }, { name := "CONFIRMATION", type := (.object "com/example/portcullis/portcullis/MessageType"), accessFlags := 16409, slot := 1, constantValue := 0 }, { name := "HEADER_LENGTH", type := .int, accessFlags := 24, slot := 2, constantValue := 0 }, { name := "FORMAT_VERSION", type := .byte, accessFlags := 26, slot := 3, constantValue := 0 }, { name := "id", type := .byte, accessFlags := 18, slot := 3, constantValue := 0 }, { name := "noun", type := (.object "java/lang/String"), accessFlags := 18, slot := 4, constantValue := 0 }, { name := "$VALUES", type := (.array (.object "com/example/portcullis/portcullis/MessageType")), accessFlags := 4122, slot := 4, constantValue := 0 }]
  methods := #[k6m0]
  instanceTypes := #[(.object "java/lang/String"), .int, .int, .byte, (.object "java/lang/String")]
  staticTypes := #[(.object "com/example/portcullis/portcullis/MessageType"), (.object "com/example/portcullis/portcullis/MessageType"), .int, .byte, (.array (.object "com/example/portcullis/portcullis/MessageType"))]
  resolved := Array.replicate 128 none
  statics := some 0 }

def pool7 : Array CpInfo := pool [(1, .class_ 2), (0, u "com/example/portcullis/portcullis/Group"), (2, u "FFDHE2048"), (0, u "Lcom/example/portcullis/portcullis/Group;"), (2, u "FFDHE3072"), (2, u "FFDHE4096"), (2, u "$VALUES"), (0, u "[Lcom/example/portcullis/portcullis/Group;"), (6, .class_ 25), (1, u "java/lang/Enum"), (6, .fieldref 1 33), (0, .nameAndType 34 35), (0, u "id"), (0, u "B"), (6, u "modulus"), (0, u "Ljava/math/BigInteger;"), (4, u "elementLength"), (0, u "I"), (2, u "exponentLength"), (106, u "GUARD_BITS"), (9, u "()B")] 28

def k7c0 : Code := { maxStack := 1, maxLocals := 1, code := prog_2_method_4_code, exceptionTable := #[], attributes := #[] }
def k7m0 : Method := { name := "id", desc := "()B", sig := { parameters := [], returnType := some .byte }, accessFlags := 0, code := some k7c0 }
/-- com/example/portcullis/portcullis/Group -/
def k7 : Class := { plain "com/example/portcullis/portcullis/Group" (some 5) with
  accessFlags := 16433
  interfaces := #[]
  cf := some (fileOf pool7 1 #[] #[{ accessFlags := 0, nameIndex := 34, descriptorIndex := 169, attributes := #[] }] 16433 23 #[] #[{ accessFlags := 16409, nameIndex := 5, descriptorIndex := 6, attributes := #[] }, { accessFlags := 16409, nameIndex := 9, descriptorIndex := 6, attributes := #[] }, { accessFlags := 16409, nameIndex := 12, descriptorIndex := 6, attributes := #[] }, { accessFlags := 26, nameIndex := 159, descriptorIndex := 49, attributes := #[] }, { accessFlags := 18, nameIndex := 34, descriptorIndex := 35, attributes := #[] }, { accessFlags := 18, nameIndex := 42, descriptorIndex := 43, attributes := #[] }, { accessFlags := 18, nameIndex := 48, descriptorIndex := 49, attributes := #[] }, { accessFlags := 18, nameIndex := 52, descriptorIndex := 49, attributes := #[] }, { accessFlags := 4122, nameIndex := 15, descriptorIndex := 16, attributes := #[] }])
  fields := #[{ name := "FFDHE2048", type := (.object "com/example/portcullis/portcullis/Group"), accessFlags := 16409, slot := 0, constantValue := 0 }, { name := "FFDHE3072", type := (.object "com/example/portcullis/portcullis/Group"), accessFlags := 16409, slot := 1, constantValue := 0 }, { name := "FFDHE4096", type := (.object "com/example/portcullis/portcullis/Group"), accessFlags := 16409, slot := 2, constantValue := 0 }, { name := "GUARD_BITS", type := .int, accessFlags := 26, slot := 3, constantValue := 0 }, { name := "id", type := .byte, accessFlags := 18, slot := 3, constantValue := 0 }, { name := "modulus", type := (.object "java/math/BigInteger"), accessFlags := 18, slot := 4, constantValue := 0 }, { name := "elementLength", type := .int, accessFlags := 18, slot := 5, constantValue := 0 }, { name := "exponentLength", type := .int, accessFlags := 18, slot := 6, constantValue := 0 }, { name := "$VALUES", type := (.array (.object "com/example/portcullis/portcullis/Group")), accessFlags := 4122, slot := 4, constantValue := 0 }]
  methods := #[k7m0]
  instanceTypes := #[(.object "java/lang/String"), .int, .int, .byte, (.object "java/math/BigInteger"), .int, .int]
  staticTypes := #[(.object "com/example/portcullis/portcullis/Group"), (.object "com/example/portcullis/portcullis/Group"), (.object "com/example/portcullis/portcullis/Group"), .int, (.array (.object "com/example/portcullis/portcullis/Group"))]
  resolved := Array.replicate 198 none
  statics := some 1 }

def pool8 : Array CpInfo := pool [(1, u "java/lang/Cloneable"), (0, .class_ 1), (0, u "java/lang/Object"), (0, .class_ 3)] 3

/-- java/lang/Cloneable -/
def k8 : Class := { plain "java/lang/Cloneable" (some 0) with
  accessFlags := 1537
  interfaces := #[]
  cf := some (fileOf pool8 2 #[] #[] 1537 4 #[] #[])
  fields := #[]
  methods := #[]
  instanceTypes := #[]
  staticTypes := #[]
  resolved := Array.replicate 8 none
  statics := none }

/-- the primitive byte -/
def k9 : Class := { plain "byte" none with kind := .primitive 'B', accessFlags := 0x411 }
/-- [B -/
def k10 : Class := { plain "[B" (some 0) with kind := .array 9 .byte, interfaces := #[8, 4], accessFlags := 1041 }

/-- the primitive int -/
def k11 : Class := { plain "int" none with kind := .primitive 'I', accessFlags := 0x411 }
/-- [I -/
def k12 : Class := { plain "[I" (some 0) with kind := .array 11 .int, interfaces := #[8, 4], accessFlags := 1041 }

def heap : Heap := #[{ cls := 6, slots := #[.ref 2, .ref 5, .int 0, .int 0, .null], vm := .statics 6 },
  { cls := 7, slots := #[.ref 3, .ref 6, .ref 4, .int 0, .null], vm := .statics 7 },
  { cls := 6, slots := #[.null, .int 0, .int 0, .int 1, .null], vm := .none },
  { cls := 7, slots := #[.null, .int 0, .int 0, .int 1, .null, .int 0, .int 0], vm := .none },
  { cls := 7, slots := #[.null, .int 0, .int 0, .int 3, .null, .int 0, .int 0], vm := .none },
  { cls := 6, slots := #[.null, .int 0, .int 0, .int 2, .null], vm := .none },
  { cls := 7, slots := #[.null, .int 0, .int 0, .int 2, .null, .int 0, .int 0], vm := .none }]
def classes : Array Class := #[k0, k1, k2, k3, k4, k5, k6, k7, k8, k9, k10, k11, k12]
def interned : List (Array UInt16 × Addr) := []
def slotsUsed : Nat := 41
def theMethod : MethodId := ⟨1, 1⟩
def args0 : Array Value := #[.int 5, .int 7, .int 2, .int 3, .int 300, .int 1]
def aboutOver (below : List Frame) : State where
  vm := { classes := classes, interned := interned.toArray }
  heap := heap
  slotsUsed := slotsUsed
  threads := #[{ frames := .invoking theMethod args0 :: below }]
def below0 : List Frame := [.native { method := ⟨0, 0⟩, args := #[] }]
def about1 : State := aboutOver below0
def p0 : Program := .bare "" "" ""
def e0 : Env := launch0.env 0 0 0
theorem w_frames : about1.frames = Frame.invoking theMethod args0 :: below0 := rfl
set_option maxRecDepth 65536 in
theorem w_args : argsFit about1.vm theMethod args0 = true := by decide +kernel
set_option maxRecDepth 65536 in
theorem w_heap : heapFits about1 = true := by decide +kernel
set_option maxRecDepth 65536 in
theorem w_runnable : about1.curStatus? = some .runnable := by decide +kernel
set_option maxRecDepth 65536 in
theorem w_alone : about1.alone = true := by decide +kernel
set_option maxRecDepth 65536 in
theorem w_named : about1.methodNamed? x = some theMethod := by decide +kernel
set_option maxRecDepth 65536 in
theorem w_hears : about1.hears theMethod below0 = true := by decide +kernel
set_option maxRecDepth 65536 in
theorem w_ripe : about1.ripe theMethod args0 below0 = true := by decide +kernel
theorem w_running : about1.status = .running := rfl
set_option maxRecDepth 65536 in
theorem w_room : about1.hasRoom e0.platform room_1 = true :=
  launch0.hasRoom_least _ room_1 (by decide +kernel) (by decide +kernel) (by decide +kernel) (by decide +kernel) (by decide +kernel) (by decide +kernel)
theorem allAtoms_all (ts : List Jvm.Cond) (a : Array Jvm.Value) (st : Jvm.State) : (allAtoms ts).before a st = ts.all (fun c => c.before a st) := by
  induction ts with
  | nil => rfl
  | cons c t ih =>
    show (Jvm.Cond.and c (allAtoms t)).before a st = _
    rw [Jvm.Cond.before_and, ih, List.all_cons]
def words1 : List Jvm.Cond := Jvm.Cond.code x code maxLocals ret :: tables_1
/-- a 'code' word, met by the world's own term for the bytes: nothing is compared byte by byte -/
theorem code_word {y : MethodName} {bytes : ByteArray} {mx : Nat} {rt : Option FieldType} {a : Array Value} {s : State} {m : MethodId} {meth : Method} {c : Code} (h1 : s.methodNamed? y = some m) (h2 : s.vm.method? m = some meth) (h3 : meth.code = some c) (h4 : c.code = bytes)
    (h5 : (c.maxLocals == mx && c.exceptionTable.isEmpty && decide (c.maxStack ≤ mostOperands) && decide (meth.sig.returnType = rt) && !meth.locks && decide (parseMethodDescriptor y.desc = some meth.sig)) = true) : (Jvm.Cond.code y bytes mx rt).before a s = true := by
  simp only [Bool.and_eq_true, beq_iff_eq, Bool.not_eq_true', decide_eq_true_eq] at h5
  obtain ⟨⟨⟨⟨⟨g1, g2⟩, g3⟩, g4⟩, g5⟩, g6⟩ := h5
  simp [Cond.before, Cond.holds, Cond.value, h1, h2, h3, h4, g1, g2, g3, g4, g5, g6]
def isCode : Jvm.Cond → Bool
  | .code _ _ _ _ => true
  | _ => false
theorem all_split {L : List Jvm.Cond} {P : Jvm.Cond → Bool} (h1 : L.all (fun c => isCode c || P c) = true) (h2 : ∀ c ∈ L.filter isCode, P c = true) : L.all P = true := by
  refine List.all_eq_true.mpr fun c hc => ?_
  have h := List.all_eq_true.mp h1 c hc
  rcases Bool.eq_false_or_eq_true (isCode c) with hi | hi
  · exact h2 c (List.mem_filter.mpr ⟨hc, hi⟩)
  · simpa [hi] using h
set_option maxRecDepth 65536 in
theorem w_c0 : (Jvm.Cond.code x code maxLocals ret).before args0 about1 = true := code_word (m := ⟨1, 1⟩) (meth := k1m1) (c := k1c1) (by decide +kernel) rfl rfl rfl (by decide +kernel)
set_option maxRecDepth 65536 in
theorem w_c1 : (Jvm.Cond.code ({ cls := "com/example/portcullis/portcullis/MessageType", name := "writeHeader", desc := "([BLcom/example/portcullis/portcullis/Group;)V" } : Jvm.MethodName) prog_5_method_4_code (3 : Nat) (Option.none : Option Jvm.ClassFile.FieldType)).before args0 about1 = true := code_word (m := ⟨6, 0⟩) (meth := k6m0) (c := k6c0) (by decide +kernel) rfl rfl rfl (by decide +kernel)
set_option maxRecDepth 65536 in
theorem w_c2 : (Jvm.Cond.code ({ cls := "com/example/portcullis/portcullis/Group", name := "id", desc := "()B" } : Jvm.MethodName) prog_2_method_4_code (1 : Nat) (Option.some Jvm.ClassFile.FieldType.byte)).before args0 about1 = true := code_word (m := ⟨7, 0⟩) (meth := k7m0) (c := k7c0) (by decide +kernel) rfl rfl rfl (by decide +kernel)
def codes1 : List Jvm.Cond := [Jvm.Cond.code x code maxLocals ret, Jvm.Cond.code ({ cls := "com/example/portcullis/portcullis/MessageType", name := "writeHeader", desc := "([BLcom/example/portcullis/portcullis/Group;)V" } : Jvm.MethodName) prog_5_method_4_code (3 : Nat) (Option.none : Option Jvm.ClassFile.FieldType), Jvm.Cond.code ({ cls := "com/example/portcullis/portcullis/Group", name := "id", desc := "()B" } : Jvm.MethodName) prog_2_method_4_code (1 : Nat) (Option.some Jvm.ClassFile.FieldType.byte)]
set_option maxRecDepth 65536 in
theorem codes_eq : words1.filter isCode = codes1 := rfl
theorem w_codes : ∀ c ∈ words1.filter isCode, c.before args0 about1 = true := by
  rw [codes_eq]
  intro c hc
  simp only [codes1, List.mem_cons, List.not_mem_nil, or_false] at hc
  rcases hc with rfl | rfl | rfl
  · exact w_c0
  · exact w_c1
  · exact w_c2
set_option maxRecDepth 65536 in
theorem w_t1 : (words1.take 24).all (fun c => isCode c || c.before args0 about1) = true := by decide +kernel
set_option maxRecDepth 65536 in
theorem w_t2 : (words1.drop 24).all (fun c => isCode c || c.before args0 about1) = true := by decide +kernel
theorem w_tables : (allAtoms (Jvm.Cond.code x code maxLocals ret :: tables_1)).before args0 about1 = true := by
  rw [allAtoms_all]
  show words1.all (fun c => c.before args0 about1) = true
  refine all_split ?_ w_codes
  rw [← List.take_append_drop 24 words1, List.all_append, w_t1, w_t2]
  rfl
set_option maxRecDepth 65536 in
theorem w_case : (Jvm.Cond.and given_1 narrow_1).before args0 about1 = true := by decide +kernel
theorem w_applies : (headSpec (Jvm.Cond.code x code maxLocals ret :: tables_1) room_1).applies x e0.platform about1 = true :=
  (Spec.applies_iff w_frames).mpr ⟨w_running, w_runnable, w_alone, w_named, w_hears, w_ripe, w_room, w_tables⟩
theorem atStart : AtStart classFile x code maxLocals ret World_1 tables_1 room_1 Calls_1 rest_1 Pre_1 launch0 p0 e0 about1 theMethod args0 below0 :=
  ⟨lists_1, trivial, launch0.admits_env _ _ _, launch0.least_env, fairChoices_fair.cas, fairChoices_fair.clock, w_frames, w_args, w_heap, w_applies, trivial, trivial, w_case⟩
end start1
theorem witness_1 : WitnessClaimed_1 := ⟨start1.p0, start1.e0, start1.about1, start1.theMethod, start1.args0, start1.below0, start1.atStart⟩
end Jvm.Pilot.@@N@@

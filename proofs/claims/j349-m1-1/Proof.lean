import JvmDerived
import JvmDerived.Pilot.@@N@@Statement
import JvmDerived.Pilot.@@N@@Code
set_option linter.unusedVariables false
set_option linter.unusedSimpArgs false
namespace Jvm.Pilot.@@N@@
open Jvm Jvm.ClassFile Sem Op Lib Jvm.Free Jvm.Stand Jvm.LawKit Jvm.RoadKit Bundle Jvm.Pilot.@@N@@.Jvm.D
/-! the walk in continuation style: 'Go .. A': from A the run comes to its end, and P holds there -/
def Go (p : Program) (e : Env) (below : List Frame) (P : Outcome → State → Prop) (A : State) : Prop := ∃ s₂ o, Steps p.tables e below A s₂ ∧ s₂.status = .running ∧ Ended s₂ below o ∧ P o s₂
theorem Go.by {p : Program} {e : Env} {below : List Frame} {P : Outcome → State → Prop} {A B : State} (h : ∀ t, Steps p.tables e below B t → Steps p.tables e below A t) (k : Go p e below P B) : Go p e below P A := by
  obtain ⟨s2, o, h1, h2⟩ := k
  exact ⟨s2, o, h _ h1, h2⟩
def End (s : State) (Q : Option Value → Heap → List Loc → Prop) (k n : Nat) (o : Outcome) (U : State) : Prop := ∃ v L, o = .returned v ∧ Q v U.heap L ∧ FrameEnd s o U L k n
section Ends
variable {p : Program} {l : Launch} {e : Env} {R : Room} {s : State} {m : MethodId} {args : Array Value} {below : List Frame} {meth : Method} {c : Code} {T : State} {locs : List Loc} {cells slots : Nat} {Q : Option Value → Heap → List Loc → Prop} {C S : Nat}
theorem Go.fin (X : Stand p l e R s m args below meth c T locs cells slots) {A : State} {v : Option Value} (hv : meth.sig.returnType = none → v = none) (hlk : meth.locks = false) (hk : cells ≤ C) (hn : slots ≤ S) (hQ : Q v T.heap locs)
    (k : ∀ fs, (∀ (f : JFrame) (acts : List Action), f.method = m → f.locked = none → f.entered = [] → (doReturn e (T.setTop f) acts v).1 = T.setFrames fs) → Steps p.tables e below A (T.setFrames fs)) : Go p e below (End s Q C S) A := by
  obtain ⟨fs, hr, hrun, hended, hW, hsame⟩ := X.leave (v := v) hv hlk
  exact ⟨_, _, k fs hr, hrun, hended, _, _, rfl, hQ, ⟨_, rfl⟩, hW, hsame.mono hk hn⟩
theorem Go.retZ (X : Stand p l e R s m args below meth c T locs cells slots) (hx : p.tables.exec = Jvm.exec) {pc : Nat} {Ls : Array Slot} {z : Int32} {t : FieldType} {rest : List Value} (hret : meth.sig.returnType = some t) (ht : t = .boolean ∨ t = .byte ∨ t = .char ∨ t = .short) (hlk : meth.locks = false)
    (hd : decode c.code pc = .ok (.ireturn, 1)) (hk : cells ≤ C) (hn : slots ≤ S) (hQ : Q (some (.int (nar t z))) T.heap locs) : Go p e below (End s Q C S) (T.setTop (mkF m pc Ls (.int z :: rest))) :=
  Go.fin X (fun h => by rw [hret] at h; cases h) hlk hk hn hQ fun fs hr => retN X hx hret ht hd hr
theorem Go.retI (X : Stand p l e R s m args below meth c T locs cells slots) (hx : p.tables.exec = Jvm.exec) {pc : Nat} {Ls : Array Slot} {z : Int32} {rest : List Value} (hret : meth.sig.returnType = some .int) (hlk : meth.locks = false)
    (hd : decode c.code pc = .ok (.ireturn, 1)) (hk : cells ≤ C) (hn : slots ≤ S) (hQ : Q (some (.int z)) T.heap locs) : Go p e below (End s Q C S) (T.setTop (mkF m pc Ls (.int z :: rest))) :=
  Go.fin X (fun h => by rw [hret] at h; cases h) hlk hk hn hQ fun fs hr => retOut X hx hret rfl (Or.inl ⟨rfl, Or.inl rfl, _, rfl⟩) hd hr
theorem Go.retR (X : Stand p l e R s m args below meth c T locs cells slots) (hx : p.tables.exec = Jvm.exec) {pc : Nat} {Ls : Array Slot} {w : Value} {t : FieldType} {rest : List Value} (hret : meth.sig.returnType = some t) (ht : t.isReference = true) (hw : w.isRef = true) (hlk : meth.locks = false)
    (hd : decode c.code pc = .ok (.areturn, 1)) (hk : cells ≤ C) (hn : slots ≤ S) (hQ : Q (some w) T.heap locs) : Go p e below (End s Q C S) (T.setTop (mkF m pc Ls (w :: rest))) :=
  Go.fin X (fun h => by rw [hret] at h; cases h) hlk hk hn hQ fun fs hr => retOut X hx hret (by cases t <;> cases w <;> first | rfl | (simp [FieldType.isReference] at ht) | (simp [Value.isRef] at hw)) (Or.inr (Or.inr (Or.inr (Or.inr ⟨rfl, ht, hw⟩)))) hd hr
theorem Go.retV (X : Stand p l e R s m args below meth c T locs cells slots) (hx : p.tables.exec = Jvm.exec) {pc : Nat} {Ls : Array Slot} (hret : meth.sig.returnType = none) (hlk : meth.locks = false)
    (hd : decode c.code pc = .ok (.return_, 1)) (hk : cells ≤ C) (hn : slots ≤ S) (hQ : Q none T.heap locs) : Go p e below (End s Q C S) (T.setTop (mkF m pc Ls [])) :=
  Go.fin X (fun _ => rfl) hlk hk hn hQ fun fs hr => X.returnOut hx hret hd hr
theorem own_eqi {t : Term} {n : Int32} {args : Array Value} {s : State} (h : (Cond.eq t (.int n)).before args s = true) : t.eval args s none [] s = some (.int n) := Cond.eq_int h (Term.int_eval n)
theorem own_n1 : nar .boolean (1 : Int32) = 1 := rfl
theorem own_n0 : nar .boolean (0 : Int32) = 0 := rfl
theorem own_wid (X : Stand p l e R s m args below meth c T locs cells slots) (hk : cells ≤ C) (hn : slots ≤ S) : Stand p l e R s m args below meth c T locs C S :=
  ⟨X.admits, X.cas, X.clock, X.frames, X.room, X.hears, X.method, X.code, X.here, X.tail, X.warmed, X.limits, X.bytes, X.same.mono hk hn⟩
end Ends
def Glob (Z : State) (wWAITING : Addr) (wCOMPLETED : Addr) (wFAILED : Addr) (wCANCELLED : Addr) (wPAUSED : Addr) (wRUNNING : Addr) : Prop := Sta Z Z.heap "com/example/gather_solvers/gathersolvers/engine/InvokeProgress$State" "WAITING" "Lcom/example/gather_solvers/gathersolvers/engine/InvokeProgress$State;" (.ref wWAITING) ∧ Exa Z Z.heap wWAITING "com/example/gather_solvers/gathersolvers/engine/InvokeProgress$State" ∧ Sta Z Z.heap "com/example/gather_solvers/gathersolvers/engine/InvokeProgress$State" "COMPLETED" "Lcom/example/gather_solvers/gathersolvers/engine/InvokeProgress$State;" (.ref wCOMPLETED) ∧ Exa Z Z.heap wCOMPLETED "com/example/gather_solvers/gathersolvers/engine/InvokeProgress$State" ∧ Fld Z Z.heap wWAITING "java/lang/Enum" "ordinal" "I" (.int (0 : Int32)) ∧ Fld Z Z.heap wCOMPLETED "java/lang/Enum" "ordinal" "I" (.int (3 : Int32)) ∧ Sta Z Z.heap "com/example/gather_solvers/gathersolvers/engine/InvokeProgress$State" "FAILED" "Lcom/example/gather_solvers/gathersolvers/engine/InvokeProgress$State;" (.ref wFAILED) ∧ Exa Z Z.heap wFAILED "com/example/gather_solvers/gathersolvers/engine/InvokeProgress$State" ∧ Fld Z Z.heap wFAILED "java/lang/Enum" "ordinal" "I" (.int (4 : Int32)) ∧ Sta Z Z.heap "com/example/gather_solvers/gathersolvers/engine/InvokeProgress$State" "CANCELLED" "Lcom/example/gather_solvers/gathersolvers/engine/InvokeProgress$State;" (.ref wCANCELLED) ∧ Exa Z Z.heap wCANCELLED "com/example/gather_solvers/gathersolvers/engine/InvokeProgress$State" ∧ Fld Z Z.heap wCANCELLED "java/lang/Enum" "ordinal" "I" (.int (5 : Int32)) ∧ Sta Z Z.heap "com/example/gather_solvers/gathersolvers/engine/InvokeProgress$State" "PAUSED" "Lcom/example/gather_solvers/gathersolvers/engine/InvokeProgress$State;" (.ref wPAUSED) ∧ Exa Z Z.heap wPAUSED "com/example/gather_solvers/gathersolvers/engine/InvokeProgress$State" ∧ Fld Z Z.heap wPAUSED "java/lang/Enum" "ordinal" "I" (.int (2 : Int32)) ∧ Sta Z Z.heap "com/example/gather_solvers/gathersolvers/engine/InvokeProgress$State" "RUNNING" "Lcom/example/gather_solvers/gathersolvers/engine/InvokeProgress$State;" (.ref wRUNNING) ∧ Exa Z Z.heap wRUNNING "com/example/gather_solvers/gathersolvers/engine/InvokeProgress$State" ∧ Fld Z Z.heap wRUNNING "java/lang/Enum" "ordinal" "I" (.int (1 : Int32))
theorem own_lt6 (i : Int32) (h : 0 ≤ i.toInt ∧ i.toInt < 6) : i = 0 ∨ i = 1 ∨ i = 2 ∨ i = 3 ∨ i = 4 ∨ i = 5 := by
  have q : i.toInt = 0 ∨ i.toInt = 1 ∨ i.toInt = 2 ∨ i.toInt = 3 ∨ i.toInt = 4 ∨ i.toInt = 5 := by omega
  rcases q with q | q | q | q | q | q
  · exact Or.inl (Int32.toInt_inj.mp q)
  · exact Or.inr (Or.inl (Int32.toInt_inj.mp q))
  · exact Or.inr (Or.inr (Or.inl (Int32.toInt_inj.mp q)))
  · exact Or.inr (Or.inr (Or.inr (Or.inl (Int32.toInt_inj.mp q))))
  · exact Or.inr (Or.inr (Or.inr (Or.inr (Or.inl (Int32.toInt_inj.mp q)))))
  · exact Or.inr (Or.inr (Or.inr (Or.inr (Or.inr (Int32.toInt_inj.mp q)))))
theorem own_mod6 (x : Int32) : 0 ≤ ((x &&& (2147483647 : Int32)) % (6 : Int32)).toInt ∧ ((x &&& (2147483647 : Int32)) % (6 : Int32)).toInt < 6 := by
  have h1 : (x &&& (2147483647 : Int32)).toInt = x.toInt % (2 ^ 31 : Nat) := c_mask x 2147483647 31 (by decide) (by decide)
  have h2 := (c_irem (x &&& (2147483647 : Int32)) 6 6 rfl).1 (by omega)
  omega
theorem pn_0 : plainName "com/example/gather_solvers/gathersolvers/engine/StateEndedPinLaw" = true := by first | (simp [plainName, overriddenIn]; done) | decide +kernel
theorem pn_1 : plainName "com/example/gather_solvers/gathersolvers/engine/InvokeProgress$State" = true := by first | (simp [plainName, overriddenIn]; done) | decide +kernel
theorem pd_0 : parseMethodDescriptor "(I)Lcom/example/gather_solvers/gathersolvers/engine/InvokeProgress$State;" = some ⟨[.int], some (.object "com/example/gather_solvers/gathersolvers/engine/InvokeProgress$State")⟩ := by decide +kernel
theorem pd_1 : parseMethodDescriptor "()Z" = some ⟨[], some .boolean⟩ := by decide +kernel
theorem d1_0 : decode method_2_code 0 = .ok (.iload_n 0, 1) := by decide +kernel
theorem d1_1 : decode method_2_code 1 = .ok (.ifCond .ne 7, 3) := by decide +kernel
theorem d1_4 : decode method_2_code 4 = .ok (.getstatic 7, 3) := by decide +kernel
theorem d1_7 : decode method_2_code 7 = .ok (.areturn, 1) := by decide +kernel
theorem d1_8 : decode method_2_code 8 = .ok (.iload_n 0, 1) := by decide +kernel
theorem d1_9 : decode method_2_code 9 = .ok (.iconst 1, 1) := by decide +kernel
theorem d1_10 : decode method_2_code 10 = .ok (.if_icmp .ne 7, 3) := by decide +kernel
theorem d1_13 : decode method_2_code 13 = .ok (.getstatic 13, 3) := by decide +kernel
theorem d1_16 : decode method_2_code 16 = .ok (.areturn, 1) := by decide +kernel
theorem d1_17 : decode method_2_code 17 = .ok (.iload_n 0, 1) := by decide +kernel
theorem d1_18 : decode method_2_code 18 = .ok (.iconst 2, 1) := by decide +kernel
theorem d1_19 : decode method_2_code 19 = .ok (.if_icmp .ne 7, 3) := by decide +kernel
theorem d1_22 : decode method_2_code 22 = .ok (.getstatic 16, 3) := by decide +kernel
theorem d1_25 : decode method_2_code 25 = .ok (.areturn, 1) := by decide +kernel
theorem d1_26 : decode method_2_code 26 = .ok (.iload_n 0, 1) := by decide +kernel
theorem d1_27 : decode method_2_code 27 = .ok (.iconst 3, 1) := by decide +kernel
theorem d1_28 : decode method_2_code 28 = .ok (.if_icmp .ne 7, 3) := by decide +kernel
theorem d1_31 : decode method_2_code 31 = .ok (.getstatic 19, 3) := by decide +kernel
theorem d1_34 : decode method_2_code 34 = .ok (.areturn, 1) := by decide +kernel
theorem d1_35 : decode method_2_code 35 = .ok (.iload_n 0, 1) := by decide +kernel
theorem d1_36 : decode method_2_code 36 = .ok (.iconst 4, 1) := by decide +kernel
theorem d1_37 : decode method_2_code 37 = .ok (.if_icmp .ne 7, 3) := by decide +kernel
theorem d1_40 : decode method_2_code 40 = .ok (.getstatic 22, 3) := by decide +kernel
theorem d1_43 : decode method_2_code 43 = .ok (.areturn, 1) := by decide +kernel
theorem d1_44 : decode method_2_code 44 = .ok (.getstatic 25, 3) := by decide +kernel
theorem d1_47 : decode method_2_code 47 = .ok (.areturn, 1) := by decide +kernel
theorem ef_pick (m : MethodId) (x0 : Int32) : entryFrame m #[(.int x0)] 1 = mkF m 0 #[.val (.int x0)] [] := by first | (simp [entryFrame, mkF, argsToLocals, Value.category]; done) | rfl
def Q_pick (Z : State) (wWAITING : Addr) (wCOMPLETED : Addr) (wFAILED : Addr) (wCANCELLED : Addr) (wPAUSED : Addr) (wRUNNING : Addr) (p1 : Int32) (r : Addr) (h0 : Heap) (n0 : Nat) (v : Option Value) (h : Heap) (L : List Loc) : Prop := v = some (.ref r) ∧ Fr n0 L ∧ h = h0
set_option maxRecDepth 65536 in
set_option maxHeartbeats 40000000 in
theorem rm_pick (l : Launch) (Z : State) (a0 : Array Value) (hw : ∀ d ∈ tables_1, d.before a0 Z = true) (ws : List Jvm.Cond) (wWAITING : Addr) (wCOMPLETED : Addr) (wFAILED : Addr) (wCANCELLED : Addr) (wPAUSED : Addr) (wRUNNING : Addr) (hG : Glob Z wWAITING wCOMPLETED wFAILED wCANCELLED wPAUSED wRUNNING) (p1 : Int32) (r : Addr) (h0 : Heap) (n0 : Nat) (Z0 : n0 ≤ h0.size) (O0 : Old Z n0 h0) (hr : r = if p1 = 0 then wWAITING else if p1 = 1 then wRUNNING else if p1 = 2 then wPAUSED else if p1 = 3 then wCOMPLETED else if p1 = 4 then wFAILED else wCANCELLED) :
    MetFree l (⟨"com/example/gather_solvers/gathersolvers/engine/StateEndedPinLaw", "pick", "(I)Lcom/example/gather_solvers/gathersolvers/engine/InvokeProgress$State;"⟩ : MethodName) (head1 (Jvm.Cond.code (⟨"com/example/gather_solvers/gathersolvers/engine/StateEndedPinLaw", "pick", "(I)Lcom/example/gather_solvers/gathersolvers/engine/InvokeProgress$State;"⟩ : MethodName) method_2_code 1 (some (.object "com/example/gather_solvers/gathersolvers/engine/InvokeProgress$State")) :: ws) ({ frames := 0, cells := 0, slots := 0, locals := 0 } : Room)) (fun a U => a = #[(.int p1)] ∧ Z.Warmed39 U.vm ∧ U.heap = h0) (fun _ _ _ _ _ => True) (fun _ U o U' => ∃ v L, o = .returned v ∧ Q_pick Z wWAITING wCOMPLETED wFAILED wCANCELLED wPAUSED wRUNNING p1 r h0 n0 v U'.heap L ∧ FrameEnd U o U' L ({ frames := 0, cells := 0, slots := 0, locals := 0 } : Room).cells ({ frames := 0, cells := 0, slots := 0, locals := 0 } : Room).slots) := by
  refine MetFree.of_bodySF (plainFor_of_name pn_0) hisR ?_
  intro p e s m args below meth c s₁ Bd hml0 hP hK
  obtain ⟨rfl, hZ, hh⟩ := hP
  have hx := Bd.exec
  have hby := Bd.bytes
  have hml : c.maxLocals = 1 := hml0
  have hown : s.vm.findClass "com/example/gather_solvers/gathersolvers/engine/StateEndedPinLaw" = some m.cls := findClass_of_methodNamed Bd.named
  have hnm := (name_of_methodNamed Bd.named Bd.method).1
  have hlk : meth.locks = false := BodyLoose.notSynchronized Bd
  have X0 : Stand p l e ({ frames := 0, cells := 0, slots := 0, locals := 0 } : Room) s m #[(.int p1)] below meth c s₁ [] 0 0 := Stand.of_body Bd
  have e0 : s₁.heap = h0 := by rw [← hh, Bd.state]; rfl
  have N0 := Fr.nil n0
  obtain ⟨G0, G1, G2, G3, G4, G5, G6, G7, G8, G9, G10, G11, G12, G13, G14, G15, G16, G17⟩ := id hG
  show Go p e below (End s (Q_pick Z wWAITING wCOMPLETED wFAILED wCANCELLED wPAUSED wRUNNING p1 r h0 n0) ({ frames := 0, cells := 0, slots := 0, locals := 0 } : Room).cells ({ frames := 0, cells := 0, slots := 0, locals := 0 } : Room).slots) (s₁.setTop (entryFrame m #[(.int p1)] 1))
  rw [ef_pick]
  generalize hP : End s (Q_pick Z wWAITING wCOMPLETED wFAILED wCANCELLED wPAUSED wRUNNING p1 r h0 n0) ({ frames := 0, cells := 0, slots := 0, locals := 0 } : Room).cells ({ frames := 0, cells := 0, slots := 0, locals := 0 } : Room).slots = P
  show Go p e below P (s₁.setTop (mkF m 0 #[.val (.int p1)] []))
  refine Go.by (fun _ => XS.iloadN X0.here hx rfl (hb hby d1_0) rfl) ?_
  show Go p e below P (s₁.setTop (mkF m 1 #[.val (.int p1)] [(.int p1)]))
  by_cases hc1 : p1 = (0 : Int32)
  · refine Go.by (fun _ => XS.ifNo X0.here hx rfl (hb hby d1_1) rfl ((if0 _ _).trans (teq hc1).2)) ?_
    show Go p e below P (s₁.setTop (mkF m 4 #[.val (.int p1)] []))
    obtain ⟨T1, X1, e1, st1⟩ := getS2 X0 hx hZ hown (host := "") (Or.inl (hw _ (List.mem_of_getElem? (i := 5) rfl))) Via.refl e0 (G0.ext O0.2) (g := (mkF m 4 #[.val (.int p1)] [])) rfl (hb hby d1_4)
    refine Go.by (fun _ => st1 _) ?_
    show Go p e below P (T1.setTop (mkF m 7 #[.val (.int p1)] [(.ref wWAITING)]))
    subst hP
    refine Go.retR X1 hx Bd.returns rfl rfl hlk (hb hby d1_7) (Nat.le_of_ble_eq_true rfl) (Nat.le_of_ble_eq_true rfl) ?_
    rw [e1]
    exact ⟨by simp [hr, hc1], N0, rfl⟩
  · refine Go.by (fun _ => XS.ifYes X0.here hx rfl (pc0 := 1) (pc' := 8) rfl (hb hby d1_1) rfl ((if0 _ _).trans (feq hc1).2) (by decide) (by decide)) ?_
    show Go p e below P (s₁.setTop (mkF m 8 #[.val (.int p1)] []))
    refine Go.by (fun _ => XS.iloadN X0.here hx rfl (hb hby d1_8) rfl) ?_
    show Go p e below P (s₁.setTop (mkF m 9 #[.val (.int p1)] [(.int p1)]))
    refine Go.by (fun _ => XS.iconst X0.here hx rfl (hb hby d1_9)) ?_
    show Go p e below P (s₁.setTop (mkF m 10 #[.val (.int p1)] [(.int (1 : Int32)), (.int p1)]))
    by_cases hc10 : p1 = (1 : Int32)
    · refine Go.by (fun _ => XS.icmpNo X0.here hx rfl (hb hby d1_10) rfl (teq hc10).2) ?_
      show Go p e below P (s₁.setTop (mkF m 13 #[.val (.int p1)] []))
      obtain ⟨T2, X2, e2, st2⟩ := getS2 X0 hx hZ hown (host := "") (Or.inl (hw _ (List.mem_of_getElem? (i := 22) rfl))) Via.refl e0 (G15.ext O0.2) (g := (mkF m 13 #[.val (.int p1)] [])) rfl (hb hby d1_13)
      refine Go.by (fun _ => st2 _) ?_
      show Go p e below P (T2.setTop (mkF m 16 #[.val (.int p1)] [(.ref wRUNNING)]))
      subst hP
      refine Go.retR X2 hx Bd.returns rfl rfl hlk (hb hby d1_16) (Nat.le_of_ble_eq_true rfl) (Nat.le_of_ble_eq_true rfl) ?_
      rw [e2]
      exact ⟨by simp [hr, hc1, hc10], N0, rfl⟩
    · refine Go.by (fun _ => XS.icmpYes X0.here hx rfl (pc0 := 10) (pc' := 17) rfl (hb hby d1_10) rfl (feq hc10).2 (by decide) (by decide)) ?_
      show Go p e below P (s₁.setTop (mkF m 17 #[.val (.int p1)] []))
      refine Go.by (fun _ => XS.iloadN X0.here hx rfl (hb hby d1_17) rfl) ?_
      show Go p e below P (s₁.setTop (mkF m 18 #[.val (.int p1)] [(.int p1)]))
      refine Go.by (fun _ => XS.iconst X0.here hx rfl (hb hby d1_18)) ?_
      show Go p e below P (s₁.setTop (mkF m 19 #[.val (.int p1)] [(.int (2 : Int32)), (.int p1)]))
      by_cases hc19 : p1 = (2 : Int32)
      · refine Go.by (fun _ => XS.icmpNo X0.here hx rfl (hb hby d1_19) rfl (teq hc19).2) ?_
        show Go p e below P (s₁.setTop (mkF m 22 #[.val (.int p1)] []))
        obtain ⟨T3, X3, e3, st3⟩ := getS2 X0 hx hZ hown (host := "") (Or.inl (hw _ (List.mem_of_getElem? (i := 20) rfl))) Via.refl e0 (G12.ext O0.2) (g := (mkF m 22 #[.val (.int p1)] [])) rfl (hb hby d1_22)
        refine Go.by (fun _ => st3 _) ?_
        show Go p e below P (T3.setTop (mkF m 25 #[.val (.int p1)] [(.ref wPAUSED)]))
        subst hP
        refine Go.retR X3 hx Bd.returns rfl rfl hlk (hb hby d1_25) (Nat.le_of_ble_eq_true rfl) (Nat.le_of_ble_eq_true rfl) ?_
        rw [e3]
        exact ⟨by simp [hr, hc1, hc10, hc19], N0, rfl⟩
      · refine Go.by (fun _ => XS.icmpYes X0.here hx rfl (pc0 := 19) (pc' := 26) rfl (hb hby d1_19) rfl (feq hc19).2 (by decide) (by decide)) ?_
        show Go p e below P (s₁.setTop (mkF m 26 #[.val (.int p1)] []))
        refine Go.by (fun _ => XS.iloadN X0.here hx rfl (hb hby d1_26) rfl) ?_
        show Go p e below P (s₁.setTop (mkF m 27 #[.val (.int p1)] [(.int p1)]))
        refine Go.by (fun _ => XS.iconst X0.here hx rfl (hb hby d1_27)) ?_
        show Go p e below P (s₁.setTop (mkF m 28 #[.val (.int p1)] [(.int (3 : Int32)), (.int p1)]))
        by_cases hc28 : p1 = (3 : Int32)
        · refine Go.by (fun _ => XS.icmpNo X0.here hx rfl (hb hby d1_28) rfl (teq hc28).2) ?_
          show Go p e below P (s₁.setTop (mkF m 31 #[.val (.int p1)] []))
          obtain ⟨T4, X4, e4, st4⟩ := getS2 X0 hx hZ hown (host := "") (Or.inl (hw _ (List.mem_of_getElem? (i := 19) rfl))) Via.refl e0 (G2.ext O0.2) (g := (mkF m 31 #[.val (.int p1)] [])) rfl (hb hby d1_31)
          refine Go.by (fun _ => st4 _) ?_
          show Go p e below P (T4.setTop (mkF m 34 #[.val (.int p1)] [(.ref wCOMPLETED)]))
          subst hP
          refine Go.retR X4 hx Bd.returns rfl rfl hlk (hb hby d1_34) (Nat.le_of_ble_eq_true rfl) (Nat.le_of_ble_eq_true rfl) ?_
          rw [e4]
          exact ⟨by simp [hr, hc1, hc10, hc19, hc28], N0, rfl⟩
        · refine Go.by (fun _ => XS.icmpYes X0.here hx rfl (pc0 := 28) (pc' := 35) rfl (hb hby d1_28) rfl (feq hc28).2 (by decide) (by decide)) ?_
          show Go p e below P (s₁.setTop (mkF m 35 #[.val (.int p1)] []))
          refine Go.by (fun _ => XS.iloadN X0.here hx rfl (hb hby d1_35) rfl) ?_
          show Go p e below P (s₁.setTop (mkF m 36 #[.val (.int p1)] [(.int p1)]))
          refine Go.by (fun _ => XS.iconst X0.here hx rfl (hb hby d1_36)) ?_
          show Go p e below P (s₁.setTop (mkF m 37 #[.val (.int p1)] [(.int (4 : Int32)), (.int p1)]))
          by_cases hc37 : p1 = (4 : Int32)
          · refine Go.by (fun _ => XS.icmpNo X0.here hx rfl (hb hby d1_37) rfl (teq hc37).2) ?_
            show Go p e below P (s₁.setTop (mkF m 40 #[.val (.int p1)] []))
            obtain ⟨T5, X5, e5, st5⟩ := getS2 X0 hx hZ hown (host := "") (Or.inl (hw _ (List.mem_of_getElem? (i := 25) rfl))) Via.refl e0 (G6.ext O0.2) (g := (mkF m 40 #[.val (.int p1)] [])) rfl (hb hby d1_40)
            refine Go.by (fun _ => st5 _) ?_
            show Go p e below P (T5.setTop (mkF m 43 #[.val (.int p1)] [(.ref wFAILED)]))
            subst hP
            refine Go.retR X5 hx Bd.returns rfl rfl hlk (hb hby d1_43) (Nat.le_of_ble_eq_true rfl) (Nat.le_of_ble_eq_true rfl) ?_
            rw [e5]
            exact ⟨by simp [hr, hc1, hc10, hc19, hc28, hc37], N0, rfl⟩
          · refine Go.by (fun _ => XS.icmpYes X0.here hx rfl (pc0 := 37) (pc' := 44) rfl (hb hby d1_37) rfl (feq hc37).2 (by decide) (by decide)) ?_
            show Go p e below P (s₁.setTop (mkF m 44 #[.val (.int p1)] []))
            obtain ⟨T6, X6, e6, st6⟩ := getS2 X0 hx hZ hown (host := "") (Or.inl (hw _ (List.mem_of_getElem? (i := 24) rfl))) Via.refl e0 (G9.ext O0.2) (g := (mkF m 44 #[.val (.int p1)] [])) rfl (hb hby d1_44)
            refine Go.by (fun _ => st6 _) ?_
            show Go p e below P (T6.setTop (mkF m 47 #[.val (.int p1)] [(.ref wCANCELLED)]))
            subst hP
            refine Go.retR X6 hx Bd.returns rfl rfl hlk (hb hby d1_47) (Nat.le_of_ble_eq_true rfl) (Nat.le_of_ble_eq_true rfl) ?_
            rw [e6]
            exact ⟨by simp [hr, hc1, hc10, hc19, hc28, hc37], N0, rfl⟩
theorem d2_0 : decode prog_19_method_4_code 0 = .ok (.aload_n 0, 1) := by decide +kernel
theorem d2_1 : decode prog_19_method_4_code 1 = .ok (.getstatic 13, 3) := by decide +kernel
theorem d2_4 : decode prog_19_method_4_code 4 = .ok (.if_acmp .eq 17, 3) := by decide +kernel
theorem d2_7 : decode prog_19_method_4_code 7 = .ok (.aload_n 0, 1) := by decide +kernel
theorem d2_8 : decode prog_19_method_4_code 8 = .ok (.getstatic 16, 3) := by decide +kernel
theorem d2_11 : decode prog_19_method_4_code 11 = .ok (.if_acmp .eq 10, 3) := by decide +kernel
theorem d2_14 : decode prog_19_method_4_code 14 = .ok (.aload_n 0, 1) := by decide +kernel
theorem d2_15 : decode prog_19_method_4_code 15 = .ok (.getstatic 19, 3) := by decide +kernel
theorem d2_18 : decode prog_19_method_4_code 18 = .ok (.if_acmp .ne 7, 3) := by decide +kernel
theorem d2_21 : decode prog_19_method_4_code 21 = .ok (.iconst 1, 1) := by decide +kernel
theorem d2_22 : decode prog_19_method_4_code 22 = .ok (.goto 4, 3) := by decide +kernel
theorem d2_25 : decode prog_19_method_4_code 25 = .ok (.iconst 0, 1) := by decide +kernel
theorem d2_26 : decode prog_19_method_4_code 26 = .ok (.ireturn, 1) := by decide +kernel
theorem ef_ended (m : MethodId) (x0 : Addr) : entryFrame m #[(.ref x0)] 1 = mkF m 0 #[.val (.ref x0)] [] := by first | (simp [entryFrame, mkF, argsToLocals, Value.category]; done) | rfl
def Q_ended (Z : State) (wWAITING : Addr) (wCOMPLETED : Addr) (wFAILED : Addr) (wCANCELLED : Addr) (wPAUSED : Addr) (wRUNNING : Addr) (a1 : Addr) (r : Int32) (h0 : Heap) (n0 : Nat) (v : Option Value) (h : Heap) (L : List Loc) : Prop := v = some (.int r) ∧ Fr n0 L ∧ h = h0
set_option maxRecDepth 65536 in
set_option maxHeartbeats 40000000 in
theorem rm_ended (l : Launch) (Z : State) (a0 : Array Value) (hw : ∀ d ∈ tables_1, d.before a0 Z = true) (ws : List Jvm.Cond) (wWAITING : Addr) (wCOMPLETED : Addr) (wFAILED : Addr) (wCANCELLED : Addr) (wPAUSED : Addr) (wRUNNING : Addr) (hG : Glob Z wWAITING wCOMPLETED wFAILED wCANCELLED wPAUSED wRUNNING) (a1 : Addr) (r : Int32) (h0 : Heap) (n0 : Nat) (Z0 : n0 ≤ h0.size) (O0 : Old Z n0 h0) (hr : r = if a1 = wCOMPLETED then 1 else if a1 = wFAILED then 1 else if a1 = wCANCELLED then 1 else 0) :
    MetFree l (⟨"com/example/gather_solvers/gathersolvers/engine/InvokeProgress$State", "ended", "()Z"⟩ : MethodName) (head1 (Jvm.Cond.code (⟨"com/example/gather_solvers/gathersolvers/engine/InvokeProgress$State", "ended", "()Z"⟩ : MethodName) prog_19_method_4_code 1 (some .boolean) :: ws) ({ frames := 0, cells := 0, slots := 0, locals := 0 } : Room)) (fun a U => a = #[(.ref a1)] ∧ Z.Warmed39 U.vm ∧ U.heap = h0) (fun _ _ _ _ _ => True) (fun _ U o U' => ∃ v L, o = .returned v ∧ Q_ended Z wWAITING wCOMPLETED wFAILED wCANCELLED wPAUSED wRUNNING a1 r h0 n0 v U'.heap L ∧ FrameEnd U o U' L ({ frames := 0, cells := 0, slots := 0, locals := 0 } : Room).cells ({ frames := 0, cells := 0, slots := 0, locals := 0 } : Room).slots) := by
  refine MetFree.of_bodySF (plainFor_of_name pn_1) hisR ?_
  intro p e s m args below meth c s₁ Bd hml0 hP hK
  obtain ⟨rfl, hZ, hh⟩ := hP
  have hx := Bd.exec
  have hby := Bd.bytes
  have hml : c.maxLocals = 1 := hml0
  have hown : s.vm.findClass "com/example/gather_solvers/gathersolvers/engine/InvokeProgress$State" = some m.cls := findClass_of_methodNamed Bd.named
  have hnm := (name_of_methodNamed Bd.named Bd.method).1
  have hlk : meth.locks = false := BodyLoose.notSynchronized Bd
  have X0 : Stand p l e ({ frames := 0, cells := 0, slots := 0, locals := 0 } : Room) s m #[(.ref a1)] below meth c s₁ [] 0 0 := Stand.of_body Bd
  have e0 : s₁.heap = h0 := by rw [← hh, Bd.state]; rfl
  have N0 := Fr.nil n0
  obtain ⟨G0, G1, G2, G3, G4, G5, G6, G7, G8, G9, G10, G11, G12, G13, G14, G15, G16, G17⟩ := id hG
  show Go p e below (End s (Q_ended Z wWAITING wCOMPLETED wFAILED wCANCELLED wPAUSED wRUNNING a1 r h0 n0) ({ frames := 0, cells := 0, slots := 0, locals := 0 } : Room).cells ({ frames := 0, cells := 0, slots := 0, locals := 0 } : Room).slots) (s₁.setTop (entryFrame m #[(.ref a1)] 1))
  rw [ef_ended]
  generalize hP : End s (Q_ended Z wWAITING wCOMPLETED wFAILED wCANCELLED wPAUSED wRUNNING a1 r h0 n0) ({ frames := 0, cells := 0, slots := 0, locals := 0 } : Room).cells ({ frames := 0, cells := 0, slots := 0, locals := 0 } : Room).slots = P
  show Go p e below P (s₁.setTop (mkF m 0 #[.val (.ref a1)] []))
  refine Go.by (fun _ => XS.aloadN X0.here hx rfl (hb hby d2_0) rfl rfl) ?_
  show Go p e below P (s₁.setTop (mkF m 1 #[.val (.ref a1)] [(.ref a1)]))
  obtain ⟨T1, X1, e1, st1⟩ := getS2 X0 hx hZ hown (host := "") (Or.inl (hw _ (List.mem_of_getElem? (i := 13) rfl))) Via.refl e0 (G2.ext O0.2) (g := (mkF m 1 #[.val (.ref a1)] [(.ref a1)])) rfl (hb hby d2_1)
  refine Go.by (fun _ => st1 _) ?_
  show Go p e below P (T1.setTop (mkF m 4 #[.val (.ref a1)] [(.ref wCOMPLETED), (.ref a1)]))
  by_cases ha4 : a1 = wCOMPLETED
  · refine Go.by (fun _ => Jvm.RoadKit.acmp (g := (mkF m 4 #[.val (.ref a1)] [(.ref wCOMPLETED), (.ref a1)])) X1 hx rfl rfl rfl (pc0 := 4) (pc' := 21) (same := true) rfl (hb hby d2_4) rfl (decide_eq_true (congrArg Value.ref ha4)) (by decide) (by decide)) ?_
    show Go p e below P (T1.setTop (mkF m 21 #[.val (.ref a1)] []))
    refine Go.by (fun _ => XS.iconst X1.here hx rfl (hb hby d2_21)) ?_
    show Go p e below P (T1.setTop (mkF m 22 #[.val (.ref a1)] [(.int (1 : Int32))]))
    refine Go.by (fun _ => XS.goto X1.here hx rfl (pc0 := 22) (pc' := 26) rfl (hb hby d2_22) (by decide) (by decide)) ?_
    show Go p e below P (T1.setTop (mkF m 26 #[.val (.ref a1)] [(.int (1 : Int32))]))
    subst hP
    refine Go.retZ X1 hx (t := .boolean) Bd.returns (by simp) hlk (hb hby d2_26) (Nat.le_of_ble_eq_true rfl) (Nat.le_of_ble_eq_true rfl) ?_
    rw [e1]
    exact ⟨by simp [hr, own_n1, own_n0, *], N0, rfl⟩
  · refine Go.by (fun _ => Jvm.RoadKit.acmp (g := (mkF m 4 #[.val (.ref a1)] [(.ref wCOMPLETED), (.ref a1)])) X1 hx rfl rfl rfl (pc0 := 4) (pc' := 7) (same := false) rfl (hb hby d2_4) rfl (decide_eq_false fun q => ha4 (Value.ref.inj q)) (by decide) (by decide)) ?_
    show Go p e below P (T1.setTop (mkF m 7 #[.val (.ref a1)] []))
    refine Go.by (fun _ => XS.aloadN X1.here hx rfl (hb hby d2_7) rfl rfl) ?_
    show Go p e below P (T1.setTop (mkF m 8 #[.val (.ref a1)] [(.ref a1)]))
    obtain ⟨T2, X2, e2, st2⟩ := getS2 X1 hx hZ hown (host := "") (Or.inl (hw _ (List.mem_of_getElem? (i := 15) rfl))) Via.refl e1 (G6.ext O0.2) (g := (mkF m 8 #[.val (.ref a1)] [(.ref a1)])) rfl (hb hby d2_8)
    refine Go.by (fun _ => st2 _) ?_
    show Go p e below P (T2.setTop (mkF m 11 #[.val (.ref a1)] [(.ref wFAILED), (.ref a1)]))
    by_cases ha11 : a1 = wFAILED
    · refine Go.by (fun _ => Jvm.RoadKit.acmp (g := (mkF m 11 #[.val (.ref a1)] [(.ref wFAILED), (.ref a1)])) X2 hx rfl rfl rfl (pc0 := 11) (pc' := 21) (same := true) rfl (hb hby d2_11) rfl (decide_eq_true (congrArg Value.ref ha11)) (by decide) (by decide)) ?_
      show Go p e below P (T2.setTop (mkF m 21 #[.val (.ref a1)] []))
      refine Go.by (fun _ => XS.iconst X2.here hx rfl (hb hby d2_21)) ?_
      show Go p e below P (T2.setTop (mkF m 22 #[.val (.ref a1)] [(.int (1 : Int32))]))
      refine Go.by (fun _ => XS.goto X2.here hx rfl (pc0 := 22) (pc' := 26) rfl (hb hby d2_22) (by decide) (by decide)) ?_
      show Go p e below P (T2.setTop (mkF m 26 #[.val (.ref a1)] [(.int (1 : Int32))]))
      subst hP
      refine Go.retZ X2 hx (t := .boolean) Bd.returns (by simp) hlk (hb hby d2_26) (Nat.le_of_ble_eq_true rfl) (Nat.le_of_ble_eq_true rfl) ?_
      rw [e2]
      exact ⟨by simp [hr, own_n1, own_n0, *], N0, rfl⟩
    · refine Go.by (fun _ => Jvm.RoadKit.acmp (g := (mkF m 11 #[.val (.ref a1)] [(.ref wFAILED), (.ref a1)])) X2 hx rfl rfl rfl (pc0 := 11) (pc' := 14) (same := false) rfl (hb hby d2_11) rfl (decide_eq_false fun q => ha11 (Value.ref.inj q)) (by decide) (by decide)) ?_
      show Go p e below P (T2.setTop (mkF m 14 #[.val (.ref a1)] []))
      refine Go.by (fun _ => XS.aloadN X2.here hx rfl (hb hby d2_14) rfl rfl) ?_
      show Go p e below P (T2.setTop (mkF m 15 #[.val (.ref a1)] [(.ref a1)]))
      obtain ⟨T3, X3, e3, st3⟩ := getS2 X2 hx hZ hown (host := "") (Or.inl (hw _ (List.mem_of_getElem? (i := 17) rfl))) Via.refl e2 (G9.ext O0.2) (g := (mkF m 15 #[.val (.ref a1)] [(.ref a1)])) rfl (hb hby d2_15)
      refine Go.by (fun _ => st3 _) ?_
      show Go p e below P (T3.setTop (mkF m 18 #[.val (.ref a1)] [(.ref wCANCELLED), (.ref a1)]))
      by_cases ha18 : a1 = wCANCELLED
      · refine Go.by (fun _ => Jvm.RoadKit.acmp (g := (mkF m 18 #[.val (.ref a1)] [(.ref wCANCELLED), (.ref a1)])) X3 hx rfl rfl rfl (pc0 := 18) (pc' := 21) (same := true) rfl (hb hby d2_18) rfl (decide_eq_true (congrArg Value.ref ha18)) (by decide) (by decide)) ?_
        show Go p e below P (T3.setTop (mkF m 21 #[.val (.ref a1)] []))
        refine Go.by (fun _ => XS.iconst X3.here hx rfl (hb hby d2_21)) ?_
        show Go p e below P (T3.setTop (mkF m 22 #[.val (.ref a1)] [(.int (1 : Int32))]))
        refine Go.by (fun _ => XS.goto X3.here hx rfl (pc0 := 22) (pc' := 26) rfl (hb hby d2_22) (by decide) (by decide)) ?_
        show Go p e below P (T3.setTop (mkF m 26 #[.val (.ref a1)] [(.int (1 : Int32))]))
        subst hP
        refine Go.retZ X3 hx (t := .boolean) Bd.returns (by simp) hlk (hb hby d2_26) (Nat.le_of_ble_eq_true rfl) (Nat.le_of_ble_eq_true rfl) ?_
        rw [e3]
        exact ⟨by simp [hr, own_n1, own_n0, *], N0, rfl⟩
      · refine Go.by (fun _ => Jvm.RoadKit.acmp (g := (mkF m 18 #[.val (.ref a1)] [(.ref wCANCELLED), (.ref a1)])) X3 hx rfl rfl rfl (pc0 := 18) (pc' := 25) (same := false) rfl (hb hby d2_18) rfl (decide_eq_false fun q => ha18 (Value.ref.inj q)) (by decide) (by decide)) ?_
        show Go p e below P (T3.setTop (mkF m 25 #[.val (.ref a1)] []))
        refine Go.by (fun _ => XS.iconst X3.here hx rfl (hb hby d2_25)) ?_
        show Go p e below P (T3.setTop (mkF m 26 #[.val (.ref a1)] [(.int (0 : Int32))]))
        subst hP
        refine Go.retZ X3 hx (t := .boolean) Bd.returns (by simp) hlk (hb hby d2_26) (Nat.le_of_ble_eq_true rfl) (Nat.le_of_ble_eq_true rfl) ?_
        rw [e3]
        exact ⟨by simp [hr, own_n1, own_n0, *], N0, rfl⟩
theorem ef_law (m : MethodId) (x0 : Int32) : entryFrame m #[(.int x0)] maxLocals = mkF m 0 #[.val (.int x0), .unset, .unset, .unset] [] := by first | (simp [entryFrame, mkF, argsToLocals, Value.category, maxLocals]; done) | rfl
def Q_law (Z : State) (wWAITING : Addr) (wCOMPLETED : Addr) (wFAILED : Addr) (wCANCELLED : Addr) (wPAUSED : Addr) (wRUNNING : Addr) (p0 : Int32) (h0 : Heap) (n0 : Nat) (v : Option Value) (h : Heap) (L : List Loc) : Prop := v = some (.int 1) ∧ Fr n0 L
set_option maxRecDepth 65536 in
set_option maxHeartbeats 40000000 in
theorem rm_law (l : Launch) (Z : State) (a0 : Array Value) (hw : ∀ d ∈ tables_1, d.before a0 Z = true) (ws : List Jvm.Cond) (wWAITING : Addr) (wCOMPLETED : Addr) (wFAILED : Addr) (wCANCELLED : Addr) (wPAUSED : Addr) (wRUNNING : Addr) (hG : Glob Z wWAITING wCOMPLETED wFAILED wCANCELLED wPAUSED wRUNNING) (p0 : Int32) (h0 : Heap) (n0 : Nat) (Z0 : n0 ≤ h0.size) (O0 : Old Z n0 h0) :
    MetFree l x (head1 (Jvm.Cond.code x code maxLocals ret :: ws) room_1) (fun a U => a = #[(.int p0)] ∧ Z.Warmed39 U.vm ∧ U.heap = h0) (fun _ _ _ _ _ => True) (fun _ U o U' => ∃ v L, o = .returned v ∧ Q_law Z wWAITING wCOMPLETED wFAILED wCANCELLED wPAUSED wRUNNING p0 h0 n0 v U'.heap L ∧ FrameEnd U o U' L 0 0) := by
  refine MetFree.of_bodySF (plainFor_of_name pn_0) hisR ?_
  intro p e s m args below meth c s₁ Bd hml0 hP hK
  obtain ⟨rfl, hZ, hh⟩ := hP
  have hx := Bd.exec
  have hby := Bd.bytes
  have hml : c.maxLocals = 4 := hml0
  have hown : s.vm.findClass "com/example/gather_solvers/gathersolvers/engine/StateEndedPinLaw" = some m.cls := findClass_of_methodNamed Bd.named
  have hnm := (name_of_methodNamed Bd.named Bd.method).1
  have hlk : meth.locks = false := BodyLoose.notSynchronized Bd
  have X0 : Stand p l e room_1 s m #[(.int p0)] below meth c s₁ [] 0 0 := Stand.of_body Bd
  have e0 : s₁.heap = h0 := by rw [← hh, Bd.state]; rfl
  have N0 := Fr.nil n0
  obtain ⟨G0, G1, G2, G3, G4, G5, G6, G7, G8, G9, G10, G11, G12, G13, G14, G15, G16, G17⟩ := id hG
  show Go p e below (End s (Q_law Z wWAITING wCOMPLETED wFAILED wCANCELLED wPAUSED wRUNNING p0 h0 n0) 0 0) (s₁.setTop (entryFrame m #[(.int p0)] maxLocals))
  rw [ef_law]
  generalize hP : End s (Q_law Z wWAITING wCOMPLETED wFAILED wCANCELLED wPAUSED wRUNNING p0 h0 n0) 0 0 = P
  show Go p e below P (s₁.setTop (mkF m 0 #[.val (.int p0), .unset, .unset, .unset] []))
  refine Go.by (fun _ => XS.iloadN X0.here hx rfl (hb hby at_0) rfl) ?_
  show Go p e below P (s₁.setTop (mkF m 1 #[.val (.int p0), .unset, .unset, .unset] [(.int p0)]))
  refine Go.by (fun _ => X0.ldcInt hx hown (mvT hZ (hw _ (List.mem_of_getElem? (i := 0) rfl))) (g := (mkF m 1 #[.val (.int p0), .unset, .unset, .unset] [(.int p0)])) rfl (hb hby at_1) _) ?_
  show Go p e below P (s₁.setTop (mkF m 3 #[.val (.int p0), .unset, .unset, .unset] [(.int (2147483647 : Int32)), (.int p0)]))
  refine Go.by (fun _ => XS.iand X0.here hx rfl (hb hby at_3) rfl) ?_
  show Go p e below P (s₁.setTop (mkF m 4 #[.val (.int p0), .unset, .unset, .unset] [(.int (p0 &&& (2147483647 : Int32)))]))
  refine Go.by (fun _ => XS.bipush X0.here hx rfl (hb hby at_4)) ?_
  show Go p e below P (s₁.setTop (mkF m 6 #[.val (.int p0), .unset, .unset, .unset] [(.int (6 : Int32)), (.int (p0 &&& (2147483647 : Int32)))]))
  refine Go.by (fun _ => iremM X0 hx rfl (hb hby at_6) rfl (by decide)) ?_
  show Go p e below P (s₁.setTop (mkF m 7 #[.val (.int p0), .unset, .unset, .unset] [(.int ((p0 &&& (2147483647 : Int32)) % (6 : Int32)))]))
  generalize hv_i : ((p0 &&& (2147483647 : Int32)) % (6 : Int32)) = i
  refine Go.by (fun _ => XS.istoreN X0.here hx rfl (hb hby at_7) rfl (l' := #[.val (.int p0), .val (.int i), .unset, .unset]) rfl) ?_
  show Go p e below P (s₁.setTop (mkF m 8 #[.val (.int p0), .val (.int i), .unset, .unset] []))
  have hi := own_lt6 i (hv_i ▸ own_mod6 p0)
  rcases hi with rfl | rfl | rfl | rfl | rfl | rfl
  · show Go p e below P (s₁.setTop (mkF m 8 #[.val (.int p0), .val (.int (0 : Int32)), .unset, .unset] []))
    refine Go.by (fun _ => XS.iloadN X0.here hx rfl (hb hby at_8) rfl) ?_
    show Go p e below P (s₁.setTop (mkF m 9 #[.val (.int p0), .val (.int (0 : Int32)), .unset, .unset] [(.int (0 : Int32))]))
    obtain ⟨_, _, ⟨T1, L1, k1, n1⟩, -, X1, ⟨Lc1, hQ1, l1, y1, z1⟩, st1⟩ := Jvm.LawKit.callS X0 hx (y := (⟨"com/example/gather_solvers/gathersolvers/engine/StateEndedPinLaw", "pick", "(I)Lcom/example/gather_solvers/gathersolvers/engine/InvokeProgress$State;"⟩ : MethodName)) hown (mvT hZ (hw _ (List.mem_of_getElem? (i := 1) rfl))) (mvT hZ (hw _ (List.mem_of_getElem? (i := 2) rfl))) (mvT hZ (hw _ (List.mem_of_getElem? (i := 3) rfl))) (mvT hZ (hw _ (List.mem_of_getElem? (i := 4) rfl))) (by decide) (backOf (W := 0) (rm_pick l Z a0 hw [] wWAITING wCOMPLETED wFAILED wCANCELLED wPAUSED wRUNNING hG ((0 : Int32)) wWAITING h0 n0 Z0 O0  (by simp)) hZ (hw _ (List.mem_of_getElem? (i := 4) rfl)) (hw _ (List.mem_of_getElem? (i := 3) rfl)) (Nat.le_of_ble_eq_true rfl) (Nat.le_of_ble_eq_true rfl)) (g := (mkF m 9 #[.val (.int p0), .val (.int (0 : Int32)), .unset, .unset] [(.int (0 : Int32))])) rfl (by rw [hml]; rfl) (argsL := [(.int (0 : Int32))]) (rest := []) (lenOf pd_0 rfl) rfl (by show 2 * 0 + _ ≤ _; exact Nat.le_of_eq rfl) (hb hby at_9) (fun _ _ => ⟨rfl, e0, (Nat.le_of_ble_eq_true rfl : 0 + 0 ≤ _), (Nat.le_of_ble_eq_true rfl : 0 + 0 ≤ _)⟩)
    dsimp only [Pt.U, Pt.locs, Pt.cells, Pt.slots] at X1 l1 y1 z1 st1 hQ1
    subst l1 y1 z1
    obtain ⟨rfl, Nq1, eq1⟩ := hQ1
    have N1 := Fr.app N0 Nq1
    refine Go.by (fun _ => st1 _) ?_
    show Go p e below P (T1.setTop (mkF m 12 #[.val (.int p0), .val (.int (0 : Int32)), .unset, .unset] [(.ref wWAITING)]))
    refine Go.by (fun _ => XS.astoreN X1.here hx rfl (hb hby at_12) rfl rfl (l' := #[.val (.int p0), .val (.int (0 : Int32)), .val (.ref wWAITING), .unset]) rfl) ?_
    show Go p e below P (T1.setTop (mkF m 13 #[.val (.int p0), .val (.int (0 : Int32)), .val (.ref wWAITING), .unset] []))
    refine Go.by (fun _ => XS.iloadN X1.here hx rfl (hb hby at_13) rfl) ?_
    show Go p e below P (T1.setTop (mkF m 14 #[.val (.int p0), .val (.int (0 : Int32)), .val (.ref wWAITING), .unset] [(.int (0 : Int32))]))
    refine Go.by (fun _ => XS.iconst X1.here hx rfl (hb hby at_14)) ?_
    show Go p e below P (T1.setTop (mkF m 15 #[.val (.int p0), .val (.int (0 : Int32)), .val (.ref wWAITING), .unset] [(.int (3 : Int32)), (.int (0 : Int32))]))
    have hc15 : (0 : Int32) < (3 : Int32) := by decide
    refine Go.by (fun _ => XS.icmpYes X1.here hx rfl (pc0 := 15) (pc' := 22) rfl (hb hby at_15) rfl (tlt hc15).1 (by decide) (by decide)) ?_
    show Go p e below P (T1.setTop (mkF m 22 #[.val (.int p0), .val (.int (0 : Int32)), .val (.ref wWAITING), .unset] []))
    refine Go.by (fun _ => XS.iconst X1.here hx rfl (hb hby at_22)) ?_
    show Go p e below P (T1.setTop (mkF m 23 #[.val (.int p0), .val (.int (0 : Int32)), .val (.ref wWAITING), .unset] [(.int (0 : Int32))]))
    refine Go.by (fun _ => XS.istoreN X1.here hx rfl (hb hby at_23) rfl (l' := #[.val (.int p0), .val (.int (0 : Int32)), .val (.ref wWAITING), .val (.int (0 : Int32))]) rfl) ?_
    show Go p e below P (T1.setTop (mkF m 24 #[.val (.int p0), .val (.int (0 : Int32)), .val (.ref wWAITING), .val (.int (0 : Int32))] []))
    refine Go.by (fun _ => XS.aloadN X1.here hx rfl (hb hby at_24) rfl rfl) ?_
    show Go p e below P (T1.setTop (mkF m 25 #[.val (.int p0), .val (.int (0 : Int32)), .val (.ref wWAITING), .val (.int (0 : Int32))] [(.ref wWAITING)]))
    obtain ⟨cq2, kq2, qa2, qb2, qc2⟩ := isOf hZ eq1 (G1.ext O0.2)
    obtain ⟨_, _, ⟨T2, L2, k2, n2⟩, -, X2, ⟨Lc2, hQ2, l2, y2, z2⟩, st2⟩ := X1.virtualBack hx (y := (⟨"com/example/gather_solvers/gathersolvers/engine/InvokeProgress$State", "ended", "()Z"⟩ : MethodName)) (z := (⟨"com/example/gather_solvers/gathersolvers/engine/InvokeProgress$State", "ended", "()Z"⟩ : MethodName)) hown (mvT hZ (hw _ (List.mem_of_getElem? (i := 8) rfl))) (mvT hZ (hw _ (List.mem_of_getElem? (i := 9) rfl))) (notFace_of_selects (args := #[]) (mvT hZ (hw _ (List.mem_of_getElem? (i := 11) rfl)))) (mvT hZ (hw _ (List.mem_of_getElem? (i := 11) rfl))) (mvT hZ (hw _ (List.mem_of_getElem? (i := 10) rfl))) (by decide) (backOf (W := 0) (rm_ended l Z a0 hw [] wWAITING wCOMPLETED wFAILED wCANCELLED wPAUSED wRUNNING hG wWAITING ((0 : Int32)) h0 n0 Z0 O0  (by simp [(Fld.ne G4 G5 (by decide)), (Fld.ne G4 G8 (by decide)), (Fld.ne G4 G11 (by decide))])) hZ (hw _ (List.mem_of_getElem? (i := 12) rfl)) (hw _ (List.mem_of_getElem? (i := 6) rfl)) (Nat.le_of_ble_eq_true rfl) (Nat.le_of_ble_eq_true rfl)) qa2 qc2 (g := (mkF m 25 #[.val (.int p0), .val (.int (0 : Int32)), .val (.ref wWAITING), .val (.int (0 : Int32))] [(.ref wWAITING)])) rfl (by rw [hml]; rfl) (Steps.refl _) (argsL := []) (rest := []) (lenOf pd_1 rfl) rfl (by show 2 * 0 + _ ≤ _; exact Nat.le_of_eq rfl) (hb hby at_25) (fun _ _ => ⟨rfl, eq1, (Nat.le_of_ble_eq_true rfl : 0 + 0 ≤ _), (Nat.le_of_ble_eq_true rfl : 0 + 0 ≤ _)⟩)
    dsimp only [Pt.U, Pt.locs, Pt.cells, Pt.slots] at X2 l2 y2 z2 st2 hQ2
    subst l2 y2 z2
    obtain ⟨rfl, Nq2, eq2⟩ := hQ2
    have N2 := Fr.app N1 Nq2
    refine Go.by (fun _ k => st2.trans k) ?_
    show Go p e below P (T2.setTop (mkF m 28 #[.val (.int p0), .val (.int (0 : Int32)), .val (.ref wWAITING), .val (.int (0 : Int32))] [(.int (0 : Int32))]))
    refine Go.by (fun _ => XS.iloadN X2.here hx rfl (hb hby at_28) rfl) ?_
    show Go p e below P (T2.setTop (mkF m 29 #[.val (.int p0), .val (.int (0 : Int32)), .val (.ref wWAITING), .val (.int (0 : Int32))] [(.int (0 : Int32)), (.int (0 : Int32))]))
    have hc29 : (0 : Int32) = (0 : Int32) := by decide
    refine Go.by (fun _ => XS.icmpNo X2.here hx rfl (hb hby at_29) rfl (teq hc29).2) ?_
    show Go p e below P (T2.setTop (mkF m 32 #[.val (.int p0), .val (.int (0 : Int32)), .val (.ref wWAITING), .val (.int (0 : Int32))] []))
    refine Go.by (fun _ => XS.iconst X2.here hx rfl (hb hby at_32)) ?_
    show Go p e below P (T2.setTop (mkF m 33 #[.val (.int p0), .val (.int (0 : Int32)), .val (.ref wWAITING), .val (.int (0 : Int32))] [(.int (1 : Int32))]))
    refine Go.by (fun _ => XS.goto X2.here hx rfl (pc0 := 33) (pc' := 37) rfl (hb hby at_33) (by decide) (by decide)) ?_
    show Go p e below P (T2.setTop (mkF m 37 #[.val (.int p0), .val (.int (0 : Int32)), .val (.ref wWAITING), .val (.int (0 : Int32))] [(.int (1 : Int32))]))
    subst hP
    refine Go.retZ X2 hx (t := .boolean) Bd.returns (by simp) hlk (hb hby at_37) (Nat.le_of_ble_eq_true rfl) (Nat.le_of_ble_eq_true rfl) ?_
    rw [eq2]
    exact ⟨rfl, N2⟩
  · show Go p e below P (s₁.setTop (mkF m 8 #[.val (.int p0), .val (.int (1 : Int32)), .unset, .unset] []))
    refine Go.by (fun _ => XS.iloadN X0.here hx rfl (hb hby at_8) rfl) ?_
    show Go p e below P (s₁.setTop (mkF m 9 #[.val (.int p0), .val (.int (1 : Int32)), .unset, .unset] [(.int (1 : Int32))]))
    obtain ⟨_, _, ⟨T3, L3, k3, n3⟩, -, X3, ⟨Lc3, hQ3, l3, y3, z3⟩, st3⟩ := Jvm.LawKit.callS X0 hx (y := (⟨"com/example/gather_solvers/gathersolvers/engine/StateEndedPinLaw", "pick", "(I)Lcom/example/gather_solvers/gathersolvers/engine/InvokeProgress$State;"⟩ : MethodName)) hown (mvT hZ (hw _ (List.mem_of_getElem? (i := 1) rfl))) (mvT hZ (hw _ (List.mem_of_getElem? (i := 2) rfl))) (mvT hZ (hw _ (List.mem_of_getElem? (i := 3) rfl))) (mvT hZ (hw _ (List.mem_of_getElem? (i := 4) rfl))) (by decide) (backOf (W := 0) (rm_pick l Z a0 hw [] wWAITING wCOMPLETED wFAILED wCANCELLED wPAUSED wRUNNING hG ((1 : Int32)) wRUNNING h0 n0 Z0 O0  (by simp)) hZ (hw _ (List.mem_of_getElem? (i := 4) rfl)) (hw _ (List.mem_of_getElem? (i := 3) rfl)) (Nat.le_of_ble_eq_true rfl) (Nat.le_of_ble_eq_true rfl)) (g := (mkF m 9 #[.val (.int p0), .val (.int (1 : Int32)), .unset, .unset] [(.int (1 : Int32))])) rfl (by rw [hml]; rfl) (argsL := [(.int (1 : Int32))]) (rest := []) (lenOf pd_0 rfl) rfl (by show 2 * 0 + _ ≤ _; exact Nat.le_of_eq rfl) (hb hby at_9) (fun _ _ => ⟨rfl, e0, (Nat.le_of_ble_eq_true rfl : 0 + 0 ≤ _), (Nat.le_of_ble_eq_true rfl : 0 + 0 ≤ _)⟩)
    dsimp only [Pt.U, Pt.locs, Pt.cells, Pt.slots] at X3 l3 y3 z3 st3 hQ3
    subst l3 y3 z3
    obtain ⟨rfl, Nq3, eq3⟩ := hQ3
    have N3 := Fr.app N0 Nq3
    refine Go.by (fun _ => st3 _) ?_
    show Go p e below P (T3.setTop (mkF m 12 #[.val (.int p0), .val (.int (1 : Int32)), .unset, .unset] [(.ref wRUNNING)]))
    refine Go.by (fun _ => XS.astoreN X3.here hx rfl (hb hby at_12) rfl rfl (l' := #[.val (.int p0), .val (.int (1 : Int32)), .val (.ref wRUNNING), .unset]) rfl) ?_
    show Go p e below P (T3.setTop (mkF m 13 #[.val (.int p0), .val (.int (1 : Int32)), .val (.ref wRUNNING), .unset] []))
    refine Go.by (fun _ => XS.iloadN X3.here hx rfl (hb hby at_13) rfl) ?_
    show Go p e below P (T3.setTop (mkF m 14 #[.val (.int p0), .val (.int (1 : Int32)), .val (.ref wRUNNING), .unset] [(.int (1 : Int32))]))
    refine Go.by (fun _ => XS.iconst X3.here hx rfl (hb hby at_14)) ?_
    show Go p e below P (T3.setTop (mkF m 15 #[.val (.int p0), .val (.int (1 : Int32)), .val (.ref wRUNNING), .unset] [(.int (3 : Int32)), (.int (1 : Int32))]))
    have hc15 : (1 : Int32) < (3 : Int32) := by decide
    refine Go.by (fun _ => XS.icmpYes X3.here hx rfl (pc0 := 15) (pc' := 22) rfl (hb hby at_15) rfl (tlt hc15).1 (by decide) (by decide)) ?_
    show Go p e below P (T3.setTop (mkF m 22 #[.val (.int p0), .val (.int (1 : Int32)), .val (.ref wRUNNING), .unset] []))
    refine Go.by (fun _ => XS.iconst X3.here hx rfl (hb hby at_22)) ?_
    show Go p e below P (T3.setTop (mkF m 23 #[.val (.int p0), .val (.int (1 : Int32)), .val (.ref wRUNNING), .unset] [(.int (0 : Int32))]))
    refine Go.by (fun _ => XS.istoreN X3.here hx rfl (hb hby at_23) rfl (l' := #[.val (.int p0), .val (.int (1 : Int32)), .val (.ref wRUNNING), .val (.int (0 : Int32))]) rfl) ?_
    show Go p e below P (T3.setTop (mkF m 24 #[.val (.int p0), .val (.int (1 : Int32)), .val (.ref wRUNNING), .val (.int (0 : Int32))] []))
    refine Go.by (fun _ => XS.aloadN X3.here hx rfl (hb hby at_24) rfl rfl) ?_
    show Go p e below P (T3.setTop (mkF m 25 #[.val (.int p0), .val (.int (1 : Int32)), .val (.ref wRUNNING), .val (.int (0 : Int32))] [(.ref wRUNNING)]))
    obtain ⟨cq4, kq4, qa4, qb4, qc4⟩ := isOf hZ eq3 (G16.ext O0.2)
    obtain ⟨_, _, ⟨T4, L4, k4, n4⟩, -, X4, ⟨Lc4, hQ4, l4, y4, z4⟩, st4⟩ := X3.virtualBack hx (y := (⟨"com/example/gather_solvers/gathersolvers/engine/InvokeProgress$State", "ended", "()Z"⟩ : MethodName)) (z := (⟨"com/example/gather_solvers/gathersolvers/engine/InvokeProgress$State", "ended", "()Z"⟩ : MethodName)) hown (mvT hZ (hw _ (List.mem_of_getElem? (i := 8) rfl))) (mvT hZ (hw _ (List.mem_of_getElem? (i := 9) rfl))) (notFace_of_selects (args := #[]) (mvT hZ (hw _ (List.mem_of_getElem? (i := 11) rfl)))) (mvT hZ (hw _ (List.mem_of_getElem? (i := 11) rfl))) (mvT hZ (hw _ (List.mem_of_getElem? (i := 10) rfl))) (by decide) (backOf (W := 0) (rm_ended l Z a0 hw [] wWAITING wCOMPLETED wFAILED wCANCELLED wPAUSED wRUNNING hG wRUNNING ((0 : Int32)) h0 n0 Z0 O0  (by simp [(Fld.ne G17 G5 (by decide)), (Fld.ne G17 G8 (by decide)), (Fld.ne G17 G11 (by decide))])) hZ (hw _ (List.mem_of_getElem? (i := 12) rfl)) (hw _ (List.mem_of_getElem? (i := 6) rfl)) (Nat.le_of_ble_eq_true rfl) (Nat.le_of_ble_eq_true rfl)) qa4 qc4 (g := (mkF m 25 #[.val (.int p0), .val (.int (1 : Int32)), .val (.ref wRUNNING), .val (.int (0 : Int32))] [(.ref wRUNNING)])) rfl (by rw [hml]; rfl) (Steps.refl _) (argsL := []) (rest := []) (lenOf pd_1 rfl) rfl (by show 2 * 0 + _ ≤ _; exact Nat.le_of_eq rfl) (hb hby at_25) (fun _ _ => ⟨rfl, eq3, (Nat.le_of_ble_eq_true rfl : 0 + 0 ≤ _), (Nat.le_of_ble_eq_true rfl : 0 + 0 ≤ _)⟩)
    dsimp only [Pt.U, Pt.locs, Pt.cells, Pt.slots] at X4 l4 y4 z4 st4 hQ4
    subst l4 y4 z4
    obtain ⟨rfl, Nq4, eq4⟩ := hQ4
    have N4 := Fr.app N3 Nq4
    refine Go.by (fun _ k => st4.trans k) ?_
    show Go p e below P (T4.setTop (mkF m 28 #[.val (.int p0), .val (.int (1 : Int32)), .val (.ref wRUNNING), .val (.int (0 : Int32))] [(.int (0 : Int32))]))
    refine Go.by (fun _ => XS.iloadN X4.here hx rfl (hb hby at_28) rfl) ?_
    show Go p e below P (T4.setTop (mkF m 29 #[.val (.int p0), .val (.int (1 : Int32)), .val (.ref wRUNNING), .val (.int (0 : Int32))] [(.int (0 : Int32)), (.int (0 : Int32))]))
    have hc29 : (0 : Int32) = (0 : Int32) := by decide
    refine Go.by (fun _ => XS.icmpNo X4.here hx rfl (hb hby at_29) rfl (teq hc29).2) ?_
    show Go p e below P (T4.setTop (mkF m 32 #[.val (.int p0), .val (.int (1 : Int32)), .val (.ref wRUNNING), .val (.int (0 : Int32))] []))
    refine Go.by (fun _ => XS.iconst X4.here hx rfl (hb hby at_32)) ?_
    show Go p e below P (T4.setTop (mkF m 33 #[.val (.int p0), .val (.int (1 : Int32)), .val (.ref wRUNNING), .val (.int (0 : Int32))] [(.int (1 : Int32))]))
    refine Go.by (fun _ => XS.goto X4.here hx rfl (pc0 := 33) (pc' := 37) rfl (hb hby at_33) (by decide) (by decide)) ?_
    show Go p e below P (T4.setTop (mkF m 37 #[.val (.int p0), .val (.int (1 : Int32)), .val (.ref wRUNNING), .val (.int (0 : Int32))] [(.int (1 : Int32))]))
    subst hP
    refine Go.retZ X4 hx (t := .boolean) Bd.returns (by simp) hlk (hb hby at_37) (Nat.le_of_ble_eq_true rfl) (Nat.le_of_ble_eq_true rfl) ?_
    rw [eq4]
    exact ⟨rfl, N4⟩
  · show Go p e below P (s₁.setTop (mkF m 8 #[.val (.int p0), .val (.int (2 : Int32)), .unset, .unset] []))
    refine Go.by (fun _ => XS.iloadN X0.here hx rfl (hb hby at_8) rfl) ?_
    show Go p e below P (s₁.setTop (mkF m 9 #[.val (.int p0), .val (.int (2 : Int32)), .unset, .unset] [(.int (2 : Int32))]))
    obtain ⟨_, _, ⟨T5, L5, k5, n5⟩, -, X5, ⟨Lc5, hQ5, l5, y5, z5⟩, st5⟩ := Jvm.LawKit.callS X0 hx (y := (⟨"com/example/gather_solvers/gathersolvers/engine/StateEndedPinLaw", "pick", "(I)Lcom/example/gather_solvers/gathersolvers/engine/InvokeProgress$State;"⟩ : MethodName)) hown (mvT hZ (hw _ (List.mem_of_getElem? (i := 1) rfl))) (mvT hZ (hw _ (List.mem_of_getElem? (i := 2) rfl))) (mvT hZ (hw _ (List.mem_of_getElem? (i := 3) rfl))) (mvT hZ (hw _ (List.mem_of_getElem? (i := 4) rfl))) (by decide) (backOf (W := 0) (rm_pick l Z a0 hw [] wWAITING wCOMPLETED wFAILED wCANCELLED wPAUSED wRUNNING hG ((2 : Int32)) wPAUSED h0 n0 Z0 O0  (by simp)) hZ (hw _ (List.mem_of_getElem? (i := 4) rfl)) (hw _ (List.mem_of_getElem? (i := 3) rfl)) (Nat.le_of_ble_eq_true rfl) (Nat.le_of_ble_eq_true rfl)) (g := (mkF m 9 #[.val (.int p0), .val (.int (2 : Int32)), .unset, .unset] [(.int (2 : Int32))])) rfl (by rw [hml]; rfl) (argsL := [(.int (2 : Int32))]) (rest := []) (lenOf pd_0 rfl) rfl (by show 2 * 0 + _ ≤ _; exact Nat.le_of_eq rfl) (hb hby at_9) (fun _ _ => ⟨rfl, e0, (Nat.le_of_ble_eq_true rfl : 0 + 0 ≤ _), (Nat.le_of_ble_eq_true rfl : 0 + 0 ≤ _)⟩)
    dsimp only [Pt.U, Pt.locs, Pt.cells, Pt.slots] at X5 l5 y5 z5 st5 hQ5
    subst l5 y5 z5
    obtain ⟨rfl, Nq5, eq5⟩ := hQ5
    have N5 := Fr.app N0 Nq5
    refine Go.by (fun _ => st5 _) ?_
    show Go p e below P (T5.setTop (mkF m 12 #[.val (.int p0), .val (.int (2 : Int32)), .unset, .unset] [(.ref wPAUSED)]))
    refine Go.by (fun _ => XS.astoreN X5.here hx rfl (hb hby at_12) rfl rfl (l' := #[.val (.int p0), .val (.int (2 : Int32)), .val (.ref wPAUSED), .unset]) rfl) ?_
    show Go p e below P (T5.setTop (mkF m 13 #[.val (.int p0), .val (.int (2 : Int32)), .val (.ref wPAUSED), .unset] []))
    refine Go.by (fun _ => XS.iloadN X5.here hx rfl (hb hby at_13) rfl) ?_
    show Go p e below P (T5.setTop (mkF m 14 #[.val (.int p0), .val (.int (2 : Int32)), .val (.ref wPAUSED), .unset] [(.int (2 : Int32))]))
    refine Go.by (fun _ => XS.iconst X5.here hx rfl (hb hby at_14)) ?_
    show Go p e below P (T5.setTop (mkF m 15 #[.val (.int p0), .val (.int (2 : Int32)), .val (.ref wPAUSED), .unset] [(.int (3 : Int32)), (.int (2 : Int32))]))
    have hc15 : (2 : Int32) < (3 : Int32) := by decide
    refine Go.by (fun _ => XS.icmpYes X5.here hx rfl (pc0 := 15) (pc' := 22) rfl (hb hby at_15) rfl (tlt hc15).1 (by decide) (by decide)) ?_
    show Go p e below P (T5.setTop (mkF m 22 #[.val (.int p0), .val (.int (2 : Int32)), .val (.ref wPAUSED), .unset] []))
    refine Go.by (fun _ => XS.iconst X5.here hx rfl (hb hby at_22)) ?_
    show Go p e below P (T5.setTop (mkF m 23 #[.val (.int p0), .val (.int (2 : Int32)), .val (.ref wPAUSED), .unset] [(.int (0 : Int32))]))
    refine Go.by (fun _ => XS.istoreN X5.here hx rfl (hb hby at_23) rfl (l' := #[.val (.int p0), .val (.int (2 : Int32)), .val (.ref wPAUSED), .val (.int (0 : Int32))]) rfl) ?_
    show Go p e below P (T5.setTop (mkF m 24 #[.val (.int p0), .val (.int (2 : Int32)), .val (.ref wPAUSED), .val (.int (0 : Int32))] []))
    refine Go.by (fun _ => XS.aloadN X5.here hx rfl (hb hby at_24) rfl rfl) ?_
    show Go p e below P (T5.setTop (mkF m 25 #[.val (.int p0), .val (.int (2 : Int32)), .val (.ref wPAUSED), .val (.int (0 : Int32))] [(.ref wPAUSED)]))
    obtain ⟨cq6, kq6, qa6, qb6, qc6⟩ := isOf hZ eq5 (G13.ext O0.2)
    obtain ⟨_, _, ⟨T6, L6, k6, n6⟩, -, X6, ⟨Lc6, hQ6, l6, y6, z6⟩, st6⟩ := X5.virtualBack hx (y := (⟨"com/example/gather_solvers/gathersolvers/engine/InvokeProgress$State", "ended", "()Z"⟩ : MethodName)) (z := (⟨"com/example/gather_solvers/gathersolvers/engine/InvokeProgress$State", "ended", "()Z"⟩ : MethodName)) hown (mvT hZ (hw _ (List.mem_of_getElem? (i := 8) rfl))) (mvT hZ (hw _ (List.mem_of_getElem? (i := 9) rfl))) (notFace_of_selects (args := #[]) (mvT hZ (hw _ (List.mem_of_getElem? (i := 11) rfl)))) (mvT hZ (hw _ (List.mem_of_getElem? (i := 11) rfl))) (mvT hZ (hw _ (List.mem_of_getElem? (i := 10) rfl))) (by decide) (backOf (W := 0) (rm_ended l Z a0 hw [] wWAITING wCOMPLETED wFAILED wCANCELLED wPAUSED wRUNNING hG wPAUSED ((0 : Int32)) h0 n0 Z0 O0  (by simp [(Fld.ne G14 G5 (by decide)), (Fld.ne G14 G8 (by decide)), (Fld.ne G14 G11 (by decide))])) hZ (hw _ (List.mem_of_getElem? (i := 12) rfl)) (hw _ (List.mem_of_getElem? (i := 6) rfl)) (Nat.le_of_ble_eq_true rfl) (Nat.le_of_ble_eq_true rfl)) qa6 qc6 (g := (mkF m 25 #[.val (.int p0), .val (.int (2 : Int32)), .val (.ref wPAUSED), .val (.int (0 : Int32))] [(.ref wPAUSED)])) rfl (by rw [hml]; rfl) (Steps.refl _) (argsL := []) (rest := []) (lenOf pd_1 rfl) rfl (by show 2 * 0 + _ ≤ _; exact Nat.le_of_eq rfl) (hb hby at_25) (fun _ _ => ⟨rfl, eq5, (Nat.le_of_ble_eq_true rfl : 0 + 0 ≤ _), (Nat.le_of_ble_eq_true rfl : 0 + 0 ≤ _)⟩)
    dsimp only [Pt.U, Pt.locs, Pt.cells, Pt.slots] at X6 l6 y6 z6 st6 hQ6
    subst l6 y6 z6
    obtain ⟨rfl, Nq6, eq6⟩ := hQ6
    have N6 := Fr.app N5 Nq6
    refine Go.by (fun _ k => st6.trans k) ?_
    show Go p e below P (T6.setTop (mkF m 28 #[.val (.int p0), .val (.int (2 : Int32)), .val (.ref wPAUSED), .val (.int (0 : Int32))] [(.int (0 : Int32))]))
    refine Go.by (fun _ => XS.iloadN X6.here hx rfl (hb hby at_28) rfl) ?_
    show Go p e below P (T6.setTop (mkF m 29 #[.val (.int p0), .val (.int (2 : Int32)), .val (.ref wPAUSED), .val (.int (0 : Int32))] [(.int (0 : Int32)), (.int (0 : Int32))]))
    have hc29 : (0 : Int32) = (0 : Int32) := by decide
    refine Go.by (fun _ => XS.icmpNo X6.here hx rfl (hb hby at_29) rfl (teq hc29).2) ?_
    show Go p e below P (T6.setTop (mkF m 32 #[.val (.int p0), .val (.int (2 : Int32)), .val (.ref wPAUSED), .val (.int (0 : Int32))] []))
    refine Go.by (fun _ => XS.iconst X6.here hx rfl (hb hby at_32)) ?_
    show Go p e below P (T6.setTop (mkF m 33 #[.val (.int p0), .val (.int (2 : Int32)), .val (.ref wPAUSED), .val (.int (0 : Int32))] [(.int (1 : Int32))]))
    refine Go.by (fun _ => XS.goto X6.here hx rfl (pc0 := 33) (pc' := 37) rfl (hb hby at_33) (by decide) (by decide)) ?_
    show Go p e below P (T6.setTop (mkF m 37 #[.val (.int p0), .val (.int (2 : Int32)), .val (.ref wPAUSED), .val (.int (0 : Int32))] [(.int (1 : Int32))]))
    subst hP
    refine Go.retZ X6 hx (t := .boolean) Bd.returns (by simp) hlk (hb hby at_37) (Nat.le_of_ble_eq_true rfl) (Nat.le_of_ble_eq_true rfl) ?_
    rw [eq6]
    exact ⟨rfl, N6⟩
  · show Go p e below P (s₁.setTop (mkF m 8 #[.val (.int p0), .val (.int (3 : Int32)), .unset, .unset] []))
    refine Go.by (fun _ => XS.iloadN X0.here hx rfl (hb hby at_8) rfl) ?_
    show Go p e below P (s₁.setTop (mkF m 9 #[.val (.int p0), .val (.int (3 : Int32)), .unset, .unset] [(.int (3 : Int32))]))
    obtain ⟨_, _, ⟨T7, L7, k7, n7⟩, -, X7, ⟨Lc7, hQ7, l7, y7, z7⟩, st7⟩ := Jvm.LawKit.callS X0 hx (y := (⟨"com/example/gather_solvers/gathersolvers/engine/StateEndedPinLaw", "pick", "(I)Lcom/example/gather_solvers/gathersolvers/engine/InvokeProgress$State;"⟩ : MethodName)) hown (mvT hZ (hw _ (List.mem_of_getElem? (i := 1) rfl))) (mvT hZ (hw _ (List.mem_of_getElem? (i := 2) rfl))) (mvT hZ (hw _ (List.mem_of_getElem? (i := 3) rfl))) (mvT hZ (hw _ (List.mem_of_getElem? (i := 4) rfl))) (by decide) (backOf (W := 0) (rm_pick l Z a0 hw [] wWAITING wCOMPLETED wFAILED wCANCELLED wPAUSED wRUNNING hG ((3 : Int32)) wCOMPLETED h0 n0 Z0 O0  (by simp)) hZ (hw _ (List.mem_of_getElem? (i := 4) rfl)) (hw _ (List.mem_of_getElem? (i := 3) rfl)) (Nat.le_of_ble_eq_true rfl) (Nat.le_of_ble_eq_true rfl)) (g := (mkF m 9 #[.val (.int p0), .val (.int (3 : Int32)), .unset, .unset] [(.int (3 : Int32))])) rfl (by rw [hml]; rfl) (argsL := [(.int (3 : Int32))]) (rest := []) (lenOf pd_0 rfl) rfl (by show 2 * 0 + _ ≤ _; exact Nat.le_of_eq rfl) (hb hby at_9) (fun _ _ => ⟨rfl, e0, (Nat.le_of_ble_eq_true rfl : 0 + 0 ≤ _), (Nat.le_of_ble_eq_true rfl : 0 + 0 ≤ _)⟩)
    dsimp only [Pt.U, Pt.locs, Pt.cells, Pt.slots] at X7 l7 y7 z7 st7 hQ7
    subst l7 y7 z7
    obtain ⟨rfl, Nq7, eq7⟩ := hQ7
    have N7 := Fr.app N0 Nq7
    refine Go.by (fun _ => st7 _) ?_
    show Go p e below P (T7.setTop (mkF m 12 #[.val (.int p0), .val (.int (3 : Int32)), .unset, .unset] [(.ref wCOMPLETED)]))
    refine Go.by (fun _ => XS.astoreN X7.here hx rfl (hb hby at_12) rfl rfl (l' := #[.val (.int p0), .val (.int (3 : Int32)), .val (.ref wCOMPLETED), .unset]) rfl) ?_
    show Go p e below P (T7.setTop (mkF m 13 #[.val (.int p0), .val (.int (3 : Int32)), .val (.ref wCOMPLETED), .unset] []))
    refine Go.by (fun _ => XS.iloadN X7.here hx rfl (hb hby at_13) rfl) ?_
    show Go p e below P (T7.setTop (mkF m 14 #[.val (.int p0), .val (.int (3 : Int32)), .val (.ref wCOMPLETED), .unset] [(.int (3 : Int32))]))
    refine Go.by (fun _ => XS.iconst X7.here hx rfl (hb hby at_14)) ?_
    show Go p e below P (T7.setTop (mkF m 15 #[.val (.int p0), .val (.int (3 : Int32)), .val (.ref wCOMPLETED), .unset] [(.int (3 : Int32)), (.int (3 : Int32))]))
    have hc15 : ¬ ((3 : Int32) < (3 : Int32)) := by decide
    refine Go.by (fun _ => XS.icmpNo X7.here hx rfl (hb hby at_15) rfl (flt hc15).1) ?_
    show Go p e below P (T7.setTop (mkF m 18 #[.val (.int p0), .val (.int (3 : Int32)), .val (.ref wCOMPLETED), .unset] []))
    refine Go.by (fun _ => XS.iconst X7.here hx rfl (hb hby at_18)) ?_
    show Go p e below P (T7.setTop (mkF m 19 #[.val (.int p0), .val (.int (3 : Int32)), .val (.ref wCOMPLETED), .unset] [(.int (1 : Int32))]))
    refine Go.by (fun _ => XS.goto X7.here hx rfl (pc0 := 19) (pc' := 23) rfl (hb hby at_19) (by decide) (by decide)) ?_
    show Go p e below P (T7.setTop (mkF m 23 #[.val (.int p0), .val (.int (3 : Int32)), .val (.ref wCOMPLETED), .unset] [(.int (1 : Int32))]))
    refine Go.by (fun _ => XS.istoreN X7.here hx rfl (hb hby at_23) rfl (l' := #[.val (.int p0), .val (.int (3 : Int32)), .val (.ref wCOMPLETED), .val (.int (1 : Int32))]) rfl) ?_
    show Go p e below P (T7.setTop (mkF m 24 #[.val (.int p0), .val (.int (3 : Int32)), .val (.ref wCOMPLETED), .val (.int (1 : Int32))] []))
    refine Go.by (fun _ => XS.aloadN X7.here hx rfl (hb hby at_24) rfl rfl) ?_
    show Go p e below P (T7.setTop (mkF m 25 #[.val (.int p0), .val (.int (3 : Int32)), .val (.ref wCOMPLETED), .val (.int (1 : Int32))] [(.ref wCOMPLETED)]))
    obtain ⟨cq8, kq8, qa8, qb8, qc8⟩ := isOf hZ eq7 (G3.ext O0.2)
    obtain ⟨_, _, ⟨T8, L8, k8, n8⟩, -, X8, ⟨Lc8, hQ8, l8, y8, z8⟩, st8⟩ := X7.virtualBack hx (y := (⟨"com/example/gather_solvers/gathersolvers/engine/InvokeProgress$State", "ended", "()Z"⟩ : MethodName)) (z := (⟨"com/example/gather_solvers/gathersolvers/engine/InvokeProgress$State", "ended", "()Z"⟩ : MethodName)) hown (mvT hZ (hw _ (List.mem_of_getElem? (i := 8) rfl))) (mvT hZ (hw _ (List.mem_of_getElem? (i := 9) rfl))) (notFace_of_selects (args := #[]) (mvT hZ (hw _ (List.mem_of_getElem? (i := 11) rfl)))) (mvT hZ (hw _ (List.mem_of_getElem? (i := 11) rfl))) (mvT hZ (hw _ (List.mem_of_getElem? (i := 10) rfl))) (by decide) (backOf (W := 0) (rm_ended l Z a0 hw [] wWAITING wCOMPLETED wFAILED wCANCELLED wPAUSED wRUNNING hG wCOMPLETED ((1 : Int32)) h0 n0 Z0 O0  (by simp [(Fld.ne G5 G8 (by decide)), (Fld.ne G5 G11 (by decide))])) hZ (hw _ (List.mem_of_getElem? (i := 12) rfl)) (hw _ (List.mem_of_getElem? (i := 6) rfl)) (Nat.le_of_ble_eq_true rfl) (Nat.le_of_ble_eq_true rfl)) qa8 qc8 (g := (mkF m 25 #[.val (.int p0), .val (.int (3 : Int32)), .val (.ref wCOMPLETED), .val (.int (1 : Int32))] [(.ref wCOMPLETED)])) rfl (by rw [hml]; rfl) (Steps.refl _) (argsL := []) (rest := []) (lenOf pd_1 rfl) rfl (by show 2 * 0 + _ ≤ _; exact Nat.le_of_eq rfl) (hb hby at_25) (fun _ _ => ⟨rfl, eq7, (Nat.le_of_ble_eq_true rfl : 0 + 0 ≤ _), (Nat.le_of_ble_eq_true rfl : 0 + 0 ≤ _)⟩)
    dsimp only [Pt.U, Pt.locs, Pt.cells, Pt.slots] at X8 l8 y8 z8 st8 hQ8
    subst l8 y8 z8
    obtain ⟨rfl, Nq8, eq8⟩ := hQ8
    have N8 := Fr.app N7 Nq8
    refine Go.by (fun _ k => st8.trans k) ?_
    show Go p e below P (T8.setTop (mkF m 28 #[.val (.int p0), .val (.int (3 : Int32)), .val (.ref wCOMPLETED), .val (.int (1 : Int32))] [(.int (1 : Int32))]))
    refine Go.by (fun _ => XS.iloadN X8.here hx rfl (hb hby at_28) rfl) ?_
    show Go p e below P (T8.setTop (mkF m 29 #[.val (.int p0), .val (.int (3 : Int32)), .val (.ref wCOMPLETED), .val (.int (1 : Int32))] [(.int (1 : Int32)), (.int (1 : Int32))]))
    have hc29 : (1 : Int32) = (1 : Int32) := by decide
    refine Go.by (fun _ => XS.icmpNo X8.here hx rfl (hb hby at_29) rfl (teq hc29).2) ?_
    show Go p e below P (T8.setTop (mkF m 32 #[.val (.int p0), .val (.int (3 : Int32)), .val (.ref wCOMPLETED), .val (.int (1 : Int32))] []))
    refine Go.by (fun _ => XS.iconst X8.here hx rfl (hb hby at_32)) ?_
    show Go p e below P (T8.setTop (mkF m 33 #[.val (.int p0), .val (.int (3 : Int32)), .val (.ref wCOMPLETED), .val (.int (1 : Int32))] [(.int (1 : Int32))]))
    refine Go.by (fun _ => XS.goto X8.here hx rfl (pc0 := 33) (pc' := 37) rfl (hb hby at_33) (by decide) (by decide)) ?_
    show Go p e below P (T8.setTop (mkF m 37 #[.val (.int p0), .val (.int (3 : Int32)), .val (.ref wCOMPLETED), .val (.int (1 : Int32))] [(.int (1 : Int32))]))
    subst hP
    refine Go.retZ X8 hx (t := .boolean) Bd.returns (by simp) hlk (hb hby at_37) (Nat.le_of_ble_eq_true rfl) (Nat.le_of_ble_eq_true rfl) ?_
    rw [eq8]
    exact ⟨rfl, N8⟩
  · show Go p e below P (s₁.setTop (mkF m 8 #[.val (.int p0), .val (.int (4 : Int32)), .unset, .unset] []))
    refine Go.by (fun _ => XS.iloadN X0.here hx rfl (hb hby at_8) rfl) ?_
    show Go p e below P (s₁.setTop (mkF m 9 #[.val (.int p0), .val (.int (4 : Int32)), .unset, .unset] [(.int (4 : Int32))]))
    obtain ⟨_, _, ⟨T9, L9, k9, n9⟩, -, X9, ⟨Lc9, hQ9, l9, y9, z9⟩, st9⟩ := Jvm.LawKit.callS X0 hx (y := (⟨"com/example/gather_solvers/gathersolvers/engine/StateEndedPinLaw", "pick", "(I)Lcom/example/gather_solvers/gathersolvers/engine/InvokeProgress$State;"⟩ : MethodName)) hown (mvT hZ (hw _ (List.mem_of_getElem? (i := 1) rfl))) (mvT hZ (hw _ (List.mem_of_getElem? (i := 2) rfl))) (mvT hZ (hw _ (List.mem_of_getElem? (i := 3) rfl))) (mvT hZ (hw _ (List.mem_of_getElem? (i := 4) rfl))) (by decide) (backOf (W := 0) (rm_pick l Z a0 hw [] wWAITING wCOMPLETED wFAILED wCANCELLED wPAUSED wRUNNING hG ((4 : Int32)) wFAILED h0 n0 Z0 O0  (by simp)) hZ (hw _ (List.mem_of_getElem? (i := 4) rfl)) (hw _ (List.mem_of_getElem? (i := 3) rfl)) (Nat.le_of_ble_eq_true rfl) (Nat.le_of_ble_eq_true rfl)) (g := (mkF m 9 #[.val (.int p0), .val (.int (4 : Int32)), .unset, .unset] [(.int (4 : Int32))])) rfl (by rw [hml]; rfl) (argsL := [(.int (4 : Int32))]) (rest := []) (lenOf pd_0 rfl) rfl (by show 2 * 0 + _ ≤ _; exact Nat.le_of_eq rfl) (hb hby at_9) (fun _ _ => ⟨rfl, e0, (Nat.le_of_ble_eq_true rfl : 0 + 0 ≤ _), (Nat.le_of_ble_eq_true rfl : 0 + 0 ≤ _)⟩)
    dsimp only [Pt.U, Pt.locs, Pt.cells, Pt.slots] at X9 l9 y9 z9 st9 hQ9
    subst l9 y9 z9
    obtain ⟨rfl, Nq9, eq9⟩ := hQ9
    have N9 := Fr.app N0 Nq9
    refine Go.by (fun _ => st9 _) ?_
    show Go p e below P (T9.setTop (mkF m 12 #[.val (.int p0), .val (.int (4 : Int32)), .unset, .unset] [(.ref wFAILED)]))
    refine Go.by (fun _ => XS.astoreN X9.here hx rfl (hb hby at_12) rfl rfl (l' := #[.val (.int p0), .val (.int (4 : Int32)), .val (.ref wFAILED), .unset]) rfl) ?_
    show Go p e below P (T9.setTop (mkF m 13 #[.val (.int p0), .val (.int (4 : Int32)), .val (.ref wFAILED), .unset] []))
    refine Go.by (fun _ => XS.iloadN X9.here hx rfl (hb hby at_13) rfl) ?_
    show Go p e below P (T9.setTop (mkF m 14 #[.val (.int p0), .val (.int (4 : Int32)), .val (.ref wFAILED), .unset] [(.int (4 : Int32))]))
    refine Go.by (fun _ => XS.iconst X9.here hx rfl (hb hby at_14)) ?_
    show Go p e below P (T9.setTop (mkF m 15 #[.val (.int p0), .val (.int (4 : Int32)), .val (.ref wFAILED), .unset] [(.int (3 : Int32)), (.int (4 : Int32))]))
    have hc15 : ¬ ((4 : Int32) < (3 : Int32)) := by decide
    refine Go.by (fun _ => XS.icmpNo X9.here hx rfl (hb hby at_15) rfl (flt hc15).1) ?_
    show Go p e below P (T9.setTop (mkF m 18 #[.val (.int p0), .val (.int (4 : Int32)), .val (.ref wFAILED), .unset] []))
    refine Go.by (fun _ => XS.iconst X9.here hx rfl (hb hby at_18)) ?_
    show Go p e below P (T9.setTop (mkF m 19 #[.val (.int p0), .val (.int (4 : Int32)), .val (.ref wFAILED), .unset] [(.int (1 : Int32))]))
    refine Go.by (fun _ => XS.goto X9.here hx rfl (pc0 := 19) (pc' := 23) rfl (hb hby at_19) (by decide) (by decide)) ?_
    show Go p e below P (T9.setTop (mkF m 23 #[.val (.int p0), .val (.int (4 : Int32)), .val (.ref wFAILED), .unset] [(.int (1 : Int32))]))
    refine Go.by (fun _ => XS.istoreN X9.here hx rfl (hb hby at_23) rfl (l' := #[.val (.int p0), .val (.int (4 : Int32)), .val (.ref wFAILED), .val (.int (1 : Int32))]) rfl) ?_
    show Go p e below P (T9.setTop (mkF m 24 #[.val (.int p0), .val (.int (4 : Int32)), .val (.ref wFAILED), .val (.int (1 : Int32))] []))
    refine Go.by (fun _ => XS.aloadN X9.here hx rfl (hb hby at_24) rfl rfl) ?_
    show Go p e below P (T9.setTop (mkF m 25 #[.val (.int p0), .val (.int (4 : Int32)), .val (.ref wFAILED), .val (.int (1 : Int32))] [(.ref wFAILED)]))
    obtain ⟨cq10, kq10, qa10, qb10, qc10⟩ := isOf hZ eq9 (G7.ext O0.2)
    obtain ⟨_, _, ⟨T10, L10, k10, n10⟩, -, X10, ⟨Lc10, hQ10, l10, y10, z10⟩, st10⟩ := X9.virtualBack hx (y := (⟨"com/example/gather_solvers/gathersolvers/engine/InvokeProgress$State", "ended", "()Z"⟩ : MethodName)) (z := (⟨"com/example/gather_solvers/gathersolvers/engine/InvokeProgress$State", "ended", "()Z"⟩ : MethodName)) hown (mvT hZ (hw _ (List.mem_of_getElem? (i := 8) rfl))) (mvT hZ (hw _ (List.mem_of_getElem? (i := 9) rfl))) (notFace_of_selects (args := #[]) (mvT hZ (hw _ (List.mem_of_getElem? (i := 11) rfl)))) (mvT hZ (hw _ (List.mem_of_getElem? (i := 11) rfl))) (mvT hZ (hw _ (List.mem_of_getElem? (i := 10) rfl))) (by decide) (backOf (W := 0) (rm_ended l Z a0 hw [] wWAITING wCOMPLETED wFAILED wCANCELLED wPAUSED wRUNNING hG wFAILED ((1 : Int32)) h0 n0 Z0 O0  (by simp [(Fld.ne G8 G5 (by decide)), (Fld.ne G8 G11 (by decide))])) hZ (hw _ (List.mem_of_getElem? (i := 12) rfl)) (hw _ (List.mem_of_getElem? (i := 6) rfl)) (Nat.le_of_ble_eq_true rfl) (Nat.le_of_ble_eq_true rfl)) qa10 qc10 (g := (mkF m 25 #[.val (.int p0), .val (.int (4 : Int32)), .val (.ref wFAILED), .val (.int (1 : Int32))] [(.ref wFAILED)])) rfl (by rw [hml]; rfl) (Steps.refl _) (argsL := []) (rest := []) (lenOf pd_1 rfl) rfl (by show 2 * 0 + _ ≤ _; exact Nat.le_of_eq rfl) (hb hby at_25) (fun _ _ => ⟨rfl, eq9, (Nat.le_of_ble_eq_true rfl : 0 + 0 ≤ _), (Nat.le_of_ble_eq_true rfl : 0 + 0 ≤ _)⟩)
    dsimp only [Pt.U, Pt.locs, Pt.cells, Pt.slots] at X10 l10 y10 z10 st10 hQ10
    subst l10 y10 z10
    obtain ⟨rfl, Nq10, eq10⟩ := hQ10
    have N10 := Fr.app N9 Nq10
    refine Go.by (fun _ k => st10.trans k) ?_
    show Go p e below P (T10.setTop (mkF m 28 #[.val (.int p0), .val (.int (4 : Int32)), .val (.ref wFAILED), .val (.int (1 : Int32))] [(.int (1 : Int32))]))
    refine Go.by (fun _ => XS.iloadN X10.here hx rfl (hb hby at_28) rfl) ?_
    show Go p e below P (T10.setTop (mkF m 29 #[.val (.int p0), .val (.int (4 : Int32)), .val (.ref wFAILED), .val (.int (1 : Int32))] [(.int (1 : Int32)), (.int (1 : Int32))]))
    have hc29 : (1 : Int32) = (1 : Int32) := by decide
    refine Go.by (fun _ => XS.icmpNo X10.here hx rfl (hb hby at_29) rfl (teq hc29).2) ?_
    show Go p e below P (T10.setTop (mkF m 32 #[.val (.int p0), .val (.int (4 : Int32)), .val (.ref wFAILED), .val (.int (1 : Int32))] []))
    refine Go.by (fun _ => XS.iconst X10.here hx rfl (hb hby at_32)) ?_
    show Go p e below P (T10.setTop (mkF m 33 #[.val (.int p0), .val (.int (4 : Int32)), .val (.ref wFAILED), .val (.int (1 : Int32))] [(.int (1 : Int32))]))
    refine Go.by (fun _ => XS.goto X10.here hx rfl (pc0 := 33) (pc' := 37) rfl (hb hby at_33) (by decide) (by decide)) ?_
    show Go p e below P (T10.setTop (mkF m 37 #[.val (.int p0), .val (.int (4 : Int32)), .val (.ref wFAILED), .val (.int (1 : Int32))] [(.int (1 : Int32))]))
    subst hP
    refine Go.retZ X10 hx (t := .boolean) Bd.returns (by simp) hlk (hb hby at_37) (Nat.le_of_ble_eq_true rfl) (Nat.le_of_ble_eq_true rfl) ?_
    rw [eq10]
    exact ⟨rfl, N10⟩
  · show Go p e below P (s₁.setTop (mkF m 8 #[.val (.int p0), .val (.int (5 : Int32)), .unset, .unset] []))
    refine Go.by (fun _ => XS.iloadN X0.here hx rfl (hb hby at_8) rfl) ?_
    show Go p e below P (s₁.setTop (mkF m 9 #[.val (.int p0), .val (.int (5 : Int32)), .unset, .unset] [(.int (5 : Int32))]))
    obtain ⟨_, _, ⟨T11, L11, k11, n11⟩, -, X11, ⟨Lc11, hQ11, l11, y11, z11⟩, st11⟩ := Jvm.LawKit.callS X0 hx (y := (⟨"com/example/gather_solvers/gathersolvers/engine/StateEndedPinLaw", "pick", "(I)Lcom/example/gather_solvers/gathersolvers/engine/InvokeProgress$State;"⟩ : MethodName)) hown (mvT hZ (hw _ (List.mem_of_getElem? (i := 1) rfl))) (mvT hZ (hw _ (List.mem_of_getElem? (i := 2) rfl))) (mvT hZ (hw _ (List.mem_of_getElem? (i := 3) rfl))) (mvT hZ (hw _ (List.mem_of_getElem? (i := 4) rfl))) (by decide) (backOf (W := 0) (rm_pick l Z a0 hw [] wWAITING wCOMPLETED wFAILED wCANCELLED wPAUSED wRUNNING hG ((5 : Int32)) wCANCELLED h0 n0 Z0 O0  (by simp)) hZ (hw _ (List.mem_of_getElem? (i := 4) rfl)) (hw _ (List.mem_of_getElem? (i := 3) rfl)) (Nat.le_of_ble_eq_true rfl) (Nat.le_of_ble_eq_true rfl)) (g := (mkF m 9 #[.val (.int p0), .val (.int (5 : Int32)), .unset, .unset] [(.int (5 : Int32))])) rfl (by rw [hml]; rfl) (argsL := [(.int (5 : Int32))]) (rest := []) (lenOf pd_0 rfl) rfl (by show 2 * 0 + _ ≤ _; exact Nat.le_of_eq rfl) (hb hby at_9) (fun _ _ => ⟨rfl, e0, (Nat.le_of_ble_eq_true rfl : 0 + 0 ≤ _), (Nat.le_of_ble_eq_true rfl : 0 + 0 ≤ _)⟩)
    dsimp only [Pt.U, Pt.locs, Pt.cells, Pt.slots] at X11 l11 y11 z11 st11 hQ11
    subst l11 y11 z11
    obtain ⟨rfl, Nq11, eq11⟩ := hQ11
    have N11 := Fr.app N0 Nq11
    refine Go.by (fun _ => st11 _) ?_
    show Go p e below P (T11.setTop (mkF m 12 #[.val (.int p0), .val (.int (5 : Int32)), .unset, .unset] [(.ref wCANCELLED)]))
    refine Go.by (fun _ => XS.astoreN X11.here hx rfl (hb hby at_12) rfl rfl (l' := #[.val (.int p0), .val (.int (5 : Int32)), .val (.ref wCANCELLED), .unset]) rfl) ?_
    show Go p e below P (T11.setTop (mkF m 13 #[.val (.int p0), .val (.int (5 : Int32)), .val (.ref wCANCELLED), .unset] []))
    refine Go.by (fun _ => XS.iloadN X11.here hx rfl (hb hby at_13) rfl) ?_
    show Go p e below P (T11.setTop (mkF m 14 #[.val (.int p0), .val (.int (5 : Int32)), .val (.ref wCANCELLED), .unset] [(.int (5 : Int32))]))
    refine Go.by (fun _ => XS.iconst X11.here hx rfl (hb hby at_14)) ?_
    show Go p e below P (T11.setTop (mkF m 15 #[.val (.int p0), .val (.int (5 : Int32)), .val (.ref wCANCELLED), .unset] [(.int (3 : Int32)), (.int (5 : Int32))]))
    have hc15 : ¬ ((5 : Int32) < (3 : Int32)) := by decide
    refine Go.by (fun _ => XS.icmpNo X11.here hx rfl (hb hby at_15) rfl (flt hc15).1) ?_
    show Go p e below P (T11.setTop (mkF m 18 #[.val (.int p0), .val (.int (5 : Int32)), .val (.ref wCANCELLED), .unset] []))
    refine Go.by (fun _ => XS.iconst X11.here hx rfl (hb hby at_18)) ?_
    show Go p e below P (T11.setTop (mkF m 19 #[.val (.int p0), .val (.int (5 : Int32)), .val (.ref wCANCELLED), .unset] [(.int (1 : Int32))]))
    refine Go.by (fun _ => XS.goto X11.here hx rfl (pc0 := 19) (pc' := 23) rfl (hb hby at_19) (by decide) (by decide)) ?_
    show Go p e below P (T11.setTop (mkF m 23 #[.val (.int p0), .val (.int (5 : Int32)), .val (.ref wCANCELLED), .unset] [(.int (1 : Int32))]))
    refine Go.by (fun _ => XS.istoreN X11.here hx rfl (hb hby at_23) rfl (l' := #[.val (.int p0), .val (.int (5 : Int32)), .val (.ref wCANCELLED), .val (.int (1 : Int32))]) rfl) ?_
    show Go p e below P (T11.setTop (mkF m 24 #[.val (.int p0), .val (.int (5 : Int32)), .val (.ref wCANCELLED), .val (.int (1 : Int32))] []))
    refine Go.by (fun _ => XS.aloadN X11.here hx rfl (hb hby at_24) rfl rfl) ?_
    show Go p e below P (T11.setTop (mkF m 25 #[.val (.int p0), .val (.int (5 : Int32)), .val (.ref wCANCELLED), .val (.int (1 : Int32))] [(.ref wCANCELLED)]))
    obtain ⟨cq12, kq12, qa12, qb12, qc12⟩ := isOf hZ eq11 (G10.ext O0.2)
    obtain ⟨_, _, ⟨T12, L12, k12, n12⟩, -, X12, ⟨Lc12, hQ12, l12, y12, z12⟩, st12⟩ := X11.virtualBack hx (y := (⟨"com/example/gather_solvers/gathersolvers/engine/InvokeProgress$State", "ended", "()Z"⟩ : MethodName)) (z := (⟨"com/example/gather_solvers/gathersolvers/engine/InvokeProgress$State", "ended", "()Z"⟩ : MethodName)) hown (mvT hZ (hw _ (List.mem_of_getElem? (i := 8) rfl))) (mvT hZ (hw _ (List.mem_of_getElem? (i := 9) rfl))) (notFace_of_selects (args := #[]) (mvT hZ (hw _ (List.mem_of_getElem? (i := 11) rfl)))) (mvT hZ (hw _ (List.mem_of_getElem? (i := 11) rfl))) (mvT hZ (hw _ (List.mem_of_getElem? (i := 10) rfl))) (by decide) (backOf (W := 0) (rm_ended l Z a0 hw [] wWAITING wCOMPLETED wFAILED wCANCELLED wPAUSED wRUNNING hG wCANCELLED ((1 : Int32)) h0 n0 Z0 O0  (by simp [(Fld.ne G11 G5 (by decide)), (Fld.ne G11 G8 (by decide))])) hZ (hw _ (List.mem_of_getElem? (i := 12) rfl)) (hw _ (List.mem_of_getElem? (i := 6) rfl)) (Nat.le_of_ble_eq_true rfl) (Nat.le_of_ble_eq_true rfl)) qa12 qc12 (g := (mkF m 25 #[.val (.int p0), .val (.int (5 : Int32)), .val (.ref wCANCELLED), .val (.int (1 : Int32))] [(.ref wCANCELLED)])) rfl (by rw [hml]; rfl) (Steps.refl _) (argsL := []) (rest := []) (lenOf pd_1 rfl) rfl (by show 2 * 0 + _ ≤ _; exact Nat.le_of_eq rfl) (hb hby at_25) (fun _ _ => ⟨rfl, eq11, (Nat.le_of_ble_eq_true rfl : 0 + 0 ≤ _), (Nat.le_of_ble_eq_true rfl : 0 + 0 ≤ _)⟩)
    dsimp only [Pt.U, Pt.locs, Pt.cells, Pt.slots] at X12 l12 y12 z12 st12 hQ12
    subst l12 y12 z12
    obtain ⟨rfl, Nq12, eq12⟩ := hQ12
    have N12 := Fr.app N11 Nq12
    refine Go.by (fun _ k => st12.trans k) ?_
    show Go p e below P (T12.setTop (mkF m 28 #[.val (.int p0), .val (.int (5 : Int32)), .val (.ref wCANCELLED), .val (.int (1 : Int32))] [(.int (1 : Int32))]))
    refine Go.by (fun _ => XS.iloadN X12.here hx rfl (hb hby at_28) rfl) ?_
    show Go p e below P (T12.setTop (mkF m 29 #[.val (.int p0), .val (.int (5 : Int32)), .val (.ref wCANCELLED), .val (.int (1 : Int32))] [(.int (1 : Int32)), (.int (1 : Int32))]))
    have hc29 : (1 : Int32) = (1 : Int32) := by decide
    refine Go.by (fun _ => XS.icmpNo X12.here hx rfl (hb hby at_29) rfl (teq hc29).2) ?_
    show Go p e below P (T12.setTop (mkF m 32 #[.val (.int p0), .val (.int (5 : Int32)), .val (.ref wCANCELLED), .val (.int (1 : Int32))] []))
    refine Go.by (fun _ => XS.iconst X12.here hx rfl (hb hby at_32)) ?_
    show Go p e below P (T12.setTop (mkF m 33 #[.val (.int p0), .val (.int (5 : Int32)), .val (.ref wCANCELLED), .val (.int (1 : Int32))] [(.int (1 : Int32))]))
    refine Go.by (fun _ => XS.goto X12.here hx rfl (pc0 := 33) (pc' := 37) rfl (hb hby at_33) (by decide) (by decide)) ?_
    show Go p e below P (T12.setTop (mkF m 37 #[.val (.int p0), .val (.int (5 : Int32)), .val (.ref wCANCELLED), .val (.int (1 : Int32))] [(.int (1 : Int32))]))
    subst hP
    refine Go.retZ X12 hx (t := .boolean) Bd.returns (by simp) hlk (hb hby at_37) (Nat.le_of_ble_eq_true rfl) (Nat.le_of_ble_eq_true rfl) ?_
    rw [eq12]
    exact ⟨rfl, N12⟩
set_option maxRecDepth 65536 in
set_option maxHeartbeats 40000000 in
theorem comes_1 {Post : Tables → Env → Array Value → State → Outcome → State → Prop} (hpost : ∀ tb e args s v u, (limb_1_1.after args s (.returned v) u = true ∧ limb_1_2.after args s (.returned v) u = true ∧ True) → FrameEnd s (.returned v) u (Jvm.fieldLocs frame_1_writes args s ++ Jvm.arrayLocs frame_1_arrays args s ++ Jvm.staticLocs frame_1_statics s) 0 0 → Post tb e args s (.returned v) u) :
    ArmFor flags0 classFile x code maxLocals ret World_1 tables_1 room_1 Calls_1 rest_1 Pre_1 Post := by
  intro l hfl _ _ p e ha hc hk s m args below hf hA hF happ hP
  obtain ⟨hcalls, hrest, hpre⟩ := hP
  obtain ⟨-, -, -, hnamed, -, -, -, hat⟩ := (Spec.applies_iff hf).mp happ
  obtain ⟨hg, hn⟩ := and_e (Cond.before_iff.mp (show (Jvm.Cond.and given_1 narrow_1).before args s = true from hpre))
  obtain ⟨hg0, hr0⟩ := and_e hg
  obtain ⟨w0, rfl⟩ : ∃ w0 : Value, args = #[w0] := by
    have hs : args.size = 1 := by simpa [Cond.value, given_1] using hg0
    obtain ⟨L⟩ := args
    match L, hs with
    | [w0], _ => exact ⟨w0, rfl⟩
  have hw := fun d (hd : d ∈ tables_1) => atoms_spec (ws := Jvm.Cond.code x code maxLocals ret :: tables_1) hat d (List.mem_cons_of_mem _ hd)
  have hfit : Fit s := fun {y c} hc i hi => by
    obtain ⟨ha, rfl⟩ := Array.getElem?_eq_some_iff.mp hc
    have q := List.all_eq_true.mp ((Array.all_eq_true_iff_forall_mem.mp hF) _ (Array.getElem_mem ha)) i (List.mem_range.mpr hi)
    simpa [Array.getElem?_eq_getElem hi] using q
  obtain ⟨i0, ei0⟩ := is_v hr0
  obtain rfl : w0 = (.int i0) := Option.some.inj ei0
  obtain ⟨nn0, nn_r0⟩ := and_e hn
  obtain ⟨nn1, nn_r1⟩ := and_e nn_r0
  obtain ⟨nn2, nn_r2⟩ := and_e nn_r1
  obtain ⟨nn3, nn_r3⟩ := and_e nn_r2
  obtain ⟨nn4, nn_r4⟩ := and_e nn_r3
  obtain ⟨nn5, nn_r5⟩ := and_e nn_r4
  obtain ⟨nn6, nn_r6⟩ := and_e nn_r5
  obtain ⟨nn7, nn_r7⟩ := and_e nn_r6
  obtain ⟨nn8, nn_r8⟩ := and_e nn_r7
  obtain ⟨nn9, nn_r9⟩ := and_e nn_r8
  obtain ⟨nn10, nn_r10⟩ := and_e nn_r9
  obtain ⟨wWAITING, eWAITING⟩ := exa_v nn0
  obtain ⟨wCOMPLETED, eCOMPLETED⟩ := exa_v nn1
  obtain ⟨wFAILED, eFAILED⟩ := exa_v nn4
  obtain ⟨wCANCELLED, eCANCELLED⟩ := exa_v nn6
  obtain ⟨wPAUSED, ePAUSED⟩ := exa_v nn8
  obtain ⟨wRUNNING, eRUNNING⟩ := exa_v nn10
  have hG : Glob s wWAITING wCOMPLETED wFAILED wCANCELLED wPAUSED wRUNNING := ⟨Sta.start eWAITING (Or.inr ⟨(hw _ (List.mem_of_getElem? (i := 6) rfl)), (hw _ (List.mem_of_getElem? (i := 7) rfl))⟩), Exa.start eWAITING nn0, Sta.start eCOMPLETED (Or.inr ⟨(hw _ (List.mem_of_getElem? (i := 6) rfl)), (hw _ (List.mem_of_getElem? (i := 14) rfl))⟩), Exa.start eCOMPLETED nn1, Fld.start ((fld_at eWAITING).symm.trans (own_eqi (Cond.before_iff.mpr nn2))), Fld.start ((fld_at eCOMPLETED).symm.trans (own_eqi (Cond.before_iff.mpr nn3))), Sta.start eFAILED (Or.inr ⟨(hw _ (List.mem_of_getElem? (i := 6) rfl)), (hw _ (List.mem_of_getElem? (i := 16) rfl))⟩), Exa.start eFAILED nn4, Fld.start ((fld_at eFAILED).symm.trans (own_eqi (Cond.before_iff.mpr nn5))), Sta.start eCANCELLED (Or.inr ⟨(hw _ (List.mem_of_getElem? (i := 6) rfl)), (hw _ (List.mem_of_getElem? (i := 18) rfl))⟩), Exa.start eCANCELLED nn6, Fld.start ((fld_at eCANCELLED).symm.trans (own_eqi (Cond.before_iff.mpr nn7))), Sta.start ePAUSED (Or.inr ⟨(hw _ (List.mem_of_getElem? (i := 6) rfl)), (hw _ (List.mem_of_getElem? (i := 21) rfl))⟩), Exa.start ePAUSED nn8, Fld.start ((fld_at ePAUSED).symm.trans (own_eqi (Cond.before_iff.mpr nn9))), Sta.start eRUNNING (Or.inr ⟨(hw _ (List.mem_of_getElem? (i := 6) rfl)), (hw _ (List.mem_of_getElem? (i := 23) rfl))⟩), Exa.start eRUNNING nn10, Fld.start ((fld_at eRUNNING).symm.trans (own_eqi (Cond.before_iff.mpr nn_r10)))⟩
  obtain ⟨n, o, h1, h2, h3, _, L, rfl, ⟨rfl, N⟩, hq⟩ := rm_law l s _ hw tables_1 wWAITING wCOMPLETED wFAILED wCANCELLED wPAUSED wRUNNING hG i0  s.heap s.heap.size (Nat.le_refl _) (Old.start s)  p e ha hc hk s m _ below hf ((Spec.applies_iff_loose hf).mp happ).1 ⟨rfl, State.Warmed39.refl s, rfl⟩ trivial
  refine ⟨n, _, h1, h2, h3, hpost _ _ _ _ _ _ ⟨Cond.after_iff.mpr rfl, Cond.after_iff.mpr (eq_i res_at (Term.int_eval (1)) rfl), trivial⟩ ⟨hq.1, hq.2.1, (hq.2.2.sift fun y hy => Or.inr (N y hy)).mono (Nat.le_of_ble_eq_true rfl) (Nat.le_of_ble_eq_true rfl)⟩⟩
theorem main_1_1 : Claimed_1_1 := comes_1 fun _ _ _ _ _ _ h hF => ⟨h.1, hF⟩
theorem main_1_2 : Claimed_1_2 := comes_1 fun _ _ _ _ _ _ h hF => ⟨h.2.1, hF⟩
end Jvm.Pilot.@@N@@
namespace Jvm.Pilot.@@N@@
open Jvm Jvm.ClassFile Sem Op Lib Jvm.Free Jvm.Stand Jvm.Pilot.@@N@@.Jvm.D
/-! MADE BY PROGRAM (witnessworld.py) out of the Statement's table words and the real class files: 12 classes; the members and pool entries that the words name. The judged class is class 1, her method 2. -/
namespace start1
open Jvm.ClassFile
def u (s : String) : CpInfo := .utf8 (stringToUtf16 s)
/-- a pool by its gaps: so many unusable entries, then the entry; so many at the end -/
def gap : Nat → List CpInfo → List CpInfo
  | 0, r => r
  | n + 1, r => .unusable :: gap n r
def poolList (es : List (Nat × CpInfo)) (last : Nat) : List CpInfo := es.foldr (fun e r => gap e.1 (e.2 :: r)) (gap last [])
def pool (es : List (Nat × CpInfo)) (last : Nat) : Array CpInfo := ⟨poolList es last⟩
def fileOf (pool : Array CpInfo) (this : Nat) (attrs : Array Attribute := #[]) (ms : Array MethodInfo := #[]) (fl : Nat := 33) (sup : Nat := 0) (ifs : Array Nat := #[]) (fds : Array FieldInfo := #[]) : ClassFile where
  minorVersion := 0
  majorVersion := 65
  constantPool := pool
  accessFlags := fl
  thisClass := this
  superClass := sup
  interfaces := ifs
  fields := fds
  methods := ms
  attributes := attrs
def plain (name : String) (sup : Option ClassId) : Class where
  name := name
  kind := .ordinary
  loader := none
  accessFlags := 33
  super := sup
  interfaces := #[]
  cf := none
  fields := #[]
  methods := #[]
  instanceTypes := #[]
  staticTypes := #[]
  resolved := #[]
  callSites := []
  init := .initialized
  statics := none
  mirror := none

def pool0 : Array CpInfo := pool [(5, u "<init>"), (0, u "()V"), (1, .class_ 10), (1, u "java/lang/Object")] 113

def k0m0 : Method := { name := "<init>", desc := "()V", sig := { parameters := [], returnType := none }, accessFlags := 1, code := none }
/-- java/lang/Object -/
def k0 : Class := { plain "java/lang/Object" none with
  accessFlags := 33
  interfaces := #[]
  cf := some (fileOf pool0 8 #[] #[{ accessFlags := 1, nameIndex := 5, descriptorIndex := 6, attributes := #[] }] 33 0 #[] #[])
  fields := #[]
  methods := #[k0m0]
  instanceTypes := #[]
  staticTypes := #[]
  resolved := Array.replicate 124 none
  statics := none }

def pool1 : Array CpInfo := pool [(2, .class_ 4), (1, u "java/lang/Object"), (0, u "<init>"), (0, u "()V"), (0, .fieldref 8 9), (0, .class_ 10), (0, .nameAndType 11 12), (0, u "com/example/gather_solvers/gathersolvers/engine/InvokeProgress$State"), (0, u "WAITING"), (0, u "Lcom/example/gather_solvers/gathersolvers/engine/InvokeProgress$State;"), (0, .fieldref 8 14), (0, .nameAndType 15 12), (0, u "RUNNING"), (0, .fieldref 8 17), (0, .nameAndType 18 12), (0, u "PAUSED"), (0, .fieldref 8 20), (0, .nameAndType 21 12), (0, u "COMPLETED"), (0, .fieldref 8 23), (0, .nameAndType 24 12), (0, u "FAILED"), (0, .fieldref 8 26), (0, .nameAndType 27 12), (0, u "CANCELLED"), (0, .integer 2147483647), (0, .methodref 30 31), (0, .class_ 32), (0, .nameAndType 33 34), (0, u "com/example/gather_solvers/gathersolvers/engine/StateEndedPinLaw"), (0, u "pick"), (0, u "(I)Lcom/example/gather_solvers/gathersolvers/engine/InvokeProgress$State;"), (0, .methodref 8 36), (0, .nameAndType 37 38), (0, u "ended"), (0, u "()Z"), (3, u "law"), (0, u "(I)Z")] 6

def k1m0 : Method := { name := "<init>", desc := "()V", sig := { parameters := [], returnType := none }, accessFlags := 2, code := none }
def k1c1 : Code := { maxStack := 2, maxLocals := 1, code := method_2_code, exceptionTable := #[], attributes := #[] }
def k1m1 : Method := { name := "pick", desc := "(I)Lcom/example/gather_solvers/gathersolvers/engine/InvokeProgress$State;", sig := { parameters := [.int], returnType := some (.object "com/example/gather_solvers/gathersolvers/engine/InvokeProgress$State") }, accessFlags := 10, code := some k1c1 }
def k1c2 : Code := { maxStack := 2, maxLocals := 4, code := code, exceptionTable := #[], attributes := #[] }
def k1m2 : Method := { name := "law", desc := "(I)Z", sig := { parameters := [.int], returnType := some .boolean }, accessFlags := 9, code := some k1c2 }
/-- com/example/gather_solvers/gathersolvers/engine/StateEndedPinLaw -/
def k1 : Class := { plain "com/example/gather_solvers/gathersolvers/engine/StateEndedPinLaw" (some 0) with
  accessFlags := 49
  interfaces := #[]
  cf := some (fileOf pool1 30 #[] #[{ accessFlags := 2, nameIndex := 5, descriptorIndex := 6, attributes := #[] }, { accessFlags := 10, nameIndex := 33, descriptorIndex := 34, attributes := #[] }, { accessFlags := 9, nameIndex := 42, descriptorIndex := 43, attributes := #[] }] 49 2 #[] #[])
  fields := #[]
  methods := #[k1m0, k1m1, k1m2]
  instanceTypes := #[]
  staticTypes := #[]
  resolved := Array.replicate 50 none
  statics := none }

def pool2 : Array CpInfo := pool [(1, .class_ 2), (0, u "java/lang/constant/Constable"), (0, .class_ 4), (0, u "java/lang/Object")] 6

/-- java/lang/constant/Constable -/
def k2 : Class := { plain "java/lang/constant/Constable" (some 0) with
  accessFlags := 1537
  interfaces := #[]
  cf := some (fileOf pool2 1 #[] #[] 1537 3 #[] #[])
  fields := #[]
  methods := #[]
  instanceTypes := #[]
  staticTypes := #[]
  resolved := Array.replicate 11 none
  statics := none }

def pool3 : Array CpInfo := pool [(1, .class_ 2), (0, u "java/lang/Comparable"), (0, .class_ 4), (0, u "java/lang/Object")] 7

/-- java/lang/Comparable -/
def k3 : Class := { plain "java/lang/Comparable" (some 0) with
  accessFlags := 1537
  interfaces := #[]
  cf := some (fileOf pool3 1 #[] #[] 1537 3 #[] #[])
  fields := #[]
  methods := #[]
  instanceTypes := #[]
  staticTypes := #[]
  resolved := Array.replicate 12 none
  statics := none }

def pool4 : Array CpInfo := pool [(1, .class_ 2), (0, u "java/io/Serializable"), (0, .class_ 4), (0, u "java/lang/Object")] 2

/-- java/io/Serializable -/
def k4 : Class := { plain "java/io/Serializable" (some 0) with
  accessFlags := 1537
  interfaces := #[]
  cf := some (fileOf pool4 1 #[] #[] 1537 3 #[] #[])
  fields := #[]
  methods := #[]
  instanceTypes := #[]
  staticTypes := #[]
  resolved := Array.replicate 7 none
  statics := none }

def pool5 : Array CpInfo := pool [(2, .class_ 4), (1, u "java/lang/Enum"), (0, u "name"), (0, u "Ljava/lang/String;"), (2, u "ordinal"), (0, u "I"), (1, .class_ 14), (1, u "java/lang/Object"), (4, u "hash"), (86, .class_ 108), (1, u "java/lang/Enum$EnumDesc"), (2, .class_ 112), (0, u "java/lang/constant/Constable"), (0, .class_ 114), (0, u "java/lang/Comparable"), (0, .class_ 116), (0, u "java/io/Serializable")] 87

/-- java/lang/Enum -/
def k5 : Class := { plain "java/lang/Enum" (some 0) with
  accessFlags := 1057
  interfaces := #[2, 3, 4]
  cf := some (fileOf pool5 2 #[.nestMembers #[106]] #[] 1057 12 #[111, 113, 115] #[{ accessFlags := 18, nameIndex := 5, descriptorIndex := 6, attributes := #[] }, { accessFlags := 18, nameIndex := 9, descriptorIndex := 10, attributes := #[] }, { accessFlags := 2, nameIndex := 19, descriptorIndex := 10, attributes := #[] }])
  fields := #[{ name := "name", type := (.object "java/lang/String"), accessFlags := 18, slot := 0, constantValue := 0 }, { name := "ordinal", type := .int, accessFlags := 18, slot := 1, constantValue := 0 }, { name := "hash", type := .int, accessFlags := 2, slot := 2, constantValue := 0 }]
  methods := #[]
  instanceTypes := #[(.object "java/lang/String"), .int, .int]
  staticTypes := #[]
  resolved := Array.replicate 204 none
  statics := none }

def pool6 : Array CpInfo := pool [(1, .class_ 2), (0, u "com/example/gather_solvers/gathersolvers/engine/InvokeProgress$State"), (2, u "WAITING"), (0, u "Lcom/example/gather_solvers/gathersolvers/engine/InvokeProgress$State;"), (2, u "RUNNING"), (2, u "PAUSED"), (0, .fieldref 1 14), (0, .nameAndType 15 6), (0, u "COMPLETED"), (0, .fieldref 1 17), (0, .nameAndType 18 6), (0, u "FAILED"), (0, .fieldref 1 20), (0, .nameAndType 21 6), (0, u "CANCELLED"), (2, u "$VALUES"), (0, u "[Lcom/example/gather_solvers/gathersolvers/engine/InvokeProgress$State;"), (6, .class_ 34), (1, u "java/lang/Enum"), (24, u "ended"), (0, u "()Z"), (6, .class_ 68), (0, u "com/example/gather_solvers/gathersolvers/engine/InvokeProgress")] 2

def k6c0 : Code := { maxStack := 2, maxLocals := 1, code := prog_19_method_4_code, exceptionTable := #[], attributes := #[] }
def k6m0 : Method := { name := "ended", desc := "()Z", sig := { parameters := [], returnType := some .boolean }, accessFlags := 1, code := some k6c0 }
/-- com/example/gather_solvers/gathersolvers/engine/InvokeProgress$State -/
def k6 : Class := { plain "com/example/gather_solvers/gathersolvers/engine/InvokeProgress$State" (some 5) with
  accessFlags := 16433
  interfaces := #[]
  cf := some (fileOf pool6 1 #[.nestHost 67] #[{ accessFlags := 1, nameIndex := 59, descriptorIndex := 60, attributes := #[] }] 16433 32 #[] #[{ accessFlags := 16409, nameIndex := 5, descriptorIndex := 6, attributes := #[] }, { accessFlags := 16409, nameIndex := 9, descriptorIndex := 6, attributes := #[] }, { accessFlags := 16409, nameIndex := 12, descriptorIndex := 6, attributes := #[] }, { accessFlags := 16409, nameIndex := 15, descriptorIndex := 6, attributes := #[] }, { accessFlags := 16409, nameIndex := 18, descriptorIndex := 6, attributes := #[] }, { accessFlags := 16409, nameIndex := 21, descriptorIndex := 6, attributes := #[] }, { accessFlags := 4122, nameIndex := 24, descriptorIndex := 25, attributes := #[] }])
  fields := #[{ name := "WAITING", type := (.object "com/example/gather_solvers/gathersolvers/engine/InvokeProgress$State"), accessFlags := 16409, slot := 0, constantValue := 0 }, { name := "RUNNING", type := (.object "com/example/gather_solvers/gathersolvers/engine/InvokeProgress$State"), accessFlags := 16409, slot := 1, constantValue := 0 }, { name := "PAUSED", type := (.object "com/example/gather_solvers/gathersolvers/engine/InvokeProgress$State"), accessFlags := 16409, slot := 2, constantValue := 0 }, { name := "COMPLETED", type := (.object "com/example/gather_solvers/gathersolvers/engine/InvokeProgress$State"), accessFlags := 16409, slot := 3, constantValue := 0 }, { name := "FAILED", type := (.object "com/example/gather_solvers/gathersolvers/engine/InvokeProgress$State"), accessFlags := 16409, slot := 4, constantValue := 0 }, { name := "CANCELLED", type := (.object "com/example/gather_solvers/gathersolvers/engine/InvokeProgress$State"), accessFlags := 16409, slot := 5, constantValue := 0 }, { name := "$VALUES", type := (.array (.object "com/example/gather_solvers/gathersolvers/engine/InvokeProgress$State")), accessFlags := 4122, slot := 6, constantValue := 0 }]
  methods := #[k6m0]
  instanceTypes := #[(.object "java/lang/String"), .int, .int]
  staticTypes := #[(.object "com/example/gather_solvers/gathersolvers/engine/InvokeProgress$State"), (.object "com/example/gather_solvers/gathersolvers/engine/InvokeProgress$State"), (.object "com/example/gather_solvers/gathersolvers/engine/InvokeProgress$State"), (.object "com/example/gather_solvers/gathersolvers/engine/InvokeProgress$State"), (.object "com/example/gather_solvers/gathersolvers/engine/InvokeProgress$State"), (.object "com/example/gather_solvers/gathersolvers/engine/InvokeProgress$State"), (.array (.object "com/example/gather_solvers/gathersolvers/engine/InvokeProgress$State"))]
  resolved := Array.replicate 71 none
  statics := some 0 }

def pool7 : Array CpInfo := pool [(1, u "java/lang/Cloneable"), (0, .class_ 1), (0, u "java/lang/Object"), (0, .class_ 3)] 3

/-- java/lang/Cloneable -/
def k7 : Class := { plain "java/lang/Cloneable" (some 0) with
  accessFlags := 1537
  interfaces := #[]
  cf := some (fileOf pool7 2 #[] #[] 1537 4 #[] #[])
  fields := #[]
  methods := #[]
  instanceTypes := #[]
  staticTypes := #[]
  resolved := Array.replicate 8 none
  statics := none }

/-- the primitive byte -/
def k8 : Class := { plain "byte" none with kind := .primitive 'B', accessFlags := 0x411 }
/-- [B -/
def k9 : Class := { plain "[B" (some 0) with kind := .array 8 .byte, interfaces := #[7, 4], accessFlags := 1041 }

/-- the primitive int -/
def k10 : Class := { plain "int" none with kind := .primitive 'I', accessFlags := 0x411 }
/-- [I -/
def k11 : Class := { plain "[I" (some 0) with kind := .array 10 .int, interfaces := #[7, 4], accessFlags := 1041 }

def heap : Heap := #[{ cls := 6, slots := #[.ref 1, .ref 6, .ref 5, .ref 2, .ref 3, .ref 4, .null], vm := .statics 6 },
  { cls := 6, slots := #[.null, .int 0, .int 0], vm := .none },
  { cls := 6, slots := #[.null, .int 3, .int 0], vm := .none },
  { cls := 6, slots := #[.null, .int 4, .int 0], vm := .none },
  { cls := 6, slots := #[.null, .int 5, .int 0], vm := .none },
  { cls := 6, slots := #[.null, .int 2, .int 0], vm := .none },
  { cls := 6, slots := #[.null, .int 1, .int 0], vm := .none }]
def classes : Array Class := #[k0, k1, k2, k3, k4, k5, k6, k7, k8, k9, k10, k11]
def interned : List (Array UInt16 × Addr) := []
def slotsUsed : Nat := 25
def theMethod : MethodId := ⟨1, 2⟩
def args0 : Array Value := #[.int 5]
def aboutOver (below : List Frame) : State where
  vm := { classes := classes, interned := interned.toArray }
  heap := heap
  slotsUsed := slotsUsed
  threads := #[{ frames := .invoking theMethod args0 :: below }]
def below0 : List Frame := [.native { method := ⟨0, 0⟩, args := #[] }]
def about1 : State := aboutOver below0
def p0 : Program := .bare "" "" ""
def e0 : Env := launch0.env 0 0 0
theorem w_frames : about1.frames = Frame.invoking theMethod args0 :: below0 := rfl
set_option maxRecDepth 65536 in
theorem w_args : argsFit about1.vm theMethod args0 = true := by decide +kernel
set_option maxRecDepth 65536 in
theorem w_heap : heapFits about1 = true := by decide +kernel
set_option maxRecDepth 65536 in
theorem w_runnable : about1.curStatus? = some .runnable := by decide +kernel
set_option maxRecDepth 65536 in
theorem w_alone : about1.alone = true := by decide +kernel
set_option maxRecDepth 65536 in
theorem w_named : about1.methodNamed? x = some theMethod := by decide +kernel
set_option maxRecDepth 65536 in
theorem w_hears : about1.hears theMethod below0 = true := by decide +kernel
set_option maxRecDepth 65536 in
theorem w_ripe : about1.ripe theMethod args0 below0 = true := by decide +kernel
theorem w_running : about1.status = .running := rfl
set_option maxRecDepth 65536 in
theorem w_room : about1.hasRoom e0.platform room_1 = true :=
  launch0.hasRoom_least _ room_1 (by decide +kernel) (by decide +kernel) (by decide +kernel) (by decide +kernel) (by decide +kernel) (by decide +kernel)
theorem allAtoms_all (ts : List Jvm.Cond) (a : Array Jvm.Value) (st : Jvm.State) : (allAtoms ts).before a st = ts.all (fun c => c.before a st) := by
  induction ts with
  | nil => rfl
  | cons c t ih =>
    show (Jvm.Cond.and c (allAtoms t)).before a st = _
    rw [Jvm.Cond.before_and, ih, List.all_cons]
def words1 : List Jvm.Cond := Jvm.Cond.code x code maxLocals ret :: tables_1
/-- a 'code' word, met by the world's own term for the bytes: nothing is compared byte by byte -/
theorem code_word {y : MethodName} {bytes : ByteArray} {mx : Nat} {rt : Option FieldType} {a : Array Value} {s : State} {m : MethodId} {meth : Method} {c : Code} (h1 : s.methodNamed? y = some m) (h2 : s.vm.method? m = some meth) (h3 : meth.code = some c) (h4 : c.code = bytes)
    (h5 : (c.maxLocals == mx && c.exceptionTable.isEmpty && decide (c.maxStack ≤ mostOperands) && decide (meth.sig.returnType = rt) && !meth.locks && decide (parseMethodDescriptor y.desc = some meth.sig)) = true) : (Jvm.Cond.code y bytes mx rt).before a s = true := by
  simp only [Bool.and_eq_true, beq_iff_eq, Bool.not_eq_true', decide_eq_true_eq] at h5
  obtain ⟨⟨⟨⟨⟨g1, g2⟩, g3⟩, g4⟩, g5⟩, g6⟩ := h5
  simp [Cond.before, Cond.holds, Cond.value, h1, h2, h3, h4, g1, g2, g3, g4, g5, g6]
def isCode : Jvm.Cond → Bool
  | .code _ _ _ _ => true
  | _ => false
theorem all_split {L : List Jvm.Cond} {P : Jvm.Cond → Bool} (h1 : L.all (fun c => isCode c || P c) = true) (h2 : ∀ c ∈ L.filter isCode, P c = true) : L.all P = true := by
  refine List.all_eq_true.mpr fun c hc => ?_
  have h := List.all_eq_true.mp h1 c hc
  rcases Bool.eq_false_or_eq_true (isCode c) with hi | hi
  · exact h2 c (List.mem_filter.mpr ⟨hc, hi⟩)
  · simpa [hi] using h
set_option maxRecDepth 65536 in
theorem w_c0 : (Jvm.Cond.code x code maxLocals ret).before args0 about1 = true := code_word (m := ⟨1, 2⟩) (meth := k1m2) (c := k1c2) (by decide +kernel) rfl rfl rfl (by decide +kernel)
set_option maxRecDepth 65536 in
theorem w_c1 : (Jvm.Cond.code ({ cls := "com/example/gather_solvers/gathersolvers/engine/StateEndedPinLaw", name := "pick", desc := "(I)Lcom/example/gather_solvers/gathersolvers/engine/InvokeProgress$State;" } : Jvm.MethodName) method_2_code (1 : Nat) (Option.some (Jvm.ClassFile.FieldType.object "com/example/gather_solvers/gathersolvers/engine/InvokeProgress$State"))).before args0 about1 = true := code_word (m := ⟨1, 1⟩) (meth := k1m1) (c := k1c1) (by decide +kernel) rfl rfl rfl (by decide +kernel)
set_option maxRecDepth 65536 in
theorem w_c2 : (Jvm.Cond.code ({ cls := "com/example/gather_solvers/gathersolvers/engine/InvokeProgress$State", name := "ended", desc := "()Z" } : Jvm.MethodName) prog_19_method_4_code (1 : Nat) (Option.some Jvm.ClassFile.FieldType.boolean)).before args0 about1 = true := code_word (m := ⟨6, 0⟩) (meth := k6m0) (c := k6c0) (by decide +kernel) rfl rfl rfl (by decide +kernel)
def codes1 : List Jvm.Cond := [Jvm.Cond.code x code maxLocals ret, Jvm.Cond.code ({ cls := "com/example/gather_solvers/gathersolvers/engine/StateEndedPinLaw", name := "pick", desc := "(I)Lcom/example/gather_solvers/gathersolvers/engine/InvokeProgress$State;" } : Jvm.MethodName) method_2_code (1 : Nat) (Option.some (Jvm.ClassFile.FieldType.object "com/example/gather_solvers/gathersolvers/engine/InvokeProgress$State")), Jvm.Cond.code ({ cls := "com/example/gather_solvers/gathersolvers/engine/InvokeProgress$State", name := "ended", desc := "()Z" } : Jvm.MethodName) prog_19_method_4_code (1 : Nat) (Option.some Jvm.ClassFile.FieldType.boolean)]
set_option maxRecDepth 65536 in
theorem codes_eq : words1.filter isCode = codes1 := rfl
theorem w_codes : ∀ c ∈ words1.filter isCode, c.before args0 about1 = true := by
  rw [codes_eq]
  intro c hc
  simp only [codes1, List.mem_cons, List.not_mem_nil, or_false] at hc
  rcases hc with rfl | rfl | rfl
  · exact w_c0
  · exact w_c1
  · exact w_c2
set_option maxRecDepth 65536 in
theorem w_t1 : (words1.take 24).all (fun c => isCode c || c.before args0 about1) = true := by decide +kernel
set_option maxRecDepth 65536 in
theorem w_t2 : (words1.drop 24).all (fun c => isCode c || c.before args0 about1) = true := by decide +kernel
theorem w_tables : (allAtoms (Jvm.Cond.code x code maxLocals ret :: tables_1)).before args0 about1 = true := by
  rw [allAtoms_all]
  show words1.all (fun c => c.before args0 about1) = true
  refine all_split ?_ w_codes
  rw [← List.take_append_drop 24 words1, List.all_append, w_t1, w_t2]
  rfl
set_option maxRecDepth 65536 in
theorem w_case : (Jvm.Cond.and given_1 narrow_1).before args0 about1 = true := by decide +kernel
theorem w_applies : (headSpec (Jvm.Cond.code x code maxLocals ret :: tables_1) room_1).applies x e0.platform about1 = true :=
  (Spec.applies_iff w_frames).mpr ⟨w_running, w_runnable, w_alone, w_named, w_hears, w_ripe, w_room, w_tables⟩
theorem atStart : AtStart classFile x code maxLocals ret World_1 tables_1 room_1 Calls_1 rest_1 Pre_1 launch0 p0 e0 about1 theMethod args0 below0 :=
  ⟨lists_1, trivial, launch0.admits_env _ _ _, launch0.least_env, fairChoices_fair.cas, fairChoices_fair.clock, w_frames, w_args, w_heap, w_applies, trivial, trivial, w_case⟩
end start1
theorem witness_1 : WitnessClaimed_1 := ⟨start1.p0, start1.e0, start1.about1, start1.theMethod, start1.args0, start1.below0, start1.atStart⟩
end Jvm.Pilot.@@N@@
